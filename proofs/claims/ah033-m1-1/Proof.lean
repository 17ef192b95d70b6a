import JvmDerived
import JvmDerived.Pilot.@@N@@Statement
import JvmDerived.Pilot.@@N@@Code
set_option linter.unusedVariables false
set_option linter.unusedSimpArgs false
@@BLOCK:NumsL.lean.txt@@

namespace Jvm.OwnKit
open Sem ClassFile Op Lib Jvm.Stand Jvm.Free Jvm.LawKit Jvm.RoadKit
section Own
variable {p : Program} {l : Launch} {e : Env} {R : Room} {s : State} {m : MethodId} {args : Array Value} {below : List Frame} {meth : Method} {c : Code} {T : State} {locs : List Loc} {cells slots : Nat} {Q : Option Value → Heap → List Loc → Prop} {C S : Nat}
/-- what a body owes from a state on -/
def Fin (p : Program) (e : Env) (below : List Frame) (s : State) (Q : Option Value → Heap → List Loc → Prop) (C S : Nat) (st : State) : Prop :=
  ∃ s₂ o, Steps p.tables e below st s₂ ∧ s₂.status = .running ∧ Ended s₂ below o ∧ ∃ v L, o = .returned v ∧ Q v s₂.heap L ∧ FrameEnd s o s₂ L C S
theorem Fin.step {st st' : State} (h : ∀ t, Steps p.tables e below st' t → Steps p.tables e below st t) (k : Fin p e below s Q C S st') : Fin p e below s Q C S st := by
  obtain ⟨s₂, o, h1, h2⟩ := k
  exact ⟨s₂, o, h _ h1, h2⟩
theorem Fin.ret (X : Stand p l e R s m args below meth c T locs cells slots) {v : Option Value} {g : JFrame} (hv : meth.sig.returnType = none → v = none) (hlocks : meth.locks = false)
    (hst : ∀ fs, (∀ (f : JFrame) (acts : List Action), f.method = m → f.locked = none → f.entered = [] → (doReturn e (T.setTop f) acts v).1 = T.setFrames fs) → Steps p.tables e below (T.setTop g) (T.setFrames fs))
    (hC : cells ≤ C) (hS : slots ≤ S) (q : Q v T.heap locs) : Fin p e below s Q C S (T.setTop g) := by
  obtain ⟨fs, hr, hrun, hended, hW, hsame⟩ := X.leave (v := v) hv hlocks
  exact ⟨_, _, hst fs hr, hrun, hended, _, _, rfl, q, ⟨_, rfl⟩, hW, hsame.mono hC hS⟩
theorem Fin.retI (X : Stand p l e R s m args below meth c T locs cells slots) (hx : p.tables.exec = Jvm.exec) {pc : Nat} {Ls : Array Slot} {z : Int32} {rest : List Value} (hret : meth.sig.returnType = some .int) (hlocks : meth.locks = false) (hd : decode c.code pc = .ok (.ireturn, 1))
    (hC : cells ≤ C) (hS : slots ≤ S) (q : Q (some (.int z)) T.heap locs) : Fin p e below s Q C S (T.setTop (mkF m pc Ls (.int z :: rest))) :=
  Fin.ret X (fun h => by rw [hret] at h; cases h) hlocks (fun fs hl => retOut X hx hret rfl (Or.inl ⟨rfl, Or.inl rfl, z, rfl⟩) hd hl) hC hS q
theorem Fin.retJ (X : Stand p l e R s m args below meth c T locs cells slots) (hx : p.tables.exec = Jvm.exec) {pc : Nat} {Ls : Array Slot} {z : Int64} {rest : List Value} (hret : meth.sig.returnType = some .long) (hlocks : meth.locks = false) (hd : decode c.code pc = .ok (.lreturn, 1))
    (hC : cells ≤ C) (hS : slots ≤ S) (q : Q (some (.long z)) T.heap locs) : Fin p e below s Q C S (T.setTop (mkF m pc Ls (.long z :: rest))) :=
  Fin.ret X (fun h => by rw [hret] at h; cases h) hlocks (fun fs hl => retOut X hx hret rfl (Or.inr (Or.inl ⟨rfl, rfl, z, rfl⟩)) hd hl) hC hS q
theorem Fin.retD (X : Stand p l e R s m args below meth c T locs cells slots) (hx : p.tables.exec = Jvm.exec) {pc : Nat} {Ls : Array Slot} {z : UInt64} {rest : List Value} (hret : meth.sig.returnType = some .double) (hlocks : meth.locks = false) (hd : decode c.code pc = .ok (.dreturn, 1))
    (hC : cells ≤ C) (hS : slots ≤ S) (q : Q (some (.double z)) T.heap locs) : Fin p e below s Q C S (T.setTop (mkF m pc Ls (.double z :: rest))) :=
  Fin.ret X (fun h => by rw [hret] at h; cases h) hlocks (fun fs hl => retOut X hx hret rfl (Or.inr (Or.inr (Or.inl ⟨rfl, rfl, z, rfl⟩))) hd hl) hC hS q
theorem Fin.retR (X : Stand p l e R s m args below meth c T locs cells slots) (hx : p.tables.exec = Jvm.exec) {pc : Nat} {Ls : Array Slot} {w : Value} {t : FieldType} {rest : List Value} (hret : meth.sig.returnType = some t) (ht : t.isReference = true) (hw : w.isRef = true) (hlocks : meth.locks = false) (hd : decode c.code pc = .ok (.areturn, 1))
    (hC : cells ≤ C) (hS : slots ≤ S) (q : Q (some w) T.heap locs) : Fin p e below s Q C S (T.setTop (mkF m pc Ls (w :: rest))) :=
  Fin.ret X (fun h => by rw [hret] at h; cases h) hlocks (fun fs hl => retOut X hx hret (by cases t <;> simp [FieldType.isReference] at ht <;> cases w <;> simp [Value.isRef] at hw <;> rfl) (Or.inr (Or.inr (Or.inr (Or.inr ⟨rfl, ht, hw⟩)))) hd hl) hC hS q
theorem Fin.retN (X : Stand p l e R s m args below meth c T locs cells slots) (hx : p.tables.exec = Jvm.exec) {pc : Nat} {Ls : Array Slot} {z : Int32} {t : FieldType} {rest : List Value} (hret : meth.sig.returnType = some t) (ht : t = .boolean ∨ t = .byte ∨ t = .char ∨ t = .short) (hlocks : meth.locks = false) (hd : decode c.code pc = .ok (.ireturn, 1))
    (hC : cells ≤ C) (hS : slots ≤ S) (q : Q (some (.int (nar t z))) T.heap locs) : Fin p e below s Q C S (T.setTop (mkF m pc Ls (.int z :: rest))) :=
  Fin.ret X (fun h => by rw [hret] at h; cases h) hlocks (fun fs hl => RoadKit.retN X hx hret ht hd hl) hC hS q
theorem Fin.retV (X : Stand p l e R s m args below meth c T locs cells slots) (hx : p.tables.exec = Jvm.exec) {pc : Nat} {Ls : Array Slot} (hret : meth.sig.returnType = none) (hlocks : meth.locks = false) (hd : decode c.code pc = .ok (.return_, 1))
    (hC : cells ≤ C) (hS : slots ≤ S) (q : Q none T.heap locs) : Fin p e below s Q C S (T.setTop (mkF m pc Ls [])) :=
  Fin.ret X (fun _ => rfl) hlocks (fun fs hl => X.returnOut hx hret hd hl) hC hS q
/-- the same where the walk may intern: the end's frame is ReturnedEndW -/
def FinW (p : Program) (e : Env) (below : List Frame) (s : State) (Q : Option Value → Heap → List Loc → Prop) (C S : Nat) (st : State) : Prop :=
  ∃ s₂ o, Steps p.tables e below st s₂ ∧ s₂.status = .running ∧ Ended s₂ below o ∧ ∃ v L, o = .returned v ∧ Q v s₂.heap L ∧ ReturnedEndW s o s₂ L C S
theorem FinW.step {st st' : State} (h : ∀ t, Steps p.tables e below st' t → Steps p.tables e below st t) (k : FinW p e below s Q C S st') : FinW p e below s Q C S st := by
  obtain ⟨s₂, o, h1, h2⟩ := k
  exact ⟨s₂, o, h _ h1, h2⟩
theorem FinW.ret {vm₁ : Vm} (X : Stand p l e R (s.setVm vm₁) m args below meth c T locs cells slots) {n : Nat} (hS : s.Since vm₁ n) (hn : n ≤ T.heap.size) {v : Option Value} {g : JFrame} (hv : meth.sig.returnType = none → v = none) (hlocks : meth.locks = false)
    (hst : ∀ fs, (∀ (f : JFrame) (acts : List Action), f.method = m → f.locked = none → f.entered = [] → (doReturn e (T.setTop f) acts v).1 = T.setFrames fs) → Steps p.tables e below (T.setTop g) (T.setFrames fs))
    (hC : cells ≤ C) (hS' : slots ≤ S) (q : Q v T.heap locs) : FinW p e below s Q C S (T.setTop g) := by
  obtain ⟨fs, hr, hrun, hended, hW⟩ := X.leaveW hS hn (v := v) hv hlocks
  exact ⟨_, _, hst fs hr, hrun, hended, _, _, rfl, q, hW.1, hW.2.1, hW.2.2.1, hW.2.2.2.mono hC hS'⟩
theorem FinW.retN {vm₁ : Vm} (X : Stand p l e R (s.setVm vm₁) m args below meth c T locs cells slots) {n : Nat} (hS : s.Since vm₁ n) (hn : n ≤ T.heap.size) (hx : p.tables.exec = Jvm.exec) {pc : Nat} {Ls : Array Slot} {z : Int32} {t : FieldType} {rest : List Value} (hret : meth.sig.returnType = some t) (ht : t = .boolean ∨ t = .byte ∨ t = .char ∨ t = .short) (hlocks : meth.locks = false) (hd : decode c.code pc = .ok (.ireturn, 1))
    (hC : cells ≤ C) (hS' : slots ≤ S) (q : Q (some (.int (nar t z))) T.heap locs) : FinW p e below s Q C S (T.setTop (mkF m pc Ls (.int z :: rest))) :=
  FinW.ret X hS hn (fun h => by rw [hret] at h; cases h) hlocks (fun fs hl => RoadKit.retN X hx hret ht hd hl) hC hS' q
theorem FinW.retR {vm₁ : Vm} (X : Stand p l e R (s.setVm vm₁) m args below meth c T locs cells slots) {n : Nat} (hS : s.Since vm₁ n) (hn : n ≤ T.heap.size) (hx : p.tables.exec = Jvm.exec) {pc : Nat} {Ls : Array Slot} {w : Value} {t : FieldType} {rest : List Value} (hret : meth.sig.returnType = some t) (ht : t.isReference = true) (hw : w.isRef = true) (hlocks : meth.locks = false) (hd : decode c.code pc = .ok (.areturn, 1))
    (hC : cells ≤ C) (hS' : slots ≤ S) (q : Q (some w) T.heap locs) : FinW p e below s Q C S (T.setTop (mkF m pc Ls (w :: rest))) :=
  FinW.ret X hS hn (fun h => by rw [hret] at h; cases h) hlocks (fun fs hl => retOut X hx hret (by cases t <;> simp [FieldType.isReference] at ht <;> cases w <;> simp [Value.isRef] at hw <;> rfl) (Or.inr (Or.inr (Or.inr (Or.inr ⟨rfl, ht, hw⟩)))) hd hl) hC hS' q
theorem Fld.cast {Z : State} {h : Heap} {a : Addr} {C n d : String} {v w : Value} (F : Fld Z h a C n d v) (e : v = w) : Fld Z h a C n d w := e ▸ F
theorem Sta_keep {Z : State} {h h' : Heap} {C n d : String} {v : Value} (F : Sta Z h C n d v) (K : Keep h h' []) : Sta Z h' C n d v := by
  obtain ⟨cf, i, k, f, st, cell, h1, h2, h3, h4, h5, r⟩ := F
  exact ⟨cf, i, k, f, st, cell, h1, h2, h3, h4, K.2.1 _ _ h5 nin0, r⟩
theorem Arr_keep {Z : State} {h h' : Heap} {a : Addr} {c : Cell} {ty : FieldType} (F : Arr Z h a c ty) (K : Keep h h' []) : Arr Z h' a c ty := ⟨K.2.1 _ _ F.1 nin0, F.2⟩
/-- the shifts without sign -/
def ushL (x : Int64) (k : Int32) : Int64 := (x.toUInt64 >>> (k &&& 0x3f).toInt64.toUInt64).toInt64
def ushI (x k : Int32) : Int32 := (x.toUInt32 >>> (k &&& 31).toUInt32).toInt32
theorem lcE {x y : Int64} (h : x = y) : lcmpW x y = 0 := by rw [lcW]; exact (lc_eq x y).mpr h
theorem lcNE {x y : Int64} (h : ¬ x = y) : ¬ lcmpW x y = 0 := fun q => h ((lc_eq x y).mp (by rw [← lcW]; exact q))
theorem lcL {x y : Int64} (h : x < y) : lcmpW x y < 0 := by rw [lcW]; exact (lc_lt x y).mpr h
theorem lcNL {x y : Int64} (h : ¬ x < y) : ¬ lcmpW x y < 0 := fun q => h ((lc_lt x y).mp (by rw [← lcW]; exact q))
theorem lcG {x y : Int64} (h : y < x) : 0 < lcmpW x y := by rw [lcW]; exact (lc_gt x y).mpr h
theorem lcNG {x y : Int64} (h : ¬ y < x) : ¬ 0 < lcmpW x y := fun q => h ((lc_gt x y).mp (by rw [← lcW]; exact q))
end Own
end Jvm.OwnKit
namespace Jvm.Pilot.@@N@@
open Jvm Jvm.ClassFile Sem Op Lib Jvm.Free Jvm.Stand Jvm.LawKit Jvm.RoadKit Jvm.OwnKit Bundle Jvm.Pilot.@@N@@.Jvm.D
def own_ch (b : Int32) : Int32 := (b &&& 255).toUInt32.toUInt16.toUInt32.toInt32
theorem own_cc (x : Int32) : (x.toUInt32.toUInt16.toUInt32.toInt32).toUInt32.toUInt16.toUInt32.toInt32 = x.toUInt32.toUInt16.toUInt32.toInt32 := by
  rw [UInt32.toUInt32_toInt32, UInt16.toUInt16_toUInt32]
theorem own_chn (b : Int32) : nar .char ((b &&& 255).toUInt32.toUInt16.toUInt32.toInt32) = own_ch b := own_cc _
theorem own_chm (b : Int32) : nar .char (own_ch b) = own_ch b := own_cc _
def own_vo (c : Int32) : Int32 := if ¬ c < 48 ∧ ¬ 57 < c then c - 48 else if ¬ c < 65 ∧ ¬ 90 < c then c - 65 + 10 else if c = 60 then 0 else -1
def own_al (i : Int32) : Int32 := if i < 10 then i + 48 else if i < 36 then i + 55 else 60
theorem own_37s (P : Int32 → Prop) (h : P 0 ∧ P 1 ∧ P 2 ∧ P 3 ∧ P 4 ∧ P 5 ∧ P 6 ∧ P 7 ∧ P 8 ∧ P 9 ∧ P 10 ∧ P 11 ∧ P 12 ∧ P 13 ∧ P 14 ∧ P 15 ∧ P 16 ∧ P 17 ∧ P 18 ∧ P 19 ∧ P 20 ∧ P 21 ∧ P 22 ∧ P 23 ∧ P 24 ∧ P 25 ∧ P 26 ∧ P 27 ∧ P 28 ∧ P 29 ∧ P 30 ∧ P 31 ∧ P 32 ∧ P 33 ∧ P 34 ∧ P 35 ∧ P 36) (x : Int32) (hx : 0 ≤ x.toInt ∧ x.toInt < 37) : P x := by
  have e : x.toInt = 0 ∨ x.toInt = 1 ∨ x.toInt = 2 ∨ x.toInt = 3 ∨ x.toInt = 4 ∨ x.toInt = 5 ∨ x.toInt = 6 ∨ x.toInt = 7 ∨ x.toInt = 8 ∨ x.toInt = 9 ∨ x.toInt = 10 ∨ x.toInt = 11 ∨ x.toInt = 12 ∨ x.toInt = 13 ∨ x.toInt = 14 ∨ x.toInt = 15 ∨ x.toInt = 16 ∨ x.toInt = 17 ∨ x.toInt = 18 ∨ x.toInt = 19 ∨ x.toInt = 20 ∨ x.toInt = 21 ∨ x.toInt = 22 ∨ x.toInt = 23 ∨ x.toInt = 24 ∨ x.toInt = 25 ∨ x.toInt = 26 ∨ x.toInt = 27 ∨ x.toInt = 28 ∨ x.toInt = 29 ∨ x.toInt = 30 ∨ x.toInt = 31 ∨ x.toInt = 32 ∨ x.toInt = 33 ∨ x.toInt = 34 ∨ x.toInt = 35 ∨ x.toInt = 36 := by omega
  have back : ∀ k : Int32, x.toInt = k.toInt → x = k := fun k e => Int32.toInt_inj.mp e
  obtain ⟨p0, p1, p2, p3, p4, p5, p6, p7, p8, p9, p10, p11, p12, p13, p14, p15, p16, p17, p18, p19, p20, p21, p22, p23, p24, p25, p26, p27, p28, p29, p30, p31, p32, p33, p34, p35, p36⟩ := h
  rcases e with e | e | e | e | e | e | e | e | e | e | e | e | e | e | e | e | e | e | e | e | e | e | e | e | e | e | e | e | e | e | e | e | e | e | e | e | e
  · rw [back 0 e]; exact p0
  · rw [back 1 e]; exact p1
  · rw [back 2 e]; exact p2
  · rw [back 3 e]; exact p3
  · rw [back 4 e]; exact p4
  · rw [back 5 e]; exact p5
  · rw [back 6 e]; exact p6
  · rw [back 7 e]; exact p7
  · rw [back 8 e]; exact p8
  · rw [back 9 e]; exact p9
  · rw [back 10 e]; exact p10
  · rw [back 11 e]; exact p11
  · rw [back 12 e]; exact p12
  · rw [back 13 e]; exact p13
  · rw [back 14 e]; exact p14
  · rw [back 15 e]; exact p15
  · rw [back 16 e]; exact p16
  · rw [back 17 e]; exact p17
  · rw [back 18 e]; exact p18
  · rw [back 19 e]; exact p19
  · rw [back 20 e]; exact p20
  · rw [back 21 e]; exact p21
  · rw [back 22 e]; exact p22
  · rw [back 23 e]; exact p23
  · rw [back 24 e]; exact p24
  · rw [back 25 e]; exact p25
  · rw [back 26 e]; exact p26
  · rw [back 27 e]; exact p27
  · rw [back 28 e]; exact p28
  · rw [back 29 e]; exact p29
  · rw [back 30 e]; exact p30
  · rw [back 31 e]; exact p31
  · rw [back 32 e]; exact p32
  · rw [back 33 e]; exact p33
  · rw [back 34 e]; exact p34
  · rw [back 35 e]; exact p35
  · rw [back 36 e]; exact p36
theorem own_get {x : Int32} (hx : 0 ≤ x.toInt ∧ x.toInt < 37) : ([(.int (48 : Int32)), (.int (49 : Int32)), (.int (50 : Int32)), (.int (51 : Int32)), (.int (52 : Int32)), (.int (53 : Int32)), (.int (54 : Int32)), (.int (55 : Int32)), (.int (56 : Int32)), (.int (57 : Int32)), (.int (65 : Int32)), (.int (66 : Int32)), (.int (67 : Int32)), (.int (68 : Int32)), (.int (69 : Int32)), (.int (70 : Int32)), (.int (71 : Int32)), (.int (72 : Int32)), (.int (73 : Int32)), (.int (74 : Int32)), (.int (75 : Int32)), (.int (76 : Int32)), (.int (77 : Int32)), (.int (78 : Int32)), (.int (79 : Int32)), (.int (80 : Int32)), (.int (81 : Int32)), (.int (82 : Int32)), (.int (83 : Int32)), (.int (84 : Int32)), (.int (85 : Int32)), (.int (86 : Int32)), (.int (87 : Int32)), (.int (88 : Int32)), (.int (89 : Int32)), (.int (90 : Int32)), (.int (60 : Int32))] : List Value).getD x.toNatClampNeg (.int (0 : Int32)) = .int (own_al x) :=
  own_37s (fun x => ([(.int (48 : Int32)), (.int (49 : Int32)), (.int (50 : Int32)), (.int (51 : Int32)), (.int (52 : Int32)), (.int (53 : Int32)), (.int (54 : Int32)), (.int (55 : Int32)), (.int (56 : Int32)), (.int (57 : Int32)), (.int (65 : Int32)), (.int (66 : Int32)), (.int (67 : Int32)), (.int (68 : Int32)), (.int (69 : Int32)), (.int (70 : Int32)), (.int (71 : Int32)), (.int (72 : Int32)), (.int (73 : Int32)), (.int (74 : Int32)), (.int (75 : Int32)), (.int (76 : Int32)), (.int (77 : Int32)), (.int (78 : Int32)), (.int (79 : Int32)), (.int (80 : Int32)), (.int (81 : Int32)), (.int (82 : Int32)), (.int (83 : Int32)), (.int (84 : Int32)), (.int (85 : Int32)), (.int (86 : Int32)), (.int (87 : Int32)), (.int (88 : Int32)), (.int (89 : Int32)), (.int (90 : Int32)), (.int (60 : Int32))] : List Value).getD x.toNatClampNeg (.int (0 : Int32)) = .int (own_al x)) ⟨rfl, rfl, rfl, rfl, rfl, rfl, rfl, rfl, rfl, rfl, rfl, rfl, rfl, rfl, rfl, rfl, rfl, rfl, rfl, rfl, rfl, rfl, rfl, rfl, rfl, rfl, rfl, rfl, rfl, rfl, rfl, rfl, rfl, rfl, rfl, rfl, rfl⟩ x hx
theorem own_alc {x : Int32} (hx : 0 ≤ x.toInt ∧ x.toInt < 37) : own_ch (own_al x) = own_al x := own_37s (fun x => own_ch (own_al x) = own_al x) (by decide) x hx
theorem own_in {x : Int32} (hx : 0 ≤ x.toInt ∧ x.toInt < 37) : ¬ x < 0 ∧ x < 37 := by
  rw [Int32.lt_iff_toInt_lt, Int32.lt_iff_toInt_lt]
  show ¬ _ < (0 : Int) ∧ _ < (37 : Int)
  omega
theorem own_37 (x : Int32) : 0 ≤ ((x &&& 2147483647) % 37).toInt ∧ ((x &&& 2147483647) % 37).toInt < 37 := by
  have h : (x &&& 2147483647).toInt = x.toInt % 2 ^ 31 := Jvm.Kit.i32_mask x 2147483647 (k := 31) (by decide) (by decide)
  have h2 : ((x &&& 2147483647) % 37).toInt = (x &&& 2147483647).toInt % 37 := Jvm.Kit.i32_rem_nonneg (y := 37) (by omega)
  omega
theorem own_b1 {x : Int32} (hx : 0 ≤ x.toInt ∧ x.toInt < 37) (h : x = 36) : own_vo (own_ch (own_al x)) = 0 := by rw [h]; decide
theorem own_b0 {x : Int32} (hx : 0 ≤ x.toInt ∧ x.toInt < 37) (h : ¬ x = 36) : own_vo (own_ch (own_al x)) = x :=
  (own_37s (fun x => x = 36 ∨ own_vo (own_ch (own_al x)) = x) ⟨by decide, by decide, by decide, by decide, by decide, by decide, by decide, by decide, by decide, by decide, by decide, by decide, by decide, by decide, by decide, by decide, by decide, by decide, by decide, by decide, by decide, by decide, by decide, by decide, by decide, by decide, by decide, by decide, by decide, by decide, by decide, by decide, by decide, by decide, by decide, by decide, by decide⟩ x hx).resolve_left h
theorem own_c16 (x : Int32) : 0 ≤ ((x &&& 65535).toUInt32.toUInt16.toUInt32.toInt32).toInt ∧ ((x &&& 65535).toUInt32.toUInt16.toUInt32.toInt32).toInt < 65536 := by
  have h : ∀ u : UInt16, (u.toUInt32.toInt32).toInt = u.toNat := fun u => by
    have hu := u.toNat_lt
    have hc := BitVec.toInt_eq_toNat_cond u.toUInt32.toInt32.toBitVec
    have e : u.toUInt32.toInt32.toBitVec.toNat = u.toNat := by simp
    have ht : u.toUInt32.toInt32.toBitVec.toInt = u.toUInt32.toInt32.toInt := rfl
    rw [e, ht] at hc
    rw [hc, if_pos (by omega)]
  rw [h]
  have := (x &&& 65535).toUInt32.toUInt16.toNat_lt
  omega
theorem own_cls (c : Int32) (hc : 0 ≤ c.toInt ∧ c.toInt < 65536) : own_vo c = -1 ∨ (own_vo c = 0 ∧ c = 60) ∨ (0 ≤ (own_vo c).toInt ∧ (own_vo c).toInt < 36 ∧ c = own_al (own_vo c)) := by
  by_cases h1 : ¬ c < 48 ∧ ¬ 57 < c
  · refine Or.inr (Or.inr ?_)
    rw [own_vo, if_pos h1]
    rw [Int32.lt_iff_toInt_lt, Int32.lt_iff_toInt_lt] at h1
    have h1' : ¬ c.toInt < 48 ∧ ¬ 57 < c.toInt := h1
    have e : (c - 48).toInt = c.toInt - 48 := Jvm.Kit.i32_sub (q := 48) (by show _ ≤ c.toInt - 48; omega) (by show c.toInt - 48 < _; omega)
    refine ⟨by omega, by omega, ?_⟩
    rw [own_al, if_pos (by rw [Int32.lt_iff_toInt_lt]; show _ < (10 : Int); omega), Int32.sub_add_cancel]
  · by_cases h2 : ¬ c < 65 ∧ ¬ 90 < c
    · refine Or.inr (Or.inr ?_)
      rw [own_vo, if_neg h1, if_pos h2]
      rw [Int32.lt_iff_toInt_lt, Int32.lt_iff_toInt_lt] at h2
      have h2' : ¬ c.toInt < 65 ∧ ¬ 90 < c.toInt := h2
      have e : (c - 65).toInt = c.toInt - 65 := Jvm.Kit.i32_sub (q := 65) (by show _ ≤ c.toInt - 65; omega) (by show c.toInt - 65 < _; omega)
      have e2 : (c - 65 + 10).toInt = c.toInt - 65 + 10 := by rw [Jvm.Kit.i32_add (q := 10) (by show _ ≤ (c - 65).toInt + 10; omega) (by show (c - 65).toInt + 10 < _; omega), e]; rfl
      refine ⟨by omega, by omega, ?_⟩
      rw [own_al, if_neg (by rw [Int32.lt_iff_toInt_lt]; show ¬ _ < (10 : Int); omega), if_pos (by rw [Int32.lt_iff_toInt_lt]; show _ < (36 : Int); omega), Int32.add_assoc, show ((10 : Int32) + 55) = 65 from rfl, Int32.sub_add_cancel]
    · by_cases h3 : c = 60
      · refine Or.inr (Or.inl ⟨?_, h3⟩)
        rw [own_vo, if_neg h1, if_neg h2, if_pos h3]
      · refine Or.inl ?_
        rw [own_vo, if_neg h1, if_neg h2, if_neg h3]
theorem own_nn {r : Int32} {P : Prop} (h : 0 ≤ r.toInt ∧ r.toInt < 36 ∧ P) : ¬ r < 0 := by rw [Int32.lt_iff_toInt_lt]; show ¬ _ < (0 : Int); omega
theorem own_n35 {r : Int32} {P : Prop} (h : 0 ≤ r.toInt ∧ r.toInt < 36 ∧ P) : ¬ 35 < r := by rw [Int32.lt_iff_toInt_lt]; show ¬ (35 : Int) < _; omega
theorem own_same {r c : Int32} (h : 0 ≤ r.toInt ∧ r.toInt < 36 ∧ c = own_al r) : c = own_ch (own_al r) := by rw [own_alc ⟨h.1, by omega⟩]; exact h.2.2

theorem d6_0 : decode jdk_41_method_11_code 0 = .ok (.iload_n 0, 1) := by decide +kernel
theorem d6_1 : decode jdk_41_method_11_code 1 = .ok (.ifCond .lt 8, 3) := by decide +kernel
theorem d6_4 : decode jdk_41_method_11_code 4 = .ok (.iload_n 0, 1) := by decide +kernel
theorem d6_5 : decode jdk_41_method_11_code 5 = .ok (.iload_n 1, 1) := by decide +kernel
theorem d6_6 : decode jdk_41_method_11_code 6 = .ok (.if_icmp .lt 10, 3) := by decide +kernel
theorem d6_9 : decode jdk_41_method_11_code 9 = .ok (.aload_n 2, 1) := by decide +kernel
theorem d6_10 : decode jdk_41_method_11_code 10 = .ok (.iload_n 0, 1) := by decide +kernel
theorem d6_11 : decode jdk_41_method_11_code 11 = .ok (.iload_n 1, 1) := by decide +kernel
theorem d6_12 : decode jdk_41_method_11_code 12 = .ok (.invokestatic 95, 3) := by decide +kernel
theorem d6_15 : decode jdk_41_method_11_code 15 = .ok (.athrow, 1) := by decide +kernel
theorem d6_16 : decode jdk_41_method_11_code 16 = .ok (.iload_n 0, 1) := by decide +kernel
theorem d6_17 : decode jdk_41_method_11_code 17 = .ok (.ireturn, 1) := by decide +kernel
theorem pn_6 : plainName "jdk/internal/util/Preconditions" = true := by first | (simp [plainName, overriddenIn]; done) | decide +kernel
theorem ef_rmk0 (m : MethodId) (x0 : Int32) (x1 : Int32) : entryFrame m #[(.int x0), (.int x1), .null] 3 = mkF m 0 #[.val (.int x0), .val (.int x1), .val .null] [] := by first | (simp [entryFrame, mkF, argsToLocals, Value.category]; done) | rfl
def Qk0 (Z : State) (pj : Int32) (pn : Int32) (h0 : Heap) (n0 : Nat) (v : Option Value) (h : Heap) (L : List Loc) : Prop := v = some (.int pj) ∧ Fr n0 L ∧ h = h0
set_option maxRecDepth 65536 in
set_option maxHeartbeats 40000000 in
theorem rmk0 (l : Launch) (Z : State) (a0 : Array Value) (hw : ∀ d ∈ tables_1, d.before a0 Z = true) (ws : List Jvm.Cond) (pj : Int32) (pn : Int32) (h0 : Heap) (n0 : Nat) (Z0 : n0 ≤ h0.size) (hj : ¬ pj < 0 ∧ pj < pn) :
    MetFree l (⟨"jdk/internal/util/Preconditions", "checkIndex", "(IILjava/util/function/BiFunction;)I"⟩ : MethodName) (head1 (Jvm.Cond.code (⟨"jdk/internal/util/Preconditions", "checkIndex", "(IILjava/util/function/BiFunction;)I"⟩ : MethodName) jdk_41_method_11_code 3 (some .int) :: ws) ({ frames := 0, cells := 0, slots := 0, locals := 0 } : Room)) (fun a U => a = #[(.int pj), (.int pn), .null] ∧ Z.Warmed39 U.vm ∧ U.heap = h0) (fun _ _ _ _ _ => True) (fun _ U o U' => ∃ v L, o = .returned v ∧ Qk0 Z pj pn h0 n0 v U'.heap L ∧ FrameEnd U o U' L ({ frames := 0, cells := 0, slots := 0, locals := 0 } : Room).cells ({ frames := 0, cells := 0, slots := 0, locals := 0 } : Room).slots) := by
  refine MetFree.of_bodySF (plainFor_of_name pn_6) hisR ?_
  intro p e s m args below meth c s₁ Bd hml0 hP hK
  obtain ⟨rfl, hZ, hh⟩ := hP
  have hx := Bd.exec
  have hby := Bd.bytes
  have hlk := BodyLoose.notSynchronized Bd
  have hret := Bd.returns
  have hml : c.maxLocals = 3 := hml0
  have hown : s.vm.findClass "jdk/internal/util/Preconditions" = some m.cls := findClass_of_methodNamed Bd.named
  have hnm := (name_of_methodNamed Bd.named Bd.method).1
  have X0 : Stand p l e ({ frames := 0, cells := 0, slots := 0, locals := 0 } : Room) s m #[(.int pj), (.int pn), .null] below meth c s₁ [] 0 0 := Stand.of_body Bd
  have e0 : s₁.heap = h0 := by rw [← hh, Bd.state]; rfl
  have N0 := Fr.nil n0
  have K0 : Keep h0 h0 [] := Keep.refl h0 _
  refine Fin.step (Q := fun v h L => Qk0 Z pj pn h0 n0 v h L) (st' := s₁.setTop (mkF m 0 #[.val (.int pj), .val (.int pn), .val .null] [])) (fun t k => castTop (ef_rmk0 m pj pn) k) ?_
  show Fin p e below s _ _ _ (s₁.setTop (mkF m 0 #[.val (.int pj), .val (.int pn), .val .null] []))
  refine Fin.step (fun _ => XS.iloadN X0.here hx rfl (hb hby d6_0) rfl) ?_
  show Fin p e below s _ _ _ (s₁.setTop (mkF m 1 #[.val (.int pj), .val (.int pn), .val .null] [(.int pj)]))
  refine Fin.step (fun _ => XS.ifNo X0.here hx rfl (hb hby d6_1) rfl ((if0 _ _).trans (flt (hj.1 : ¬ (pj < (0 : Int32)))).1)) ?_
  show Fin p e below s _ _ _ (s₁.setTop (mkF m 4 #[.val (.int pj), .val (.int pn), .val .null] []))
  refine Fin.step (fun _ => XS.iloadN X0.here hx rfl (hb hby d6_4) rfl) ?_
  show Fin p e below s _ _ _ (s₁.setTop (mkF m 5 #[.val (.int pj), .val (.int pn), .val .null] [(.int pj)]))
  refine Fin.step (fun _ => XS.iloadN X0.here hx rfl (hb hby d6_5) rfl) ?_
  show Fin p e below s _ _ _ (s₁.setTop (mkF m 6 #[.val (.int pj), .val (.int pn), .val .null] [(.int pn), (.int pj)]))
  refine Fin.step (fun _ => XS.icmpYes X0.here hx rfl (pc0 := 6) (pc' := 16) rfl (hb hby d6_6) rfl (tlt (hj.2 : (pj < pn))).1 (by decide) (by decide)) ?_
  show Fin p e below s _ _ _ (s₁.setTop (mkF m 16 #[.val (.int pj), .val (.int pn), .val .null] []))
  refine Fin.step (fun _ => XS.iloadN X0.here hx rfl (hb hby d6_16) rfl) ?_
  show Fin p e below s _ _ _ (s₁.setTop (mkF m 17 #[.val (.int pj), .val (.int pn), .val .null] [(.int pj)]))
  refine Fin.retI X0 hx hret hlk (hb hby d6_17) (by decide) (by decide) ?_
  show Qk0 Z pj pn h0 n0 _ s₁.heap _
  rw [e0]
  exact ⟨rfl, N0, rfl⟩
theorem ef_rmk1 (m : MethodId) (x0 : Int32) (x1 : Int32) (x2 : Addr) : entryFrame m #[(.int x0), (.int x1), (.ref x2)] 3 = mkF m 0 #[.val (.int x0), .val (.int x1), .val (.ref x2)] [] := by first | (simp [entryFrame, mkF, argsToLocals, Value.category]; done) | rfl
def Qk1 (Z : State) (pj : Int32) (pn : Int32) (a3 : Addr) (h0 : Heap) (n0 : Nat) (v : Option Value) (h : Heap) (L : List Loc) : Prop := v = some (.int pj) ∧ Fr n0 L ∧ h = h0
set_option maxRecDepth 65536 in
set_option maxHeartbeats 40000000 in
theorem rmk1 (l : Launch) (Z : State) (a0 : Array Value) (hw : ∀ d ∈ tables_1, d.before a0 Z = true) (ws : List Jvm.Cond) (pj : Int32) (pn : Int32) (a3 : Addr) (h0 : Heap) (n0 : Nat) (Z0 : n0 ≤ h0.size) (hj : ¬ pj < 0 ∧ pj < pn) :
    MetFree l (⟨"jdk/internal/util/Preconditions", "checkIndex", "(IILjava/util/function/BiFunction;)I"⟩ : MethodName) (head1 (Jvm.Cond.code (⟨"jdk/internal/util/Preconditions", "checkIndex", "(IILjava/util/function/BiFunction;)I"⟩ : MethodName) jdk_41_method_11_code 3 (some .int) :: ws) ({ frames := 0, cells := 0, slots := 0, locals := 0 } : Room)) (fun a U => a = #[(.int pj), (.int pn), (.ref a3)] ∧ Z.Warmed39 U.vm ∧ U.heap = h0) (fun _ _ _ _ _ => True) (fun _ U o U' => ∃ v L, o = .returned v ∧ Qk1 Z pj pn a3 h0 n0 v U'.heap L ∧ FrameEnd U o U' L ({ frames := 0, cells := 0, slots := 0, locals := 0 } : Room).cells ({ frames := 0, cells := 0, slots := 0, locals := 0 } : Room).slots) := by
  refine MetFree.of_bodySF (plainFor_of_name pn_6) hisR ?_
  intro p e s m args below meth c s₁ Bd hml0 hP hK
  obtain ⟨rfl, hZ, hh⟩ := hP
  have hx := Bd.exec
  have hby := Bd.bytes
  have hlk := BodyLoose.notSynchronized Bd
  have hret := Bd.returns
  have hml : c.maxLocals = 3 := hml0
  have hown : s.vm.findClass "jdk/internal/util/Preconditions" = some m.cls := findClass_of_methodNamed Bd.named
  have hnm := (name_of_methodNamed Bd.named Bd.method).1
  have X0 : Stand p l e ({ frames := 0, cells := 0, slots := 0, locals := 0 } : Room) s m #[(.int pj), (.int pn), (.ref a3)] below meth c s₁ [] 0 0 := Stand.of_body Bd
  have e0 : s₁.heap = h0 := by rw [← hh, Bd.state]; rfl
  have N0 := Fr.nil n0
  have K0 : Keep h0 h0 [] := Keep.refl h0 _
  refine Fin.step (Q := fun v h L => Qk1 Z pj pn a3 h0 n0 v h L) (st' := s₁.setTop (mkF m 0 #[.val (.int pj), .val (.int pn), .val (.ref a3)] [])) (fun t k => castTop (ef_rmk1 m pj pn a3) k) ?_
  show Fin p e below s _ _ _ (s₁.setTop (mkF m 0 #[.val (.int pj), .val (.int pn), .val (.ref a3)] []))
  refine Fin.step (fun _ => XS.iloadN X0.here hx rfl (hb hby d6_0) rfl) ?_
  show Fin p e below s _ _ _ (s₁.setTop (mkF m 1 #[.val (.int pj), .val (.int pn), .val (.ref a3)] [(.int pj)]))
  refine Fin.step (fun _ => XS.ifNo X0.here hx rfl (hb hby d6_1) rfl ((if0 _ _).trans (flt (hj.1 : ¬ (pj < (0 : Int32)))).1)) ?_
  show Fin p e below s _ _ _ (s₁.setTop (mkF m 4 #[.val (.int pj), .val (.int pn), .val (.ref a3)] []))
  refine Fin.step (fun _ => XS.iloadN X0.here hx rfl (hb hby d6_4) rfl) ?_
  show Fin p e below s _ _ _ (s₁.setTop (mkF m 5 #[.val (.int pj), .val (.int pn), .val (.ref a3)] [(.int pj)]))
  refine Fin.step (fun _ => XS.iloadN X0.here hx rfl (hb hby d6_5) rfl) ?_
  show Fin p e below s _ _ _ (s₁.setTop (mkF m 6 #[.val (.int pj), .val (.int pn), .val (.ref a3)] [(.int pn), (.int pj)]))
  refine Fin.step (fun _ => XS.icmpYes X0.here hx rfl (pc0 := 6) (pc' := 16) rfl (hb hby d6_6) rfl (tlt (hj.2 : (pj < pn))).1 (by decide) (by decide)) ?_
  show Fin p e below s _ _ _ (s₁.setTop (mkF m 16 #[.val (.int pj), .val (.int pn), .val (.ref a3)] []))
  refine Fin.step (fun _ => XS.iloadN X0.here hx rfl (hb hby d6_16) rfl) ?_
  show Fin p e below s _ _ _ (s₁.setTop (mkF m 17 #[.val (.int pj), .val (.int pn), .val (.ref a3)] [(.int pj)]))
  refine Fin.retI X0 hx hret hlk (hb hby d6_17) (by decide) (by decide) ?_
  show Qk1 Z pj pn a3 h0 n0 _ s₁.heap _
  rw [e0]
  exact ⟨rfl, N0, rfl⟩
theorem d5_0 : decode jdk_42_method_155_code 0 = .ok (.iload_n 0, 1) := by decide +kernel
theorem d5_1 : decode jdk_42_method_155_code 1 = .ok (.iload_n 1, 1) := by decide +kernel
theorem d5_2 : decode jdk_42_method_155_code 2 = .ok (.getstatic 1053, 3) := by decide +kernel
theorem d5_5 : decode jdk_42_method_155_code 5 = .ok (.invokestatic 1059, 3) := by decide +kernel
theorem d5_8 : decode jdk_42_method_155_code 8 = .ok (.pop, 1) := by decide +kernel
theorem d5_9 : decode jdk_42_method_155_code 9 = .ok (.return_, 1) := by decide +kernel
theorem pn_5 : plainName "java/lang/String" = true := by first | (simp [plainName, overriddenIn]; done) | decide +kernel
theorem pd_0 : parseMethodDescriptor "(IILjava/util/function/BiFunction;)I" = some ⟨[.int, .int, (.object "java/util/function/BiFunction")], some .int⟩ := by decide +kernel
theorem ef_rmc0 (m : MethodId) (x0 : Int32) (x1 : Int32) : entryFrame m #[(.int x0), (.int x1)] 2 = mkF m 0 #[.val (.int x0), .val (.int x1)] [] := by first | (simp [entryFrame, mkF, argsToLocals, Value.category]; done) | rfl
def Qc0 (Z : State) (pj : Int32) (pn : Int32) (h0 : Heap) (n0 : Nat) (v : Option Value) (h : Heap) (L : List Loc) : Prop := v = none ∧ Fr n0 L ∧ h = h0
set_option maxRecDepth 65536 in
set_option maxHeartbeats 40000000 in
theorem rmc0 (l : Launch) (Z : State) (a0 : Array Value) (hw : ∀ d ∈ tables_1, d.before a0 Z = true) (ws : List Jvm.Cond) (pj : Int32) (pn : Int32) (h0 : Heap) (n0 : Nat) (Z0 : n0 ≤ h0.size) (HS_jdk_internal_util_Preconditions_SIOOBE_FORMATTER : Sta Z h0 "jdk/internal/util/Preconditions" "SIOOBE_FORMATTER" "Ljava/util/function/BiFunction;" .null) (hj : ¬ pj < 0 ∧ pj < pn) :
    MetFree l (⟨"java/lang/String", "checkIndex", "(II)V"⟩ : MethodName) (head1 (Jvm.Cond.code (⟨"java/lang/String", "checkIndex", "(II)V"⟩ : MethodName) jdk_42_method_155_code 2 none :: ws) ({ frames := 1, cells := 0, slots := 0, locals := 14 } : Room)) (fun a U => a = #[(.int pj), (.int pn)] ∧ Z.Warmed39 U.vm ∧ U.heap = h0) (fun _ _ _ _ _ => True) (fun _ U o U' => ∃ v L, o = .returned v ∧ Qc0 Z pj pn h0 n0 v U'.heap L ∧ FrameEnd U o U' L ({ frames := 1, cells := 0, slots := 0, locals := 14 } : Room).cells ({ frames := 1, cells := 0, slots := 0, locals := 14 } : Room).slots) := by
  refine MetFree.of_bodySF (plainFor_of_name pn_5) hisR ?_
  intro p e s m args below meth c s₁ Bd hml0 hP hK
  obtain ⟨rfl, hZ, hh⟩ := hP
  have hx := Bd.exec
  have hby := Bd.bytes
  have hlk := BodyLoose.notSynchronized Bd
  have hret := Bd.returns
  have hml : c.maxLocals = 2 := hml0
  have hown : s.vm.findClass "java/lang/String" = some m.cls := findClass_of_methodNamed Bd.named
  have hnm := (name_of_methodNamed Bd.named Bd.method).1
  have X0 : Stand p l e ({ frames := 1, cells := 0, slots := 0, locals := 14 } : Room) s m #[(.int pj), (.int pn)] below meth c s₁ [] 0 0 := Stand.of_body Bd
  have e0 : s₁.heap = h0 := by rw [← hh, Bd.state]; rfl
  have N0 := Fr.nil n0
  have K0 : Keep h0 h0 [] := Keep.refl h0 _
  refine Fin.step (Q := fun v h L => Qc0 Z pj pn h0 n0 v h L) (st' := s₁.setTop (mkF m 0 #[.val (.int pj), .val (.int pn)] [])) (fun t k => castTop (ef_rmc0 m pj pn) k) ?_
  show Fin p e below s _ _ _ (s₁.setTop (mkF m 0 #[.val (.int pj), .val (.int pn)] []))
  refine Fin.step (fun _ => XS.iloadN X0.here hx rfl (hb hby d5_0) rfl) ?_
  show Fin p e below s _ _ _ (s₁.setTop (mkF m 1 #[.val (.int pj), .val (.int pn)] [(.int pj)]))
  refine Fin.step (fun _ => XS.iloadN X0.here hx rfl (hb hby d5_1) rfl) ?_
  show Fin p e below s _ _ _ (s₁.setTop (mkF m 2 #[.val (.int pj), .val (.int pn)] [(.int pn), (.int pj)]))
  obtain ⟨Ty1, Xy1, ey1, sty1⟩ := getS2 X0 hx hZ hown (host := "") (Or.inl (hw _ (List.mem_of_getElem? (i := 34) rfl))) Via.refl e0 HS_jdk_internal_util_Preconditions_SIOOBE_FORMATTER (g := (mkF m 2 #[.val (.int pj), .val (.int pn)] [(.int pn), (.int pj)])) rfl (hb hby d5_2)
  refine Fin.step (sty1) ?_
  show Fin p e below s _ _ _ (Ty1.setTop (mkF m 5 #[.val (.int pj), .val (.int pn)] [.null, (.int pn), (.int pj)]))
  obtain ⟨_, _, ⟨Ty2, Ly2, ky2, ny2⟩, -, Xy2, ⟨Lcy2, hQy2, ly2, yy2, zy2⟩, sty2⟩ := Jvm.LawKit.callS Xy1 hx (y := (⟨"jdk/internal/util/Preconditions", "checkIndex", "(IILjava/util/function/BiFunction;)I"⟩ : MethodName)) hown (mvT hZ (hw _ (List.mem_of_getElem? (i := 36) rfl))) (mvT hZ (hw _ (List.mem_of_getElem? (i := 37) rfl))) (mvT hZ (hw _ (List.mem_of_getElem? (i := 35) rfl))) (mvT hZ (hw _ (List.mem_of_getElem? (i := 38) rfl))) (by decide) (backOf (W := 0) (rmk0 l Z a0 hw [] pj pn h0 n0 Z0 hj) hZ (hw _ (List.mem_of_getElem? (i := 38) rfl)) (hw _ (List.mem_of_getElem? (i := 35) rfl)) (by decide) (by decide)) (g := (mkF m 5 #[.val (.int pj), .val (.int pn)] [.null, (.int pn), (.int pj)])) rfl (by rw [hml]; rfl) (argsL := [(.int pj), (.int pn), .null]) (rest := []) (lenOf pd_0 rfl) rfl (by show 2 * 0 + _ ≤ _; exact Nat.le_of_eq rfl) (hb hby d5_5) (fun _ _ => ⟨rfl, ey1, (by decide : 0 + 0 ≤ _), (by decide : 0 + 0 ≤ _)⟩)
  dsimp only [Pt.U, Pt.locs, Pt.cells, Pt.slots] at Xy2 ly2 yy2 zy2 sty2 hQy2
  subst ly2 yy2 zy2
  obtain ⟨rfl, Nqy2, eqy2⟩ := hQy2
  have Ny2 := Fr.app N0 Nqy2
  refine Fin.step (sty2) ?_
  show Fin p e below s _ _ _ (Ty2.setTop (mkF m 8 #[.val (.int pj), .val (.int pn)] [(.int pj)]))
  refine Fin.step (fun _ => XS.pop Xy2.here hx rfl (hb hby d5_8) rfl rfl) ?_
  show Fin p e below s _ _ _ (Ty2.setTop (mkF m 9 #[.val (.int pj), .val (.int pn)] []))
  refine Fin.retV Xy2 hx hret hlk (hb hby d5_9) (by decide) (by decide) ?_
  show Qc0 Z pj pn h0 n0 _ Ty2.heap _
  rw [eqy2]
  exact ⟨rfl, Ny2, rfl⟩
theorem ef_rmc1 (m : MethodId) (x0 : Int32) (x1 : Int32) : entryFrame m #[(.int x0), (.int x1)] 2 = mkF m 0 #[.val (.int x0), .val (.int x1)] [] := by first | (simp [entryFrame, mkF, argsToLocals, Value.category]; done) | rfl
def Qc1 (Z : State) (pj : Int32) (pn : Int32) (f1 : Addr) (h0 : Heap) (n0 : Nat) (v : Option Value) (h : Heap) (L : List Loc) : Prop := v = none ∧ Fr n0 L ∧ h = h0
set_option maxRecDepth 65536 in
set_option maxHeartbeats 40000000 in
theorem rmc1 (l : Launch) (Z : State) (a0 : Array Value) (hw : ∀ d ∈ tables_1, d.before a0 Z = true) (ws : List Jvm.Cond) (pj : Int32) (pn : Int32) (f1 : Addr) (h0 : Heap) (n0 : Nat) (Z0 : n0 ≤ h0.size) (HS_jdk_internal_util_Preconditions_SIOOBE_FORMATTER : Sta Z h0 "jdk/internal/util/Preconditions" "SIOOBE_FORMATTER" "Ljava/util/function/BiFunction;" (.ref f1)) (hj : ¬ pj < 0 ∧ pj < pn) :
    MetFree l (⟨"java/lang/String", "checkIndex", "(II)V"⟩ : MethodName) (head1 (Jvm.Cond.code (⟨"java/lang/String", "checkIndex", "(II)V"⟩ : MethodName) jdk_42_method_155_code 2 none :: ws) ({ frames := 1, cells := 0, slots := 0, locals := 14 } : Room)) (fun a U => a = #[(.int pj), (.int pn)] ∧ Z.Warmed39 U.vm ∧ U.heap = h0) (fun _ _ _ _ _ => True) (fun _ U o U' => ∃ v L, o = .returned v ∧ Qc1 Z pj pn f1 h0 n0 v U'.heap L ∧ FrameEnd U o U' L ({ frames := 1, cells := 0, slots := 0, locals := 14 } : Room).cells ({ frames := 1, cells := 0, slots := 0, locals := 14 } : Room).slots) := by
  refine MetFree.of_bodySF (plainFor_of_name pn_5) hisR ?_
  intro p e s m args below meth c s₁ Bd hml0 hP hK
  obtain ⟨rfl, hZ, hh⟩ := hP
  have hx := Bd.exec
  have hby := Bd.bytes
  have hlk := BodyLoose.notSynchronized Bd
  have hret := Bd.returns
  have hml : c.maxLocals = 2 := hml0
  have hown : s.vm.findClass "java/lang/String" = some m.cls := findClass_of_methodNamed Bd.named
  have hnm := (name_of_methodNamed Bd.named Bd.method).1
  have X0 : Stand p l e ({ frames := 1, cells := 0, slots := 0, locals := 14 } : Room) s m #[(.int pj), (.int pn)] below meth c s₁ [] 0 0 := Stand.of_body Bd
  have e0 : s₁.heap = h0 := by rw [← hh, Bd.state]; rfl
  have N0 := Fr.nil n0
  have K0 : Keep h0 h0 [] := Keep.refl h0 _
  refine Fin.step (Q := fun v h L => Qc1 Z pj pn f1 h0 n0 v h L) (st' := s₁.setTop (mkF m 0 #[.val (.int pj), .val (.int pn)] [])) (fun t k => castTop (ef_rmc1 m pj pn) k) ?_
  show Fin p e below s _ _ _ (s₁.setTop (mkF m 0 #[.val (.int pj), .val (.int pn)] []))
  refine Fin.step (fun _ => XS.iloadN X0.here hx rfl (hb hby d5_0) rfl) ?_
  show Fin p e below s _ _ _ (s₁.setTop (mkF m 1 #[.val (.int pj), .val (.int pn)] [(.int pj)]))
  refine Fin.step (fun _ => XS.iloadN X0.here hx rfl (hb hby d5_1) rfl) ?_
  show Fin p e below s _ _ _ (s₁.setTop (mkF m 2 #[.val (.int pj), .val (.int pn)] [(.int pn), (.int pj)]))
  obtain ⟨Ty1, Xy1, ey1, sty1⟩ := getS2 X0 hx hZ hown (host := "") (Or.inl (hw _ (List.mem_of_getElem? (i := 34) rfl))) Via.refl e0 HS_jdk_internal_util_Preconditions_SIOOBE_FORMATTER (g := (mkF m 2 #[.val (.int pj), .val (.int pn)] [(.int pn), (.int pj)])) rfl (hb hby d5_2)
  refine Fin.step (sty1) ?_
  show Fin p e below s _ _ _ (Ty1.setTop (mkF m 5 #[.val (.int pj), .val (.int pn)] [(.ref f1), (.int pn), (.int pj)]))
  obtain ⟨_, _, ⟨Ty2, Ly2, ky2, ny2⟩, -, Xy2, ⟨Lcy2, hQy2, ly2, yy2, zy2⟩, sty2⟩ := Jvm.LawKit.callS Xy1 hx (y := (⟨"jdk/internal/util/Preconditions", "checkIndex", "(IILjava/util/function/BiFunction;)I"⟩ : MethodName)) hown (mvT hZ (hw _ (List.mem_of_getElem? (i := 36) rfl))) (mvT hZ (hw _ (List.mem_of_getElem? (i := 37) rfl))) (mvT hZ (hw _ (List.mem_of_getElem? (i := 35) rfl))) (mvT hZ (hw _ (List.mem_of_getElem? (i := 38) rfl))) (by decide) (backOf (W := 0) (rmk1 l Z a0 hw [] pj pn f1 h0 n0 Z0 hj) hZ (hw _ (List.mem_of_getElem? (i := 38) rfl)) (hw _ (List.mem_of_getElem? (i := 35) rfl)) (by decide) (by decide)) (g := (mkF m 5 #[.val (.int pj), .val (.int pn)] [(.ref f1), (.int pn), (.int pj)])) rfl (by rw [hml]; rfl) (argsL := [(.int pj), (.int pn), (.ref f1)]) (rest := []) (lenOf pd_0 rfl) rfl (by show 2 * 0 + _ ≤ _; exact Nat.le_of_eq rfl) (hb hby d5_5) (fun _ _ => ⟨rfl, ey1, (by decide : 0 + 0 ≤ _), (by decide : 0 + 0 ≤ _)⟩)
  dsimp only [Pt.U, Pt.locs, Pt.cells, Pt.slots] at Xy2 ly2 yy2 zy2 sty2 hQy2
  subst ly2 yy2 zy2
  obtain ⟨rfl, Nqy2, eqy2⟩ := hQy2
  have Ny2 := Fr.app N0 Nqy2
  refine Fin.step (sty2) ?_
  show Fin p e below s _ _ _ (Ty2.setTop (mkF m 8 #[.val (.int pj), .val (.int pn)] [(.int pj)]))
  refine Fin.step (fun _ => XS.pop Xy2.here hx rfl (hb hby d5_8) rfl rfl) ?_
  show Fin p e below s _ _ _ (Ty2.setTop (mkF m 9 #[.val (.int pj), .val (.int pn)] []))
  refine Fin.retV Xy2 hx hret hlk (hb hby d5_9) (by decide) (by decide) ?_
  show Qc1 Z pj pn f1 h0 n0 _ Ty2.heap _
  rw [eqy2]
  exact ⟨rfl, Ny2, rfl⟩
def Q_c (Z : State) (pj : Int32) (pn : Int32) (fv : Value) (h0 : Heap) (n0 : Nat) (v : Option Value) (h : Heap) (L : List Loc) : Prop := v = none ∧ Fr n0 L ∧ h = h0
theorem rmc (l : Launch) (Z : State) (a0 : Array Value) (hw : ∀ d ∈ tables_1, d.before a0 Z = true) (ws : List Jvm.Cond) (pj : Int32) (pn : Int32) (fv : Value) (h0 : Heap) (n0 : Nat) (Z0 : n0 ≤ h0.size) (HS : Sta Z h0 "jdk/internal/util/Preconditions" "SIOOBE_FORMATTER" "Ljava/util/function/BiFunction;" fv) (hfv : fv.isRef = true) (hj : ¬ pj < 0 ∧ pj < pn) :
    MetFree l (⟨"java/lang/String", "checkIndex", "(II)V"⟩ : MethodName) (head1 (Jvm.Cond.code (⟨"java/lang/String", "checkIndex", "(II)V"⟩ : MethodName) jdk_42_method_155_code 2 none :: ws) ({ frames := 1, cells := 0, slots := 0, locals := 14 } : Room)) (fun a U => a = #[(.int pj), (.int pn)] ∧ Z.Warmed39 U.vm ∧ U.heap = h0) (fun _ _ _ _ _ => True) (fun _ U o U' => ∃ v L, o = .returned v ∧ Q_c Z pj pn fv h0 n0 v U'.heap L ∧ FrameEnd U o U' L ({ frames := 1, cells := 0, slots := 0, locals := 14 } : Room).cells ({ frames := 1, cells := 0, slots := 0, locals := 14 } : Room).slots) := by
  rcases ref_cases hfv with rfl | ⟨f1, rfl⟩
  · exact rmc0 l Z a0 hw ws pj pn h0 n0 Z0 HS hj
  · exact rmc1 l Z a0 hw ws pj pn f1 h0 n0 Z0 HS hj
theorem d4_0 : decode jdk_43_method_2_code 0 = .ok (.iload_n 1, 1) := by decide +kernel
theorem d4_1 : decode jdk_43_method_2_code 1 = .ok (.aload_n 0, 1) := by decide +kernel
theorem d4_2 : decode jdk_43_method_2_code 2 = .ok (.arraylength, 1) := by decide +kernel
theorem d4_3 : decode jdk_43_method_2_code 3 = .ok (.invokestatic 9, 3) := by decide +kernel
theorem d4_6 : decode jdk_43_method_2_code 6 = .ok (.aload_n 0, 1) := by decide +kernel
theorem d4_7 : decode jdk_43_method_2_code 7 = .ok (.iload_n 1, 1) := by decide +kernel
theorem d4_8 : decode jdk_43_method_2_code 8 = .ok (.baload, 1) := by decide +kernel
theorem d4_9 : decode jdk_43_method_2_code 9 = .ok (.sipush 255, 3) := by decide +kernel
theorem d4_12 : decode jdk_43_method_2_code 12 = .ok (.iand, 1) := by decide +kernel
theorem d4_13 : decode jdk_43_method_2_code 13 = .ok (.i2c, 1) := by decide +kernel
theorem d4_14 : decode jdk_43_method_2_code 14 = .ok (.ireturn, 1) := by decide +kernel
theorem pn_4 : plainName "java/lang/StringLatin1" = true := by first | (simp [plainName, overriddenIn]; done) | decide +kernel
theorem pd_1 : parseMethodDescriptor "(II)V" = some ⟨[.int, .int], none⟩ := by decide +kernel
theorem ef_rm4 (m : MethodId) (x0 : Addr) (x1 : Int32) : entryFrame m #[(.ref x0), (.int x1)] 2 = mkF m 0 #[.val (.ref x0), .val (.int x1)] [] := by first | (simp [entryFrame, mkF, argsToLocals, Value.category]; done) | rfl
def Q4 (Z : State) (ab : Addr) (pj : Int32) (kb : ClassId) (pn : Int32) (vs : List Value) (fv : Value) (px : Int32) (h0 : Heap) (n0 : Nat) (v : Option Value) (h : Heap) (L : List Loc) : Prop := v = some (.int (own_ch px)) ∧ Fr n0 L ∧ h = h0
set_option maxRecDepth 65536 in
set_option maxHeartbeats 40000000 in
theorem rm4 (l : Launch) (Z : State) (a0 : Array Value) (hw : ∀ d ∈ tables_1, d.before a0 Z = true) (ws : List Jvm.Cond) (ab : Addr) (pj : Int32) (kb : ClassId) (pn : Int32) (vs : List Value) (fv : Value) (px : Int32) (h0 : Heap) (n0 : Nat) (Z0 : n0 ≤ h0.size) (HV_ab : Arv Z h0 ab kb .byte pn vs (.int (0 : Int32))) (HS_jdk_internal_util_Preconditions_SIOOBE_FORMATTER : Sta Z h0 "jdk/internal/util/Preconditions" "SIOOBE_FORMATTER" "Ljava/util/function/BiFunction;" fv) (hfv : fv.isRef = true) (hj : ¬ pj < 0 ∧ pj < pn) (hg : vs.getD pj.toNatClampNeg (.int (0 : Int32)) = .int px) :
    MetFree l (⟨"java/lang/StringLatin1", "charAt", "([BI)C"⟩ : MethodName) (head1 (Jvm.Cond.code (⟨"java/lang/StringLatin1", "charAt", "([BI)C"⟩ : MethodName) jdk_43_method_2_code 2 (some .char) :: ws) ({ frames := 2, cells := 0, slots := 0, locals := 27 } : Room)) (fun a U => a = #[(.ref ab), (.int pj)] ∧ Z.Warmed39 U.vm ∧ U.heap = h0) (fun _ _ _ _ _ => True) (fun _ U o U' => ∃ v L, o = .returned v ∧ Q4 Z ab pj kb pn vs fv px h0 n0 v U'.heap L ∧ FrameEnd U o U' L ({ frames := 2, cells := 0, slots := 0, locals := 27 } : Room).cells ({ frames := 2, cells := 0, slots := 0, locals := 27 } : Room).slots) := by
  refine MetFree.of_bodySF (plainFor_of_name pn_4) hisR ?_
  intro p e s m args below meth c s₁ Bd hml0 hP hK
  obtain ⟨rfl, hZ, hh⟩ := hP
  have hx := Bd.exec
  have hby := Bd.bytes
  have hlk := BodyLoose.notSynchronized Bd
  have hret := Bd.returns
  have hml : c.maxLocals = 2 := hml0
  have hown : s.vm.findClass "java/lang/StringLatin1" = some m.cls := findClass_of_methodNamed Bd.named
  have hnm := (name_of_methodNamed Bd.named Bd.method).1
  have X0 : Stand p l e ({ frames := 2, cells := 0, slots := 0, locals := 27 } : Room) s m #[(.ref ab), (.int pj)] below meth c s₁ [] 0 0 := Stand.of_body Bd
  have e0 : s₁.heap = h0 := by rw [← hh, Bd.state]; rfl
  have N0 := Fr.nil n0
  have K0 : Keep h0 h0 [] := Keep.refl h0 _
  refine Fin.step (Q := fun v h L => Q4 Z ab pj kb pn vs fv px h0 n0 v h L) (st' := s₁.setTop (mkF m 0 #[.val (.ref ab), .val (.int pj)] [])) (fun t k => castTop (ef_rm4 m ab pj) k) ?_
  show Fin p e below s _ _ _ (s₁.setTop (mkF m 0 #[.val (.ref ab), .val (.int pj)] []))
  refine Fin.step (fun _ => XS.iloadN X0.here hx rfl (hb hby d4_0) rfl) ?_
  show Fin p e below s _ _ _ (s₁.setTop (mkF m 1 #[.val (.ref ab), .val (.int pj)] [(.int pj)]))
  refine Fin.step (fun _ => XS.aloadN X0.here hx rfl (hb hby d4_1) rfl rfl) ?_
  show Fin p e below s _ _ _ (s₁.setTop (mkF m 2 #[.val (.ref ab), .val (.int pj)] [(.ref ab), (.int pj)]))
  have voy1 := HV_ab
  obtain ⟨cly1, Ary1, qay1, say1, nay1, hay1, gay1⟩ := voy1
  refine Fin.step (X0.arraylength hx (by rw [e0]; exact Ary1.1) (State.isArrayOf_alike hZ.alike Ary1.2.1) (g := (mkF m 2 #[.val (.ref ab), .val (.int pj)] [(.ref ab), (.int pj)])) rfl rfl (hb hby d4_2)) ?_
  rw [len_of say1 nay1]
  show Fin p e below s _ _ _ (s₁.setTop (mkF m 3 #[.val (.ref ab), .val (.int pj)] [(.int pn), (.int pj)]))
  obtain ⟨_, _, ⟨Ty2, Ly2, ky2, ny2⟩, -, Xy2, ⟨Lcy2, hQy2, ly2, yy2, zy2⟩, sty2⟩ := Jvm.LawKit.callS X0 hx (y := (⟨"java/lang/String", "checkIndex", "(II)V"⟩ : MethodName)) hown (mvT hZ (hw _ (List.mem_of_getElem? (i := 31) rfl))) (mvT hZ (hw _ (List.mem_of_getElem? (i := 32) rfl))) (mvT hZ (hw _ (List.mem_of_getElem? (i := 1) rfl))) (mvT hZ (hw _ (List.mem_of_getElem? (i := 33) rfl))) (by decide) (backOf (W := 0) (rmc l Z a0 hw [] pj pn fv h0 n0 Z0 HS_jdk_internal_util_Preconditions_SIOOBE_FORMATTER hfv hj) hZ (hw _ (List.mem_of_getElem? (i := 33) rfl)) (hw _ (List.mem_of_getElem? (i := 1) rfl)) (by decide) (by decide)) (g := (mkF m 3 #[.val (.ref ab), .val (.int pj)] [(.int pn), (.int pj)])) rfl (by rw [hml]; rfl) (argsL := [(.int pj), (.int pn)]) (rest := []) (lenOf pd_1 rfl) rfl (by show 2 * 0 + _ ≤ _; exact Nat.le_of_eq rfl) (hb hby d4_3) (fun _ _ => ⟨rfl, e0, (by decide : 0 + 0 ≤ _), (by decide : 0 + 0 ≤ _)⟩)
  dsimp only [Pt.U, Pt.locs, Pt.cells, Pt.slots] at Xy2 ly2 yy2 zy2 sty2 hQy2
  subst ly2 yy2 zy2
  obtain ⟨rfl, Nqy2, eqy2⟩ := hQy2
  have Ny2 := Fr.app N0 Nqy2
  refine Fin.step (sty2) ?_
  show Fin p e below s _ _ _ (Ty2.setTop (mkF m 6 #[.val (.ref ab), .val (.int pj)] []))
  refine Fin.step (fun _ => XS.aloadN Xy2.here hx rfl (hb hby d4_6) rfl rfl) ?_
  show Fin p e below s _ _ _ (Ty2.setTop (mkF m 7 #[.val (.ref ab), .val (.int pj)] [(.ref ab)]))
  refine Fin.step (fun _ => XS.iloadN Xy2.here hx rfl (hb hby d4_7) rfl) ?_
  show Fin p e below s _ _ _ (Ty2.setTop (mkF m 8 #[.val (.ref ab), .val (.int pj)] [(.int pj), (.ref ab)]))
  have voy3 := HV_ab
  obtain ⟨cly3, Ary3, qay3, say3, nay3, hay3, gay3⟩ := voy3
  have iny3 := inb_of (j := pj) say3 hj
  refine Fin.step (Xy2.baloadBytes hx (j := pj) (v := (.int px)) (by rw [eqy2]; exact Ary3.1) (State.isArrayOf_alike hZ.alike Ary3.2.1) Ary3.2.2 iny3 (hay3.at iny3 hg) (g := (mkF m 8 #[.val (.ref ab), .val (.int pj)] [(.int pj), (.ref ab)])) rfl rfl (hb hby d4_8)) ?_
  show Fin p e below s _ _ _ (Ty2.setTop (mkF m 9 #[.val (.ref ab), .val (.int pj)] [(.int px)]))
  refine Fin.step (fun _ => XS.sipush Xy2.here hx rfl (hb hby d4_9)) ?_
  show Fin p e below s _ _ _ (Ty2.setTop (mkF m 12 #[.val (.ref ab), .val (.int pj)] [(.int (255 : Int32)), (.int px)]))
  refine Fin.step (fun _ => XS.iand Xy2.here hx rfl (hb hby d4_12) rfl) ?_
  show Fin p e below s _ _ _ (Ty2.setTop (mkF m 13 #[.val (.ref ab), .val (.int pj)] [(.int (px &&& (255 : Int32)))]))
  refine Fin.step (fun _ => XS.i2c Xy2.here hx rfl (hb hby d4_13) rfl) ?_
  show Fin p e below s _ _ _ (Ty2.setTop (mkF m 14 #[.val (.ref ab), .val (.int pj)] [(.int ((px &&& (255 : Int32)).toUInt32.toUInt16.toUInt32.toInt32))]))
  refine Fin.retN Xy2 hx (t := .char) hret (by simp) hlk (hb hby d4_14) (by decide) (by decide) ?_
  show Q4 Z ab pj kb pn vs fv px h0 n0 _ Ty2.heap _
  rw [eqy2]
  exact ⟨(congrArg (fun z => some (Value.int z)) (own_chn px)), Ny2, rfl⟩
theorem d3_0 : decode jdk_42_method_154_code 0 = .ok (.getstatic 38, 3) := by decide +kernel
theorem d3_3 : decode jdk_42_method_154_code 3 = .ok (.ifCond .eq 14, 3) := by decide +kernel
theorem d3_6 : decode jdk_42_method_154_code 6 = .ok (.aload_n 0, 1) := by decide +kernel
theorem d3_7 : decode jdk_42_method_154_code 7 = .ok (.getfield 15, 3) := by decide +kernel
theorem d3_10 : decode jdk_42_method_154_code 10 = .ok (.ifCond .ne 7, 3) := by decide +kernel
theorem d3_13 : decode jdk_42_method_154_code 13 = .ok (.iconst 1, 1) := by decide +kernel
theorem d3_14 : decode jdk_42_method_154_code 14 = .ok (.goto 4, 3) := by decide +kernel
theorem d3_17 : decode jdk_42_method_154_code 17 = .ok (.iconst 0, 1) := by decide +kernel
theorem d3_18 : decode jdk_42_method_154_code 18 = .ok (.ireturn, 1) := by decide +kernel
theorem pn_3 : plainName "java/lang/String" = true := by first | (simp [plainName, overriddenIn]; done) | decide +kernel
theorem ef_rm3 (m : MethodId) (x0 : Addr) : entryFrame m #[(.ref x0)] 1 = mkF m 0 #[.val (.ref x0)] [] := by first | (simp [entryFrame, mkF, argsToLocals, Value.category]; done) | rfl
def Q3 (Z : State) (a1 : Addr) (wc : Int32) (h0 : Heap) (n0 : Nat) (v : Option Value) (h : Heap) (L : List Loc) : Prop := v = some (.int (1 : Int32)) ∧ Fr n0 L ∧ h = h0
set_option maxRecDepth 65536 in
set_option maxHeartbeats 40000000 in
theorem rm3 (l : Launch) (Z : State) (a0 : Array Value) (hw : ∀ d ∈ tables_1, d.before a0 Z = true) (ws : List Jvm.Cond) (a1 : Addr) (wc : Int32) (h0 : Heap) (n0 : Nat) (Z0 : n0 ≤ h0.size) (HS_java_lang_String_COMPACT_STRINGS : Sta Z h0 "java/lang/String" "COMPACT_STRINGS" "Z" (.int wc)) (HF_a1_coder : Fld Z h0 a1 "java/lang/String" "coder" "B" (.int (0 : Int32))) (hwc : ¬ wc = 0) :
    MetFree l (⟨"java/lang/String", "isLatin1", "()Z"⟩ : MethodName) (head1 (Jvm.Cond.code (⟨"java/lang/String", "isLatin1", "()Z"⟩ : MethodName) jdk_42_method_154_code 1 (some .boolean) :: ws) ({ frames := 0, cells := 0, slots := 0, locals := 0 } : Room)) (fun a U => a = #[(.ref a1)] ∧ Z.Warmed39 U.vm ∧ U.heap = h0) (fun _ _ _ _ _ => True) (fun _ U o U' => ∃ v L, o = .returned v ∧ Q3 Z a1 wc h0 n0 v U'.heap L ∧ FrameEnd U o U' L ({ frames := 0, cells := 0, slots := 0, locals := 0 } : Room).cells ({ frames := 0, cells := 0, slots := 0, locals := 0 } : Room).slots) := by
  refine MetFree.of_bodySF (plainFor_of_name pn_3) hisR ?_
  intro p e s m args below meth c s₁ Bd hml0 hP hK
  obtain ⟨rfl, hZ, hh⟩ := hP
  have hx := Bd.exec
  have hby := Bd.bytes
  have hlk := BodyLoose.notSynchronized Bd
  have hret := Bd.returns
  have hml : c.maxLocals = 1 := hml0
  have hown : s.vm.findClass "java/lang/String" = some m.cls := findClass_of_methodNamed Bd.named
  have hnm := (name_of_methodNamed Bd.named Bd.method).1
  have X0 : Stand p l e ({ frames := 0, cells := 0, slots := 0, locals := 0 } : Room) s m #[(.ref a1)] below meth c s₁ [] 0 0 := Stand.of_body Bd
  have e0 : s₁.heap = h0 := by rw [← hh, Bd.state]; rfl
  have N0 := Fr.nil n0
  have K0 : Keep h0 h0 [] := Keep.refl h0 _
  refine Fin.step (Q := fun v h L => Q3 Z a1 wc h0 n0 v h L) (st' := s₁.setTop (mkF m 0 #[.val (.ref a1)] [])) (fun t k => castTop (ef_rm3 m a1) k) ?_
  show Fin p e below s _ _ _ (s₁.setTop (mkF m 0 #[.val (.ref a1)] []))
  obtain ⟨Ty1, Xy1, ey1, sty1⟩ := getS2 X0 hx hZ hown (host := "") (Or.inl (hw _ (List.mem_of_getElem? (i := 24) rfl))) Via.refl e0 HS_java_lang_String_COMPACT_STRINGS (g := (mkF m 0 #[.val (.ref a1)] [])) rfl (hb hby d3_0)
  refine Fin.step (sty1) ?_
  show Fin p e below s _ _ _ (Ty1.setTop (mkF m 3 #[.val (.ref a1)] [(.int wc)]))
  refine Fin.step (fun _ => XS.ifNo Xy1.here hx rfl (hb hby d3_3) rfl ((if0 _ _).trans (feq (hwc : ¬ (wc = (0 : Int32)))).1)) ?_
  show Fin p e below s _ _ _ (Ty1.setTop (mkF m 6 #[.val (.ref a1)] []))
  refine Fin.step (fun _ => XS.aloadN Xy1.here hx rfl (hb hby d3_6) rfl rfl) ?_
  show Fin p e below s _ _ _ (Ty1.setTop (mkF m 7 #[.val (.ref a1)] [(.ref a1)]))
  obtain ⟨Ty2, Xy2, ey2, sty2⟩ := getF Xy1 hx hZ hown (host := "") (Or.inl (hw _ (List.mem_of_getElem? (i := 25) rfl))) Via.refl ey1 HF_a1_coder (g := (mkF m 7 #[.val (.ref a1)] [(.ref a1)])) rfl rfl (hb hby d3_7)
  refine Fin.step (sty2) ?_
  show Fin p e below s _ _ _ (Ty2.setTop (mkF m 10 #[.val (.ref a1)] [(.int (0 : Int32))]))
  refine Fin.step (fun _ => XS.ifNo Xy2.here hx rfl (hb hby d3_10) rfl ((if0 _ _).trans (teq ((by decide) : ((0 : Int32) = (0 : Int32)))).2)) ?_
  show Fin p e below s _ _ _ (Ty2.setTop (mkF m 13 #[.val (.ref a1)] []))
  refine Fin.step (fun _ => XS.iconst Xy2.here hx rfl (hb hby d3_13)) ?_
  show Fin p e below s _ _ _ (Ty2.setTop (mkF m 14 #[.val (.ref a1)] [(.int (1 : Int32))]))
  refine Fin.step (fun _ => XS.goto Xy2.here hx rfl (pc0 := 14) (pc' := 18) rfl (hb hby d3_14) (by decide) (by decide)) ?_
  show Fin p e below s _ _ _ (Ty2.setTop (mkF m 18 #[.val (.ref a1)] [(.int (1 : Int32))]))
  refine Fin.retN Xy2 hx (t := .boolean) hret (by simp) hlk (hb hby d3_18) (by decide) (by decide) ?_
  show Q3 Z a1 wc h0 n0 _ Ty2.heap _
  rw [ey2]
  exact ⟨rfl, N0, rfl⟩
theorem d2_0 : decode jdk_42_method_56_code 0 = .ok (.aload_n 0, 1) := by decide +kernel
theorem d2_1 : decode jdk_42_method_56_code 1 = .ok (.invokevirtual 492, 3) := by decide +kernel
theorem d2_4 : decode jdk_42_method_56_code 4 = .ok (.ifCond .eq 12, 3) := by decide +kernel
theorem d2_7 : decode jdk_42_method_56_code 7 = .ok (.aload_n 0, 1) := by decide +kernel
theorem d2_8 : decode jdk_42_method_56_code 8 = .ok (.getfield 9, 3) := by decide +kernel
theorem d2_11 : decode jdk_42_method_56_code 11 = .ok (.iload_n 1, 1) := by decide +kernel
theorem d2_12 : decode jdk_42_method_56_code 12 = .ok (.invokestatic 495, 3) := by decide +kernel
theorem d2_15 : decode jdk_42_method_56_code 15 = .ok (.ireturn, 1) := by decide +kernel
theorem d2_16 : decode jdk_42_method_56_code 16 = .ok (.aload_n 0, 1) := by decide +kernel
theorem d2_17 : decode jdk_42_method_56_code 17 = .ok (.getfield 9, 3) := by decide +kernel
theorem d2_20 : decode jdk_42_method_56_code 20 = .ok (.iload_n 1, 1) := by decide +kernel
theorem d2_21 : decode jdk_42_method_56_code 21 = .ok (.invokestatic 498, 3) := by decide +kernel
theorem d2_24 : decode jdk_42_method_56_code 24 = .ok (.ireturn, 1) := by decide +kernel
theorem pn_2 : plainName "java/lang/String" = true := by first | (simp [plainName, overriddenIn]; done) | decide +kernel
theorem pd_2 : parseMethodDescriptor "()Z" = some ⟨[], some .boolean⟩ := by decide +kernel
theorem pd_3 : parseMethodDescriptor "([BI)C" = some ⟨[(.array .byte), .int], some .char⟩ := by decide +kernel
theorem ef_rm2 (m : MethodId) (x0 : Addr) (x1 : Int32) : entryFrame m #[(.ref x0), (.int x1)] 2 = mkF m 0 #[.val (.ref x0), .val (.int x1)] [] := by first | (simp [entryFrame, mkF, argsToLocals, Value.category]; done) | rfl
def Q2 (Z : State) (a1 : Addr) (pj : Int32) (ab : Addr) (kb : ClassId) (pn : Int32) (vs : List Value) (fv : Value) (wc : Int32) (px : Int32) (h0 : Heap) (n0 : Nat) (v : Option Value) (h : Heap) (L : List Loc) : Prop := v = some (.int (own_ch px)) ∧ Fr n0 L ∧ h = h0
set_option maxRecDepth 65536 in
set_option maxHeartbeats 40000000 in
theorem rm2 (l : Launch) (Z : State) (a0 : Array Value) (hw : ∀ d ∈ tables_1, d.before a0 Z = true) (ws : List Jvm.Cond) (a1 : Addr) (pj : Int32) (ab : Addr) (kb : ClassId) (pn : Int32) (vs : List Value) (fv : Value) (wc : Int32) (px : Int32) (h0 : Heap) (n0 : Nat) (Z0 : n0 ≤ h0.size) (HE_a1 : Exa Z h0 a1 "java/lang/String") (HF_a1_coder : Fld Z h0 a1 "java/lang/String" "coder" "B" (.int (0 : Int32))) (HF_a1_value : Fld Z h0 a1 "java/lang/String" "value" "[B" (.ref ab)) (HV_ab : Arv Z h0 ab kb .byte pn vs (.int (0 : Int32))) (HS_jdk_internal_util_Preconditions_SIOOBE_FORMATTER : Sta Z h0 "jdk/internal/util/Preconditions" "SIOOBE_FORMATTER" "Ljava/util/function/BiFunction;" fv) (HS_java_lang_String_COMPACT_STRINGS : Sta Z h0 "java/lang/String" "COMPACT_STRINGS" "Z" (.int wc)) (hfv : fv.isRef = true) (hwc : ¬ wc = 0) (hj : ¬ pj < 0 ∧ pj < pn) (hg : vs.getD pj.toNatClampNeg (.int (0 : Int32)) = .int px) :
    MetFree l (⟨"java/lang/String", "charAt", "(I)C"⟩ : MethodName) (head1 (Jvm.Cond.code (⟨"java/lang/String", "charAt", "(I)C"⟩ : MethodName) jdk_42_method_56_code 2 (some .char) :: ws) ({ frames := 3, cells := 0, slots := 0, locals := 40 } : Room)) (fun a U => a = #[(.ref a1), (.int pj)] ∧ Z.Warmed39 U.vm ∧ U.heap = h0) (fun _ _ _ _ _ => True) (fun _ U o U' => ∃ v L, o = .returned v ∧ Q2 Z a1 pj ab kb pn vs fv wc px h0 n0 v U'.heap L ∧ FrameEnd U o U' L ({ frames := 3, cells := 0, slots := 0, locals := 40 } : Room).cells ({ frames := 3, cells := 0, slots := 0, locals := 40 } : Room).slots) := by
  refine MetFree.of_bodySF (plainFor_of_name pn_2) hisR ?_
  intro p e s m args below meth c s₁ Bd hml0 hP hK
  obtain ⟨rfl, hZ, hh⟩ := hP
  have hx := Bd.exec
  have hby := Bd.bytes
  have hlk := BodyLoose.notSynchronized Bd
  have hret := Bd.returns
  have hml : c.maxLocals = 2 := hml0
  have hown : s.vm.findClass "java/lang/String" = some m.cls := findClass_of_methodNamed Bd.named
  have hnm := (name_of_methodNamed Bd.named Bd.method).1
  have X0 : Stand p l e ({ frames := 3, cells := 0, slots := 0, locals := 40 } : Room) s m #[(.ref a1), (.int pj)] below meth c s₁ [] 0 0 := Stand.of_body Bd
  have e0 : s₁.heap = h0 := by rw [← hh, Bd.state]; rfl
  have N0 := Fr.nil n0
  have K0 : Keep h0 h0 [] := Keep.refl h0 _
  refine Fin.step (Q := fun v h L => Q2 Z a1 pj ab kb pn vs fv wc px h0 n0 v h L) (st' := s₁.setTop (mkF m 0 #[.val (.ref a1), .val (.int pj)] [])) (fun t k => castTop (ef_rm2 m a1 pj) k) ?_
  show Fin p e below s _ _ _ (s₁.setTop (mkF m 0 #[.val (.ref a1), .val (.int pj)] []))
  refine Fin.step (fun _ => XS.aloadN X0.here hx rfl (hb hby d2_0) rfl rfl) ?_
  show Fin p e below s _ _ _ (s₁.setTop (mkF m 1 #[.val (.ref a1), .val (.int pj)] [(.ref a1)]))
  obtain ⟨cqy1, kqy1, qy1a, qy1b, qy1c⟩ := isOf hZ e0 HE_a1
  obtain ⟨_, _, ⟨Ty1, Ly1, ky1, ny1⟩, -, Xy1, ⟨Lcy1, hQy1, ly1, yy1, zy1⟩, sty1⟩ := X0.virtualBack hx (y := (⟨"java/lang/String", "isLatin1", "()Z"⟩ : MethodName)) (z := (⟨"java/lang/String", "isLatin1", "()Z"⟩ : MethodName)) hown (mvT hZ (hw _ (List.mem_of_getElem? (i := 19) rfl))) (mvT hZ (hw _ (List.mem_of_getElem? (i := 20) rfl))) (notFace_of_selects (args := #[]) (mvT hZ (hw _ (List.mem_of_getElem? (i := 22) rfl)))) (mvT hZ (hw _ (List.mem_of_getElem? (i := 22) rfl))) (mvT hZ (hw _ (List.mem_of_getElem? (i := 21) rfl))) (by decide) (backOf (W := 0) (rm3 l Z a0 hw [] a1 wc h0 n0 Z0 HS_java_lang_String_COMPACT_STRINGS HF_a1_coder hwc) hZ (hw _ (List.mem_of_getElem? (i := 23) rfl)) (hw _ (List.mem_of_getElem? (i := 1) rfl)) (by decide) (by decide)) qy1a qy1c (g := (mkF m 1 #[.val (.ref a1), .val (.int pj)] [(.ref a1)])) rfl (by rw [hml]; rfl) (Steps.refl _) (argsL := []) (rest := []) (lenOf pd_2 rfl) rfl (by show 2 * 0 + _ ≤ _; exact Nat.le_of_eq rfl) (hb hby d2_1) (fun _ _ => ⟨rfl, e0, (by decide : 0 + 0 ≤ _), (by decide : 0 + 0 ≤ _)⟩)
  dsimp only [Pt.U, Pt.locs, Pt.cells, Pt.slots] at Xy1 ly1 yy1 zy1 sty1 hQy1
  subst ly1 yy1 zy1
  obtain ⟨rfl, Nqy1, eqy1⟩ := hQy1
  have Ny1 := Fr.app N0 Nqy1
  refine Fin.step (fun _ k => sty1.trans k) ?_
  show Fin p e below s _ _ _ (Ty1.setTop (mkF m 4 #[.val (.ref a1), .val (.int pj)] [(.int (1 : Int32))]))
  refine Fin.step (fun _ => XS.ifNo Xy1.here hx rfl (hb hby d2_4) rfl ((if0 _ _).trans (feq ((by decide) : ¬ ((1 : Int32) = (0 : Int32)))).1)) ?_
  show Fin p e below s _ _ _ (Ty1.setTop (mkF m 7 #[.val (.ref a1), .val (.int pj)] []))
  refine Fin.step (fun _ => XS.aloadN Xy1.here hx rfl (hb hby d2_7) rfl rfl) ?_
  show Fin p e below s _ _ _ (Ty1.setTop (mkF m 8 #[.val (.ref a1), .val (.int pj)] [(.ref a1)]))
  obtain ⟨Ty2, Xy2, ey2, sty2⟩ := getF Xy1 hx hZ hown (host := "") (Or.inl (hw _ (List.mem_of_getElem? (i := 26) rfl))) Via.refl eqy1 HF_a1_value (g := (mkF m 8 #[.val (.ref a1), .val (.int pj)] [(.ref a1)])) rfl rfl (hb hby d2_8)
  refine Fin.step (sty2) ?_
  show Fin p e below s _ _ _ (Ty2.setTop (mkF m 11 #[.val (.ref a1), .val (.int pj)] [(.ref ab)]))
  refine Fin.step (fun _ => XS.iloadN Xy2.here hx rfl (hb hby d2_11) rfl) ?_
  show Fin p e below s _ _ _ (Ty2.setTop (mkF m 12 #[.val (.ref a1), .val (.int pj)] [(.int pj), (.ref ab)]))
  obtain ⟨_, _, ⟨Ty3, Ly3, ky3, ny3⟩, -, Xy3, ⟨Lcy3, hQy3, ly3, yy3, zy3⟩, sty3⟩ := Jvm.LawKit.callS Xy2 hx (y := (⟨"java/lang/StringLatin1", "charAt", "([BI)C"⟩ : MethodName)) hown (mvT hZ (hw _ (List.mem_of_getElem? (i := 27) rfl))) (mvT hZ (hw _ (List.mem_of_getElem? (i := 28) rfl))) (mvT hZ (hw _ (List.mem_of_getElem? (i := 29) rfl))) (mvT hZ (hw _ (List.mem_of_getElem? (i := 30) rfl))) (by decide) (backOf (W := 0) (rm4 l Z a0 hw [] ab pj kb pn vs fv px h0 n0 Z0 HV_ab HS_jdk_internal_util_Preconditions_SIOOBE_FORMATTER hfv hj hg) hZ (hw _ (List.mem_of_getElem? (i := 30) rfl)) (hw _ (List.mem_of_getElem? (i := 29) rfl)) (by decide) (by decide)) (g := (mkF m 12 #[.val (.ref a1), .val (.int pj)] [(.int pj), (.ref ab)])) rfl (by rw [hml]; rfl) (argsL := [(.ref ab), (.int pj)]) (rest := []) (lenOf pd_3 rfl) rfl (by show 2 * 0 + _ ≤ _; exact Nat.le_of_eq rfl) (hb hby d2_12) (fun _ _ => ⟨rfl, ey2, (by decide : 0 + 0 ≤ _), (by decide : 0 + 0 ≤ _)⟩)
  dsimp only [Pt.U, Pt.locs, Pt.cells, Pt.slots] at Xy3 ly3 yy3 zy3 sty3 hQy3
  subst ly3 yy3 zy3
  obtain ⟨rfl, Nqy3, eqy3⟩ := hQy3
  have Ny3 := Fr.app Ny1 Nqy3
  refine Fin.step (sty3) ?_
  show Fin p e below s _ _ _ (Ty3.setTop (mkF m 15 #[.val (.ref a1), .val (.int pj)] [(.int (own_ch px))]))
  refine Fin.retN Xy3 hx (t := .char) hret (by simp) hlk (hb hby d2_15) (by decide) (by decide) ?_
  show Q2 Z a1 pj ab kb pn vs fv wc px h0 n0 _ Ty3.heap _
  rw [eqy3]
  exact ⟨(congrArg (fun z => some (Value.int z)) (own_chm px)), Ny3, rfl⟩
theorem d1_0 : decode prog_61_method_4_code 0 = .ok (.iload_n 0, 1) := by decide +kernel
theorem d1_1 : decode prog_61_method_4_code 1 = .ok (.bipush 48, 2) := by decide +kernel
theorem d1_3 : decode prog_61_method_4_code 3 = .ok (.if_icmp .lt 14, 3) := by decide +kernel
theorem d1_6 : decode prog_61_method_4_code 6 = .ok (.iload_n 0, 1) := by decide +kernel
theorem d1_7 : decode prog_61_method_4_code 7 = .ok (.bipush 57, 2) := by decide +kernel
theorem d1_9 : decode prog_61_method_4_code 9 = .ok (.if_icmp .gt 8, 3) := by decide +kernel
theorem d1_12 : decode prog_61_method_4_code 12 = .ok (.iload_n 0, 1) := by decide +kernel
theorem d1_13 : decode prog_61_method_4_code 13 = .ok (.bipush 48, 2) := by decide +kernel
theorem d1_15 : decode prog_61_method_4_code 15 = .ok (.isub, 1) := by decide +kernel
theorem d1_16 : decode prog_61_method_4_code 16 = .ok (.ireturn, 1) := by decide +kernel
theorem d1_17 : decode prog_61_method_4_code 17 = .ok (.iload_n 0, 1) := by decide +kernel
theorem d1_18 : decode prog_61_method_4_code 18 = .ok (.bipush 65, 2) := by decide +kernel
theorem d1_20 : decode prog_61_method_4_code 20 = .ok (.if_icmp .lt 17, 3) := by decide +kernel
theorem d1_23 : decode prog_61_method_4_code 23 = .ok (.iload_n 0, 1) := by decide +kernel
theorem d1_24 : decode prog_61_method_4_code 24 = .ok (.bipush 90, 2) := by decide +kernel
theorem d1_26 : decode prog_61_method_4_code 26 = .ok (.if_icmp .gt 11, 3) := by decide +kernel
theorem d1_29 : decode prog_61_method_4_code 29 = .ok (.iload_n 0, 1) := by decide +kernel
theorem d1_30 : decode prog_61_method_4_code 30 = .ok (.bipush 65, 2) := by decide +kernel
theorem d1_32 : decode prog_61_method_4_code 32 = .ok (.isub, 1) := by decide +kernel
theorem d1_33 : decode prog_61_method_4_code 33 = .ok (.bipush 10, 2) := by decide +kernel
theorem d1_35 : decode prog_61_method_4_code 35 = .ok (.iadd, 1) := by decide +kernel
theorem d1_36 : decode prog_61_method_4_code 36 = .ok (.ireturn, 1) := by decide +kernel
theorem d1_37 : decode prog_61_method_4_code 37 = .ok (.iload_n 0, 1) := by decide +kernel
theorem d1_38 : decode prog_61_method_4_code 38 = .ok (.bipush 60, 2) := by decide +kernel
theorem d1_40 : decode prog_61_method_4_code 40 = .ok (.if_icmp .ne 5, 3) := by decide +kernel
theorem d1_43 : decode prog_61_method_4_code 43 = .ok (.iconst 0, 1) := by decide +kernel
theorem d1_44 : decode prog_61_method_4_code 44 = .ok (.ireturn, 1) := by decide +kernel
theorem d1_45 : decode prog_61_method_4_code 45 = .ok (.iconst (-1), 1) := by decide +kernel
theorem d1_46 : decode prog_61_method_4_code 46 = .ok (.ireturn, 1) := by decide +kernel
theorem pn_1 : plainName "com/example/wicketgate/wicketgate/core/mrz/MrzCharacters" = true := by first | (simp [plainName, overriddenIn]; done) | decide +kernel
theorem ef_rm1 (m : MethodId) (x0 : Int32) : entryFrame m #[(.int x0)] 1 = mkF m 0 #[.val (.int x0)] [] := by first | (simp [entryFrame, mkF, argsToLocals, Value.category]; done) | rfl
def Q1 (Z : State) (p1 : Int32) (h0 : Heap) (n0 : Nat) (v : Option Value) (h : Heap) (L : List Loc) : Prop := v = some (.int (own_vo p1)) ∧ Fr n0 L ∧ h = h0
set_option maxRecDepth 65536 in
set_option maxHeartbeats 40000000 in
theorem rm1 (l : Launch) (Z : State) (a0 : Array Value) (hw : ∀ d ∈ tables_1, d.before a0 Z = true) (ws : List Jvm.Cond) (p1 : Int32) (h0 : Heap) (n0 : Nat) (Z0 : n0 ≤ h0.size) :
    MetFree l (⟨"com/example/wicketgate/wicketgate/core/mrz/MrzCharacters", "valueOf", "(C)I"⟩ : MethodName) (head1 (Jvm.Cond.code (⟨"com/example/wicketgate/wicketgate/core/mrz/MrzCharacters", "valueOf", "(C)I"⟩ : MethodName) prog_61_method_4_code 1 (some .int) :: ws) ({ frames := 0, cells := 0, slots := 0, locals := 0 } : Room)) (fun a U => a = #[(.int p1)] ∧ Z.Warmed39 U.vm ∧ U.heap = h0) (fun _ _ _ _ _ => True) (fun _ U o U' => ∃ v L, o = .returned v ∧ Q1 Z p1 h0 n0 v U'.heap L ∧ FrameEnd U o U' L ({ frames := 0, cells := 0, slots := 0, locals := 0 } : Room).cells ({ frames := 0, cells := 0, slots := 0, locals := 0 } : Room).slots) := by
  refine MetFree.of_bodySF (plainFor_of_name pn_1) hisR ?_
  intro p e s m args below meth c s₁ Bd hml0 hP hK
  obtain ⟨rfl, hZ, hh⟩ := hP
  have hx := Bd.exec
  have hby := Bd.bytes
  have hlk := BodyLoose.notSynchronized Bd
  have hret := Bd.returns
  have hml : c.maxLocals = 1 := hml0
  have hown : s.vm.findClass "com/example/wicketgate/wicketgate/core/mrz/MrzCharacters" = some m.cls := findClass_of_methodNamed Bd.named
  have hnm := (name_of_methodNamed Bd.named Bd.method).1
  have X0 : Stand p l e ({ frames := 0, cells := 0, slots := 0, locals := 0 } : Room) s m #[(.int p1)] below meth c s₁ [] 0 0 := Stand.of_body Bd
  have e0 : s₁.heap = h0 := by rw [← hh, Bd.state]; rfl
  have N0 := Fr.nil n0
  have K0 : Keep h0 h0 [] := Keep.refl h0 _
  refine Fin.step (Q := fun v h L => Q1 Z p1 h0 n0 v h L) (st' := s₁.setTop (mkF m 0 #[.val (.int p1)] [])) (fun t k => castTop (ef_rm1 m p1) k) ?_
  show Fin p e below s _ _ _ (s₁.setTop (mkF m 0 #[.val (.int p1)] []))
  refine Fin.step (fun _ => XS.iloadN X0.here hx rfl (hb hby d1_0) rfl) ?_
  show Fin p e below s _ _ _ (s₁.setTop (mkF m 1 #[.val (.int p1)] [(.int p1)]))
  refine Fin.step (fun _ => XS.bipush X0.here hx rfl (hb hby d1_1)) ?_
  show Fin p e below s _ _ _ (s₁.setTop (mkF m 3 #[.val (.int p1)] [(.int (48 : Int32)), (.int p1)]))
  by_cases hcy1 : p1 < (48 : Int32)
  · refine Fin.step (fun _ => XS.icmpYes X0.here hx rfl (pc0 := 3) (pc' := 17) rfl (hb hby d1_3) rfl (tlt (hcy1 : (p1 < (48 : Int32)))).1 (by decide) (by decide)) ?_
    show Fin p e below s _ _ _ (s₁.setTop (mkF m 17 #[.val (.int p1)] []))
    refine Fin.step (fun _ => XS.iloadN X0.here hx rfl (hb hby d1_17) rfl) ?_
    show Fin p e below s _ _ _ (s₁.setTop (mkF m 18 #[.val (.int p1)] [(.int p1)]))
    refine Fin.step (fun _ => XS.bipush X0.here hx rfl (hb hby d1_18)) ?_
    show Fin p e below s _ _ _ (s₁.setTop (mkF m 20 #[.val (.int p1)] [(.int (65 : Int32)), (.int p1)]))
    by_cases hcy2 : p1 < (65 : Int32)
    · refine Fin.step (fun _ => XS.icmpYes X0.here hx rfl (pc0 := 20) (pc' := 37) rfl (hb hby d1_20) rfl (tlt (hcy2 : (p1 < (65 : Int32)))).1 (by decide) (by decide)) ?_
      show Fin p e below s _ _ _ (s₁.setTop (mkF m 37 #[.val (.int p1)] []))
      refine Fin.step (fun _ => XS.iloadN X0.here hx rfl (hb hby d1_37) rfl) ?_
      show Fin p e below s _ _ _ (s₁.setTop (mkF m 38 #[.val (.int p1)] [(.int p1)]))
      refine Fin.step (fun _ => XS.bipush X0.here hx rfl (hb hby d1_38)) ?_
      show Fin p e below s _ _ _ (s₁.setTop (mkF m 40 #[.val (.int p1)] [(.int (60 : Int32)), (.int p1)]))
      by_cases hcy3 : p1 = (60 : Int32)
      · refine Fin.step (fun _ => XS.icmpNo X0.here hx rfl (hb hby d1_40) rfl (teq (hcy3 : (p1 = (60 : Int32)))).2) ?_
        show Fin p e below s _ _ _ (s₁.setTop (mkF m 43 #[.val (.int p1)] []))
        refine Fin.step (fun _ => XS.iconst X0.here hx rfl (hb hby d1_43)) ?_
        show Fin p e below s _ _ _ (s₁.setTop (mkF m 44 #[.val (.int p1)] [(.int (0 : Int32))]))
        refine Fin.retI X0 hx hret hlk (hb hby d1_44) (by decide) (by decide) ?_
        show Q1 Z p1 h0 n0 _ s₁.heap _
        rw [e0]
        exact ⟨(congrArg (fun z => some (Value.int z)) (by simp [own_vo, hcy1, hcy2, hcy3])), N0, rfl⟩
      · refine Fin.step (fun _ => XS.icmpYes X0.here hx rfl (pc0 := 40) (pc' := 45) rfl (hb hby d1_40) rfl (feq (hcy3 : ¬ (p1 = (60 : Int32)))).2 (by decide) (by decide)) ?_
        show Fin p e below s _ _ _ (s₁.setTop (mkF m 45 #[.val (.int p1)] []))
        refine Fin.step (fun _ => XS.iconst X0.here hx rfl (hb hby d1_45)) ?_
        show Fin p e below s _ _ _ (s₁.setTop (mkF m 46 #[.val (.int p1)] [(.int (-1 : Int32))]))
        refine Fin.retI X0 hx hret hlk (hb hby d1_46) (by decide) (by decide) ?_
        show Q1 Z p1 h0 n0 _ s₁.heap _
        rw [e0]
        exact ⟨(congrArg (fun z => some (Value.int z)) (by simp [own_vo, hcy1, hcy2, hcy3])), N0, rfl⟩
    · refine Fin.step (fun _ => XS.icmpNo X0.here hx rfl (hb hby d1_20) rfl (flt (hcy2 : ¬ (p1 < (65 : Int32)))).1) ?_
      show Fin p e below s _ _ _ (s₁.setTop (mkF m 23 #[.val (.int p1)] []))
      refine Fin.step (fun _ => XS.iloadN X0.here hx rfl (hb hby d1_23) rfl) ?_
      show Fin p e below s _ _ _ (s₁.setTop (mkF m 24 #[.val (.int p1)] [(.int p1)]))
      refine Fin.step (fun _ => XS.bipush X0.here hx rfl (hb hby d1_24)) ?_
      show Fin p e below s _ _ _ (s₁.setTop (mkF m 26 #[.val (.int p1)] [(.int (90 : Int32)), (.int p1)]))
      by_cases hcy4 : (90 : Int32) < p1
      · refine Fin.step (fun _ => XS.icmpYes X0.here hx rfl (pc0 := 26) (pc' := 37) rfl (hb hby d1_26) rfl (tlt (hcy4 : ((90 : Int32) < p1))).2.2.1 (by decide) (by decide)) ?_
        show Fin p e below s _ _ _ (s₁.setTop (mkF m 37 #[.val (.int p1)] []))
        refine Fin.step (fun _ => XS.iloadN X0.here hx rfl (hb hby d1_37) rfl) ?_
        show Fin p e below s _ _ _ (s₁.setTop (mkF m 38 #[.val (.int p1)] [(.int p1)]))
        refine Fin.step (fun _ => XS.bipush X0.here hx rfl (hb hby d1_38)) ?_
        show Fin p e below s _ _ _ (s₁.setTop (mkF m 40 #[.val (.int p1)] [(.int (60 : Int32)), (.int p1)]))
        by_cases hcy5 : p1 = (60 : Int32)
        · refine Fin.step (fun _ => XS.icmpNo X0.here hx rfl (hb hby d1_40) rfl (teq (hcy5 : (p1 = (60 : Int32)))).2) ?_
          show Fin p e below s _ _ _ (s₁.setTop (mkF m 43 #[.val (.int p1)] []))
          refine Fin.step (fun _ => XS.iconst X0.here hx rfl (hb hby d1_43)) ?_
          show Fin p e below s _ _ _ (s₁.setTop (mkF m 44 #[.val (.int p1)] [(.int (0 : Int32))]))
          refine Fin.retI X0 hx hret hlk (hb hby d1_44) (by decide) (by decide) ?_
          show Q1 Z p1 h0 n0 _ s₁.heap _
          rw [e0]
          exact ⟨(congrArg (fun z => some (Value.int z)) (by simp [own_vo, hcy1, hcy2, hcy4, hcy5])), N0, rfl⟩
        · refine Fin.step (fun _ => XS.icmpYes X0.here hx rfl (pc0 := 40) (pc' := 45) rfl (hb hby d1_40) rfl (feq (hcy5 : ¬ (p1 = (60 : Int32)))).2 (by decide) (by decide)) ?_
          show Fin p e below s _ _ _ (s₁.setTop (mkF m 45 #[.val (.int p1)] []))
          refine Fin.step (fun _ => XS.iconst X0.here hx rfl (hb hby d1_45)) ?_
          show Fin p e below s _ _ _ (s₁.setTop (mkF m 46 #[.val (.int p1)] [(.int (-1 : Int32))]))
          refine Fin.retI X0 hx hret hlk (hb hby d1_46) (by decide) (by decide) ?_
          show Q1 Z p1 h0 n0 _ s₁.heap _
          rw [e0]
          exact ⟨(congrArg (fun z => some (Value.int z)) (by simp [own_vo, hcy1, hcy2, hcy4, hcy5])), N0, rfl⟩
      · refine Fin.step (fun _ => XS.icmpNo X0.here hx rfl (hb hby d1_26) rfl (flt (hcy4 : ¬ ((90 : Int32) < p1))).2.2.1) ?_
        show Fin p e below s _ _ _ (s₁.setTop (mkF m 29 #[.val (.int p1)] []))
        refine Fin.step (fun _ => XS.iloadN X0.here hx rfl (hb hby d1_29) rfl) ?_
        show Fin p e below s _ _ _ (s₁.setTop (mkF m 30 #[.val (.int p1)] [(.int p1)]))
        refine Fin.step (fun _ => XS.bipush X0.here hx rfl (hb hby d1_30)) ?_
        show Fin p e below s _ _ _ (s₁.setTop (mkF m 32 #[.val (.int p1)] [(.int (65 : Int32)), (.int p1)]))
        refine Fin.step (fun _ => XS.isub X0.here hx rfl (hb hby d1_32) rfl) ?_
        show Fin p e below s _ _ _ (s₁.setTop (mkF m 33 #[.val (.int p1)] [(.int (p1 - (65 : Int32)))]))
        refine Fin.step (fun _ => XS.bipush X0.here hx rfl (hb hby d1_33)) ?_
        show Fin p e below s _ _ _ (s₁.setTop (mkF m 35 #[.val (.int p1)] [(.int (10 : Int32)), (.int (p1 - (65 : Int32)))]))
        refine Fin.step (fun _ => XS.iadd X0.here hx rfl (hb hby d1_35) rfl) ?_
        show Fin p e below s _ _ _ (s₁.setTop (mkF m 36 #[.val (.int p1)] [(.int ((p1 - (65 : Int32)) + (10 : Int32)))]))
        refine Fin.retI X0 hx hret hlk (hb hby d1_36) (by decide) (by decide) ?_
        show Q1 Z p1 h0 n0 _ s₁.heap _
        rw [e0]
        exact ⟨(congrArg (fun z => some (Value.int z)) (by simp [own_vo, hcy1, hcy2, hcy4])), N0, rfl⟩
  · refine Fin.step (fun _ => XS.icmpNo X0.here hx rfl (hb hby d1_3) rfl (flt (hcy1 : ¬ (p1 < (48 : Int32)))).1) ?_
    show Fin p e below s _ _ _ (s₁.setTop (mkF m 6 #[.val (.int p1)] []))
    refine Fin.step (fun _ => XS.iloadN X0.here hx rfl (hb hby d1_6) rfl) ?_
    show Fin p e below s _ _ _ (s₁.setTop (mkF m 7 #[.val (.int p1)] [(.int p1)]))
    refine Fin.step (fun _ => XS.bipush X0.here hx rfl (hb hby d1_7)) ?_
    show Fin p e below s _ _ _ (s₁.setTop (mkF m 9 #[.val (.int p1)] [(.int (57 : Int32)), (.int p1)]))
    by_cases hcy6 : (57 : Int32) < p1
    · refine Fin.step (fun _ => XS.icmpYes X0.here hx rfl (pc0 := 9) (pc' := 17) rfl (hb hby d1_9) rfl (tlt (hcy6 : ((57 : Int32) < p1))).2.2.1 (by decide) (by decide)) ?_
      show Fin p e below s _ _ _ (s₁.setTop (mkF m 17 #[.val (.int p1)] []))
      refine Fin.step (fun _ => XS.iloadN X0.here hx rfl (hb hby d1_17) rfl) ?_
      show Fin p e below s _ _ _ (s₁.setTop (mkF m 18 #[.val (.int p1)] [(.int p1)]))
      refine Fin.step (fun _ => XS.bipush X0.here hx rfl (hb hby d1_18)) ?_
      show Fin p e below s _ _ _ (s₁.setTop (mkF m 20 #[.val (.int p1)] [(.int (65 : Int32)), (.int p1)]))
      by_cases hcy7 : p1 < (65 : Int32)
      · refine Fin.step (fun _ => XS.icmpYes X0.here hx rfl (pc0 := 20) (pc' := 37) rfl (hb hby d1_20) rfl (tlt (hcy7 : (p1 < (65 : Int32)))).1 (by decide) (by decide)) ?_
        show Fin p e below s _ _ _ (s₁.setTop (mkF m 37 #[.val (.int p1)] []))
        refine Fin.step (fun _ => XS.iloadN X0.here hx rfl (hb hby d1_37) rfl) ?_
        show Fin p e below s _ _ _ (s₁.setTop (mkF m 38 #[.val (.int p1)] [(.int p1)]))
        refine Fin.step (fun _ => XS.bipush X0.here hx rfl (hb hby d1_38)) ?_
        show Fin p e below s _ _ _ (s₁.setTop (mkF m 40 #[.val (.int p1)] [(.int (60 : Int32)), (.int p1)]))
        by_cases hcy8 : p1 = (60 : Int32)
        · refine Fin.step (fun _ => XS.icmpNo X0.here hx rfl (hb hby d1_40) rfl (teq (hcy8 : (p1 = (60 : Int32)))).2) ?_
          show Fin p e below s _ _ _ (s₁.setTop (mkF m 43 #[.val (.int p1)] []))
          refine Fin.step (fun _ => XS.iconst X0.here hx rfl (hb hby d1_43)) ?_
          show Fin p e below s _ _ _ (s₁.setTop (mkF m 44 #[.val (.int p1)] [(.int (0 : Int32))]))
          refine Fin.retI X0 hx hret hlk (hb hby d1_44) (by decide) (by decide) ?_
          show Q1 Z p1 h0 n0 _ s₁.heap _
          rw [e0]
          exact ⟨(congrArg (fun z => some (Value.int z)) (by simp [own_vo, hcy1, hcy6, hcy7, hcy8])), N0, rfl⟩
        · refine Fin.step (fun _ => XS.icmpYes X0.here hx rfl (pc0 := 40) (pc' := 45) rfl (hb hby d1_40) rfl (feq (hcy8 : ¬ (p1 = (60 : Int32)))).2 (by decide) (by decide)) ?_
          show Fin p e below s _ _ _ (s₁.setTop (mkF m 45 #[.val (.int p1)] []))
          refine Fin.step (fun _ => XS.iconst X0.here hx rfl (hb hby d1_45)) ?_
          show Fin p e below s _ _ _ (s₁.setTop (mkF m 46 #[.val (.int p1)] [(.int (-1 : Int32))]))
          refine Fin.retI X0 hx hret hlk (hb hby d1_46) (by decide) (by decide) ?_
          show Q1 Z p1 h0 n0 _ s₁.heap _
          rw [e0]
          exact ⟨(congrArg (fun z => some (Value.int z)) (by simp [own_vo, hcy1, hcy6, hcy7, hcy8])), N0, rfl⟩
      · refine Fin.step (fun _ => XS.icmpNo X0.here hx rfl (hb hby d1_20) rfl (flt (hcy7 : ¬ (p1 < (65 : Int32)))).1) ?_
        show Fin p e below s _ _ _ (s₁.setTop (mkF m 23 #[.val (.int p1)] []))
        refine Fin.step (fun _ => XS.iloadN X0.here hx rfl (hb hby d1_23) rfl) ?_
        show Fin p e below s _ _ _ (s₁.setTop (mkF m 24 #[.val (.int p1)] [(.int p1)]))
        refine Fin.step (fun _ => XS.bipush X0.here hx rfl (hb hby d1_24)) ?_
        show Fin p e below s _ _ _ (s₁.setTop (mkF m 26 #[.val (.int p1)] [(.int (90 : Int32)), (.int p1)]))
        by_cases hcy9 : (90 : Int32) < p1
        · refine Fin.step (fun _ => XS.icmpYes X0.here hx rfl (pc0 := 26) (pc' := 37) rfl (hb hby d1_26) rfl (tlt (hcy9 : ((90 : Int32) < p1))).2.2.1 (by decide) (by decide)) ?_
          show Fin p e below s _ _ _ (s₁.setTop (mkF m 37 #[.val (.int p1)] []))
          refine Fin.step (fun _ => XS.iloadN X0.here hx rfl (hb hby d1_37) rfl) ?_
          show Fin p e below s _ _ _ (s₁.setTop (mkF m 38 #[.val (.int p1)] [(.int p1)]))
          refine Fin.step (fun _ => XS.bipush X0.here hx rfl (hb hby d1_38)) ?_
          show Fin p e below s _ _ _ (s₁.setTop (mkF m 40 #[.val (.int p1)] [(.int (60 : Int32)), (.int p1)]))
          by_cases hcy10 : p1 = (60 : Int32)
          · refine Fin.step (fun _ => XS.icmpNo X0.here hx rfl (hb hby d1_40) rfl (teq (hcy10 : (p1 = (60 : Int32)))).2) ?_
            show Fin p e below s _ _ _ (s₁.setTop (mkF m 43 #[.val (.int p1)] []))
            refine Fin.step (fun _ => XS.iconst X0.here hx rfl (hb hby d1_43)) ?_
            show Fin p e below s _ _ _ (s₁.setTop (mkF m 44 #[.val (.int p1)] [(.int (0 : Int32))]))
            refine Fin.retI X0 hx hret hlk (hb hby d1_44) (by decide) (by decide) ?_
            show Q1 Z p1 h0 n0 _ s₁.heap _
            rw [e0]
            exact ⟨(congrArg (fun z => some (Value.int z)) (by simp [own_vo, hcy1, hcy6, hcy7, hcy9, hcy10])), N0, rfl⟩
          · refine Fin.step (fun _ => XS.icmpYes X0.here hx rfl (pc0 := 40) (pc' := 45) rfl (hb hby d1_40) rfl (feq (hcy10 : ¬ (p1 = (60 : Int32)))).2 (by decide) (by decide)) ?_
            show Fin p e below s _ _ _ (s₁.setTop (mkF m 45 #[.val (.int p1)] []))
            refine Fin.step (fun _ => XS.iconst X0.here hx rfl (hb hby d1_45)) ?_
            show Fin p e below s _ _ _ (s₁.setTop (mkF m 46 #[.val (.int p1)] [(.int (-1 : Int32))]))
            refine Fin.retI X0 hx hret hlk (hb hby d1_46) (by decide) (by decide) ?_
            show Q1 Z p1 h0 n0 _ s₁.heap _
            rw [e0]
            exact ⟨(congrArg (fun z => some (Value.int z)) (by simp [own_vo, hcy1, hcy6, hcy7, hcy9, hcy10])), N0, rfl⟩
        · refine Fin.step (fun _ => XS.icmpNo X0.here hx rfl (hb hby d1_26) rfl (flt (hcy9 : ¬ ((90 : Int32) < p1))).2.2.1) ?_
          show Fin p e below s _ _ _ (s₁.setTop (mkF m 29 #[.val (.int p1)] []))
          refine Fin.step (fun _ => XS.iloadN X0.here hx rfl (hb hby d1_29) rfl) ?_
          show Fin p e below s _ _ _ (s₁.setTop (mkF m 30 #[.val (.int p1)] [(.int p1)]))
          refine Fin.step (fun _ => XS.bipush X0.here hx rfl (hb hby d1_30)) ?_
          show Fin p e below s _ _ _ (s₁.setTop (mkF m 32 #[.val (.int p1)] [(.int (65 : Int32)), (.int p1)]))
          refine Fin.step (fun _ => XS.isub X0.here hx rfl (hb hby d1_32) rfl) ?_
          show Fin p e below s _ _ _ (s₁.setTop (mkF m 33 #[.val (.int p1)] [(.int (p1 - (65 : Int32)))]))
          refine Fin.step (fun _ => XS.bipush X0.here hx rfl (hb hby d1_33)) ?_
          show Fin p e below s _ _ _ (s₁.setTop (mkF m 35 #[.val (.int p1)] [(.int (10 : Int32)), (.int (p1 - (65 : Int32)))]))
          refine Fin.step (fun _ => XS.iadd X0.here hx rfl (hb hby d1_35) rfl) ?_
          show Fin p e below s _ _ _ (s₁.setTop (mkF m 36 #[.val (.int p1)] [(.int ((p1 - (65 : Int32)) + (10 : Int32)))]))
          refine Fin.retI X0 hx hret hlk (hb hby d1_36) (by decide) (by decide) ?_
          show Q1 Z p1 h0 n0 _ s₁.heap _
          rw [e0]
          exact ⟨(congrArg (fun z => some (Value.int z)) (by simp [own_vo, hcy1, hcy6, hcy7, hcy9])), N0, rfl⟩
    · refine Fin.step (fun _ => XS.icmpNo X0.here hx rfl (hb hby d1_9) rfl (flt (hcy6 : ¬ ((57 : Int32) < p1))).2.2.1) ?_
      show Fin p e below s _ _ _ (s₁.setTop (mkF m 12 #[.val (.int p1)] []))
      refine Fin.step (fun _ => XS.iloadN X0.here hx rfl (hb hby d1_12) rfl) ?_
      show Fin p e below s _ _ _ (s₁.setTop (mkF m 13 #[.val (.int p1)] [(.int p1)]))
      refine Fin.step (fun _ => XS.bipush X0.here hx rfl (hb hby d1_13)) ?_
      show Fin p e below s _ _ _ (s₁.setTop (mkF m 15 #[.val (.int p1)] [(.int (48 : Int32)), (.int p1)]))
      refine Fin.step (fun _ => XS.isub X0.here hx rfl (hb hby d1_15) rfl) ?_
      show Fin p e below s _ _ _ (s₁.setTop (mkF m 16 #[.val (.int p1)] [(.int (p1 - (48 : Int32)))]))
      refine Fin.retI X0 hx hret hlk (hb hby d1_16) (by decide) (by decide) ?_
      show Q1 Z p1 h0 n0 _ s₁.heap _
      rw [e0]
      exact ⟨(congrArg (fun z => some (Value.int z)) (by simp [own_vo, hcy1, hcy6])), N0, rfl⟩
theorem pn_0 : plainName "com/example/wicketgate/wicketgate/core/mrz/MrzCharactersValueOfPinLaw" = true := by first | (simp [plainName, overriddenIn]; done) | decide +kernel
theorem pd_4 : parseMethodDescriptor "(C)I" = some ⟨[.char], some .int⟩ := by decide +kernel
theorem pd_5 : parseMethodDescriptor "(I)C" = some ⟨[.int], some .char⟩ := by decide +kernel
theorem ef_rm0 (m : MethodId) (x0 : Int32) (x1 : Int32) : entryFrame m #[(.int x0), (.int x1)] maxLocals = mkF m 0 #[.val (.int x0), .val (.int x1), .unset, .unset, .unset, .unset, .unset, .unset, .unset, .unset] [] := by first | (simp [entryFrame, mkF, argsToLocals, Value.category, maxLocals]; done) | rfl
def Q0 (Z : State) (px0 : Int32) (pk : Int32) (fv : Value) (wc : Int32) (h0 : Heap) (n0 : Nat) (v : Option Value) (h : Heap) (L : List Loc) : Prop := v = some (.int (1 : Int32)) ∧ Fr n0 L ∧ Keep h0 h []
set_option maxRecDepth 65536 in
set_option maxHeartbeats 40000000 in
theorem rm0 (l : Launch) (Z : State) (a0 : Array Value) (hw : ∀ d ∈ tables_1, d.before a0 Z = true) (ws : List Jvm.Cond) (px0 : Int32) (pk : Int32) (fv : Value) (wc : Int32) (h0 : Heap) (n0 : Nat) (Z0 : n0 ≤ h0.size) (HS_jdk_internal_util_Preconditions_SIOOBE_FORMATTER : Sta Z h0 "jdk/internal/util/Preconditions" "SIOOBE_FORMATTER" "Ljava/util/function/BiFunction;" fv) (HS_java_lang_String_COMPACT_STRINGS : Sta Z h0 "java/lang/String" "COMPACT_STRINGS" "Z" (.int wc)) (hfv : fv.isRef = true) (hwc : ¬ wc = 0) (hheld : Jvm.Lit.constHeld Z "com/example/wicketgate/wicketgate/core/mrz/MrzCharactersValueOfPinLaw" 7) (hcw : Jvm.Lit.compactW.before a0 Z = true) :
    MetFree l x (head1 (Jvm.Cond.code x code maxLocals ret :: ws) room_1) (fun a U => a = #[(.int px0), (.int pk)] ∧ U = Z ∧ Z.heap = h0) (fun _ _ _ _ _ => True) (fun _ U o U' => ∃ v L, o = .returned v ∧ Q0 Z px0 pk fv wc h0 n0 v U'.heap L ∧ ReturnedEndW U o U' L room_1.cells room_1.slots) := by
  refine MetFree.of_bodySF (plainFor_of_name pn_0) hisR ?_
  intro p e s m args below meth c s₁ Bd hml0 hP hK
  obtain ⟨rfl, hUZ, hh0⟩ := hP
  have hZ : Z.Warmed39 s.vm := by rw [hUZ]; exact State.Warmed39.refl _
  have hh : s.heap = h0 := by rw [hUZ]; exact hh0
  have hx := Bd.exec
  have hby := Bd.bytes
  have hlk := BodyLoose.notSynchronized Bd
  have hret := Bd.returns
  have hml : c.maxLocals = 10 := hml0
  have hown : s.vm.findClass "com/example/wicketgate/wicketgate/core/mrz/MrzCharactersValueOfPinLaw" = some m.cls := findClass_of_methodNamed Bd.named
  have hnm := (name_of_methodNamed Bd.named Bd.method).1
  have X0 : Stand p l e room_1 s m #[(.int px0), (.int pk)] below meth c s₁ [] 0 0 := Stand.of_body Bd
  have e0 : s₁.heap = h0 := by rw [← hh, Bd.state]; rfl
  have N0 := Fr.nil n0
  have K0 : Keep h0 h0 [] := Keep.refl h0 _
  refine FinW.step (Q := fun v h L => Q0 Z px0 pk fv wc h0 n0 v h L) (st' := s₁.setTop (mkF m 0 #[.val (.int px0), .val (.int pk), .unset, .unset, .unset, .unset, .unset, .unset, .unset, .unset] [])) (fun t k => castTop (ef_rm0 m px0 pk) k) ?_
  show FinW p e below s _ _ _ (s₁.setTop (mkF m 0 #[.val (.int px0), .val (.int pk), .unset, .unset, .unset, .unset, .unset, .unset, .unset, .unset] []))
  have wS : ∀ d ∈ Bundle.stringAtoms, d.before a0 Z = true := by
    intro d hd
    simp only [Bundle.stringAtoms, List.mem_cons, List.not_mem_nil, or_false] at hd
    rcases hd with rfl | rfl | rfl | rfl | rfl | rfl | rfl
    · exact (hw _ (List.mem_of_getElem? (i := 1) rfl))
    · exact (hw _ (List.mem_of_getElem? (i := 2) rfl))
    · exact (hw _ (List.mem_of_getElem? (i := 3) rfl))
    · exact (hw _ (List.mem_of_getElem? (i := 4) rfl))
    · exact (hw _ (List.mem_of_getElem? (i := 5) rfl))
    · exact (hw _ (List.mem_of_getElem? (i := 6) rfl))
    · exact (hw _ (List.mem_of_getElem? (i := 7) rfl))
  obtain ⟨ay1, Ty1, hy1, k1y1, by1, kby1, Xy1, ey1, Ey1, hSy1, hky1, hZ, hown, Ay1, Fcy1, Fvy1, Vy1, -, -, Iy1, sty1⟩ := ldcSV (s := s) (vm0 := s.vm) X0 hx hZ hown (hw _ (List.mem_of_getElem? (i := 0) rfl)) wS e0 ((State.WarmedH.refl s).since 0) (Nat.zero_le _) (Fr.nil _) (fun b cl q => by rw [hUZ]; exact q) (by rw [hUZ]; exact IB.start : IB Z s.vm []) (by simp) hheld hcw (vs := [(.int (48 : Int32)), (.int (49 : Int32)), (.int (50 : Int32)), (.int (51 : Int32)), (.int (52 : Int32)), (.int (53 : Int32)), (.int (54 : Int32)), (.int (55 : Int32)), (.int (56 : Int32)), (.int (57 : Int32)), (.int (65 : Int32)), (.int (66 : Int32)), (.int (67 : Int32)), (.int (68 : Int32)), (.int (69 : Int32)), (.int (70 : Int32)), (.int (71 : Int32)), (.int (72 : Int32)), (.int (73 : Int32)), (.int (74 : Int32)), (.int (75 : Int32)), (.int (76 : Int32)), (.int (77 : Int32)), (.int (78 : Int32)), (.int (79 : Int32)), (.int (80 : Int32)), (.int (81 : Int32)), (.int (82 : Int32)), (.int (83 : Int32)), (.int (84 : Int32)), (.int (85 : Int32)), (.int (86 : Int32)), (.int (87 : Int32)), (.int (88 : Int32)), (.int (89 : Int32)), (.int (90 : Int32)), (.int (60 : Int32))]) (z := (37 : Int32)) ⟨by decide, by rfl⟩ (by decide) (by decide) (g := (mkF m 0 #[.val (.int px0), .val (.int pk), .unset, .unset, .unset, .unset, .unset, .unset, .unset, .unset] [])) rfl (hb hby at_0) (n := 148) (by decide) (by decide) (by decide) (by decide)
  have Zy1 : n0 ≤ hy1.size := Nat.le_trans Z0 Ey1.1
  have Ky1 : Keep h0 hy1 [] := K0.ext Ey1
  refine FinW.step (sty1) ?_
  show FinW p e below s _ _ _ (Ty1.setTop (mkF m 2 #[.val (.int px0), .val (.int pk), .unset, .unset, .unset, .unset, .unset, .unset, .unset, .unset] [(.ref ay1)]))
  refine FinW.step (fun _ => XS.astoreN Xy1.here hx rfl (hb hby at_2) rfl rfl (l' := #[.val (.int px0), .val (.int pk), .val (.ref ay1), .unset, .unset, .unset, .unset, .unset, .unset, .unset]) rfl) ?_
  show FinW p e below s _ _ _ (Ty1.setTop (mkF m 3 #[.val (.int px0), .val (.int pk), .val (.ref ay1), .unset, .unset, .unset, .unset, .unset, .unset, .unset] []))
  refine FinW.step (fun _ => XS.iloadN Xy1.here hx rfl (hb hby at_3) rfl) ?_
  show FinW p e below s _ _ _ (Ty1.setTop (mkF m 4 #[.val (.int px0), .val (.int pk), .val (.ref ay1), .unset, .unset, .unset, .unset, .unset, .unset, .unset] [(.int px0)]))
  refine FinW.step (Xy1.ldcInt hx hown (mvT hZ (hw _ (List.mem_of_getElem? (i := 8) rfl))) (g := (mkF m 4 #[.val (.int px0), .val (.int pk), .val (.ref ay1), .unset, .unset, .unset, .unset, .unset, .unset, .unset] [(.int px0)])) rfl (hb hby at_4)) ?_
  show FinW p e below s _ _ _ (Ty1.setTop (mkF m 6 #[.val (.int px0), .val (.int pk), .val (.ref ay1), .unset, .unset, .unset, .unset, .unset, .unset, .unset] [(.int (65535 : Int32)), (.int px0)]))
  refine FinW.step (fun _ => XS.iand Xy1.here hx rfl (hb hby at_6) rfl) ?_
  show FinW p e below s _ _ _ (Ty1.setTop (mkF m 7 #[.val (.int px0), .val (.int pk), .val (.ref ay1), .unset, .unset, .unset, .unset, .unset, .unset, .unset] [(.int (px0 &&& (65535 : Int32)))]))
  refine FinW.step (fun _ => XS.i2c Xy1.here hx rfl (hb hby at_7) rfl) ?_
  show FinW p e below s _ _ _ (Ty1.setTop (mkF m 8 #[.val (.int px0), .val (.int pk), .val (.ref ay1), .unset, .unset, .unset, .unset, .unset, .unset, .unset] [(.int ((px0 &&& (65535 : Int32)).toUInt32.toUInt16.toUInt32.toInt32))]))
  refine FinW.step (fun _ => XS.istoreN Xy1.here hx rfl (hb hby at_8) rfl (l' := #[.val (.int px0), .val (.int pk), .val (.ref ay1), .val (.int ((px0 &&& (65535 : Int32)).toUInt32.toUInt16.toUInt32.toInt32)), .unset, .unset, .unset, .unset, .unset, .unset]) rfl) ?_
  show FinW p e below s _ _ _ (Ty1.setTop (mkF m 9 #[.val (.int px0), .val (.int pk), .val (.ref ay1), .val (.int ((px0 &&& (65535 : Int32)).toUInt32.toUInt16.toUInt32.toInt32)), .unset, .unset, .unset, .unset, .unset, .unset] []))
  obtain ⟨C0, h_C0⟩ : ∃ z : Int32, z = ((px0 &&& (65535 : Int32)).toUInt32.toUInt16.toUInt32.toInt32) := ⟨_, rfl⟩
  rw [← h_C0]
  show FinW p e below s _ _ _ (Ty1.setTop (mkF m 9 #[.val (.int px0), .val (.int pk), .val (.ref ay1), .val (.int C0), .unset, .unset, .unset, .unset, .unset, .unset] []))
  have hC : 0 ≤ C0.toInt ∧ C0.toInt < 65536 := by rw [h_C0]; exact own_c16 _
  refine FinW.step (fun _ => XS.iloadN Xy1.here hx rfl (hb hby at_9) rfl) ?_
  show FinW p e below s _ _ _ (Ty1.setTop (mkF m 10 #[.val (.int px0), .val (.int pk), .val (.ref ay1), .val (.int C0), .unset, .unset, .unset, .unset, .unset, .unset] [(.int C0)]))
  obtain ⟨_, _, ⟨Ty2, Ly2, ky2, ny2⟩, -, Xy2, ⟨Lcy2, hQy2, ly2, yy2, zy2⟩, sty2⟩ := Jvm.LawKit.callS Xy1 hx (y := (⟨"com/example/wicketgate/wicketgate/core/mrz/MrzCharacters", "valueOf", "(C)I"⟩ : MethodName)) hown (mvT hZ (hw _ (List.mem_of_getElem? (i := 9) rfl))) (mvT hZ (hw _ (List.mem_of_getElem? (i := 10) rfl))) (mvT hZ (hw _ (List.mem_of_getElem? (i := 11) rfl))) (mvT hZ (hw _ (List.mem_of_getElem? (i := 12) rfl))) (by decide) (backOf (W := 0) (rm1 l Z a0 hw [] C0 hy1 n0 Zy1 ) hZ (hw _ (List.mem_of_getElem? (i := 12) rfl)) (hw _ (List.mem_of_getElem? (i := 11) rfl)) (by decide) (by decide)) (g := (mkF m 10 #[.val (.int px0), .val (.int pk), .val (.ref ay1), .val (.int C0), .unset, .unset, .unset, .unset, .unset, .unset] [(.int C0)])) rfl (by rw [hml]; rfl) (argsL := [(.int C0)]) (rest := []) (lenOf pd_4 rfl) rfl (by show 2 * 0 + _ ≤ _; exact Nat.le_of_eq rfl) (hb hby at_10) (fun _ _ => ⟨rfl, ey1, (by decide : 2 + 0 ≤ _), (by decide : 152 + 0 ≤ _)⟩)
  dsimp only [Pt.U, Pt.locs, Pt.cells, Pt.slots] at Xy2 ly2 yy2 zy2 sty2 hQy2
  subst ly2 yy2 zy2
  obtain ⟨rfl, Nqy2, eqy2⟩ := hQy2
  have Ny2 := Fr.app N0 Nqy2
  refine FinW.step (sty2) ?_
  show FinW p e below s _ _ _ (Ty2.setTop (mkF m 13 #[.val (.int px0), .val (.int pk), .val (.ref ay1), .val (.int C0), .unset, .unset, .unset, .unset, .unset, .unset] [(.int (own_vo C0))]))
  refine FinW.step (fun _ => XS.istore Xy2.here hx rfl (hb hby at_13) rfl (l' := #[.val (.int px0), .val (.int pk), .val (.ref ay1), .val (.int C0), .val (.int (own_vo C0)), .unset, .unset, .unset, .unset, .unset]) rfl) ?_
  show FinW p e below s _ _ _ (Ty2.setTop (mkF m 15 #[.val (.int px0), .val (.int pk), .val (.ref ay1), .val (.int C0), .val (.int (own_vo C0)), .unset, .unset, .unset, .unset, .unset] []))
  rcases own_cls C0 hC with qn | qn | qn
  · rw [qn]
    show FinW p e below s _ _ _ (Ty2.setTop (mkF m 15 #[.val (.int px0), .val (.int pk), .val (.ref ay1), .val (.int C0), .val (.int (-1 : Int32)), .unset, .unset, .unset, .unset, .unset] []))
    refine FinW.step (fun _ => XS.iload Xy2.here hx rfl (hb hby at_15) rfl) ?_
    show FinW p e below s _ _ _ (Ty2.setTop (mkF m 17 #[.val (.int px0), .val (.int pk), .val (.ref ay1), .val (.int C0), .val (.int (-1 : Int32)), .unset, .unset, .unset, .unset, .unset] [(.int (-1 : Int32))]))
    refine FinW.step (fun _ => XS.ifNo Xy2.here hx rfl (hb hby at_17) rfl ((if0 _ _).trans (tlt ((by decide) : ((-1 : Int32) < (0 : Int32)))).2.1)) ?_
    show FinW p e below s _ _ _ (Ty2.setTop (mkF m 20 #[.val (.int px0), .val (.int pk), .val (.ref ay1), .val (.int C0), .val (.int (-1 : Int32)), .unset, .unset, .unset, .unset, .unset] []))
    refine FinW.step (fun _ => XS.iload Xy2.here hx rfl (hb hby at_20) rfl) ?_
    show FinW p e below s _ _ _ (Ty2.setTop (mkF m 22 #[.val (.int px0), .val (.int pk), .val (.ref ay1), .val (.int C0), .val (.int (-1 : Int32)), .unset, .unset, .unset, .unset, .unset] [(.int (-1 : Int32))]))
    refine FinW.step (fun _ => XS.iconst Xy2.here hx rfl (hb hby at_22)) ?_
    show FinW p e below s _ _ _ (Ty2.setTop (mkF m 23 #[.val (.int px0), .val (.int pk), .val (.ref ay1), .val (.int C0), .val (.int (-1 : Int32)), .unset, .unset, .unset, .unset, .unset] [(.int (-1 : Int32)), (.int (-1 : Int32))]))
    refine FinW.step (fun _ => XS.icmpNo Xy2.here hx rfl (hb hby at_23) rfl (teq ((by decide) : ((-1 : Int32) = (-1 : Int32)))).2) ?_
    show FinW p e below s _ _ _ (Ty2.setTop (mkF m 26 #[.val (.int px0), .val (.int pk), .val (.ref ay1), .val (.int C0), .val (.int (-1 : Int32)), .unset, .unset, .unset, .unset, .unset] []))
    refine FinW.step (fun _ => XS.iconst Xy2.here hx rfl (hb hby at_26)) ?_
    show FinW p e below s _ _ _ (Ty2.setTop (mkF m 27 #[.val (.int px0), .val (.int pk), .val (.ref ay1), .val (.int C0), .val (.int (-1 : Int32)), .unset, .unset, .unset, .unset, .unset] [(.int (1 : Int32))]))
    refine FinW.step (fun _ => XS.goto Xy2.here hx rfl (pc0 := 27) (pc' := 31) rfl (hb hby at_27) (by decide) (by decide)) ?_
    show FinW p e below s _ _ _ (Ty2.setTop (mkF m 31 #[.val (.int px0), .val (.int pk), .val (.ref ay1), .val (.int C0), .val (.int (-1 : Int32)), .unset, .unset, .unset, .unset, .unset] [(.int (1 : Int32))]))
    refine FinW.step (fun _ => XS.istore Xy2.here hx rfl (hb hby at_31) rfl (l' := #[.val (.int px0), .val (.int pk), .val (.ref ay1), .val (.int C0), .val (.int (-1 : Int32)), .val (.int (1 : Int32)), .unset, .unset, .unset, .unset]) rfl) ?_
    show FinW p e below s _ _ _ (Ty2.setTop (mkF m 33 #[.val (.int px0), .val (.int pk), .val (.ref ay1), .val (.int C0), .val (.int (-1 : Int32)), .val (.int (1 : Int32)), .unset, .unset, .unset, .unset] []))
    refine FinW.step (fun _ => XS.goto Xy2.here hx rfl (pc0 := 33) (pc' := 77) rfl (hb hby at_33) (by decide) (by decide)) ?_
    show FinW p e below s _ _ _ (Ty2.setTop (mkF m 77 #[.val (.int px0), .val (.int pk), .val (.ref ay1), .val (.int C0), .val (.int (-1 : Int32)), .val (.int (1 : Int32)), .unset, .unset, .unset, .unset] []))
    refine FinW.step (fun _ => XS.iloadN Xy2.here hx rfl (hb hby at_77) rfl) ?_
    show FinW p e below s _ _ _ (Ty2.setTop (mkF m 78 #[.val (.int px0), .val (.int pk), .val (.ref ay1), .val (.int C0), .val (.int (-1 : Int32)), .val (.int (1 : Int32)), .unset, .unset, .unset, .unset] [(.int pk)]))
    refine FinW.step (Xy2.ldcInt hx hown (mvT hZ (hw _ (List.mem_of_getElem? (i := 13) rfl))) (g := (mkF m 78 #[.val (.int px0), .val (.int pk), .val (.ref ay1), .val (.int C0), .val (.int (-1 : Int32)), .val (.int (1 : Int32)), .unset, .unset, .unset, .unset] [(.int pk)])) rfl (hb hby at_78)) ?_
    show FinW p e below s _ _ _ (Ty2.setTop (mkF m 80 #[.val (.int px0), .val (.int pk), .val (.ref ay1), .val (.int C0), .val (.int (-1 : Int32)), .val (.int (1 : Int32)), .unset, .unset, .unset, .unset] [(.int (2147483647 : Int32)), (.int pk)]))
    refine FinW.step (fun _ => XS.iand Xy2.here hx rfl (hb hby at_80) rfl) ?_
    show FinW p e below s _ _ _ (Ty2.setTop (mkF m 81 #[.val (.int px0), .val (.int pk), .val (.ref ay1), .val (.int C0), .val (.int (-1 : Int32)), .val (.int (1 : Int32)), .unset, .unset, .unset, .unset] [(.int (pk &&& (2147483647 : Int32)))]))
    refine FinW.step (fun _ => XS.bipush Xy2.here hx rfl (hb hby at_81)) ?_
    show FinW p e below s _ _ _ (Ty2.setTop (mkF m 83 #[.val (.int px0), .val (.int pk), .val (.ref ay1), .val (.int C0), .val (.int (-1 : Int32)), .val (.int (1 : Int32)), .unset, .unset, .unset, .unset] [(.int (37 : Int32)), (.int (pk &&& (2147483647 : Int32)))]))
    refine FinW.step (fun _ => iremM Xy2 hx (g := (mkF m 83 #[.val (.int px0), .val (.int pk), .val (.ref ay1), .val (.int C0), .val (.int (-1 : Int32)), .val (.int (1 : Int32)), .unset, .unset, .unset, .unset] [(.int (37 : Int32)), (.int (pk &&& (2147483647 : Int32)))])) rfl (hb hby at_83) rfl (by decide)) ?_
    show FinW p e below s _ _ _ (Ty2.setTop (mkF m 84 #[.val (.int px0), .val (.int pk), .val (.ref ay1), .val (.int C0), .val (.int (-1 : Int32)), .val (.int (1 : Int32)), .unset, .unset, .unset, .unset] [(.int ((pk &&& (2147483647 : Int32)) % (37 : Int32)))]))
    refine FinW.step (fun _ => XS.istore Xy2.here hx rfl (hb hby at_84) rfl (l' := #[.val (.int px0), .val (.int pk), .val (.ref ay1), .val (.int C0), .val (.int (-1 : Int32)), .val (.int (1 : Int32)), .val (.int ((pk &&& (2147483647 : Int32)) % (37 : Int32))), .unset, .unset, .unset]) rfl) ?_
    show FinW p e below s _ _ _ (Ty2.setTop (mkF m 86 #[.val (.int px0), .val (.int pk), .val (.ref ay1), .val (.int C0), .val (.int (-1 : Int32)), .val (.int (1 : Int32)), .val (.int ((pk &&& (2147483647 : Int32)) % (37 : Int32))), .unset, .unset, .unset] []))
    obtain ⟨I0, h_I0⟩ : ∃ z : Int32, z = ((pk &&& (2147483647 : Int32)) % (37 : Int32)) := ⟨_, rfl⟩
    rw [← h_I0]
    show FinW p e below s _ _ _ (Ty2.setTop (mkF m 86 #[.val (.int px0), .val (.int pk), .val (.ref ay1), .val (.int C0), .val (.int (-1 : Int32)), .val (.int (1 : Int32)), .val (.int I0), .unset, .unset, .unset] []))
    have hI : 0 ≤ I0.toInt ∧ I0.toInt < 37 := by rw [h_I0]; exact own_37 _
    refine FinW.step (fun _ => XS.aloadN Xy2.here hx rfl (hb hby at_86) rfl rfl) ?_
    show FinW p e below s _ _ _ (Ty2.setTop (mkF m 87 #[.val (.int px0), .val (.int pk), .val (.ref ay1), .val (.int C0), .val (.int (-1 : Int32)), .val (.int (1 : Int32)), .val (.int I0), .unset, .unset, .unset] [(.ref ay1)]))
    refine FinW.step (fun _ => XS.iload Xy2.here hx rfl (hb hby at_87) rfl) ?_
    show FinW p e below s _ _ _ (Ty2.setTop (mkF m 89 #[.val (.int px0), .val (.int pk), .val (.ref ay1), .val (.int C0), .val (.int (-1 : Int32)), .val (.int (1 : Int32)), .val (.int I0), .unset, .unset, .unset] [(.int I0), (.ref ay1)]))
    obtain ⟨cqy3, kqy3, qy3a, qy3b, qy3c⟩ := isOf hZ eqy2 Ay1
    obtain ⟨_, _, ⟨Ty3, Ly3, ky3, ny3⟩, -, Xy3, ⟨Lcy3, hQy3, ly3, yy3, zy3⟩, sty3⟩ := Xy2.virtualBack hx (y := (⟨"java/lang/String", "charAt", "(I)C"⟩ : MethodName)) (z := (⟨"java/lang/String", "charAt", "(I)C"⟩ : MethodName)) hown (mvT hZ (hw _ (List.mem_of_getElem? (i := 14) rfl))) (mvT hZ (hw _ (List.mem_of_getElem? (i := 15) rfl))) (notFace_of_selects (args := #[]) (mvT hZ (hw _ (List.mem_of_getElem? (i := 17) rfl)))) (mvT hZ (hw _ (List.mem_of_getElem? (i := 17) rfl))) (mvT hZ (hw _ (List.mem_of_getElem? (i := 16) rfl))) (by decide) (backOf (W := 0) (rm2 l Z a0 hw [] ay1 I0 by1 kby1 (37 : Int32) [(.int (48 : Int32)), (.int (49 : Int32)), (.int (50 : Int32)), (.int (51 : Int32)), (.int (52 : Int32)), (.int (53 : Int32)), (.int (54 : Int32)), (.int (55 : Int32)), (.int (56 : Int32)), (.int (57 : Int32)), (.int (65 : Int32)), (.int (66 : Int32)), (.int (67 : Int32)), (.int (68 : Int32)), (.int (69 : Int32)), (.int (70 : Int32)), (.int (71 : Int32)), (.int (72 : Int32)), (.int (73 : Int32)), (.int (74 : Int32)), (.int (75 : Int32)), (.int (76 : Int32)), (.int (77 : Int32)), (.int (78 : Int32)), (.int (79 : Int32)), (.int (80 : Int32)), (.int (81 : Int32)), (.int (82 : Int32)), (.int (83 : Int32)), (.int (84 : Int32)), (.int (85 : Int32)), (.int (86 : Int32)), (.int (87 : Int32)), (.int (88 : Int32)), (.int (89 : Int32)), (.int (90 : Int32)), (.int (60 : Int32))] fv wc (own_al I0) hy1 n0 Zy1 Ay1 Fcy1 Fvy1 Vy1 (Sta_keep HS_jdk_internal_util_Preconditions_SIOOBE_FORMATTER Ky1) (Sta_keep HS_java_lang_String_COMPACT_STRINGS Ky1) hfv hwc (own_in hI) (own_get hI)) hZ (hw _ (List.mem_of_getElem? (i := 18) rfl)) (hw _ (List.mem_of_getElem? (i := 1) rfl)) (by decide) (by decide)) qy3a qy3c (g := (mkF m 89 #[.val (.int px0), .val (.int pk), .val (.ref ay1), .val (.int C0), .val (.int (-1 : Int32)), .val (.int (1 : Int32)), .val (.int I0), .unset, .unset, .unset] [(.int I0), (.ref ay1)])) rfl (by rw [hml]; rfl) (Steps.refl _) (argsL := [(.int I0)]) (rest := []) (lenOf pd_5 rfl) rfl (by show 2 * 0 + _ ≤ _; exact Nat.le_of_eq rfl) (hb hby at_89) (fun _ _ => ⟨rfl, eqy2, (by decide : 2 + 0 ≤ _), (by decide : 152 + 0 ≤ _)⟩)
    dsimp only [Pt.U, Pt.locs, Pt.cells, Pt.slots] at Xy3 ly3 yy3 zy3 sty3 hQy3
    subst ly3 yy3 zy3
    obtain ⟨rfl, Nqy3, eqy3⟩ := hQy3
    have Ny3 := Fr.app Ny2 Nqy3
    refine FinW.step (fun _ k => sty3.trans k) ?_
    show FinW p e below s _ _ _ (Ty3.setTop (mkF m 92 #[.val (.int px0), .val (.int pk), .val (.ref ay1), .val (.int C0), .val (.int (-1 : Int32)), .val (.int (1 : Int32)), .val (.int I0), .unset, .unset, .unset] [(.int (own_ch (own_al I0)))]))
    refine FinW.step (fun _ => XS.istore Xy3.here hx rfl (hb hby at_92) rfl (l' := #[.val (.int px0), .val (.int pk), .val (.ref ay1), .val (.int C0), .val (.int (-1 : Int32)), .val (.int (1 : Int32)), .val (.int I0), .val (.int (own_ch (own_al I0))), .unset, .unset]) rfl) ?_
    show FinW p e below s _ _ _ (Ty3.setTop (mkF m 94 #[.val (.int px0), .val (.int pk), .val (.ref ay1), .val (.int C0), .val (.int (-1 : Int32)), .val (.int (1 : Int32)), .val (.int I0), .val (.int (own_ch (own_al I0))), .unset, .unset] []))
    refine FinW.step (fun _ => XS.iload Xy3.here hx rfl (hb hby at_94) rfl) ?_
    show FinW p e below s _ _ _ (Ty3.setTop (mkF m 96 #[.val (.int px0), .val (.int pk), .val (.ref ay1), .val (.int C0), .val (.int (-1 : Int32)), .val (.int (1 : Int32)), .val (.int I0), .val (.int (own_ch (own_al I0))), .unset, .unset] [(.int I0)]))
    refine FinW.step (fun _ => XS.bipush Xy3.here hx rfl (hb hby at_96)) ?_
    show FinW p e below s _ _ _ (Ty3.setTop (mkF m 98 #[.val (.int px0), .val (.int pk), .val (.ref ay1), .val (.int C0), .val (.int (-1 : Int32)), .val (.int (1 : Int32)), .val (.int I0), .val (.int (own_ch (own_al I0))), .unset, .unset] [(.int (36 : Int32)), (.int I0)]))
    by_cases hcy4 : I0 = (36 : Int32)
    · refine FinW.step (fun _ => XS.icmpNo Xy3.here hx rfl (hb hby at_98) rfl (teq (hcy4 : (I0 = (36 : Int32)))).2) ?_
      show FinW p e below s _ _ _ (Ty3.setTop (mkF m 101 #[.val (.int px0), .val (.int pk), .val (.ref ay1), .val (.int C0), .val (.int (-1 : Int32)), .val (.int (1 : Int32)), .val (.int I0), .val (.int (own_ch (own_al I0))), .unset, .unset] []))
      refine FinW.step (fun _ => XS.iconst Xy3.here hx rfl (hb hby at_101)) ?_
      show FinW p e below s _ _ _ (Ty3.setTop (mkF m 102 #[.val (.int px0), .val (.int pk), .val (.ref ay1), .val (.int C0), .val (.int (-1 : Int32)), .val (.int (1 : Int32)), .val (.int I0), .val (.int (own_ch (own_al I0))), .unset, .unset] [(.int (0 : Int32))]))
      refine FinW.step (fun _ => XS.goto Xy3.here hx rfl (pc0 := 102) (pc' := 107) rfl (hb hby at_102) (by decide) (by decide)) ?_
      show FinW p e below s _ _ _ (Ty3.setTop (mkF m 107 #[.val (.int px0), .val (.int pk), .val (.ref ay1), .val (.int C0), .val (.int (-1 : Int32)), .val (.int (1 : Int32)), .val (.int I0), .val (.int (own_ch (own_al I0))), .unset, .unset] [(.int (0 : Int32))]))
      refine FinW.step (fun _ => XS.istore Xy3.here hx rfl (hb hby at_107) rfl (l' := #[.val (.int px0), .val (.int pk), .val (.ref ay1), .val (.int C0), .val (.int (-1 : Int32)), .val (.int (1 : Int32)), .val (.int I0), .val (.int (own_ch (own_al I0))), .val (.int (0 : Int32)), .unset]) rfl) ?_
      show FinW p e below s _ _ _ (Ty3.setTop (mkF m 109 #[.val (.int px0), .val (.int pk), .val (.ref ay1), .val (.int C0), .val (.int (-1 : Int32)), .val (.int (1 : Int32)), .val (.int I0), .val (.int (own_ch (own_al I0))), .val (.int (0 : Int32)), .unset] []))
      refine FinW.step (fun _ => XS.iload Xy3.here hx rfl (hb hby at_109) rfl) ?_
      show FinW p e below s _ _ _ (Ty3.setTop (mkF m 111 #[.val (.int px0), .val (.int pk), .val (.ref ay1), .val (.int C0), .val (.int (-1 : Int32)), .val (.int (1 : Int32)), .val (.int I0), .val (.int (own_ch (own_al I0))), .val (.int (0 : Int32)), .unset] [(.int (own_ch (own_al I0)))]))
      obtain ⟨_, _, ⟨Ty5, Ly5, ky5, ny5⟩, -, Xy5, ⟨Lcy5, hQy5, ly5, yy5, zy5⟩, sty5⟩ := Jvm.LawKit.callS Xy3 hx (y := (⟨"com/example/wicketgate/wicketgate/core/mrz/MrzCharacters", "valueOf", "(C)I"⟩ : MethodName)) hown (mvT hZ (hw _ (List.mem_of_getElem? (i := 9) rfl))) (mvT hZ (hw _ (List.mem_of_getElem? (i := 10) rfl))) (mvT hZ (hw _ (List.mem_of_getElem? (i := 11) rfl))) (mvT hZ (hw _ (List.mem_of_getElem? (i := 12) rfl))) (by decide) (backOf (W := 0) (rm1 l Z a0 hw [] (own_ch (own_al I0)) hy1 n0 Zy1 ) hZ (hw _ (List.mem_of_getElem? (i := 12) rfl)) (hw _ (List.mem_of_getElem? (i := 11) rfl)) (by decide) (by decide)) (g := (mkF m 111 #[.val (.int px0), .val (.int pk), .val (.ref ay1), .val (.int C0), .val (.int (-1 : Int32)), .val (.int (1 : Int32)), .val (.int I0), .val (.int (own_ch (own_al I0))), .val (.int (0 : Int32)), .unset] [(.int (own_ch (own_al I0)))])) rfl (by rw [hml]; rfl) (argsL := [(.int (own_ch (own_al I0)))]) (rest := []) (lenOf pd_4 rfl) rfl (by show 2 * 0 + _ ≤ _; exact Nat.le_of_eq rfl) (hb hby at_111) (fun _ _ => ⟨rfl, eqy3, (by decide : 2 + 0 ≤ _), (by decide : 152 + 0 ≤ _)⟩)
      dsimp only [Pt.U, Pt.locs, Pt.cells, Pt.slots] at Xy5 ly5 yy5 zy5 sty5 hQy5
      subst ly5 yy5 zy5
      obtain ⟨rfl, Nqy5, eqy5⟩ := hQy5
      have Ny5 := Fr.app Ny3 Nqy5
      refine FinW.step (sty5) ?_
      show FinW p e below s _ _ _ (Ty5.setTop (mkF m 114 #[.val (.int px0), .val (.int pk), .val (.ref ay1), .val (.int C0), .val (.int (-1 : Int32)), .val (.int (1 : Int32)), .val (.int I0), .val (.int (own_ch (own_al I0))), .val (.int (0 : Int32)), .unset] [(.int (own_vo (own_ch (own_al I0))))]))
      refine FinW.step (fun _ => XS.iload Xy5.here hx rfl (hb hby at_114) rfl) ?_
      show FinW p e below s _ _ _ (Ty5.setTop (mkF m 116 #[.val (.int px0), .val (.int pk), .val (.ref ay1), .val (.int C0), .val (.int (-1 : Int32)), .val (.int (1 : Int32)), .val (.int I0), .val (.int (own_ch (own_al I0))), .val (.int (0 : Int32)), .unset] [(.int (0 : Int32)), (.int (own_vo (own_ch (own_al I0))))]))
      refine FinW.step (fun _ => XS.icmpNo Xy5.here hx rfl (hb hby at_116) rfl (teq ((own_b1 hI hcy4) : ((own_vo (own_ch (own_al I0))) = (0 : Int32)))).2) ?_
      show FinW p e below s _ _ _ (Ty5.setTop (mkF m 119 #[.val (.int px0), .val (.int pk), .val (.ref ay1), .val (.int C0), .val (.int (-1 : Int32)), .val (.int (1 : Int32)), .val (.int I0), .val (.int (own_ch (own_al I0))), .val (.int (0 : Int32)), .unset] []))
      refine FinW.step (fun _ => XS.iconst Xy5.here hx rfl (hb hby at_119)) ?_
      show FinW p e below s _ _ _ (Ty5.setTop (mkF m 120 #[.val (.int px0), .val (.int pk), .val (.ref ay1), .val (.int C0), .val (.int (-1 : Int32)), .val (.int (1 : Int32)), .val (.int I0), .val (.int (own_ch (own_al I0))), .val (.int (0 : Int32)), .unset] [(.int (1 : Int32))]))
      refine FinW.step (fun _ => XS.goto Xy5.here hx rfl (pc0 := 120) (pc' := 124) rfl (hb hby at_120) (by decide) (by decide)) ?_
      show FinW p e below s _ _ _ (Ty5.setTop (mkF m 124 #[.val (.int px0), .val (.int pk), .val (.ref ay1), .val (.int C0), .val (.int (-1 : Int32)), .val (.int (1 : Int32)), .val (.int I0), .val (.int (own_ch (own_al I0))), .val (.int (0 : Int32)), .unset] [(.int (1 : Int32))]))
      refine FinW.step (fun _ => XS.istore Xy5.here hx rfl (hb hby at_124) rfl (l' := #[.val (.int px0), .val (.int pk), .val (.ref ay1), .val (.int C0), .val (.int (-1 : Int32)), .val (.int (1 : Int32)), .val (.int I0), .val (.int (own_ch (own_al I0))), .val (.int (0 : Int32)), .val (.int (1 : Int32))]) rfl) ?_
      show FinW p e below s _ _ _ (Ty5.setTop (mkF m 126 #[.val (.int px0), .val (.int pk), .val (.ref ay1), .val (.int C0), .val (.int (-1 : Int32)), .val (.int (1 : Int32)), .val (.int I0), .val (.int (own_ch (own_al I0))), .val (.int (0 : Int32)), .val (.int (1 : Int32))] []))
      refine FinW.step (fun _ => XS.iload Xy5.here hx rfl (hb hby at_126) rfl) ?_
      show FinW p e below s _ _ _ (Ty5.setTop (mkF m 128 #[.val (.int px0), .val (.int pk), .val (.ref ay1), .val (.int C0), .val (.int (-1 : Int32)), .val (.int (1 : Int32)), .val (.int I0), .val (.int (own_ch (own_al I0))), .val (.int (0 : Int32)), .val (.int (1 : Int32))] [(.int (1 : Int32))]))
      refine FinW.step (fun _ => XS.ifNo Xy5.here hx rfl (hb hby at_128) rfl ((if0 _ _).trans (feq ((by decide) : ¬ ((1 : Int32) = (0 : Int32)))).1)) ?_
      show FinW p e below s _ _ _ (Ty5.setTop (mkF m 131 #[.val (.int px0), .val (.int pk), .val (.ref ay1), .val (.int C0), .val (.int (-1 : Int32)), .val (.int (1 : Int32)), .val (.int I0), .val (.int (own_ch (own_al I0))), .val (.int (0 : Int32)), .val (.int (1 : Int32))] []))
      refine FinW.step (fun _ => XS.iload Xy5.here hx rfl (hb hby at_131) rfl) ?_
      show FinW p e below s _ _ _ (Ty5.setTop (mkF m 133 #[.val (.int px0), .val (.int pk), .val (.ref ay1), .val (.int C0), .val (.int (-1 : Int32)), .val (.int (1 : Int32)), .val (.int I0), .val (.int (own_ch (own_al I0))), .val (.int (0 : Int32)), .val (.int (1 : Int32))] [(.int (1 : Int32))]))
      refine FinW.step (fun _ => XS.ifNo Xy5.here hx rfl (hb hby at_133) rfl ((if0 _ _).trans (feq ((by decide) : ¬ ((1 : Int32) = (0 : Int32)))).1)) ?_
      show FinW p e below s _ _ _ (Ty5.setTop (mkF m 136 #[.val (.int px0), .val (.int pk), .val (.ref ay1), .val (.int C0), .val (.int (-1 : Int32)), .val (.int (1 : Int32)), .val (.int I0), .val (.int (own_ch (own_al I0))), .val (.int (0 : Int32)), .val (.int (1 : Int32))] []))
      refine FinW.step (fun _ => XS.iconst Xy5.here hx rfl (hb hby at_136)) ?_
      show FinW p e below s _ _ _ (Ty5.setTop (mkF m 137 #[.val (.int px0), .val (.int pk), .val (.ref ay1), .val (.int C0), .val (.int (-1 : Int32)), .val (.int (1 : Int32)), .val (.int I0), .val (.int (own_ch (own_al I0))), .val (.int (0 : Int32)), .val (.int (1 : Int32))] [(.int (1 : Int32))]))
      refine FinW.step (fun _ => XS.goto Xy5.here hx rfl (pc0 := 137) (pc' := 141) rfl (hb hby at_137) (by decide) (by decide)) ?_
      show FinW p e below s _ _ _ (Ty5.setTop (mkF m 141 #[.val (.int px0), .val (.int pk), .val (.ref ay1), .val (.int C0), .val (.int (-1 : Int32)), .val (.int (1 : Int32)), .val (.int I0), .val (.int (own_ch (own_al I0))), .val (.int (0 : Int32)), .val (.int (1 : Int32))] [(.int (1 : Int32))]))
      refine FinW.retN Xy5 hSy1 (by rw [eqy5]; exact hky1) hx (t := .boolean) hret (by simp) hlk (hb hby at_141) (by decide) (by decide) ?_
      show Q0 Z px0 pk fv wc h0 n0 _ Ty5.heap _
      rw [eqy5]
      exact ⟨rfl, Ny5, Ky1⟩
    · refine FinW.step (fun _ => XS.icmpYes Xy3.here hx rfl (pc0 := 98) (pc' := 105) rfl (hb hby at_98) rfl (feq (hcy4 : ¬ (I0 = (36 : Int32)))).2 (by decide) (by decide)) ?_
      show FinW p e below s _ _ _ (Ty3.setTop (mkF m 105 #[.val (.int px0), .val (.int pk), .val (.ref ay1), .val (.int C0), .val (.int (-1 : Int32)), .val (.int (1 : Int32)), .val (.int I0), .val (.int (own_ch (own_al I0))), .unset, .unset] []))
      refine FinW.step (fun _ => XS.iload Xy3.here hx rfl (hb hby at_105) rfl) ?_
      show FinW p e below s _ _ _ (Ty3.setTop (mkF m 107 #[.val (.int px0), .val (.int pk), .val (.ref ay1), .val (.int C0), .val (.int (-1 : Int32)), .val (.int (1 : Int32)), .val (.int I0), .val (.int (own_ch (own_al I0))), .unset, .unset] [(.int I0)]))
      refine FinW.step (fun _ => XS.istore Xy3.here hx rfl (hb hby at_107) rfl (l' := #[.val (.int px0), .val (.int pk), .val (.ref ay1), .val (.int C0), .val (.int (-1 : Int32)), .val (.int (1 : Int32)), .val (.int I0), .val (.int (own_ch (own_al I0))), .val (.int I0), .unset]) rfl) ?_
      show FinW p e below s _ _ _ (Ty3.setTop (mkF m 109 #[.val (.int px0), .val (.int pk), .val (.ref ay1), .val (.int C0), .val (.int (-1 : Int32)), .val (.int (1 : Int32)), .val (.int I0), .val (.int (own_ch (own_al I0))), .val (.int I0), .unset] []))
      refine FinW.step (fun _ => XS.iload Xy3.here hx rfl (hb hby at_109) rfl) ?_
      show FinW p e below s _ _ _ (Ty3.setTop (mkF m 111 #[.val (.int px0), .val (.int pk), .val (.ref ay1), .val (.int C0), .val (.int (-1 : Int32)), .val (.int (1 : Int32)), .val (.int I0), .val (.int (own_ch (own_al I0))), .val (.int I0), .unset] [(.int (own_ch (own_al I0)))]))
      obtain ⟨_, _, ⟨Ty6, Ly6, ky6, ny6⟩, -, Xy6, ⟨Lcy6, hQy6, ly6, yy6, zy6⟩, sty6⟩ := Jvm.LawKit.callS Xy3 hx (y := (⟨"com/example/wicketgate/wicketgate/core/mrz/MrzCharacters", "valueOf", "(C)I"⟩ : MethodName)) hown (mvT hZ (hw _ (List.mem_of_getElem? (i := 9) rfl))) (mvT hZ (hw _ (List.mem_of_getElem? (i := 10) rfl))) (mvT hZ (hw _ (List.mem_of_getElem? (i := 11) rfl))) (mvT hZ (hw _ (List.mem_of_getElem? (i := 12) rfl))) (by decide) (backOf (W := 0) (rm1 l Z a0 hw [] (own_ch (own_al I0)) hy1 n0 Zy1 ) hZ (hw _ (List.mem_of_getElem? (i := 12) rfl)) (hw _ (List.mem_of_getElem? (i := 11) rfl)) (by decide) (by decide)) (g := (mkF m 111 #[.val (.int px0), .val (.int pk), .val (.ref ay1), .val (.int C0), .val (.int (-1 : Int32)), .val (.int (1 : Int32)), .val (.int I0), .val (.int (own_ch (own_al I0))), .val (.int I0), .unset] [(.int (own_ch (own_al I0)))])) rfl (by rw [hml]; rfl) (argsL := [(.int (own_ch (own_al I0)))]) (rest := []) (lenOf pd_4 rfl) rfl (by show 2 * 0 + _ ≤ _; exact Nat.le_of_eq rfl) (hb hby at_111) (fun _ _ => ⟨rfl, eqy3, (by decide : 2 + 0 ≤ _), (by decide : 152 + 0 ≤ _)⟩)
      dsimp only [Pt.U, Pt.locs, Pt.cells, Pt.slots] at Xy6 ly6 yy6 zy6 sty6 hQy6
      subst ly6 yy6 zy6
      obtain ⟨rfl, Nqy6, eqy6⟩ := hQy6
      have Ny6 := Fr.app Ny3 Nqy6
      refine FinW.step (sty6) ?_
      show FinW p e below s _ _ _ (Ty6.setTop (mkF m 114 #[.val (.int px0), .val (.int pk), .val (.ref ay1), .val (.int C0), .val (.int (-1 : Int32)), .val (.int (1 : Int32)), .val (.int I0), .val (.int (own_ch (own_al I0))), .val (.int I0), .unset] [(.int (own_vo (own_ch (own_al I0))))]))
      refine FinW.step (fun _ => XS.iload Xy6.here hx rfl (hb hby at_114) rfl) ?_
      show FinW p e below s _ _ _ (Ty6.setTop (mkF m 116 #[.val (.int px0), .val (.int pk), .val (.ref ay1), .val (.int C0), .val (.int (-1 : Int32)), .val (.int (1 : Int32)), .val (.int I0), .val (.int (own_ch (own_al I0))), .val (.int I0), .unset] [(.int I0), (.int (own_vo (own_ch (own_al I0))))]))
      refine FinW.step (fun _ => XS.icmpNo Xy6.here hx rfl (hb hby at_116) rfl (teq ((own_b0 hI hcy4) : ((own_vo (own_ch (own_al I0))) = I0))).2) ?_
      show FinW p e below s _ _ _ (Ty6.setTop (mkF m 119 #[.val (.int px0), .val (.int pk), .val (.ref ay1), .val (.int C0), .val (.int (-1 : Int32)), .val (.int (1 : Int32)), .val (.int I0), .val (.int (own_ch (own_al I0))), .val (.int I0), .unset] []))
      refine FinW.step (fun _ => XS.iconst Xy6.here hx rfl (hb hby at_119)) ?_
      show FinW p e below s _ _ _ (Ty6.setTop (mkF m 120 #[.val (.int px0), .val (.int pk), .val (.ref ay1), .val (.int C0), .val (.int (-1 : Int32)), .val (.int (1 : Int32)), .val (.int I0), .val (.int (own_ch (own_al I0))), .val (.int I0), .unset] [(.int (1 : Int32))]))
      refine FinW.step (fun _ => XS.goto Xy6.here hx rfl (pc0 := 120) (pc' := 124) rfl (hb hby at_120) (by decide) (by decide)) ?_
      show FinW p e below s _ _ _ (Ty6.setTop (mkF m 124 #[.val (.int px0), .val (.int pk), .val (.ref ay1), .val (.int C0), .val (.int (-1 : Int32)), .val (.int (1 : Int32)), .val (.int I0), .val (.int (own_ch (own_al I0))), .val (.int I0), .unset] [(.int (1 : Int32))]))
      refine FinW.step (fun _ => XS.istore Xy6.here hx rfl (hb hby at_124) rfl (l' := #[.val (.int px0), .val (.int pk), .val (.ref ay1), .val (.int C0), .val (.int (-1 : Int32)), .val (.int (1 : Int32)), .val (.int I0), .val (.int (own_ch (own_al I0))), .val (.int I0), .val (.int (1 : Int32))]) rfl) ?_
      show FinW p e below s _ _ _ (Ty6.setTop (mkF m 126 #[.val (.int px0), .val (.int pk), .val (.ref ay1), .val (.int C0), .val (.int (-1 : Int32)), .val (.int (1 : Int32)), .val (.int I0), .val (.int (own_ch (own_al I0))), .val (.int I0), .val (.int (1 : Int32))] []))
      refine FinW.step (fun _ => XS.iload Xy6.here hx rfl (hb hby at_126) rfl) ?_
      show FinW p e below s _ _ _ (Ty6.setTop (mkF m 128 #[.val (.int px0), .val (.int pk), .val (.ref ay1), .val (.int C0), .val (.int (-1 : Int32)), .val (.int (1 : Int32)), .val (.int I0), .val (.int (own_ch (own_al I0))), .val (.int I0), .val (.int (1 : Int32))] [(.int (1 : Int32))]))
      refine FinW.step (fun _ => XS.ifNo Xy6.here hx rfl (hb hby at_128) rfl ((if0 _ _).trans (feq ((by decide) : ¬ ((1 : Int32) = (0 : Int32)))).1)) ?_
      show FinW p e below s _ _ _ (Ty6.setTop (mkF m 131 #[.val (.int px0), .val (.int pk), .val (.ref ay1), .val (.int C0), .val (.int (-1 : Int32)), .val (.int (1 : Int32)), .val (.int I0), .val (.int (own_ch (own_al I0))), .val (.int I0), .val (.int (1 : Int32))] []))
      refine FinW.step (fun _ => XS.iload Xy6.here hx rfl (hb hby at_131) rfl) ?_
      show FinW p e below s _ _ _ (Ty6.setTop (mkF m 133 #[.val (.int px0), .val (.int pk), .val (.ref ay1), .val (.int C0), .val (.int (-1 : Int32)), .val (.int (1 : Int32)), .val (.int I0), .val (.int (own_ch (own_al I0))), .val (.int I0), .val (.int (1 : Int32))] [(.int (1 : Int32))]))
      refine FinW.step (fun _ => XS.ifNo Xy6.here hx rfl (hb hby at_133) rfl ((if0 _ _).trans (feq ((by decide) : ¬ ((1 : Int32) = (0 : Int32)))).1)) ?_
      show FinW p e below s _ _ _ (Ty6.setTop (mkF m 136 #[.val (.int px0), .val (.int pk), .val (.ref ay1), .val (.int C0), .val (.int (-1 : Int32)), .val (.int (1 : Int32)), .val (.int I0), .val (.int (own_ch (own_al I0))), .val (.int I0), .val (.int (1 : Int32))] []))
      refine FinW.step (fun _ => XS.iconst Xy6.here hx rfl (hb hby at_136)) ?_
      show FinW p e below s _ _ _ (Ty6.setTop (mkF m 137 #[.val (.int px0), .val (.int pk), .val (.ref ay1), .val (.int C0), .val (.int (-1 : Int32)), .val (.int (1 : Int32)), .val (.int I0), .val (.int (own_ch (own_al I0))), .val (.int I0), .val (.int (1 : Int32))] [(.int (1 : Int32))]))
      refine FinW.step (fun _ => XS.goto Xy6.here hx rfl (pc0 := 137) (pc' := 141) rfl (hb hby at_137) (by decide) (by decide)) ?_
      show FinW p e below s _ _ _ (Ty6.setTop (mkF m 141 #[.val (.int px0), .val (.int pk), .val (.ref ay1), .val (.int C0), .val (.int (-1 : Int32)), .val (.int (1 : Int32)), .val (.int I0), .val (.int (own_ch (own_al I0))), .val (.int I0), .val (.int (1 : Int32))] [(.int (1 : Int32))]))
      refine FinW.retN Xy6 hSy1 (by rw [eqy6]; exact hky1) hx (t := .boolean) hret (by simp) hlk (hb hby at_141) (by decide) (by decide) ?_
      show Q0 Z px0 pk fv wc h0 n0 _ Ty6.heap _
      rw [eqy6]
      exact ⟨rfl, Ny6, Ky1⟩
  · rw [qn.1]
    show FinW p e below s _ _ _ (Ty2.setTop (mkF m 15 #[.val (.int px0), .val (.int pk), .val (.ref ay1), .val (.int C0), .val (.int (0 : Int32)), .unset, .unset, .unset, .unset, .unset] []))
    refine FinW.step (fun _ => XS.iload Xy2.here hx rfl (hb hby at_15) rfl) ?_
    show FinW p e below s _ _ _ (Ty2.setTop (mkF m 17 #[.val (.int px0), .val (.int pk), .val (.ref ay1), .val (.int C0), .val (.int (0 : Int32)), .unset, .unset, .unset, .unset, .unset] [(.int (0 : Int32))]))
    refine FinW.step (fun _ => XS.ifYes Xy2.here hx rfl (pc0 := 17) (pc' := 36) rfl (hb hby at_17) rfl ((if0 _ _).trans (flt ((by decide) : ¬ ((0 : Int32) < (0 : Int32)))).2.1) (by decide) (by decide)) ?_
    show FinW p e below s _ _ _ (Ty2.setTop (mkF m 36 #[.val (.int px0), .val (.int pk), .val (.ref ay1), .val (.int C0), .val (.int (0 : Int32)), .unset, .unset, .unset, .unset, .unset] []))
    refine FinW.step (fun _ => XS.iload Xy2.here hx rfl (hb hby at_36) rfl) ?_
    show FinW p e below s _ _ _ (Ty2.setTop (mkF m 38 #[.val (.int px0), .val (.int pk), .val (.ref ay1), .val (.int C0), .val (.int (0 : Int32)), .unset, .unset, .unset, .unset, .unset] [(.int (0 : Int32))]))
    refine FinW.step (fun _ => XS.bipush Xy2.here hx rfl (hb hby at_38)) ?_
    show FinW p e below s _ _ _ (Ty2.setTop (mkF m 40 #[.val (.int px0), .val (.int pk), .val (.ref ay1), .val (.int C0), .val (.int (0 : Int32)), .unset, .unset, .unset, .unset, .unset] [(.int (35 : Int32)), (.int (0 : Int32))]))
    refine FinW.step (fun _ => XS.icmpYes Xy2.here hx rfl (pc0 := 40) (pc' := 49) rfl (hb hby at_40) rfl (flt ((by decide) : ¬ ((35 : Int32) < (0 : Int32)))).2.2.2 (by decide) (by decide)) ?_
    show FinW p e below s _ _ _ (Ty2.setTop (mkF m 49 #[.val (.int px0), .val (.int pk), .val (.ref ay1), .val (.int C0), .val (.int (0 : Int32)), .unset, .unset, .unset, .unset, .unset] []))
    have hR0 : 0 ≤ ((0 : Int32)).toInt ∧ ((0 : Int32)).toInt < 37 := by decide
    refine FinW.step (fun _ => XS.iloadN Xy2.here hx rfl (hb hby at_49) rfl) ?_
    show FinW p e below s _ _ _ (Ty2.setTop (mkF m 50 #[.val (.int px0), .val (.int pk), .val (.ref ay1), .val (.int C0), .val (.int (0 : Int32)), .unset, .unset, .unset, .unset, .unset] [(.int C0)]))
    refine FinW.step (fun _ => XS.aloadN Xy2.here hx rfl (hb hby at_50) rfl rfl) ?_
    show FinW p e below s _ _ _ (Ty2.setTop (mkF m 51 #[.val (.int px0), .val (.int pk), .val (.ref ay1), .val (.int C0), .val (.int (0 : Int32)), .unset, .unset, .unset, .unset, .unset] [(.ref ay1), (.int C0)]))
    refine FinW.step (fun _ => XS.iload Xy2.here hx rfl (hb hby at_51) rfl) ?_
    show FinW p e below s _ _ _ (Ty2.setTop (mkF m 53 #[.val (.int px0), .val (.int pk), .val (.ref ay1), .val (.int C0), .val (.int (0 : Int32)), .unset, .unset, .unset, .unset, .unset] [(.int (0 : Int32)), (.ref ay1), (.int C0)]))
    obtain ⟨cqy7, kqy7, qy7a, qy7b, qy7c⟩ := isOf hZ eqy2 Ay1
    obtain ⟨_, _, ⟨Ty7, Ly7, ky7, ny7⟩, -, Xy7, ⟨Lcy7, hQy7, ly7, yy7, zy7⟩, sty7⟩ := Xy2.virtualBack hx (y := (⟨"java/lang/String", "charAt", "(I)C"⟩ : MethodName)) (z := (⟨"java/lang/String", "charAt", "(I)C"⟩ : MethodName)) hown (mvT hZ (hw _ (List.mem_of_getElem? (i := 14) rfl))) (mvT hZ (hw _ (List.mem_of_getElem? (i := 15) rfl))) (notFace_of_selects (args := #[]) (mvT hZ (hw _ (List.mem_of_getElem? (i := 17) rfl)))) (mvT hZ (hw _ (List.mem_of_getElem? (i := 17) rfl))) (mvT hZ (hw _ (List.mem_of_getElem? (i := 16) rfl))) (by decide) (backOf (W := 1) (rm2 l Z a0 hw [] ay1 (0 : Int32) by1 kby1 (37 : Int32) [(.int (48 : Int32)), (.int (49 : Int32)), (.int (50 : Int32)), (.int (51 : Int32)), (.int (52 : Int32)), (.int (53 : Int32)), (.int (54 : Int32)), (.int (55 : Int32)), (.int (56 : Int32)), (.int (57 : Int32)), (.int (65 : Int32)), (.int (66 : Int32)), (.int (67 : Int32)), (.int (68 : Int32)), (.int (69 : Int32)), (.int (70 : Int32)), (.int (71 : Int32)), (.int (72 : Int32)), (.int (73 : Int32)), (.int (74 : Int32)), (.int (75 : Int32)), (.int (76 : Int32)), (.int (77 : Int32)), (.int (78 : Int32)), (.int (79 : Int32)), (.int (80 : Int32)), (.int (81 : Int32)), (.int (82 : Int32)), (.int (83 : Int32)), (.int (84 : Int32)), (.int (85 : Int32)), (.int (86 : Int32)), (.int (87 : Int32)), (.int (88 : Int32)), (.int (89 : Int32)), (.int (90 : Int32)), (.int (60 : Int32))] fv wc (own_al (0 : Int32)) hy1 n0 Zy1 Ay1 Fcy1 Fvy1 Vy1 (Sta_keep HS_jdk_internal_util_Preconditions_SIOOBE_FORMATTER Ky1) (Sta_keep HS_java_lang_String_COMPACT_STRINGS Ky1) hfv hwc (own_in hR0) (own_get hR0)) hZ (hw _ (List.mem_of_getElem? (i := 18) rfl)) (hw _ (List.mem_of_getElem? (i := 1) rfl)) (by decide) (by decide)) qy7a qy7c (g := (mkF m 53 #[.val (.int px0), .val (.int pk), .val (.ref ay1), .val (.int C0), .val (.int (0 : Int32)), .unset, .unset, .unset, .unset, .unset] [(.int (0 : Int32)), (.ref ay1), (.int C0)])) rfl (by rw [hml]; rfl) (Steps.refl _) (argsL := [(.int (0 : Int32))]) (rest := [(.int C0)]) (lenOf pd_5 rfl) rfl (by show 2 * 0 + _ ≤ _; exact Nat.le_of_eq rfl) (hb hby at_53) (fun _ _ => ⟨rfl, eqy2, (by decide : 2 + 0 ≤ _), (by decide : 152 + 0 ≤ _)⟩)
    dsimp only [Pt.U, Pt.locs, Pt.cells, Pt.slots] at Xy7 ly7 yy7 zy7 sty7 hQy7
    subst ly7 yy7 zy7
    obtain ⟨rfl, Nqy7, eqy7⟩ := hQy7
    have Ny7 := Fr.app Ny2 Nqy7
    refine FinW.step (fun _ k => sty7.trans k) ?_
    show FinW p e below s _ _ _ (Ty7.setTop (mkF m 56 #[.val (.int px0), .val (.int pk), .val (.ref ay1), .val (.int C0), .val (.int (0 : Int32)), .unset, .unset, .unset, .unset, .unset] [(.int (own_ch (own_al (0 : Int32)))), (.int C0)]))
    refine FinW.step (fun _ => XS.icmpNo Xy7.here hx rfl (hb hby at_56) rfl (feq ((by rw [qn.2]; decide) : ¬ (C0 = (own_ch (own_al (0 : Int32)))))).1) ?_
    show FinW p e below s _ _ _ (Ty7.setTop (mkF m 59 #[.val (.int px0), .val (.int pk), .val (.ref ay1), .val (.int C0), .val (.int (0 : Int32)), .unset, .unset, .unset, .unset, .unset] []))
    refine FinW.step (fun _ => XS.iload Xy7.here hx rfl (hb hby at_59) rfl) ?_
    show FinW p e below s _ _ _ (Ty7.setTop (mkF m 61 #[.val (.int px0), .val (.int pk), .val (.ref ay1), .val (.int C0), .val (.int (0 : Int32)), .unset, .unset, .unset, .unset, .unset] [(.int (0 : Int32))]))
    refine FinW.step (fun _ => XS.ifNo Xy7.here hx rfl (hb hby at_61) rfl ((if0 _ _).trans (teq ((by decide) : ((0 : Int32) = (0 : Int32)))).2)) ?_
    show FinW p e below s _ _ _ (Ty7.setTop (mkF m 64 #[.val (.int px0), .val (.int pk), .val (.ref ay1), .val (.int C0), .val (.int (0 : Int32)), .unset, .unset, .unset, .unset, .unset] []))
    refine FinW.step (fun _ => XS.iloadN Xy7.here hx rfl (hb hby at_64) rfl) ?_
    show FinW p e below s _ _ _ (Ty7.setTop (mkF m 65 #[.val (.int px0), .val (.int pk), .val (.ref ay1), .val (.int C0), .val (.int (0 : Int32)), .unset, .unset, .unset, .unset, .unset] [(.int C0)]))
    refine FinW.step (fun _ => XS.bipush Xy7.here hx rfl (hb hby at_65)) ?_
    show FinW p e below s _ _ _ (Ty7.setTop (mkF m 67 #[.val (.int px0), .val (.int pk), .val (.ref ay1), .val (.int C0), .val (.int (0 : Int32)), .unset, .unset, .unset, .unset, .unset] [(.int (60 : Int32)), (.int C0)]))
    refine FinW.step (fun _ => XS.icmpNo Xy7.here hx rfl (hb hby at_67) rfl (teq (qn.2 : (C0 = (60 : Int32)))).2) ?_
    show FinW p e below s _ _ _ (Ty7.setTop (mkF m 70 #[.val (.int px0), .val (.int pk), .val (.ref ay1), .val (.int C0), .val (.int (0 : Int32)), .unset, .unset, .unset, .unset, .unset] []))
    refine FinW.step (fun _ => XS.iconst Xy7.here hx rfl (hb hby at_70)) ?_
    show FinW p e below s _ _ _ (Ty7.setTop (mkF m 71 #[.val (.int px0), .val (.int pk), .val (.ref ay1), .val (.int C0), .val (.int (0 : Int32)), .unset, .unset, .unset, .unset, .unset] [(.int (1 : Int32))]))
    refine FinW.step (fun _ => XS.goto Xy7.here hx rfl (pc0 := 71) (pc' := 75) rfl (hb hby at_71) (by decide) (by decide)) ?_
    show FinW p e below s _ _ _ (Ty7.setTop (mkF m 75 #[.val (.int px0), .val (.int pk), .val (.ref ay1), .val (.int C0), .val (.int (0 : Int32)), .unset, .unset, .unset, .unset, .unset] [(.int (1 : Int32))]))
    refine FinW.step (fun _ => XS.istore Xy7.here hx rfl (hb hby at_75) rfl (l' := #[.val (.int px0), .val (.int pk), .val (.ref ay1), .val (.int C0), .val (.int (0 : Int32)), .val (.int (1 : Int32)), .unset, .unset, .unset, .unset]) rfl) ?_
    show FinW p e below s _ _ _ (Ty7.setTop (mkF m 77 #[.val (.int px0), .val (.int pk), .val (.ref ay1), .val (.int C0), .val (.int (0 : Int32)), .val (.int (1 : Int32)), .unset, .unset, .unset, .unset] []))
    refine FinW.step (fun _ => XS.iloadN Xy7.here hx rfl (hb hby at_77) rfl) ?_
    show FinW p e below s _ _ _ (Ty7.setTop (mkF m 78 #[.val (.int px0), .val (.int pk), .val (.ref ay1), .val (.int C0), .val (.int (0 : Int32)), .val (.int (1 : Int32)), .unset, .unset, .unset, .unset] [(.int pk)]))
    refine FinW.step (Xy7.ldcInt hx hown (mvT hZ (hw _ (List.mem_of_getElem? (i := 13) rfl))) (g := (mkF m 78 #[.val (.int px0), .val (.int pk), .val (.ref ay1), .val (.int C0), .val (.int (0 : Int32)), .val (.int (1 : Int32)), .unset, .unset, .unset, .unset] [(.int pk)])) rfl (hb hby at_78)) ?_
    show FinW p e below s _ _ _ (Ty7.setTop (mkF m 80 #[.val (.int px0), .val (.int pk), .val (.ref ay1), .val (.int C0), .val (.int (0 : Int32)), .val (.int (1 : Int32)), .unset, .unset, .unset, .unset] [(.int (2147483647 : Int32)), (.int pk)]))
    refine FinW.step (fun _ => XS.iand Xy7.here hx rfl (hb hby at_80) rfl) ?_
    show FinW p e below s _ _ _ (Ty7.setTop (mkF m 81 #[.val (.int px0), .val (.int pk), .val (.ref ay1), .val (.int C0), .val (.int (0 : Int32)), .val (.int (1 : Int32)), .unset, .unset, .unset, .unset] [(.int (pk &&& (2147483647 : Int32)))]))
    refine FinW.step (fun _ => XS.bipush Xy7.here hx rfl (hb hby at_81)) ?_
    show FinW p e below s _ _ _ (Ty7.setTop (mkF m 83 #[.val (.int px0), .val (.int pk), .val (.ref ay1), .val (.int C0), .val (.int (0 : Int32)), .val (.int (1 : Int32)), .unset, .unset, .unset, .unset] [(.int (37 : Int32)), (.int (pk &&& (2147483647 : Int32)))]))
    refine FinW.step (fun _ => iremM Xy7 hx (g := (mkF m 83 #[.val (.int px0), .val (.int pk), .val (.ref ay1), .val (.int C0), .val (.int (0 : Int32)), .val (.int (1 : Int32)), .unset, .unset, .unset, .unset] [(.int (37 : Int32)), (.int (pk &&& (2147483647 : Int32)))])) rfl (hb hby at_83) rfl (by decide)) ?_
    show FinW p e below s _ _ _ (Ty7.setTop (mkF m 84 #[.val (.int px0), .val (.int pk), .val (.ref ay1), .val (.int C0), .val (.int (0 : Int32)), .val (.int (1 : Int32)), .unset, .unset, .unset, .unset] [(.int ((pk &&& (2147483647 : Int32)) % (37 : Int32)))]))
    refine FinW.step (fun _ => XS.istore Xy7.here hx rfl (hb hby at_84) rfl (l' := #[.val (.int px0), .val (.int pk), .val (.ref ay1), .val (.int C0), .val (.int (0 : Int32)), .val (.int (1 : Int32)), .val (.int ((pk &&& (2147483647 : Int32)) % (37 : Int32))), .unset, .unset, .unset]) rfl) ?_
    show FinW p e below s _ _ _ (Ty7.setTop (mkF m 86 #[.val (.int px0), .val (.int pk), .val (.ref ay1), .val (.int C0), .val (.int (0 : Int32)), .val (.int (1 : Int32)), .val (.int ((pk &&& (2147483647 : Int32)) % (37 : Int32))), .unset, .unset, .unset] []))
    obtain ⟨I0, h_I0⟩ : ∃ z : Int32, z = ((pk &&& (2147483647 : Int32)) % (37 : Int32)) := ⟨_, rfl⟩
    rw [← h_I0]
    show FinW p e below s _ _ _ (Ty7.setTop (mkF m 86 #[.val (.int px0), .val (.int pk), .val (.ref ay1), .val (.int C0), .val (.int (0 : Int32)), .val (.int (1 : Int32)), .val (.int I0), .unset, .unset, .unset] []))
    have hI : 0 ≤ I0.toInt ∧ I0.toInt < 37 := by rw [h_I0]; exact own_37 _
    refine FinW.step (fun _ => XS.aloadN Xy7.here hx rfl (hb hby at_86) rfl rfl) ?_
    show FinW p e below s _ _ _ (Ty7.setTop (mkF m 87 #[.val (.int px0), .val (.int pk), .val (.ref ay1), .val (.int C0), .val (.int (0 : Int32)), .val (.int (1 : Int32)), .val (.int I0), .unset, .unset, .unset] [(.ref ay1)]))
    refine FinW.step (fun _ => XS.iload Xy7.here hx rfl (hb hby at_87) rfl) ?_
    show FinW p e below s _ _ _ (Ty7.setTop (mkF m 89 #[.val (.int px0), .val (.int pk), .val (.ref ay1), .val (.int C0), .val (.int (0 : Int32)), .val (.int (1 : Int32)), .val (.int I0), .unset, .unset, .unset] [(.int I0), (.ref ay1)]))
    obtain ⟨cqy8, kqy8, qy8a, qy8b, qy8c⟩ := isOf hZ eqy7 Ay1
    obtain ⟨_, _, ⟨Ty8, Ly8, ky8, ny8⟩, -, Xy8, ⟨Lcy8, hQy8, ly8, yy8, zy8⟩, sty8⟩ := Xy7.virtualBack hx (y := (⟨"java/lang/String", "charAt", "(I)C"⟩ : MethodName)) (z := (⟨"java/lang/String", "charAt", "(I)C"⟩ : MethodName)) hown (mvT hZ (hw _ (List.mem_of_getElem? (i := 14) rfl))) (mvT hZ (hw _ (List.mem_of_getElem? (i := 15) rfl))) (notFace_of_selects (args := #[]) (mvT hZ (hw _ (List.mem_of_getElem? (i := 17) rfl)))) (mvT hZ (hw _ (List.mem_of_getElem? (i := 17) rfl))) (mvT hZ (hw _ (List.mem_of_getElem? (i := 16) rfl))) (by decide) (backOf (W := 0) (rm2 l Z a0 hw [] ay1 I0 by1 kby1 (37 : Int32) [(.int (48 : Int32)), (.int (49 : Int32)), (.int (50 : Int32)), (.int (51 : Int32)), (.int (52 : Int32)), (.int (53 : Int32)), (.int (54 : Int32)), (.int (55 : Int32)), (.int (56 : Int32)), (.int (57 : Int32)), (.int (65 : Int32)), (.int (66 : Int32)), (.int (67 : Int32)), (.int (68 : Int32)), (.int (69 : Int32)), (.int (70 : Int32)), (.int (71 : Int32)), (.int (72 : Int32)), (.int (73 : Int32)), (.int (74 : Int32)), (.int (75 : Int32)), (.int (76 : Int32)), (.int (77 : Int32)), (.int (78 : Int32)), (.int (79 : Int32)), (.int (80 : Int32)), (.int (81 : Int32)), (.int (82 : Int32)), (.int (83 : Int32)), (.int (84 : Int32)), (.int (85 : Int32)), (.int (86 : Int32)), (.int (87 : Int32)), (.int (88 : Int32)), (.int (89 : Int32)), (.int (90 : Int32)), (.int (60 : Int32))] fv wc (own_al I0) hy1 n0 Zy1 Ay1 Fcy1 Fvy1 Vy1 (Sta_keep HS_jdk_internal_util_Preconditions_SIOOBE_FORMATTER Ky1) (Sta_keep HS_java_lang_String_COMPACT_STRINGS Ky1) hfv hwc (own_in hI) (own_get hI)) hZ (hw _ (List.mem_of_getElem? (i := 18) rfl)) (hw _ (List.mem_of_getElem? (i := 1) rfl)) (by decide) (by decide)) qy8a qy8c (g := (mkF m 89 #[.val (.int px0), .val (.int pk), .val (.ref ay1), .val (.int C0), .val (.int (0 : Int32)), .val (.int (1 : Int32)), .val (.int I0), .unset, .unset, .unset] [(.int I0), (.ref ay1)])) rfl (by rw [hml]; rfl) (Steps.refl _) (argsL := [(.int I0)]) (rest := []) (lenOf pd_5 rfl) rfl (by show 2 * 0 + _ ≤ _; exact Nat.le_of_eq rfl) (hb hby at_89) (fun _ _ => ⟨rfl, eqy7, (by decide : 2 + 0 ≤ _), (by decide : 152 + 0 ≤ _)⟩)
    dsimp only [Pt.U, Pt.locs, Pt.cells, Pt.slots] at Xy8 ly8 yy8 zy8 sty8 hQy8
    subst ly8 yy8 zy8
    obtain ⟨rfl, Nqy8, eqy8⟩ := hQy8
    have Ny8 := Fr.app Ny7 Nqy8
    refine FinW.step (fun _ k => sty8.trans k) ?_
    show FinW p e below s _ _ _ (Ty8.setTop (mkF m 92 #[.val (.int px0), .val (.int pk), .val (.ref ay1), .val (.int C0), .val (.int (0 : Int32)), .val (.int (1 : Int32)), .val (.int I0), .unset, .unset, .unset] [(.int (own_ch (own_al I0)))]))
    refine FinW.step (fun _ => XS.istore Xy8.here hx rfl (hb hby at_92) rfl (l' := #[.val (.int px0), .val (.int pk), .val (.ref ay1), .val (.int C0), .val (.int (0 : Int32)), .val (.int (1 : Int32)), .val (.int I0), .val (.int (own_ch (own_al I0))), .unset, .unset]) rfl) ?_
    show FinW p e below s _ _ _ (Ty8.setTop (mkF m 94 #[.val (.int px0), .val (.int pk), .val (.ref ay1), .val (.int C0), .val (.int (0 : Int32)), .val (.int (1 : Int32)), .val (.int I0), .val (.int (own_ch (own_al I0))), .unset, .unset] []))
    refine FinW.step (fun _ => XS.iload Xy8.here hx rfl (hb hby at_94) rfl) ?_
    show FinW p e below s _ _ _ (Ty8.setTop (mkF m 96 #[.val (.int px0), .val (.int pk), .val (.ref ay1), .val (.int C0), .val (.int (0 : Int32)), .val (.int (1 : Int32)), .val (.int I0), .val (.int (own_ch (own_al I0))), .unset, .unset] [(.int I0)]))
    refine FinW.step (fun _ => XS.bipush Xy8.here hx rfl (hb hby at_96)) ?_
    show FinW p e below s _ _ _ (Ty8.setTop (mkF m 98 #[.val (.int px0), .val (.int pk), .val (.ref ay1), .val (.int C0), .val (.int (0 : Int32)), .val (.int (1 : Int32)), .val (.int I0), .val (.int (own_ch (own_al I0))), .unset, .unset] [(.int (36 : Int32)), (.int I0)]))
    by_cases hcy9 : I0 = (36 : Int32)
    · refine FinW.step (fun _ => XS.icmpNo Xy8.here hx rfl (hb hby at_98) rfl (teq (hcy9 : (I0 = (36 : Int32)))).2) ?_
      show FinW p e below s _ _ _ (Ty8.setTop (mkF m 101 #[.val (.int px0), .val (.int pk), .val (.ref ay1), .val (.int C0), .val (.int (0 : Int32)), .val (.int (1 : Int32)), .val (.int I0), .val (.int (own_ch (own_al I0))), .unset, .unset] []))
      refine FinW.step (fun _ => XS.iconst Xy8.here hx rfl (hb hby at_101)) ?_
      show FinW p e below s _ _ _ (Ty8.setTop (mkF m 102 #[.val (.int px0), .val (.int pk), .val (.ref ay1), .val (.int C0), .val (.int (0 : Int32)), .val (.int (1 : Int32)), .val (.int I0), .val (.int (own_ch (own_al I0))), .unset, .unset] [(.int (0 : Int32))]))
      refine FinW.step (fun _ => XS.goto Xy8.here hx rfl (pc0 := 102) (pc' := 107) rfl (hb hby at_102) (by decide) (by decide)) ?_
      show FinW p e below s _ _ _ (Ty8.setTop (mkF m 107 #[.val (.int px0), .val (.int pk), .val (.ref ay1), .val (.int C0), .val (.int (0 : Int32)), .val (.int (1 : Int32)), .val (.int I0), .val (.int (own_ch (own_al I0))), .unset, .unset] [(.int (0 : Int32))]))
      refine FinW.step (fun _ => XS.istore Xy8.here hx rfl (hb hby at_107) rfl (l' := #[.val (.int px0), .val (.int pk), .val (.ref ay1), .val (.int C0), .val (.int (0 : Int32)), .val (.int (1 : Int32)), .val (.int I0), .val (.int (own_ch (own_al I0))), .val (.int (0 : Int32)), .unset]) rfl) ?_
      show FinW p e below s _ _ _ (Ty8.setTop (mkF m 109 #[.val (.int px0), .val (.int pk), .val (.ref ay1), .val (.int C0), .val (.int (0 : Int32)), .val (.int (1 : Int32)), .val (.int I0), .val (.int (own_ch (own_al I0))), .val (.int (0 : Int32)), .unset] []))
      refine FinW.step (fun _ => XS.iload Xy8.here hx rfl (hb hby at_109) rfl) ?_
      show FinW p e below s _ _ _ (Ty8.setTop (mkF m 111 #[.val (.int px0), .val (.int pk), .val (.ref ay1), .val (.int C0), .val (.int (0 : Int32)), .val (.int (1 : Int32)), .val (.int I0), .val (.int (own_ch (own_al I0))), .val (.int (0 : Int32)), .unset] [(.int (own_ch (own_al I0)))]))
      obtain ⟨_, _, ⟨Ty10, Ly10, ky10, ny10⟩, -, Xy10, ⟨Lcy10, hQy10, ly10, yy10, zy10⟩, sty10⟩ := Jvm.LawKit.callS Xy8 hx (y := (⟨"com/example/wicketgate/wicketgate/core/mrz/MrzCharacters", "valueOf", "(C)I"⟩ : MethodName)) hown (mvT hZ (hw _ (List.mem_of_getElem? (i := 9) rfl))) (mvT hZ (hw _ (List.mem_of_getElem? (i := 10) rfl))) (mvT hZ (hw _ (List.mem_of_getElem? (i := 11) rfl))) (mvT hZ (hw _ (List.mem_of_getElem? (i := 12) rfl))) (by decide) (backOf (W := 0) (rm1 l Z a0 hw [] (own_ch (own_al I0)) hy1 n0 Zy1 ) hZ (hw _ (List.mem_of_getElem? (i := 12) rfl)) (hw _ (List.mem_of_getElem? (i := 11) rfl)) (by decide) (by decide)) (g := (mkF m 111 #[.val (.int px0), .val (.int pk), .val (.ref ay1), .val (.int C0), .val (.int (0 : Int32)), .val (.int (1 : Int32)), .val (.int I0), .val (.int (own_ch (own_al I0))), .val (.int (0 : Int32)), .unset] [(.int (own_ch (own_al I0)))])) rfl (by rw [hml]; rfl) (argsL := [(.int (own_ch (own_al I0)))]) (rest := []) (lenOf pd_4 rfl) rfl (by show 2 * 0 + _ ≤ _; exact Nat.le_of_eq rfl) (hb hby at_111) (fun _ _ => ⟨rfl, eqy8, (by decide : 2 + 0 ≤ _), (by decide : 152 + 0 ≤ _)⟩)
      dsimp only [Pt.U, Pt.locs, Pt.cells, Pt.slots] at Xy10 ly10 yy10 zy10 sty10 hQy10
      subst ly10 yy10 zy10
      obtain ⟨rfl, Nqy10, eqy10⟩ := hQy10
      have Ny10 := Fr.app Ny8 Nqy10
      refine FinW.step (sty10) ?_
      show FinW p e below s _ _ _ (Ty10.setTop (mkF m 114 #[.val (.int px0), .val (.int pk), .val (.ref ay1), .val (.int C0), .val (.int (0 : Int32)), .val (.int (1 : Int32)), .val (.int I0), .val (.int (own_ch (own_al I0))), .val (.int (0 : Int32)), .unset] [(.int (own_vo (own_ch (own_al I0))))]))
      refine FinW.step (fun _ => XS.iload Xy10.here hx rfl (hb hby at_114) rfl) ?_
      show FinW p e below s _ _ _ (Ty10.setTop (mkF m 116 #[.val (.int px0), .val (.int pk), .val (.ref ay1), .val (.int C0), .val (.int (0 : Int32)), .val (.int (1 : Int32)), .val (.int I0), .val (.int (own_ch (own_al I0))), .val (.int (0 : Int32)), .unset] [(.int (0 : Int32)), (.int (own_vo (own_ch (own_al I0))))]))
      refine FinW.step (fun _ => XS.icmpNo Xy10.here hx rfl (hb hby at_116) rfl (teq ((own_b1 hI hcy9) : ((own_vo (own_ch (own_al I0))) = (0 : Int32)))).2) ?_
      show FinW p e below s _ _ _ (Ty10.setTop (mkF m 119 #[.val (.int px0), .val (.int pk), .val (.ref ay1), .val (.int C0), .val (.int (0 : Int32)), .val (.int (1 : Int32)), .val (.int I0), .val (.int (own_ch (own_al I0))), .val (.int (0 : Int32)), .unset] []))
      refine FinW.step (fun _ => XS.iconst Xy10.here hx rfl (hb hby at_119)) ?_
      show FinW p e below s _ _ _ (Ty10.setTop (mkF m 120 #[.val (.int px0), .val (.int pk), .val (.ref ay1), .val (.int C0), .val (.int (0 : Int32)), .val (.int (1 : Int32)), .val (.int I0), .val (.int (own_ch (own_al I0))), .val (.int (0 : Int32)), .unset] [(.int (1 : Int32))]))
      refine FinW.step (fun _ => XS.goto Xy10.here hx rfl (pc0 := 120) (pc' := 124) rfl (hb hby at_120) (by decide) (by decide)) ?_
      show FinW p e below s _ _ _ (Ty10.setTop (mkF m 124 #[.val (.int px0), .val (.int pk), .val (.ref ay1), .val (.int C0), .val (.int (0 : Int32)), .val (.int (1 : Int32)), .val (.int I0), .val (.int (own_ch (own_al I0))), .val (.int (0 : Int32)), .unset] [(.int (1 : Int32))]))
      refine FinW.step (fun _ => XS.istore Xy10.here hx rfl (hb hby at_124) rfl (l' := #[.val (.int px0), .val (.int pk), .val (.ref ay1), .val (.int C0), .val (.int (0 : Int32)), .val (.int (1 : Int32)), .val (.int I0), .val (.int (own_ch (own_al I0))), .val (.int (0 : Int32)), .val (.int (1 : Int32))]) rfl) ?_
      show FinW p e below s _ _ _ (Ty10.setTop (mkF m 126 #[.val (.int px0), .val (.int pk), .val (.ref ay1), .val (.int C0), .val (.int (0 : Int32)), .val (.int (1 : Int32)), .val (.int I0), .val (.int (own_ch (own_al I0))), .val (.int (0 : Int32)), .val (.int (1 : Int32))] []))
      refine FinW.step (fun _ => XS.iload Xy10.here hx rfl (hb hby at_126) rfl) ?_
      show FinW p e below s _ _ _ (Ty10.setTop (mkF m 128 #[.val (.int px0), .val (.int pk), .val (.ref ay1), .val (.int C0), .val (.int (0 : Int32)), .val (.int (1 : Int32)), .val (.int I0), .val (.int (own_ch (own_al I0))), .val (.int (0 : Int32)), .val (.int (1 : Int32))] [(.int (1 : Int32))]))
      refine FinW.step (fun _ => XS.ifNo Xy10.here hx rfl (hb hby at_128) rfl ((if0 _ _).trans (feq ((by decide) : ¬ ((1 : Int32) = (0 : Int32)))).1)) ?_
      show FinW p e below s _ _ _ (Ty10.setTop (mkF m 131 #[.val (.int px0), .val (.int pk), .val (.ref ay1), .val (.int C0), .val (.int (0 : Int32)), .val (.int (1 : Int32)), .val (.int I0), .val (.int (own_ch (own_al I0))), .val (.int (0 : Int32)), .val (.int (1 : Int32))] []))
      refine FinW.step (fun _ => XS.iload Xy10.here hx rfl (hb hby at_131) rfl) ?_
      show FinW p e below s _ _ _ (Ty10.setTop (mkF m 133 #[.val (.int px0), .val (.int pk), .val (.ref ay1), .val (.int C0), .val (.int (0 : Int32)), .val (.int (1 : Int32)), .val (.int I0), .val (.int (own_ch (own_al I0))), .val (.int (0 : Int32)), .val (.int (1 : Int32))] [(.int (1 : Int32))]))
      refine FinW.step (fun _ => XS.ifNo Xy10.here hx rfl (hb hby at_133) rfl ((if0 _ _).trans (feq ((by decide) : ¬ ((1 : Int32) = (0 : Int32)))).1)) ?_
      show FinW p e below s _ _ _ (Ty10.setTop (mkF m 136 #[.val (.int px0), .val (.int pk), .val (.ref ay1), .val (.int C0), .val (.int (0 : Int32)), .val (.int (1 : Int32)), .val (.int I0), .val (.int (own_ch (own_al I0))), .val (.int (0 : Int32)), .val (.int (1 : Int32))] []))
      refine FinW.step (fun _ => XS.iconst Xy10.here hx rfl (hb hby at_136)) ?_
      show FinW p e below s _ _ _ (Ty10.setTop (mkF m 137 #[.val (.int px0), .val (.int pk), .val (.ref ay1), .val (.int C0), .val (.int (0 : Int32)), .val (.int (1 : Int32)), .val (.int I0), .val (.int (own_ch (own_al I0))), .val (.int (0 : Int32)), .val (.int (1 : Int32))] [(.int (1 : Int32))]))
      refine FinW.step (fun _ => XS.goto Xy10.here hx rfl (pc0 := 137) (pc' := 141) rfl (hb hby at_137) (by decide) (by decide)) ?_
      show FinW p e below s _ _ _ (Ty10.setTop (mkF m 141 #[.val (.int px0), .val (.int pk), .val (.ref ay1), .val (.int C0), .val (.int (0 : Int32)), .val (.int (1 : Int32)), .val (.int I0), .val (.int (own_ch (own_al I0))), .val (.int (0 : Int32)), .val (.int (1 : Int32))] [(.int (1 : Int32))]))
      refine FinW.retN Xy10 hSy1 (by rw [eqy10]; exact hky1) hx (t := .boolean) hret (by simp) hlk (hb hby at_141) (by decide) (by decide) ?_
      show Q0 Z px0 pk fv wc h0 n0 _ Ty10.heap _
      rw [eqy10]
      exact ⟨rfl, Ny10, Ky1⟩
    · refine FinW.step (fun _ => XS.icmpYes Xy8.here hx rfl (pc0 := 98) (pc' := 105) rfl (hb hby at_98) rfl (feq (hcy9 : ¬ (I0 = (36 : Int32)))).2 (by decide) (by decide)) ?_
      show FinW p e below s _ _ _ (Ty8.setTop (mkF m 105 #[.val (.int px0), .val (.int pk), .val (.ref ay1), .val (.int C0), .val (.int (0 : Int32)), .val (.int (1 : Int32)), .val (.int I0), .val (.int (own_ch (own_al I0))), .unset, .unset] []))
      refine FinW.step (fun _ => XS.iload Xy8.here hx rfl (hb hby at_105) rfl) ?_
      show FinW p e below s _ _ _ (Ty8.setTop (mkF m 107 #[.val (.int px0), .val (.int pk), .val (.ref ay1), .val (.int C0), .val (.int (0 : Int32)), .val (.int (1 : Int32)), .val (.int I0), .val (.int (own_ch (own_al I0))), .unset, .unset] [(.int I0)]))
      refine FinW.step (fun _ => XS.istore Xy8.here hx rfl (hb hby at_107) rfl (l' := #[.val (.int px0), .val (.int pk), .val (.ref ay1), .val (.int C0), .val (.int (0 : Int32)), .val (.int (1 : Int32)), .val (.int I0), .val (.int (own_ch (own_al I0))), .val (.int I0), .unset]) rfl) ?_
      show FinW p e below s _ _ _ (Ty8.setTop (mkF m 109 #[.val (.int px0), .val (.int pk), .val (.ref ay1), .val (.int C0), .val (.int (0 : Int32)), .val (.int (1 : Int32)), .val (.int I0), .val (.int (own_ch (own_al I0))), .val (.int I0), .unset] []))
      refine FinW.step (fun _ => XS.iload Xy8.here hx rfl (hb hby at_109) rfl) ?_
      show FinW p e below s _ _ _ (Ty8.setTop (mkF m 111 #[.val (.int px0), .val (.int pk), .val (.ref ay1), .val (.int C0), .val (.int (0 : Int32)), .val (.int (1 : Int32)), .val (.int I0), .val (.int (own_ch (own_al I0))), .val (.int I0), .unset] [(.int (own_ch (own_al I0)))]))
      obtain ⟨_, _, ⟨Ty11, Ly11, ky11, ny11⟩, -, Xy11, ⟨Lcy11, hQy11, ly11, yy11, zy11⟩, sty11⟩ := Jvm.LawKit.callS Xy8 hx (y := (⟨"com/example/wicketgate/wicketgate/core/mrz/MrzCharacters", "valueOf", "(C)I"⟩ : MethodName)) hown (mvT hZ (hw _ (List.mem_of_getElem? (i := 9) rfl))) (mvT hZ (hw _ (List.mem_of_getElem? (i := 10) rfl))) (mvT hZ (hw _ (List.mem_of_getElem? (i := 11) rfl))) (mvT hZ (hw _ (List.mem_of_getElem? (i := 12) rfl))) (by decide) (backOf (W := 0) (rm1 l Z a0 hw [] (own_ch (own_al I0)) hy1 n0 Zy1 ) hZ (hw _ (List.mem_of_getElem? (i := 12) rfl)) (hw _ (List.mem_of_getElem? (i := 11) rfl)) (by decide) (by decide)) (g := (mkF m 111 #[.val (.int px0), .val (.int pk), .val (.ref ay1), .val (.int C0), .val (.int (0 : Int32)), .val (.int (1 : Int32)), .val (.int I0), .val (.int (own_ch (own_al I0))), .val (.int I0), .unset] [(.int (own_ch (own_al I0)))])) rfl (by rw [hml]; rfl) (argsL := [(.int (own_ch (own_al I0)))]) (rest := []) (lenOf pd_4 rfl) rfl (by show 2 * 0 + _ ≤ _; exact Nat.le_of_eq rfl) (hb hby at_111) (fun _ _ => ⟨rfl, eqy8, (by decide : 2 + 0 ≤ _), (by decide : 152 + 0 ≤ _)⟩)
      dsimp only [Pt.U, Pt.locs, Pt.cells, Pt.slots] at Xy11 ly11 yy11 zy11 sty11 hQy11
      subst ly11 yy11 zy11
      obtain ⟨rfl, Nqy11, eqy11⟩ := hQy11
      have Ny11 := Fr.app Ny8 Nqy11
      refine FinW.step (sty11) ?_
      show FinW p e below s _ _ _ (Ty11.setTop (mkF m 114 #[.val (.int px0), .val (.int pk), .val (.ref ay1), .val (.int C0), .val (.int (0 : Int32)), .val (.int (1 : Int32)), .val (.int I0), .val (.int (own_ch (own_al I0))), .val (.int I0), .unset] [(.int (own_vo (own_ch (own_al I0))))]))
      refine FinW.step (fun _ => XS.iload Xy11.here hx rfl (hb hby at_114) rfl) ?_
      show FinW p e below s _ _ _ (Ty11.setTop (mkF m 116 #[.val (.int px0), .val (.int pk), .val (.ref ay1), .val (.int C0), .val (.int (0 : Int32)), .val (.int (1 : Int32)), .val (.int I0), .val (.int (own_ch (own_al I0))), .val (.int I0), .unset] [(.int I0), (.int (own_vo (own_ch (own_al I0))))]))
      refine FinW.step (fun _ => XS.icmpNo Xy11.here hx rfl (hb hby at_116) rfl (teq ((own_b0 hI hcy9) : ((own_vo (own_ch (own_al I0))) = I0))).2) ?_
      show FinW p e below s _ _ _ (Ty11.setTop (mkF m 119 #[.val (.int px0), .val (.int pk), .val (.ref ay1), .val (.int C0), .val (.int (0 : Int32)), .val (.int (1 : Int32)), .val (.int I0), .val (.int (own_ch (own_al I0))), .val (.int I0), .unset] []))
      refine FinW.step (fun _ => XS.iconst Xy11.here hx rfl (hb hby at_119)) ?_
      show FinW p e below s _ _ _ (Ty11.setTop (mkF m 120 #[.val (.int px0), .val (.int pk), .val (.ref ay1), .val (.int C0), .val (.int (0 : Int32)), .val (.int (1 : Int32)), .val (.int I0), .val (.int (own_ch (own_al I0))), .val (.int I0), .unset] [(.int (1 : Int32))]))
      refine FinW.step (fun _ => XS.goto Xy11.here hx rfl (pc0 := 120) (pc' := 124) rfl (hb hby at_120) (by decide) (by decide)) ?_
      show FinW p e below s _ _ _ (Ty11.setTop (mkF m 124 #[.val (.int px0), .val (.int pk), .val (.ref ay1), .val (.int C0), .val (.int (0 : Int32)), .val (.int (1 : Int32)), .val (.int I0), .val (.int (own_ch (own_al I0))), .val (.int I0), .unset] [(.int (1 : Int32))]))
      refine FinW.step (fun _ => XS.istore Xy11.here hx rfl (hb hby at_124) rfl (l' := #[.val (.int px0), .val (.int pk), .val (.ref ay1), .val (.int C0), .val (.int (0 : Int32)), .val (.int (1 : Int32)), .val (.int I0), .val (.int (own_ch (own_al I0))), .val (.int I0), .val (.int (1 : Int32))]) rfl) ?_
      show FinW p e below s _ _ _ (Ty11.setTop (mkF m 126 #[.val (.int px0), .val (.int pk), .val (.ref ay1), .val (.int C0), .val (.int (0 : Int32)), .val (.int (1 : Int32)), .val (.int I0), .val (.int (own_ch (own_al I0))), .val (.int I0), .val (.int (1 : Int32))] []))
      refine FinW.step (fun _ => XS.iload Xy11.here hx rfl (hb hby at_126) rfl) ?_
      show FinW p e below s _ _ _ (Ty11.setTop (mkF m 128 #[.val (.int px0), .val (.int pk), .val (.ref ay1), .val (.int C0), .val (.int (0 : Int32)), .val (.int (1 : Int32)), .val (.int I0), .val (.int (own_ch (own_al I0))), .val (.int I0), .val (.int (1 : Int32))] [(.int (1 : Int32))]))
      refine FinW.step (fun _ => XS.ifNo Xy11.here hx rfl (hb hby at_128) rfl ((if0 _ _).trans (feq ((by decide) : ¬ ((1 : Int32) = (0 : Int32)))).1)) ?_
      show FinW p e below s _ _ _ (Ty11.setTop (mkF m 131 #[.val (.int px0), .val (.int pk), .val (.ref ay1), .val (.int C0), .val (.int (0 : Int32)), .val (.int (1 : Int32)), .val (.int I0), .val (.int (own_ch (own_al I0))), .val (.int I0), .val (.int (1 : Int32))] []))
      refine FinW.step (fun _ => XS.iload Xy11.here hx rfl (hb hby at_131) rfl) ?_
      show FinW p e below s _ _ _ (Ty11.setTop (mkF m 133 #[.val (.int px0), .val (.int pk), .val (.ref ay1), .val (.int C0), .val (.int (0 : Int32)), .val (.int (1 : Int32)), .val (.int I0), .val (.int (own_ch (own_al I0))), .val (.int I0), .val (.int (1 : Int32))] [(.int (1 : Int32))]))
      refine FinW.step (fun _ => XS.ifNo Xy11.here hx rfl (hb hby at_133) rfl ((if0 _ _).trans (feq ((by decide) : ¬ ((1 : Int32) = (0 : Int32)))).1)) ?_
      show FinW p e below s _ _ _ (Ty11.setTop (mkF m 136 #[.val (.int px0), .val (.int pk), .val (.ref ay1), .val (.int C0), .val (.int (0 : Int32)), .val (.int (1 : Int32)), .val (.int I0), .val (.int (own_ch (own_al I0))), .val (.int I0), .val (.int (1 : Int32))] []))
      refine FinW.step (fun _ => XS.iconst Xy11.here hx rfl (hb hby at_136)) ?_
      show FinW p e below s _ _ _ (Ty11.setTop (mkF m 137 #[.val (.int px0), .val (.int pk), .val (.ref ay1), .val (.int C0), .val (.int (0 : Int32)), .val (.int (1 : Int32)), .val (.int I0), .val (.int (own_ch (own_al I0))), .val (.int I0), .val (.int (1 : Int32))] [(.int (1 : Int32))]))
      refine FinW.step (fun _ => XS.goto Xy11.here hx rfl (pc0 := 137) (pc' := 141) rfl (hb hby at_137) (by decide) (by decide)) ?_
      show FinW p e below s _ _ _ (Ty11.setTop (mkF m 141 #[.val (.int px0), .val (.int pk), .val (.ref ay1), .val (.int C0), .val (.int (0 : Int32)), .val (.int (1 : Int32)), .val (.int I0), .val (.int (own_ch (own_al I0))), .val (.int I0), .val (.int (1 : Int32))] [(.int (1 : Int32))]))
      refine FinW.retN Xy11 hSy1 (by rw [eqy11]; exact hky1) hx (t := .boolean) hret (by simp) hlk (hb hby at_141) (by decide) (by decide) ?_
      show Q0 Z px0 pk fv wc h0 n0 _ Ty11.heap _
      rw [eqy11]
      exact ⟨rfl, Ny11, Ky1⟩
  · have hR := qn
    obtain ⟨R2, h_R2⟩ : ∃ z : Int32, z = (own_vo C0) := ⟨_, rfl⟩
    rw [← h_R2]
    show FinW p e below s _ _ _ (Ty2.setTop (mkF m 15 #[.val (.int px0), .val (.int pk), .val (.ref ay1), .val (.int C0), .val (.int R2), .unset, .unset, .unset, .unset, .unset] []))
    rw [← h_R2] at hR
    refine FinW.step (fun _ => XS.iload Xy2.here hx rfl (hb hby at_15) rfl) ?_
    show FinW p e below s _ _ _ (Ty2.setTop (mkF m 17 #[.val (.int px0), .val (.int pk), .val (.ref ay1), .val (.int C0), .val (.int R2), .unset, .unset, .unset, .unset, .unset] [(.int R2)]))
    refine FinW.step (fun _ => XS.ifYes Xy2.here hx rfl (pc0 := 17) (pc' := 36) rfl (hb hby at_17) rfl ((if0 _ _).trans (flt ((own_nn hR) : ¬ (R2 < (0 : Int32)))).2.1) (by decide) (by decide)) ?_
    show FinW p e below s _ _ _ (Ty2.setTop (mkF m 36 #[.val (.int px0), .val (.int pk), .val (.ref ay1), .val (.int C0), .val (.int R2), .unset, .unset, .unset, .unset, .unset] []))
    refine FinW.step (fun _ => XS.iload Xy2.here hx rfl (hb hby at_36) rfl) ?_
    show FinW p e below s _ _ _ (Ty2.setTop (mkF m 38 #[.val (.int px0), .val (.int pk), .val (.ref ay1), .val (.int C0), .val (.int R2), .unset, .unset, .unset, .unset, .unset] [(.int R2)]))
    refine FinW.step (fun _ => XS.bipush Xy2.here hx rfl (hb hby at_38)) ?_
    show FinW p e below s _ _ _ (Ty2.setTop (mkF m 40 #[.val (.int px0), .val (.int pk), .val (.ref ay1), .val (.int C0), .val (.int R2), .unset, .unset, .unset, .unset, .unset] [(.int (35 : Int32)), (.int R2)]))
    refine FinW.step (fun _ => XS.icmpYes Xy2.here hx rfl (pc0 := 40) (pc' := 49) rfl (hb hby at_40) rfl (flt ((own_n35 hR) : ¬ ((35 : Int32) < R2))).2.2.2 (by decide) (by decide)) ?_
    show FinW p e below s _ _ _ (Ty2.setTop (mkF m 49 #[.val (.int px0), .val (.int pk), .val (.ref ay1), .val (.int C0), .val (.int R2), .unset, .unset, .unset, .unset, .unset] []))
    have hR0 : 0 ≤ (R2).toInt ∧ (R2).toInt < 37 := ⟨hR.1, by omega⟩
    refine FinW.step (fun _ => XS.iloadN Xy2.here hx rfl (hb hby at_49) rfl) ?_
    show FinW p e below s _ _ _ (Ty2.setTop (mkF m 50 #[.val (.int px0), .val (.int pk), .val (.ref ay1), .val (.int C0), .val (.int R2), .unset, .unset, .unset, .unset, .unset] [(.int C0)]))
    refine FinW.step (fun _ => XS.aloadN Xy2.here hx rfl (hb hby at_50) rfl rfl) ?_
    show FinW p e below s _ _ _ (Ty2.setTop (mkF m 51 #[.val (.int px0), .val (.int pk), .val (.ref ay1), .val (.int C0), .val (.int R2), .unset, .unset, .unset, .unset, .unset] [(.ref ay1), (.int C0)]))
    refine FinW.step (fun _ => XS.iload Xy2.here hx rfl (hb hby at_51) rfl) ?_
    show FinW p e below s _ _ _ (Ty2.setTop (mkF m 53 #[.val (.int px0), .val (.int pk), .val (.ref ay1), .val (.int C0), .val (.int R2), .unset, .unset, .unset, .unset, .unset] [(.int R2), (.ref ay1), (.int C0)]))
    obtain ⟨cqy12, kqy12, qy12a, qy12b, qy12c⟩ := isOf hZ eqy2 Ay1
    obtain ⟨_, _, ⟨Ty12, Ly12, ky12, ny12⟩, -, Xy12, ⟨Lcy12, hQy12, ly12, yy12, zy12⟩, sty12⟩ := Xy2.virtualBack hx (y := (⟨"java/lang/String", "charAt", "(I)C"⟩ : MethodName)) (z := (⟨"java/lang/String", "charAt", "(I)C"⟩ : MethodName)) hown (mvT hZ (hw _ (List.mem_of_getElem? (i := 14) rfl))) (mvT hZ (hw _ (List.mem_of_getElem? (i := 15) rfl))) (notFace_of_selects (args := #[]) (mvT hZ (hw _ (List.mem_of_getElem? (i := 17) rfl)))) (mvT hZ (hw _ (List.mem_of_getElem? (i := 17) rfl))) (mvT hZ (hw _ (List.mem_of_getElem? (i := 16) rfl))) (by decide) (backOf (W := 1) (rm2 l Z a0 hw [] ay1 R2 by1 kby1 (37 : Int32) [(.int (48 : Int32)), (.int (49 : Int32)), (.int (50 : Int32)), (.int (51 : Int32)), (.int (52 : Int32)), (.int (53 : Int32)), (.int (54 : Int32)), (.int (55 : Int32)), (.int (56 : Int32)), (.int (57 : Int32)), (.int (65 : Int32)), (.int (66 : Int32)), (.int (67 : Int32)), (.int (68 : Int32)), (.int (69 : Int32)), (.int (70 : Int32)), (.int (71 : Int32)), (.int (72 : Int32)), (.int (73 : Int32)), (.int (74 : Int32)), (.int (75 : Int32)), (.int (76 : Int32)), (.int (77 : Int32)), (.int (78 : Int32)), (.int (79 : Int32)), (.int (80 : Int32)), (.int (81 : Int32)), (.int (82 : Int32)), (.int (83 : Int32)), (.int (84 : Int32)), (.int (85 : Int32)), (.int (86 : Int32)), (.int (87 : Int32)), (.int (88 : Int32)), (.int (89 : Int32)), (.int (90 : Int32)), (.int (60 : Int32))] fv wc (own_al R2) hy1 n0 Zy1 Ay1 Fcy1 Fvy1 Vy1 (Sta_keep HS_jdk_internal_util_Preconditions_SIOOBE_FORMATTER Ky1) (Sta_keep HS_java_lang_String_COMPACT_STRINGS Ky1) hfv hwc (own_in hR0) (own_get hR0)) hZ (hw _ (List.mem_of_getElem? (i := 18) rfl)) (hw _ (List.mem_of_getElem? (i := 1) rfl)) (by decide) (by decide)) qy12a qy12c (g := (mkF m 53 #[.val (.int px0), .val (.int pk), .val (.ref ay1), .val (.int C0), .val (.int R2), .unset, .unset, .unset, .unset, .unset] [(.int R2), (.ref ay1), (.int C0)])) rfl (by rw [hml]; rfl) (Steps.refl _) (argsL := [(.int R2)]) (rest := [(.int C0)]) (lenOf pd_5 rfl) rfl (by show 2 * 0 + _ ≤ _; exact Nat.le_of_eq rfl) (hb hby at_53) (fun _ _ => ⟨rfl, eqy2, (by decide : 2 + 0 ≤ _), (by decide : 152 + 0 ≤ _)⟩)
    dsimp only [Pt.U, Pt.locs, Pt.cells, Pt.slots] at Xy12 ly12 yy12 zy12 sty12 hQy12
    subst ly12 yy12 zy12
    obtain ⟨rfl, Nqy12, eqy12⟩ := hQy12
    have Ny12 := Fr.app Ny2 Nqy12
    refine FinW.step (fun _ k => sty12.trans k) ?_
    show FinW p e below s _ _ _ (Ty12.setTop (mkF m 56 #[.val (.int px0), .val (.int pk), .val (.ref ay1), .val (.int C0), .val (.int R2), .unset, .unset, .unset, .unset, .unset] [(.int (own_ch (own_al R2))), (.int C0)]))
    refine FinW.step (fun _ => XS.icmpYes Xy12.here hx rfl (pc0 := 56) (pc' := 70) rfl (hb hby at_56) rfl (teq ((own_same hR) : (C0 = (own_ch (own_al R2))))).1 (by decide) (by decide)) ?_
    show FinW p e below s _ _ _ (Ty12.setTop (mkF m 70 #[.val (.int px0), .val (.int pk), .val (.ref ay1), .val (.int C0), .val (.int R2), .unset, .unset, .unset, .unset, .unset] []))
    refine FinW.step (fun _ => XS.iconst Xy12.here hx rfl (hb hby at_70)) ?_
    show FinW p e below s _ _ _ (Ty12.setTop (mkF m 71 #[.val (.int px0), .val (.int pk), .val (.ref ay1), .val (.int C0), .val (.int R2), .unset, .unset, .unset, .unset, .unset] [(.int (1 : Int32))]))
    refine FinW.step (fun _ => XS.goto Xy12.here hx rfl (pc0 := 71) (pc' := 75) rfl (hb hby at_71) (by decide) (by decide)) ?_
    show FinW p e below s _ _ _ (Ty12.setTop (mkF m 75 #[.val (.int px0), .val (.int pk), .val (.ref ay1), .val (.int C0), .val (.int R2), .unset, .unset, .unset, .unset, .unset] [(.int (1 : Int32))]))
    refine FinW.step (fun _ => XS.istore Xy12.here hx rfl (hb hby at_75) rfl (l' := #[.val (.int px0), .val (.int pk), .val (.ref ay1), .val (.int C0), .val (.int R2), .val (.int (1 : Int32)), .unset, .unset, .unset, .unset]) rfl) ?_
    show FinW p e below s _ _ _ (Ty12.setTop (mkF m 77 #[.val (.int px0), .val (.int pk), .val (.ref ay1), .val (.int C0), .val (.int R2), .val (.int (1 : Int32)), .unset, .unset, .unset, .unset] []))
    refine FinW.step (fun _ => XS.iloadN Xy12.here hx rfl (hb hby at_77) rfl) ?_
    show FinW p e below s _ _ _ (Ty12.setTop (mkF m 78 #[.val (.int px0), .val (.int pk), .val (.ref ay1), .val (.int C0), .val (.int R2), .val (.int (1 : Int32)), .unset, .unset, .unset, .unset] [(.int pk)]))
    refine FinW.step (Xy12.ldcInt hx hown (mvT hZ (hw _ (List.mem_of_getElem? (i := 13) rfl))) (g := (mkF m 78 #[.val (.int px0), .val (.int pk), .val (.ref ay1), .val (.int C0), .val (.int R2), .val (.int (1 : Int32)), .unset, .unset, .unset, .unset] [(.int pk)])) rfl (hb hby at_78)) ?_
    show FinW p e below s _ _ _ (Ty12.setTop (mkF m 80 #[.val (.int px0), .val (.int pk), .val (.ref ay1), .val (.int C0), .val (.int R2), .val (.int (1 : Int32)), .unset, .unset, .unset, .unset] [(.int (2147483647 : Int32)), (.int pk)]))
    refine FinW.step (fun _ => XS.iand Xy12.here hx rfl (hb hby at_80) rfl) ?_
    show FinW p e below s _ _ _ (Ty12.setTop (mkF m 81 #[.val (.int px0), .val (.int pk), .val (.ref ay1), .val (.int C0), .val (.int R2), .val (.int (1 : Int32)), .unset, .unset, .unset, .unset] [(.int (pk &&& (2147483647 : Int32)))]))
    refine FinW.step (fun _ => XS.bipush Xy12.here hx rfl (hb hby at_81)) ?_
    show FinW p e below s _ _ _ (Ty12.setTop (mkF m 83 #[.val (.int px0), .val (.int pk), .val (.ref ay1), .val (.int C0), .val (.int R2), .val (.int (1 : Int32)), .unset, .unset, .unset, .unset] [(.int (37 : Int32)), (.int (pk &&& (2147483647 : Int32)))]))
    refine FinW.step (fun _ => iremM Xy12 hx (g := (mkF m 83 #[.val (.int px0), .val (.int pk), .val (.ref ay1), .val (.int C0), .val (.int R2), .val (.int (1 : Int32)), .unset, .unset, .unset, .unset] [(.int (37 : Int32)), (.int (pk &&& (2147483647 : Int32)))])) rfl (hb hby at_83) rfl (by decide)) ?_
    show FinW p e below s _ _ _ (Ty12.setTop (mkF m 84 #[.val (.int px0), .val (.int pk), .val (.ref ay1), .val (.int C0), .val (.int R2), .val (.int (1 : Int32)), .unset, .unset, .unset, .unset] [(.int ((pk &&& (2147483647 : Int32)) % (37 : Int32)))]))
    refine FinW.step (fun _ => XS.istore Xy12.here hx rfl (hb hby at_84) rfl (l' := #[.val (.int px0), .val (.int pk), .val (.ref ay1), .val (.int C0), .val (.int R2), .val (.int (1 : Int32)), .val (.int ((pk &&& (2147483647 : Int32)) % (37 : Int32))), .unset, .unset, .unset]) rfl) ?_
    show FinW p e below s _ _ _ (Ty12.setTop (mkF m 86 #[.val (.int px0), .val (.int pk), .val (.ref ay1), .val (.int C0), .val (.int R2), .val (.int (1 : Int32)), .val (.int ((pk &&& (2147483647 : Int32)) % (37 : Int32))), .unset, .unset, .unset] []))
    obtain ⟨I0, h_I0⟩ : ∃ z : Int32, z = ((pk &&& (2147483647 : Int32)) % (37 : Int32)) := ⟨_, rfl⟩
    rw [← h_I0]
    show FinW p e below s _ _ _ (Ty12.setTop (mkF m 86 #[.val (.int px0), .val (.int pk), .val (.ref ay1), .val (.int C0), .val (.int R2), .val (.int (1 : Int32)), .val (.int I0), .unset, .unset, .unset] []))
    have hI : 0 ≤ I0.toInt ∧ I0.toInt < 37 := by rw [h_I0]; exact own_37 _
    refine FinW.step (fun _ => XS.aloadN Xy12.here hx rfl (hb hby at_86) rfl rfl) ?_
    show FinW p e below s _ _ _ (Ty12.setTop (mkF m 87 #[.val (.int px0), .val (.int pk), .val (.ref ay1), .val (.int C0), .val (.int R2), .val (.int (1 : Int32)), .val (.int I0), .unset, .unset, .unset] [(.ref ay1)]))
    refine FinW.step (fun _ => XS.iload Xy12.here hx rfl (hb hby at_87) rfl) ?_
    show FinW p e below s _ _ _ (Ty12.setTop (mkF m 89 #[.val (.int px0), .val (.int pk), .val (.ref ay1), .val (.int C0), .val (.int R2), .val (.int (1 : Int32)), .val (.int I0), .unset, .unset, .unset] [(.int I0), (.ref ay1)]))
    obtain ⟨cqy13, kqy13, qy13a, qy13b, qy13c⟩ := isOf hZ eqy12 Ay1
    obtain ⟨_, _, ⟨Ty13, Ly13, ky13, ny13⟩, -, Xy13, ⟨Lcy13, hQy13, ly13, yy13, zy13⟩, sty13⟩ := Xy12.virtualBack hx (y := (⟨"java/lang/String", "charAt", "(I)C"⟩ : MethodName)) (z := (⟨"java/lang/String", "charAt", "(I)C"⟩ : MethodName)) hown (mvT hZ (hw _ (List.mem_of_getElem? (i := 14) rfl))) (mvT hZ (hw _ (List.mem_of_getElem? (i := 15) rfl))) (notFace_of_selects (args := #[]) (mvT hZ (hw _ (List.mem_of_getElem? (i := 17) rfl)))) (mvT hZ (hw _ (List.mem_of_getElem? (i := 17) rfl))) (mvT hZ (hw _ (List.mem_of_getElem? (i := 16) rfl))) (by decide) (backOf (W := 0) (rm2 l Z a0 hw [] ay1 I0 by1 kby1 (37 : Int32) [(.int (48 : Int32)), (.int (49 : Int32)), (.int (50 : Int32)), (.int (51 : Int32)), (.int (52 : Int32)), (.int (53 : Int32)), (.int (54 : Int32)), (.int (55 : Int32)), (.int (56 : Int32)), (.int (57 : Int32)), (.int (65 : Int32)), (.int (66 : Int32)), (.int (67 : Int32)), (.int (68 : Int32)), (.int (69 : Int32)), (.int (70 : Int32)), (.int (71 : Int32)), (.int (72 : Int32)), (.int (73 : Int32)), (.int (74 : Int32)), (.int (75 : Int32)), (.int (76 : Int32)), (.int (77 : Int32)), (.int (78 : Int32)), (.int (79 : Int32)), (.int (80 : Int32)), (.int (81 : Int32)), (.int (82 : Int32)), (.int (83 : Int32)), (.int (84 : Int32)), (.int (85 : Int32)), (.int (86 : Int32)), (.int (87 : Int32)), (.int (88 : Int32)), (.int (89 : Int32)), (.int (90 : Int32)), (.int (60 : Int32))] fv wc (own_al I0) hy1 n0 Zy1 Ay1 Fcy1 Fvy1 Vy1 (Sta_keep HS_jdk_internal_util_Preconditions_SIOOBE_FORMATTER Ky1) (Sta_keep HS_java_lang_String_COMPACT_STRINGS Ky1) hfv hwc (own_in hI) (own_get hI)) hZ (hw _ (List.mem_of_getElem? (i := 18) rfl)) (hw _ (List.mem_of_getElem? (i := 1) rfl)) (by decide) (by decide)) qy13a qy13c (g := (mkF m 89 #[.val (.int px0), .val (.int pk), .val (.ref ay1), .val (.int C0), .val (.int R2), .val (.int (1 : Int32)), .val (.int I0), .unset, .unset, .unset] [(.int I0), (.ref ay1)])) rfl (by rw [hml]; rfl) (Steps.refl _) (argsL := [(.int I0)]) (rest := []) (lenOf pd_5 rfl) rfl (by show 2 * 0 + _ ≤ _; exact Nat.le_of_eq rfl) (hb hby at_89) (fun _ _ => ⟨rfl, eqy12, (by decide : 2 + 0 ≤ _), (by decide : 152 + 0 ≤ _)⟩)
    dsimp only [Pt.U, Pt.locs, Pt.cells, Pt.slots] at Xy13 ly13 yy13 zy13 sty13 hQy13
    subst ly13 yy13 zy13
    obtain ⟨rfl, Nqy13, eqy13⟩ := hQy13
    have Ny13 := Fr.app Ny12 Nqy13
    refine FinW.step (fun _ k => sty13.trans k) ?_
    show FinW p e below s _ _ _ (Ty13.setTop (mkF m 92 #[.val (.int px0), .val (.int pk), .val (.ref ay1), .val (.int C0), .val (.int R2), .val (.int (1 : Int32)), .val (.int I0), .unset, .unset, .unset] [(.int (own_ch (own_al I0)))]))
    refine FinW.step (fun _ => XS.istore Xy13.here hx rfl (hb hby at_92) rfl (l' := #[.val (.int px0), .val (.int pk), .val (.ref ay1), .val (.int C0), .val (.int R2), .val (.int (1 : Int32)), .val (.int I0), .val (.int (own_ch (own_al I0))), .unset, .unset]) rfl) ?_
    show FinW p e below s _ _ _ (Ty13.setTop (mkF m 94 #[.val (.int px0), .val (.int pk), .val (.ref ay1), .val (.int C0), .val (.int R2), .val (.int (1 : Int32)), .val (.int I0), .val (.int (own_ch (own_al I0))), .unset, .unset] []))
    refine FinW.step (fun _ => XS.iload Xy13.here hx rfl (hb hby at_94) rfl) ?_
    show FinW p e below s _ _ _ (Ty13.setTop (mkF m 96 #[.val (.int px0), .val (.int pk), .val (.ref ay1), .val (.int C0), .val (.int R2), .val (.int (1 : Int32)), .val (.int I0), .val (.int (own_ch (own_al I0))), .unset, .unset] [(.int I0)]))
    refine FinW.step (fun _ => XS.bipush Xy13.here hx rfl (hb hby at_96)) ?_
    show FinW p e below s _ _ _ (Ty13.setTop (mkF m 98 #[.val (.int px0), .val (.int pk), .val (.ref ay1), .val (.int C0), .val (.int R2), .val (.int (1 : Int32)), .val (.int I0), .val (.int (own_ch (own_al I0))), .unset, .unset] [(.int (36 : Int32)), (.int I0)]))
    by_cases hcy14 : I0 = (36 : Int32)
    · refine FinW.step (fun _ => XS.icmpNo Xy13.here hx rfl (hb hby at_98) rfl (teq (hcy14 : (I0 = (36 : Int32)))).2) ?_
      show FinW p e below s _ _ _ (Ty13.setTop (mkF m 101 #[.val (.int px0), .val (.int pk), .val (.ref ay1), .val (.int C0), .val (.int R2), .val (.int (1 : Int32)), .val (.int I0), .val (.int (own_ch (own_al I0))), .unset, .unset] []))
      refine FinW.step (fun _ => XS.iconst Xy13.here hx rfl (hb hby at_101)) ?_
      show FinW p e below s _ _ _ (Ty13.setTop (mkF m 102 #[.val (.int px0), .val (.int pk), .val (.ref ay1), .val (.int C0), .val (.int R2), .val (.int (1 : Int32)), .val (.int I0), .val (.int (own_ch (own_al I0))), .unset, .unset] [(.int (0 : Int32))]))
      refine FinW.step (fun _ => XS.goto Xy13.here hx rfl (pc0 := 102) (pc' := 107) rfl (hb hby at_102) (by decide) (by decide)) ?_
      show FinW p e below s _ _ _ (Ty13.setTop (mkF m 107 #[.val (.int px0), .val (.int pk), .val (.ref ay1), .val (.int C0), .val (.int R2), .val (.int (1 : Int32)), .val (.int I0), .val (.int (own_ch (own_al I0))), .unset, .unset] [(.int (0 : Int32))]))
      refine FinW.step (fun _ => XS.istore Xy13.here hx rfl (hb hby at_107) rfl (l' := #[.val (.int px0), .val (.int pk), .val (.ref ay1), .val (.int C0), .val (.int R2), .val (.int (1 : Int32)), .val (.int I0), .val (.int (own_ch (own_al I0))), .val (.int (0 : Int32)), .unset]) rfl) ?_
      show FinW p e below s _ _ _ (Ty13.setTop (mkF m 109 #[.val (.int px0), .val (.int pk), .val (.ref ay1), .val (.int C0), .val (.int R2), .val (.int (1 : Int32)), .val (.int I0), .val (.int (own_ch (own_al I0))), .val (.int (0 : Int32)), .unset] []))
      refine FinW.step (fun _ => XS.iload Xy13.here hx rfl (hb hby at_109) rfl) ?_
      show FinW p e below s _ _ _ (Ty13.setTop (mkF m 111 #[.val (.int px0), .val (.int pk), .val (.ref ay1), .val (.int C0), .val (.int R2), .val (.int (1 : Int32)), .val (.int I0), .val (.int (own_ch (own_al I0))), .val (.int (0 : Int32)), .unset] [(.int (own_ch (own_al I0)))]))
      obtain ⟨_, _, ⟨Ty15, Ly15, ky15, ny15⟩, -, Xy15, ⟨Lcy15, hQy15, ly15, yy15, zy15⟩, sty15⟩ := Jvm.LawKit.callS Xy13 hx (y := (⟨"com/example/wicketgate/wicketgate/core/mrz/MrzCharacters", "valueOf", "(C)I"⟩ : MethodName)) hown (mvT hZ (hw _ (List.mem_of_getElem? (i := 9) rfl))) (mvT hZ (hw _ (List.mem_of_getElem? (i := 10) rfl))) (mvT hZ (hw _ (List.mem_of_getElem? (i := 11) rfl))) (mvT hZ (hw _ (List.mem_of_getElem? (i := 12) rfl))) (by decide) (backOf (W := 0) (rm1 l Z a0 hw [] (own_ch (own_al I0)) hy1 n0 Zy1 ) hZ (hw _ (List.mem_of_getElem? (i := 12) rfl)) (hw _ (List.mem_of_getElem? (i := 11) rfl)) (by decide) (by decide)) (g := (mkF m 111 #[.val (.int px0), .val (.int pk), .val (.ref ay1), .val (.int C0), .val (.int R2), .val (.int (1 : Int32)), .val (.int I0), .val (.int (own_ch (own_al I0))), .val (.int (0 : Int32)), .unset] [(.int (own_ch (own_al I0)))])) rfl (by rw [hml]; rfl) (argsL := [(.int (own_ch (own_al I0)))]) (rest := []) (lenOf pd_4 rfl) rfl (by show 2 * 0 + _ ≤ _; exact Nat.le_of_eq rfl) (hb hby at_111) (fun _ _ => ⟨rfl, eqy13, (by decide : 2 + 0 ≤ _), (by decide : 152 + 0 ≤ _)⟩)
      dsimp only [Pt.U, Pt.locs, Pt.cells, Pt.slots] at Xy15 ly15 yy15 zy15 sty15 hQy15
      subst ly15 yy15 zy15
      obtain ⟨rfl, Nqy15, eqy15⟩ := hQy15
      have Ny15 := Fr.app Ny13 Nqy15
      refine FinW.step (sty15) ?_
      show FinW p e below s _ _ _ (Ty15.setTop (mkF m 114 #[.val (.int px0), .val (.int pk), .val (.ref ay1), .val (.int C0), .val (.int R2), .val (.int (1 : Int32)), .val (.int I0), .val (.int (own_ch (own_al I0))), .val (.int (0 : Int32)), .unset] [(.int (own_vo (own_ch (own_al I0))))]))
      refine FinW.step (fun _ => XS.iload Xy15.here hx rfl (hb hby at_114) rfl) ?_
      show FinW p e below s _ _ _ (Ty15.setTop (mkF m 116 #[.val (.int px0), .val (.int pk), .val (.ref ay1), .val (.int C0), .val (.int R2), .val (.int (1 : Int32)), .val (.int I0), .val (.int (own_ch (own_al I0))), .val (.int (0 : Int32)), .unset] [(.int (0 : Int32)), (.int (own_vo (own_ch (own_al I0))))]))
      refine FinW.step (fun _ => XS.icmpNo Xy15.here hx rfl (hb hby at_116) rfl (teq ((own_b1 hI hcy14) : ((own_vo (own_ch (own_al I0))) = (0 : Int32)))).2) ?_
      show FinW p e below s _ _ _ (Ty15.setTop (mkF m 119 #[.val (.int px0), .val (.int pk), .val (.ref ay1), .val (.int C0), .val (.int R2), .val (.int (1 : Int32)), .val (.int I0), .val (.int (own_ch (own_al I0))), .val (.int (0 : Int32)), .unset] []))
      refine FinW.step (fun _ => XS.iconst Xy15.here hx rfl (hb hby at_119)) ?_
      show FinW p e below s _ _ _ (Ty15.setTop (mkF m 120 #[.val (.int px0), .val (.int pk), .val (.ref ay1), .val (.int C0), .val (.int R2), .val (.int (1 : Int32)), .val (.int I0), .val (.int (own_ch (own_al I0))), .val (.int (0 : Int32)), .unset] [(.int (1 : Int32))]))
      refine FinW.step (fun _ => XS.goto Xy15.here hx rfl (pc0 := 120) (pc' := 124) rfl (hb hby at_120) (by decide) (by decide)) ?_
      show FinW p e below s _ _ _ (Ty15.setTop (mkF m 124 #[.val (.int px0), .val (.int pk), .val (.ref ay1), .val (.int C0), .val (.int R2), .val (.int (1 : Int32)), .val (.int I0), .val (.int (own_ch (own_al I0))), .val (.int (0 : Int32)), .unset] [(.int (1 : Int32))]))
      refine FinW.step (fun _ => XS.istore Xy15.here hx rfl (hb hby at_124) rfl (l' := #[.val (.int px0), .val (.int pk), .val (.ref ay1), .val (.int C0), .val (.int R2), .val (.int (1 : Int32)), .val (.int I0), .val (.int (own_ch (own_al I0))), .val (.int (0 : Int32)), .val (.int (1 : Int32))]) rfl) ?_
      show FinW p e below s _ _ _ (Ty15.setTop (mkF m 126 #[.val (.int px0), .val (.int pk), .val (.ref ay1), .val (.int C0), .val (.int R2), .val (.int (1 : Int32)), .val (.int I0), .val (.int (own_ch (own_al I0))), .val (.int (0 : Int32)), .val (.int (1 : Int32))] []))
      refine FinW.step (fun _ => XS.iload Xy15.here hx rfl (hb hby at_126) rfl) ?_
      show FinW p e below s _ _ _ (Ty15.setTop (mkF m 128 #[.val (.int px0), .val (.int pk), .val (.ref ay1), .val (.int C0), .val (.int R2), .val (.int (1 : Int32)), .val (.int I0), .val (.int (own_ch (own_al I0))), .val (.int (0 : Int32)), .val (.int (1 : Int32))] [(.int (1 : Int32))]))
      refine FinW.step (fun _ => XS.ifNo Xy15.here hx rfl (hb hby at_128) rfl ((if0 _ _).trans (feq ((by decide) : ¬ ((1 : Int32) = (0 : Int32)))).1)) ?_
      show FinW p e below s _ _ _ (Ty15.setTop (mkF m 131 #[.val (.int px0), .val (.int pk), .val (.ref ay1), .val (.int C0), .val (.int R2), .val (.int (1 : Int32)), .val (.int I0), .val (.int (own_ch (own_al I0))), .val (.int (0 : Int32)), .val (.int (1 : Int32))] []))
      refine FinW.step (fun _ => XS.iload Xy15.here hx rfl (hb hby at_131) rfl) ?_
      show FinW p e below s _ _ _ (Ty15.setTop (mkF m 133 #[.val (.int px0), .val (.int pk), .val (.ref ay1), .val (.int C0), .val (.int R2), .val (.int (1 : Int32)), .val (.int I0), .val (.int (own_ch (own_al I0))), .val (.int (0 : Int32)), .val (.int (1 : Int32))] [(.int (1 : Int32))]))
      refine FinW.step (fun _ => XS.ifNo Xy15.here hx rfl (hb hby at_133) rfl ((if0 _ _).trans (feq ((by decide) : ¬ ((1 : Int32) = (0 : Int32)))).1)) ?_
      show FinW p e below s _ _ _ (Ty15.setTop (mkF m 136 #[.val (.int px0), .val (.int pk), .val (.ref ay1), .val (.int C0), .val (.int R2), .val (.int (1 : Int32)), .val (.int I0), .val (.int (own_ch (own_al I0))), .val (.int (0 : Int32)), .val (.int (1 : Int32))] []))
      refine FinW.step (fun _ => XS.iconst Xy15.here hx rfl (hb hby at_136)) ?_
      show FinW p e below s _ _ _ (Ty15.setTop (mkF m 137 #[.val (.int px0), .val (.int pk), .val (.ref ay1), .val (.int C0), .val (.int R2), .val (.int (1 : Int32)), .val (.int I0), .val (.int (own_ch (own_al I0))), .val (.int (0 : Int32)), .val (.int (1 : Int32))] [(.int (1 : Int32))]))
      refine FinW.step (fun _ => XS.goto Xy15.here hx rfl (pc0 := 137) (pc' := 141) rfl (hb hby at_137) (by decide) (by decide)) ?_
      show FinW p e below s _ _ _ (Ty15.setTop (mkF m 141 #[.val (.int px0), .val (.int pk), .val (.ref ay1), .val (.int C0), .val (.int R2), .val (.int (1 : Int32)), .val (.int I0), .val (.int (own_ch (own_al I0))), .val (.int (0 : Int32)), .val (.int (1 : Int32))] [(.int (1 : Int32))]))
      refine FinW.retN Xy15 hSy1 (by rw [eqy15]; exact hky1) hx (t := .boolean) hret (by simp) hlk (hb hby at_141) (by decide) (by decide) ?_
      show Q0 Z px0 pk fv wc h0 n0 _ Ty15.heap _
      rw [eqy15]
      exact ⟨rfl, Ny15, Ky1⟩
    · refine FinW.step (fun _ => XS.icmpYes Xy13.here hx rfl (pc0 := 98) (pc' := 105) rfl (hb hby at_98) rfl (feq (hcy14 : ¬ (I0 = (36 : Int32)))).2 (by decide) (by decide)) ?_
      show FinW p e below s _ _ _ (Ty13.setTop (mkF m 105 #[.val (.int px0), .val (.int pk), .val (.ref ay1), .val (.int C0), .val (.int R2), .val (.int (1 : Int32)), .val (.int I0), .val (.int (own_ch (own_al I0))), .unset, .unset] []))
      refine FinW.step (fun _ => XS.iload Xy13.here hx rfl (hb hby at_105) rfl) ?_
      show FinW p e below s _ _ _ (Ty13.setTop (mkF m 107 #[.val (.int px0), .val (.int pk), .val (.ref ay1), .val (.int C0), .val (.int R2), .val (.int (1 : Int32)), .val (.int I0), .val (.int (own_ch (own_al I0))), .unset, .unset] [(.int I0)]))
      refine FinW.step (fun _ => XS.istore Xy13.here hx rfl (hb hby at_107) rfl (l' := #[.val (.int px0), .val (.int pk), .val (.ref ay1), .val (.int C0), .val (.int R2), .val (.int (1 : Int32)), .val (.int I0), .val (.int (own_ch (own_al I0))), .val (.int I0), .unset]) rfl) ?_
      show FinW p e below s _ _ _ (Ty13.setTop (mkF m 109 #[.val (.int px0), .val (.int pk), .val (.ref ay1), .val (.int C0), .val (.int R2), .val (.int (1 : Int32)), .val (.int I0), .val (.int (own_ch (own_al I0))), .val (.int I0), .unset] []))
      refine FinW.step (fun _ => XS.iload Xy13.here hx rfl (hb hby at_109) rfl) ?_
      show FinW p e below s _ _ _ (Ty13.setTop (mkF m 111 #[.val (.int px0), .val (.int pk), .val (.ref ay1), .val (.int C0), .val (.int R2), .val (.int (1 : Int32)), .val (.int I0), .val (.int (own_ch (own_al I0))), .val (.int I0), .unset] [(.int (own_ch (own_al I0)))]))
      obtain ⟨_, _, ⟨Ty16, Ly16, ky16, ny16⟩, -, Xy16, ⟨Lcy16, hQy16, ly16, yy16, zy16⟩, sty16⟩ := Jvm.LawKit.callS Xy13 hx (y := (⟨"com/example/wicketgate/wicketgate/core/mrz/MrzCharacters", "valueOf", "(C)I"⟩ : MethodName)) hown (mvT hZ (hw _ (List.mem_of_getElem? (i := 9) rfl))) (mvT hZ (hw _ (List.mem_of_getElem? (i := 10) rfl))) (mvT hZ (hw _ (List.mem_of_getElem? (i := 11) rfl))) (mvT hZ (hw _ (List.mem_of_getElem? (i := 12) rfl))) (by decide) (backOf (W := 0) (rm1 l Z a0 hw [] (own_ch (own_al I0)) hy1 n0 Zy1 ) hZ (hw _ (List.mem_of_getElem? (i := 12) rfl)) (hw _ (List.mem_of_getElem? (i := 11) rfl)) (by decide) (by decide)) (g := (mkF m 111 #[.val (.int px0), .val (.int pk), .val (.ref ay1), .val (.int C0), .val (.int R2), .val (.int (1 : Int32)), .val (.int I0), .val (.int (own_ch (own_al I0))), .val (.int I0), .unset] [(.int (own_ch (own_al I0)))])) rfl (by rw [hml]; rfl) (argsL := [(.int (own_ch (own_al I0)))]) (rest := []) (lenOf pd_4 rfl) rfl (by show 2 * 0 + _ ≤ _; exact Nat.le_of_eq rfl) (hb hby at_111) (fun _ _ => ⟨rfl, eqy13, (by decide : 2 + 0 ≤ _), (by decide : 152 + 0 ≤ _)⟩)
      dsimp only [Pt.U, Pt.locs, Pt.cells, Pt.slots] at Xy16 ly16 yy16 zy16 sty16 hQy16
      subst ly16 yy16 zy16
      obtain ⟨rfl, Nqy16, eqy16⟩ := hQy16
      have Ny16 := Fr.app Ny13 Nqy16
      refine FinW.step (sty16) ?_
      show FinW p e below s _ _ _ (Ty16.setTop (mkF m 114 #[.val (.int px0), .val (.int pk), .val (.ref ay1), .val (.int C0), .val (.int R2), .val (.int (1 : Int32)), .val (.int I0), .val (.int (own_ch (own_al I0))), .val (.int I0), .unset] [(.int (own_vo (own_ch (own_al I0))))]))
      refine FinW.step (fun _ => XS.iload Xy16.here hx rfl (hb hby at_114) rfl) ?_
      show FinW p e below s _ _ _ (Ty16.setTop (mkF m 116 #[.val (.int px0), .val (.int pk), .val (.ref ay1), .val (.int C0), .val (.int R2), .val (.int (1 : Int32)), .val (.int I0), .val (.int (own_ch (own_al I0))), .val (.int I0), .unset] [(.int I0), (.int (own_vo (own_ch (own_al I0))))]))
      refine FinW.step (fun _ => XS.icmpNo Xy16.here hx rfl (hb hby at_116) rfl (teq ((own_b0 hI hcy14) : ((own_vo (own_ch (own_al I0))) = I0))).2) ?_
      show FinW p e below s _ _ _ (Ty16.setTop (mkF m 119 #[.val (.int px0), .val (.int pk), .val (.ref ay1), .val (.int C0), .val (.int R2), .val (.int (1 : Int32)), .val (.int I0), .val (.int (own_ch (own_al I0))), .val (.int I0), .unset] []))
      refine FinW.step (fun _ => XS.iconst Xy16.here hx rfl (hb hby at_119)) ?_
      show FinW p e below s _ _ _ (Ty16.setTop (mkF m 120 #[.val (.int px0), .val (.int pk), .val (.ref ay1), .val (.int C0), .val (.int R2), .val (.int (1 : Int32)), .val (.int I0), .val (.int (own_ch (own_al I0))), .val (.int I0), .unset] [(.int (1 : Int32))]))
      refine FinW.step (fun _ => XS.goto Xy16.here hx rfl (pc0 := 120) (pc' := 124) rfl (hb hby at_120) (by decide) (by decide)) ?_
      show FinW p e below s _ _ _ (Ty16.setTop (mkF m 124 #[.val (.int px0), .val (.int pk), .val (.ref ay1), .val (.int C0), .val (.int R2), .val (.int (1 : Int32)), .val (.int I0), .val (.int (own_ch (own_al I0))), .val (.int I0), .unset] [(.int (1 : Int32))]))
      refine FinW.step (fun _ => XS.istore Xy16.here hx rfl (hb hby at_124) rfl (l' := #[.val (.int px0), .val (.int pk), .val (.ref ay1), .val (.int C0), .val (.int R2), .val (.int (1 : Int32)), .val (.int I0), .val (.int (own_ch (own_al I0))), .val (.int I0), .val (.int (1 : Int32))]) rfl) ?_
      show FinW p e below s _ _ _ (Ty16.setTop (mkF m 126 #[.val (.int px0), .val (.int pk), .val (.ref ay1), .val (.int C0), .val (.int R2), .val (.int (1 : Int32)), .val (.int I0), .val (.int (own_ch (own_al I0))), .val (.int I0), .val (.int (1 : Int32))] []))
      refine FinW.step (fun _ => XS.iload Xy16.here hx rfl (hb hby at_126) rfl) ?_
      show FinW p e below s _ _ _ (Ty16.setTop (mkF m 128 #[.val (.int px0), .val (.int pk), .val (.ref ay1), .val (.int C0), .val (.int R2), .val (.int (1 : Int32)), .val (.int I0), .val (.int (own_ch (own_al I0))), .val (.int I0), .val (.int (1 : Int32))] [(.int (1 : Int32))]))
      refine FinW.step (fun _ => XS.ifNo Xy16.here hx rfl (hb hby at_128) rfl ((if0 _ _).trans (feq ((by decide) : ¬ ((1 : Int32) = (0 : Int32)))).1)) ?_
      show FinW p e below s _ _ _ (Ty16.setTop (mkF m 131 #[.val (.int px0), .val (.int pk), .val (.ref ay1), .val (.int C0), .val (.int R2), .val (.int (1 : Int32)), .val (.int I0), .val (.int (own_ch (own_al I0))), .val (.int I0), .val (.int (1 : Int32))] []))
      refine FinW.step (fun _ => XS.iload Xy16.here hx rfl (hb hby at_131) rfl) ?_
      show FinW p e below s _ _ _ (Ty16.setTop (mkF m 133 #[.val (.int px0), .val (.int pk), .val (.ref ay1), .val (.int C0), .val (.int R2), .val (.int (1 : Int32)), .val (.int I0), .val (.int (own_ch (own_al I0))), .val (.int I0), .val (.int (1 : Int32))] [(.int (1 : Int32))]))
      refine FinW.step (fun _ => XS.ifNo Xy16.here hx rfl (hb hby at_133) rfl ((if0 _ _).trans (feq ((by decide) : ¬ ((1 : Int32) = (0 : Int32)))).1)) ?_
      show FinW p e below s _ _ _ (Ty16.setTop (mkF m 136 #[.val (.int px0), .val (.int pk), .val (.ref ay1), .val (.int C0), .val (.int R2), .val (.int (1 : Int32)), .val (.int I0), .val (.int (own_ch (own_al I0))), .val (.int I0), .val (.int (1 : Int32))] []))
      refine FinW.step (fun _ => XS.iconst Xy16.here hx rfl (hb hby at_136)) ?_
      show FinW p e below s _ _ _ (Ty16.setTop (mkF m 137 #[.val (.int px0), .val (.int pk), .val (.ref ay1), .val (.int C0), .val (.int R2), .val (.int (1 : Int32)), .val (.int I0), .val (.int (own_ch (own_al I0))), .val (.int I0), .val (.int (1 : Int32))] [(.int (1 : Int32))]))
      refine FinW.step (fun _ => XS.goto Xy16.here hx rfl (pc0 := 137) (pc' := 141) rfl (hb hby at_137) (by decide) (by decide)) ?_
      show FinW p e below s _ _ _ (Ty16.setTop (mkF m 141 #[.val (.int px0), .val (.int pk), .val (.ref ay1), .val (.int C0), .val (.int R2), .val (.int (1 : Int32)), .val (.int I0), .val (.int (own_ch (own_al I0))), .val (.int I0), .val (.int (1 : Int32))] [(.int (1 : Int32))]))
      refine FinW.retN Xy16 hSy1 (by rw [eqy16]; exact hky1) hx (t := .boolean) hret (by simp) hlk (hb hby at_141) (by decide) (by decide) ?_
      show Q0 Z px0 pk fv wc h0 n0 _ Ty16.heap _
      rw [eqy16]
      exact ⟨rfl, Ny16, Ky1⟩
set_option maxRecDepth 65536 in
set_option maxHeartbeats 40000000 in
theorem comes_1 {Post : Tables → Env → Array Value → State → Outcome → State → Prop} (hpost : ∀ tb e args s v u, (limb_1_1.after args s (.returned v) u = true ∧ limb_1_2.after args s (.returned v) u = true ∧ True) → ReturnedEndW s (.returned v) u (Jvm.fieldLocs frame_1_writes args s ++ Jvm.arrayLocs frame_1_arrays args s ++ Jvm.staticLocs frame_1_statics s) 8 1088 → Post tb e args s (.returned v) u) :
    ArmFor flags0 classFile x code maxLocals ret World_1 tables_1 room_1 Calls_1 rest_1 Pre_1 Post := by
  intro l hfl _ _ p e ha hc hk s m args below hf hA hF happ hP
  obtain ⟨hcalls, hrest, hpre⟩ := hP
  obtain ⟨-, -, -, hnamed, -, -, -, hat⟩ := (Spec.applies_iff hf).mp happ
  obtain ⟨hg, hn⟩ := and_e (Cond.before_iff.mp (show (Jvm.Cond.and given_1 narrow_1).before args s = true from hpre))
  obtain ⟨gc, gr0⟩ := and_e hg
  obtain ⟨ga0, gr1⟩ := and_e gr0
  have ga1 := gr1
  obtain ⟨w0, w1, rfl⟩ : ∃ w0 w1 : Value, args = #[w0, w1] := by
    have hs : args.size = 2 := by simpa [Cond.value, given_1] using gc
    obtain ⟨L⟩ := args
    match L, hs with
    | [w0, w1], _ => exact ⟨w0, w1, rfl⟩
  have hw := fun d (hd : d ∈ tables_1) => atoms_spec (ws := Jvm.Cond.code x code maxLocals ret :: tables_1) hat d (List.mem_cons_of_mem _ hd)
  have hfit : Fit s := fun {y c} hc i hi => by
    obtain ⟨ha, rfl⟩ := Array.getElem?_eq_some_iff.mp hc
    have q := List.all_eq_true.mp ((Array.all_eq_true_iff_forall_mem.mp hF) _ (Array.getElem_mem ha)) i (List.mem_range.mpr hi)
    simpa [Array.getElem?_eq_getElem hi] using q
  obtain ⟨hsets, hown0⟩ := atoms_of _ (rest_1_c_eq ▸ (show rest_1_c.before _ s = true from hrest))
  have hr0 := Cond.before_iff.mp hown0
  obtain ⟨i0, ei0⟩ := is_v ga0
  obtain rfl : w0 = (.int i0) := Option.some.inj ei0
  obtain ⟨i1, ei1⟩ := is_v ga1
  obtain rfl : w1 = (.int i1) := Option.some.inj ei1
  obtain ⟨wc, evc⟩ := is_v (Cond.before_iff.mp (hsets _ (List.mem_of_getElem? (i := 1) rfl)))
  have hcw : Jvm.Lit.compactW.before _ s = true := hsets _ (List.mem_of_getElem? (i := 2) rfl)
  have hwc : ¬ wc = 0 := gotF (Cond.eq_ints evc (Term.int_eval 0)) (not_v (Cond.before_iff.mp hcw))
  obtain ⟨fv, evf, hfv⟩ := isR_v (Cond.before_iff.mp (hsets _ (List.mem_of_getElem? (i := 8) rfl)))
  have HS1 := Sta.start evc (Or.inl (hsets _ (List.mem_of_getElem? (i := 0) rfl)))
  have HS2 := Sta.start evf (Or.inl (hsets _ (List.mem_of_getElem? (i := 7) rfl)))
  have hheld : Jvm.Lit.constHeld s "com/example/wicketgate/wicketgate/core/mrz/MrzCharactersValueOfPinLaw" 7 := hcalls.1 _ (List.mem_cons_self ..)
  obtain ⟨n, o, h1, h2, h3, _, L, rfl, ⟨rfl, N, _⟩, hq⟩ := rm0 l s _ hw tables_1 i0 i1 fv wc s.heap s.heap.size (Nat.le_refl _) HS2 HS1 hfv hwc hheld hcw p e ha hc hk s m _ below hf ((Spec.applies_iff_loose hf).mp happ).1 ⟨rfl, rfl, rfl⟩ trivial
  refine ⟨n, _, h1, h2, h3, hpost _ _ _ _ _ _ ⟨Cond.after_iff.mpr rfl, Cond.after_iff.mpr (eq_i res_at (Term.int_eval (1)) rfl), trivial⟩ ⟨hq.1, hq.2.1, hq.2.2.1, (hq.2.2.2.sift fun y hy => Or.inr (N y hy)).mono (by decide) (by decide)⟩⟩
theorem main_1_1 : Claimed_1_1 := comes_1 fun _ _ _ _ _ _ h hF => ⟨h.1, hF⟩
theorem main_1_2 : Claimed_1_2 := comes_1 fun _ _ _ _ _ _ h hF => ⟨h.2.1, hF⟩
end Jvm.Pilot.@@N@@
namespace Jvm.Pilot.@@N@@
open Jvm Jvm.ClassFile Sem Op Lib Jvm.Free Jvm.Stand Jvm.Pilot.@@N@@.Jvm.D
/-! MADE BY PROGRAM (witnessworld.py) out of the Statement's table words and the real class files: 17 classes; the members and pool entries that the words name. The judged class is class 1, her method 1. -/
namespace start1
open Jvm.ClassFile
def u (s : String) : CpInfo := .utf8 (stringToUtf16 s)
/-- a pool by its gaps: so many unusable entries, then the entry; so many at the end -/
def gap : Nat → List CpInfo → List CpInfo
  | 0, r => r
  | n + 1, r => .unusable :: gap n r
def poolList (es : List (Nat × CpInfo)) (last : Nat) : List CpInfo := es.foldr (fun e r => gap e.1 (e.2 :: r)) (gap last [])
def pool (es : List (Nat × CpInfo)) (last : Nat) : Array CpInfo := ⟨poolList es last⟩
def fileOf (pool : Array CpInfo) (this : Nat) (attrs : Array Attribute := #[]) (ms : Array MethodInfo := #[]) (fl : Nat := 33) (sup : Nat := 0) (ifs : Array Nat := #[]) (fds : Array FieldInfo := #[]) : ClassFile where
  minorVersion := 0
  majorVersion := 65
  constantPool := pool
  accessFlags := fl
  thisClass := this
  superClass := sup
  interfaces := ifs
  fields := fds
  methods := ms
  attributes := attrs
def plain (name : String) (sup : Option ClassId) : Class where
  name := name
  kind := .ordinary
  loader := none
  accessFlags := 33
  super := sup
  interfaces := #[]
  cf := none
  fields := #[]
  methods := #[]
  instanceTypes := #[]
  staticTypes := #[]
  resolved := #[]
  callSites := []
  init := .initialized
  statics := none
  mirror := none

def pool0 : Array CpInfo := pool [(5, u "<init>"), (0, u "()V"), (1, .class_ 10), (1, u "java/lang/Object")] 113

def k0m0 : Method := { name := "<init>", desc := "()V", sig := { parameters := [], returnType := none }, accessFlags := 1, code := none }
/-- java/lang/Object -/
def k0 : Class := { plain "java/lang/Object" none with
  accessFlags := 33
  interfaces := #[]
  cf := some (fileOf pool0 8 #[] #[{ accessFlags := 1, nameIndex := 5, descriptorIndex := 6, attributes := #[] }] 33 0 #[] #[])
  fields := #[]
  methods := #[k0m0]
  instanceTypes := #[]
  staticTypes := #[]
  resolved := Array.replicate 124 none
  statics := none }

def pool1 : Array CpInfo := pool [(2, .class_ 4), (1, u "java/lang/Object"), (0, u "<init>"), (0, u "()V"), (0, .string 8), (0, u "0123456789ABCDEFGHIJKLMNOPQRSTUVWXYZ<"), (0, .integer 65535), (0, .methodref 11 12), (0, .class_ 13), (0, .nameAndType 14 15), (0, u "com/example/wicketgate/wicketgate/core/mrz/MrzCharacters"), (0, u "valueOf"), (0, u "(C)I"), (0, .methodref 17 18), (0, .class_ 19), (0, .nameAndType 20 21), (0, u "java/lang/String"), (0, u "charAt"), (0, u "(I)C"), (0, .integer 2147483647), (0, .class_ 24), (0, u "com/example/wicketgate/wicketgate/core/mrz/MrzCharactersValueOfPinLaw"), (2, u "law"), (0, u "(II)Z")] 3

def k1m0 : Method := { name := "<init>", desc := "()V", sig := { parameters := [], returnType := none }, accessFlags := 1, code := none }
def k1c1 : Code := { maxStack := 3, maxLocals := 10, code := code, exceptionTable := #[], attributes := #[] }
def k1m1 : Method := { name := "law", desc := "(II)Z", sig := { parameters := [.int, .int], returnType := some .boolean }, accessFlags := 9, code := some k1c1 }
/-- com/example/wicketgate/wicketgate/core/mrz/MrzCharactersValueOfPinLaw -/
def k1 : Class := { plain "com/example/wicketgate/wicketgate/core/mrz/MrzCharactersValueOfPinLaw" (some 0) with
  accessFlags := 49
  interfaces := #[]
  cf := some (fileOf pool1 23 #[] #[{ accessFlags := 1, nameIndex := 5, descriptorIndex := 6, attributes := #[] }, { accessFlags := 9, nameIndex := 27, descriptorIndex := 28, attributes := #[] }] 49 2 #[] #[])
  fields := #[]
  methods := #[k1m0, k1m1]
  instanceTypes := #[]
  staticTypes := #[]
  resolved := Array.replicate 32 none
  statics := none }

def pool2 : Array CpInfo := pool [(1, .class_ 2), (0, u "java/io/Serializable"), (0, .class_ 4), (0, u "java/lang/Object")] 2

/-- java/io/Serializable -/
def k2 : Class := { plain "java/io/Serializable" (some 0) with
  accessFlags := 1537
  interfaces := #[]
  cf := some (fileOf pool2 1 #[] #[] 1537 3 #[] #[])
  fields := #[]
  methods := #[]
  instanceTypes := #[]
  staticTypes := #[]
  resolved := Array.replicate 7 none
  statics := none }

def pool3 : Array CpInfo := pool [(1, .class_ 2), (0, u "java/lang/Comparable"), (0, .class_ 4), (0, u "java/lang/Object")] 7

/-- java/lang/Comparable -/
def k3 : Class := { plain "java/lang/Comparable" (some 0) with
  accessFlags := 1537
  interfaces := #[]
  cf := some (fileOf pool3 1 #[] #[] 1537 3 #[] #[])
  fields := #[]
  methods := #[]
  instanceTypes := #[]
  staticTypes := #[]
  resolved := Array.replicate 12 none
  statics := none }

def pool4 : Array CpInfo := pool [(2, .class_ 4), (1, u "java/lang/CharSequence"), (42, .class_ 48), (0, u "java/lang/CharSequence$1CodePointIterator"), (10, .class_ 60), (0, u "java/lang/CharSequence$1CharIterator"), (5, .class_ 67), (0, u "java/lang/Object")] 63

/-- java/lang/CharSequence -/
def k4 : Class := { plain "java/lang/CharSequence" (some 0) with
  accessFlags := 1537
  interfaces := #[]
  cf := some (fileOf pool4 2 #[.nestMembers #[47, 59]] #[] 1537 66 #[] #[])
  fields := #[]
  methods := #[]
  instanceTypes := #[]
  staticTypes := #[]
  resolved := Array.replicate 131 none
  statics := none }

def pool5 : Array CpInfo := pool [(1, .class_ 2), (0, u "java/lang/constant/Constable"), (0, .class_ 4), (0, u "java/lang/Object")] 6

/-- java/lang/constant/Constable -/
def k5 : Class := { plain "java/lang/constant/Constable" (some 0) with
  accessFlags := 1537
  interfaces := #[]
  cf := some (fileOf pool5 1 #[] #[] 1537 3 #[] #[])
  fields := #[]
  methods := #[]
  instanceTypes := #[]
  staticTypes := #[]
  resolved := Array.replicate 11 none
  statics := none }

def pool6 : Array CpInfo := pool [(1, .class_ 2), (0, u "java/lang/constant/ConstantDesc"), (0, .class_ 4), (0, u "java/lang/Object")] 32

/-- java/lang/constant/ConstantDesc -/
def k6 : Class := { plain "java/lang/constant/ConstantDesc" (some 0) with
  accessFlags := 1537
  interfaces := #[]
  cf := some (fileOf pool6 1 #[] #[] 1537 3 #[] #[])
  fields := #[]
  methods := #[]
  instanceTypes := #[]
  staticTypes := #[]
  resolved := Array.replicate 37 none
  statics := none }

def pool7 : Array CpInfo := pool [(2, .class_ 4), (1, u "java/lang/Object"), (0, u "<init>"), (0, u "()V"), (2, .fieldref 10 11), (0, .class_ 12), (0, .nameAndType 13 14), (0, u "java/lang/String"), (0, u "value"), (0, u "[B"), (0, .fieldref 10 16), (0, .nameAndType 17 18), (0, u "coder"), (0, u "B"), (2, u "hash"), (0, u "I"), (2, u "hashIsZero"), (0, u "Z"), (11, .fieldref 10 39), (0, .nameAndType 40 26), (0, u "COMPACT_STRINGS"), (66, .class_ 109), (1, u "java/lang/StringLatin1"), (32, u "()Z"), (220, u "([BI)C"), (27, u "(II)V"), (35, u "(I)C"), (64, .methodref 10 493), (0, .nameAndType 494 142), (0, u "isLatin1"), (0, .methodref 107 496), (0, .nameAndType 497 363), (0, u "charAt"), (3, u "checkIndex"), (73, .class_ 576), (0, u "java/lang/CharSequence"), (22, u "CASE_INSENSITIVE_ORDER"), (0, u "Ljava/util/Comparator;"), (452, .fieldref 1054 1055), (0, .class_ 1056), (0, .nameAndType 1057 1058), (0, u "jdk/internal/util/Preconditions"), (0, u "SIOOBE_FORMATTER"), (0, u "Ljava/util/function/BiFunction;"), (0, .methodref 1054 1060), (0, .nameAndType 501 1061), (0, u "(IILjava/util/function/BiFunction;)I"), (39, u "serialPersistentFields"), (0, u "[Ljava/io/ObjectStreamField;"), (0, .class_ 1104), (0, u "java/lang/String$CaseInsensitiveComparator"), (1, .class_ 1107), (0, u "java/io/Serializable"), (0, .class_ 1109), (0, u "java/lang/Comparable"), (0, .class_ 1111), (0, u "java/lang/constant/Constable"), (0, .class_ 1113), (0, u "java/lang/constant/ConstantDesc"), (2, u "serialVersionUID"), (0, u "J"), (3, u "REPL"), (0, u "C"), (2, u "LATIN1"), (1, u "UTF16")] 323

def k7m0 : Method := { name := "<init>", desc := "()V", sig := { parameters := [], returnType := none }, accessFlags := 1, code := none }
def k7c1 : Code := { maxStack := 2, maxLocals := 2, code := jdk_42_method_56_code, exceptionTable := #[], attributes := #[] }
def k7m1 : Method := { name := "charAt", desc := "(I)C", sig := { parameters := [.int], returnType := some .char }, accessFlags := 1, code := some k7c1 }
def k7c2 : Code := { maxStack := 1, maxLocals := 1, code := jdk_42_method_154_code, exceptionTable := #[], attributes := #[] }
def k7m2 : Method := { name := "isLatin1", desc := "()Z", sig := { parameters := [], returnType := some .boolean }, accessFlags := 0, code := some k7c2 }
def k7c3 : Code := { maxStack := 3, maxLocals := 2, code := jdk_42_method_155_code, exceptionTable := #[], attributes := #[] }
def k7m3 : Method := { name := "checkIndex", desc := "(II)V", sig := { parameters := [.int, .int], returnType := none }, accessFlags := 8, code := some k7c3 }
/-- java/lang/String -/
def k7 : Class := { plain "java/lang/String" (some 0) with
  accessFlags := 49
  interfaces := #[2, 3, 4, 5, 6]
  cf := some (fileOf pool7 10 #[.nestMembers #[1103]] #[{ accessFlags := 1, nameIndex := 5, descriptorIndex := 6, attributes := #[] }, { accessFlags := 1, nameIndex := 497, descriptorIndex := 427, attributes := #[] }, { accessFlags := 0, nameIndex := 494, descriptorIndex := 142, attributes := #[] }, { accessFlags := 8, nameIndex := 501, descriptorIndex := 391, attributes := #[] }] 49 2 #[1106, 1108, 575, 1110, 1112] #[{ accessFlags := 18, nameIndex := 13, descriptorIndex := 14, attributes := #[] }, { accessFlags := 18, nameIndex := 17, descriptorIndex := 18, attributes := #[] }, { accessFlags := 2, nameIndex := 21, descriptorIndex := 22, attributes := #[] }, { accessFlags := 2, nameIndex := 25, descriptorIndex := 26, attributes := #[] }, { accessFlags := 26, nameIndex := 1116, descriptorIndex := 1117, attributes := #[] }, { accessFlags := 24, nameIndex := 40, descriptorIndex := 26, attributes := #[] }, { accessFlags := 26, nameIndex := 1101, descriptorIndex := 1102, attributes := #[] }, { accessFlags := 26, nameIndex := 1121, descriptorIndex := 1122, attributes := #[] }, { accessFlags := 25, nameIndex := 599, descriptorIndex := 600, attributes := #[] }, { accessFlags := 24, nameIndex := 1125, descriptorIndex := 18, attributes := #[] }, { accessFlags := 24, nameIndex := 1127, descriptorIndex := 18, attributes := #[] }])
  fields := #[{ name := "value", type := (.array .byte), accessFlags := 18, slot := 0, constantValue := 0 }, { name := "coder", type := .byte, accessFlags := 18, slot := 1, constantValue := 0 }, { name := "hash", type := .int, accessFlags := 2, slot := 2, constantValue := 0 }, { name := "hashIsZero", type := .boolean, accessFlags := 2, slot := 3, constantValue := 0 }, { name := "serialVersionUID", type := .long, accessFlags := 26, slot := 0, constantValue := 0 }, { name := "COMPACT_STRINGS", type := .boolean, accessFlags := 24, slot := 1, constantValue := 0 }, { name := "serialPersistentFields", type := (.array (.object "java/io/ObjectStreamField")), accessFlags := 26, slot := 2, constantValue := 0 }, { name := "REPL", type := .char, accessFlags := 26, slot := 3, constantValue := 0 }, { name := "CASE_INSENSITIVE_ORDER", type := (.object "java/util/Comparator"), accessFlags := 25, slot := 4, constantValue := 0 }, { name := "LATIN1", type := .byte, accessFlags := 24, slot := 5, constantValue := 0 }, { name := "UTF16", type := .byte, accessFlags := 24, slot := 6, constantValue := 0 }]
  methods := #[k7m0, k7m1, k7m2, k7m3]
  instanceTypes := #[(.array .byte), .byte, .int, .boolean]
  staticTypes := #[.long, .boolean, (.array (.object "java/io/ObjectStreamField")), .char, (.object "java/util/Comparator"), .byte, .byte]
  resolved := Array.replicate 1451 none
  statics := some 0 }

def pool8 : Array CpInfo := pool [(2, .class_ 4), (1, u "java/lang/Object"), (0, u "<init>"), (0, u "()V"), (11, .class_ 20), (1, u "com/example/wicketgate/wicketgate/core/mrz/MrzCharacters"), (0, u "valueOf"), (0, u "(C)I"), (4, u "FILLER"), (0, u "C")] 25

def k8m0 : Method := { name := "<init>", desc := "()V", sig := { parameters := [], returnType := none }, accessFlags := 2, code := none }
def k8c1 : Code := { maxStack := 2, maxLocals := 1, code := prog_61_method_4_code, exceptionTable := #[], attributes := #[] }
def k8m1 : Method := { name := "valueOf", desc := "(C)I", sig := { parameters := [.char], returnType := some .int }, accessFlags := 8, code := some k8c1 }
/-- com/example/wicketgate/wicketgate/core/mrz/MrzCharacters -/
def k8 : Class := { plain "com/example/wicketgate/wicketgate/core/mrz/MrzCharacters" (some 0) with
  accessFlags := 49
  interfaces := #[]
  cf := some (fileOf pool8 18 #[] #[{ accessFlags := 2, nameIndex := 5, descriptorIndex := 6, attributes := #[] }, { accessFlags := 8, nameIndex := 21, descriptorIndex := 22, attributes := #[] }] 49 2 #[] #[{ accessFlags := 25, nameIndex := 27, descriptorIndex := 28, attributes := #[] }])
  fields := #[{ name := "FILLER", type := .char, accessFlags := 25, slot := 0, constantValue := 0 }]
  methods := #[k8m0, k8m1]
  instanceTypes := #[]
  staticTypes := #[.char]
  resolved := Array.replicate 54 none
  statics := none }

def pool9 : Array CpInfo := pool [(1, .class_ 2), (0, u "java/lang/String"), (1, .class_ 6), (1, u "java/lang/Object"), (0, u "<init>"), (0, u "()V"), (0, .methodref 1 10), (0, .nameAndType 11 12), (0, u "checkIndex"), (0, u "(II)V"), (1, .class_ 16), (1, u "java/lang/StringLatin1"), (36, u "([BI)C"), (67, u "$assertionsDisabled"), (0, u "Z"), (98, .class_ 223), (1, u "java/lang/StringLatin1$LinesSpliterator"), (28, u "charAt"), (137, .class_ 391), (0, u "java/lang/StringLatin1$CharsSpliterator")] 3

def k9m0 : Method := { name := "<init>", desc := "()V", sig := { parameters := [], returnType := none }, accessFlags := 0, code := none }
def k9c1 : Code := { maxStack := 2, maxLocals := 2, code := jdk_43_method_2_code, exceptionTable := #[], attributes := #[] }
def k9m1 : Method := { name := "charAt", desc := "([BI)C", sig := { parameters := [(.array .byte), .int], returnType := some .char }, accessFlags := 9, code := some k9c1 }
/-- java/lang/StringLatin1 -/
def k9 : Class := { plain "java/lang/StringLatin1" (some 0) with
  accessFlags := 48
  interfaces := #[]
  cf := some (fileOf pool9 14 #[.nestMembers #[390, 221]] #[{ accessFlags := 0, nameIndex := 7, descriptorIndex := 8, attributes := #[] }, { accessFlags := 9, nameIndex := 252, descriptorIndex := 53, attributes := #[] }] 48 4 #[] #[{ accessFlags := 4120, nameIndex := 121, descriptorIndex := 122, attributes := #[] }])
  fields := #[{ name := "$assertionsDisabled", type := .boolean, accessFlags := 4120, slot := 0, constantValue := 0 }]
  methods := #[k9m0, k9m1]
  instanceTypes := #[]
  staticTypes := #[.boolean]
  resolved := Array.replicate 395 none
  statics := none }

def pool10 : Array CpInfo := pool [(2, .class_ 4), (1, u "java/lang/Object"), (0, u "<init>"), (0, u "()V"), (17, .class_ 26), (1, u "jdk/internal/util/Preconditions"), (6, u "checkIndex"), (21, .class_ 56), (0, u "jdk/internal/util/Preconditions$4"), (57, .class_ 115), (0, u "jdk/internal/util/Preconditions$1"), (7, u "SIOOBE_FORMATTER"), (0, u "Ljava/util/function/BiFunction;"), (0, .class_ 126), (0, u "jdk/internal/util/Preconditions$2"), (3, u "AIOOBE_FORMATTER"), (0, .class_ 132), (0, u "jdk/internal/util/Preconditions$3"), (3, u "IOOBE_FORMATTER"), (41, u "(IILjava/util/function/BiFunction;)I")] 15

def k10m0 : Method := { name := "<init>", desc := "()V", sig := { parameters := [], returnType := none }, accessFlags := 1, code := none }
def k10c1 : Code := { maxStack := 3, maxLocals := 3, code := jdk_41_method_11_code, exceptionTable := #[], attributes := #[] }
def k10m1 : Method := { name := "checkIndex", desc := "(IILjava/util/function/BiFunction;)I", sig := { parameters := [.int, .int, (.object "java/util/function/BiFunction")], returnType := some .int }, accessFlags := 9, code := some k10c1 }
/-- jdk/internal/util/Preconditions -/
def k10 : Class := { plain "jdk/internal/util/Preconditions" (some 0) with
  accessFlags := 33
  interfaces := #[]
  cf := some (fileOf pool10 24 #[.nestMembers #[55, 131, 125, 114]] #[{ accessFlags := 1, nameIndex := 5, descriptorIndex := 6, attributes := #[] }, { accessFlags := 9, nameIndex := 33, descriptorIndex := 178, attributes := #[] }] 33 2 #[] #[{ accessFlags := 25, nameIndex := 123, descriptorIndex := 124, attributes := #[] }, { accessFlags := 25, nameIndex := 130, descriptorIndex := 124, attributes := #[] }, { accessFlags := 25, nameIndex := 136, descriptorIndex := 124, attributes := #[] }])
  fields := #[{ name := "SIOOBE_FORMATTER", type := (.object "java/util/function/BiFunction"), accessFlags := 25, slot := 0, constantValue := 0 }, { name := "AIOOBE_FORMATTER", type := (.object "java/util/function/BiFunction"), accessFlags := 25, slot := 1, constantValue := 0 }, { name := "IOOBE_FORMATTER", type := (.object "java/util/function/BiFunction"), accessFlags := 25, slot := 2, constantValue := 0 }]
  methods := #[k10m0, k10m1]
  instanceTypes := #[]
  staticTypes := #[(.object "java/util/function/BiFunction"), (.object "java/util/function/BiFunction"), (.object "java/util/function/BiFunction")]
  resolved := Array.replicate 194 none
  statics := some 1 }

def pool11 : Array CpInfo := pool [(9, u "<init>"), (6, .class_ 18), (1, u "java/lang/Object"), (0, u "()V"), (1, .class_ 23), (1, u "jdk/internal/util/ArraysSupport"), (0, u "LOG2_ARRAY_LONG_INDEX_SCALE"), (0, u "I"), (2, u "U"), (0, u "Ljdk/internal/misc/Unsafe;"), (8, u "BIG_ENDIAN"), (0, u "Z"), (8, u "LOG2_BYTE_BIT_SIZE"), (4, u "LOG2_ARRAY_INT_INDEX_SCALE"), (54, u "JLA"), (0, u "Ljdk/internal/access/JavaLangAccess;"), (11, u "LOG2_ARRAY_BOOLEAN_INDEX_SCALE"), (9, u "LOG2_ARRAY_BYTE_INDEX_SCALE"), (5, u "LOG2_ARRAY_CHAR_INDEX_SCALE"), (5, u "LOG2_ARRAY_SHORT_INDEX_SCALE"), (18, u "LOG2_ARRAY_FLOAT_INDEX_SCALE"), (24, u "LOG2_ARRAY_DOUBLE_INDEX_SCALE"), (89, u "T_BOOLEAN"), (2, u "T_CHAR"), (1, u "T_FLOAT"), (1, u "T_DOUBLE"), (1, u "T_BYTE"), (1, u "T_SHORT"), (1, u "T_INT"), (1, u "T_LONG"), (1, u "SOFT_MAX_ARRAY_LENGTH")] 83

def k11m0 : Method := { name := "<init>", desc := "()V", sig := { parameters := [], returnType := none }, accessFlags := 2, code := none }
/-- jdk/internal/util/ArraysSupport -/
def k11 : Class := { plain "jdk/internal/util/ArraysSupport" (some 0) with
  accessFlags := 33
  interfaces := #[]
  cf := some (fileOf pool11 21 #[] #[{ accessFlags := 2, nameIndex := 9, descriptorIndex := 19, attributes := #[] }] 33 16 #[] #[{ accessFlags := 24, nameIndex := 28, descriptorIndex := 29, attributes := #[] }, { accessFlags := 26, nameIndex := 38, descriptorIndex := 39, attributes := #[] }, { accessFlags := 25, nameIndex := 121, descriptorIndex := 25, attributes := #[] }, { accessFlags := 25, nameIndex := 131, descriptorIndex := 25, attributes := #[] }, { accessFlags := 25, nameIndex := 137, descriptorIndex := 25, attributes := #[] }, { accessFlags := 25, nameIndex := 143, descriptorIndex := 25, attributes := #[] }, { accessFlags := 25, nameIndex := 53, descriptorIndex := 25, attributes := #[] }, { accessFlags := 25, nameIndex := 24, descriptorIndex := 25, attributes := #[] }, { accessFlags := 25, nameIndex := 162, descriptorIndex := 25, attributes := #[] }, { accessFlags := 25, nameIndex := 187, descriptorIndex := 25, attributes := #[] }, { accessFlags := 26, nameIndex := 48, descriptorIndex := 25, attributes := #[] }, { accessFlags := 25, nameIndex := 277, descriptorIndex := 25, attributes := #[] }, { accessFlags := 25, nameIndex := 280, descriptorIndex := 25, attributes := #[] }, { accessFlags := 25, nameIndex := 282, descriptorIndex := 25, attributes := #[] }, { accessFlags := 25, nameIndex := 284, descriptorIndex := 25, attributes := #[] }, { accessFlags := 25, nameIndex := 286, descriptorIndex := 25, attributes := #[] }, { accessFlags := 25, nameIndex := 288, descriptorIndex := 25, attributes := #[] }, { accessFlags := 25, nameIndex := 290, descriptorIndex := 25, attributes := #[] }, { accessFlags := 25, nameIndex := 292, descriptorIndex := 25, attributes := #[] }, { accessFlags := 26, nameIndex := 108, descriptorIndex := 109, attributes := #[] }, { accessFlags := 25, nameIndex := 294, descriptorIndex := 25, attributes := #[] }])
  fields := #[{ name := "U", type := (.object "jdk/internal/misc/Unsafe"), accessFlags := 24, slot := 0, constantValue := 0 }, { name := "BIG_ENDIAN", type := .boolean, accessFlags := 26, slot := 1, constantValue := 0 }, { name := "LOG2_ARRAY_BOOLEAN_INDEX_SCALE", type := .int, accessFlags := 25, slot := 2, constantValue := 0 }, { name := "LOG2_ARRAY_BYTE_INDEX_SCALE", type := .int, accessFlags := 25, slot := 3, constantValue := 0 }, { name := "LOG2_ARRAY_CHAR_INDEX_SCALE", type := .int, accessFlags := 25, slot := 4, constantValue := 0 }, { name := "LOG2_ARRAY_SHORT_INDEX_SCALE", type := .int, accessFlags := 25, slot := 5, constantValue := 0 }, { name := "LOG2_ARRAY_INT_INDEX_SCALE", type := .int, accessFlags := 25, slot := 6, constantValue := 0 }, { name := "LOG2_ARRAY_LONG_INDEX_SCALE", type := .int, accessFlags := 25, slot := 7, constantValue := 0 }, { name := "LOG2_ARRAY_FLOAT_INDEX_SCALE", type := .int, accessFlags := 25, slot := 8, constantValue := 0 }, { name := "LOG2_ARRAY_DOUBLE_INDEX_SCALE", type := .int, accessFlags := 25, slot := 9, constantValue := 0 }, { name := "LOG2_BYTE_BIT_SIZE", type := .int, accessFlags := 26, slot := 10, constantValue := 0 }, { name := "T_BOOLEAN", type := .int, accessFlags := 25, slot := 11, constantValue := 0 }, { name := "T_CHAR", type := .int, accessFlags := 25, slot := 12, constantValue := 0 }, { name := "T_FLOAT", type := .int, accessFlags := 25, slot := 13, constantValue := 0 }, { name := "T_DOUBLE", type := .int, accessFlags := 25, slot := 14, constantValue := 0 }, { name := "T_BYTE", type := .int, accessFlags := 25, slot := 15, constantValue := 0 }, { name := "T_SHORT", type := .int, accessFlags := 25, slot := 16, constantValue := 0 }, { name := "T_INT", type := .int, accessFlags := 25, slot := 17, constantValue := 0 }, { name := "T_LONG", type := .int, accessFlags := 25, slot := 18, constantValue := 0 }, { name := "JLA", type := (.object "jdk/internal/access/JavaLangAccess"), accessFlags := 26, slot := 19, constantValue := 0 }, { name := "SOFT_MAX_ARRAY_LENGTH", type := .int, accessFlags := 25, slot := 20, constantValue := 0 }]
  methods := #[k11m0]
  instanceTypes := #[]
  staticTypes := #[(.object "jdk/internal/misc/Unsafe"), .boolean, .int, .int, .int, .int, .int, .int, .int, .int, .int, .int, .int, .int, .int, .int, .int, .int, .int, (.object "jdk/internal/access/JavaLangAccess"), .int]
  resolved := Array.replicate 378 none
  statics := none }

def pool12 : Array CpInfo := pool [(1, u "java/lang/Cloneable"), (0, .class_ 1), (0, u "java/lang/Object"), (0, .class_ 3)] 3

/-- java/lang/Cloneable -/
def k12 : Class := { plain "java/lang/Cloneable" (some 0) with
  accessFlags := 1537
  interfaces := #[]
  cf := some (fileOf pool12 2 #[] #[] 1537 4 #[] #[])
  fields := #[]
  methods := #[]
  instanceTypes := #[]
  staticTypes := #[]
  resolved := Array.replicate 8 none
  statics := none }

/-- the primitive byte -/
def k13 : Class := { plain "byte" none with kind := .primitive 'B', accessFlags := 0x411 }
/-- [B -/
def k14 : Class := { plain "[B" (some 0) with kind := .array 13 .byte, interfaces := #[12, 2], accessFlags := 1041 }

/-- the primitive int -/
def k15 : Class := { plain "int" none with kind := .primitive 'I', accessFlags := 0x411 }
/-- [I -/
def k16 : Class := { plain "[I" (some 0) with kind := .array 15 .int, interfaces := #[12, 2], accessFlags := 1041 }

def heap : Heap := #[{ cls := 7, slots := #[.long 0, .int 1, .null, .int 0, .null, .int 0, .int 0], vm := .statics 7 },
  { cls := 10, slots := #[.null, .null, .null], vm := .statics 10 }]
def classes : Array Class := #[k0, k1, k2, k3, k4, k5, k6, k7, k8, k9, k10, k11, k12, k13, k14, k15, k16]
def interned : List (Array UInt16 × Addr) := []
def slotsUsed : Nat := 10
def theMethod : MethodId := ⟨1, 1⟩
def args0 : Array Value := #[.int 65, .int 5]
def aboutOver (below : List Frame) : State where
  vm := { classes := classes, interned := interned.toArray }
  heap := heap
  slotsUsed := slotsUsed
  threads := #[{ frames := .invoking theMethod args0 :: below }]
def below0 : List Frame := [.native { method := ⟨0, 0⟩, args := #[] }]
def about1 : State := aboutOver below0
def p0 : Program := .bare "" "" ""
def e0 : Env := launch0.env 0 0 0
theorem w_frames : about1.frames = Frame.invoking theMethod args0 :: below0 := rfl
set_option maxRecDepth 65536 in
theorem w_args : argsFit about1.vm theMethod args0 = true := by decide +kernel
set_option maxRecDepth 65536 in
theorem w_heap : heapFits about1 = true := by decide +kernel
set_option maxRecDepth 65536 in
theorem w_runnable : about1.curStatus? = some .runnable := by decide +kernel
set_option maxRecDepth 65536 in
theorem w_alone : about1.alone = true := by decide +kernel
set_option maxRecDepth 65536 in
theorem w_named : about1.methodNamed? x = some theMethod := by decide +kernel
set_option maxRecDepth 65536 in
theorem w_hears : about1.hears theMethod below0 = true := by decide +kernel
set_option maxRecDepth 65536 in
theorem w_ripe : about1.ripe theMethod args0 below0 = true := by decide +kernel
theorem w_running : about1.status = .running := rfl
set_option maxRecDepth 65536 in
theorem w_room : about1.hasRoom e0.platform room_1 = true :=
  launch0.hasRoom_least _ room_1 (by decide +kernel) (by decide +kernel) (by decide +kernel) (by decide +kernel) (by decide +kernel) (by decide +kernel)
theorem allAtoms_all (ts : List Jvm.Cond) (a : Array Jvm.Value) (st : Jvm.State) : (allAtoms ts).before a st = ts.all (fun c => c.before a st) := by
  induction ts with
  | nil => rfl
  | cons c t ih =>
    show (Jvm.Cond.and c (allAtoms t)).before a st = _
    rw [Jvm.Cond.before_and, ih, List.all_cons]
def words1 : List Jvm.Cond := Jvm.Cond.code x code maxLocals ret :: tables_1
/-- a 'code' word, met by the world's own term for the bytes: nothing is compared byte by byte -/
theorem code_word {y : MethodName} {bytes : ByteArray} {mx : Nat} {rt : Option FieldType} {a : Array Value} {s : State} {m : MethodId} {meth : Method} {c : Code} (h1 : s.methodNamed? y = some m) (h2 : s.vm.method? m = some meth) (h3 : meth.code = some c) (h4 : c.code = bytes)
    (h5 : (c.maxLocals == mx && c.exceptionTable.isEmpty && decide (c.maxStack ≤ mostOperands) && decide (meth.sig.returnType = rt) && !meth.locks && decide (parseMethodDescriptor y.desc = some meth.sig)) = true) : (Jvm.Cond.code y bytes mx rt).before a s = true := by
  simp only [Bool.and_eq_true, beq_iff_eq, Bool.not_eq_true', decide_eq_true_eq] at h5
  obtain ⟨⟨⟨⟨⟨g1, g2⟩, g3⟩, g4⟩, g5⟩, g6⟩ := h5
  simp [Cond.before, Cond.holds, Cond.value, h1, h2, h3, h4, g1, g2, g3, g4, g5, g6]
def isCode : Jvm.Cond → Bool
  | .code _ _ _ _ => true
  | _ => false
theorem all_split {L : List Jvm.Cond} {P : Jvm.Cond → Bool} (h1 : L.all (fun c => isCode c || P c) = true) (h2 : ∀ c ∈ L.filter isCode, P c = true) : L.all P = true := by
  refine List.all_eq_true.mpr fun c hc => ?_
  have h := List.all_eq_true.mp h1 c hc
  rcases Bool.eq_false_or_eq_true (isCode c) with hi | hi
  · exact h2 c (List.mem_filter.mpr ⟨hc, hi⟩)
  · simpa [hi] using h
set_option maxRecDepth 65536 in
theorem w_c0 : (Jvm.Cond.code x code maxLocals ret).before args0 about1 = true := code_word (m := ⟨1, 1⟩) (meth := k1m1) (c := k1c1) (by decide +kernel) rfl rfl rfl (by decide +kernel)
set_option maxRecDepth 65536 in
theorem w_c1 : (Jvm.Cond.code ({ cls := "com/example/wicketgate/wicketgate/core/mrz/MrzCharacters", name := "valueOf", desc := "(C)I" } : Jvm.MethodName) prog_61_method_4_code (1 : Nat) (Option.some Jvm.ClassFile.FieldType.int)).before args0 about1 = true := code_word (m := ⟨8, 1⟩) (meth := k8m1) (c := k8c1) (by decide +kernel) rfl rfl rfl (by decide +kernel)
set_option maxRecDepth 65536 in
theorem w_c2 : (Jvm.Cond.code ({ cls := "java/lang/String", name := "charAt", desc := "(I)C" } : Jvm.MethodName) jdk_42_method_56_code (2 : Nat) (Option.some Jvm.ClassFile.FieldType.char)).before args0 about1 = true := code_word (m := ⟨7, 1⟩) (meth := k7m1) (c := k7c1) (by decide +kernel) rfl rfl rfl (by decide +kernel)
set_option maxRecDepth 65536 in
theorem w_c3 : (Jvm.Cond.code ({ cls := "java/lang/String", name := "isLatin1", desc := "()Z" } : Jvm.MethodName) jdk_42_method_154_code (1 : Nat) (Option.some Jvm.ClassFile.FieldType.boolean)).before args0 about1 = true := code_word (m := ⟨7, 2⟩) (meth := k7m2) (c := k7c2) (by decide +kernel) rfl rfl rfl (by decide +kernel)
set_option maxRecDepth 65536 in
theorem w_c4 : (Jvm.Cond.code ({ cls := "java/lang/StringLatin1", name := "charAt", desc := "([BI)C" } : Jvm.MethodName) jdk_43_method_2_code (2 : Nat) (Option.some Jvm.ClassFile.FieldType.char)).before args0 about1 = true := code_word (m := ⟨9, 1⟩) (meth := k9m1) (c := k9c1) (by decide +kernel) rfl rfl rfl (by decide +kernel)
set_option maxRecDepth 65536 in
theorem w_c5 : (Jvm.Cond.code ({ cls := "java/lang/String", name := "checkIndex", desc := "(II)V" } : Jvm.MethodName) jdk_42_method_155_code (2 : Nat) (Option.none : Option Jvm.ClassFile.FieldType)).before args0 about1 = true := code_word (m := ⟨7, 3⟩) (meth := k7m3) (c := k7c3) (by decide +kernel) rfl rfl rfl (by decide +kernel)
set_option maxRecDepth 65536 in
theorem w_c6 : (Jvm.Cond.code ({ cls := "jdk/internal/util/Preconditions", name := "checkIndex", desc := "(IILjava/util/function/BiFunction;)I" } : Jvm.MethodName) jdk_41_method_11_code (3 : Nat) (Option.some Jvm.ClassFile.FieldType.int)).before args0 about1 = true := code_word (m := ⟨10, 1⟩) (meth := k10m1) (c := k10c1) (by decide +kernel) rfl rfl rfl (by decide +kernel)
def codes1 : List Jvm.Cond := [Jvm.Cond.code x code maxLocals ret, Jvm.Cond.code ({ cls := "com/example/wicketgate/wicketgate/core/mrz/MrzCharacters", name := "valueOf", desc := "(C)I" } : Jvm.MethodName) prog_61_method_4_code (1 : Nat) (Option.some Jvm.ClassFile.FieldType.int), Jvm.Cond.code ({ cls := "java/lang/String", name := "charAt", desc := "(I)C" } : Jvm.MethodName) jdk_42_method_56_code (2 : Nat) (Option.some Jvm.ClassFile.FieldType.char), Jvm.Cond.code ({ cls := "java/lang/String", name := "isLatin1", desc := "()Z" } : Jvm.MethodName) jdk_42_method_154_code (1 : Nat) (Option.some Jvm.ClassFile.FieldType.boolean), Jvm.Cond.code ({ cls := "java/lang/StringLatin1", name := "charAt", desc := "([BI)C" } : Jvm.MethodName) jdk_43_method_2_code (2 : Nat) (Option.some Jvm.ClassFile.FieldType.char), Jvm.Cond.code ({ cls := "java/lang/String", name := "checkIndex", desc := "(II)V" } : Jvm.MethodName) jdk_42_method_155_code (2 : Nat) (Option.none : Option Jvm.ClassFile.FieldType), Jvm.Cond.code ({ cls := "jdk/internal/util/Preconditions", name := "checkIndex", desc := "(IILjava/util/function/BiFunction;)I" } : Jvm.MethodName) jdk_41_method_11_code (3 : Nat) (Option.some Jvm.ClassFile.FieldType.int)]
set_option maxRecDepth 65536 in
theorem codes_eq : words1.filter isCode = codes1 := rfl
theorem w_codes : ∀ c ∈ words1.filter isCode, c.before args0 about1 = true := by
  rw [codes_eq]
  intro c hc
  simp only [codes1, List.mem_cons, List.not_mem_nil, or_false] at hc
  rcases hc with rfl | rfl | rfl | rfl | rfl | rfl | rfl
  · exact w_c0
  · exact w_c1
  · exact w_c2
  · exact w_c3
  · exact w_c4
  · exact w_c5
  · exact w_c6
set_option maxRecDepth 65536 in
theorem w_t1 : (words1.take 24).all (fun c => isCode c || c.before args0 about1) = true := by decide +kernel
set_option maxRecDepth 65536 in
theorem w_t2 : (words1.drop 24).all (fun c => isCode c || c.before args0 about1) = true := by decide +kernel
theorem w_tables : (allAtoms (Jvm.Cond.code x code maxLocals ret :: tables_1)).before args0 about1 = true := by
  rw [allAtoms_all]
  show words1.all (fun c => c.before args0 about1) = true
  refine all_split ?_ w_codes
  rw [← List.take_append_drop 24 words1, List.all_append, w_t1, w_t2]
  rfl
set_option maxRecDepth 65536 in
theorem w_rest : rest_1_c.before args0 about1 = true := by decide +kernel
set_option maxRecDepth 65536 in
theorem w_case : (Jvm.Cond.and given_1 narrow_1).before args0 about1 = true := by decide +kernel
set_option maxRecDepth 65536 in
theorem w_consts : constsHeld consts_1 about1 := Jvm.Lit.constsHeldB_iff.mp (by decide +kernel)
theorem w_applies : (headSpec (Jvm.Cond.code x code maxLocals ret :: tables_1) room_1).applies x e0.platform about1 = true :=
  (Spec.applies_iff w_frames).mpr ⟨w_running, w_runnable, w_alone, w_named, w_hears, w_ripe, w_room, w_tables⟩
theorem atStart : AtStart classFile x code maxLocals ret World_1 tables_1 room_1 Calls_1 rest_1 Pre_1 launch0 p0 e0 about1 theMethod args0 below0 :=
  ⟨lists_1, trivial, launch0.admits_env _ _ _, launch0.least_env, fairChoices_fair.cas, fairChoices_fair.clock, w_frames, w_args, w_heap, w_applies, ⟨w_consts, trivial⟩, w_rest, w_case⟩
end start1
theorem witness_1 : WitnessClaimed_1 := ⟨start1.p0, start1.e0, start1.about1, start1.theMethod, start1.args0, start1.below0, start1.atStart⟩
end Jvm.Pilot.@@N@@
