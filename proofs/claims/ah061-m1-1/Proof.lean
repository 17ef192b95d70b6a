import JvmDerived
import JvmDerived.Pilot.@@N@@Statement
import JvmDerived.Pilot.@@N@@Code
set_option linter.unusedVariables false
set_option linter.unusedSimpArgs false
@@BLOCK:NumsL.lean.txt@@

namespace Jvm.OwnKit
open Sem ClassFile Op Lib Jvm.Stand Jvm.Free Jvm.LawKit Jvm.RoadKit
section Own
variable {p : Program} {l : Launch} {e : Env} {R : Room} {s : State} {m : MethodId} {args : Array Value} {below : List Frame} {meth : Method} {c : Code} {T : State} {locs : List Loc} {cells slots : Nat} {Q : Option Value → Heap → List Loc → Prop} {C S : Nat}
/-- what a body owes from a state on -/
def Fin (p : Program) (e : Env) (below : List Frame) (s : State) (Q : Option Value → Heap → List Loc → Prop) (C S : Nat) (st : State) : Prop :=
  ∃ s₂ o, Steps p.tables e below st s₂ ∧ s₂.status = .running ∧ Ended s₂ below o ∧ ∃ v L, o = .returned v ∧ Q v s₂.heap L ∧ FrameEnd s o s₂ L C S
theorem Fin.step {st st' : State} (h : ∀ t, Steps p.tables e below st' t → Steps p.tables e below st t) (k : Fin p e below s Q C S st') : Fin p e below s Q C S st := by
  obtain ⟨s₂, o, h1, h2⟩ := k
  exact ⟨s₂, o, h _ h1, h2⟩
theorem Fin.ret (X : Stand p l e R s m args below meth c T locs cells slots) {v : Option Value} {g : JFrame} (hv : meth.sig.returnType = none → v = none) (hlocks : meth.locks = false)
    (hst : ∀ fs, (∀ (f : JFrame) (acts : List Action), f.method = m → f.locked = none → f.entered = [] → (doReturn e (T.setTop f) acts v).1 = T.setFrames fs) → Steps p.tables e below (T.setTop g) (T.setFrames fs))
    (hC : cells ≤ C) (hS : slots ≤ S) (q : Q v T.heap locs) : Fin p e below s Q C S (T.setTop g) := by
  obtain ⟨fs, hr, hrun, hended, hW, hsame⟩ := X.leave (v := v) hv hlocks
  exact ⟨_, _, hst fs hr, hrun, hended, _, _, rfl, q, ⟨_, rfl⟩, hW, hsame.mono hC hS⟩
theorem Fin.retI (X : Stand p l e R s m args below meth c T locs cells slots) (hx : p.tables.exec = Jvm.exec) {pc : Nat} {Ls : Array Slot} {z : Int32} {rest : List Value} (hret : meth.sig.returnType = some .int) (hlocks : meth.locks = false) (hd : decode c.code pc = .ok (.ireturn, 1))
    (hC : cells ≤ C) (hS : slots ≤ S) (q : Q (some (.int z)) T.heap locs) : Fin p e below s Q C S (T.setTop (mkF m pc Ls (.int z :: rest))) :=
  Fin.ret X (fun h => by rw [hret] at h; cases h) hlocks (fun fs hl => retOut X hx hret rfl (Or.inl ⟨rfl, Or.inl rfl, z, rfl⟩) hd hl) hC hS q
theorem Fin.retJ (X : Stand p l e R s m args below meth c T locs cells slots) (hx : p.tables.exec = Jvm.exec) {pc : Nat} {Ls : Array Slot} {z : Int64} {rest : List Value} (hret : meth.sig.returnType = some .long) (hlocks : meth.locks = false) (hd : decode c.code pc = .ok (.lreturn, 1))
    (hC : cells ≤ C) (hS : slots ≤ S) (q : Q (some (.long z)) T.heap locs) : Fin p e below s Q C S (T.setTop (mkF m pc Ls (.long z :: rest))) :=
  Fin.ret X (fun h => by rw [hret] at h; cases h) hlocks (fun fs hl => retOut X hx hret rfl (Or.inr (Or.inl ⟨rfl, rfl, z, rfl⟩)) hd hl) hC hS q
theorem Fin.retD (X : Stand p l e R s m args below meth c T locs cells slots) (hx : p.tables.exec = Jvm.exec) {pc : Nat} {Ls : Array Slot} {z : UInt64} {rest : List Value} (hret : meth.sig.returnType = some .double) (hlocks : meth.locks = false) (hd : decode c.code pc = .ok (.dreturn, 1))
    (hC : cells ≤ C) (hS : slots ≤ S) (q : Q (some (.double z)) T.heap locs) : Fin p e below s Q C S (T.setTop (mkF m pc Ls (.double z :: rest))) :=
  Fin.ret X (fun h => by rw [hret] at h; cases h) hlocks (fun fs hl => retOut X hx hret rfl (Or.inr (Or.inr (Or.inl ⟨rfl, rfl, z, rfl⟩))) hd hl) hC hS q
theorem Fin.retR (X : Stand p l e R s m args below meth c T locs cells slots) (hx : p.tables.exec = Jvm.exec) {pc : Nat} {Ls : Array Slot} {w : Value} {t : FieldType} {rest : List Value} (hret : meth.sig.returnType = some t) (ht : t.isReference = true) (hw : w.isRef = true) (hlocks : meth.locks = false) (hd : decode c.code pc = .ok (.areturn, 1))
    (hC : cells ≤ C) (hS : slots ≤ S) (q : Q (some w) T.heap locs) : Fin p e below s Q C S (T.setTop (mkF m pc Ls (w :: rest))) :=
  Fin.ret X (fun h => by rw [hret] at h; cases h) hlocks (fun fs hl => retOut X hx hret (by cases t <;> simp [FieldType.isReference] at ht <;> cases w <;> simp [Value.isRef] at hw <;> rfl) (Or.inr (Or.inr (Or.inr (Or.inr ⟨rfl, ht, hw⟩)))) hd hl) hC hS q
theorem Fin.retN (X : Stand p l e R s m args below meth c T locs cells slots) (hx : p.tables.exec = Jvm.exec) {pc : Nat} {Ls : Array Slot} {z : Int32} {t : FieldType} {rest : List Value} (hret : meth.sig.returnType = some t) (ht : t = .boolean ∨ t = .byte ∨ t = .char ∨ t = .short) (hlocks : meth.locks = false) (hd : decode c.code pc = .ok (.ireturn, 1))
    (hC : cells ≤ C) (hS : slots ≤ S) (q : Q (some (.int (nar t z))) T.heap locs) : Fin p e below s Q C S (T.setTop (mkF m pc Ls (.int z :: rest))) :=
  Fin.ret X (fun h => by rw [hret] at h; cases h) hlocks (fun fs hl => RoadKit.retN X hx hret ht hd hl) hC hS q
theorem Fin.retV (X : Stand p l e R s m args below meth c T locs cells slots) (hx : p.tables.exec = Jvm.exec) {pc : Nat} {Ls : Array Slot} (hret : meth.sig.returnType = none) (hlocks : meth.locks = false) (hd : decode c.code pc = .ok (.return_, 1))
    (hC : cells ≤ C) (hS : slots ≤ S) (q : Q none T.heap locs) : Fin p e below s Q C S (T.setTop (mkF m pc Ls [])) :=
  Fin.ret X (fun _ => rfl) hlocks (fun fs hl => X.returnOut hx hret hd hl) hC hS q
/-- the same where the walk may intern: the end's frame is ReturnedEndW -/
def FinW (p : Program) (e : Env) (below : List Frame) (s : State) (Q : Option Value → Heap → List Loc → Prop) (C S : Nat) (st : State) : Prop :=
  ∃ s₂ o, Steps p.tables e below st s₂ ∧ s₂.status = .running ∧ Ended s₂ below o ∧ ∃ v L, o = .returned v ∧ Q v s₂.heap L ∧ ReturnedEndW s o s₂ L C S
theorem FinW.step {st st' : State} (h : ∀ t, Steps p.tables e below st' t → Steps p.tables e below st t) (k : FinW p e below s Q C S st') : FinW p e below s Q C S st := by
  obtain ⟨s₂, o, h1, h2⟩ := k
  exact ⟨s₂, o, h _ h1, h2⟩
theorem FinW.ret {vm₁ : Vm} (X : Stand p l e R (s.setVm vm₁) m args below meth c T locs cells slots) {n : Nat} (hS : s.Since vm₁ n) (hn : n ≤ T.heap.size) {v : Option Value} {g : JFrame} (hv : meth.sig.returnType = none → v = none) (hlocks : meth.locks = false)
    (hst : ∀ fs, (∀ (f : JFrame) (acts : List Action), f.method = m → f.locked = none → f.entered = [] → (doReturn e (T.setTop f) acts v).1 = T.setFrames fs) → Steps p.tables e below (T.setTop g) (T.setFrames fs))
    (hC : cells ≤ C) (hS' : slots ≤ S) (q : Q v T.heap locs) : FinW p e below s Q C S (T.setTop g) := by
  obtain ⟨fs, hr, hrun, hended, hW⟩ := X.leaveW hS hn (v := v) hv hlocks
  exact ⟨_, _, hst fs hr, hrun, hended, _, _, rfl, q, hW.1, hW.2.1, hW.2.2.1, hW.2.2.2.mono hC hS'⟩
theorem FinW.retN {vm₁ : Vm} (X : Stand p l e R (s.setVm vm₁) m args below meth c T locs cells slots) {n : Nat} (hS : s.Since vm₁ n) (hn : n ≤ T.heap.size) (hx : p.tables.exec = Jvm.exec) {pc : Nat} {Ls : Array Slot} {z : Int32} {t : FieldType} {rest : List Value} (hret : meth.sig.returnType = some t) (ht : t = .boolean ∨ t = .byte ∨ t = .char ∨ t = .short) (hlocks : meth.locks = false) (hd : decode c.code pc = .ok (.ireturn, 1))
    (hC : cells ≤ C) (hS' : slots ≤ S) (q : Q (some (.int (nar t z))) T.heap locs) : FinW p e below s Q C S (T.setTop (mkF m pc Ls (.int z :: rest))) :=
  FinW.ret X hS hn (fun h => by rw [hret] at h; cases h) hlocks (fun fs hl => RoadKit.retN X hx hret ht hd hl) hC hS' q
theorem FinW.retR {vm₁ : Vm} (X : Stand p l e R (s.setVm vm₁) m args below meth c T locs cells slots) {n : Nat} (hS : s.Since vm₁ n) (hn : n ≤ T.heap.size) (hx : p.tables.exec = Jvm.exec) {pc : Nat} {Ls : Array Slot} {w : Value} {t : FieldType} {rest : List Value} (hret : meth.sig.returnType = some t) (ht : t.isReference = true) (hw : w.isRef = true) (hlocks : meth.locks = false) (hd : decode c.code pc = .ok (.areturn, 1))
    (hC : cells ≤ C) (hS' : slots ≤ S) (q : Q (some w) T.heap locs) : FinW p e below s Q C S (T.setTop (mkF m pc Ls (w :: rest))) :=
  FinW.ret X hS hn (fun h => by rw [hret] at h; cases h) hlocks (fun fs hl => retOut X hx hret (by cases t <;> simp [FieldType.isReference] at ht <;> cases w <;> simp [Value.isRef] at hw <;> rfl) (Or.inr (Or.inr (Or.inr (Or.inr ⟨rfl, ht, hw⟩)))) hd hl) hC hS' q
theorem Fld.cast {Z : State} {h : Heap} {a : Addr} {C n d : String} {v w : Value} (F : Fld Z h a C n d v) (e : v = w) : Fld Z h a C n d w := e ▸ F
theorem Sta_keep {Z : State} {h h' : Heap} {C n d : String} {v : Value} (F : Sta Z h C n d v) (K : Keep h h' []) : Sta Z h' C n d v := by
  obtain ⟨cf, i, k, f, st, cell, h1, h2, h3, h4, h5, r⟩ := F
  exact ⟨cf, i, k, f, st, cell, h1, h2, h3, h4, K.2.1 _ _ h5 nin0, r⟩
theorem Arr_keep {Z : State} {h h' : Heap} {a : Addr} {c : Cell} {ty : FieldType} (F : Arr Z h a c ty) (K : Keep h h' []) : Arr Z h' a c ty := ⟨K.2.1 _ _ F.1 nin0, F.2⟩
/-- the shifts without sign -/
def ushL (x : Int64) (k : Int32) : Int64 := (x.toUInt64 >>> (k &&& 0x3f).toInt64.toUInt64).toInt64
def ushI (x k : Int32) : Int32 := (x.toUInt32 >>> (k &&& 31).toUInt32).toInt32
theorem lcE {x y : Int64} (h : x = y) : lcmpW x y = 0 := by rw [lcW]; exact (lc_eq x y).mpr h
theorem lcNE {x y : Int64} (h : ¬ x = y) : ¬ lcmpW x y = 0 := fun q => h ((lc_eq x y).mp (by rw [← lcW]; exact q))
theorem lcL {x y : Int64} (h : x < y) : lcmpW x y < 0 := by rw [lcW]; exact (lc_lt x y).mpr h
theorem lcNL {x y : Int64} (h : ¬ x < y) : ¬ lcmpW x y < 0 := fun q => h ((lc_lt x y).mp (by rw [← lcW]; exact q))
theorem lcG {x y : Int64} (h : y < x) : 0 < lcmpW x y := by rw [lcW]; exact (lc_gt x y).mpr h
theorem lcNG {x y : Int64} (h : ¬ y < x) : ¬ 0 < lcmpW x y := fun q => h ((lc_gt x y).mp (by rw [← lcW]; exact q))
end Own
end Jvm.OwnKit
namespace Jvm.Pilot.@@N@@
open Jvm Jvm.ClassFile Sem Op Lib Jvm.Free Jvm.Stand Jvm.LawKit Jvm.RoadKit Jvm.OwnKit Bundle Jvm.Pilot.@@N@@.Jvm.D
def own_u2 (q : Int32) : Int32 := ((((192 : Int32) ||| (q >>> ((6 : Int32) &&& 31))) <<< ((8 : Int32) &&& 31)) ||| (128 : Int32)) ||| (q &&& (63 : Int32))
def own_u3 (q : Int32) : Int32 := (((((224 : Int32) ||| (q >>> ((12 : Int32) &&& 31))) <<< ((16 : Int32) &&& 31)) ||| (((128 : Int32) ||| ((q >>> ((6 : Int32) &&& 31)) &&& (63 : Int32))) <<< ((8 : Int32) &&& 31))) ||| (128 : Int32)) ||| (q &&& (63 : Int32))
def own_u4 (q : Int32) : Int32 := ((((((240 : Int32) ||| (q >>> ((18 : Int32) &&& 31))) <<< ((24 : Int32) &&& 31)) ||| (((128 : Int32) ||| ((q >>> ((12 : Int32) &&& 31)) &&& (63 : Int32))) <<< ((16 : Int32) &&& 31))) ||| (((128 : Int32) ||| ((q >>> ((6 : Int32) &&& 31)) &&& (63 : Int32))) <<< ((8 : Int32) &&& 31))) ||| (128 : Int32)) ||| (q &&& (63 : Int32))
def own_utf8 (q : Int32) : Int32 := if q < 128 then q else if q < 2048 then own_u2 q else if q < 65536 then own_u3 q else own_u4 q
def own_cont (q : Int32) : Int32 := if q &&& 192 = 128 then 1 else 0
def own_b0 (r : Int32) : Int32 := ushI r 24
def own_b1 (r : Int32) : Int32 := ushI r 16 &&& 255
def own_b2 (r : Int32) : Int32 := ushI r 8 &&& 255
def own_b3 (r : Int32) : Int32 := r &&& 255
theorem own_v2_0 (y : BitVec 11) : ((((192#32 ||| ((y.setWidth 32) >>> 6)) <<< 8 ||| 128#32) ||| ((y.setWidth 32) &&& 63#32)) >>> 24) = 0#32 := by
  apply BitVec.eq_of_getLsbD_eq
  intro i hi
  have hi' : i = 0 ∨ i = 1 ∨ i = 2 ∨ i = 3 ∨ i = 4 ∨ i = 5 ∨ i = 6 ∨ i = 7 ∨ i = 8 ∨ i = 9 ∨ i = 10 ∨ i = 11 ∨ i = 12 ∨ i = 13 ∨ i = 14 ∨ i = 15 ∨ i = 16 ∨ i = 17 ∨ i = 18 ∨ i = 19 ∨ i = 20 ∨ i = 21 ∨ i = 22 ∨ i = 23 ∨ i = 24 ∨ i = 25 ∨ i = 26 ∨ i = 27 ∨ i = 28 ∨ i = 29 ∨ i = 30 ∨ i = 31 := by omega
  rcases hi' with rfl | rfl | rfl | rfl | rfl | rfl | rfl | rfl | rfl | rfl | rfl | rfl | rfl | rfl | rfl | rfl | rfl | rfl | rfl | rfl | rfl | rfl | rfl | rfl | rfl | rfl | rfl | rfl | rfl | rfl | rfl | rfl <;> simp

theorem own_v2_1 (y : BitVec 11) : ((((192#32 ||| ((y.setWidth 32) >>> 6)) <<< 8 ||| 128#32) ||| ((y.setWidth 32) &&& 63#32)) >>> 16 &&& 255#32) = 0#32 := by
  apply BitVec.eq_of_getLsbD_eq
  intro i hi
  have hi' : i = 0 ∨ i = 1 ∨ i = 2 ∨ i = 3 ∨ i = 4 ∨ i = 5 ∨ i = 6 ∨ i = 7 ∨ i = 8 ∨ i = 9 ∨ i = 10 ∨ i = 11 ∨ i = 12 ∨ i = 13 ∨ i = 14 ∨ i = 15 ∨ i = 16 ∨ i = 17 ∨ i = 18 ∨ i = 19 ∨ i = 20 ∨ i = 21 ∨ i = 22 ∨ i = 23 ∨ i = 24 ∨ i = 25 ∨ i = 26 ∨ i = 27 ∨ i = 28 ∨ i = 29 ∨ i = 30 ∨ i = 31 := by omega
  rcases hi' with rfl | rfl | rfl | rfl | rfl | rfl | rfl | rfl | rfl | rfl | rfl | rfl | rfl | rfl | rfl | rfl | rfl | rfl | rfl | rfl | rfl | rfl | rfl | rfl | rfl | rfl | rfl | rfl | rfl | rfl | rfl | rfl <;> simp

theorem own_v2_2 (y : BitVec 11) : ((((192#32 ||| ((y.setWidth 32) >>> 6)) <<< 8 ||| 128#32) ||| ((y.setWidth 32) &&& 63#32)) >>> 8 &&& 255#32) &&& 224#32 = 192#32 := by
  apply BitVec.eq_of_getLsbD_eq
  intro i hi
  have hi' : i = 0 ∨ i = 1 ∨ i = 2 ∨ i = 3 ∨ i = 4 ∨ i = 5 ∨ i = 6 ∨ i = 7 ∨ i = 8 ∨ i = 9 ∨ i = 10 ∨ i = 11 ∨ i = 12 ∨ i = 13 ∨ i = 14 ∨ i = 15 ∨ i = 16 ∨ i = 17 ∨ i = 18 ∨ i = 19 ∨ i = 20 ∨ i = 21 ∨ i = 22 ∨ i = 23 ∨ i = 24 ∨ i = 25 ∨ i = 26 ∨ i = 27 ∨ i = 28 ∨ i = 29 ∨ i = 30 ∨ i = 31 := by omega
  rcases hi' with rfl | rfl | rfl | rfl | rfl | rfl | rfl | rfl | rfl | rfl | rfl | rfl | rfl | rfl | rfl | rfl | rfl | rfl | rfl | rfl | rfl | rfl | rfl | rfl | rfl | rfl | rfl | rfl | rfl | rfl | rfl | rfl <;> simp

theorem own_v2_3 (y : BitVec 11) : ((((192#32 ||| ((y.setWidth 32) >>> 6)) <<< 8 ||| 128#32) ||| ((y.setWidth 32) &&& 63#32)) &&& 255#32) &&& 192#32 = 128#32 := by
  apply BitVec.eq_of_getLsbD_eq
  intro i hi
  have hi' : i = 0 ∨ i = 1 ∨ i = 2 ∨ i = 3 ∨ i = 4 ∨ i = 5 ∨ i = 6 ∨ i = 7 ∨ i = 8 ∨ i = 9 ∨ i = 10 ∨ i = 11 ∨ i = 12 ∨ i = 13 ∨ i = 14 ∨ i = 15 ∨ i = 16 ∨ i = 17 ∨ i = 18 ∨ i = 19 ∨ i = 20 ∨ i = 21 ∨ i = 22 ∨ i = 23 ∨ i = 24 ∨ i = 25 ∨ i = 26 ∨ i = 27 ∨ i = 28 ∨ i = 29 ∨ i = 30 ∨ i = 31 := by omega
  rcases hi' with rfl | rfl | rfl | rfl | rfl | rfl | rfl | rfl | rfl | rfl | rfl | rfl | rfl | rfl | rfl | rfl | rfl | rfl | rfl | rfl | rfl | rfl | rfl | rfl | rfl | rfl | rfl | rfl | rfl | rfl | rfl | rfl <;> simp

theorem own_v2_4 (y : BitVec 11) : (((((192#32 ||| ((y.setWidth 32) >>> 6)) <<< 8 ||| 128#32) ||| ((y.setWidth 32) &&& 63#32)) >>> 8 &&& 255#32) &&& 31#32) <<< 6 ||| (((((192#32 ||| ((y.setWidth 32) >>> 6)) <<< 8 ||| 128#32) ||| ((y.setWidth 32) &&& 63#32)) &&& 255#32) &&& 63#32) = (y.setWidth 32) := by
  apply BitVec.eq_of_getLsbD_eq
  intro i hi
  have hi' : i = 0 ∨ i = 1 ∨ i = 2 ∨ i = 3 ∨ i = 4 ∨ i = 5 ∨ i = 6 ∨ i = 7 ∨ i = 8 ∨ i = 9 ∨ i = 10 ∨ i = 11 ∨ i = 12 ∨ i = 13 ∨ i = 14 ∨ i = 15 ∨ i = 16 ∨ i = 17 ∨ i = 18 ∨ i = 19 ∨ i = 20 ∨ i = 21 ∨ i = 22 ∨ i = 23 ∨ i = 24 ∨ i = 25 ∨ i = 26 ∨ i = 27 ∨ i = 28 ∨ i = 29 ∨ i = 30 ∨ i = 31 := by omega
  rcases hi' with rfl | rfl | rfl | rfl | rfl | rfl | rfl | rfl | rfl | rfl | rfl | rfl | rfl | rfl | rfl | rfl | rfl | rfl | rfl | rfl | rfl | rfl | rfl | rfl | rfl | rfl | rfl | rfl | rfl | rfl | rfl | rfl <;> simp

theorem own_v3_0 (y : BitVec 16) : (((((224#32 ||| ((y.setWidth 32) >>> 12)) <<< 16 ||| (128#32 ||| ((y.setWidth 32) >>> 6 &&& 63#32)) <<< 8) ||| 128#32) ||| ((y.setWidth 32) &&& 63#32)) >>> 24) = 0#32 := by
  apply BitVec.eq_of_getLsbD_eq
  intro i hi
  have hi' : i = 0 ∨ i = 1 ∨ i = 2 ∨ i = 3 ∨ i = 4 ∨ i = 5 ∨ i = 6 ∨ i = 7 ∨ i = 8 ∨ i = 9 ∨ i = 10 ∨ i = 11 ∨ i = 12 ∨ i = 13 ∨ i = 14 ∨ i = 15 ∨ i = 16 ∨ i = 17 ∨ i = 18 ∨ i = 19 ∨ i = 20 ∨ i = 21 ∨ i = 22 ∨ i = 23 ∨ i = 24 ∨ i = 25 ∨ i = 26 ∨ i = 27 ∨ i = 28 ∨ i = 29 ∨ i = 30 ∨ i = 31 := by omega
  rcases hi' with rfl | rfl | rfl | rfl | rfl | rfl | rfl | rfl | rfl | rfl | rfl | rfl | rfl | rfl | rfl | rfl | rfl | rfl | rfl | rfl | rfl | rfl | rfl | rfl | rfl | rfl | rfl | rfl | rfl | rfl | rfl | rfl <;> simp

theorem own_v3_1 (y : BitVec 16) : (((((224#32 ||| ((y.setWidth 32) >>> 12)) <<< 16 ||| (128#32 ||| ((y.setWidth 32) >>> 6 &&& 63#32)) <<< 8) ||| 128#32) ||| ((y.setWidth 32) &&& 63#32)) >>> 16 &&& 255#32) &&& 240#32 = 224#32 := by
  apply BitVec.eq_of_getLsbD_eq
  intro i hi
  have hi' : i = 0 ∨ i = 1 ∨ i = 2 ∨ i = 3 ∨ i = 4 ∨ i = 5 ∨ i = 6 ∨ i = 7 ∨ i = 8 ∨ i = 9 ∨ i = 10 ∨ i = 11 ∨ i = 12 ∨ i = 13 ∨ i = 14 ∨ i = 15 ∨ i = 16 ∨ i = 17 ∨ i = 18 ∨ i = 19 ∨ i = 20 ∨ i = 21 ∨ i = 22 ∨ i = 23 ∨ i = 24 ∨ i = 25 ∨ i = 26 ∨ i = 27 ∨ i = 28 ∨ i = 29 ∨ i = 30 ∨ i = 31 := by omega
  rcases hi' with rfl | rfl | rfl | rfl | rfl | rfl | rfl | rfl | rfl | rfl | rfl | rfl | rfl | rfl | rfl | rfl | rfl | rfl | rfl | rfl | rfl | rfl | rfl | rfl | rfl | rfl | rfl | rfl | rfl | rfl | rfl | rfl <;> simp

theorem own_v3_2 (y : BitVec 16) : (((((224#32 ||| ((y.setWidth 32) >>> 12)) <<< 16 ||| (128#32 ||| ((y.setWidth 32) >>> 6 &&& 63#32)) <<< 8) ||| 128#32) ||| ((y.setWidth 32) &&& 63#32)) >>> 8 &&& 255#32) &&& 192#32 = 128#32 := by
  apply BitVec.eq_of_getLsbD_eq
  intro i hi
  have hi' : i = 0 ∨ i = 1 ∨ i = 2 ∨ i = 3 ∨ i = 4 ∨ i = 5 ∨ i = 6 ∨ i = 7 ∨ i = 8 ∨ i = 9 ∨ i = 10 ∨ i = 11 ∨ i = 12 ∨ i = 13 ∨ i = 14 ∨ i = 15 ∨ i = 16 ∨ i = 17 ∨ i = 18 ∨ i = 19 ∨ i = 20 ∨ i = 21 ∨ i = 22 ∨ i = 23 ∨ i = 24 ∨ i = 25 ∨ i = 26 ∨ i = 27 ∨ i = 28 ∨ i = 29 ∨ i = 30 ∨ i = 31 := by omega
  rcases hi' with rfl | rfl | rfl | rfl | rfl | rfl | rfl | rfl | rfl | rfl | rfl | rfl | rfl | rfl | rfl | rfl | rfl | rfl | rfl | rfl | rfl | rfl | rfl | rfl | rfl | rfl | rfl | rfl | rfl | rfl | rfl | rfl <;> simp

theorem own_v3_3 (y : BitVec 16) : (((((224#32 ||| ((y.setWidth 32) >>> 12)) <<< 16 ||| (128#32 ||| ((y.setWidth 32) >>> 6 &&& 63#32)) <<< 8) ||| 128#32) ||| ((y.setWidth 32) &&& 63#32)) &&& 255#32) &&& 192#32 = 128#32 := by
  apply BitVec.eq_of_getLsbD_eq
  intro i hi
  have hi' : i = 0 ∨ i = 1 ∨ i = 2 ∨ i = 3 ∨ i = 4 ∨ i = 5 ∨ i = 6 ∨ i = 7 ∨ i = 8 ∨ i = 9 ∨ i = 10 ∨ i = 11 ∨ i = 12 ∨ i = 13 ∨ i = 14 ∨ i = 15 ∨ i = 16 ∨ i = 17 ∨ i = 18 ∨ i = 19 ∨ i = 20 ∨ i = 21 ∨ i = 22 ∨ i = 23 ∨ i = 24 ∨ i = 25 ∨ i = 26 ∨ i = 27 ∨ i = 28 ∨ i = 29 ∨ i = 30 ∨ i = 31 := by omega
  rcases hi' with rfl | rfl | rfl | rfl | rfl | rfl | rfl | rfl | rfl | rfl | rfl | rfl | rfl | rfl | rfl | rfl | rfl | rfl | rfl | rfl | rfl | rfl | rfl | rfl | rfl | rfl | rfl | rfl | rfl | rfl | rfl | rfl <;> simp

theorem own_v3_4 (y : BitVec 16) : (((((((224#32 ||| ((y.setWidth 32) >>> 12)) <<< 16 ||| (128#32 ||| ((y.setWidth 32) >>> 6 &&& 63#32)) <<< 8) ||| 128#32) ||| ((y.setWidth 32) &&& 63#32)) >>> 16 &&& 255#32) &&& 15#32) <<< 12 ||| ((((((224#32 ||| ((y.setWidth 32) >>> 12)) <<< 16 ||| (128#32 ||| ((y.setWidth 32) >>> 6 &&& 63#32)) <<< 8) ||| 128#32) ||| ((y.setWidth 32) &&& 63#32)) >>> 8 &&& 255#32) &&& 63#32) <<< 6) ||| ((((((224#32 ||| ((y.setWidth 32) >>> 12)) <<< 16 ||| (128#32 ||| ((y.setWidth 32) >>> 6 &&& 63#32)) <<< 8) ||| 128#32) ||| ((y.setWidth 32) &&& 63#32)) &&& 255#32) &&& 63#32) = (y.setWidth 32) := by
  apply BitVec.eq_of_getLsbD_eq
  intro i hi
  have hi' : i = 0 ∨ i = 1 ∨ i = 2 ∨ i = 3 ∨ i = 4 ∨ i = 5 ∨ i = 6 ∨ i = 7 ∨ i = 8 ∨ i = 9 ∨ i = 10 ∨ i = 11 ∨ i = 12 ∨ i = 13 ∨ i = 14 ∨ i = 15 ∨ i = 16 ∨ i = 17 ∨ i = 18 ∨ i = 19 ∨ i = 20 ∨ i = 21 ∨ i = 22 ∨ i = 23 ∨ i = 24 ∨ i = 25 ∨ i = 26 ∨ i = 27 ∨ i = 28 ∨ i = 29 ∨ i = 30 ∨ i = 31 := by omega
  rcases hi' with rfl | rfl | rfl | rfl | rfl | rfl | rfl | rfl | rfl | rfl | rfl | rfl | rfl | rfl | rfl | rfl | rfl | rfl | rfl | rfl | rfl | rfl | rfl | rfl | rfl | rfl | rfl | rfl | rfl | rfl | rfl | rfl <;> simp

theorem own_v4_0 (y : BitVec 21) : ((((((240#32 ||| ((y.setWidth 32) >>> 18)) <<< 24 ||| (128#32 ||| ((y.setWidth 32) >>> 12 &&& 63#32)) <<< 16) ||| (128#32 ||| ((y.setWidth 32) >>> 6 &&& 63#32)) <<< 8) ||| 128#32) ||| ((y.setWidth 32) &&& 63#32)) >>> 24) &&& 248#32 = 240#32 := by
  apply BitVec.eq_of_getLsbD_eq
  intro i hi
  have hi' : i = 0 ∨ i = 1 ∨ i = 2 ∨ i = 3 ∨ i = 4 ∨ i = 5 ∨ i = 6 ∨ i = 7 ∨ i = 8 ∨ i = 9 ∨ i = 10 ∨ i = 11 ∨ i = 12 ∨ i = 13 ∨ i = 14 ∨ i = 15 ∨ i = 16 ∨ i = 17 ∨ i = 18 ∨ i = 19 ∨ i = 20 ∨ i = 21 ∨ i = 22 ∨ i = 23 ∨ i = 24 ∨ i = 25 ∨ i = 26 ∨ i = 27 ∨ i = 28 ∨ i = 29 ∨ i = 30 ∨ i = 31 := by omega
  rcases hi' with rfl | rfl | rfl | rfl | rfl | rfl | rfl | rfl | rfl | rfl | rfl | rfl | rfl | rfl | rfl | rfl | rfl | rfl | rfl | rfl | rfl | rfl | rfl | rfl | rfl | rfl | rfl | rfl | rfl | rfl | rfl | rfl <;> simp

theorem own_v4_1 (y : BitVec 21) : ((((((240#32 ||| ((y.setWidth 32) >>> 18)) <<< 24 ||| (128#32 ||| ((y.setWidth 32) >>> 12 &&& 63#32)) <<< 16) ||| (128#32 ||| ((y.setWidth 32) >>> 6 &&& 63#32)) <<< 8) ||| 128#32) ||| ((y.setWidth 32) &&& 63#32)) >>> 16 &&& 255#32) &&& 192#32 = 128#32 := by
  apply BitVec.eq_of_getLsbD_eq
  intro i hi
  have hi' : i = 0 ∨ i = 1 ∨ i = 2 ∨ i = 3 ∨ i = 4 ∨ i = 5 ∨ i = 6 ∨ i = 7 ∨ i = 8 ∨ i = 9 ∨ i = 10 ∨ i = 11 ∨ i = 12 ∨ i = 13 ∨ i = 14 ∨ i = 15 ∨ i = 16 ∨ i = 17 ∨ i = 18 ∨ i = 19 ∨ i = 20 ∨ i = 21 ∨ i = 22 ∨ i = 23 ∨ i = 24 ∨ i = 25 ∨ i = 26 ∨ i = 27 ∨ i = 28 ∨ i = 29 ∨ i = 30 ∨ i = 31 := by omega
  rcases hi' with rfl | rfl | rfl | rfl | rfl | rfl | rfl | rfl | rfl | rfl | rfl | rfl | rfl | rfl | rfl | rfl | rfl | rfl | rfl | rfl | rfl | rfl | rfl | rfl | rfl | rfl | rfl | rfl | rfl | rfl | rfl | rfl <;> simp

theorem own_v4_2 (y : BitVec 21) : ((((((240#32 ||| ((y.setWidth 32) >>> 18)) <<< 24 ||| (128#32 ||| ((y.setWidth 32) >>> 12 &&& 63#32)) <<< 16) ||| (128#32 ||| ((y.setWidth 32) >>> 6 &&& 63#32)) <<< 8) ||| 128#32) ||| ((y.setWidth 32) &&& 63#32)) >>> 8 &&& 255#32) &&& 192#32 = 128#32 := by
  apply BitVec.eq_of_getLsbD_eq
  intro i hi
  have hi' : i = 0 ∨ i = 1 ∨ i = 2 ∨ i = 3 ∨ i = 4 ∨ i = 5 ∨ i = 6 ∨ i = 7 ∨ i = 8 ∨ i = 9 ∨ i = 10 ∨ i = 11 ∨ i = 12 ∨ i = 13 ∨ i = 14 ∨ i = 15 ∨ i = 16 ∨ i = 17 ∨ i = 18 ∨ i = 19 ∨ i = 20 ∨ i = 21 ∨ i = 22 ∨ i = 23 ∨ i = 24 ∨ i = 25 ∨ i = 26 ∨ i = 27 ∨ i = 28 ∨ i = 29 ∨ i = 30 ∨ i = 31 := by omega
  rcases hi' with rfl | rfl | rfl | rfl | rfl | rfl | rfl | rfl | rfl | rfl | rfl | rfl | rfl | rfl | rfl | rfl | rfl | rfl | rfl | rfl | rfl | rfl | rfl | rfl | rfl | rfl | rfl | rfl | rfl | rfl | rfl | rfl <;> simp

theorem own_v4_3 (y : BitVec 21) : ((((((240#32 ||| ((y.setWidth 32) >>> 18)) <<< 24 ||| (128#32 ||| ((y.setWidth 32) >>> 12 &&& 63#32)) <<< 16) ||| (128#32 ||| ((y.setWidth 32) >>> 6 &&& 63#32)) <<< 8) ||| 128#32) ||| ((y.setWidth 32) &&& 63#32)) &&& 255#32) &&& 192#32 = 128#32 := by
  apply BitVec.eq_of_getLsbD_eq
  intro i hi
  have hi' : i = 0 ∨ i = 1 ∨ i = 2 ∨ i = 3 ∨ i = 4 ∨ i = 5 ∨ i = 6 ∨ i = 7 ∨ i = 8 ∨ i = 9 ∨ i = 10 ∨ i = 11 ∨ i = 12 ∨ i = 13 ∨ i = 14 ∨ i = 15 ∨ i = 16 ∨ i = 17 ∨ i = 18 ∨ i = 19 ∨ i = 20 ∨ i = 21 ∨ i = 22 ∨ i = 23 ∨ i = 24 ∨ i = 25 ∨ i = 26 ∨ i = 27 ∨ i = 28 ∨ i = 29 ∨ i = 30 ∨ i = 31 := by omega
  rcases hi' with rfl | rfl | rfl | rfl | rfl | rfl | rfl | rfl | rfl | rfl | rfl | rfl | rfl | rfl | rfl | rfl | rfl | rfl | rfl | rfl | rfl | rfl | rfl | rfl | rfl | rfl | rfl | rfl | rfl | rfl | rfl | rfl <;> simp

theorem own_v4_4 (y : BitVec 21) : (((((((((240#32 ||| ((y.setWidth 32) >>> 18)) <<< 24 ||| (128#32 ||| ((y.setWidth 32) >>> 12 &&& 63#32)) <<< 16) ||| (128#32 ||| ((y.setWidth 32) >>> 6 &&& 63#32)) <<< 8) ||| 128#32) ||| ((y.setWidth 32) &&& 63#32)) >>> 24) &&& 7#32) <<< 18 ||| (((((((240#32 ||| ((y.setWidth 32) >>> 18)) <<< 24 ||| (128#32 ||| ((y.setWidth 32) >>> 12 &&& 63#32)) <<< 16) ||| (128#32 ||| ((y.setWidth 32) >>> 6 &&& 63#32)) <<< 8) ||| 128#32) ||| ((y.setWidth 32) &&& 63#32)) >>> 16 &&& 255#32) &&& 63#32) <<< 12) ||| (((((((240#32 ||| ((y.setWidth 32) >>> 18)) <<< 24 ||| (128#32 ||| ((y.setWidth 32) >>> 12 &&& 63#32)) <<< 16) ||| (128#32 ||| ((y.setWidth 32) >>> 6 &&& 63#32)) <<< 8) ||| 128#32) ||| ((y.setWidth 32) &&& 63#32)) >>> 8 &&& 255#32) &&& 63#32) <<< 6) ||| (((((((240#32 ||| ((y.setWidth 32) >>> 18)) <<< 24 ||| (128#32 ||| ((y.setWidth 32) >>> 12 &&& 63#32)) <<< 16) ||| (128#32 ||| ((y.setWidth 32) >>> 6 &&& 63#32)) <<< 8) ||| 128#32) ||| ((y.setWidth 32) &&& 63#32)) &&& 255#32) &&& 63#32) = (y.setWidth 32) := by
  apply BitVec.eq_of_getLsbD_eq
  intro i hi
  have hi' : i = 0 ∨ i = 1 ∨ i = 2 ∨ i = 3 ∨ i = 4 ∨ i = 5 ∨ i = 6 ∨ i = 7 ∨ i = 8 ∨ i = 9 ∨ i = 10 ∨ i = 11 ∨ i = 12 ∨ i = 13 ∨ i = 14 ∨ i = 15 ∨ i = 16 ∨ i = 17 ∨ i = 18 ∨ i = 19 ∨ i = 20 ∨ i = 21 ∨ i = 22 ∨ i = 23 ∨ i = 24 ∨ i = 25 ∨ i = 26 ∨ i = 27 ∨ i = 28 ∨ i = 29 ∨ i = 30 ∨ i = 31 := by omega
  rcases hi' with rfl | rfl | rfl | rfl | rfl | rfl | rfl | rfl | rfl | rfl | rfl | rfl | rfl | rfl | rfl | rfl | rfl | rfl | rfl | rfl | rfl | rfl | rfl | rfl | rfl | rfl | rfl | rfl | rfl | rfl | rfl | rfl <;> simp

theorem own_eqb {x y : Int32} (h : x.toBitVec = y.toBitVec) : x = y := Int32.toBitVec_inj.mp h
theorem own_ushb (x : Int32) (k : Int32) (n : Nat) (hn : n < 32) (h : (k &&& 31).toUInt32 = UInt32.ofNat n) : (ushI x k).toBitVec = x.toBitVec >>> n := by
  unfold ushI
  rw [h]
  show (x.toUInt32 >>> UInt32.ofNat n).toBitVec = _
  rw [UInt32.toBitVec_shiftRight]
  show x.toBitVec >>> ((UInt32.ofNat n).toBitVec % 32#32) = _
  have e : ((UInt32.ofNat n).toBitVec % 32#32).toNat = n := by
    simp [BitVec.toNat_umod]
    omega
  rw [BitVec.ushiftRight_eq', e]
theorem own_shrb (x : Int32) (k : Int32) (n : Nat) (h : (k &&& 31).toBitVec.smod 32 = BitVec.ofNat 32 n) (hn : n < 32) (hx : 0 ≤ x.toInt) : (x >>> (k &&& 31)).toBitVec = x.toBitVec >>> n := by
  rw [Int32.toBitVec_shiftRight, h, BitVec.sshiftRight_eq', BitVec.toNat_ofNat, Nat.mod_eq_of_lt (by omega)]
  exact BitVec.sshiftRight_eq_of_msb_false (by rw [BitVec.msb_eq_toInt]; exact decide_eq_false (Int.not_lt.mpr hx))
theorem own_shlb (x : Int32) (k : Int32) (n : Nat) (h : (k &&& 31).toBitVec.smod 32 = BitVec.ofNat 32 n) (hn : n < 32) : (x <<< (k &&& 31)).toBitVec = x.toBitVec <<< n := by
  rw [Int32.toBitVec_shiftLeft, h, BitVec.shiftLeft_eq', BitVec.toNat_ofNat, Nat.mod_eq_of_lt (by omega)]
theorem own_small (x : Int32) (w : Nat) (hw : w < 31) (h0 : 0 ≤ x.toInt) (h1 : x.toInt < 2 ^ w) : ∃ y : BitVec w, x.toBitVec = y.setWidth 32 := by
  refine ⟨x.toBitVec.setWidth w, ?_⟩
  apply BitVec.eq_of_toNat_eq
  have hx : (x.toBitVec.toNat : Int) = x.toInt := by
    have hc := BitVec.toInt_eq_toNat_cond x.toBitVec
    have hl := x.toBitVec.isLt
    have ht : x.toBitVec.toInt = x.toInt := rfl
    rw [ht] at hc
    split at hc <;> omega
  have h2 : x.toBitVec.toNat < 2 ^ w := by
    have : ((x.toBitVec.toNat : Nat) : Int) < ((2 ^ w : Nat) : Int) := by rw [hx]; simpa using h1
    exact Int.ofNat_lt.mp this
  have h3 : 2 ^ w ≤ 2 ^ 32 := Nat.pow_le_pow_right (by decide) (by omega)
  rw [BitVec.toNat_setWidth, BitVec.toNat_setWidth, Nat.mod_eq_of_lt h2, Nat.mod_eq_of_lt (Nat.lt_of_lt_of_le h2 h3)]
theorem own_contv {x : Int32} (h : x &&& 192 = 128) : ¬ own_cont x = 0 := by rw [own_cont, if_pos h]; decide
theorem own_g2 (q : Int32) (h1 : 128 ≤ q.toInt) (h2 : q.toInt < 2048) : own_b0 (own_utf8 q) = 0 ∧ own_b1 (own_utf8 q) = 0 ∧ own_b2 (own_utf8 q) &&& 224 = 192 ∧ own_b3 (own_utf8 q) &&& 192 = 128 ∧ ((own_b2 (own_utf8 q) &&& 31) <<< ((6 : Int32) &&& 31)) ||| (own_b3 (own_utf8 q) &&& 63) = q := by
  have e : own_utf8 q = own_u2 q := by rw [own_utf8, if_neg (show ¬ q < 128 by rw [Int32.lt_iff_toInt_lt]; show ¬ _ < (128 : Int); omega), if_pos (show q < 2048 by rw [Int32.lt_iff_toInt_lt]; show _ < (2048 : Int); omega)]
  rw [e]
  have h0 : 0 ≤ q.toInt := by omega
  obtain ⟨y, hy⟩ := own_small q 11 (by decide) h0 (by omega)
  refine ⟨?_, ?_, ?_, ?_, ?_⟩
  · apply own_eqb
    simp only [own_b0, own_b1, own_b2, own_b3, own_u2, Int32.toBitVec_and, Int32.toBitVec_or, own_ushb _ 24 24 (by decide) (by decide), own_ushb _ 16 16 (by decide) (by decide), own_ushb _ 8 8 (by decide) (by decide), own_shlb _ 8 8 (by decide) (by decide), own_shlb _ 16 16 (by decide) (by decide), own_shlb _ 24 24 (by decide) (by decide), own_shlb _ 6 6 (by decide) (by decide), own_shlb _ 12 12 (by decide) (by decide), own_shlb _ 18 18 (by decide) (by decide), own_shrb _ 6 6 (by decide) (by decide) h0, own_shrb _ 12 12 (by decide) (by decide) h0, own_shrb _ 18 18 (by decide) (by decide) h0, hy]
    exact own_v2_0 y
  · apply own_eqb
    simp only [own_b0, own_b1, own_b2, own_b3, own_u2, Int32.toBitVec_and, Int32.toBitVec_or, own_ushb _ 24 24 (by decide) (by decide), own_ushb _ 16 16 (by decide) (by decide), own_ushb _ 8 8 (by decide) (by decide), own_shlb _ 8 8 (by decide) (by decide), own_shlb _ 16 16 (by decide) (by decide), own_shlb _ 24 24 (by decide) (by decide), own_shlb _ 6 6 (by decide) (by decide), own_shlb _ 12 12 (by decide) (by decide), own_shlb _ 18 18 (by decide) (by decide), own_shrb _ 6 6 (by decide) (by decide) h0, own_shrb _ 12 12 (by decide) (by decide) h0, own_shrb _ 18 18 (by decide) (by decide) h0, hy]
    exact own_v2_1 y
  · apply own_eqb
    simp only [own_b0, own_b1, own_b2, own_b3, own_u2, Int32.toBitVec_and, Int32.toBitVec_or, own_ushb _ 24 24 (by decide) (by decide), own_ushb _ 16 16 (by decide) (by decide), own_ushb _ 8 8 (by decide) (by decide), own_shlb _ 8 8 (by decide) (by decide), own_shlb _ 16 16 (by decide) (by decide), own_shlb _ 24 24 (by decide) (by decide), own_shlb _ 6 6 (by decide) (by decide), own_shlb _ 12 12 (by decide) (by decide), own_shlb _ 18 18 (by decide) (by decide), own_shrb _ 6 6 (by decide) (by decide) h0, own_shrb _ 12 12 (by decide) (by decide) h0, own_shrb _ 18 18 (by decide) (by decide) h0, hy]
    exact own_v2_2 y
  · apply own_eqb
    simp only [own_b0, own_b1, own_b2, own_b3, own_u2, Int32.toBitVec_and, Int32.toBitVec_or, own_ushb _ 24 24 (by decide) (by decide), own_ushb _ 16 16 (by decide) (by decide), own_ushb _ 8 8 (by decide) (by decide), own_shlb _ 8 8 (by decide) (by decide), own_shlb _ 16 16 (by decide) (by decide), own_shlb _ 24 24 (by decide) (by decide), own_shlb _ 6 6 (by decide) (by decide), own_shlb _ 12 12 (by decide) (by decide), own_shlb _ 18 18 (by decide) (by decide), own_shrb _ 6 6 (by decide) (by decide) h0, own_shrb _ 12 12 (by decide) (by decide) h0, own_shrb _ 18 18 (by decide) (by decide) h0, hy]
    exact own_v2_3 y
  · apply own_eqb
    simp only [own_b0, own_b1, own_b2, own_b3, own_u2, Int32.toBitVec_and, Int32.toBitVec_or, own_ushb _ 24 24 (by decide) (by decide), own_ushb _ 16 16 (by decide) (by decide), own_ushb _ 8 8 (by decide) (by decide), own_shlb _ 8 8 (by decide) (by decide), own_shlb _ 16 16 (by decide) (by decide), own_shlb _ 24 24 (by decide) (by decide), own_shlb _ 6 6 (by decide) (by decide), own_shlb _ 12 12 (by decide) (by decide), own_shlb _ 18 18 (by decide) (by decide), own_shrb _ 6 6 (by decide) (by decide) h0, own_shrb _ 12 12 (by decide) (by decide) h0, own_shrb _ 18 18 (by decide) (by decide) h0, hy]
    exact own_v2_4 y
theorem own_g3 (q : Int32) (h1 : 2048 ≤ q.toInt) (h2 : q.toInt < 65536) : own_b0 (own_utf8 q) = 0 ∧ own_b1 (own_utf8 q) &&& 240 = 224 ∧ own_b2 (own_utf8 q) &&& 192 = 128 ∧ own_b3 (own_utf8 q) &&& 192 = 128 ∧ (((own_b1 (own_utf8 q) &&& 15) <<< ((12 : Int32) &&& 31)) ||| ((own_b2 (own_utf8 q) &&& 63) <<< ((6 : Int32) &&& 31))) ||| (own_b3 (own_utf8 q) &&& 63) = q := by
  have e : own_utf8 q = own_u3 q := by rw [own_utf8, if_neg (show ¬ q < 128 by rw [Int32.lt_iff_toInt_lt]; show ¬ _ < (128 : Int); omega), if_neg (show ¬ q < 2048 by rw [Int32.lt_iff_toInt_lt]; show ¬ _ < (2048 : Int); omega), if_pos (show q < 65536 by rw [Int32.lt_iff_toInt_lt]; show _ < (65536 : Int); omega)]
  rw [e]
  have h0 : 0 ≤ q.toInt := by omega
  obtain ⟨y, hy⟩ := own_small q 16 (by decide) h0 (by omega)
  refine ⟨?_, ?_, ?_, ?_, ?_⟩
  · apply own_eqb
    simp only [own_b0, own_b1, own_b2, own_b3, own_u3, Int32.toBitVec_and, Int32.toBitVec_or, own_ushb _ 24 24 (by decide) (by decide), own_ushb _ 16 16 (by decide) (by decide), own_ushb _ 8 8 (by decide) (by decide), own_shlb _ 8 8 (by decide) (by decide), own_shlb _ 16 16 (by decide) (by decide), own_shlb _ 24 24 (by decide) (by decide), own_shlb _ 6 6 (by decide) (by decide), own_shlb _ 12 12 (by decide) (by decide), own_shlb _ 18 18 (by decide) (by decide), own_shrb _ 6 6 (by decide) (by decide) h0, own_shrb _ 12 12 (by decide) (by decide) h0, own_shrb _ 18 18 (by decide) (by decide) h0, hy]
    exact own_v3_0 y
  · apply own_eqb
    simp only [own_b0, own_b1, own_b2, own_b3, own_u3, Int32.toBitVec_and, Int32.toBitVec_or, own_ushb _ 24 24 (by decide) (by decide), own_ushb _ 16 16 (by decide) (by decide), own_ushb _ 8 8 (by decide) (by decide), own_shlb _ 8 8 (by decide) (by decide), own_shlb _ 16 16 (by decide) (by decide), own_shlb _ 24 24 (by decide) (by decide), own_shlb _ 6 6 (by decide) (by decide), own_shlb _ 12 12 (by decide) (by decide), own_shlb _ 18 18 (by decide) (by decide), own_shrb _ 6 6 (by decide) (by decide) h0, own_shrb _ 12 12 (by decide) (by decide) h0, own_shrb _ 18 18 (by decide) (by decide) h0, hy]
    exact own_v3_1 y
  · apply own_eqb
    simp only [own_b0, own_b1, own_b2, own_b3, own_u3, Int32.toBitVec_and, Int32.toBitVec_or, own_ushb _ 24 24 (by decide) (by decide), own_ushb _ 16 16 (by decide) (by decide), own_ushb _ 8 8 (by decide) (by decide), own_shlb _ 8 8 (by decide) (by decide), own_shlb _ 16 16 (by decide) (by decide), own_shlb _ 24 24 (by decide) (by decide), own_shlb _ 6 6 (by decide) (by decide), own_shlb _ 12 12 (by decide) (by decide), own_shlb _ 18 18 (by decide) (by decide), own_shrb _ 6 6 (by decide) (by decide) h0, own_shrb _ 12 12 (by decide) (by decide) h0, own_shrb _ 18 18 (by decide) (by decide) h0, hy]
    exact own_v3_2 y
  · apply own_eqb
    simp only [own_b0, own_b1, own_b2, own_b3, own_u3, Int32.toBitVec_and, Int32.toBitVec_or, own_ushb _ 24 24 (by decide) (by decide), own_ushb _ 16 16 (by decide) (by decide), own_ushb _ 8 8 (by decide) (by decide), own_shlb _ 8 8 (by decide) (by decide), own_shlb _ 16 16 (by decide) (by decide), own_shlb _ 24 24 (by decide) (by decide), own_shlb _ 6 6 (by decide) (by decide), own_shlb _ 12 12 (by decide) (by decide), own_shlb _ 18 18 (by decide) (by decide), own_shrb _ 6 6 (by decide) (by decide) h0, own_shrb _ 12 12 (by decide) (by decide) h0, own_shrb _ 18 18 (by decide) (by decide) h0, hy]
    exact own_v3_3 y
  · apply own_eqb
    simp only [own_b0, own_b1, own_b2, own_b3, own_u3, Int32.toBitVec_and, Int32.toBitVec_or, own_ushb _ 24 24 (by decide) (by decide), own_ushb _ 16 16 (by decide) (by decide), own_ushb _ 8 8 (by decide) (by decide), own_shlb _ 8 8 (by decide) (by decide), own_shlb _ 16 16 (by decide) (by decide), own_shlb _ 24 24 (by decide) (by decide), own_shlb _ 6 6 (by decide) (by decide), own_shlb _ 12 12 (by decide) (by decide), own_shlb _ 18 18 (by decide) (by decide), own_shrb _ 6 6 (by decide) (by decide) h0, own_shrb _ 12 12 (by decide) (by decide) h0, own_shrb _ 18 18 (by decide) (by decide) h0, hy]
    exact own_v3_4 y
theorem own_g4 (q : Int32) (h1 : 65536 ≤ q.toInt) (h2 : q.toInt < 1114112) : own_b0 (own_utf8 q) &&& 248 = 240 ∧ own_b1 (own_utf8 q) &&& 192 = 128 ∧ own_b2 (own_utf8 q) &&& 192 = 128 ∧ own_b3 (own_utf8 q) &&& 192 = 128 ∧ ((((own_b0 (own_utf8 q) &&& 7) <<< ((18 : Int32) &&& 31)) ||| ((own_b1 (own_utf8 q) &&& 63) <<< ((12 : Int32) &&& 31))) ||| ((own_b2 (own_utf8 q) &&& 63) <<< ((6 : Int32) &&& 31))) ||| (own_b3 (own_utf8 q) &&& 63) = q := by
  have e : own_utf8 q = own_u4 q := by rw [own_utf8, if_neg (show ¬ q < 128 by rw [Int32.lt_iff_toInt_lt]; show ¬ _ < (128 : Int); omega), if_neg (show ¬ q < 2048 by rw [Int32.lt_iff_toInt_lt]; show ¬ _ < (2048 : Int); omega), if_neg (show ¬ q < 65536 by rw [Int32.lt_iff_toInt_lt]; show ¬ _ < (65536 : Int); omega)]
  rw [e]
  have h0 : 0 ≤ q.toInt := by omega
  obtain ⟨y, hy⟩ := own_small q 21 (by decide) h0 (by omega)
  refine ⟨?_, ?_, ?_, ?_, ?_⟩
  · apply own_eqb
    simp only [own_b0, own_b1, own_b2, own_b3, own_u4, Int32.toBitVec_and, Int32.toBitVec_or, own_ushb _ 24 24 (by decide) (by decide), own_ushb _ 16 16 (by decide) (by decide), own_ushb _ 8 8 (by decide) (by decide), own_shlb _ 8 8 (by decide) (by decide), own_shlb _ 16 16 (by decide) (by decide), own_shlb _ 24 24 (by decide) (by decide), own_shlb _ 6 6 (by decide) (by decide), own_shlb _ 12 12 (by decide) (by decide), own_shlb _ 18 18 (by decide) (by decide), own_shrb _ 6 6 (by decide) (by decide) h0, own_shrb _ 12 12 (by decide) (by decide) h0, own_shrb _ 18 18 (by decide) (by decide) h0, hy]
    exact own_v4_0 y
  · apply own_eqb
    simp only [own_b0, own_b1, own_b2, own_b3, own_u4, Int32.toBitVec_and, Int32.toBitVec_or, own_ushb _ 24 24 (by decide) (by decide), own_ushb _ 16 16 (by decide) (by decide), own_ushb _ 8 8 (by decide) (by decide), own_shlb _ 8 8 (by decide) (by decide), own_shlb _ 16 16 (by decide) (by decide), own_shlb _ 24 24 (by decide) (by decide), own_shlb _ 6 6 (by decide) (by decide), own_shlb _ 12 12 (by decide) (by decide), own_shlb _ 18 18 (by decide) (by decide), own_shrb _ 6 6 (by decide) (by decide) h0, own_shrb _ 12 12 (by decide) (by decide) h0, own_shrb _ 18 18 (by decide) (by decide) h0, hy]
    exact own_v4_1 y
  · apply own_eqb
    simp only [own_b0, own_b1, own_b2, own_b3, own_u4, Int32.toBitVec_and, Int32.toBitVec_or, own_ushb _ 24 24 (by decide) (by decide), own_ushb _ 16 16 (by decide) (by decide), own_ushb _ 8 8 (by decide) (by decide), own_shlb _ 8 8 (by decide) (by decide), own_shlb _ 16 16 (by decide) (by decide), own_shlb _ 24 24 (by decide) (by decide), own_shlb _ 6 6 (by decide) (by decide), own_shlb _ 12 12 (by decide) (by decide), own_shlb _ 18 18 (by decide) (by decide), own_shrb _ 6 6 (by decide) (by decide) h0, own_shrb _ 12 12 (by decide) (by decide) h0, own_shrb _ 18 18 (by decide) (by decide) h0, hy]
    exact own_v4_2 y
  · apply own_eqb
    simp only [own_b0, own_b1, own_b2, own_b3, own_u4, Int32.toBitVec_and, Int32.toBitVec_or, own_ushb _ 24 24 (by decide) (by decide), own_ushb _ 16 16 (by decide) (by decide), own_ushb _ 8 8 (by decide) (by decide), own_shlb _ 8 8 (by decide) (by decide), own_shlb _ 16 16 (by decide) (by decide), own_shlb _ 24 24 (by decide) (by decide), own_shlb _ 6 6 (by decide) (by decide), own_shlb _ 12 12 (by decide) (by decide), own_shlb _ 18 18 (by decide) (by decide), own_shrb _ 6 6 (by decide) (by decide) h0, own_shrb _ 12 12 (by decide) (by decide) h0, own_shrb _ 18 18 (by decide) (by decide) h0, hy]
    exact own_v4_3 y
  · apply own_eqb
    simp only [own_b0, own_b1, own_b2, own_b3, own_u4, Int32.toBitVec_and, Int32.toBitVec_or, own_ushb _ 24 24 (by decide) (by decide), own_ushb _ 16 16 (by decide) (by decide), own_ushb _ 8 8 (by decide) (by decide), own_shlb _ 8 8 (by decide) (by decide), own_shlb _ 16 16 (by decide) (by decide), own_shlb _ 24 24 (by decide) (by decide), own_shlb _ 6 6 (by decide) (by decide), own_shlb _ 12 12 (by decide) (by decide), own_shlb _ 18 18 (by decide) (by decide), own_shrb _ 6 6 (by decide) (by decide) h0, own_shrb _ 12 12 (by decide) (by decide) h0, own_shrb _ 18 18 (by decide) (by decide) h0, hy]
    exact own_v4_4 y
theorem own_m31 (x : Int32) : 0 ≤ (x &&& 2147483647).toInt := by
  have h : (x &&& 2147483647).toInt = x.toInt % 2 ^ 31 := Jvm.Kit.i32_mask x 2147483647 (k := 31) (by decide) (by decide)
  omega
theorem own_p0 (x : Int32) : 0 ≤ ((x &&& 2147483647) &&& 127).toInt ∧ ((x &&& 2147483647) &&& 127).toInt < 128 := by
  have h : ((x &&& 2147483647) &&& 127).toInt = (x &&& 2147483647).toInt % 2 ^ 7 := Jvm.Kit.i32_mask _ 127 (k := 7) (by decide) (by decide)
  omega
theorem own_pk (x a n : Int32) (ha : 0 ≤ a.toInt) (hn : 0 < n.toInt) (hs : a.toInt + n.toInt < 2 ^ 31) : a.toInt ≤ (a + (x &&& 2147483647) % n).toInt ∧ (a + (x &&& 2147483647) % n).toInt < a.toInt + n.toInt := by
  have h2 : ((x &&& 2147483647) % n).toInt = (x &&& 2147483647).toInt % n.toInt := Jvm.Kit.i32_rem_nonneg (own_m31 x)
  have h3 := Int.emod_nonneg (x &&& 2147483647).toInt (show n.toInt ≠ 0 by omega)
  have h4 := Int.emod_lt_of_pos (x &&& 2147483647).toInt hn
  rw [Jvm.Kit.i32_add (by omega) (by omega)]
  omega
theorem d1_0 : decode prog_147_method_14_code 0 = .ok (.iload_n 0, 1) := by decide +kernel
theorem d1_1 : decode prog_147_method_14_code 1 = .ok (.sipush 128, 3) := by decide +kernel
theorem d1_4 : decode prog_147_method_14_code 4 = .ok (.if_icmp .ge 8, 3) := by decide +kernel
theorem d1_7 : decode prog_147_method_14_code 7 = .ok (.iload_n 0, 1) := by decide +kernel
theorem d1_8 : decode prog_147_method_14_code 8 = .ok (.istore_n 1, 1) := by decide +kernel
theorem d1_9 : decode prog_147_method_14_code 9 = .ok (.goto 130, 3) := by decide +kernel
theorem d1_12 : decode prog_147_method_14_code 12 = .ok (.iload_n 0, 1) := by decide +kernel
theorem d1_13 : decode prog_147_method_14_code 13 = .ok (.sipush 2048, 3) := by decide +kernel
theorem d1_16 : decode prog_147_method_14_code 16 = .ok (.if_icmp .ge 27, 3) := by decide +kernel
theorem d1_19 : decode prog_147_method_14_code 19 = .ok (.sipush 192, 3) := by decide +kernel
theorem d1_22 : decode prog_147_method_14_code 22 = .ok (.iload_n 0, 1) := by decide +kernel
theorem d1_23 : decode prog_147_method_14_code 23 = .ok (.bipush 6, 2) := by decide +kernel
theorem d1_25 : decode prog_147_method_14_code 25 = .ok (.ishr, 1) := by decide +kernel
theorem d1_26 : decode prog_147_method_14_code 26 = .ok (.ior, 1) := by decide +kernel
theorem d1_27 : decode prog_147_method_14_code 27 = .ok (.bipush 8, 2) := by decide +kernel
theorem d1_29 : decode prog_147_method_14_code 29 = .ok (.ishl, 1) := by decide +kernel
theorem d1_30 : decode prog_147_method_14_code 30 = .ok (.sipush 128, 3) := by decide +kernel
theorem d1_33 : decode prog_147_method_14_code 33 = .ok (.ior, 1) := by decide +kernel
theorem d1_34 : decode prog_147_method_14_code 34 = .ok (.iload_n 0, 1) := by decide +kernel
theorem d1_35 : decode prog_147_method_14_code 35 = .ok (.bipush 63, 2) := by decide +kernel
theorem d1_37 : decode prog_147_method_14_code 37 = .ok (.iand, 1) := by decide +kernel
theorem d1_38 : decode prog_147_method_14_code 38 = .ok (.ior, 1) := by decide +kernel
theorem d1_39 : decode prog_147_method_14_code 39 = .ok (.istore_n 1, 1) := by decide +kernel
theorem d1_40 : decode prog_147_method_14_code 40 = .ok (.goto 99, 3) := by decide +kernel
theorem d1_43 : decode prog_147_method_14_code 43 = .ok (.iload_n 0, 1) := by decide +kernel
theorem d1_44 : decode prog_147_method_14_code 44 = .ok (.ldc 140, 2) := by decide +kernel
theorem d1_46 : decode prog_147_method_14_code 46 = .ok (.if_icmp .ge 42, 3) := by decide +kernel
theorem d1_49 : decode prog_147_method_14_code 49 = .ok (.sipush 224, 3) := by decide +kernel
theorem d1_52 : decode prog_147_method_14_code 52 = .ok (.iload_n 0, 1) := by decide +kernel
theorem d1_53 : decode prog_147_method_14_code 53 = .ok (.bipush 12, 2) := by decide +kernel
theorem d1_55 : decode prog_147_method_14_code 55 = .ok (.ishr, 1) := by decide +kernel
theorem d1_56 : decode prog_147_method_14_code 56 = .ok (.ior, 1) := by decide +kernel
theorem d1_57 : decode prog_147_method_14_code 57 = .ok (.bipush 16, 2) := by decide +kernel
theorem d1_59 : decode prog_147_method_14_code 59 = .ok (.ishl, 1) := by decide +kernel
theorem d1_60 : decode prog_147_method_14_code 60 = .ok (.sipush 128, 3) := by decide +kernel
theorem d1_63 : decode prog_147_method_14_code 63 = .ok (.iload_n 0, 1) := by decide +kernel
theorem d1_64 : decode prog_147_method_14_code 64 = .ok (.bipush 6, 2) := by decide +kernel
theorem d1_66 : decode prog_147_method_14_code 66 = .ok (.ishr, 1) := by decide +kernel
theorem d1_67 : decode prog_147_method_14_code 67 = .ok (.bipush 63, 2) := by decide +kernel
theorem d1_69 : decode prog_147_method_14_code 69 = .ok (.iand, 1) := by decide +kernel
theorem d1_70 : decode prog_147_method_14_code 70 = .ok (.ior, 1) := by decide +kernel
theorem d1_71 : decode prog_147_method_14_code 71 = .ok (.bipush 8, 2) := by decide +kernel
theorem d1_73 : decode prog_147_method_14_code 73 = .ok (.ishl, 1) := by decide +kernel
theorem d1_74 : decode prog_147_method_14_code 74 = .ok (.ior, 1) := by decide +kernel
theorem d1_75 : decode prog_147_method_14_code 75 = .ok (.sipush 128, 3) := by decide +kernel
theorem d1_78 : decode prog_147_method_14_code 78 = .ok (.ior, 1) := by decide +kernel
theorem d1_79 : decode prog_147_method_14_code 79 = .ok (.iload_n 0, 1) := by decide +kernel
theorem d1_80 : decode prog_147_method_14_code 80 = .ok (.bipush 63, 2) := by decide +kernel
theorem d1_82 : decode prog_147_method_14_code 82 = .ok (.iand, 1) := by decide +kernel
theorem d1_83 : decode prog_147_method_14_code 83 = .ok (.ior, 1) := by decide +kernel
theorem d1_84 : decode prog_147_method_14_code 84 = .ok (.istore_n 1, 1) := by decide +kernel
theorem d1_85 : decode prog_147_method_14_code 85 = .ok (.goto 54, 3) := by decide +kernel
theorem d1_88 : decode prog_147_method_14_code 88 = .ok (.sipush 240, 3) := by decide +kernel
theorem d1_91 : decode prog_147_method_14_code 91 = .ok (.iload_n 0, 1) := by decide +kernel
theorem d1_92 : decode prog_147_method_14_code 92 = .ok (.bipush 18, 2) := by decide +kernel
theorem d1_94 : decode prog_147_method_14_code 94 = .ok (.ishr, 1) := by decide +kernel
theorem d1_95 : decode prog_147_method_14_code 95 = .ok (.ior, 1) := by decide +kernel
theorem d1_96 : decode prog_147_method_14_code 96 = .ok (.bipush 24, 2) := by decide +kernel
theorem d1_98 : decode prog_147_method_14_code 98 = .ok (.ishl, 1) := by decide +kernel
theorem d1_99 : decode prog_147_method_14_code 99 = .ok (.sipush 128, 3) := by decide +kernel
theorem d1_102 : decode prog_147_method_14_code 102 = .ok (.iload_n 0, 1) := by decide +kernel
theorem d1_103 : decode prog_147_method_14_code 103 = .ok (.bipush 12, 2) := by decide +kernel
theorem d1_105 : decode prog_147_method_14_code 105 = .ok (.ishr, 1) := by decide +kernel
theorem d1_106 : decode prog_147_method_14_code 106 = .ok (.bipush 63, 2) := by decide +kernel
theorem d1_108 : decode prog_147_method_14_code 108 = .ok (.iand, 1) := by decide +kernel
theorem d1_109 : decode prog_147_method_14_code 109 = .ok (.ior, 1) := by decide +kernel
theorem d1_110 : decode prog_147_method_14_code 110 = .ok (.bipush 16, 2) := by decide +kernel
theorem d1_112 : decode prog_147_method_14_code 112 = .ok (.ishl, 1) := by decide +kernel
theorem d1_113 : decode prog_147_method_14_code 113 = .ok (.ior, 1) := by decide +kernel
theorem d1_114 : decode prog_147_method_14_code 114 = .ok (.sipush 128, 3) := by decide +kernel
theorem d1_117 : decode prog_147_method_14_code 117 = .ok (.iload_n 0, 1) := by decide +kernel
theorem d1_118 : decode prog_147_method_14_code 118 = .ok (.bipush 6, 2) := by decide +kernel
theorem d1_120 : decode prog_147_method_14_code 120 = .ok (.ishr, 1) := by decide +kernel
theorem d1_121 : decode prog_147_method_14_code 121 = .ok (.bipush 63, 2) := by decide +kernel
theorem d1_123 : decode prog_147_method_14_code 123 = .ok (.iand, 1) := by decide +kernel
theorem d1_124 : decode prog_147_method_14_code 124 = .ok (.ior, 1) := by decide +kernel
theorem d1_125 : decode prog_147_method_14_code 125 = .ok (.bipush 8, 2) := by decide +kernel
theorem d1_127 : decode prog_147_method_14_code 127 = .ok (.ishl, 1) := by decide +kernel
theorem d1_128 : decode prog_147_method_14_code 128 = .ok (.ior, 1) := by decide +kernel
theorem d1_129 : decode prog_147_method_14_code 129 = .ok (.sipush 128, 3) := by decide +kernel
theorem d1_132 : decode prog_147_method_14_code 132 = .ok (.ior, 1) := by decide +kernel
theorem d1_133 : decode prog_147_method_14_code 133 = .ok (.iload_n 0, 1) := by decide +kernel
theorem d1_134 : decode prog_147_method_14_code 134 = .ok (.bipush 63, 2) := by decide +kernel
theorem d1_136 : decode prog_147_method_14_code 136 = .ok (.iand, 1) := by decide +kernel
theorem d1_137 : decode prog_147_method_14_code 137 = .ok (.ior, 1) := by decide +kernel
theorem d1_138 : decode prog_147_method_14_code 138 = .ok (.istore_n 1, 1) := by decide +kernel
theorem d1_139 : decode prog_147_method_14_code 139 = .ok (.iload_n 1, 1) := by decide +kernel
theorem d1_140 : decode prog_147_method_14_code 140 = .ok (.ireturn, 1) := by decide +kernel
theorem pn_1 : plainName "com/example/stavetree/stavetree/Utf8Stores$Utf8Key" = true := by first | (simp [plainName, overriddenIn]; done) | decide +kernel
theorem ef_rm1 (m : MethodId) (x0 : Int32) : entryFrame m #[(.int x0)] 2 = mkF m 0 #[.val (.int x0), .unset] [] := by first | (simp [entryFrame, mkF, argsToLocals, Value.category]; done) | rfl
def Q1 (Z : State) (p1 : Int32) (h0 : Heap) (n0 : Nat) (v : Option Value) (h : Heap) (L : List Loc) : Prop := v = some (.int (own_utf8 p1)) ∧ Fr n0 L ∧ h = h0
set_option maxRecDepth 65536 in
set_option maxHeartbeats 40000000 in
theorem rm1 (l : Launch) (Z : State) (a0 : Array Value) (hw : ∀ d ∈ tables_1, d.before a0 Z = true) (ws : List Jvm.Cond) (p1 : Int32) (h0 : Heap) (n0 : Nat) (Z0 : n0 ≤ h0.size) :
    MetFree l (⟨"com/example/stavetree/stavetree/Utf8Stores$Utf8Key", "utf8", "(I)I"⟩ : MethodName) (head1 (Jvm.Cond.code (⟨"com/example/stavetree/stavetree/Utf8Stores$Utf8Key", "utf8", "(I)I"⟩ : MethodName) prog_147_method_14_code 2 (some .int) :: ws) ({ frames := 0, cells := 0, slots := 0, locals := 0 } : Room)) (fun a U => a = #[(.int p1)] ∧ Z.Warmed39 U.vm ∧ U.heap = h0) (fun _ _ _ _ _ => True) (fun _ U o U' => ∃ v L, o = .returned v ∧ Q1 Z p1 h0 n0 v U'.heap L ∧ FrameEnd U o U' L ({ frames := 0, cells := 0, slots := 0, locals := 0 } : Room).cells ({ frames := 0, cells := 0, slots := 0, locals := 0 } : Room).slots) := by
  refine MetFree.of_bodySF (plainFor_of_name pn_1) hisR ?_
  intro p e s m args below meth c s₁ Bd hml0 hP hK
  obtain ⟨rfl, hZ, hh⟩ := hP
  have hx := Bd.exec
  have hby := Bd.bytes
  have hlk := BodyLoose.notSynchronized Bd
  have hret := Bd.returns
  have hml : c.maxLocals = 2 := hml0
  have hown : s.vm.findClass "com/example/stavetree/stavetree/Utf8Stores$Utf8Key" = some m.cls := findClass_of_methodNamed Bd.named
  have hnm := (name_of_methodNamed Bd.named Bd.method).1
  have X0 : Stand p l e ({ frames := 0, cells := 0, slots := 0, locals := 0 } : Room) s m #[(.int p1)] below meth c s₁ [] 0 0 := Stand.of_body Bd
  have e0 : s₁.heap = h0 := by rw [← hh, Bd.state]; rfl
  have N0 := Fr.nil n0
  have K0 : Keep h0 h0 [] := Keep.refl h0 _
  refine Fin.step (Q := fun v h L => Q1 Z p1 h0 n0 v h L) (st' := s₁.setTop (mkF m 0 #[.val (.int p1), .unset] [])) (fun t k => castTop (ef_rm1 m p1) k) ?_
  show Fin p e below s _ _ _ (s₁.setTop (mkF m 0 #[.val (.int p1), .unset] []))
  refine Fin.step (fun _ => XS.iloadN X0.here hx rfl (hb hby d1_0) rfl) ?_
  show Fin p e below s _ _ _ (s₁.setTop (mkF m 1 #[.val (.int p1), .unset] [(.int p1)]))
  refine Fin.step (fun _ => XS.sipush X0.here hx rfl (hb hby d1_1)) ?_
  show Fin p e below s _ _ _ (s₁.setTop (mkF m 4 #[.val (.int p1), .unset] [(.int (128 : Int32)), (.int p1)]))
  by_cases hcy1 : p1 < (128 : Int32)
  · refine Fin.step (fun _ => XS.icmpNo X0.here hx rfl (hb hby d1_4) rfl (tlt (hcy1 : (p1 < (128 : Int32)))).2.1) ?_
    show Fin p e below s _ _ _ (s₁.setTop (mkF m 7 #[.val (.int p1), .unset] []))
    refine Fin.step (fun _ => XS.iloadN X0.here hx rfl (hb hby d1_7) rfl) ?_
    show Fin p e below s _ _ _ (s₁.setTop (mkF m 8 #[.val (.int p1), .unset] [(.int p1)]))
    refine Fin.step (fun _ => XS.istoreN X0.here hx rfl (hb hby d1_8) rfl (l' := #[.val (.int p1), .val (.int p1)]) rfl) ?_
    show Fin p e below s _ _ _ (s₁.setTop (mkF m 9 #[.val (.int p1), .val (.int p1)] []))
    refine Fin.step (fun _ => XS.goto X0.here hx rfl (pc0 := 9) (pc' := 139) rfl (hb hby d1_9) (by decide) (by decide)) ?_
    show Fin p e below s _ _ _ (s₁.setTop (mkF m 139 #[.val (.int p1), .val (.int p1)] []))
    refine Fin.step (fun _ => XS.iloadN X0.here hx rfl (hb hby d1_139) rfl) ?_
    show Fin p e below s _ _ _ (s₁.setTop (mkF m 140 #[.val (.int p1), .val (.int p1)] [(.int p1)]))
    refine Fin.retI X0 hx hret hlk (hb hby d1_140) (by decide) (by decide) ?_
    show Q1 Z p1 h0 n0 _ s₁.heap _
    rw [e0]
    exact ⟨(congrArg (fun z => some (Value.int z)) (by rw [own_utf8, if_pos hcy1]; first | done | rfl)), N0, rfl⟩
  · refine Fin.step (fun _ => XS.icmpYes X0.here hx rfl (pc0 := 4) (pc' := 12) rfl (hb hby d1_4) rfl (flt (hcy1 : ¬ (p1 < (128 : Int32)))).2.1 (by decide) (by decide)) ?_
    show Fin p e below s _ _ _ (s₁.setTop (mkF m 12 #[.val (.int p1), .unset] []))
    refine Fin.step (fun _ => XS.iloadN X0.here hx rfl (hb hby d1_12) rfl) ?_
    show Fin p e below s _ _ _ (s₁.setTop (mkF m 13 #[.val (.int p1), .unset] [(.int p1)]))
    refine Fin.step (fun _ => XS.sipush X0.here hx rfl (hb hby d1_13)) ?_
    show Fin p e below s _ _ _ (s₁.setTop (mkF m 16 #[.val (.int p1), .unset] [(.int (2048 : Int32)), (.int p1)]))
    by_cases hcy2 : p1 < (2048 : Int32)
    · refine Fin.step (fun _ => XS.icmpNo X0.here hx rfl (hb hby d1_16) rfl (tlt (hcy2 : (p1 < (2048 : Int32)))).2.1) ?_
      show Fin p e below s _ _ _ (s₁.setTop (mkF m 19 #[.val (.int p1), .unset] []))
      refine Fin.step (fun _ => XS.sipush X0.here hx rfl (hb hby d1_19)) ?_
      show Fin p e below s _ _ _ (s₁.setTop (mkF m 22 #[.val (.int p1), .unset] [(.int (192 : Int32))]))
      refine Fin.step (fun _ => XS.iloadN X0.here hx rfl (hb hby d1_22) rfl) ?_
      show Fin p e below s _ _ _ (s₁.setTop (mkF m 23 #[.val (.int p1), .unset] [(.int p1), (.int (192 : Int32))]))
      refine Fin.step (fun _ => XS.bipush X0.here hx rfl (hb hby d1_23)) ?_
      show Fin p e below s _ _ _ (s₁.setTop (mkF m 25 #[.val (.int p1), .unset] [(.int (6 : Int32)), (.int p1), (.int (192 : Int32))]))
      refine Fin.step (fun _ => XS.ishr X0.here hx rfl (hb hby d1_25) rfl) ?_
      show Fin p e below s _ _ _ (s₁.setTop (mkF m 26 #[.val (.int p1), .unset] [(.int (p1 >>> ((6 : Int32) &&& 31))), (.int (192 : Int32))]))
      refine Fin.step (fun _ => XS.ior X0.here hx rfl (hb hby d1_26) rfl) ?_
      show Fin p e below s _ _ _ (s₁.setTop (mkF m 27 #[.val (.int p1), .unset] [(.int ((192 : Int32) ||| (p1 >>> ((6 : Int32) &&& 31))))]))
      refine Fin.step (fun _ => XS.bipush X0.here hx rfl (hb hby d1_27)) ?_
      show Fin p e below s _ _ _ (s₁.setTop (mkF m 29 #[.val (.int p1), .unset] [(.int (8 : Int32)), (.int ((192 : Int32) ||| (p1 >>> ((6 : Int32) &&& 31))))]))
      refine Fin.step (fun _ => XS.ishl X0.here hx rfl (hb hby d1_29) rfl) ?_
      show Fin p e below s _ _ _ (s₁.setTop (mkF m 30 #[.val (.int p1), .unset] [(.int (((192 : Int32) ||| (p1 >>> ((6 : Int32) &&& 31))) <<< ((8 : Int32) &&& 31)))]))
      refine Fin.step (fun _ => XS.sipush X0.here hx rfl (hb hby d1_30)) ?_
      show Fin p e below s _ _ _ (s₁.setTop (mkF m 33 #[.val (.int p1), .unset] [(.int (128 : Int32)), (.int (((192 : Int32) ||| (p1 >>> ((6 : Int32) &&& 31))) <<< ((8 : Int32) &&& 31)))]))
      refine Fin.step (fun _ => XS.ior X0.here hx rfl (hb hby d1_33) rfl) ?_
      show Fin p e below s _ _ _ (s₁.setTop (mkF m 34 #[.val (.int p1), .unset] [(.int ((((192 : Int32) ||| (p1 >>> ((6 : Int32) &&& 31))) <<< ((8 : Int32) &&& 31)) ||| (128 : Int32)))]))
      refine Fin.step (fun _ => XS.iloadN X0.here hx rfl (hb hby d1_34) rfl) ?_
      show Fin p e below s _ _ _ (s₁.setTop (mkF m 35 #[.val (.int p1), .unset] [(.int p1), (.int ((((192 : Int32) ||| (p1 >>> ((6 : Int32) &&& 31))) <<< ((8 : Int32) &&& 31)) ||| (128 : Int32)))]))
      refine Fin.step (fun _ => XS.bipush X0.here hx rfl (hb hby d1_35)) ?_
      show Fin p e below s _ _ _ (s₁.setTop (mkF m 37 #[.val (.int p1), .unset] [(.int (63 : Int32)), (.int p1), (.int ((((192 : Int32) ||| (p1 >>> ((6 : Int32) &&& 31))) <<< ((8 : Int32) &&& 31)) ||| (128 : Int32)))]))
      refine Fin.step (fun _ => XS.iand X0.here hx rfl (hb hby d1_37) rfl) ?_
      show Fin p e below s _ _ _ (s₁.setTop (mkF m 38 #[.val (.int p1), .unset] [(.int (p1 &&& (63 : Int32))), (.int ((((192 : Int32) ||| (p1 >>> ((6 : Int32) &&& 31))) <<< ((8 : Int32) &&& 31)) ||| (128 : Int32)))]))
      refine Fin.step (fun _ => XS.ior X0.here hx rfl (hb hby d1_38) rfl) ?_
      show Fin p e below s _ _ _ (s₁.setTop (mkF m 39 #[.val (.int p1), .unset] [(.int (((((192 : Int32) ||| (p1 >>> ((6 : Int32) &&& 31))) <<< ((8 : Int32) &&& 31)) ||| (128 : Int32)) ||| (p1 &&& (63 : Int32))))]))
      refine Fin.step (fun _ => XS.istoreN X0.here hx rfl (hb hby d1_39) rfl (l' := #[.val (.int p1), .val (.int (((((192 : Int32) ||| (p1 >>> ((6 : Int32) &&& 31))) <<< ((8 : Int32) &&& 31)) ||| (128 : Int32)) ||| (p1 &&& (63 : Int32))))]) rfl) ?_
      show Fin p e below s _ _ _ (s₁.setTop (mkF m 40 #[.val (.int p1), .val (.int (((((192 : Int32) ||| (p1 >>> ((6 : Int32) &&& 31))) <<< ((8 : Int32) &&& 31)) ||| (128 : Int32)) ||| (p1 &&& (63 : Int32))))] []))
      refine Fin.step (fun _ => XS.goto X0.here hx rfl (pc0 := 40) (pc' := 139) rfl (hb hby d1_40) (by decide) (by decide)) ?_
      show Fin p e below s _ _ _ (s₁.setTop (mkF m 139 #[.val (.int p1), .val (.int (((((192 : Int32) ||| (p1 >>> ((6 : Int32) &&& 31))) <<< ((8 : Int32) &&& 31)) ||| (128 : Int32)) ||| (p1 &&& (63 : Int32))))] []))
      refine Fin.step (fun _ => XS.iloadN X0.here hx rfl (hb hby d1_139) rfl) ?_
      show Fin p e below s _ _ _ (s₁.setTop (mkF m 140 #[.val (.int p1), .val (.int (((((192 : Int32) ||| (p1 >>> ((6 : Int32) &&& 31))) <<< ((8 : Int32) &&& 31)) ||| (128 : Int32)) ||| (p1 &&& (63 : Int32))))] [(.int (((((192 : Int32) ||| (p1 >>> ((6 : Int32) &&& 31))) <<< ((8 : Int32) &&& 31)) ||| (128 : Int32)) ||| (p1 &&& (63 : Int32))))]))
      refine Fin.retI X0 hx hret hlk (hb hby d1_140) (by decide) (by decide) ?_
      show Q1 Z p1 h0 n0 _ s₁.heap _
      rw [e0]
      exact ⟨(congrArg (fun z => some (Value.int z)) (by rw [own_utf8, if_neg hcy1, if_pos hcy2]; first | done | rfl)), N0, rfl⟩
    · refine Fin.step (fun _ => XS.icmpYes X0.here hx rfl (pc0 := 16) (pc' := 43) rfl (hb hby d1_16) rfl (flt (hcy2 : ¬ (p1 < (2048 : Int32)))).2.1 (by decide) (by decide)) ?_
      show Fin p e below s _ _ _ (s₁.setTop (mkF m 43 #[.val (.int p1), .unset] []))
      refine Fin.step (fun _ => XS.iloadN X0.here hx rfl (hb hby d1_43) rfl) ?_
      show Fin p e below s _ _ _ (s₁.setTop (mkF m 44 #[.val (.int p1), .unset] [(.int p1)]))
      refine Fin.step (X0.ldcInt hx hown (mvT hZ (hw _ (List.mem_of_getElem? (i := 6) rfl))) (g := (mkF m 44 #[.val (.int p1), .unset] [(.int p1)])) rfl (hb hby d1_44)) ?_
      show Fin p e below s _ _ _ (s₁.setTop (mkF m 46 #[.val (.int p1), .unset] [(.int (65536 : Int32)), (.int p1)]))
      by_cases hcy3 : p1 < (65536 : Int32)
      · refine Fin.step (fun _ => XS.icmpNo X0.here hx rfl (hb hby d1_46) rfl (tlt (hcy3 : (p1 < (65536 : Int32)))).2.1) ?_
        show Fin p e below s _ _ _ (s₁.setTop (mkF m 49 #[.val (.int p1), .unset] []))
        refine Fin.step (fun _ => XS.sipush X0.here hx rfl (hb hby d1_49)) ?_
        show Fin p e below s _ _ _ (s₁.setTop (mkF m 52 #[.val (.int p1), .unset] [(.int (224 : Int32))]))
        refine Fin.step (fun _ => XS.iloadN X0.here hx rfl (hb hby d1_52) rfl) ?_
        show Fin p e below s _ _ _ (s₁.setTop (mkF m 53 #[.val (.int p1), .unset] [(.int p1), (.int (224 : Int32))]))
        refine Fin.step (fun _ => XS.bipush X0.here hx rfl (hb hby d1_53)) ?_
        show Fin p e below s _ _ _ (s₁.setTop (mkF m 55 #[.val (.int p1), .unset] [(.int (12 : Int32)), (.int p1), (.int (224 : Int32))]))
        refine Fin.step (fun _ => XS.ishr X0.here hx rfl (hb hby d1_55) rfl) ?_
        show Fin p e below s _ _ _ (s₁.setTop (mkF m 56 #[.val (.int p1), .unset] [(.int (p1 >>> ((12 : Int32) &&& 31))), (.int (224 : Int32))]))
        refine Fin.step (fun _ => XS.ior X0.here hx rfl (hb hby d1_56) rfl) ?_
        show Fin p e below s _ _ _ (s₁.setTop (mkF m 57 #[.val (.int p1), .unset] [(.int ((224 : Int32) ||| (p1 >>> ((12 : Int32) &&& 31))))]))
        refine Fin.step (fun _ => XS.bipush X0.here hx rfl (hb hby d1_57)) ?_
        show Fin p e below s _ _ _ (s₁.setTop (mkF m 59 #[.val (.int p1), .unset] [(.int (16 : Int32)), (.int ((224 : Int32) ||| (p1 >>> ((12 : Int32) &&& 31))))]))
        refine Fin.step (fun _ => XS.ishl X0.here hx rfl (hb hby d1_59) rfl) ?_
        show Fin p e below s _ _ _ (s₁.setTop (mkF m 60 #[.val (.int p1), .unset] [(.int (((224 : Int32) ||| (p1 >>> ((12 : Int32) &&& 31))) <<< ((16 : Int32) &&& 31)))]))
        refine Fin.step (fun _ => XS.sipush X0.here hx rfl (hb hby d1_60)) ?_
        show Fin p e below s _ _ _ (s₁.setTop (mkF m 63 #[.val (.int p1), .unset] [(.int (128 : Int32)), (.int (((224 : Int32) ||| (p1 >>> ((12 : Int32) &&& 31))) <<< ((16 : Int32) &&& 31)))]))
        refine Fin.step (fun _ => XS.iloadN X0.here hx rfl (hb hby d1_63) rfl) ?_
        show Fin p e below s _ _ _ (s₁.setTop (mkF m 64 #[.val (.int p1), .unset] [(.int p1), (.int (128 : Int32)), (.int (((224 : Int32) ||| (p1 >>> ((12 : Int32) &&& 31))) <<< ((16 : Int32) &&& 31)))]))
        refine Fin.step (fun _ => XS.bipush X0.here hx rfl (hb hby d1_64)) ?_
        show Fin p e below s _ _ _ (s₁.setTop (mkF m 66 #[.val (.int p1), .unset] [(.int (6 : Int32)), (.int p1), (.int (128 : Int32)), (.int (((224 : Int32) ||| (p1 >>> ((12 : Int32) &&& 31))) <<< ((16 : Int32) &&& 31)))]))
        refine Fin.step (fun _ => XS.ishr X0.here hx rfl (hb hby d1_66) rfl) ?_
        show Fin p e below s _ _ _ (s₁.setTop (mkF m 67 #[.val (.int p1), .unset] [(.int (p1 >>> ((6 : Int32) &&& 31))), (.int (128 : Int32)), (.int (((224 : Int32) ||| (p1 >>> ((12 : Int32) &&& 31))) <<< ((16 : Int32) &&& 31)))]))
        refine Fin.step (fun _ => XS.bipush X0.here hx rfl (hb hby d1_67)) ?_
        show Fin p e below s _ _ _ (s₁.setTop (mkF m 69 #[.val (.int p1), .unset] [(.int (63 : Int32)), (.int (p1 >>> ((6 : Int32) &&& 31))), (.int (128 : Int32)), (.int (((224 : Int32) ||| (p1 >>> ((12 : Int32) &&& 31))) <<< ((16 : Int32) &&& 31)))]))
        refine Fin.step (fun _ => XS.iand X0.here hx rfl (hb hby d1_69) rfl) ?_
        show Fin p e below s _ _ _ (s₁.setTop (mkF m 70 #[.val (.int p1), .unset] [(.int ((p1 >>> ((6 : Int32) &&& 31)) &&& (63 : Int32))), (.int (128 : Int32)), (.int (((224 : Int32) ||| (p1 >>> ((12 : Int32) &&& 31))) <<< ((16 : Int32) &&& 31)))]))
        refine Fin.step (fun _ => XS.ior X0.here hx rfl (hb hby d1_70) rfl) ?_
        show Fin p e below s _ _ _ (s₁.setTop (mkF m 71 #[.val (.int p1), .unset] [(.int ((128 : Int32) ||| ((p1 >>> ((6 : Int32) &&& 31)) &&& (63 : Int32)))), (.int (((224 : Int32) ||| (p1 >>> ((12 : Int32) &&& 31))) <<< ((16 : Int32) &&& 31)))]))
        refine Fin.step (fun _ => XS.bipush X0.here hx rfl (hb hby d1_71)) ?_
        show Fin p e below s _ _ _ (s₁.setTop (mkF m 73 #[.val (.int p1), .unset] [(.int (8 : Int32)), (.int ((128 : Int32) ||| ((p1 >>> ((6 : Int32) &&& 31)) &&& (63 : Int32)))), (.int (((224 : Int32) ||| (p1 >>> ((12 : Int32) &&& 31))) <<< ((16 : Int32) &&& 31)))]))
        refine Fin.step (fun _ => XS.ishl X0.here hx rfl (hb hby d1_73) rfl) ?_
        show Fin p e below s _ _ _ (s₁.setTop (mkF m 74 #[.val (.int p1), .unset] [(.int (((128 : Int32) ||| ((p1 >>> ((6 : Int32) &&& 31)) &&& (63 : Int32))) <<< ((8 : Int32) &&& 31))), (.int (((224 : Int32) ||| (p1 >>> ((12 : Int32) &&& 31))) <<< ((16 : Int32) &&& 31)))]))
        refine Fin.step (fun _ => XS.ior X0.here hx rfl (hb hby d1_74) rfl) ?_
        show Fin p e below s _ _ _ (s₁.setTop (mkF m 75 #[.val (.int p1), .unset] [(.int ((((224 : Int32) ||| (p1 >>> ((12 : Int32) &&& 31))) <<< ((16 : Int32) &&& 31)) ||| (((128 : Int32) ||| ((p1 >>> ((6 : Int32) &&& 31)) &&& (63 : Int32))) <<< ((8 : Int32) &&& 31))))]))
        refine Fin.step (fun _ => XS.sipush X0.here hx rfl (hb hby d1_75)) ?_
        show Fin p e below s _ _ _ (s₁.setTop (mkF m 78 #[.val (.int p1), .unset] [(.int (128 : Int32)), (.int ((((224 : Int32) ||| (p1 >>> ((12 : Int32) &&& 31))) <<< ((16 : Int32) &&& 31)) ||| (((128 : Int32) ||| ((p1 >>> ((6 : Int32) &&& 31)) &&& (63 : Int32))) <<< ((8 : Int32) &&& 31))))]))
        refine Fin.step (fun _ => XS.ior X0.here hx rfl (hb hby d1_78) rfl) ?_
        show Fin p e below s _ _ _ (s₁.setTop (mkF m 79 #[.val (.int p1), .unset] [(.int (((((224 : Int32) ||| (p1 >>> ((12 : Int32) &&& 31))) <<< ((16 : Int32) &&& 31)) ||| (((128 : Int32) ||| ((p1 >>> ((6 : Int32) &&& 31)) &&& (63 : Int32))) <<< ((8 : Int32) &&& 31))) ||| (128 : Int32)))]))
        refine Fin.step (fun _ => XS.iloadN X0.here hx rfl (hb hby d1_79) rfl) ?_
        show Fin p e below s _ _ _ (s₁.setTop (mkF m 80 #[.val (.int p1), .unset] [(.int p1), (.int (((((224 : Int32) ||| (p1 >>> ((12 : Int32) &&& 31))) <<< ((16 : Int32) &&& 31)) ||| (((128 : Int32) ||| ((p1 >>> ((6 : Int32) &&& 31)) &&& (63 : Int32))) <<< ((8 : Int32) &&& 31))) ||| (128 : Int32)))]))
        refine Fin.step (fun _ => XS.bipush X0.here hx rfl (hb hby d1_80)) ?_
        show Fin p e below s _ _ _ (s₁.setTop (mkF m 82 #[.val (.int p1), .unset] [(.int (63 : Int32)), (.int p1), (.int (((((224 : Int32) ||| (p1 >>> ((12 : Int32) &&& 31))) <<< ((16 : Int32) &&& 31)) ||| (((128 : Int32) ||| ((p1 >>> ((6 : Int32) &&& 31)) &&& (63 : Int32))) <<< ((8 : Int32) &&& 31))) ||| (128 : Int32)))]))
        refine Fin.step (fun _ => XS.iand X0.here hx rfl (hb hby d1_82) rfl) ?_
        show Fin p e below s _ _ _ (s₁.setTop (mkF m 83 #[.val (.int p1), .unset] [(.int (p1 &&& (63 : Int32))), (.int (((((224 : Int32) ||| (p1 >>> ((12 : Int32) &&& 31))) <<< ((16 : Int32) &&& 31)) ||| (((128 : Int32) ||| ((p1 >>> ((6 : Int32) &&& 31)) &&& (63 : Int32))) <<< ((8 : Int32) &&& 31))) ||| (128 : Int32)))]))
        refine Fin.step (fun _ => XS.ior X0.here hx rfl (hb hby d1_83) rfl) ?_
        show Fin p e below s _ _ _ (s₁.setTop (mkF m 84 #[.val (.int p1), .unset] [(.int ((((((224 : Int32) ||| (p1 >>> ((12 : Int32) &&& 31))) <<< ((16 : Int32) &&& 31)) ||| (((128 : Int32) ||| ((p1 >>> ((6 : Int32) &&& 31)) &&& (63 : Int32))) <<< ((8 : Int32) &&& 31))) ||| (128 : Int32)) ||| (p1 &&& (63 : Int32))))]))
        refine Fin.step (fun _ => XS.istoreN X0.here hx rfl (hb hby d1_84) rfl (l' := #[.val (.int p1), .val (.int ((((((224 : Int32) ||| (p1 >>> ((12 : Int32) &&& 31))) <<< ((16 : Int32) &&& 31)) ||| (((128 : Int32) ||| ((p1 >>> ((6 : Int32) &&& 31)) &&& (63 : Int32))) <<< ((8 : Int32) &&& 31))) ||| (128 : Int32)) ||| (p1 &&& (63 : Int32))))]) rfl) ?_
        show Fin p e below s _ _ _ (s₁.setTop (mkF m 85 #[.val (.int p1), .val (.int ((((((224 : Int32) ||| (p1 >>> ((12 : Int32) &&& 31))) <<< ((16 : Int32) &&& 31)) ||| (((128 : Int32) ||| ((p1 >>> ((6 : Int32) &&& 31)) &&& (63 : Int32))) <<< ((8 : Int32) &&& 31))) ||| (128 : Int32)) ||| (p1 &&& (63 : Int32))))] []))
        refine Fin.step (fun _ => XS.goto X0.here hx rfl (pc0 := 85) (pc' := 139) rfl (hb hby d1_85) (by decide) (by decide)) ?_
        show Fin p e below s _ _ _ (s₁.setTop (mkF m 139 #[.val (.int p1), .val (.int ((((((224 : Int32) ||| (p1 >>> ((12 : Int32) &&& 31))) <<< ((16 : Int32) &&& 31)) ||| (((128 : Int32) ||| ((p1 >>> ((6 : Int32) &&& 31)) &&& (63 : Int32))) <<< ((8 : Int32) &&& 31))) ||| (128 : Int32)) ||| (p1 &&& (63 : Int32))))] []))
        refine Fin.step (fun _ => XS.iloadN X0.here hx rfl (hb hby d1_139) rfl) ?_
        show Fin p e below s _ _ _ (s₁.setTop (mkF m 140 #[.val (.int p1), .val (.int ((((((224 : Int32) ||| (p1 >>> ((12 : Int32) &&& 31))) <<< ((16 : Int32) &&& 31)) ||| (((128 : Int32) ||| ((p1 >>> ((6 : Int32) &&& 31)) &&& (63 : Int32))) <<< ((8 : Int32) &&& 31))) ||| (128 : Int32)) ||| (p1 &&& (63 : Int32))))] [(.int ((((((224 : Int32) ||| (p1 >>> ((12 : Int32) &&& 31))) <<< ((16 : Int32) &&& 31)) ||| (((128 : Int32) ||| ((p1 >>> ((6 : Int32) &&& 31)) &&& (63 : Int32))) <<< ((8 : Int32) &&& 31))) ||| (128 : Int32)) ||| (p1 &&& (63 : Int32))))]))
        refine Fin.retI X0 hx hret hlk (hb hby d1_140) (by decide) (by decide) ?_
        show Q1 Z p1 h0 n0 _ s₁.heap _
        rw [e0]
        exact ⟨(congrArg (fun z => some (Value.int z)) (by rw [own_utf8, if_neg hcy1, if_neg hcy2, if_pos hcy3]; first | done | rfl)), N0, rfl⟩
      · refine Fin.step (fun _ => XS.icmpYes X0.here hx rfl (pc0 := 46) (pc' := 88) rfl (hb hby d1_46) rfl (flt (hcy3 : ¬ (p1 < (65536 : Int32)))).2.1 (by decide) (by decide)) ?_
        show Fin p e below s _ _ _ (s₁.setTop (mkF m 88 #[.val (.int p1), .unset] []))
        refine Fin.step (fun _ => XS.sipush X0.here hx rfl (hb hby d1_88)) ?_
        show Fin p e below s _ _ _ (s₁.setTop (mkF m 91 #[.val (.int p1), .unset] [(.int (240 : Int32))]))
        refine Fin.step (fun _ => XS.iloadN X0.here hx rfl (hb hby d1_91) rfl) ?_
        show Fin p e below s _ _ _ (s₁.setTop (mkF m 92 #[.val (.int p1), .unset] [(.int p1), (.int (240 : Int32))]))
        refine Fin.step (fun _ => XS.bipush X0.here hx rfl (hb hby d1_92)) ?_
        show Fin p e below s _ _ _ (s₁.setTop (mkF m 94 #[.val (.int p1), .unset] [(.int (18 : Int32)), (.int p1), (.int (240 : Int32))]))
        refine Fin.step (fun _ => XS.ishr X0.here hx rfl (hb hby d1_94) rfl) ?_
        show Fin p e below s _ _ _ (s₁.setTop (mkF m 95 #[.val (.int p1), .unset] [(.int (p1 >>> ((18 : Int32) &&& 31))), (.int (240 : Int32))]))
        refine Fin.step (fun _ => XS.ior X0.here hx rfl (hb hby d1_95) rfl) ?_
        show Fin p e below s _ _ _ (s₁.setTop (mkF m 96 #[.val (.int p1), .unset] [(.int ((240 : Int32) ||| (p1 >>> ((18 : Int32) &&& 31))))]))
        refine Fin.step (fun _ => XS.bipush X0.here hx rfl (hb hby d1_96)) ?_
        show Fin p e below s _ _ _ (s₁.setTop (mkF m 98 #[.val (.int p1), .unset] [(.int (24 : Int32)), (.int ((240 : Int32) ||| (p1 >>> ((18 : Int32) &&& 31))))]))
        refine Fin.step (fun _ => XS.ishl X0.here hx rfl (hb hby d1_98) rfl) ?_
        show Fin p e below s _ _ _ (s₁.setTop (mkF m 99 #[.val (.int p1), .unset] [(.int (((240 : Int32) ||| (p1 >>> ((18 : Int32) &&& 31))) <<< ((24 : Int32) &&& 31)))]))
        refine Fin.step (fun _ => XS.sipush X0.here hx rfl (hb hby d1_99)) ?_
        show Fin p e below s _ _ _ (s₁.setTop (mkF m 102 #[.val (.int p1), .unset] [(.int (128 : Int32)), (.int (((240 : Int32) ||| (p1 >>> ((18 : Int32) &&& 31))) <<< ((24 : Int32) &&& 31)))]))
        refine Fin.step (fun _ => XS.iloadN X0.here hx rfl (hb hby d1_102) rfl) ?_
        show Fin p e below s _ _ _ (s₁.setTop (mkF m 103 #[.val (.int p1), .unset] [(.int p1), (.int (128 : Int32)), (.int (((240 : Int32) ||| (p1 >>> ((18 : Int32) &&& 31))) <<< ((24 : Int32) &&& 31)))]))
        refine Fin.step (fun _ => XS.bipush X0.here hx rfl (hb hby d1_103)) ?_
        show Fin p e below s _ _ _ (s₁.setTop (mkF m 105 #[.val (.int p1), .unset] [(.int (12 : Int32)), (.int p1), (.int (128 : Int32)), (.int (((240 : Int32) ||| (p1 >>> ((18 : Int32) &&& 31))) <<< ((24 : Int32) &&& 31)))]))
        refine Fin.step (fun _ => XS.ishr X0.here hx rfl (hb hby d1_105) rfl) ?_
        show Fin p e below s _ _ _ (s₁.setTop (mkF m 106 #[.val (.int p1), .unset] [(.int (p1 >>> ((12 : Int32) &&& 31))), (.int (128 : Int32)), (.int (((240 : Int32) ||| (p1 >>> ((18 : Int32) &&& 31))) <<< ((24 : Int32) &&& 31)))]))
        refine Fin.step (fun _ => XS.bipush X0.here hx rfl (hb hby d1_106)) ?_
        show Fin p e below s _ _ _ (s₁.setTop (mkF m 108 #[.val (.int p1), .unset] [(.int (63 : Int32)), (.int (p1 >>> ((12 : Int32) &&& 31))), (.int (128 : Int32)), (.int (((240 : Int32) ||| (p1 >>> ((18 : Int32) &&& 31))) <<< ((24 : Int32) &&& 31)))]))
        refine Fin.step (fun _ => XS.iand X0.here hx rfl (hb hby d1_108) rfl) ?_
        show Fin p e below s _ _ _ (s₁.setTop (mkF m 109 #[.val (.int p1), .unset] [(.int ((p1 >>> ((12 : Int32) &&& 31)) &&& (63 : Int32))), (.int (128 : Int32)), (.int (((240 : Int32) ||| (p1 >>> ((18 : Int32) &&& 31))) <<< ((24 : Int32) &&& 31)))]))
        refine Fin.step (fun _ => XS.ior X0.here hx rfl (hb hby d1_109) rfl) ?_
        show Fin p e below s _ _ _ (s₁.setTop (mkF m 110 #[.val (.int p1), .unset] [(.int ((128 : Int32) ||| ((p1 >>> ((12 : Int32) &&& 31)) &&& (63 : Int32)))), (.int (((240 : Int32) ||| (p1 >>> ((18 : Int32) &&& 31))) <<< ((24 : Int32) &&& 31)))]))
        refine Fin.step (fun _ => XS.bipush X0.here hx rfl (hb hby d1_110)) ?_
        show Fin p e below s _ _ _ (s₁.setTop (mkF m 112 #[.val (.int p1), .unset] [(.int (16 : Int32)), (.int ((128 : Int32) ||| ((p1 >>> ((12 : Int32) &&& 31)) &&& (63 : Int32)))), (.int (((240 : Int32) ||| (p1 >>> ((18 : Int32) &&& 31))) <<< ((24 : Int32) &&& 31)))]))
        refine Fin.step (fun _ => XS.ishl X0.here hx rfl (hb hby d1_112) rfl) ?_
        show Fin p e below s _ _ _ (s₁.setTop (mkF m 113 #[.val (.int p1), .unset] [(.int (((128 : Int32) ||| ((p1 >>> ((12 : Int32) &&& 31)) &&& (63 : Int32))) <<< ((16 : Int32) &&& 31))), (.int (((240 : Int32) ||| (p1 >>> ((18 : Int32) &&& 31))) <<< ((24 : Int32) &&& 31)))]))
        refine Fin.step (fun _ => XS.ior X0.here hx rfl (hb hby d1_113) rfl) ?_
        show Fin p e below s _ _ _ (s₁.setTop (mkF m 114 #[.val (.int p1), .unset] [(.int ((((240 : Int32) ||| (p1 >>> ((18 : Int32) &&& 31))) <<< ((24 : Int32) &&& 31)) ||| (((128 : Int32) ||| ((p1 >>> ((12 : Int32) &&& 31)) &&& (63 : Int32))) <<< ((16 : Int32) &&& 31))))]))
        refine Fin.step (fun _ => XS.sipush X0.here hx rfl (hb hby d1_114)) ?_
        show Fin p e below s _ _ _ (s₁.setTop (mkF m 117 #[.val (.int p1), .unset] [(.int (128 : Int32)), (.int ((((240 : Int32) ||| (p1 >>> ((18 : Int32) &&& 31))) <<< ((24 : Int32) &&& 31)) ||| (((128 : Int32) ||| ((p1 >>> ((12 : Int32) &&& 31)) &&& (63 : Int32))) <<< ((16 : Int32) &&& 31))))]))
        refine Fin.step (fun _ => XS.iloadN X0.here hx rfl (hb hby d1_117) rfl) ?_
        show Fin p e below s _ _ _ (s₁.setTop (mkF m 118 #[.val (.int p1), .unset] [(.int p1), (.int (128 : Int32)), (.int ((((240 : Int32) ||| (p1 >>> ((18 : Int32) &&& 31))) <<< ((24 : Int32) &&& 31)) ||| (((128 : Int32) ||| ((p1 >>> ((12 : Int32) &&& 31)) &&& (63 : Int32))) <<< ((16 : Int32) &&& 31))))]))
        refine Fin.step (fun _ => XS.bipush X0.here hx rfl (hb hby d1_118)) ?_
        show Fin p e below s _ _ _ (s₁.setTop (mkF m 120 #[.val (.int p1), .unset] [(.int (6 : Int32)), (.int p1), (.int (128 : Int32)), (.int ((((240 : Int32) ||| (p1 >>> ((18 : Int32) &&& 31))) <<< ((24 : Int32) &&& 31)) ||| (((128 : Int32) ||| ((p1 >>> ((12 : Int32) &&& 31)) &&& (63 : Int32))) <<< ((16 : Int32) &&& 31))))]))
        refine Fin.step (fun _ => XS.ishr X0.here hx rfl (hb hby d1_120) rfl) ?_
        show Fin p e below s _ _ _ (s₁.setTop (mkF m 121 #[.val (.int p1), .unset] [(.int (p1 >>> ((6 : Int32) &&& 31))), (.int (128 : Int32)), (.int ((((240 : Int32) ||| (p1 >>> ((18 : Int32) &&& 31))) <<< ((24 : Int32) &&& 31)) ||| (((128 : Int32) ||| ((p1 >>> ((12 : Int32) &&& 31)) &&& (63 : Int32))) <<< ((16 : Int32) &&& 31))))]))
        refine Fin.step (fun _ => XS.bipush X0.here hx rfl (hb hby d1_121)) ?_
        show Fin p e below s _ _ _ (s₁.setTop (mkF m 123 #[.val (.int p1), .unset] [(.int (63 : Int32)), (.int (p1 >>> ((6 : Int32) &&& 31))), (.int (128 : Int32)), (.int ((((240 : Int32) ||| (p1 >>> ((18 : Int32) &&& 31))) <<< ((24 : Int32) &&& 31)) ||| (((128 : Int32) ||| ((p1 >>> ((12 : Int32) &&& 31)) &&& (63 : Int32))) <<< ((16 : Int32) &&& 31))))]))
        refine Fin.step (fun _ => XS.iand X0.here hx rfl (hb hby d1_123) rfl) ?_
        show Fin p e below s _ _ _ (s₁.setTop (mkF m 124 #[.val (.int p1), .unset] [(.int ((p1 >>> ((6 : Int32) &&& 31)) &&& (63 : Int32))), (.int (128 : Int32)), (.int ((((240 : Int32) ||| (p1 >>> ((18 : Int32) &&& 31))) <<< ((24 : Int32) &&& 31)) ||| (((128 : Int32) ||| ((p1 >>> ((12 : Int32) &&& 31)) &&& (63 : Int32))) <<< ((16 : Int32) &&& 31))))]))
        refine Fin.step (fun _ => XS.ior X0.here hx rfl (hb hby d1_124) rfl) ?_
        show Fin p e below s _ _ _ (s₁.setTop (mkF m 125 #[.val (.int p1), .unset] [(.int ((128 : Int32) ||| ((p1 >>> ((6 : Int32) &&& 31)) &&& (63 : Int32)))), (.int ((((240 : Int32) ||| (p1 >>> ((18 : Int32) &&& 31))) <<< ((24 : Int32) &&& 31)) ||| (((128 : Int32) ||| ((p1 >>> ((12 : Int32) &&& 31)) &&& (63 : Int32))) <<< ((16 : Int32) &&& 31))))]))
        refine Fin.step (fun _ => XS.bipush X0.here hx rfl (hb hby d1_125)) ?_
        show Fin p e below s _ _ _ (s₁.setTop (mkF m 127 #[.val (.int p1), .unset] [(.int (8 : Int32)), (.int ((128 : Int32) ||| ((p1 >>> ((6 : Int32) &&& 31)) &&& (63 : Int32)))), (.int ((((240 : Int32) ||| (p1 >>> ((18 : Int32) &&& 31))) <<< ((24 : Int32) &&& 31)) ||| (((128 : Int32) ||| ((p1 >>> ((12 : Int32) &&& 31)) &&& (63 : Int32))) <<< ((16 : Int32) &&& 31))))]))
        refine Fin.step (fun _ => XS.ishl X0.here hx rfl (hb hby d1_127) rfl) ?_
        show Fin p e below s _ _ _ (s₁.setTop (mkF m 128 #[.val (.int p1), .unset] [(.int (((128 : Int32) ||| ((p1 >>> ((6 : Int32) &&& 31)) &&& (63 : Int32))) <<< ((8 : Int32) &&& 31))), (.int ((((240 : Int32) ||| (p1 >>> ((18 : Int32) &&& 31))) <<< ((24 : Int32) &&& 31)) ||| (((128 : Int32) ||| ((p1 >>> ((12 : Int32) &&& 31)) &&& (63 : Int32))) <<< ((16 : Int32) &&& 31))))]))
        refine Fin.step (fun _ => XS.ior X0.here hx rfl (hb hby d1_128) rfl) ?_
        show Fin p e below s _ _ _ (s₁.setTop (mkF m 129 #[.val (.int p1), .unset] [(.int (((((240 : Int32) ||| (p1 >>> ((18 : Int32) &&& 31))) <<< ((24 : Int32) &&& 31)) ||| (((128 : Int32) ||| ((p1 >>> ((12 : Int32) &&& 31)) &&& (63 : Int32))) <<< ((16 : Int32) &&& 31))) ||| (((128 : Int32) ||| ((p1 >>> ((6 : Int32) &&& 31)) &&& (63 : Int32))) <<< ((8 : Int32) &&& 31))))]))
        refine Fin.step (fun _ => XS.sipush X0.here hx rfl (hb hby d1_129)) ?_
        show Fin p e below s _ _ _ (s₁.setTop (mkF m 132 #[.val (.int p1), .unset] [(.int (128 : Int32)), (.int (((((240 : Int32) ||| (p1 >>> ((18 : Int32) &&& 31))) <<< ((24 : Int32) &&& 31)) ||| (((128 : Int32) ||| ((p1 >>> ((12 : Int32) &&& 31)) &&& (63 : Int32))) <<< ((16 : Int32) &&& 31))) ||| (((128 : Int32) ||| ((p1 >>> ((6 : Int32) &&& 31)) &&& (63 : Int32))) <<< ((8 : Int32) &&& 31))))]))
        refine Fin.step (fun _ => XS.ior X0.here hx rfl (hb hby d1_132) rfl) ?_
        show Fin p e below s _ _ _ (s₁.setTop (mkF m 133 #[.val (.int p1), .unset] [(.int ((((((240 : Int32) ||| (p1 >>> ((18 : Int32) &&& 31))) <<< ((24 : Int32) &&& 31)) ||| (((128 : Int32) ||| ((p1 >>> ((12 : Int32) &&& 31)) &&& (63 : Int32))) <<< ((16 : Int32) &&& 31))) ||| (((128 : Int32) ||| ((p1 >>> ((6 : Int32) &&& 31)) &&& (63 : Int32))) <<< ((8 : Int32) &&& 31))) ||| (128 : Int32)))]))
        refine Fin.step (fun _ => XS.iloadN X0.here hx rfl (hb hby d1_133) rfl) ?_
        show Fin p e below s _ _ _ (s₁.setTop (mkF m 134 #[.val (.int p1), .unset] [(.int p1), (.int ((((((240 : Int32) ||| (p1 >>> ((18 : Int32) &&& 31))) <<< ((24 : Int32) &&& 31)) ||| (((128 : Int32) ||| ((p1 >>> ((12 : Int32) &&& 31)) &&& (63 : Int32))) <<< ((16 : Int32) &&& 31))) ||| (((128 : Int32) ||| ((p1 >>> ((6 : Int32) &&& 31)) &&& (63 : Int32))) <<< ((8 : Int32) &&& 31))) ||| (128 : Int32)))]))
        refine Fin.step (fun _ => XS.bipush X0.here hx rfl (hb hby d1_134)) ?_
        show Fin p e below s _ _ _ (s₁.setTop (mkF m 136 #[.val (.int p1), .unset] [(.int (63 : Int32)), (.int p1), (.int ((((((240 : Int32) ||| (p1 >>> ((18 : Int32) &&& 31))) <<< ((24 : Int32) &&& 31)) ||| (((128 : Int32) ||| ((p1 >>> ((12 : Int32) &&& 31)) &&& (63 : Int32))) <<< ((16 : Int32) &&& 31))) ||| (((128 : Int32) ||| ((p1 >>> ((6 : Int32) &&& 31)) &&& (63 : Int32))) <<< ((8 : Int32) &&& 31))) ||| (128 : Int32)))]))
        refine Fin.step (fun _ => XS.iand X0.here hx rfl (hb hby d1_136) rfl) ?_
        show Fin p e below s _ _ _ (s₁.setTop (mkF m 137 #[.val (.int p1), .unset] [(.int (p1 &&& (63 : Int32))), (.int ((((((240 : Int32) ||| (p1 >>> ((18 : Int32) &&& 31))) <<< ((24 : Int32) &&& 31)) ||| (((128 : Int32) ||| ((p1 >>> ((12 : Int32) &&& 31)) &&& (63 : Int32))) <<< ((16 : Int32) &&& 31))) ||| (((128 : Int32) ||| ((p1 >>> ((6 : Int32) &&& 31)) &&& (63 : Int32))) <<< ((8 : Int32) &&& 31))) ||| (128 : Int32)))]))
        refine Fin.step (fun _ => XS.ior X0.here hx rfl (hb hby d1_137) rfl) ?_
        show Fin p e below s _ _ _ (s₁.setTop (mkF m 138 #[.val (.int p1), .unset] [(.int (((((((240 : Int32) ||| (p1 >>> ((18 : Int32) &&& 31))) <<< ((24 : Int32) &&& 31)) ||| (((128 : Int32) ||| ((p1 >>> ((12 : Int32) &&& 31)) &&& (63 : Int32))) <<< ((16 : Int32) &&& 31))) ||| (((128 : Int32) ||| ((p1 >>> ((6 : Int32) &&& 31)) &&& (63 : Int32))) <<< ((8 : Int32) &&& 31))) ||| (128 : Int32)) ||| (p1 &&& (63 : Int32))))]))
        refine Fin.step (fun _ => XS.istoreN X0.here hx rfl (hb hby d1_138) rfl (l' := #[.val (.int p1), .val (.int (((((((240 : Int32) ||| (p1 >>> ((18 : Int32) &&& 31))) <<< ((24 : Int32) &&& 31)) ||| (((128 : Int32) ||| ((p1 >>> ((12 : Int32) &&& 31)) &&& (63 : Int32))) <<< ((16 : Int32) &&& 31))) ||| (((128 : Int32) ||| ((p1 >>> ((6 : Int32) &&& 31)) &&& (63 : Int32))) <<< ((8 : Int32) &&& 31))) ||| (128 : Int32)) ||| (p1 &&& (63 : Int32))))]) rfl) ?_
        show Fin p e below s _ _ _ (s₁.setTop (mkF m 139 #[.val (.int p1), .val (.int (((((((240 : Int32) ||| (p1 >>> ((18 : Int32) &&& 31))) <<< ((24 : Int32) &&& 31)) ||| (((128 : Int32) ||| ((p1 >>> ((12 : Int32) &&& 31)) &&& (63 : Int32))) <<< ((16 : Int32) &&& 31))) ||| (((128 : Int32) ||| ((p1 >>> ((6 : Int32) &&& 31)) &&& (63 : Int32))) <<< ((8 : Int32) &&& 31))) ||| (128 : Int32)) ||| (p1 &&& (63 : Int32))))] []))
        refine Fin.step (fun _ => XS.iloadN X0.here hx rfl (hb hby d1_139) rfl) ?_
        show Fin p e below s _ _ _ (s₁.setTop (mkF m 140 #[.val (.int p1), .val (.int (((((((240 : Int32) ||| (p1 >>> ((18 : Int32) &&& 31))) <<< ((24 : Int32) &&& 31)) ||| (((128 : Int32) ||| ((p1 >>> ((12 : Int32) &&& 31)) &&& (63 : Int32))) <<< ((16 : Int32) &&& 31))) ||| (((128 : Int32) ||| ((p1 >>> ((6 : Int32) &&& 31)) &&& (63 : Int32))) <<< ((8 : Int32) &&& 31))) ||| (128 : Int32)) ||| (p1 &&& (63 : Int32))))] [(.int (((((((240 : Int32) ||| (p1 >>> ((18 : Int32) &&& 31))) <<< ((24 : Int32) &&& 31)) ||| (((128 : Int32) ||| ((p1 >>> ((12 : Int32) &&& 31)) &&& (63 : Int32))) <<< ((16 : Int32) &&& 31))) ||| (((128 : Int32) ||| ((p1 >>> ((6 : Int32) &&& 31)) &&& (63 : Int32))) <<< ((8 : Int32) &&& 31))) ||| (128 : Int32)) ||| (p1 &&& (63 : Int32))))]))
        refine Fin.retI X0 hx hret hlk (hb hby d1_140) (by decide) (by decide) ?_
        show Q1 Z p1 h0 n0 _ s₁.heap _
        rw [e0]
        exact ⟨(congrArg (fun z => some (Value.int z)) (by rw [own_utf8, if_neg hcy1, if_neg hcy2, if_neg hcy3]; first | done | rfl)), N0, rfl⟩
theorem d2_0 : decode method_2_code 0 = .ok (.iload_n 0, 1) := by decide +kernel
theorem d2_1 : decode method_2_code 1 = .ok (.sipush 192, 3) := by decide +kernel
theorem d2_4 : decode method_2_code 4 = .ok (.iand, 1) := by decide +kernel
theorem d2_5 : decode method_2_code 5 = .ok (.sipush 128, 3) := by decide +kernel
theorem d2_8 : decode method_2_code 8 = .ok (.if_icmp .ne 7, 3) := by decide +kernel
theorem d2_11 : decode method_2_code 11 = .ok (.iconst 1, 1) := by decide +kernel
theorem d2_12 : decode method_2_code 12 = .ok (.goto 4, 3) := by decide +kernel
theorem d2_15 : decode method_2_code 15 = .ok (.iconst 0, 1) := by decide +kernel
theorem d2_16 : decode method_2_code 16 = .ok (.ireturn, 1) := by decide +kernel
theorem pn_2 : plainName "com/example/stavetree/stavetree/Utf8KeyUtf8PinLaw" = true := by first | (simp [plainName, overriddenIn]; done) | decide +kernel
theorem ef_rm2 (m : MethodId) (x0 : Int32) : entryFrame m #[(.int x0)] 1 = mkF m 0 #[.val (.int x0)] [] := by first | (simp [entryFrame, mkF, argsToLocals, Value.category]; done) | rfl
def Q2 (Z : State) (p1 : Int32) (h0 : Heap) (n0 : Nat) (v : Option Value) (h : Heap) (L : List Loc) : Prop := v = some (.int (own_cont p1)) ∧ Fr n0 L ∧ h = h0
set_option maxRecDepth 65536 in
set_option maxHeartbeats 40000000 in
theorem rm2 (l : Launch) (Z : State) (a0 : Array Value) (hw : ∀ d ∈ tables_1, d.before a0 Z = true) (ws : List Jvm.Cond) (p1 : Int32) (h0 : Heap) (n0 : Nat) (Z0 : n0 ≤ h0.size) :
    MetFree l (⟨"com/example/stavetree/stavetree/Utf8KeyUtf8PinLaw", "cont", "(I)Z"⟩ : MethodName) (head1 (Jvm.Cond.code (⟨"com/example/stavetree/stavetree/Utf8KeyUtf8PinLaw", "cont", "(I)Z"⟩ : MethodName) method_2_code 1 (some .boolean) :: ws) ({ frames := 0, cells := 0, slots := 0, locals := 0 } : Room)) (fun a U => a = #[(.int p1)] ∧ Z.Warmed39 U.vm ∧ U.heap = h0) (fun _ _ _ _ _ => True) (fun _ U o U' => ∃ v L, o = .returned v ∧ Q2 Z p1 h0 n0 v U'.heap L ∧ FrameEnd U o U' L ({ frames := 0, cells := 0, slots := 0, locals := 0 } : Room).cells ({ frames := 0, cells := 0, slots := 0, locals := 0 } : Room).slots) := by
  refine MetFree.of_bodySF (plainFor_of_name pn_2) hisR ?_
  intro p e s m args below meth c s₁ Bd hml0 hP hK
  obtain ⟨rfl, hZ, hh⟩ := hP
  have hx := Bd.exec
  have hby := Bd.bytes
  have hlk := BodyLoose.notSynchronized Bd
  have hret := Bd.returns
  have hml : c.maxLocals = 1 := hml0
  have hown : s.vm.findClass "com/example/stavetree/stavetree/Utf8KeyUtf8PinLaw" = some m.cls := findClass_of_methodNamed Bd.named
  have hnm := (name_of_methodNamed Bd.named Bd.method).1
  have X0 : Stand p l e ({ frames := 0, cells := 0, slots := 0, locals := 0 } : Room) s m #[(.int p1)] below meth c s₁ [] 0 0 := Stand.of_body Bd
  have e0 : s₁.heap = h0 := by rw [← hh, Bd.state]; rfl
  have N0 := Fr.nil n0
  have K0 : Keep h0 h0 [] := Keep.refl h0 _
  refine Fin.step (Q := fun v h L => Q2 Z p1 h0 n0 v h L) (st' := s₁.setTop (mkF m 0 #[.val (.int p1)] [])) (fun t k => castTop (ef_rm2 m p1) k) ?_
  show Fin p e below s _ _ _ (s₁.setTop (mkF m 0 #[.val (.int p1)] []))
  refine Fin.step (fun _ => XS.iloadN X0.here hx rfl (hb hby d2_0) rfl) ?_
  show Fin p e below s _ _ _ (s₁.setTop (mkF m 1 #[.val (.int p1)] [(.int p1)]))
  refine Fin.step (fun _ => XS.sipush X0.here hx rfl (hb hby d2_1)) ?_
  show Fin p e below s _ _ _ (s₁.setTop (mkF m 4 #[.val (.int p1)] [(.int (192 : Int32)), (.int p1)]))
  refine Fin.step (fun _ => XS.iand X0.here hx rfl (hb hby d2_4) rfl) ?_
  show Fin p e below s _ _ _ (s₁.setTop (mkF m 5 #[.val (.int p1)] [(.int (p1 &&& (192 : Int32)))]))
  refine Fin.step (fun _ => XS.sipush X0.here hx rfl (hb hby d2_5)) ?_
  show Fin p e below s _ _ _ (s₁.setTop (mkF m 8 #[.val (.int p1)] [(.int (128 : Int32)), (.int (p1 &&& (192 : Int32)))]))
  by_cases hcy1 : (p1 &&& (192 : Int32)) = (128 : Int32)
  · refine Fin.step (fun _ => XS.icmpNo X0.here hx rfl (hb hby d2_8) rfl (teq (hcy1 : ((p1 &&& (192 : Int32)) = (128 : Int32)))).2) ?_
    show Fin p e below s _ _ _ (s₁.setTop (mkF m 11 #[.val (.int p1)] []))
    refine Fin.step (fun _ => XS.iconst X0.here hx rfl (hb hby d2_11)) ?_
    show Fin p e below s _ _ _ (s₁.setTop (mkF m 12 #[.val (.int p1)] [(.int (1 : Int32))]))
    refine Fin.step (fun _ => XS.goto X0.here hx rfl (pc0 := 12) (pc' := 16) rfl (hb hby d2_12) (by decide) (by decide)) ?_
    show Fin p e below s _ _ _ (s₁.setTop (mkF m 16 #[.val (.int p1)] [(.int (1 : Int32))]))
    refine Fin.retN X0 hx (t := .boolean) hret (by simp) hlk (hb hby d2_16) (by decide) (by decide) ?_
    show Q2 Z p1 h0 n0 _ s₁.heap _
    rw [e0]
    exact ⟨(congrArg (fun z => some (Value.int z)) (by rw [own_cont, if_pos hcy1]; first | done | rfl)), N0, rfl⟩
  · refine Fin.step (fun _ => XS.icmpYes X0.here hx rfl (pc0 := 8) (pc' := 15) rfl (hb hby d2_8) rfl (feq (hcy1 : ¬ ((p1 &&& (192 : Int32)) = (128 : Int32)))).2 (by decide) (by decide)) ?_
    show Fin p e below s _ _ _ (s₁.setTop (mkF m 15 #[.val (.int p1)] []))
    refine Fin.step (fun _ => XS.iconst X0.here hx rfl (hb hby d2_15)) ?_
    show Fin p e below s _ _ _ (s₁.setTop (mkF m 16 #[.val (.int p1)] [(.int (0 : Int32))]))
    refine Fin.retN X0 hx (t := .boolean) hret (by simp) hlk (hb hby d2_16) (by decide) (by decide) ?_
    show Q2 Z p1 h0 n0 _ s₁.heap _
    rw [e0]
    exact ⟨(congrArg (fun z => some (Value.int z)) (by rw [own_cont, if_neg hcy1]; first | done | rfl)), N0, rfl⟩
theorem pn_0 : plainName "com/example/stavetree/stavetree/Utf8KeyUtf8PinLaw" = true := by first | (simp [plainName, overriddenIn]; done) | decide +kernel
theorem pd_0 : parseMethodDescriptor "(I)I" = some ⟨[.int], some .int⟩ := by decide +kernel
theorem pd_1 : parseMethodDescriptor "(I)Z" = some ⟨[.int], some .boolean⟩ := by decide +kernel
theorem ef_rm0 (m : MethodId) (x0 : Int32) (x1 : Int32) : entryFrame m #[(.int x0), (.int x1)] maxLocals = mkF m 0 #[.val (.int x0), .val (.int x1), .unset, .unset, .unset, .unset, .unset, .unset, .unset, .unset, .unset] [] := by first | (simp [entryFrame, mkF, argsToLocals, Value.category, maxLocals]; done) | rfl
def Q0 (Z : State) (p1 : Int32) (p2 : Int32) (h0 : Heap) (n0 : Nat) (v : Option Value) (h : Heap) (L : List Loc) : Prop := v = some (.int (1 : Int32)) ∧ Fr n0 L ∧ h = h0
set_option maxRecDepth 65536 in
set_option maxHeartbeats 40000000 in
theorem rm0 (l : Launch) (Z : State) (a0 : Array Value) (hw : ∀ d ∈ tables_1, d.before a0 Z = true) (ws : List Jvm.Cond) (p1 : Int32) (p2 : Int32) (h0 : Heap) (n0 : Nat) (Z0 : n0 ≤ h0.size) :
    MetFree l x (head1 (Jvm.Cond.code x code maxLocals ret :: ws) room_1) (fun a U => a = #[(.int p1), (.int p2)] ∧ Z.Warmed39 U.vm ∧ U.heap = h0) (fun _ _ _ _ _ => True) (fun _ U o U' => ∃ v L, o = .returned v ∧ Q0 Z p1 p2 h0 n0 v U'.heap L ∧ FrameEnd U o U' L room_1.cells room_1.slots) := by
  refine MetFree.of_bodySF (plainFor_of_name pn_0) hisR ?_
  intro p e s m args below meth c s₁ Bd hml0 hP hK
  obtain ⟨rfl, hZ, hh⟩ := hP
  have hx := Bd.exec
  have hby := Bd.bytes
  have hlk := BodyLoose.notSynchronized Bd
  have hret := Bd.returns
  have hml : c.maxLocals = 11 := hml0
  have hown : s.vm.findClass "com/example/stavetree/stavetree/Utf8KeyUtf8PinLaw" = some m.cls := findClass_of_methodNamed Bd.named
  have hnm := (name_of_methodNamed Bd.named Bd.method).1
  have X0 : Stand p l e room_1 s m #[(.int p1), (.int p2)] below meth c s₁ [] 0 0 := Stand.of_body Bd
  have e0 : s₁.heap = h0 := by rw [← hh, Bd.state]; rfl
  have N0 := Fr.nil n0
  have K0 : Keep h0 h0 [] := Keep.refl h0 _
  refine Fin.step (Q := fun v h L => Q0 Z p1 p2 h0 n0 v h L) (st' := s₁.setTop (mkF m 0 #[.val (.int p1), .val (.int p2), .unset, .unset, .unset, .unset, .unset, .unset, .unset, .unset, .unset] [])) (fun t k => castTop (ef_rm0 m p1 p2) k) ?_
  show Fin p e below s _ _ _ (s₁.setTop (mkF m 0 #[.val (.int p1), .val (.int p2), .unset, .unset, .unset, .unset, .unset, .unset, .unset, .unset, .unset] []))
  refine Fin.step (fun _ => XS.iloadN X0.here hx rfl (hb hby at_0) rfl) ?_
  show Fin p e below s _ _ _ (s₁.setTop (mkF m 1 #[.val (.int p1), .val (.int p2), .unset, .unset, .unset, .unset, .unset, .unset, .unset, .unset, .unset] [(.int p2)]))
  refine Fin.step (X0.ldcInt hx hown (mvT hZ (hw _ (List.mem_of_getElem? (i := 0) rfl))) (g := (mkF m 1 #[.val (.int p1), .val (.int p2), .unset, .unset, .unset, .unset, .unset, .unset, .unset, .unset, .unset] [(.int p2)])) rfl (hb hby at_1)) ?_
  show Fin p e below s _ _ _ (s₁.setTop (mkF m 3 #[.val (.int p1), .val (.int p2), .unset, .unset, .unset, .unset, .unset, .unset, .unset, .unset, .unset] [(.int (2147483647 : Int32)), (.int p2)]))
  refine Fin.step (fun _ => XS.iand X0.here hx rfl (hb hby at_3) rfl) ?_
  show Fin p e below s _ _ _ (s₁.setTop (mkF m 4 #[.val (.int p1), .val (.int p2), .unset, .unset, .unset, .unset, .unset, .unset, .unset, .unset, .unset] [(.int (p2 &&& (2147483647 : Int32)))]))
  refine Fin.step (fun _ => XS.istoreN X0.here hx rfl (hb hby at_4) rfl (l' := #[.val (.int p1), .val (.int p2), .val (.int (p2 &&& (2147483647 : Int32))), .unset, .unset, .unset, .unset, .unset, .unset, .unset, .unset]) rfl) ?_
  show Fin p e below s _ _ _ (s₁.setTop (mkF m 5 #[.val (.int p1), .val (.int p2), .val (.int (p2 &&& (2147483647 : Int32))), .unset, .unset, .unset, .unset, .unset, .unset, .unset, .unset] []))
  refine Fin.step (fun _ => XS.iloadN X0.here hx rfl (hb hby at_5) rfl) ?_
  show Fin p e below s _ _ _ (s₁.setTop (mkF m 6 #[.val (.int p1), .val (.int p2), .val (.int (p2 &&& (2147483647 : Int32))), .unset, .unset, .unset, .unset, .unset, .unset, .unset, .unset] [(.int p1)]))
  refine Fin.step (fun _ => XS.iconst X0.here hx rfl (hb hby at_6)) ?_
  show Fin p e below s _ _ _ (s₁.setTop (mkF m 7 #[.val (.int p1), .val (.int p2), .val (.int (p2 &&& (2147483647 : Int32))), .unset, .unset, .unset, .unset, .unset, .unset, .unset, .unset] [(.int (3 : Int32)), (.int p1)]))
  refine Fin.step (fun _ => XS.iand X0.here hx rfl (hb hby at_7) rfl) ?_
  show Fin p e below s _ _ _ (s₁.setTop (mkF m 8 #[.val (.int p1), .val (.int p2), .val (.int (p2 &&& (2147483647 : Int32))), .unset, .unset, .unset, .unset, .unset, .unset, .unset, .unset] [(.int (p1 &&& (3 : Int32)))]))
  refine Fin.step (fun _ => XS.istoreN X0.here hx rfl (hb hby at_8) rfl (l' := #[.val (.int p1), .val (.int p2), .val (.int (p2 &&& (2147483647 : Int32))), .val (.int (p1 &&& (3 : Int32))), .unset, .unset, .unset, .unset, .unset, .unset, .unset]) rfl) ?_
  show Fin p e below s _ _ _ (s₁.setTop (mkF m 9 #[.val (.int p1), .val (.int p2), .val (.int (p2 &&& (2147483647 : Int32))), .val (.int (p1 &&& (3 : Int32))), .unset, .unset, .unset, .unset, .unset, .unset, .unset] []))
  refine Fin.step (fun _ => XS.iloadN X0.here hx rfl (hb hby at_9) rfl) ?_
  show Fin p e below s _ _ _ (s₁.setTop (mkF m 10 #[.val (.int p1), .val (.int p2), .val (.int (p2 &&& (2147483647 : Int32))), .val (.int (p1 &&& (3 : Int32))), .unset, .unset, .unset, .unset, .unset, .unset, .unset] [(.int (p1 &&& (3 : Int32)))]))
  by_cases hcy1 : (p1 &&& (3 : Int32)) = (0 : Int32)
  · refine Fin.step (fun _ => XS.ifNo X0.here hx rfl (hb hby at_10) rfl ((if0 _ _).trans (teq (hcy1 : ((p1 &&& (3 : Int32)) = (0 : Int32)))).2)) ?_
    show Fin p e below s _ _ _ (s₁.setTop (mkF m 13 #[.val (.int p1), .val (.int p2), .val (.int (p2 &&& (2147483647 : Int32))), .val (.int (p1 &&& (3 : Int32))), .unset, .unset, .unset, .unset, .unset, .unset, .unset] []))
    refine Fin.step (fun _ => XS.iloadN X0.here hx rfl (hb hby at_13) rfl) ?_
    show Fin p e below s _ _ _ (s₁.setTop (mkF m 14 #[.val (.int p1), .val (.int p2), .val (.int (p2 &&& (2147483647 : Int32))), .val (.int (p1 &&& (3 : Int32))), .unset, .unset, .unset, .unset, .unset, .unset, .unset] [(.int (p2 &&& (2147483647 : Int32)))]))
    refine Fin.step (fun _ => XS.bipush X0.here hx rfl (hb hby at_14)) ?_
    show Fin p e below s _ _ _ (s₁.setTop (mkF m 16 #[.val (.int p1), .val (.int p2), .val (.int (p2 &&& (2147483647 : Int32))), .val (.int (p1 &&& (3 : Int32))), .unset, .unset, .unset, .unset, .unset, .unset, .unset] [(.int (127 : Int32)), (.int (p2 &&& (2147483647 : Int32)))]))
    refine Fin.step (fun _ => XS.iand X0.here hx rfl (hb hby at_16) rfl) ?_
    show Fin p e below s _ _ _ (s₁.setTop (mkF m 17 #[.val (.int p1), .val (.int p2), .val (.int (p2 &&& (2147483647 : Int32))), .val (.int (p1 &&& (3 : Int32))), .unset, .unset, .unset, .unset, .unset, .unset, .unset] [(.int ((p2 &&& (2147483647 : Int32)) &&& (127 : Int32)))]))
    refine Fin.step (fun _ => XS.istore X0.here hx rfl (hb hby at_17) rfl (l' := #[.val (.int p1), .val (.int p2), .val (.int (p2 &&& (2147483647 : Int32))), .val (.int (p1 &&& (3 : Int32))), .val (.int ((p2 &&& (2147483647 : Int32)) &&& (127 : Int32))), .unset, .unset, .unset, .unset, .unset, .unset]) rfl) ?_
    show Fin p e below s _ _ _ (s₁.setTop (mkF m 19 #[.val (.int p1), .val (.int p2), .val (.int (p2 &&& (2147483647 : Int32))), .val (.int (p1 &&& (3 : Int32))), .val (.int ((p2 &&& (2147483647 : Int32)) &&& (127 : Int32))), .unset, .unset, .unset, .unset, .unset, .unset] []))
    refine Fin.step (fun _ => XS.goto X0.here hx rfl (pc0 := 19) (pc' := 68) rfl (hb hby at_19) (by decide) (by decide)) ?_
    show Fin p e below s _ _ _ (s₁.setTop (mkF m 68 #[.val (.int p1), .val (.int p2), .val (.int (p2 &&& (2147483647 : Int32))), .val (.int (p1 &&& (3 : Int32))), .val (.int ((p2 &&& (2147483647 : Int32)) &&& (127 : Int32))), .unset, .unset, .unset, .unset, .unset, .unset] []))
    have hBd : 0 ≤ (((p2 &&& (2147483647 : Int32)) &&& (127 : Int32))).toInt ∧ (((p2 &&& (2147483647 : Int32)) &&& (127 : Int32))).toInt < 128 := own_p0 _
    obtain ⟨P, h_P⟩ : ∃ z : Int32, z = ((p2 &&& (2147483647 : Int32)) &&& (127 : Int32)) := ⟨_, rfl⟩
    rw [← h_P]
    rw [← h_P] at hBd
    show Fin p e below s _ _ _ (s₁.setTop (mkF m 68 #[.val (.int p1), .val (.int p2), .val (.int (p2 &&& (2147483647 : Int32))), .val (.int (p1 &&& (3 : Int32))), .val (.int P), .unset, .unset, .unset, .unset, .unset, .unset] []))
    refine Fin.step (fun _ => XS.iload X0.here hx rfl (hb hby at_68) rfl) ?_
    show Fin p e below s _ _ _ (s₁.setTop (mkF m 70 #[.val (.int p1), .val (.int p2), .val (.int (p2 &&& (2147483647 : Int32))), .val (.int (p1 &&& (3 : Int32))), .val (.int P), .unset, .unset, .unset, .unset, .unset, .unset] [(.int P)]))
    obtain ⟨_, _, ⟨Ty2, Ly2, ky2, ny2⟩, -, Xy2, ⟨Lcy2, hQy2, ly2, yy2, zy2⟩, sty2⟩ := Jvm.LawKit.callS X0 hx (y := (⟨"com/example/stavetree/stavetree/Utf8Stores$Utf8Key", "utf8", "(I)I"⟩ : MethodName)) hown (mvT hZ (hw _ (List.mem_of_getElem? (i := 1) rfl))) (mvT hZ (hw _ (List.mem_of_getElem? (i := 2) rfl))) (mvT hZ (hw _ (List.mem_of_getElem? (i := 3) rfl))) (mvT hZ (hw _ (List.mem_of_getElem? (i := 4) rfl))) (by decide) (backOf (W := 0) (rm1 l Z a0 hw [] P h0 n0 Z0 ) hZ (hw _ (List.mem_of_getElem? (i := 4) rfl)) (hw _ (List.mem_of_getElem? (i := 3) rfl)) (by decide) (by decide)) (g := (mkF m 70 #[.val (.int p1), .val (.int p2), .val (.int (p2 &&& (2147483647 : Int32))), .val (.int (p1 &&& (3 : Int32))), .val (.int P), .unset, .unset, .unset, .unset, .unset, .unset] [(.int P)])) rfl (by rw [hml]; rfl) (argsL := [(.int P)]) (rest := []) (lenOf pd_0 rfl) rfl (by show 2 * 0 + _ ≤ _; exact Nat.le_of_eq rfl) (hb hby at_70) (fun _ _ => ⟨rfl, e0, (by decide : 0 + 0 ≤ _), (by decide : 0 + 0 ≤ _)⟩)
    dsimp only [Pt.U, Pt.locs, Pt.cells, Pt.slots] at Xy2 ly2 yy2 zy2 sty2 hQy2
    subst ly2 yy2 zy2
    obtain ⟨rfl, Nqy2, eqy2⟩ := hQy2
    have Ny2 := Fr.app N0 Nqy2
    refine Fin.step (sty2) ?_
    show Fin p e below s _ _ _ (Ty2.setTop (mkF m 73 #[.val (.int p1), .val (.int p2), .val (.int (p2 &&& (2147483647 : Int32))), .val (.int (p1 &&& (3 : Int32))), .val (.int P), .unset, .unset, .unset, .unset, .unset, .unset] [(.int (own_utf8 P))]))
    refine Fin.step (fun _ => XS.istore Xy2.here hx rfl (hb hby at_73) rfl (l' := #[.val (.int p1), .val (.int p2), .val (.int (p2 &&& (2147483647 : Int32))), .val (.int (p1 &&& (3 : Int32))), .val (.int P), .val (.int (own_utf8 P)), .unset, .unset, .unset, .unset, .unset]) rfl) ?_
    show Fin p e below s _ _ _ (Ty2.setTop (mkF m 75 #[.val (.int p1), .val (.int p2), .val (.int (p2 &&& (2147483647 : Int32))), .val (.int (p1 &&& (3 : Int32))), .val (.int P), .val (.int (own_utf8 P)), .unset, .unset, .unset, .unset, .unset] []))
    refine Fin.step (fun _ => XS.iload Xy2.here hx rfl (hb hby at_75) rfl) ?_
    show Fin p e below s _ _ _ (Ty2.setTop (mkF m 77 #[.val (.int p1), .val (.int p2), .val (.int (p2 &&& (2147483647 : Int32))), .val (.int (p1 &&& (3 : Int32))), .val (.int P), .val (.int (own_utf8 P)), .unset, .unset, .unset, .unset, .unset] [(.int (own_utf8 P))]))
    refine Fin.step (fun _ => XS.bipush Xy2.here hx rfl (hb hby at_77)) ?_
    show Fin p e below s _ _ _ (Ty2.setTop (mkF m 79 #[.val (.int p1), .val (.int p2), .val (.int (p2 &&& (2147483647 : Int32))), .val (.int (p1 &&& (3 : Int32))), .val (.int P), .val (.int (own_utf8 P)), .unset, .unset, .unset, .unset, .unset] [(.int (24 : Int32)), (.int (own_utf8 P))]))
    refine Fin.step (fun _ => XS.iushr Xy2.here hx rfl (hb hby at_79) rfl) ?_
    show Fin p e below s _ _ _ (Ty2.setTop (mkF m 80 #[.val (.int p1), .val (.int p2), .val (.int (p2 &&& (2147483647 : Int32))), .val (.int (p1 &&& (3 : Int32))), .val (.int P), .val (.int (own_utf8 P)), .unset, .unset, .unset, .unset, .unset] [(.int (ushI (own_utf8 P) (24 : Int32)))]))
    refine Fin.step (fun _ => XS.istore Xy2.here hx rfl (hb hby at_80) rfl (l' := #[.val (.int p1), .val (.int p2), .val (.int (p2 &&& (2147483647 : Int32))), .val (.int (p1 &&& (3 : Int32))), .val (.int P), .val (.int (own_utf8 P)), .val (.int (ushI (own_utf8 P) (24 : Int32))), .unset, .unset, .unset, .unset]) rfl) ?_
    show Fin p e below s _ _ _ (Ty2.setTop (mkF m 82 #[.val (.int p1), .val (.int p2), .val (.int (p2 &&& (2147483647 : Int32))), .val (.int (p1 &&& (3 : Int32))), .val (.int P), .val (.int (own_utf8 P)), .val (.int (ushI (own_utf8 P) (24 : Int32))), .unset, .unset, .unset, .unset] []))
    refine Fin.step (fun _ => XS.iload Xy2.here hx rfl (hb hby at_82) rfl) ?_
    show Fin p e below s _ _ _ (Ty2.setTop (mkF m 84 #[.val (.int p1), .val (.int p2), .val (.int (p2 &&& (2147483647 : Int32))), .val (.int (p1 &&& (3 : Int32))), .val (.int P), .val (.int (own_utf8 P)), .val (.int (ushI (own_utf8 P) (24 : Int32))), .unset, .unset, .unset, .unset] [(.int (own_utf8 P))]))
    refine Fin.step (fun _ => XS.bipush Xy2.here hx rfl (hb hby at_84)) ?_
    show Fin p e below s _ _ _ (Ty2.setTop (mkF m 86 #[.val (.int p1), .val (.int p2), .val (.int (p2 &&& (2147483647 : Int32))), .val (.int (p1 &&& (3 : Int32))), .val (.int P), .val (.int (own_utf8 P)), .val (.int (ushI (own_utf8 P) (24 : Int32))), .unset, .unset, .unset, .unset] [(.int (16 : Int32)), (.int (own_utf8 P))]))
    refine Fin.step (fun _ => XS.iushr Xy2.here hx rfl (hb hby at_86) rfl) ?_
    show Fin p e below s _ _ _ (Ty2.setTop (mkF m 87 #[.val (.int p1), .val (.int p2), .val (.int (p2 &&& (2147483647 : Int32))), .val (.int (p1 &&& (3 : Int32))), .val (.int P), .val (.int (own_utf8 P)), .val (.int (ushI (own_utf8 P) (24 : Int32))), .unset, .unset, .unset, .unset] [(.int (ushI (own_utf8 P) (16 : Int32)))]))
    refine Fin.step (fun _ => XS.sipush Xy2.here hx rfl (hb hby at_87)) ?_
    show Fin p e below s _ _ _ (Ty2.setTop (mkF m 90 #[.val (.int p1), .val (.int p2), .val (.int (p2 &&& (2147483647 : Int32))), .val (.int (p1 &&& (3 : Int32))), .val (.int P), .val (.int (own_utf8 P)), .val (.int (ushI (own_utf8 P) (24 : Int32))), .unset, .unset, .unset, .unset] [(.int (255 : Int32)), (.int (ushI (own_utf8 P) (16 : Int32)))]))
    refine Fin.step (fun _ => XS.iand Xy2.here hx rfl (hb hby at_90) rfl) ?_
    show Fin p e below s _ _ _ (Ty2.setTop (mkF m 91 #[.val (.int p1), .val (.int p2), .val (.int (p2 &&& (2147483647 : Int32))), .val (.int (p1 &&& (3 : Int32))), .val (.int P), .val (.int (own_utf8 P)), .val (.int (ushI (own_utf8 P) (24 : Int32))), .unset, .unset, .unset, .unset] [(.int ((ushI (own_utf8 P) (16 : Int32)) &&& (255 : Int32)))]))
    refine Fin.step (fun _ => XS.istore Xy2.here hx rfl (hb hby at_91) rfl (l' := #[.val (.int p1), .val (.int p2), .val (.int (p2 &&& (2147483647 : Int32))), .val (.int (p1 &&& (3 : Int32))), .val (.int P), .val (.int (own_utf8 P)), .val (.int (ushI (own_utf8 P) (24 : Int32))), .val (.int ((ushI (own_utf8 P) (16 : Int32)) &&& (255 : Int32))), .unset, .unset, .unset]) rfl) ?_
    show Fin p e below s _ _ _ (Ty2.setTop (mkF m 93 #[.val (.int p1), .val (.int p2), .val (.int (p2 &&& (2147483647 : Int32))), .val (.int (p1 &&& (3 : Int32))), .val (.int P), .val (.int (own_utf8 P)), .val (.int (ushI (own_utf8 P) (24 : Int32))), .val (.int ((ushI (own_utf8 P) (16 : Int32)) &&& (255 : Int32))), .unset, .unset, .unset] []))
    refine Fin.step (fun _ => XS.iload Xy2.here hx rfl (hb hby at_93) rfl) ?_
    show Fin p e below s _ _ _ (Ty2.setTop (mkF m 95 #[.val (.int p1), .val (.int p2), .val (.int (p2 &&& (2147483647 : Int32))), .val (.int (p1 &&& (3 : Int32))), .val (.int P), .val (.int (own_utf8 P)), .val (.int (ushI (own_utf8 P) (24 : Int32))), .val (.int ((ushI (own_utf8 P) (16 : Int32)) &&& (255 : Int32))), .unset, .unset, .unset] [(.int (own_utf8 P))]))
    refine Fin.step (fun _ => XS.bipush Xy2.here hx rfl (hb hby at_95)) ?_
    show Fin p e below s _ _ _ (Ty2.setTop (mkF m 97 #[.val (.int p1), .val (.int p2), .val (.int (p2 &&& (2147483647 : Int32))), .val (.int (p1 &&& (3 : Int32))), .val (.int P), .val (.int (own_utf8 P)), .val (.int (ushI (own_utf8 P) (24 : Int32))), .val (.int ((ushI (own_utf8 P) (16 : Int32)) &&& (255 : Int32))), .unset, .unset, .unset] [(.int (8 : Int32)), (.int (own_utf8 P))]))
    refine Fin.step (fun _ => XS.iushr Xy2.here hx rfl (hb hby at_97) rfl) ?_
    show Fin p e below s _ _ _ (Ty2.setTop (mkF m 98 #[.val (.int p1), .val (.int p2), .val (.int (p2 &&& (2147483647 : Int32))), .val (.int (p1 &&& (3 : Int32))), .val (.int P), .val (.int (own_utf8 P)), .val (.int (ushI (own_utf8 P) (24 : Int32))), .val (.int ((ushI (own_utf8 P) (16 : Int32)) &&& (255 : Int32))), .unset, .unset, .unset] [(.int (ushI (own_utf8 P) (8 : Int32)))]))
    refine Fin.step (fun _ => XS.sipush Xy2.here hx rfl (hb hby at_98)) ?_
    show Fin p e below s _ _ _ (Ty2.setTop (mkF m 101 #[.val (.int p1), .val (.int p2), .val (.int (p2 &&& (2147483647 : Int32))), .val (.int (p1 &&& (3 : Int32))), .val (.int P), .val (.int (own_utf8 P)), .val (.int (ushI (own_utf8 P) (24 : Int32))), .val (.int ((ushI (own_utf8 P) (16 : Int32)) &&& (255 : Int32))), .unset, .unset, .unset] [(.int (255 : Int32)), (.int (ushI (own_utf8 P) (8 : Int32)))]))
    refine Fin.step (fun _ => XS.iand Xy2.here hx rfl (hb hby at_101) rfl) ?_
    show Fin p e below s _ _ _ (Ty2.setTop (mkF m 102 #[.val (.int p1), .val (.int p2), .val (.int (p2 &&& (2147483647 : Int32))), .val (.int (p1 &&& (3 : Int32))), .val (.int P), .val (.int (own_utf8 P)), .val (.int (ushI (own_utf8 P) (24 : Int32))), .val (.int ((ushI (own_utf8 P) (16 : Int32)) &&& (255 : Int32))), .unset, .unset, .unset] [(.int ((ushI (own_utf8 P) (8 : Int32)) &&& (255 : Int32)))]))
    refine Fin.step (fun _ => XS.istore Xy2.here hx rfl (hb hby at_102) rfl (l' := #[.val (.int p1), .val (.int p2), .val (.int (p2 &&& (2147483647 : Int32))), .val (.int (p1 &&& (3 : Int32))), .val (.int P), .val (.int (own_utf8 P)), .val (.int (ushI (own_utf8 P) (24 : Int32))), .val (.int ((ushI (own_utf8 P) (16 : Int32)) &&& (255 : Int32))), .val (.int ((ushI (own_utf8 P) (8 : Int32)) &&& (255 : Int32))), .unset, .unset]) rfl) ?_
    show Fin p e below s _ _ _ (Ty2.setTop (mkF m 104 #[.val (.int p1), .val (.int p2), .val (.int (p2 &&& (2147483647 : Int32))), .val (.int (p1 &&& (3 : Int32))), .val (.int P), .val (.int (own_utf8 P)), .val (.int (ushI (own_utf8 P) (24 : Int32))), .val (.int ((ushI (own_utf8 P) (16 : Int32)) &&& (255 : Int32))), .val (.int ((ushI (own_utf8 P) (8 : Int32)) &&& (255 : Int32))), .unset, .unset] []))
    refine Fin.step (fun _ => XS.iload Xy2.here hx rfl (hb hby at_104) rfl) ?_
    show Fin p e below s _ _ _ (Ty2.setTop (mkF m 106 #[.val (.int p1), .val (.int p2), .val (.int (p2 &&& (2147483647 : Int32))), .val (.int (p1 &&& (3 : Int32))), .val (.int P), .val (.int (own_utf8 P)), .val (.int (ushI (own_utf8 P) (24 : Int32))), .val (.int ((ushI (own_utf8 P) (16 : Int32)) &&& (255 : Int32))), .val (.int ((ushI (own_utf8 P) (8 : Int32)) &&& (255 : Int32))), .unset, .unset] [(.int (own_utf8 P))]))
    refine Fin.step (fun _ => XS.sipush Xy2.here hx rfl (hb hby at_106)) ?_
    show Fin p e below s _ _ _ (Ty2.setTop (mkF m 109 #[.val (.int p1), .val (.int p2), .val (.int (p2 &&& (2147483647 : Int32))), .val (.int (p1 &&& (3 : Int32))), .val (.int P), .val (.int (own_utf8 P)), .val (.int (ushI (own_utf8 P) (24 : Int32))), .val (.int ((ushI (own_utf8 P) (16 : Int32)) &&& (255 : Int32))), .val (.int ((ushI (own_utf8 P) (8 : Int32)) &&& (255 : Int32))), .unset, .unset] [(.int (255 : Int32)), (.int (own_utf8 P))]))
    refine Fin.step (fun _ => XS.iand Xy2.here hx rfl (hb hby at_109) rfl) ?_
    show Fin p e below s _ _ _ (Ty2.setTop (mkF m 110 #[.val (.int p1), .val (.int p2), .val (.int (p2 &&& (2147483647 : Int32))), .val (.int (p1 &&& (3 : Int32))), .val (.int P), .val (.int (own_utf8 P)), .val (.int (ushI (own_utf8 P) (24 : Int32))), .val (.int ((ushI (own_utf8 P) (16 : Int32)) &&& (255 : Int32))), .val (.int ((ushI (own_utf8 P) (8 : Int32)) &&& (255 : Int32))), .unset, .unset] [(.int ((own_utf8 P) &&& (255 : Int32)))]))
    refine Fin.step (fun _ => XS.istore Xy2.here hx rfl (hb hby at_110) rfl (l' := #[.val (.int p1), .val (.int p2), .val (.int (p2 &&& (2147483647 : Int32))), .val (.int (p1 &&& (3 : Int32))), .val (.int P), .val (.int (own_utf8 P)), .val (.int (ushI (own_utf8 P) (24 : Int32))), .val (.int ((ushI (own_utf8 P) (16 : Int32)) &&& (255 : Int32))), .val (.int ((ushI (own_utf8 P) (8 : Int32)) &&& (255 : Int32))), .val (.int ((own_utf8 P) &&& (255 : Int32))), .unset]) rfl) ?_
    show Fin p e below s _ _ _ (Ty2.setTop (mkF m 112 #[.val (.int p1), .val (.int p2), .val (.int (p2 &&& (2147483647 : Int32))), .val (.int (p1 &&& (3 : Int32))), .val (.int P), .val (.int (own_utf8 P)), .val (.int (ushI (own_utf8 P) (24 : Int32))), .val (.int ((ushI (own_utf8 P) (16 : Int32)) &&& (255 : Int32))), .val (.int ((ushI (own_utf8 P) (8 : Int32)) &&& (255 : Int32))), .val (.int ((own_utf8 P) &&& (255 : Int32))), .unset] []))
    refine Fin.step (fun _ => XS.iload Xy2.here hx rfl (hb hby at_112) rfl) ?_
    show Fin p e below s _ _ _ (Ty2.setTop (mkF m 114 #[.val (.int p1), .val (.int p2), .val (.int (p2 &&& (2147483647 : Int32))), .val (.int (p1 &&& (3 : Int32))), .val (.int P), .val (.int (own_utf8 P)), .val (.int (ushI (own_utf8 P) (24 : Int32))), .val (.int ((ushI (own_utf8 P) (16 : Int32)) &&& (255 : Int32))), .val (.int ((ushI (own_utf8 P) (8 : Int32)) &&& (255 : Int32))), .val (.int ((own_utf8 P) &&& (255 : Int32))), .unset] [(.int P)]))
    refine Fin.step (fun _ => XS.sipush Xy2.here hx rfl (hb hby at_114)) ?_
    show Fin p e below s _ _ _ (Ty2.setTop (mkF m 117 #[.val (.int p1), .val (.int p2), .val (.int (p2 &&& (2147483647 : Int32))), .val (.int (p1 &&& (3 : Int32))), .val (.int P), .val (.int (own_utf8 P)), .val (.int (ushI (own_utf8 P) (24 : Int32))), .val (.int ((ushI (own_utf8 P) (16 : Int32)) &&& (255 : Int32))), .val (.int ((ushI (own_utf8 P) (8 : Int32)) &&& (255 : Int32))), .val (.int ((own_utf8 P) &&& (255 : Int32))), .unset] [(.int (128 : Int32)), (.int P)]))
    refine Fin.step (fun _ => XS.icmpNo Xy2.here hx rfl (hb hby at_117) rfl (tlt ((by rw [Int32.lt_iff_toInt_lt]; show _ < (128 : Int); omega) : (P < (128 : Int32)))).2.1) ?_
    show Fin p e below s _ _ _ (Ty2.setTop (mkF m 120 #[.val (.int p1), .val (.int p2), .val (.int (p2 &&& (2147483647 : Int32))), .val (.int (p1 &&& (3 : Int32))), .val (.int P), .val (.int (own_utf8 P)), .val (.int (ushI (own_utf8 P) (24 : Int32))), .val (.int ((ushI (own_utf8 P) (16 : Int32)) &&& (255 : Int32))), .val (.int ((ushI (own_utf8 P) (8 : Int32)) &&& (255 : Int32))), .val (.int ((own_utf8 P) &&& (255 : Int32))), .unset] []))
    refine Fin.step (fun _ => XS.iload Xy2.here hx rfl (hb hby at_120) rfl) ?_
    show Fin p e below s _ _ _ (Ty2.setTop (mkF m 122 #[.val (.int p1), .val (.int p2), .val (.int (p2 &&& (2147483647 : Int32))), .val (.int (p1 &&& (3 : Int32))), .val (.int P), .val (.int (own_utf8 P)), .val (.int (ushI (own_utf8 P) (24 : Int32))), .val (.int ((ushI (own_utf8 P) (16 : Int32)) &&& (255 : Int32))), .val (.int ((ushI (own_utf8 P) (8 : Int32)) &&& (255 : Int32))), .val (.int ((own_utf8 P) &&& (255 : Int32))), .unset] [(.int (own_utf8 P))]))
    refine Fin.step (fun _ => XS.iload Xy2.here hx rfl (hb hby at_122) rfl) ?_
    show Fin p e below s _ _ _ (Ty2.setTop (mkF m 124 #[.val (.int p1), .val (.int p2), .val (.int (p2 &&& (2147483647 : Int32))), .val (.int (p1 &&& (3 : Int32))), .val (.int P), .val (.int (own_utf8 P)), .val (.int (ushI (own_utf8 P) (24 : Int32))), .val (.int ((ushI (own_utf8 P) (16 : Int32)) &&& (255 : Int32))), .val (.int ((ushI (own_utf8 P) (8 : Int32)) &&& (255 : Int32))), .val (.int ((own_utf8 P) &&& (255 : Int32))), .unset] [(.int P), (.int (own_utf8 P))]))
    refine Fin.step (fun _ => XS.icmpNo Xy2.here hx rfl (hb hby at_124) rfl (teq ((by rw [own_utf8, if_pos (show P < 128 by rw [Int32.lt_iff_toInt_lt]; show _ < (128 : Int); omega)]) : ((own_utf8 P) = P))).2) ?_
    show Fin p e below s _ _ _ (Ty2.setTop (mkF m 127 #[.val (.int p1), .val (.int p2), .val (.int (p2 &&& (2147483647 : Int32))), .val (.int (p1 &&& (3 : Int32))), .val (.int P), .val (.int (own_utf8 P)), .val (.int (ushI (own_utf8 P) (24 : Int32))), .val (.int ((ushI (own_utf8 P) (16 : Int32)) &&& (255 : Int32))), .val (.int ((ushI (own_utf8 P) (8 : Int32)) &&& (255 : Int32))), .val (.int ((own_utf8 P) &&& (255 : Int32))), .unset] []))
    refine Fin.step (fun _ => XS.iconst Xy2.here hx rfl (hb hby at_127)) ?_
    show Fin p e below s _ _ _ (Ty2.setTop (mkF m 128 #[.val (.int p1), .val (.int p2), .val (.int (p2 &&& (2147483647 : Int32))), .val (.int (p1 &&& (3 : Int32))), .val (.int P), .val (.int (own_utf8 P)), .val (.int (ushI (own_utf8 P) (24 : Int32))), .val (.int ((ushI (own_utf8 P) (16 : Int32)) &&& (255 : Int32))), .val (.int ((ushI (own_utf8 P) (8 : Int32)) &&& (255 : Int32))), .val (.int ((own_utf8 P) &&& (255 : Int32))), .unset] [(.int (1 : Int32))]))
    refine Fin.step (fun _ => XS.goto Xy2.here hx rfl (pc0 := 128) (pc' := 132) rfl (hb hby at_128) (by decide) (by decide)) ?_
    show Fin p e below s _ _ _ (Ty2.setTop (mkF m 132 #[.val (.int p1), .val (.int p2), .val (.int (p2 &&& (2147483647 : Int32))), .val (.int (p1 &&& (3 : Int32))), .val (.int P), .val (.int (own_utf8 P)), .val (.int (ushI (own_utf8 P) (24 : Int32))), .val (.int ((ushI (own_utf8 P) (16 : Int32)) &&& (255 : Int32))), .val (.int ((ushI (own_utf8 P) (8 : Int32)) &&& (255 : Int32))), .val (.int ((own_utf8 P) &&& (255 : Int32))), .unset] [(.int (1 : Int32))]))
    refine Fin.step (fun _ => XS.istore Xy2.here hx rfl (hb hby at_132) rfl (l' := #[.val (.int p1), .val (.int p2), .val (.int (p2 &&& (2147483647 : Int32))), .val (.int (p1 &&& (3 : Int32))), .val (.int P), .val (.int (own_utf8 P)), .val (.int (ushI (own_utf8 P) (24 : Int32))), .val (.int ((ushI (own_utf8 P) (16 : Int32)) &&& (255 : Int32))), .val (.int ((ushI (own_utf8 P) (8 : Int32)) &&& (255 : Int32))), .val (.int ((own_utf8 P) &&& (255 : Int32))), .val (.int (1 : Int32))]) rfl) ?_
    show Fin p e below s _ _ _ (Ty2.setTop (mkF m 134 #[.val (.int p1), .val (.int p2), .val (.int (p2 &&& (2147483647 : Int32))), .val (.int (p1 &&& (3 : Int32))), .val (.int P), .val (.int (own_utf8 P)), .val (.int (ushI (own_utf8 P) (24 : Int32))), .val (.int ((ushI (own_utf8 P) (16 : Int32)) &&& (255 : Int32))), .val (.int ((ushI (own_utf8 P) (8 : Int32)) &&& (255 : Int32))), .val (.int ((own_utf8 P) &&& (255 : Int32))), .val (.int (1 : Int32))] []))
    refine Fin.step (fun _ => XS.goto Xy2.here hx rfl (pc0 := 134) (pc' := 362) rfl (hb hby at_134) (by decide) (by decide)) ?_
    show Fin p e below s _ _ _ (Ty2.setTop (mkF m 362 #[.val (.int p1), .val (.int p2), .val (.int (p2 &&& (2147483647 : Int32))), .val (.int (p1 &&& (3 : Int32))), .val (.int P), .val (.int (own_utf8 P)), .val (.int (ushI (own_utf8 P) (24 : Int32))), .val (.int ((ushI (own_utf8 P) (16 : Int32)) &&& (255 : Int32))), .val (.int ((ushI (own_utf8 P) (8 : Int32)) &&& (255 : Int32))), .val (.int ((own_utf8 P) &&& (255 : Int32))), .val (.int (1 : Int32))] []))
    refine Fin.step (fun _ => XS.iload Xy2.here hx rfl (hb hby at_362) rfl) ?_
    show Fin p e below s _ _ _ (Ty2.setTop (mkF m 364 #[.val (.int p1), .val (.int p2), .val (.int (p2 &&& (2147483647 : Int32))), .val (.int (p1 &&& (3 : Int32))), .val (.int P), .val (.int (own_utf8 P)), .val (.int (ushI (own_utf8 P) (24 : Int32))), .val (.int ((ushI (own_utf8 P) (16 : Int32)) &&& (255 : Int32))), .val (.int ((ushI (own_utf8 P) (8 : Int32)) &&& (255 : Int32))), .val (.int ((own_utf8 P) &&& (255 : Int32))), .val (.int (1 : Int32))] [(.int (1 : Int32))]))
    refine Fin.retN Xy2 hx (t := .boolean) hret (by simp) hlk (hb hby at_364) (by decide) (by decide) ?_
    show Q0 Z p1 p2 h0 n0 _ Ty2.heap _
    rw [eqy2]
    exact ⟨rfl, Ny2, rfl⟩
  · refine Fin.step (fun _ => XS.ifYes X0.here hx rfl (pc0 := 10) (pc' := 22) rfl (hb hby at_10) rfl ((if0 _ _).trans (feq (hcy1 : ¬ ((p1 &&& (3 : Int32)) = (0 : Int32)))).2) (by decide) (by decide)) ?_
    show Fin p e below s _ _ _ (s₁.setTop (mkF m 22 #[.val (.int p1), .val (.int p2), .val (.int (p2 &&& (2147483647 : Int32))), .val (.int (p1 &&& (3 : Int32))), .unset, .unset, .unset, .unset, .unset, .unset, .unset] []))
    refine Fin.step (fun _ => XS.iloadN X0.here hx rfl (hb hby at_22) rfl) ?_
    show Fin p e below s _ _ _ (s₁.setTop (mkF m 23 #[.val (.int p1), .val (.int p2), .val (.int (p2 &&& (2147483647 : Int32))), .val (.int (p1 &&& (3 : Int32))), .unset, .unset, .unset, .unset, .unset, .unset, .unset] [(.int (p1 &&& (3 : Int32)))]))
    refine Fin.step (fun _ => XS.iconst X0.here hx rfl (hb hby at_23)) ?_
    show Fin p e below s _ _ _ (s₁.setTop (mkF m 24 #[.val (.int p1), .val (.int p2), .val (.int (p2 &&& (2147483647 : Int32))), .val (.int (p1 &&& (3 : Int32))), .unset, .unset, .unset, .unset, .unset, .unset, .unset] [(.int (1 : Int32)), (.int (p1 &&& (3 : Int32)))]))
    by_cases hcy3 : (p1 &&& (3 : Int32)) = (1 : Int32)
    · refine Fin.step (fun _ => XS.icmpNo X0.here hx rfl (hb hby at_24) rfl (teq (hcy3 : ((p1 &&& (3 : Int32)) = (1 : Int32)))).2) ?_
      show Fin p e below s _ _ _ (s₁.setTop (mkF m 27 #[.val (.int p1), .val (.int p2), .val (.int (p2 &&& (2147483647 : Int32))), .val (.int (p1 &&& (3 : Int32))), .unset, .unset, .unset, .unset, .unset, .unset, .unset] []))
      refine Fin.step (fun _ => XS.sipush X0.here hx rfl (hb hby at_27)) ?_
      show Fin p e below s _ _ _ (s₁.setTop (mkF m 30 #[.val (.int p1), .val (.int p2), .val (.int (p2 &&& (2147483647 : Int32))), .val (.int (p1 &&& (3 : Int32))), .unset, .unset, .unset, .unset, .unset, .unset, .unset] [(.int (128 : Int32))]))
      refine Fin.step (fun _ => XS.iloadN X0.here hx rfl (hb hby at_30) rfl) ?_
      show Fin p e below s _ _ _ (s₁.setTop (mkF m 31 #[.val (.int p1), .val (.int p2), .val (.int (p2 &&& (2147483647 : Int32))), .val (.int (p1 &&& (3 : Int32))), .unset, .unset, .unset, .unset, .unset, .unset, .unset] [(.int (p2 &&& (2147483647 : Int32))), (.int (128 : Int32))]))
      refine Fin.step (fun _ => XS.sipush X0.here hx rfl (hb hby at_31)) ?_
      show Fin p e below s _ _ _ (s₁.setTop (mkF m 34 #[.val (.int p1), .val (.int p2), .val (.int (p2 &&& (2147483647 : Int32))), .val (.int (p1 &&& (3 : Int32))), .unset, .unset, .unset, .unset, .unset, .unset, .unset] [(.int (1920 : Int32)), (.int (p2 &&& (2147483647 : Int32))), (.int (128 : Int32))]))
      refine Fin.step (fun _ => iremM X0 hx (g := (mkF m 34 #[.val (.int p1), .val (.int p2), .val (.int (p2 &&& (2147483647 : Int32))), .val (.int (p1 &&& (3 : Int32))), .unset, .unset, .unset, .unset, .unset, .unset, .unset] [(.int (1920 : Int32)), (.int (p2 &&& (2147483647 : Int32))), (.int (128 : Int32))])) rfl (hb hby at_34) rfl (by decide)) ?_
      show Fin p e below s _ _ _ (s₁.setTop (mkF m 35 #[.val (.int p1), .val (.int p2), .val (.int (p2 &&& (2147483647 : Int32))), .val (.int (p1 &&& (3 : Int32))), .unset, .unset, .unset, .unset, .unset, .unset, .unset] [(.int ((p2 &&& (2147483647 : Int32)) % (1920 : Int32))), (.int (128 : Int32))]))
      refine Fin.step (fun _ => XS.iadd X0.here hx rfl (hb hby at_35) rfl) ?_
      show Fin p e below s _ _ _ (s₁.setTop (mkF m 36 #[.val (.int p1), .val (.int p2), .val (.int (p2 &&& (2147483647 : Int32))), .val (.int (p1 &&& (3 : Int32))), .unset, .unset, .unset, .unset, .unset, .unset, .unset] [(.int ((128 : Int32) + ((p2 &&& (2147483647 : Int32)) % (1920 : Int32))))]))
      refine Fin.step (fun _ => XS.istore X0.here hx rfl (hb hby at_36) rfl (l' := #[.val (.int p1), .val (.int p2), .val (.int (p2 &&& (2147483647 : Int32))), .val (.int (p1 &&& (3 : Int32))), .val (.int ((128 : Int32) + ((p2 &&& (2147483647 : Int32)) % (1920 : Int32)))), .unset, .unset, .unset, .unset, .unset, .unset]) rfl) ?_
      show Fin p e below s _ _ _ (s₁.setTop (mkF m 38 #[.val (.int p1), .val (.int p2), .val (.int (p2 &&& (2147483647 : Int32))), .val (.int (p1 &&& (3 : Int32))), .val (.int ((128 : Int32) + ((p2 &&& (2147483647 : Int32)) % (1920 : Int32)))), .unset, .unset, .unset, .unset, .unset, .unset] []))
      refine Fin.step (fun _ => XS.goto X0.here hx rfl (pc0 := 38) (pc' := 68) rfl (hb hby at_38) (by decide) (by decide)) ?_
      show Fin p e below s _ _ _ (s₁.setTop (mkF m 68 #[.val (.int p1), .val (.int p2), .val (.int (p2 &&& (2147483647 : Int32))), .val (.int (p1 &&& (3 : Int32))), .val (.int ((128 : Int32) + ((p2 &&& (2147483647 : Int32)) % (1920 : Int32)))), .unset, .unset, .unset, .unset, .unset, .unset] []))
      have hBd : 128 ≤ (((128 : Int32) + ((p2 &&& (2147483647 : Int32)) % (1920 : Int32)))).toInt ∧ (((128 : Int32) + ((p2 &&& (2147483647 : Int32)) % (1920 : Int32)))).toInt < 2048 := own_pk p2 128 1920 (by decide) (by decide) (by decide)
      obtain ⟨P, h_P⟩ : ∃ z : Int32, z = ((128 : Int32) + ((p2 &&& (2147483647 : Int32)) % (1920 : Int32))) := ⟨_, rfl⟩
      rw [← h_P]
      rw [← h_P] at hBd
      show Fin p e below s _ _ _ (s₁.setTop (mkF m 68 #[.val (.int p1), .val (.int p2), .val (.int (p2 &&& (2147483647 : Int32))), .val (.int (p1 &&& (3 : Int32))), .val (.int P), .unset, .unset, .unset, .unset, .unset, .unset] []))
      have G := own_g2 P hBd.1 hBd.2
      refine Fin.step (fun _ => XS.iload X0.here hx rfl (hb hby at_68) rfl) ?_
      show Fin p e below s _ _ _ (s₁.setTop (mkF m 70 #[.val (.int p1), .val (.int p2), .val (.int (p2 &&& (2147483647 : Int32))), .val (.int (p1 &&& (3 : Int32))), .val (.int P), .unset, .unset, .unset, .unset, .unset, .unset] [(.int P)]))
      obtain ⟨_, _, ⟨Ty4, Ly4, ky4, ny4⟩, -, Xy4, ⟨Lcy4, hQy4, ly4, yy4, zy4⟩, sty4⟩ := Jvm.LawKit.callS X0 hx (y := (⟨"com/example/stavetree/stavetree/Utf8Stores$Utf8Key", "utf8", "(I)I"⟩ : MethodName)) hown (mvT hZ (hw _ (List.mem_of_getElem? (i := 1) rfl))) (mvT hZ (hw _ (List.mem_of_getElem? (i := 2) rfl))) (mvT hZ (hw _ (List.mem_of_getElem? (i := 3) rfl))) (mvT hZ (hw _ (List.mem_of_getElem? (i := 4) rfl))) (by decide) (backOf (W := 0) (rm1 l Z a0 hw [] P h0 n0 Z0 ) hZ (hw _ (List.mem_of_getElem? (i := 4) rfl)) (hw _ (List.mem_of_getElem? (i := 3) rfl)) (by decide) (by decide)) (g := (mkF m 70 #[.val (.int p1), .val (.int p2), .val (.int (p2 &&& (2147483647 : Int32))), .val (.int (p1 &&& (3 : Int32))), .val (.int P), .unset, .unset, .unset, .unset, .unset, .unset] [(.int P)])) rfl (by rw [hml]; rfl) (argsL := [(.int P)]) (rest := []) (lenOf pd_0 rfl) rfl (by show 2 * 0 + _ ≤ _; exact Nat.le_of_eq rfl) (hb hby at_70) (fun _ _ => ⟨rfl, e0, (by decide : 0 + 0 ≤ _), (by decide : 0 + 0 ≤ _)⟩)
      dsimp only [Pt.U, Pt.locs, Pt.cells, Pt.slots] at Xy4 ly4 yy4 zy4 sty4 hQy4
      subst ly4 yy4 zy4
      obtain ⟨rfl, Nqy4, eqy4⟩ := hQy4
      have Ny4 := Fr.app N0 Nqy4
      refine Fin.step (sty4) ?_
      show Fin p e below s _ _ _ (Ty4.setTop (mkF m 73 #[.val (.int p1), .val (.int p2), .val (.int (p2 &&& (2147483647 : Int32))), .val (.int (p1 &&& (3 : Int32))), .val (.int P), .unset, .unset, .unset, .unset, .unset, .unset] [(.int (own_utf8 P))]))
      refine Fin.step (fun _ => XS.istore Xy4.here hx rfl (hb hby at_73) rfl (l' := #[.val (.int p1), .val (.int p2), .val (.int (p2 &&& (2147483647 : Int32))), .val (.int (p1 &&& (3 : Int32))), .val (.int P), .val (.int (own_utf8 P)), .unset, .unset, .unset, .unset, .unset]) rfl) ?_
      show Fin p e below s _ _ _ (Ty4.setTop (mkF m 75 #[.val (.int p1), .val (.int p2), .val (.int (p2 &&& (2147483647 : Int32))), .val (.int (p1 &&& (3 : Int32))), .val (.int P), .val (.int (own_utf8 P)), .unset, .unset, .unset, .unset, .unset] []))
      refine Fin.step (fun _ => XS.iload Xy4.here hx rfl (hb hby at_75) rfl) ?_
      show Fin p e below s _ _ _ (Ty4.setTop (mkF m 77 #[.val (.int p1), .val (.int p2), .val (.int (p2 &&& (2147483647 : Int32))), .val (.int (p1 &&& (3 : Int32))), .val (.int P), .val (.int (own_utf8 P)), .unset, .unset, .unset, .unset, .unset] [(.int (own_utf8 P))]))
      refine Fin.step (fun _ => XS.bipush Xy4.here hx rfl (hb hby at_77)) ?_
      show Fin p e below s _ _ _ (Ty4.setTop (mkF m 79 #[.val (.int p1), .val (.int p2), .val (.int (p2 &&& (2147483647 : Int32))), .val (.int (p1 &&& (3 : Int32))), .val (.int P), .val (.int (own_utf8 P)), .unset, .unset, .unset, .unset, .unset] [(.int (24 : Int32)), (.int (own_utf8 P))]))
      refine Fin.step (fun _ => XS.iushr Xy4.here hx rfl (hb hby at_79) rfl) ?_
      show Fin p e below s _ _ _ (Ty4.setTop (mkF m 80 #[.val (.int p1), .val (.int p2), .val (.int (p2 &&& (2147483647 : Int32))), .val (.int (p1 &&& (3 : Int32))), .val (.int P), .val (.int (own_utf8 P)), .unset, .unset, .unset, .unset, .unset] [(.int (ushI (own_utf8 P) (24 : Int32)))]))
      refine Fin.step (fun _ => XS.istore Xy4.here hx rfl (hb hby at_80) rfl (l' := #[.val (.int p1), .val (.int p2), .val (.int (p2 &&& (2147483647 : Int32))), .val (.int (p1 &&& (3 : Int32))), .val (.int P), .val (.int (own_utf8 P)), .val (.int (ushI (own_utf8 P) (24 : Int32))), .unset, .unset, .unset, .unset]) rfl) ?_
      show Fin p e below s _ _ _ (Ty4.setTop (mkF m 82 #[.val (.int p1), .val (.int p2), .val (.int (p2 &&& (2147483647 : Int32))), .val (.int (p1 &&& (3 : Int32))), .val (.int P), .val (.int (own_utf8 P)), .val (.int (ushI (own_utf8 P) (24 : Int32))), .unset, .unset, .unset, .unset] []))
      refine Fin.step (fun _ => XS.iload Xy4.here hx rfl (hb hby at_82) rfl) ?_
      show Fin p e below s _ _ _ (Ty4.setTop (mkF m 84 #[.val (.int p1), .val (.int p2), .val (.int (p2 &&& (2147483647 : Int32))), .val (.int (p1 &&& (3 : Int32))), .val (.int P), .val (.int (own_utf8 P)), .val (.int (ushI (own_utf8 P) (24 : Int32))), .unset, .unset, .unset, .unset] [(.int (own_utf8 P))]))
      refine Fin.step (fun _ => XS.bipush Xy4.here hx rfl (hb hby at_84)) ?_
      show Fin p e below s _ _ _ (Ty4.setTop (mkF m 86 #[.val (.int p1), .val (.int p2), .val (.int (p2 &&& (2147483647 : Int32))), .val (.int (p1 &&& (3 : Int32))), .val (.int P), .val (.int (own_utf8 P)), .val (.int (ushI (own_utf8 P) (24 : Int32))), .unset, .unset, .unset, .unset] [(.int (16 : Int32)), (.int (own_utf8 P))]))
      refine Fin.step (fun _ => XS.iushr Xy4.here hx rfl (hb hby at_86) rfl) ?_
      show Fin p e below s _ _ _ (Ty4.setTop (mkF m 87 #[.val (.int p1), .val (.int p2), .val (.int (p2 &&& (2147483647 : Int32))), .val (.int (p1 &&& (3 : Int32))), .val (.int P), .val (.int (own_utf8 P)), .val (.int (ushI (own_utf8 P) (24 : Int32))), .unset, .unset, .unset, .unset] [(.int (ushI (own_utf8 P) (16 : Int32)))]))
      refine Fin.step (fun _ => XS.sipush Xy4.here hx rfl (hb hby at_87)) ?_
      show Fin p e below s _ _ _ (Ty4.setTop (mkF m 90 #[.val (.int p1), .val (.int p2), .val (.int (p2 &&& (2147483647 : Int32))), .val (.int (p1 &&& (3 : Int32))), .val (.int P), .val (.int (own_utf8 P)), .val (.int (ushI (own_utf8 P) (24 : Int32))), .unset, .unset, .unset, .unset] [(.int (255 : Int32)), (.int (ushI (own_utf8 P) (16 : Int32)))]))
      refine Fin.step (fun _ => XS.iand Xy4.here hx rfl (hb hby at_90) rfl) ?_
      show Fin p e below s _ _ _ (Ty4.setTop (mkF m 91 #[.val (.int p1), .val (.int p2), .val (.int (p2 &&& (2147483647 : Int32))), .val (.int (p1 &&& (3 : Int32))), .val (.int P), .val (.int (own_utf8 P)), .val (.int (ushI (own_utf8 P) (24 : Int32))), .unset, .unset, .unset, .unset] [(.int ((ushI (own_utf8 P) (16 : Int32)) &&& (255 : Int32)))]))
      refine Fin.step (fun _ => XS.istore Xy4.here hx rfl (hb hby at_91) rfl (l' := #[.val (.int p1), .val (.int p2), .val (.int (p2 &&& (2147483647 : Int32))), .val (.int (p1 &&& (3 : Int32))), .val (.int P), .val (.int (own_utf8 P)), .val (.int (ushI (own_utf8 P) (24 : Int32))), .val (.int ((ushI (own_utf8 P) (16 : Int32)) &&& (255 : Int32))), .unset, .unset, .unset]) rfl) ?_
      show Fin p e below s _ _ _ (Ty4.setTop (mkF m 93 #[.val (.int p1), .val (.int p2), .val (.int (p2 &&& (2147483647 : Int32))), .val (.int (p1 &&& (3 : Int32))), .val (.int P), .val (.int (own_utf8 P)), .val (.int (ushI (own_utf8 P) (24 : Int32))), .val (.int ((ushI (own_utf8 P) (16 : Int32)) &&& (255 : Int32))), .unset, .unset, .unset] []))
      refine Fin.step (fun _ => XS.iload Xy4.here hx rfl (hb hby at_93) rfl) ?_
      show Fin p e below s _ _ _ (Ty4.setTop (mkF m 95 #[.val (.int p1), .val (.int p2), .val (.int (p2 &&& (2147483647 : Int32))), .val (.int (p1 &&& (3 : Int32))), .val (.int P), .val (.int (own_utf8 P)), .val (.int (ushI (own_utf8 P) (24 : Int32))), .val (.int ((ushI (own_utf8 P) (16 : Int32)) &&& (255 : Int32))), .unset, .unset, .unset] [(.int (own_utf8 P))]))
      refine Fin.step (fun _ => XS.bipush Xy4.here hx rfl (hb hby at_95)) ?_
      show Fin p e below s _ _ _ (Ty4.setTop (mkF m 97 #[.val (.int p1), .val (.int p2), .val (.int (p2 &&& (2147483647 : Int32))), .val (.int (p1 &&& (3 : Int32))), .val (.int P), .val (.int (own_utf8 P)), .val (.int (ushI (own_utf8 P) (24 : Int32))), .val (.int ((ushI (own_utf8 P) (16 : Int32)) &&& (255 : Int32))), .unset, .unset, .unset] [(.int (8 : Int32)), (.int (own_utf8 P))]))
      refine Fin.step (fun _ => XS.iushr Xy4.here hx rfl (hb hby at_97) rfl) ?_
      show Fin p e below s _ _ _ (Ty4.setTop (mkF m 98 #[.val (.int p1), .val (.int p2), .val (.int (p2 &&& (2147483647 : Int32))), .val (.int (p1 &&& (3 : Int32))), .val (.int P), .val (.int (own_utf8 P)), .val (.int (ushI (own_utf8 P) (24 : Int32))), .val (.int ((ushI (own_utf8 P) (16 : Int32)) &&& (255 : Int32))), .unset, .unset, .unset] [(.int (ushI (own_utf8 P) (8 : Int32)))]))
      refine Fin.step (fun _ => XS.sipush Xy4.here hx rfl (hb hby at_98)) ?_
      show Fin p e below s _ _ _ (Ty4.setTop (mkF m 101 #[.val (.int p1), .val (.int p2), .val (.int (p2 &&& (2147483647 : Int32))), .val (.int (p1 &&& (3 : Int32))), .val (.int P), .val (.int (own_utf8 P)), .val (.int (ushI (own_utf8 P) (24 : Int32))), .val (.int ((ushI (own_utf8 P) (16 : Int32)) &&& (255 : Int32))), .unset, .unset, .unset] [(.int (255 : Int32)), (.int (ushI (own_utf8 P) (8 : Int32)))]))
      refine Fin.step (fun _ => XS.iand Xy4.here hx rfl (hb hby at_101) rfl) ?_
      show Fin p e below s _ _ _ (Ty4.setTop (mkF m 102 #[.val (.int p1), .val (.int p2), .val (.int (p2 &&& (2147483647 : Int32))), .val (.int (p1 &&& (3 : Int32))), .val (.int P), .val (.int (own_utf8 P)), .val (.int (ushI (own_utf8 P) (24 : Int32))), .val (.int ((ushI (own_utf8 P) (16 : Int32)) &&& (255 : Int32))), .unset, .unset, .unset] [(.int ((ushI (own_utf8 P) (8 : Int32)) &&& (255 : Int32)))]))
      refine Fin.step (fun _ => XS.istore Xy4.here hx rfl (hb hby at_102) rfl (l' := #[.val (.int p1), .val (.int p2), .val (.int (p2 &&& (2147483647 : Int32))), .val (.int (p1 &&& (3 : Int32))), .val (.int P), .val (.int (own_utf8 P)), .val (.int (ushI (own_utf8 P) (24 : Int32))), .val (.int ((ushI (own_utf8 P) (16 : Int32)) &&& (255 : Int32))), .val (.int ((ushI (own_utf8 P) (8 : Int32)) &&& (255 : Int32))), .unset, .unset]) rfl) ?_
      show Fin p e below s _ _ _ (Ty4.setTop (mkF m 104 #[.val (.int p1), .val (.int p2), .val (.int (p2 &&& (2147483647 : Int32))), .val (.int (p1 &&& (3 : Int32))), .val (.int P), .val (.int (own_utf8 P)), .val (.int (ushI (own_utf8 P) (24 : Int32))), .val (.int ((ushI (own_utf8 P) (16 : Int32)) &&& (255 : Int32))), .val (.int ((ushI (own_utf8 P) (8 : Int32)) &&& (255 : Int32))), .unset, .unset] []))
      refine Fin.step (fun _ => XS.iload Xy4.here hx rfl (hb hby at_104) rfl) ?_
      show Fin p e below s _ _ _ (Ty4.setTop (mkF m 106 #[.val (.int p1), .val (.int p2), .val (.int (p2 &&& (2147483647 : Int32))), .val (.int (p1 &&& (3 : Int32))), .val (.int P), .val (.int (own_utf8 P)), .val (.int (ushI (own_utf8 P) (24 : Int32))), .val (.int ((ushI (own_utf8 P) (16 : Int32)) &&& (255 : Int32))), .val (.int ((ushI (own_utf8 P) (8 : Int32)) &&& (255 : Int32))), .unset, .unset] [(.int (own_utf8 P))]))
      refine Fin.step (fun _ => XS.sipush Xy4.here hx rfl (hb hby at_106)) ?_
      show Fin p e below s _ _ _ (Ty4.setTop (mkF m 109 #[.val (.int p1), .val (.int p2), .val (.int (p2 &&& (2147483647 : Int32))), .val (.int (p1 &&& (3 : Int32))), .val (.int P), .val (.int (own_utf8 P)), .val (.int (ushI (own_utf8 P) (24 : Int32))), .val (.int ((ushI (own_utf8 P) (16 : Int32)) &&& (255 : Int32))), .val (.int ((ushI (own_utf8 P) (8 : Int32)) &&& (255 : Int32))), .unset, .unset] [(.int (255 : Int32)), (.int (own_utf8 P))]))
      refine Fin.step (fun _ => XS.iand Xy4.here hx rfl (hb hby at_109) rfl) ?_
      show Fin p e below s _ _ _ (Ty4.setTop (mkF m 110 #[.val (.int p1), .val (.int p2), .val (.int (p2 &&& (2147483647 : Int32))), .val (.int (p1 &&& (3 : Int32))), .val (.int P), .val (.int (own_utf8 P)), .val (.int (ushI (own_utf8 P) (24 : Int32))), .val (.int ((ushI (own_utf8 P) (16 : Int32)) &&& (255 : Int32))), .val (.int ((ushI (own_utf8 P) (8 : Int32)) &&& (255 : Int32))), .unset, .unset] [(.int ((own_utf8 P) &&& (255 : Int32)))]))
      refine Fin.step (fun _ => XS.istore Xy4.here hx rfl (hb hby at_110) rfl (l' := #[.val (.int p1), .val (.int p2), .val (.int (p2 &&& (2147483647 : Int32))), .val (.int (p1 &&& (3 : Int32))), .val (.int P), .val (.int (own_utf8 P)), .val (.int (ushI (own_utf8 P) (24 : Int32))), .val (.int ((ushI (own_utf8 P) (16 : Int32)) &&& (255 : Int32))), .val (.int ((ushI (own_utf8 P) (8 : Int32)) &&& (255 : Int32))), .val (.int ((own_utf8 P) &&& (255 : Int32))), .unset]) rfl) ?_
      show Fin p e below s _ _ _ (Ty4.setTop (mkF m 112 #[.val (.int p1), .val (.int p2), .val (.int (p2 &&& (2147483647 : Int32))), .val (.int (p1 &&& (3 : Int32))), .val (.int P), .val (.int (own_utf8 P)), .val (.int (ushI (own_utf8 P) (24 : Int32))), .val (.int ((ushI (own_utf8 P) (16 : Int32)) &&& (255 : Int32))), .val (.int ((ushI (own_utf8 P) (8 : Int32)) &&& (255 : Int32))), .val (.int ((own_utf8 P) &&& (255 : Int32))), .unset] []))
      refine Fin.step (fun _ => XS.iload Xy4.here hx rfl (hb hby at_112) rfl) ?_
      show Fin p e below s _ _ _ (Ty4.setTop (mkF m 114 #[.val (.int p1), .val (.int p2), .val (.int (p2 &&& (2147483647 : Int32))), .val (.int (p1 &&& (3 : Int32))), .val (.int P), .val (.int (own_utf8 P)), .val (.int (ushI (own_utf8 P) (24 : Int32))), .val (.int ((ushI (own_utf8 P) (16 : Int32)) &&& (255 : Int32))), .val (.int ((ushI (own_utf8 P) (8 : Int32)) &&& (255 : Int32))), .val (.int ((own_utf8 P) &&& (255 : Int32))), .unset] [(.int P)]))
      refine Fin.step (fun _ => XS.sipush Xy4.here hx rfl (hb hby at_114)) ?_
      show Fin p e below s _ _ _ (Ty4.setTop (mkF m 117 #[.val (.int p1), .val (.int p2), .val (.int (p2 &&& (2147483647 : Int32))), .val (.int (p1 &&& (3 : Int32))), .val (.int P), .val (.int (own_utf8 P)), .val (.int (ushI (own_utf8 P) (24 : Int32))), .val (.int ((ushI (own_utf8 P) (16 : Int32)) &&& (255 : Int32))), .val (.int ((ushI (own_utf8 P) (8 : Int32)) &&& (255 : Int32))), .val (.int ((own_utf8 P) &&& (255 : Int32))), .unset] [(.int (128 : Int32)), (.int P)]))
      refine Fin.step (fun _ => XS.icmpYes Xy4.here hx rfl (pc0 := 117) (pc' := 137) rfl (hb hby at_117) rfl (flt ((by rw [Int32.lt_iff_toInt_lt]; show ¬ _ < (128 : Int); omega) : ¬ (P < (128 : Int32)))).2.1 (by decide) (by decide)) ?_
      show Fin p e below s _ _ _ (Ty4.setTop (mkF m 137 #[.val (.int p1), .val (.int p2), .val (.int (p2 &&& (2147483647 : Int32))), .val (.int (p1 &&& (3 : Int32))), .val (.int P), .val (.int (own_utf8 P)), .val (.int (ushI (own_utf8 P) (24 : Int32))), .val (.int ((ushI (own_utf8 P) (16 : Int32)) &&& (255 : Int32))), .val (.int ((ushI (own_utf8 P) (8 : Int32)) &&& (255 : Int32))), .val (.int ((own_utf8 P) &&& (255 : Int32))), .unset] []))
      refine Fin.step (fun _ => XS.iload Xy4.here hx rfl (hb hby at_137) rfl) ?_
      show Fin p e below s _ _ _ (Ty4.setTop (mkF m 139 #[.val (.int p1), .val (.int p2), .val (.int (p2 &&& (2147483647 : Int32))), .val (.int (p1 &&& (3 : Int32))), .val (.int P), .val (.int (own_utf8 P)), .val (.int (ushI (own_utf8 P) (24 : Int32))), .val (.int ((ushI (own_utf8 P) (16 : Int32)) &&& (255 : Int32))), .val (.int ((ushI (own_utf8 P) (8 : Int32)) &&& (255 : Int32))), .val (.int ((own_utf8 P) &&& (255 : Int32))), .unset] [(.int P)]))
      refine Fin.step (fun _ => XS.sipush Xy4.here hx rfl (hb hby at_139)) ?_
      show Fin p e below s _ _ _ (Ty4.setTop (mkF m 142 #[.val (.int p1), .val (.int p2), .val (.int (p2 &&& (2147483647 : Int32))), .val (.int (p1 &&& (3 : Int32))), .val (.int P), .val (.int (own_utf8 P)), .val (.int (ushI (own_utf8 P) (24 : Int32))), .val (.int ((ushI (own_utf8 P) (16 : Int32)) &&& (255 : Int32))), .val (.int ((ushI (own_utf8 P) (8 : Int32)) &&& (255 : Int32))), .val (.int ((own_utf8 P) &&& (255 : Int32))), .unset] [(.int (2048 : Int32)), (.int P)]))
      refine Fin.step (fun _ => XS.icmpNo Xy4.here hx rfl (hb hby at_142) rfl (tlt ((by rw [Int32.lt_iff_toInt_lt]; show _ < (2048 : Int); omega) : (P < (2048 : Int32)))).2.1) ?_
      show Fin p e below s _ _ _ (Ty4.setTop (mkF m 145 #[.val (.int p1), .val (.int p2), .val (.int (p2 &&& (2147483647 : Int32))), .val (.int (p1 &&& (3 : Int32))), .val (.int P), .val (.int (own_utf8 P)), .val (.int (ushI (own_utf8 P) (24 : Int32))), .val (.int ((ushI (own_utf8 P) (16 : Int32)) &&& (255 : Int32))), .val (.int ((ushI (own_utf8 P) (8 : Int32)) &&& (255 : Int32))), .val (.int ((own_utf8 P) &&& (255 : Int32))), .unset] []))
      refine Fin.step (fun _ => XS.iload Xy4.here hx rfl (hb hby at_145) rfl) ?_
      show Fin p e below s _ _ _ (Ty4.setTop (mkF m 147 #[.val (.int p1), .val (.int p2), .val (.int (p2 &&& (2147483647 : Int32))), .val (.int (p1 &&& (3 : Int32))), .val (.int P), .val (.int (own_utf8 P)), .val (.int (ushI (own_utf8 P) (24 : Int32))), .val (.int ((ushI (own_utf8 P) (16 : Int32)) &&& (255 : Int32))), .val (.int ((ushI (own_utf8 P) (8 : Int32)) &&& (255 : Int32))), .val (.int ((own_utf8 P) &&& (255 : Int32))), .unset] [(.int (ushI (own_utf8 P) (24 : Int32)))]))
      refine Fin.step (fun _ => XS.ifNo Xy4.here hx rfl (hb hby at_147) rfl ((if0 _ _).trans (teq (G.1 : ((ushI (own_utf8 P) (24 : Int32)) = (0 : Int32)))).2)) ?_
      show Fin p e below s _ _ _ (Ty4.setTop (mkF m 150 #[.val (.int p1), .val (.int p2), .val (.int (p2 &&& (2147483647 : Int32))), .val (.int (p1 &&& (3 : Int32))), .val (.int P), .val (.int (own_utf8 P)), .val (.int (ushI (own_utf8 P) (24 : Int32))), .val (.int ((ushI (own_utf8 P) (16 : Int32)) &&& (255 : Int32))), .val (.int ((ushI (own_utf8 P) (8 : Int32)) &&& (255 : Int32))), .val (.int ((own_utf8 P) &&& (255 : Int32))), .unset] []))
      refine Fin.step (fun _ => XS.iload Xy4.here hx rfl (hb hby at_150) rfl) ?_
      show Fin p e below s _ _ _ (Ty4.setTop (mkF m 152 #[.val (.int p1), .val (.int p2), .val (.int (p2 &&& (2147483647 : Int32))), .val (.int (p1 &&& (3 : Int32))), .val (.int P), .val (.int (own_utf8 P)), .val (.int (ushI (own_utf8 P) (24 : Int32))), .val (.int ((ushI (own_utf8 P) (16 : Int32)) &&& (255 : Int32))), .val (.int ((ushI (own_utf8 P) (8 : Int32)) &&& (255 : Int32))), .val (.int ((own_utf8 P) &&& (255 : Int32))), .unset] [(.int ((ushI (own_utf8 P) (16 : Int32)) &&& (255 : Int32)))]))
      refine Fin.step (fun _ => XS.ifNo Xy4.here hx rfl (hb hby at_152) rfl ((if0 _ _).trans (teq (G.2.1 : (((ushI (own_utf8 P) (16 : Int32)) &&& (255 : Int32)) = (0 : Int32)))).2)) ?_
      show Fin p e below s _ _ _ (Ty4.setTop (mkF m 155 #[.val (.int p1), .val (.int p2), .val (.int (p2 &&& (2147483647 : Int32))), .val (.int (p1 &&& (3 : Int32))), .val (.int P), .val (.int (own_utf8 P)), .val (.int (ushI (own_utf8 P) (24 : Int32))), .val (.int ((ushI (own_utf8 P) (16 : Int32)) &&& (255 : Int32))), .val (.int ((ushI (own_utf8 P) (8 : Int32)) &&& (255 : Int32))), .val (.int ((own_utf8 P) &&& (255 : Int32))), .unset] []))
      refine Fin.step (fun _ => XS.iload Xy4.here hx rfl (hb hby at_155) rfl) ?_
      show Fin p e below s _ _ _ (Ty4.setTop (mkF m 157 #[.val (.int p1), .val (.int p2), .val (.int (p2 &&& (2147483647 : Int32))), .val (.int (p1 &&& (3 : Int32))), .val (.int P), .val (.int (own_utf8 P)), .val (.int (ushI (own_utf8 P) (24 : Int32))), .val (.int ((ushI (own_utf8 P) (16 : Int32)) &&& (255 : Int32))), .val (.int ((ushI (own_utf8 P) (8 : Int32)) &&& (255 : Int32))), .val (.int ((own_utf8 P) &&& (255 : Int32))), .unset] [(.int ((ushI (own_utf8 P) (8 : Int32)) &&& (255 : Int32)))]))
      refine Fin.step (fun _ => XS.sipush Xy4.here hx rfl (hb hby at_157)) ?_
      show Fin p e below s _ _ _ (Ty4.setTop (mkF m 160 #[.val (.int p1), .val (.int p2), .val (.int (p2 &&& (2147483647 : Int32))), .val (.int (p1 &&& (3 : Int32))), .val (.int P), .val (.int (own_utf8 P)), .val (.int (ushI (own_utf8 P) (24 : Int32))), .val (.int ((ushI (own_utf8 P) (16 : Int32)) &&& (255 : Int32))), .val (.int ((ushI (own_utf8 P) (8 : Int32)) &&& (255 : Int32))), .val (.int ((own_utf8 P) &&& (255 : Int32))), .unset] [(.int (224 : Int32)), (.int ((ushI (own_utf8 P) (8 : Int32)) &&& (255 : Int32)))]))
      refine Fin.step (fun _ => XS.iand Xy4.here hx rfl (hb hby at_160) rfl) ?_
      show Fin p e below s _ _ _ (Ty4.setTop (mkF m 161 #[.val (.int p1), .val (.int p2), .val (.int (p2 &&& (2147483647 : Int32))), .val (.int (p1 &&& (3 : Int32))), .val (.int P), .val (.int (own_utf8 P)), .val (.int (ushI (own_utf8 P) (24 : Int32))), .val (.int ((ushI (own_utf8 P) (16 : Int32)) &&& (255 : Int32))), .val (.int ((ushI (own_utf8 P) (8 : Int32)) &&& (255 : Int32))), .val (.int ((own_utf8 P) &&& (255 : Int32))), .unset] [(.int (((ushI (own_utf8 P) (8 : Int32)) &&& (255 : Int32)) &&& (224 : Int32)))]))
      refine Fin.step (fun _ => XS.sipush Xy4.here hx rfl (hb hby at_161)) ?_
      show Fin p e below s _ _ _ (Ty4.setTop (mkF m 164 #[.val (.int p1), .val (.int p2), .val (.int (p2 &&& (2147483647 : Int32))), .val (.int (p1 &&& (3 : Int32))), .val (.int P), .val (.int (own_utf8 P)), .val (.int (ushI (own_utf8 P) (24 : Int32))), .val (.int ((ushI (own_utf8 P) (16 : Int32)) &&& (255 : Int32))), .val (.int ((ushI (own_utf8 P) (8 : Int32)) &&& (255 : Int32))), .val (.int ((own_utf8 P) &&& (255 : Int32))), .unset] [(.int (192 : Int32)), (.int (((ushI (own_utf8 P) (8 : Int32)) &&& (255 : Int32)) &&& (224 : Int32)))]))
      refine Fin.step (fun _ => XS.icmpNo Xy4.here hx rfl (hb hby at_164) rfl (teq (G.2.2.1 : ((((ushI (own_utf8 P) (8 : Int32)) &&& (255 : Int32)) &&& (224 : Int32)) = (192 : Int32)))).2) ?_
      show Fin p e below s _ _ _ (Ty4.setTop (mkF m 167 #[.val (.int p1), .val (.int p2), .val (.int (p2 &&& (2147483647 : Int32))), .val (.int (p1 &&& (3 : Int32))), .val (.int P), .val (.int (own_utf8 P)), .val (.int (ushI (own_utf8 P) (24 : Int32))), .val (.int ((ushI (own_utf8 P) (16 : Int32)) &&& (255 : Int32))), .val (.int ((ushI (own_utf8 P) (8 : Int32)) &&& (255 : Int32))), .val (.int ((own_utf8 P) &&& (255 : Int32))), .unset] []))
      refine Fin.step (fun _ => XS.iload Xy4.here hx rfl (hb hby at_167) rfl) ?_
      show Fin p e below s _ _ _ (Ty4.setTop (mkF m 169 #[.val (.int p1), .val (.int p2), .val (.int (p2 &&& (2147483647 : Int32))), .val (.int (p1 &&& (3 : Int32))), .val (.int P), .val (.int (own_utf8 P)), .val (.int (ushI (own_utf8 P) (24 : Int32))), .val (.int ((ushI (own_utf8 P) (16 : Int32)) &&& (255 : Int32))), .val (.int ((ushI (own_utf8 P) (8 : Int32)) &&& (255 : Int32))), .val (.int ((own_utf8 P) &&& (255 : Int32))), .unset] [(.int ((own_utf8 P) &&& (255 : Int32)))]))
      obtain ⟨_, _, ⟨Ty5, Ly5, ky5, ny5⟩, -, Xy5, ⟨Lcy5, hQy5, ly5, yy5, zy5⟩, sty5⟩ := Jvm.LawKit.callS Xy4 hx (y := (⟨"com/example/stavetree/stavetree/Utf8KeyUtf8PinLaw", "cont", "(I)Z"⟩ : MethodName)) hown (mvT hZ (hw _ (List.mem_of_getElem? (i := 8) rfl))) (mvT hZ (hw _ (List.mem_of_getElem? (i := 9) rfl))) (mvT hZ (hw _ (List.mem_of_getElem? (i := 10) rfl))) (mvT hZ (hw _ (List.mem_of_getElem? (i := 11) rfl))) (by decide) (backOf (W := 0) (rm2 l Z a0 hw [] ((own_utf8 P) &&& (255 : Int32)) h0 n0 Z0 ) hZ (hw _ (List.mem_of_getElem? (i := 11) rfl)) (hw _ (List.mem_of_getElem? (i := 10) rfl)) (by decide) (by decide)) (g := (mkF m 169 #[.val (.int p1), .val (.int p2), .val (.int (p2 &&& (2147483647 : Int32))), .val (.int (p1 &&& (3 : Int32))), .val (.int P), .val (.int (own_utf8 P)), .val (.int (ushI (own_utf8 P) (24 : Int32))), .val (.int ((ushI (own_utf8 P) (16 : Int32)) &&& (255 : Int32))), .val (.int ((ushI (own_utf8 P) (8 : Int32)) &&& (255 : Int32))), .val (.int ((own_utf8 P) &&& (255 : Int32))), .unset] [(.int ((own_utf8 P) &&& (255 : Int32)))])) rfl (by rw [hml]; rfl) (argsL := [(.int ((own_utf8 P) &&& (255 : Int32)))]) (rest := []) (lenOf pd_1 rfl) rfl (by show 2 * 0 + _ ≤ _; exact Nat.le_of_eq rfl) (hb hby at_169) (fun _ _ => ⟨rfl, eqy4, (by decide : 0 + 0 ≤ _), (by decide : 0 + 0 ≤ _)⟩)
      dsimp only [Pt.U, Pt.locs, Pt.cells, Pt.slots] at Xy5 ly5 yy5 zy5 sty5 hQy5
      subst ly5 yy5 zy5
      obtain ⟨rfl, Nqy5, eqy5⟩ := hQy5
      have Ny5 := Fr.app Ny4 Nqy5
      refine Fin.step (sty5) ?_
      show Fin p e below s _ _ _ (Ty5.setTop (mkF m 172 #[.val (.int p1), .val (.int p2), .val (.int (p2 &&& (2147483647 : Int32))), .val (.int (p1 &&& (3 : Int32))), .val (.int P), .val (.int (own_utf8 P)), .val (.int (ushI (own_utf8 P) (24 : Int32))), .val (.int ((ushI (own_utf8 P) (16 : Int32)) &&& (255 : Int32))), .val (.int ((ushI (own_utf8 P) (8 : Int32)) &&& (255 : Int32))), .val (.int ((own_utf8 P) &&& (255 : Int32))), .unset] [(.int (own_cont ((own_utf8 P) &&& (255 : Int32))))]))
      refine Fin.step (fun _ => XS.ifNo Xy5.here hx rfl (hb hby at_172) rfl ((if0 _ _).trans (feq ((own_contv G.2.2.2.1) : ¬ ((own_cont ((own_utf8 P) &&& (255 : Int32))) = (0 : Int32)))).1)) ?_
      show Fin p e below s _ _ _ (Ty5.setTop (mkF m 175 #[.val (.int p1), .val (.int p2), .val (.int (p2 &&& (2147483647 : Int32))), .val (.int (p1 &&& (3 : Int32))), .val (.int P), .val (.int (own_utf8 P)), .val (.int (ushI (own_utf8 P) (24 : Int32))), .val (.int ((ushI (own_utf8 P) (16 : Int32)) &&& (255 : Int32))), .val (.int ((ushI (own_utf8 P) (8 : Int32)) &&& (255 : Int32))), .val (.int ((own_utf8 P) &&& (255 : Int32))), .unset] []))
      refine Fin.step (fun _ => XS.iload Xy5.here hx rfl (hb hby at_175) rfl) ?_
      show Fin p e below s _ _ _ (Ty5.setTop (mkF m 177 #[.val (.int p1), .val (.int p2), .val (.int (p2 &&& (2147483647 : Int32))), .val (.int (p1 &&& (3 : Int32))), .val (.int P), .val (.int (own_utf8 P)), .val (.int (ushI (own_utf8 P) (24 : Int32))), .val (.int ((ushI (own_utf8 P) (16 : Int32)) &&& (255 : Int32))), .val (.int ((ushI (own_utf8 P) (8 : Int32)) &&& (255 : Int32))), .val (.int ((own_utf8 P) &&& (255 : Int32))), .unset] [(.int ((ushI (own_utf8 P) (8 : Int32)) &&& (255 : Int32)))]))
      refine Fin.step (fun _ => XS.bipush Xy5.here hx rfl (hb hby at_177)) ?_
      show Fin p e below s _ _ _ (Ty5.setTop (mkF m 179 #[.val (.int p1), .val (.int p2), .val (.int (p2 &&& (2147483647 : Int32))), .val (.int (p1 &&& (3 : Int32))), .val (.int P), .val (.int (own_utf8 P)), .val (.int (ushI (own_utf8 P) (24 : Int32))), .val (.int ((ushI (own_utf8 P) (16 : Int32)) &&& (255 : Int32))), .val (.int ((ushI (own_utf8 P) (8 : Int32)) &&& (255 : Int32))), .val (.int ((own_utf8 P) &&& (255 : Int32))), .unset] [(.int (31 : Int32)), (.int ((ushI (own_utf8 P) (8 : Int32)) &&& (255 : Int32)))]))
      refine Fin.step (fun _ => XS.iand Xy5.here hx rfl (hb hby at_179) rfl) ?_
      show Fin p e below s _ _ _ (Ty5.setTop (mkF m 180 #[.val (.int p1), .val (.int p2), .val (.int (p2 &&& (2147483647 : Int32))), .val (.int (p1 &&& (3 : Int32))), .val (.int P), .val (.int (own_utf8 P)), .val (.int (ushI (own_utf8 P) (24 : Int32))), .val (.int ((ushI (own_utf8 P) (16 : Int32)) &&& (255 : Int32))), .val (.int ((ushI (own_utf8 P) (8 : Int32)) &&& (255 : Int32))), .val (.int ((own_utf8 P) &&& (255 : Int32))), .unset] [(.int (((ushI (own_utf8 P) (8 : Int32)) &&& (255 : Int32)) &&& (31 : Int32)))]))
      refine Fin.step (fun _ => XS.bipush Xy5.here hx rfl (hb hby at_180)) ?_
      show Fin p e below s _ _ _ (Ty5.setTop (mkF m 182 #[.val (.int p1), .val (.int p2), .val (.int (p2 &&& (2147483647 : Int32))), .val (.int (p1 &&& (3 : Int32))), .val (.int P), .val (.int (own_utf8 P)), .val (.int (ushI (own_utf8 P) (24 : Int32))), .val (.int ((ushI (own_utf8 P) (16 : Int32)) &&& (255 : Int32))), .val (.int ((ushI (own_utf8 P) (8 : Int32)) &&& (255 : Int32))), .val (.int ((own_utf8 P) &&& (255 : Int32))), .unset] [(.int (6 : Int32)), (.int (((ushI (own_utf8 P) (8 : Int32)) &&& (255 : Int32)) &&& (31 : Int32)))]))
      refine Fin.step (fun _ => XS.ishl Xy5.here hx rfl (hb hby at_182) rfl) ?_
      show Fin p e below s _ _ _ (Ty5.setTop (mkF m 183 #[.val (.int p1), .val (.int p2), .val (.int (p2 &&& (2147483647 : Int32))), .val (.int (p1 &&& (3 : Int32))), .val (.int P), .val (.int (own_utf8 P)), .val (.int (ushI (own_utf8 P) (24 : Int32))), .val (.int ((ushI (own_utf8 P) (16 : Int32)) &&& (255 : Int32))), .val (.int ((ushI (own_utf8 P) (8 : Int32)) &&& (255 : Int32))), .val (.int ((own_utf8 P) &&& (255 : Int32))), .unset] [(.int ((((ushI (own_utf8 P) (8 : Int32)) &&& (255 : Int32)) &&& (31 : Int32)) <<< ((6 : Int32) &&& 31)))]))
      refine Fin.step (fun _ => XS.iload Xy5.here hx rfl (hb hby at_183) rfl) ?_
      show Fin p e below s _ _ _ (Ty5.setTop (mkF m 185 #[.val (.int p1), .val (.int p2), .val (.int (p2 &&& (2147483647 : Int32))), .val (.int (p1 &&& (3 : Int32))), .val (.int P), .val (.int (own_utf8 P)), .val (.int (ushI (own_utf8 P) (24 : Int32))), .val (.int ((ushI (own_utf8 P) (16 : Int32)) &&& (255 : Int32))), .val (.int ((ushI (own_utf8 P) (8 : Int32)) &&& (255 : Int32))), .val (.int ((own_utf8 P) &&& (255 : Int32))), .unset] [(.int ((own_utf8 P) &&& (255 : Int32))), (.int ((((ushI (own_utf8 P) (8 : Int32)) &&& (255 : Int32)) &&& (31 : Int32)) <<< ((6 : Int32) &&& 31)))]))
      refine Fin.step (fun _ => XS.bipush Xy5.here hx rfl (hb hby at_185)) ?_
      show Fin p e below s _ _ _ (Ty5.setTop (mkF m 187 #[.val (.int p1), .val (.int p2), .val (.int (p2 &&& (2147483647 : Int32))), .val (.int (p1 &&& (3 : Int32))), .val (.int P), .val (.int (own_utf8 P)), .val (.int (ushI (own_utf8 P) (24 : Int32))), .val (.int ((ushI (own_utf8 P) (16 : Int32)) &&& (255 : Int32))), .val (.int ((ushI (own_utf8 P) (8 : Int32)) &&& (255 : Int32))), .val (.int ((own_utf8 P) &&& (255 : Int32))), .unset] [(.int (63 : Int32)), (.int ((own_utf8 P) &&& (255 : Int32))), (.int ((((ushI (own_utf8 P) (8 : Int32)) &&& (255 : Int32)) &&& (31 : Int32)) <<< ((6 : Int32) &&& 31)))]))
      refine Fin.step (fun _ => XS.iand Xy5.here hx rfl (hb hby at_187) rfl) ?_
      show Fin p e below s _ _ _ (Ty5.setTop (mkF m 188 #[.val (.int p1), .val (.int p2), .val (.int (p2 &&& (2147483647 : Int32))), .val (.int (p1 &&& (3 : Int32))), .val (.int P), .val (.int (own_utf8 P)), .val (.int (ushI (own_utf8 P) (24 : Int32))), .val (.int ((ushI (own_utf8 P) (16 : Int32)) &&& (255 : Int32))), .val (.int ((ushI (own_utf8 P) (8 : Int32)) &&& (255 : Int32))), .val (.int ((own_utf8 P) &&& (255 : Int32))), .unset] [(.int (((own_utf8 P) &&& (255 : Int32)) &&& (63 : Int32))), (.int ((((ushI (own_utf8 P) (8 : Int32)) &&& (255 : Int32)) &&& (31 : Int32)) <<< ((6 : Int32) &&& 31)))]))
      refine Fin.step (fun _ => XS.ior Xy5.here hx rfl (hb hby at_188) rfl) ?_
      show Fin p e below s _ _ _ (Ty5.setTop (mkF m 189 #[.val (.int p1), .val (.int p2), .val (.int (p2 &&& (2147483647 : Int32))), .val (.int (p1 &&& (3 : Int32))), .val (.int P), .val (.int (own_utf8 P)), .val (.int (ushI (own_utf8 P) (24 : Int32))), .val (.int ((ushI (own_utf8 P) (16 : Int32)) &&& (255 : Int32))), .val (.int ((ushI (own_utf8 P) (8 : Int32)) &&& (255 : Int32))), .val (.int ((own_utf8 P) &&& (255 : Int32))), .unset] [(.int (((((ushI (own_utf8 P) (8 : Int32)) &&& (255 : Int32)) &&& (31 : Int32)) <<< ((6 : Int32) &&& 31)) ||| (((own_utf8 P) &&& (255 : Int32)) &&& (63 : Int32))))]))
      refine Fin.step (fun _ => XS.iload Xy5.here hx rfl (hb hby at_189) rfl) ?_
      show Fin p e below s _ _ _ (Ty5.setTop (mkF m 191 #[.val (.int p1), .val (.int p2), .val (.int (p2 &&& (2147483647 : Int32))), .val (.int (p1 &&& (3 : Int32))), .val (.int P), .val (.int (own_utf8 P)), .val (.int (ushI (own_utf8 P) (24 : Int32))), .val (.int ((ushI (own_utf8 P) (16 : Int32)) &&& (255 : Int32))), .val (.int ((ushI (own_utf8 P) (8 : Int32)) &&& (255 : Int32))), .val (.int ((own_utf8 P) &&& (255 : Int32))), .unset] [(.int P), (.int (((((ushI (own_utf8 P) (8 : Int32)) &&& (255 : Int32)) &&& (31 : Int32)) <<< ((6 : Int32) &&& 31)) ||| (((own_utf8 P) &&& (255 : Int32)) &&& (63 : Int32))))]))
      refine Fin.step (fun _ => XS.icmpNo Xy5.here hx rfl (hb hby at_191) rfl (teq (G.2.2.2.2 : ((((((ushI (own_utf8 P) (8 : Int32)) &&& (255 : Int32)) &&& (31 : Int32)) <<< ((6 : Int32) &&& 31)) ||| (((own_utf8 P) &&& (255 : Int32)) &&& (63 : Int32))) = P))).2) ?_
      show Fin p e below s _ _ _ (Ty5.setTop (mkF m 194 #[.val (.int p1), .val (.int p2), .val (.int (p2 &&& (2147483647 : Int32))), .val (.int (p1 &&& (3 : Int32))), .val (.int P), .val (.int (own_utf8 P)), .val (.int (ushI (own_utf8 P) (24 : Int32))), .val (.int ((ushI (own_utf8 P) (16 : Int32)) &&& (255 : Int32))), .val (.int ((ushI (own_utf8 P) (8 : Int32)) &&& (255 : Int32))), .val (.int ((own_utf8 P) &&& (255 : Int32))), .unset] []))
      refine Fin.step (fun _ => XS.iconst Xy5.here hx rfl (hb hby at_194)) ?_
      show Fin p e below s _ _ _ (Ty5.setTop (mkF m 195 #[.val (.int p1), .val (.int p2), .val (.int (p2 &&& (2147483647 : Int32))), .val (.int (p1 &&& (3 : Int32))), .val (.int P), .val (.int (own_utf8 P)), .val (.int (ushI (own_utf8 P) (24 : Int32))), .val (.int ((ushI (own_utf8 P) (16 : Int32)) &&& (255 : Int32))), .val (.int ((ushI (own_utf8 P) (8 : Int32)) &&& (255 : Int32))), .val (.int ((own_utf8 P) &&& (255 : Int32))), .unset] [(.int (1 : Int32))]))
      refine Fin.step (fun _ => XS.goto Xy5.here hx rfl (pc0 := 195) (pc' := 199) rfl (hb hby at_195) (by decide) (by decide)) ?_
      show Fin p e below s _ _ _ (Ty5.setTop (mkF m 199 #[.val (.int p1), .val (.int p2), .val (.int (p2 &&& (2147483647 : Int32))), .val (.int (p1 &&& (3 : Int32))), .val (.int P), .val (.int (own_utf8 P)), .val (.int (ushI (own_utf8 P) (24 : Int32))), .val (.int ((ushI (own_utf8 P) (16 : Int32)) &&& (255 : Int32))), .val (.int ((ushI (own_utf8 P) (8 : Int32)) &&& (255 : Int32))), .val (.int ((own_utf8 P) &&& (255 : Int32))), .unset] [(.int (1 : Int32))]))
      refine Fin.step (fun _ => XS.istore Xy5.here hx rfl (hb hby at_199) rfl (l' := #[.val (.int p1), .val (.int p2), .val (.int (p2 &&& (2147483647 : Int32))), .val (.int (p1 &&& (3 : Int32))), .val (.int P), .val (.int (own_utf8 P)), .val (.int (ushI (own_utf8 P) (24 : Int32))), .val (.int ((ushI (own_utf8 P) (16 : Int32)) &&& (255 : Int32))), .val (.int ((ushI (own_utf8 P) (8 : Int32)) &&& (255 : Int32))), .val (.int ((own_utf8 P) &&& (255 : Int32))), .val (.int (1 : Int32))]) rfl) ?_
      show Fin p e below s _ _ _ (Ty5.setTop (mkF m 201 #[.val (.int p1), .val (.int p2), .val (.int (p2 &&& (2147483647 : Int32))), .val (.int (p1 &&& (3 : Int32))), .val (.int P), .val (.int (own_utf8 P)), .val (.int (ushI (own_utf8 P) (24 : Int32))), .val (.int ((ushI (own_utf8 P) (16 : Int32)) &&& (255 : Int32))), .val (.int ((ushI (own_utf8 P) (8 : Int32)) &&& (255 : Int32))), .val (.int ((own_utf8 P) &&& (255 : Int32))), .val (.int (1 : Int32))] []))
      refine Fin.step (fun _ => XS.goto Xy5.here hx rfl (pc0 := 201) (pc' := 362) rfl (hb hby at_201) (by decide) (by decide)) ?_
      show Fin p e below s _ _ _ (Ty5.setTop (mkF m 362 #[.val (.int p1), .val (.int p2), .val (.int (p2 &&& (2147483647 : Int32))), .val (.int (p1 &&& (3 : Int32))), .val (.int P), .val (.int (own_utf8 P)), .val (.int (ushI (own_utf8 P) (24 : Int32))), .val (.int ((ushI (own_utf8 P) (16 : Int32)) &&& (255 : Int32))), .val (.int ((ushI (own_utf8 P) (8 : Int32)) &&& (255 : Int32))), .val (.int ((own_utf8 P) &&& (255 : Int32))), .val (.int (1 : Int32))] []))
      refine Fin.step (fun _ => XS.iload Xy5.here hx rfl (hb hby at_362) rfl) ?_
      show Fin p e below s _ _ _ (Ty5.setTop (mkF m 364 #[.val (.int p1), .val (.int p2), .val (.int (p2 &&& (2147483647 : Int32))), .val (.int (p1 &&& (3 : Int32))), .val (.int P), .val (.int (own_utf8 P)), .val (.int (ushI (own_utf8 P) (24 : Int32))), .val (.int ((ushI (own_utf8 P) (16 : Int32)) &&& (255 : Int32))), .val (.int ((ushI (own_utf8 P) (8 : Int32)) &&& (255 : Int32))), .val (.int ((own_utf8 P) &&& (255 : Int32))), .val (.int (1 : Int32))] [(.int (1 : Int32))]))
      refine Fin.retN Xy5 hx (t := .boolean) hret (by simp) hlk (hb hby at_364) (by decide) (by decide) ?_
      show Q0 Z p1 p2 h0 n0 _ Ty5.heap _
      rw [eqy5]
      exact ⟨rfl, Ny5, rfl⟩
    · refine Fin.step (fun _ => XS.icmpYes X0.here hx rfl (pc0 := 24) (pc' := 41) rfl (hb hby at_24) rfl (feq (hcy3 : ¬ ((p1 &&& (3 : Int32)) = (1 : Int32)))).2 (by decide) (by decide)) ?_
      show Fin p e below s _ _ _ (s₁.setTop (mkF m 41 #[.val (.int p1), .val (.int p2), .val (.int (p2 &&& (2147483647 : Int32))), .val (.int (p1 &&& (3 : Int32))), .unset, .unset, .unset, .unset, .unset, .unset, .unset] []))
      refine Fin.step (fun _ => XS.iloadN X0.here hx rfl (hb hby at_41) rfl) ?_
      show Fin p e below s _ _ _ (s₁.setTop (mkF m 42 #[.val (.int p1), .val (.int p2), .val (.int (p2 &&& (2147483647 : Int32))), .val (.int (p1 &&& (3 : Int32))), .unset, .unset, .unset, .unset, .unset, .unset, .unset] [(.int (p1 &&& (3 : Int32)))]))
      refine Fin.step (fun _ => XS.iconst X0.here hx rfl (hb hby at_42)) ?_
      show Fin p e below s _ _ _ (s₁.setTop (mkF m 43 #[.val (.int p1), .val (.int p2), .val (.int (p2 &&& (2147483647 : Int32))), .val (.int (p1 &&& (3 : Int32))), .unset, .unset, .unset, .unset, .unset, .unset, .unset] [(.int (2 : Int32)), (.int (p1 &&& (3 : Int32)))]))
      by_cases hcy6 : (p1 &&& (3 : Int32)) = (2 : Int32)
      · refine Fin.step (fun _ => XS.icmpNo X0.here hx rfl (hb hby at_43) rfl (teq (hcy6 : ((p1 &&& (3 : Int32)) = (2 : Int32)))).2) ?_
        show Fin p e below s _ _ _ (s₁.setTop (mkF m 46 #[.val (.int p1), .val (.int p2), .val (.int (p2 &&& (2147483647 : Int32))), .val (.int (p1 &&& (3 : Int32))), .unset, .unset, .unset, .unset, .unset, .unset, .unset] []))
        refine Fin.step (fun _ => XS.sipush X0.here hx rfl (hb hby at_46)) ?_
        show Fin p e below s _ _ _ (s₁.setTop (mkF m 49 #[.val (.int p1), .val (.int p2), .val (.int (p2 &&& (2147483647 : Int32))), .val (.int (p1 &&& (3 : Int32))), .unset, .unset, .unset, .unset, .unset, .unset, .unset] [(.int (2048 : Int32))]))
        refine Fin.step (fun _ => XS.iloadN X0.here hx rfl (hb hby at_49) rfl) ?_
        show Fin p e below s _ _ _ (s₁.setTop (mkF m 50 #[.val (.int p1), .val (.int p2), .val (.int (p2 &&& (2147483647 : Int32))), .val (.int (p1 &&& (3 : Int32))), .unset, .unset, .unset, .unset, .unset, .unset, .unset] [(.int (p2 &&& (2147483647 : Int32))), (.int (2048 : Int32))]))
        refine Fin.step (X0.ldcInt hx hown (mvT hZ (hw _ (List.mem_of_getElem? (i := 5) rfl))) (g := (mkF m 50 #[.val (.int p1), .val (.int p2), .val (.int (p2 &&& (2147483647 : Int32))), .val (.int (p1 &&& (3 : Int32))), .unset, .unset, .unset, .unset, .unset, .unset, .unset] [(.int (p2 &&& (2147483647 : Int32))), (.int (2048 : Int32))])) rfl (hb hby at_50)) ?_
        show Fin p e below s _ _ _ (s₁.setTop (mkF m 52 #[.val (.int p1), .val (.int p2), .val (.int (p2 &&& (2147483647 : Int32))), .val (.int (p1 &&& (3 : Int32))), .unset, .unset, .unset, .unset, .unset, .unset, .unset] [(.int (63488 : Int32)), (.int (p2 &&& (2147483647 : Int32))), (.int (2048 : Int32))]))
        refine Fin.step (fun _ => iremM X0 hx (g := (mkF m 52 #[.val (.int p1), .val (.int p2), .val (.int (p2 &&& (2147483647 : Int32))), .val (.int (p1 &&& (3 : Int32))), .unset, .unset, .unset, .unset, .unset, .unset, .unset] [(.int (63488 : Int32)), (.int (p2 &&& (2147483647 : Int32))), (.int (2048 : Int32))])) rfl (hb hby at_52) rfl (by decide)) ?_
        show Fin p e below s _ _ _ (s₁.setTop (mkF m 53 #[.val (.int p1), .val (.int p2), .val (.int (p2 &&& (2147483647 : Int32))), .val (.int (p1 &&& (3 : Int32))), .unset, .unset, .unset, .unset, .unset, .unset, .unset] [(.int ((p2 &&& (2147483647 : Int32)) % (63488 : Int32))), (.int (2048 : Int32))]))
        refine Fin.step (fun _ => XS.iadd X0.here hx rfl (hb hby at_53) rfl) ?_
        show Fin p e below s _ _ _ (s₁.setTop (mkF m 54 #[.val (.int p1), .val (.int p2), .val (.int (p2 &&& (2147483647 : Int32))), .val (.int (p1 &&& (3 : Int32))), .unset, .unset, .unset, .unset, .unset, .unset, .unset] [(.int ((2048 : Int32) + ((p2 &&& (2147483647 : Int32)) % (63488 : Int32))))]))
        refine Fin.step (fun _ => XS.istore X0.here hx rfl (hb hby at_54) rfl (l' := #[.val (.int p1), .val (.int p2), .val (.int (p2 &&& (2147483647 : Int32))), .val (.int (p1 &&& (3 : Int32))), .val (.int ((2048 : Int32) + ((p2 &&& (2147483647 : Int32)) % (63488 : Int32)))), .unset, .unset, .unset, .unset, .unset, .unset]) rfl) ?_
        show Fin p e below s _ _ _ (s₁.setTop (mkF m 56 #[.val (.int p1), .val (.int p2), .val (.int (p2 &&& (2147483647 : Int32))), .val (.int (p1 &&& (3 : Int32))), .val (.int ((2048 : Int32) + ((p2 &&& (2147483647 : Int32)) % (63488 : Int32)))), .unset, .unset, .unset, .unset, .unset, .unset] []))
        refine Fin.step (fun _ => XS.goto X0.here hx rfl (pc0 := 56) (pc' := 68) rfl (hb hby at_56) (by decide) (by decide)) ?_
        show Fin p e below s _ _ _ (s₁.setTop (mkF m 68 #[.val (.int p1), .val (.int p2), .val (.int (p2 &&& (2147483647 : Int32))), .val (.int (p1 &&& (3 : Int32))), .val (.int ((2048 : Int32) + ((p2 &&& (2147483647 : Int32)) % (63488 : Int32)))), .unset, .unset, .unset, .unset, .unset, .unset] []))
        have hBd : 2048 ≤ (((2048 : Int32) + ((p2 &&& (2147483647 : Int32)) % (63488 : Int32)))).toInt ∧ (((2048 : Int32) + ((p2 &&& (2147483647 : Int32)) % (63488 : Int32)))).toInt < 65536 := own_pk p2 2048 63488 (by decide) (by decide) (by decide)
        obtain ⟨P, h_P⟩ : ∃ z : Int32, z = ((2048 : Int32) + ((p2 &&& (2147483647 : Int32)) % (63488 : Int32))) := ⟨_, rfl⟩
        rw [← h_P]
        rw [← h_P] at hBd
        show Fin p e below s _ _ _ (s₁.setTop (mkF m 68 #[.val (.int p1), .val (.int p2), .val (.int (p2 &&& (2147483647 : Int32))), .val (.int (p1 &&& (3 : Int32))), .val (.int P), .unset, .unset, .unset, .unset, .unset, .unset] []))
        have G := own_g3 P hBd.1 hBd.2
        refine Fin.step (fun _ => XS.iload X0.here hx rfl (hb hby at_68) rfl) ?_
        show Fin p e below s _ _ _ (s₁.setTop (mkF m 70 #[.val (.int p1), .val (.int p2), .val (.int (p2 &&& (2147483647 : Int32))), .val (.int (p1 &&& (3 : Int32))), .val (.int P), .unset, .unset, .unset, .unset, .unset, .unset] [(.int P)]))
        obtain ⟨_, _, ⟨Ty7, Ly7, ky7, ny7⟩, -, Xy7, ⟨Lcy7, hQy7, ly7, yy7, zy7⟩, sty7⟩ := Jvm.LawKit.callS X0 hx (y := (⟨"com/example/stavetree/stavetree/Utf8Stores$Utf8Key", "utf8", "(I)I"⟩ : MethodName)) hown (mvT hZ (hw _ (List.mem_of_getElem? (i := 1) rfl))) (mvT hZ (hw _ (List.mem_of_getElem? (i := 2) rfl))) (mvT hZ (hw _ (List.mem_of_getElem? (i := 3) rfl))) (mvT hZ (hw _ (List.mem_of_getElem? (i := 4) rfl))) (by decide) (backOf (W := 0) (rm1 l Z a0 hw [] P h0 n0 Z0 ) hZ (hw _ (List.mem_of_getElem? (i := 4) rfl)) (hw _ (List.mem_of_getElem? (i := 3) rfl)) (by decide) (by decide)) (g := (mkF m 70 #[.val (.int p1), .val (.int p2), .val (.int (p2 &&& (2147483647 : Int32))), .val (.int (p1 &&& (3 : Int32))), .val (.int P), .unset, .unset, .unset, .unset, .unset, .unset] [(.int P)])) rfl (by rw [hml]; rfl) (argsL := [(.int P)]) (rest := []) (lenOf pd_0 rfl) rfl (by show 2 * 0 + _ ≤ _; exact Nat.le_of_eq rfl) (hb hby at_70) (fun _ _ => ⟨rfl, e0, (by decide : 0 + 0 ≤ _), (by decide : 0 + 0 ≤ _)⟩)
        dsimp only [Pt.U, Pt.locs, Pt.cells, Pt.slots] at Xy7 ly7 yy7 zy7 sty7 hQy7
        subst ly7 yy7 zy7
        obtain ⟨rfl, Nqy7, eqy7⟩ := hQy7
        have Ny7 := Fr.app N0 Nqy7
        refine Fin.step (sty7) ?_
        show Fin p e below s _ _ _ (Ty7.setTop (mkF m 73 #[.val (.int p1), .val (.int p2), .val (.int (p2 &&& (2147483647 : Int32))), .val (.int (p1 &&& (3 : Int32))), .val (.int P), .unset, .unset, .unset, .unset, .unset, .unset] [(.int (own_utf8 P))]))
        refine Fin.step (fun _ => XS.istore Xy7.here hx rfl (hb hby at_73) rfl (l' := #[.val (.int p1), .val (.int p2), .val (.int (p2 &&& (2147483647 : Int32))), .val (.int (p1 &&& (3 : Int32))), .val (.int P), .val (.int (own_utf8 P)), .unset, .unset, .unset, .unset, .unset]) rfl) ?_
        show Fin p e below s _ _ _ (Ty7.setTop (mkF m 75 #[.val (.int p1), .val (.int p2), .val (.int (p2 &&& (2147483647 : Int32))), .val (.int (p1 &&& (3 : Int32))), .val (.int P), .val (.int (own_utf8 P)), .unset, .unset, .unset, .unset, .unset] []))
        refine Fin.step (fun _ => XS.iload Xy7.here hx rfl (hb hby at_75) rfl) ?_
        show Fin p e below s _ _ _ (Ty7.setTop (mkF m 77 #[.val (.int p1), .val (.int p2), .val (.int (p2 &&& (2147483647 : Int32))), .val (.int (p1 &&& (3 : Int32))), .val (.int P), .val (.int (own_utf8 P)), .unset, .unset, .unset, .unset, .unset] [(.int (own_utf8 P))]))
        refine Fin.step (fun _ => XS.bipush Xy7.here hx rfl (hb hby at_77)) ?_
        show Fin p e below s _ _ _ (Ty7.setTop (mkF m 79 #[.val (.int p1), .val (.int p2), .val (.int (p2 &&& (2147483647 : Int32))), .val (.int (p1 &&& (3 : Int32))), .val (.int P), .val (.int (own_utf8 P)), .unset, .unset, .unset, .unset, .unset] [(.int (24 : Int32)), (.int (own_utf8 P))]))
        refine Fin.step (fun _ => XS.iushr Xy7.here hx rfl (hb hby at_79) rfl) ?_
        show Fin p e below s _ _ _ (Ty7.setTop (mkF m 80 #[.val (.int p1), .val (.int p2), .val (.int (p2 &&& (2147483647 : Int32))), .val (.int (p1 &&& (3 : Int32))), .val (.int P), .val (.int (own_utf8 P)), .unset, .unset, .unset, .unset, .unset] [(.int (ushI (own_utf8 P) (24 : Int32)))]))
        refine Fin.step (fun _ => XS.istore Xy7.here hx rfl (hb hby at_80) rfl (l' := #[.val (.int p1), .val (.int p2), .val (.int (p2 &&& (2147483647 : Int32))), .val (.int (p1 &&& (3 : Int32))), .val (.int P), .val (.int (own_utf8 P)), .val (.int (ushI (own_utf8 P) (24 : Int32))), .unset, .unset, .unset, .unset]) rfl) ?_
        show Fin p e below s _ _ _ (Ty7.setTop (mkF m 82 #[.val (.int p1), .val (.int p2), .val (.int (p2 &&& (2147483647 : Int32))), .val (.int (p1 &&& (3 : Int32))), .val (.int P), .val (.int (own_utf8 P)), .val (.int (ushI (own_utf8 P) (24 : Int32))), .unset, .unset, .unset, .unset] []))
        refine Fin.step (fun _ => XS.iload Xy7.here hx rfl (hb hby at_82) rfl) ?_
        show Fin p e below s _ _ _ (Ty7.setTop (mkF m 84 #[.val (.int p1), .val (.int p2), .val (.int (p2 &&& (2147483647 : Int32))), .val (.int (p1 &&& (3 : Int32))), .val (.int P), .val (.int (own_utf8 P)), .val (.int (ushI (own_utf8 P) (24 : Int32))), .unset, .unset, .unset, .unset] [(.int (own_utf8 P))]))
        refine Fin.step (fun _ => XS.bipush Xy7.here hx rfl (hb hby at_84)) ?_
        show Fin p e below s _ _ _ (Ty7.setTop (mkF m 86 #[.val (.int p1), .val (.int p2), .val (.int (p2 &&& (2147483647 : Int32))), .val (.int (p1 &&& (3 : Int32))), .val (.int P), .val (.int (own_utf8 P)), .val (.int (ushI (own_utf8 P) (24 : Int32))), .unset, .unset, .unset, .unset] [(.int (16 : Int32)), (.int (own_utf8 P))]))
        refine Fin.step (fun _ => XS.iushr Xy7.here hx rfl (hb hby at_86) rfl) ?_
        show Fin p e below s _ _ _ (Ty7.setTop (mkF m 87 #[.val (.int p1), .val (.int p2), .val (.int (p2 &&& (2147483647 : Int32))), .val (.int (p1 &&& (3 : Int32))), .val (.int P), .val (.int (own_utf8 P)), .val (.int (ushI (own_utf8 P) (24 : Int32))), .unset, .unset, .unset, .unset] [(.int (ushI (own_utf8 P) (16 : Int32)))]))
        refine Fin.step (fun _ => XS.sipush Xy7.here hx rfl (hb hby at_87)) ?_
        show Fin p e below s _ _ _ (Ty7.setTop (mkF m 90 #[.val (.int p1), .val (.int p2), .val (.int (p2 &&& (2147483647 : Int32))), .val (.int (p1 &&& (3 : Int32))), .val (.int P), .val (.int (own_utf8 P)), .val (.int (ushI (own_utf8 P) (24 : Int32))), .unset, .unset, .unset, .unset] [(.int (255 : Int32)), (.int (ushI (own_utf8 P) (16 : Int32)))]))
        refine Fin.step (fun _ => XS.iand Xy7.here hx rfl (hb hby at_90) rfl) ?_
        show Fin p e below s _ _ _ (Ty7.setTop (mkF m 91 #[.val (.int p1), .val (.int p2), .val (.int (p2 &&& (2147483647 : Int32))), .val (.int (p1 &&& (3 : Int32))), .val (.int P), .val (.int (own_utf8 P)), .val (.int (ushI (own_utf8 P) (24 : Int32))), .unset, .unset, .unset, .unset] [(.int ((ushI (own_utf8 P) (16 : Int32)) &&& (255 : Int32)))]))
        refine Fin.step (fun _ => XS.istore Xy7.here hx rfl (hb hby at_91) rfl (l' := #[.val (.int p1), .val (.int p2), .val (.int (p2 &&& (2147483647 : Int32))), .val (.int (p1 &&& (3 : Int32))), .val (.int P), .val (.int (own_utf8 P)), .val (.int (ushI (own_utf8 P) (24 : Int32))), .val (.int ((ushI (own_utf8 P) (16 : Int32)) &&& (255 : Int32))), .unset, .unset, .unset]) rfl) ?_
        show Fin p e below s _ _ _ (Ty7.setTop (mkF m 93 #[.val (.int p1), .val (.int p2), .val (.int (p2 &&& (2147483647 : Int32))), .val (.int (p1 &&& (3 : Int32))), .val (.int P), .val (.int (own_utf8 P)), .val (.int (ushI (own_utf8 P) (24 : Int32))), .val (.int ((ushI (own_utf8 P) (16 : Int32)) &&& (255 : Int32))), .unset, .unset, .unset] []))
        refine Fin.step (fun _ => XS.iload Xy7.here hx rfl (hb hby at_93) rfl) ?_
        show Fin p e below s _ _ _ (Ty7.setTop (mkF m 95 #[.val (.int p1), .val (.int p2), .val (.int (p2 &&& (2147483647 : Int32))), .val (.int (p1 &&& (3 : Int32))), .val (.int P), .val (.int (own_utf8 P)), .val (.int (ushI (own_utf8 P) (24 : Int32))), .val (.int ((ushI (own_utf8 P) (16 : Int32)) &&& (255 : Int32))), .unset, .unset, .unset] [(.int (own_utf8 P))]))
        refine Fin.step (fun _ => XS.bipush Xy7.here hx rfl (hb hby at_95)) ?_
        show Fin p e below s _ _ _ (Ty7.setTop (mkF m 97 #[.val (.int p1), .val (.int p2), .val (.int (p2 &&& (2147483647 : Int32))), .val (.int (p1 &&& (3 : Int32))), .val (.int P), .val (.int (own_utf8 P)), .val (.int (ushI (own_utf8 P) (24 : Int32))), .val (.int ((ushI (own_utf8 P) (16 : Int32)) &&& (255 : Int32))), .unset, .unset, .unset] [(.int (8 : Int32)), (.int (own_utf8 P))]))
        refine Fin.step (fun _ => XS.iushr Xy7.here hx rfl (hb hby at_97) rfl) ?_
        show Fin p e below s _ _ _ (Ty7.setTop (mkF m 98 #[.val (.int p1), .val (.int p2), .val (.int (p2 &&& (2147483647 : Int32))), .val (.int (p1 &&& (3 : Int32))), .val (.int P), .val (.int (own_utf8 P)), .val (.int (ushI (own_utf8 P) (24 : Int32))), .val (.int ((ushI (own_utf8 P) (16 : Int32)) &&& (255 : Int32))), .unset, .unset, .unset] [(.int (ushI (own_utf8 P) (8 : Int32)))]))
        refine Fin.step (fun _ => XS.sipush Xy7.here hx rfl (hb hby at_98)) ?_
        show Fin p e below s _ _ _ (Ty7.setTop (mkF m 101 #[.val (.int p1), .val (.int p2), .val (.int (p2 &&& (2147483647 : Int32))), .val (.int (p1 &&& (3 : Int32))), .val (.int P), .val (.int (own_utf8 P)), .val (.int (ushI (own_utf8 P) (24 : Int32))), .val (.int ((ushI (own_utf8 P) (16 : Int32)) &&& (255 : Int32))), .unset, .unset, .unset] [(.int (255 : Int32)), (.int (ushI (own_utf8 P) (8 : Int32)))]))
        refine Fin.step (fun _ => XS.iand Xy7.here hx rfl (hb hby at_101) rfl) ?_
        show Fin p e below s _ _ _ (Ty7.setTop (mkF m 102 #[.val (.int p1), .val (.int p2), .val (.int (p2 &&& (2147483647 : Int32))), .val (.int (p1 &&& (3 : Int32))), .val (.int P), .val (.int (own_utf8 P)), .val (.int (ushI (own_utf8 P) (24 : Int32))), .val (.int ((ushI (own_utf8 P) (16 : Int32)) &&& (255 : Int32))), .unset, .unset, .unset] [(.int ((ushI (own_utf8 P) (8 : Int32)) &&& (255 : Int32)))]))
        refine Fin.step (fun _ => XS.istore Xy7.here hx rfl (hb hby at_102) rfl (l' := #[.val (.int p1), .val (.int p2), .val (.int (p2 &&& (2147483647 : Int32))), .val (.int (p1 &&& (3 : Int32))), .val (.int P), .val (.int (own_utf8 P)), .val (.int (ushI (own_utf8 P) (24 : Int32))), .val (.int ((ushI (own_utf8 P) (16 : Int32)) &&& (255 : Int32))), .val (.int ((ushI (own_utf8 P) (8 : Int32)) &&& (255 : Int32))), .unset, .unset]) rfl) ?_
        show Fin p e below s _ _ _ (Ty7.setTop (mkF m 104 #[.val (.int p1), .val (.int p2), .val (.int (p2 &&& (2147483647 : Int32))), .val (.int (p1 &&& (3 : Int32))), .val (.int P), .val (.int (own_utf8 P)), .val (.int (ushI (own_utf8 P) (24 : Int32))), .val (.int ((ushI (own_utf8 P) (16 : Int32)) &&& (255 : Int32))), .val (.int ((ushI (own_utf8 P) (8 : Int32)) &&& (255 : Int32))), .unset, .unset] []))
        refine Fin.step (fun _ => XS.iload Xy7.here hx rfl (hb hby at_104) rfl) ?_
        show Fin p e below s _ _ _ (Ty7.setTop (mkF m 106 #[.val (.int p1), .val (.int p2), .val (.int (p2 &&& (2147483647 : Int32))), .val (.int (p1 &&& (3 : Int32))), .val (.int P), .val (.int (own_utf8 P)), .val (.int (ushI (own_utf8 P) (24 : Int32))), .val (.int ((ushI (own_utf8 P) (16 : Int32)) &&& (255 : Int32))), .val (.int ((ushI (own_utf8 P) (8 : Int32)) &&& (255 : Int32))), .unset, .unset] [(.int (own_utf8 P))]))
        refine Fin.step (fun _ => XS.sipush Xy7.here hx rfl (hb hby at_106)) ?_
        show Fin p e below s _ _ _ (Ty7.setTop (mkF m 109 #[.val (.int p1), .val (.int p2), .val (.int (p2 &&& (2147483647 : Int32))), .val (.int (p1 &&& (3 : Int32))), .val (.int P), .val (.int (own_utf8 P)), .val (.int (ushI (own_utf8 P) (24 : Int32))), .val (.int ((ushI (own_utf8 P) (16 : Int32)) &&& (255 : Int32))), .val (.int ((ushI (own_utf8 P) (8 : Int32)) &&& (255 : Int32))), .unset, .unset] [(.int (255 : Int32)), (.int (own_utf8 P))]))
        refine Fin.step (fun _ => XS.iand Xy7.here hx rfl (hb hby at_109) rfl) ?_
        show Fin p e below s _ _ _ (Ty7.setTop (mkF m 110 #[.val (.int p1), .val (.int p2), .val (.int (p2 &&& (2147483647 : Int32))), .val (.int (p1 &&& (3 : Int32))), .val (.int P), .val (.int (own_utf8 P)), .val (.int (ushI (own_utf8 P) (24 : Int32))), .val (.int ((ushI (own_utf8 P) (16 : Int32)) &&& (255 : Int32))), .val (.int ((ushI (own_utf8 P) (8 : Int32)) &&& (255 : Int32))), .unset, .unset] [(.int ((own_utf8 P) &&& (255 : Int32)))]))
        refine Fin.step (fun _ => XS.istore Xy7.here hx rfl (hb hby at_110) rfl (l' := #[.val (.int p1), .val (.int p2), .val (.int (p2 &&& (2147483647 : Int32))), .val (.int (p1 &&& (3 : Int32))), .val (.int P), .val (.int (own_utf8 P)), .val (.int (ushI (own_utf8 P) (24 : Int32))), .val (.int ((ushI (own_utf8 P) (16 : Int32)) &&& (255 : Int32))), .val (.int ((ushI (own_utf8 P) (8 : Int32)) &&& (255 : Int32))), .val (.int ((own_utf8 P) &&& (255 : Int32))), .unset]) rfl) ?_
        show Fin p e below s _ _ _ (Ty7.setTop (mkF m 112 #[.val (.int p1), .val (.int p2), .val (.int (p2 &&& (2147483647 : Int32))), .val (.int (p1 &&& (3 : Int32))), .val (.int P), .val (.int (own_utf8 P)), .val (.int (ushI (own_utf8 P) (24 : Int32))), .val (.int ((ushI (own_utf8 P) (16 : Int32)) &&& (255 : Int32))), .val (.int ((ushI (own_utf8 P) (8 : Int32)) &&& (255 : Int32))), .val (.int ((own_utf8 P) &&& (255 : Int32))), .unset] []))
        refine Fin.step (fun _ => XS.iload Xy7.here hx rfl (hb hby at_112) rfl) ?_
        show Fin p e below s _ _ _ (Ty7.setTop (mkF m 114 #[.val (.int p1), .val (.int p2), .val (.int (p2 &&& (2147483647 : Int32))), .val (.int (p1 &&& (3 : Int32))), .val (.int P), .val (.int (own_utf8 P)), .val (.int (ushI (own_utf8 P) (24 : Int32))), .val (.int ((ushI (own_utf8 P) (16 : Int32)) &&& (255 : Int32))), .val (.int ((ushI (own_utf8 P) (8 : Int32)) &&& (255 : Int32))), .val (.int ((own_utf8 P) &&& (255 : Int32))), .unset] [(.int P)]))
        refine Fin.step (fun _ => XS.sipush Xy7.here hx rfl (hb hby at_114)) ?_
        show Fin p e below s _ _ _ (Ty7.setTop (mkF m 117 #[.val (.int p1), .val (.int p2), .val (.int (p2 &&& (2147483647 : Int32))), .val (.int (p1 &&& (3 : Int32))), .val (.int P), .val (.int (own_utf8 P)), .val (.int (ushI (own_utf8 P) (24 : Int32))), .val (.int ((ushI (own_utf8 P) (16 : Int32)) &&& (255 : Int32))), .val (.int ((ushI (own_utf8 P) (8 : Int32)) &&& (255 : Int32))), .val (.int ((own_utf8 P) &&& (255 : Int32))), .unset] [(.int (128 : Int32)), (.int P)]))
        refine Fin.step (fun _ => XS.icmpYes Xy7.here hx rfl (pc0 := 117) (pc' := 137) rfl (hb hby at_117) rfl (flt ((by rw [Int32.lt_iff_toInt_lt]; show ¬ _ < (128 : Int); omega) : ¬ (P < (128 : Int32)))).2.1 (by decide) (by decide)) ?_
        show Fin p e below s _ _ _ (Ty7.setTop (mkF m 137 #[.val (.int p1), .val (.int p2), .val (.int (p2 &&& (2147483647 : Int32))), .val (.int (p1 &&& (3 : Int32))), .val (.int P), .val (.int (own_utf8 P)), .val (.int (ushI (own_utf8 P) (24 : Int32))), .val (.int ((ushI (own_utf8 P) (16 : Int32)) &&& (255 : Int32))), .val (.int ((ushI (own_utf8 P) (8 : Int32)) &&& (255 : Int32))), .val (.int ((own_utf8 P) &&& (255 : Int32))), .unset] []))
        refine Fin.step (fun _ => XS.iload Xy7.here hx rfl (hb hby at_137) rfl) ?_
        show Fin p e below s _ _ _ (Ty7.setTop (mkF m 139 #[.val (.int p1), .val (.int p2), .val (.int (p2 &&& (2147483647 : Int32))), .val (.int (p1 &&& (3 : Int32))), .val (.int P), .val (.int (own_utf8 P)), .val (.int (ushI (own_utf8 P) (24 : Int32))), .val (.int ((ushI (own_utf8 P) (16 : Int32)) &&& (255 : Int32))), .val (.int ((ushI (own_utf8 P) (8 : Int32)) &&& (255 : Int32))), .val (.int ((own_utf8 P) &&& (255 : Int32))), .unset] [(.int P)]))
        refine Fin.step (fun _ => XS.sipush Xy7.here hx rfl (hb hby at_139)) ?_
        show Fin p e below s _ _ _ (Ty7.setTop (mkF m 142 #[.val (.int p1), .val (.int p2), .val (.int (p2 &&& (2147483647 : Int32))), .val (.int (p1 &&& (3 : Int32))), .val (.int P), .val (.int (own_utf8 P)), .val (.int (ushI (own_utf8 P) (24 : Int32))), .val (.int ((ushI (own_utf8 P) (16 : Int32)) &&& (255 : Int32))), .val (.int ((ushI (own_utf8 P) (8 : Int32)) &&& (255 : Int32))), .val (.int ((own_utf8 P) &&& (255 : Int32))), .unset] [(.int (2048 : Int32)), (.int P)]))
        refine Fin.step (fun _ => XS.icmpYes Xy7.here hx rfl (pc0 := 142) (pc' := 204) rfl (hb hby at_142) rfl (flt ((by rw [Int32.lt_iff_toInt_lt]; show ¬ _ < (2048 : Int); omega) : ¬ (P < (2048 : Int32)))).2.1 (by decide) (by decide)) ?_
        show Fin p e below s _ _ _ (Ty7.setTop (mkF m 204 #[.val (.int p1), .val (.int p2), .val (.int (p2 &&& (2147483647 : Int32))), .val (.int (p1 &&& (3 : Int32))), .val (.int P), .val (.int (own_utf8 P)), .val (.int (ushI (own_utf8 P) (24 : Int32))), .val (.int ((ushI (own_utf8 P) (16 : Int32)) &&& (255 : Int32))), .val (.int ((ushI (own_utf8 P) (8 : Int32)) &&& (255 : Int32))), .val (.int ((own_utf8 P) &&& (255 : Int32))), .unset] []))
        refine Fin.step (fun _ => XS.iload Xy7.here hx rfl (hb hby at_204) rfl) ?_
        show Fin p e below s _ _ _ (Ty7.setTop (mkF m 206 #[.val (.int p1), .val (.int p2), .val (.int (p2 &&& (2147483647 : Int32))), .val (.int (p1 &&& (3 : Int32))), .val (.int P), .val (.int (own_utf8 P)), .val (.int (ushI (own_utf8 P) (24 : Int32))), .val (.int ((ushI (own_utf8 P) (16 : Int32)) &&& (255 : Int32))), .val (.int ((ushI (own_utf8 P) (8 : Int32)) &&& (255 : Int32))), .val (.int ((own_utf8 P) &&& (255 : Int32))), .unset] [(.int P)]))
        refine Fin.step (Xy7.ldcInt hx hown (mvT hZ (hw _ (List.mem_of_getElem? (i := 7) rfl))) (g := (mkF m 206 #[.val (.int p1), .val (.int p2), .val (.int (p2 &&& (2147483647 : Int32))), .val (.int (p1 &&& (3 : Int32))), .val (.int P), .val (.int (own_utf8 P)), .val (.int (ushI (own_utf8 P) (24 : Int32))), .val (.int ((ushI (own_utf8 P) (16 : Int32)) &&& (255 : Int32))), .val (.int ((ushI (own_utf8 P) (8 : Int32)) &&& (255 : Int32))), .val (.int ((own_utf8 P) &&& (255 : Int32))), .unset] [(.int P)])) rfl (hb hby at_206)) ?_
        show Fin p e below s _ _ _ (Ty7.setTop (mkF m 208 #[.val (.int p1), .val (.int p2), .val (.int (p2 &&& (2147483647 : Int32))), .val (.int (p1 &&& (3 : Int32))), .val (.int P), .val (.int (own_utf8 P)), .val (.int (ushI (own_utf8 P) (24 : Int32))), .val (.int ((ushI (own_utf8 P) (16 : Int32)) &&& (255 : Int32))), .val (.int ((ushI (own_utf8 P) (8 : Int32)) &&& (255 : Int32))), .val (.int ((own_utf8 P) &&& (255 : Int32))), .unset] [(.int (65536 : Int32)), (.int P)]))
        refine Fin.step (fun _ => XS.icmpNo Xy7.here hx rfl (hb hby at_208) rfl (tlt ((by rw [Int32.lt_iff_toInt_lt]; show _ < (65536 : Int); omega) : (P < (65536 : Int32)))).2.1) ?_
        show Fin p e below s _ _ _ (Ty7.setTop (mkF m 211 #[.val (.int p1), .val (.int p2), .val (.int (p2 &&& (2147483647 : Int32))), .val (.int (p1 &&& (3 : Int32))), .val (.int P), .val (.int (own_utf8 P)), .val (.int (ushI (own_utf8 P) (24 : Int32))), .val (.int ((ushI (own_utf8 P) (16 : Int32)) &&& (255 : Int32))), .val (.int ((ushI (own_utf8 P) (8 : Int32)) &&& (255 : Int32))), .val (.int ((own_utf8 P) &&& (255 : Int32))), .unset] []))
        refine Fin.step (fun _ => XS.iload Xy7.here hx rfl (hb hby at_211) rfl) ?_
        show Fin p e below s _ _ _ (Ty7.setTop (mkF m 213 #[.val (.int p1), .val (.int p2), .val (.int (p2 &&& (2147483647 : Int32))), .val (.int (p1 &&& (3 : Int32))), .val (.int P), .val (.int (own_utf8 P)), .val (.int (ushI (own_utf8 P) (24 : Int32))), .val (.int ((ushI (own_utf8 P) (16 : Int32)) &&& (255 : Int32))), .val (.int ((ushI (own_utf8 P) (8 : Int32)) &&& (255 : Int32))), .val (.int ((own_utf8 P) &&& (255 : Int32))), .unset] [(.int (ushI (own_utf8 P) (24 : Int32)))]))
        refine Fin.step (fun _ => XS.ifNo Xy7.here hx rfl (hb hby at_213) rfl ((if0 _ _).trans (teq (G.1 : ((ushI (own_utf8 P) (24 : Int32)) = (0 : Int32)))).2)) ?_
        show Fin p e below s _ _ _ (Ty7.setTop (mkF m 216 #[.val (.int p1), .val (.int p2), .val (.int (p2 &&& (2147483647 : Int32))), .val (.int (p1 &&& (3 : Int32))), .val (.int P), .val (.int (own_utf8 P)), .val (.int (ushI (own_utf8 P) (24 : Int32))), .val (.int ((ushI (own_utf8 P) (16 : Int32)) &&& (255 : Int32))), .val (.int ((ushI (own_utf8 P) (8 : Int32)) &&& (255 : Int32))), .val (.int ((own_utf8 P) &&& (255 : Int32))), .unset] []))
        refine Fin.step (fun _ => XS.iload Xy7.here hx rfl (hb hby at_216) rfl) ?_
        show Fin p e below s _ _ _ (Ty7.setTop (mkF m 218 #[.val (.int p1), .val (.int p2), .val (.int (p2 &&& (2147483647 : Int32))), .val (.int (p1 &&& (3 : Int32))), .val (.int P), .val (.int (own_utf8 P)), .val (.int (ushI (own_utf8 P) (24 : Int32))), .val (.int ((ushI (own_utf8 P) (16 : Int32)) &&& (255 : Int32))), .val (.int ((ushI (own_utf8 P) (8 : Int32)) &&& (255 : Int32))), .val (.int ((own_utf8 P) &&& (255 : Int32))), .unset] [(.int ((ushI (own_utf8 P) (16 : Int32)) &&& (255 : Int32)))]))
        refine Fin.step (fun _ => XS.sipush Xy7.here hx rfl (hb hby at_218)) ?_
        show Fin p e below s _ _ _ (Ty7.setTop (mkF m 221 #[.val (.int p1), .val (.int p2), .val (.int (p2 &&& (2147483647 : Int32))), .val (.int (p1 &&& (3 : Int32))), .val (.int P), .val (.int (own_utf8 P)), .val (.int (ushI (own_utf8 P) (24 : Int32))), .val (.int ((ushI (own_utf8 P) (16 : Int32)) &&& (255 : Int32))), .val (.int ((ushI (own_utf8 P) (8 : Int32)) &&& (255 : Int32))), .val (.int ((own_utf8 P) &&& (255 : Int32))), .unset] [(.int (240 : Int32)), (.int ((ushI (own_utf8 P) (16 : Int32)) &&& (255 : Int32)))]))
        refine Fin.step (fun _ => XS.iand Xy7.here hx rfl (hb hby at_221) rfl) ?_
        show Fin p e below s _ _ _ (Ty7.setTop (mkF m 222 #[.val (.int p1), .val (.int p2), .val (.int (p2 &&& (2147483647 : Int32))), .val (.int (p1 &&& (3 : Int32))), .val (.int P), .val (.int (own_utf8 P)), .val (.int (ushI (own_utf8 P) (24 : Int32))), .val (.int ((ushI (own_utf8 P) (16 : Int32)) &&& (255 : Int32))), .val (.int ((ushI (own_utf8 P) (8 : Int32)) &&& (255 : Int32))), .val (.int ((own_utf8 P) &&& (255 : Int32))), .unset] [(.int (((ushI (own_utf8 P) (16 : Int32)) &&& (255 : Int32)) &&& (240 : Int32)))]))
        refine Fin.step (fun _ => XS.sipush Xy7.here hx rfl (hb hby at_222)) ?_
        show Fin p e below s _ _ _ (Ty7.setTop (mkF m 225 #[.val (.int p1), .val (.int p2), .val (.int (p2 &&& (2147483647 : Int32))), .val (.int (p1 &&& (3 : Int32))), .val (.int P), .val (.int (own_utf8 P)), .val (.int (ushI (own_utf8 P) (24 : Int32))), .val (.int ((ushI (own_utf8 P) (16 : Int32)) &&& (255 : Int32))), .val (.int ((ushI (own_utf8 P) (8 : Int32)) &&& (255 : Int32))), .val (.int ((own_utf8 P) &&& (255 : Int32))), .unset] [(.int (224 : Int32)), (.int (((ushI (own_utf8 P) (16 : Int32)) &&& (255 : Int32)) &&& (240 : Int32)))]))
        refine Fin.step (fun _ => XS.icmpNo Xy7.here hx rfl (hb hby at_225) rfl (teq (G.2.1 : ((((ushI (own_utf8 P) (16 : Int32)) &&& (255 : Int32)) &&& (240 : Int32)) = (224 : Int32)))).2) ?_
        show Fin p e below s _ _ _ (Ty7.setTop (mkF m 228 #[.val (.int p1), .val (.int p2), .val (.int (p2 &&& (2147483647 : Int32))), .val (.int (p1 &&& (3 : Int32))), .val (.int P), .val (.int (own_utf8 P)), .val (.int (ushI (own_utf8 P) (24 : Int32))), .val (.int ((ushI (own_utf8 P) (16 : Int32)) &&& (255 : Int32))), .val (.int ((ushI (own_utf8 P) (8 : Int32)) &&& (255 : Int32))), .val (.int ((own_utf8 P) &&& (255 : Int32))), .unset] []))
        refine Fin.step (fun _ => XS.iload Xy7.here hx rfl (hb hby at_228) rfl) ?_
        show Fin p e below s _ _ _ (Ty7.setTop (mkF m 230 #[.val (.int p1), .val (.int p2), .val (.int (p2 &&& (2147483647 : Int32))), .val (.int (p1 &&& (3 : Int32))), .val (.int P), .val (.int (own_utf8 P)), .val (.int (ushI (own_utf8 P) (24 : Int32))), .val (.int ((ushI (own_utf8 P) (16 : Int32)) &&& (255 : Int32))), .val (.int ((ushI (own_utf8 P) (8 : Int32)) &&& (255 : Int32))), .val (.int ((own_utf8 P) &&& (255 : Int32))), .unset] [(.int ((ushI (own_utf8 P) (8 : Int32)) &&& (255 : Int32)))]))
        obtain ⟨_, _, ⟨Ty8, Ly8, ky8, ny8⟩, -, Xy8, ⟨Lcy8, hQy8, ly8, yy8, zy8⟩, sty8⟩ := Jvm.LawKit.callS Xy7 hx (y := (⟨"com/example/stavetree/stavetree/Utf8KeyUtf8PinLaw", "cont", "(I)Z"⟩ : MethodName)) hown (mvT hZ (hw _ (List.mem_of_getElem? (i := 8) rfl))) (mvT hZ (hw _ (List.mem_of_getElem? (i := 9) rfl))) (mvT hZ (hw _ (List.mem_of_getElem? (i := 10) rfl))) (mvT hZ (hw _ (List.mem_of_getElem? (i := 11) rfl))) (by decide) (backOf (W := 0) (rm2 l Z a0 hw [] ((ushI (own_utf8 P) (8 : Int32)) &&& (255 : Int32)) h0 n0 Z0 ) hZ (hw _ (List.mem_of_getElem? (i := 11) rfl)) (hw _ (List.mem_of_getElem? (i := 10) rfl)) (by decide) (by decide)) (g := (mkF m 230 #[.val (.int p1), .val (.int p2), .val (.int (p2 &&& (2147483647 : Int32))), .val (.int (p1 &&& (3 : Int32))), .val (.int P), .val (.int (own_utf8 P)), .val (.int (ushI (own_utf8 P) (24 : Int32))), .val (.int ((ushI (own_utf8 P) (16 : Int32)) &&& (255 : Int32))), .val (.int ((ushI (own_utf8 P) (8 : Int32)) &&& (255 : Int32))), .val (.int ((own_utf8 P) &&& (255 : Int32))), .unset] [(.int ((ushI (own_utf8 P) (8 : Int32)) &&& (255 : Int32)))])) rfl (by rw [hml]; rfl) (argsL := [(.int ((ushI (own_utf8 P) (8 : Int32)) &&& (255 : Int32)))]) (rest := []) (lenOf pd_1 rfl) rfl (by show 2 * 0 + _ ≤ _; exact Nat.le_of_eq rfl) (hb hby at_230) (fun _ _ => ⟨rfl, eqy7, (by decide : 0 + 0 ≤ _), (by decide : 0 + 0 ≤ _)⟩)
        dsimp only [Pt.U, Pt.locs, Pt.cells, Pt.slots] at Xy8 ly8 yy8 zy8 sty8 hQy8
        subst ly8 yy8 zy8
        obtain ⟨rfl, Nqy8, eqy8⟩ := hQy8
        have Ny8 := Fr.app Ny7 Nqy8
        refine Fin.step (sty8) ?_
        show Fin p e below s _ _ _ (Ty8.setTop (mkF m 233 #[.val (.int p1), .val (.int p2), .val (.int (p2 &&& (2147483647 : Int32))), .val (.int (p1 &&& (3 : Int32))), .val (.int P), .val (.int (own_utf8 P)), .val (.int (ushI (own_utf8 P) (24 : Int32))), .val (.int ((ushI (own_utf8 P) (16 : Int32)) &&& (255 : Int32))), .val (.int ((ushI (own_utf8 P) (8 : Int32)) &&& (255 : Int32))), .val (.int ((own_utf8 P) &&& (255 : Int32))), .unset] [(.int (own_cont ((ushI (own_utf8 P) (8 : Int32)) &&& (255 : Int32))))]))
        refine Fin.step (fun _ => XS.ifNo Xy8.here hx rfl (hb hby at_233) rfl ((if0 _ _).trans (feq ((own_contv G.2.2.1) : ¬ ((own_cont ((ushI (own_utf8 P) (8 : Int32)) &&& (255 : Int32))) = (0 : Int32)))).1)) ?_
        show Fin p e below s _ _ _ (Ty8.setTop (mkF m 236 #[.val (.int p1), .val (.int p2), .val (.int (p2 &&& (2147483647 : Int32))), .val (.int (p1 &&& (3 : Int32))), .val (.int P), .val (.int (own_utf8 P)), .val (.int (ushI (own_utf8 P) (24 : Int32))), .val (.int ((ushI (own_utf8 P) (16 : Int32)) &&& (255 : Int32))), .val (.int ((ushI (own_utf8 P) (8 : Int32)) &&& (255 : Int32))), .val (.int ((own_utf8 P) &&& (255 : Int32))), .unset] []))
        refine Fin.step (fun _ => XS.iload Xy8.here hx rfl (hb hby at_236) rfl) ?_
        show Fin p e below s _ _ _ (Ty8.setTop (mkF m 238 #[.val (.int p1), .val (.int p2), .val (.int (p2 &&& (2147483647 : Int32))), .val (.int (p1 &&& (3 : Int32))), .val (.int P), .val (.int (own_utf8 P)), .val (.int (ushI (own_utf8 P) (24 : Int32))), .val (.int ((ushI (own_utf8 P) (16 : Int32)) &&& (255 : Int32))), .val (.int ((ushI (own_utf8 P) (8 : Int32)) &&& (255 : Int32))), .val (.int ((own_utf8 P) &&& (255 : Int32))), .unset] [(.int ((own_utf8 P) &&& (255 : Int32)))]))
        obtain ⟨_, _, ⟨Ty9, Ly9, ky9, ny9⟩, -, Xy9, ⟨Lcy9, hQy9, ly9, yy9, zy9⟩, sty9⟩ := Jvm.LawKit.callS Xy8 hx (y := (⟨"com/example/stavetree/stavetree/Utf8KeyUtf8PinLaw", "cont", "(I)Z"⟩ : MethodName)) hown (mvT hZ (hw _ (List.mem_of_getElem? (i := 8) rfl))) (mvT hZ (hw _ (List.mem_of_getElem? (i := 9) rfl))) (mvT hZ (hw _ (List.mem_of_getElem? (i := 10) rfl))) (mvT hZ (hw _ (List.mem_of_getElem? (i := 11) rfl))) (by decide) (backOf (W := 0) (rm2 l Z a0 hw [] ((own_utf8 P) &&& (255 : Int32)) h0 n0 Z0 ) hZ (hw _ (List.mem_of_getElem? (i := 11) rfl)) (hw _ (List.mem_of_getElem? (i := 10) rfl)) (by decide) (by decide)) (g := (mkF m 238 #[.val (.int p1), .val (.int p2), .val (.int (p2 &&& (2147483647 : Int32))), .val (.int (p1 &&& (3 : Int32))), .val (.int P), .val (.int (own_utf8 P)), .val (.int (ushI (own_utf8 P) (24 : Int32))), .val (.int ((ushI (own_utf8 P) (16 : Int32)) &&& (255 : Int32))), .val (.int ((ushI (own_utf8 P) (8 : Int32)) &&& (255 : Int32))), .val (.int ((own_utf8 P) &&& (255 : Int32))), .unset] [(.int ((own_utf8 P) &&& (255 : Int32)))])) rfl (by rw [hml]; rfl) (argsL := [(.int ((own_utf8 P) &&& (255 : Int32)))]) (rest := []) (lenOf pd_1 rfl) rfl (by show 2 * 0 + _ ≤ _; exact Nat.le_of_eq rfl) (hb hby at_238) (fun _ _ => ⟨rfl, eqy8, (by decide : 0 + 0 ≤ _), (by decide : 0 + 0 ≤ _)⟩)
        dsimp only [Pt.U, Pt.locs, Pt.cells, Pt.slots] at Xy9 ly9 yy9 zy9 sty9 hQy9
        subst ly9 yy9 zy9
        obtain ⟨rfl, Nqy9, eqy9⟩ := hQy9
        have Ny9 := Fr.app Ny8 Nqy9
        refine Fin.step (sty9) ?_
        show Fin p e below s _ _ _ (Ty9.setTop (mkF m 241 #[.val (.int p1), .val (.int p2), .val (.int (p2 &&& (2147483647 : Int32))), .val (.int (p1 &&& (3 : Int32))), .val (.int P), .val (.int (own_utf8 P)), .val (.int (ushI (own_utf8 P) (24 : Int32))), .val (.int ((ushI (own_utf8 P) (16 : Int32)) &&& (255 : Int32))), .val (.int ((ushI (own_utf8 P) (8 : Int32)) &&& (255 : Int32))), .val (.int ((own_utf8 P) &&& (255 : Int32))), .unset] [(.int (own_cont ((own_utf8 P) &&& (255 : Int32))))]))
        refine Fin.step (fun _ => XS.ifNo Xy9.here hx rfl (hb hby at_241) rfl ((if0 _ _).trans (feq ((own_contv G.2.2.2.1) : ¬ ((own_cont ((own_utf8 P) &&& (255 : Int32))) = (0 : Int32)))).1)) ?_
        show Fin p e below s _ _ _ (Ty9.setTop (mkF m 244 #[.val (.int p1), .val (.int p2), .val (.int (p2 &&& (2147483647 : Int32))), .val (.int (p1 &&& (3 : Int32))), .val (.int P), .val (.int (own_utf8 P)), .val (.int (ushI (own_utf8 P) (24 : Int32))), .val (.int ((ushI (own_utf8 P) (16 : Int32)) &&& (255 : Int32))), .val (.int ((ushI (own_utf8 P) (8 : Int32)) &&& (255 : Int32))), .val (.int ((own_utf8 P) &&& (255 : Int32))), .unset] []))
        refine Fin.step (fun _ => XS.iload Xy9.here hx rfl (hb hby at_244) rfl) ?_
        show Fin p e below s _ _ _ (Ty9.setTop (mkF m 246 #[.val (.int p1), .val (.int p2), .val (.int (p2 &&& (2147483647 : Int32))), .val (.int (p1 &&& (3 : Int32))), .val (.int P), .val (.int (own_utf8 P)), .val (.int (ushI (own_utf8 P) (24 : Int32))), .val (.int ((ushI (own_utf8 P) (16 : Int32)) &&& (255 : Int32))), .val (.int ((ushI (own_utf8 P) (8 : Int32)) &&& (255 : Int32))), .val (.int ((own_utf8 P) &&& (255 : Int32))), .unset] [(.int ((ushI (own_utf8 P) (16 : Int32)) &&& (255 : Int32)))]))
        refine Fin.step (fun _ => XS.bipush Xy9.here hx rfl (hb hby at_246)) ?_
        show Fin p e below s _ _ _ (Ty9.setTop (mkF m 248 #[.val (.int p1), .val (.int p2), .val (.int (p2 &&& (2147483647 : Int32))), .val (.int (p1 &&& (3 : Int32))), .val (.int P), .val (.int (own_utf8 P)), .val (.int (ushI (own_utf8 P) (24 : Int32))), .val (.int ((ushI (own_utf8 P) (16 : Int32)) &&& (255 : Int32))), .val (.int ((ushI (own_utf8 P) (8 : Int32)) &&& (255 : Int32))), .val (.int ((own_utf8 P) &&& (255 : Int32))), .unset] [(.int (15 : Int32)), (.int ((ushI (own_utf8 P) (16 : Int32)) &&& (255 : Int32)))]))
        refine Fin.step (fun _ => XS.iand Xy9.here hx rfl (hb hby at_248) rfl) ?_
        show Fin p e below s _ _ _ (Ty9.setTop (mkF m 249 #[.val (.int p1), .val (.int p2), .val (.int (p2 &&& (2147483647 : Int32))), .val (.int (p1 &&& (3 : Int32))), .val (.int P), .val (.int (own_utf8 P)), .val (.int (ushI (own_utf8 P) (24 : Int32))), .val (.int ((ushI (own_utf8 P) (16 : Int32)) &&& (255 : Int32))), .val (.int ((ushI (own_utf8 P) (8 : Int32)) &&& (255 : Int32))), .val (.int ((own_utf8 P) &&& (255 : Int32))), .unset] [(.int (((ushI (own_utf8 P) (16 : Int32)) &&& (255 : Int32)) &&& (15 : Int32)))]))
        refine Fin.step (fun _ => XS.bipush Xy9.here hx rfl (hb hby at_249)) ?_
        show Fin p e below s _ _ _ (Ty9.setTop (mkF m 251 #[.val (.int p1), .val (.int p2), .val (.int (p2 &&& (2147483647 : Int32))), .val (.int (p1 &&& (3 : Int32))), .val (.int P), .val (.int (own_utf8 P)), .val (.int (ushI (own_utf8 P) (24 : Int32))), .val (.int ((ushI (own_utf8 P) (16 : Int32)) &&& (255 : Int32))), .val (.int ((ushI (own_utf8 P) (8 : Int32)) &&& (255 : Int32))), .val (.int ((own_utf8 P) &&& (255 : Int32))), .unset] [(.int (12 : Int32)), (.int (((ushI (own_utf8 P) (16 : Int32)) &&& (255 : Int32)) &&& (15 : Int32)))]))
        refine Fin.step (fun _ => XS.ishl Xy9.here hx rfl (hb hby at_251) rfl) ?_
        show Fin p e below s _ _ _ (Ty9.setTop (mkF m 252 #[.val (.int p1), .val (.int p2), .val (.int (p2 &&& (2147483647 : Int32))), .val (.int (p1 &&& (3 : Int32))), .val (.int P), .val (.int (own_utf8 P)), .val (.int (ushI (own_utf8 P) (24 : Int32))), .val (.int ((ushI (own_utf8 P) (16 : Int32)) &&& (255 : Int32))), .val (.int ((ushI (own_utf8 P) (8 : Int32)) &&& (255 : Int32))), .val (.int ((own_utf8 P) &&& (255 : Int32))), .unset] [(.int ((((ushI (own_utf8 P) (16 : Int32)) &&& (255 : Int32)) &&& (15 : Int32)) <<< ((12 : Int32) &&& 31)))]))
        refine Fin.step (fun _ => XS.iload Xy9.here hx rfl (hb hby at_252) rfl) ?_
        show Fin p e below s _ _ _ (Ty9.setTop (mkF m 254 #[.val (.int p1), .val (.int p2), .val (.int (p2 &&& (2147483647 : Int32))), .val (.int (p1 &&& (3 : Int32))), .val (.int P), .val (.int (own_utf8 P)), .val (.int (ushI (own_utf8 P) (24 : Int32))), .val (.int ((ushI (own_utf8 P) (16 : Int32)) &&& (255 : Int32))), .val (.int ((ushI (own_utf8 P) (8 : Int32)) &&& (255 : Int32))), .val (.int ((own_utf8 P) &&& (255 : Int32))), .unset] [(.int ((ushI (own_utf8 P) (8 : Int32)) &&& (255 : Int32))), (.int ((((ushI (own_utf8 P) (16 : Int32)) &&& (255 : Int32)) &&& (15 : Int32)) <<< ((12 : Int32) &&& 31)))]))
        refine Fin.step (fun _ => XS.bipush Xy9.here hx rfl (hb hby at_254)) ?_
        show Fin p e below s _ _ _ (Ty9.setTop (mkF m 256 #[.val (.int p1), .val (.int p2), .val (.int (p2 &&& (2147483647 : Int32))), .val (.int (p1 &&& (3 : Int32))), .val (.int P), .val (.int (own_utf8 P)), .val (.int (ushI (own_utf8 P) (24 : Int32))), .val (.int ((ushI (own_utf8 P) (16 : Int32)) &&& (255 : Int32))), .val (.int ((ushI (own_utf8 P) (8 : Int32)) &&& (255 : Int32))), .val (.int ((own_utf8 P) &&& (255 : Int32))), .unset] [(.int (63 : Int32)), (.int ((ushI (own_utf8 P) (8 : Int32)) &&& (255 : Int32))), (.int ((((ushI (own_utf8 P) (16 : Int32)) &&& (255 : Int32)) &&& (15 : Int32)) <<< ((12 : Int32) &&& 31)))]))
        refine Fin.step (fun _ => XS.iand Xy9.here hx rfl (hb hby at_256) rfl) ?_
        show Fin p e below s _ _ _ (Ty9.setTop (mkF m 257 #[.val (.int p1), .val (.int p2), .val (.int (p2 &&& (2147483647 : Int32))), .val (.int (p1 &&& (3 : Int32))), .val (.int P), .val (.int (own_utf8 P)), .val (.int (ushI (own_utf8 P) (24 : Int32))), .val (.int ((ushI (own_utf8 P) (16 : Int32)) &&& (255 : Int32))), .val (.int ((ushI (own_utf8 P) (8 : Int32)) &&& (255 : Int32))), .val (.int ((own_utf8 P) &&& (255 : Int32))), .unset] [(.int (((ushI (own_utf8 P) (8 : Int32)) &&& (255 : Int32)) &&& (63 : Int32))), (.int ((((ushI (own_utf8 P) (16 : Int32)) &&& (255 : Int32)) &&& (15 : Int32)) <<< ((12 : Int32) &&& 31)))]))
        refine Fin.step (fun _ => XS.bipush Xy9.here hx rfl (hb hby at_257)) ?_
        show Fin p e below s _ _ _ (Ty9.setTop (mkF m 259 #[.val (.int p1), .val (.int p2), .val (.int (p2 &&& (2147483647 : Int32))), .val (.int (p1 &&& (3 : Int32))), .val (.int P), .val (.int (own_utf8 P)), .val (.int (ushI (own_utf8 P) (24 : Int32))), .val (.int ((ushI (own_utf8 P) (16 : Int32)) &&& (255 : Int32))), .val (.int ((ushI (own_utf8 P) (8 : Int32)) &&& (255 : Int32))), .val (.int ((own_utf8 P) &&& (255 : Int32))), .unset] [(.int (6 : Int32)), (.int (((ushI (own_utf8 P) (8 : Int32)) &&& (255 : Int32)) &&& (63 : Int32))), (.int ((((ushI (own_utf8 P) (16 : Int32)) &&& (255 : Int32)) &&& (15 : Int32)) <<< ((12 : Int32) &&& 31)))]))
        refine Fin.step (fun _ => XS.ishl Xy9.here hx rfl (hb hby at_259) rfl) ?_
        show Fin p e below s _ _ _ (Ty9.setTop (mkF m 260 #[.val (.int p1), .val (.int p2), .val (.int (p2 &&& (2147483647 : Int32))), .val (.int (p1 &&& (3 : Int32))), .val (.int P), .val (.int (own_utf8 P)), .val (.int (ushI (own_utf8 P) (24 : Int32))), .val (.int ((ushI (own_utf8 P) (16 : Int32)) &&& (255 : Int32))), .val (.int ((ushI (own_utf8 P) (8 : Int32)) &&& (255 : Int32))), .val (.int ((own_utf8 P) &&& (255 : Int32))), .unset] [(.int ((((ushI (own_utf8 P) (8 : Int32)) &&& (255 : Int32)) &&& (63 : Int32)) <<< ((6 : Int32) &&& 31))), (.int ((((ushI (own_utf8 P) (16 : Int32)) &&& (255 : Int32)) &&& (15 : Int32)) <<< ((12 : Int32) &&& 31)))]))
        refine Fin.step (fun _ => XS.ior Xy9.here hx rfl (hb hby at_260) rfl) ?_
        show Fin p e below s _ _ _ (Ty9.setTop (mkF m 261 #[.val (.int p1), .val (.int p2), .val (.int (p2 &&& (2147483647 : Int32))), .val (.int (p1 &&& (3 : Int32))), .val (.int P), .val (.int (own_utf8 P)), .val (.int (ushI (own_utf8 P) (24 : Int32))), .val (.int ((ushI (own_utf8 P) (16 : Int32)) &&& (255 : Int32))), .val (.int ((ushI (own_utf8 P) (8 : Int32)) &&& (255 : Int32))), .val (.int ((own_utf8 P) &&& (255 : Int32))), .unset] [(.int (((((ushI (own_utf8 P) (16 : Int32)) &&& (255 : Int32)) &&& (15 : Int32)) <<< ((12 : Int32) &&& 31)) ||| ((((ushI (own_utf8 P) (8 : Int32)) &&& (255 : Int32)) &&& (63 : Int32)) <<< ((6 : Int32) &&& 31))))]))
        refine Fin.step (fun _ => XS.iload Xy9.here hx rfl (hb hby at_261) rfl) ?_
        show Fin p e below s _ _ _ (Ty9.setTop (mkF m 263 #[.val (.int p1), .val (.int p2), .val (.int (p2 &&& (2147483647 : Int32))), .val (.int (p1 &&& (3 : Int32))), .val (.int P), .val (.int (own_utf8 P)), .val (.int (ushI (own_utf8 P) (24 : Int32))), .val (.int ((ushI (own_utf8 P) (16 : Int32)) &&& (255 : Int32))), .val (.int ((ushI (own_utf8 P) (8 : Int32)) &&& (255 : Int32))), .val (.int ((own_utf8 P) &&& (255 : Int32))), .unset] [(.int ((own_utf8 P) &&& (255 : Int32))), (.int (((((ushI (own_utf8 P) (16 : Int32)) &&& (255 : Int32)) &&& (15 : Int32)) <<< ((12 : Int32) &&& 31)) ||| ((((ushI (own_utf8 P) (8 : Int32)) &&& (255 : Int32)) &&& (63 : Int32)) <<< ((6 : Int32) &&& 31))))]))
        refine Fin.step (fun _ => XS.bipush Xy9.here hx rfl (hb hby at_263)) ?_
        show Fin p e below s _ _ _ (Ty9.setTop (mkF m 265 #[.val (.int p1), .val (.int p2), .val (.int (p2 &&& (2147483647 : Int32))), .val (.int (p1 &&& (3 : Int32))), .val (.int P), .val (.int (own_utf8 P)), .val (.int (ushI (own_utf8 P) (24 : Int32))), .val (.int ((ushI (own_utf8 P) (16 : Int32)) &&& (255 : Int32))), .val (.int ((ushI (own_utf8 P) (8 : Int32)) &&& (255 : Int32))), .val (.int ((own_utf8 P) &&& (255 : Int32))), .unset] [(.int (63 : Int32)), (.int ((own_utf8 P) &&& (255 : Int32))), (.int (((((ushI (own_utf8 P) (16 : Int32)) &&& (255 : Int32)) &&& (15 : Int32)) <<< ((12 : Int32) &&& 31)) ||| ((((ushI (own_utf8 P) (8 : Int32)) &&& (255 : Int32)) &&& (63 : Int32)) <<< ((6 : Int32) &&& 31))))]))
        refine Fin.step (fun _ => XS.iand Xy9.here hx rfl (hb hby at_265) rfl) ?_
        show Fin p e below s _ _ _ (Ty9.setTop (mkF m 266 #[.val (.int p1), .val (.int p2), .val (.int (p2 &&& (2147483647 : Int32))), .val (.int (p1 &&& (3 : Int32))), .val (.int P), .val (.int (own_utf8 P)), .val (.int (ushI (own_utf8 P) (24 : Int32))), .val (.int ((ushI (own_utf8 P) (16 : Int32)) &&& (255 : Int32))), .val (.int ((ushI (own_utf8 P) (8 : Int32)) &&& (255 : Int32))), .val (.int ((own_utf8 P) &&& (255 : Int32))), .unset] [(.int (((own_utf8 P) &&& (255 : Int32)) &&& (63 : Int32))), (.int (((((ushI (own_utf8 P) (16 : Int32)) &&& (255 : Int32)) &&& (15 : Int32)) <<< ((12 : Int32) &&& 31)) ||| ((((ushI (own_utf8 P) (8 : Int32)) &&& (255 : Int32)) &&& (63 : Int32)) <<< ((6 : Int32) &&& 31))))]))
        refine Fin.step (fun _ => XS.ior Xy9.here hx rfl (hb hby at_266) rfl) ?_
        show Fin p e below s _ _ _ (Ty9.setTop (mkF m 267 #[.val (.int p1), .val (.int p2), .val (.int (p2 &&& (2147483647 : Int32))), .val (.int (p1 &&& (3 : Int32))), .val (.int P), .val (.int (own_utf8 P)), .val (.int (ushI (own_utf8 P) (24 : Int32))), .val (.int ((ushI (own_utf8 P) (16 : Int32)) &&& (255 : Int32))), .val (.int ((ushI (own_utf8 P) (8 : Int32)) &&& (255 : Int32))), .val (.int ((own_utf8 P) &&& (255 : Int32))), .unset] [(.int ((((((ushI (own_utf8 P) (16 : Int32)) &&& (255 : Int32)) &&& (15 : Int32)) <<< ((12 : Int32) &&& 31)) ||| ((((ushI (own_utf8 P) (8 : Int32)) &&& (255 : Int32)) &&& (63 : Int32)) <<< ((6 : Int32) &&& 31))) ||| (((own_utf8 P) &&& (255 : Int32)) &&& (63 : Int32))))]))
        refine Fin.step (fun _ => XS.iload Xy9.here hx rfl (hb hby at_267) rfl) ?_
        show Fin p e below s _ _ _ (Ty9.setTop (mkF m 269 #[.val (.int p1), .val (.int p2), .val (.int (p2 &&& (2147483647 : Int32))), .val (.int (p1 &&& (3 : Int32))), .val (.int P), .val (.int (own_utf8 P)), .val (.int (ushI (own_utf8 P) (24 : Int32))), .val (.int ((ushI (own_utf8 P) (16 : Int32)) &&& (255 : Int32))), .val (.int ((ushI (own_utf8 P) (8 : Int32)) &&& (255 : Int32))), .val (.int ((own_utf8 P) &&& (255 : Int32))), .unset] [(.int P), (.int ((((((ushI (own_utf8 P) (16 : Int32)) &&& (255 : Int32)) &&& (15 : Int32)) <<< ((12 : Int32) &&& 31)) ||| ((((ushI (own_utf8 P) (8 : Int32)) &&& (255 : Int32)) &&& (63 : Int32)) <<< ((6 : Int32) &&& 31))) ||| (((own_utf8 P) &&& (255 : Int32)) &&& (63 : Int32))))]))
        refine Fin.step (fun _ => XS.icmpNo Xy9.here hx rfl (hb hby at_269) rfl (teq (G.2.2.2.2 : (((((((ushI (own_utf8 P) (16 : Int32)) &&& (255 : Int32)) &&& (15 : Int32)) <<< ((12 : Int32) &&& 31)) ||| ((((ushI (own_utf8 P) (8 : Int32)) &&& (255 : Int32)) &&& (63 : Int32)) <<< ((6 : Int32) &&& 31))) ||| (((own_utf8 P) &&& (255 : Int32)) &&& (63 : Int32))) = P))).2) ?_
        show Fin p e below s _ _ _ (Ty9.setTop (mkF m 272 #[.val (.int p1), .val (.int p2), .val (.int (p2 &&& (2147483647 : Int32))), .val (.int (p1 &&& (3 : Int32))), .val (.int P), .val (.int (own_utf8 P)), .val (.int (ushI (own_utf8 P) (24 : Int32))), .val (.int ((ushI (own_utf8 P) (16 : Int32)) &&& (255 : Int32))), .val (.int ((ushI (own_utf8 P) (8 : Int32)) &&& (255 : Int32))), .val (.int ((own_utf8 P) &&& (255 : Int32))), .unset] []))
        refine Fin.step (fun _ => XS.iconst Xy9.here hx rfl (hb hby at_272)) ?_
        show Fin p e below s _ _ _ (Ty9.setTop (mkF m 273 #[.val (.int p1), .val (.int p2), .val (.int (p2 &&& (2147483647 : Int32))), .val (.int (p1 &&& (3 : Int32))), .val (.int P), .val (.int (own_utf8 P)), .val (.int (ushI (own_utf8 P) (24 : Int32))), .val (.int ((ushI (own_utf8 P) (16 : Int32)) &&& (255 : Int32))), .val (.int ((ushI (own_utf8 P) (8 : Int32)) &&& (255 : Int32))), .val (.int ((own_utf8 P) &&& (255 : Int32))), .unset] [(.int (1 : Int32))]))
        refine Fin.step (fun _ => XS.goto Xy9.here hx rfl (pc0 := 273) (pc' := 277) rfl (hb hby at_273) (by decide) (by decide)) ?_
        show Fin p e below s _ _ _ (Ty9.setTop (mkF m 277 #[.val (.int p1), .val (.int p2), .val (.int (p2 &&& (2147483647 : Int32))), .val (.int (p1 &&& (3 : Int32))), .val (.int P), .val (.int (own_utf8 P)), .val (.int (ushI (own_utf8 P) (24 : Int32))), .val (.int ((ushI (own_utf8 P) (16 : Int32)) &&& (255 : Int32))), .val (.int ((ushI (own_utf8 P) (8 : Int32)) &&& (255 : Int32))), .val (.int ((own_utf8 P) &&& (255 : Int32))), .unset] [(.int (1 : Int32))]))
        refine Fin.step (fun _ => XS.istore Xy9.here hx rfl (hb hby at_277) rfl (l' := #[.val (.int p1), .val (.int p2), .val (.int (p2 &&& (2147483647 : Int32))), .val (.int (p1 &&& (3 : Int32))), .val (.int P), .val (.int (own_utf8 P)), .val (.int (ushI (own_utf8 P) (24 : Int32))), .val (.int ((ushI (own_utf8 P) (16 : Int32)) &&& (255 : Int32))), .val (.int ((ushI (own_utf8 P) (8 : Int32)) &&& (255 : Int32))), .val (.int ((own_utf8 P) &&& (255 : Int32))), .val (.int (1 : Int32))]) rfl) ?_
        show Fin p e below s _ _ _ (Ty9.setTop (mkF m 279 #[.val (.int p1), .val (.int p2), .val (.int (p2 &&& (2147483647 : Int32))), .val (.int (p1 &&& (3 : Int32))), .val (.int P), .val (.int (own_utf8 P)), .val (.int (ushI (own_utf8 P) (24 : Int32))), .val (.int ((ushI (own_utf8 P) (16 : Int32)) &&& (255 : Int32))), .val (.int ((ushI (own_utf8 P) (8 : Int32)) &&& (255 : Int32))), .val (.int ((own_utf8 P) &&& (255 : Int32))), .val (.int (1 : Int32))] []))
        refine Fin.step (fun _ => XS.goto Xy9.here hx rfl (pc0 := 279) (pc' := 362) rfl (hb hby at_279) (by decide) (by decide)) ?_
        show Fin p e below s _ _ _ (Ty9.setTop (mkF m 362 #[.val (.int p1), .val (.int p2), .val (.int (p2 &&& (2147483647 : Int32))), .val (.int (p1 &&& (3 : Int32))), .val (.int P), .val (.int (own_utf8 P)), .val (.int (ushI (own_utf8 P) (24 : Int32))), .val (.int ((ushI (own_utf8 P) (16 : Int32)) &&& (255 : Int32))), .val (.int ((ushI (own_utf8 P) (8 : Int32)) &&& (255 : Int32))), .val (.int ((own_utf8 P) &&& (255 : Int32))), .val (.int (1 : Int32))] []))
        refine Fin.step (fun _ => XS.iload Xy9.here hx rfl (hb hby at_362) rfl) ?_
        show Fin p e below s _ _ _ (Ty9.setTop (mkF m 364 #[.val (.int p1), .val (.int p2), .val (.int (p2 &&& (2147483647 : Int32))), .val (.int (p1 &&& (3 : Int32))), .val (.int P), .val (.int (own_utf8 P)), .val (.int (ushI (own_utf8 P) (24 : Int32))), .val (.int ((ushI (own_utf8 P) (16 : Int32)) &&& (255 : Int32))), .val (.int ((ushI (own_utf8 P) (8 : Int32)) &&& (255 : Int32))), .val (.int ((own_utf8 P) &&& (255 : Int32))), .val (.int (1 : Int32))] [(.int (1 : Int32))]))
        refine Fin.retN Xy9 hx (t := .boolean) hret (by simp) hlk (hb hby at_364) (by decide) (by decide) ?_
        show Q0 Z p1 p2 h0 n0 _ Ty9.heap _
        rw [eqy9]
        exact ⟨rfl, Ny9, rfl⟩
      · refine Fin.step (fun _ => XS.icmpYes X0.here hx rfl (pc0 := 43) (pc' := 59) rfl (hb hby at_43) rfl (feq (hcy6 : ¬ ((p1 &&& (3 : Int32)) = (2 : Int32)))).2 (by decide) (by decide)) ?_
        show Fin p e below s _ _ _ (s₁.setTop (mkF m 59 #[.val (.int p1), .val (.int p2), .val (.int (p2 &&& (2147483647 : Int32))), .val (.int (p1 &&& (3 : Int32))), .unset, .unset, .unset, .unset, .unset, .unset, .unset] []))
        refine Fin.step (X0.ldcInt hx hown (mvT hZ (hw _ (List.mem_of_getElem? (i := 7) rfl))) (g := (mkF m 59 #[.val (.int p1), .val (.int p2), .val (.int (p2 &&& (2147483647 : Int32))), .val (.int (p1 &&& (3 : Int32))), .unset, .unset, .unset, .unset, .unset, .unset, .unset] [])) rfl (hb hby at_59)) ?_
        show Fin p e below s _ _ _ (s₁.setTop (mkF m 61 #[.val (.int p1), .val (.int p2), .val (.int (p2 &&& (2147483647 : Int32))), .val (.int (p1 &&& (3 : Int32))), .unset, .unset, .unset, .unset, .unset, .unset, .unset] [(.int (65536 : Int32))]))
        refine Fin.step (fun _ => XS.iloadN X0.here hx rfl (hb hby at_61) rfl) ?_
        show Fin p e below s _ _ _ (s₁.setTop (mkF m 62 #[.val (.int p1), .val (.int p2), .val (.int (p2 &&& (2147483647 : Int32))), .val (.int (p1 &&& (3 : Int32))), .unset, .unset, .unset, .unset, .unset, .unset, .unset] [(.int (p2 &&& (2147483647 : Int32))), (.int (65536 : Int32))]))
        refine Fin.step (X0.ldcInt hx hown (mvT hZ (hw _ (List.mem_of_getElem? (i := 12) rfl))) (g := (mkF m 62 #[.val (.int p1), .val (.int p2), .val (.int (p2 &&& (2147483647 : Int32))), .val (.int (p1 &&& (3 : Int32))), .unset, .unset, .unset, .unset, .unset, .unset, .unset] [(.int (p2 &&& (2147483647 : Int32))), (.int (65536 : Int32))])) rfl (hb hby at_62)) ?_
        show Fin p e below s _ _ _ (s₁.setTop (mkF m 64 #[.val (.int p1), .val (.int p2), .val (.int (p2 &&& (2147483647 : Int32))), .val (.int (p1 &&& (3 : Int32))), .unset, .unset, .unset, .unset, .unset, .unset, .unset] [(.int (1048576 : Int32)), (.int (p2 &&& (2147483647 : Int32))), (.int (65536 : Int32))]))
        refine Fin.step (fun _ => iremM X0 hx (g := (mkF m 64 #[.val (.int p1), .val (.int p2), .val (.int (p2 &&& (2147483647 : Int32))), .val (.int (p1 &&& (3 : Int32))), .unset, .unset, .unset, .unset, .unset, .unset, .unset] [(.int (1048576 : Int32)), (.int (p2 &&& (2147483647 : Int32))), (.int (65536 : Int32))])) rfl (hb hby at_64) rfl (by decide)) ?_
        show Fin p e below s _ _ _ (s₁.setTop (mkF m 65 #[.val (.int p1), .val (.int p2), .val (.int (p2 &&& (2147483647 : Int32))), .val (.int (p1 &&& (3 : Int32))), .unset, .unset, .unset, .unset, .unset, .unset, .unset] [(.int ((p2 &&& (2147483647 : Int32)) % (1048576 : Int32))), (.int (65536 : Int32))]))
        refine Fin.step (fun _ => XS.iadd X0.here hx rfl (hb hby at_65) rfl) ?_
        show Fin p e below s _ _ _ (s₁.setTop (mkF m 66 #[.val (.int p1), .val (.int p2), .val (.int (p2 &&& (2147483647 : Int32))), .val (.int (p1 &&& (3 : Int32))), .unset, .unset, .unset, .unset, .unset, .unset, .unset] [(.int ((65536 : Int32) + ((p2 &&& (2147483647 : Int32)) % (1048576 : Int32))))]))
        refine Fin.step (fun _ => XS.istore X0.here hx rfl (hb hby at_66) rfl (l' := #[.val (.int p1), .val (.int p2), .val (.int (p2 &&& (2147483647 : Int32))), .val (.int (p1 &&& (3 : Int32))), .val (.int ((65536 : Int32) + ((p2 &&& (2147483647 : Int32)) % (1048576 : Int32)))), .unset, .unset, .unset, .unset, .unset, .unset]) rfl) ?_
        show Fin p e below s _ _ _ (s₁.setTop (mkF m 68 #[.val (.int p1), .val (.int p2), .val (.int (p2 &&& (2147483647 : Int32))), .val (.int (p1 &&& (3 : Int32))), .val (.int ((65536 : Int32) + ((p2 &&& (2147483647 : Int32)) % (1048576 : Int32)))), .unset, .unset, .unset, .unset, .unset, .unset] []))
        have hBd : 65536 ≤ (((65536 : Int32) + ((p2 &&& (2147483647 : Int32)) % (1048576 : Int32)))).toInt ∧ (((65536 : Int32) + ((p2 &&& (2147483647 : Int32)) % (1048576 : Int32)))).toInt < 1114112 := own_pk p2 65536 1048576 (by decide) (by decide) (by decide)
        obtain ⟨P, h_P⟩ : ∃ z : Int32, z = ((65536 : Int32) + ((p2 &&& (2147483647 : Int32)) % (1048576 : Int32))) := ⟨_, rfl⟩
        rw [← h_P]
        rw [← h_P] at hBd
        show Fin p e below s _ _ _ (s₁.setTop (mkF m 68 #[.val (.int p1), .val (.int p2), .val (.int (p2 &&& (2147483647 : Int32))), .val (.int (p1 &&& (3 : Int32))), .val (.int P), .unset, .unset, .unset, .unset, .unset, .unset] []))
        have G := own_g4 P hBd.1 hBd.2
        refine Fin.step (fun _ => XS.iload X0.here hx rfl (hb hby at_68) rfl) ?_
        show Fin p e below s _ _ _ (s₁.setTop (mkF m 70 #[.val (.int p1), .val (.int p2), .val (.int (p2 &&& (2147483647 : Int32))), .val (.int (p1 &&& (3 : Int32))), .val (.int P), .unset, .unset, .unset, .unset, .unset, .unset] [(.int P)]))
        obtain ⟨_, _, ⟨Ty10, Ly10, ky10, ny10⟩, -, Xy10, ⟨Lcy10, hQy10, ly10, yy10, zy10⟩, sty10⟩ := Jvm.LawKit.callS X0 hx (y := (⟨"com/example/stavetree/stavetree/Utf8Stores$Utf8Key", "utf8", "(I)I"⟩ : MethodName)) hown (mvT hZ (hw _ (List.mem_of_getElem? (i := 1) rfl))) (mvT hZ (hw _ (List.mem_of_getElem? (i := 2) rfl))) (mvT hZ (hw _ (List.mem_of_getElem? (i := 3) rfl))) (mvT hZ (hw _ (List.mem_of_getElem? (i := 4) rfl))) (by decide) (backOf (W := 0) (rm1 l Z a0 hw [] P h0 n0 Z0 ) hZ (hw _ (List.mem_of_getElem? (i := 4) rfl)) (hw _ (List.mem_of_getElem? (i := 3) rfl)) (by decide) (by decide)) (g := (mkF m 70 #[.val (.int p1), .val (.int p2), .val (.int (p2 &&& (2147483647 : Int32))), .val (.int (p1 &&& (3 : Int32))), .val (.int P), .unset, .unset, .unset, .unset, .unset, .unset] [(.int P)])) rfl (by rw [hml]; rfl) (argsL := [(.int P)]) (rest := []) (lenOf pd_0 rfl) rfl (by show 2 * 0 + _ ≤ _; exact Nat.le_of_eq rfl) (hb hby at_70) (fun _ _ => ⟨rfl, e0, (by decide : 0 + 0 ≤ _), (by decide : 0 + 0 ≤ _)⟩)
        dsimp only [Pt.U, Pt.locs, Pt.cells, Pt.slots] at Xy10 ly10 yy10 zy10 sty10 hQy10
        subst ly10 yy10 zy10
        obtain ⟨rfl, Nqy10, eqy10⟩ := hQy10
        have Ny10 := Fr.app N0 Nqy10
        refine Fin.step (sty10) ?_
        show Fin p e below s _ _ _ (Ty10.setTop (mkF m 73 #[.val (.int p1), .val (.int p2), .val (.int (p2 &&& (2147483647 : Int32))), .val (.int (p1 &&& (3 : Int32))), .val (.int P), .unset, .unset, .unset, .unset, .unset, .unset] [(.int (own_utf8 P))]))
        refine Fin.step (fun _ => XS.istore Xy10.here hx rfl (hb hby at_73) rfl (l' := #[.val (.int p1), .val (.int p2), .val (.int (p2 &&& (2147483647 : Int32))), .val (.int (p1 &&& (3 : Int32))), .val (.int P), .val (.int (own_utf8 P)), .unset, .unset, .unset, .unset, .unset]) rfl) ?_
        show Fin p e below s _ _ _ (Ty10.setTop (mkF m 75 #[.val (.int p1), .val (.int p2), .val (.int (p2 &&& (2147483647 : Int32))), .val (.int (p1 &&& (3 : Int32))), .val (.int P), .val (.int (own_utf8 P)), .unset, .unset, .unset, .unset, .unset] []))
        refine Fin.step (fun _ => XS.iload Xy10.here hx rfl (hb hby at_75) rfl) ?_
        show Fin p e below s _ _ _ (Ty10.setTop (mkF m 77 #[.val (.int p1), .val (.int p2), .val (.int (p2 &&& (2147483647 : Int32))), .val (.int (p1 &&& (3 : Int32))), .val (.int P), .val (.int (own_utf8 P)), .unset, .unset, .unset, .unset, .unset] [(.int (own_utf8 P))]))
        refine Fin.step (fun _ => XS.bipush Xy10.here hx rfl (hb hby at_77)) ?_
        show Fin p e below s _ _ _ (Ty10.setTop (mkF m 79 #[.val (.int p1), .val (.int p2), .val (.int (p2 &&& (2147483647 : Int32))), .val (.int (p1 &&& (3 : Int32))), .val (.int P), .val (.int (own_utf8 P)), .unset, .unset, .unset, .unset, .unset] [(.int (24 : Int32)), (.int (own_utf8 P))]))
        refine Fin.step (fun _ => XS.iushr Xy10.here hx rfl (hb hby at_79) rfl) ?_
        show Fin p e below s _ _ _ (Ty10.setTop (mkF m 80 #[.val (.int p1), .val (.int p2), .val (.int (p2 &&& (2147483647 : Int32))), .val (.int (p1 &&& (3 : Int32))), .val (.int P), .val (.int (own_utf8 P)), .unset, .unset, .unset, .unset, .unset] [(.int (ushI (own_utf8 P) (24 : Int32)))]))
        refine Fin.step (fun _ => XS.istore Xy10.here hx rfl (hb hby at_80) rfl (l' := #[.val (.int p1), .val (.int p2), .val (.int (p2 &&& (2147483647 : Int32))), .val (.int (p1 &&& (3 : Int32))), .val (.int P), .val (.int (own_utf8 P)), .val (.int (ushI (own_utf8 P) (24 : Int32))), .unset, .unset, .unset, .unset]) rfl) ?_
        show Fin p e below s _ _ _ (Ty10.setTop (mkF m 82 #[.val (.int p1), .val (.int p2), .val (.int (p2 &&& (2147483647 : Int32))), .val (.int (p1 &&& (3 : Int32))), .val (.int P), .val (.int (own_utf8 P)), .val (.int (ushI (own_utf8 P) (24 : Int32))), .unset, .unset, .unset, .unset] []))
        refine Fin.step (fun _ => XS.iload Xy10.here hx rfl (hb hby at_82) rfl) ?_
        show Fin p e below s _ _ _ (Ty10.setTop (mkF m 84 #[.val (.int p1), .val (.int p2), .val (.int (p2 &&& (2147483647 : Int32))), .val (.int (p1 &&& (3 : Int32))), .val (.int P), .val (.int (own_utf8 P)), .val (.int (ushI (own_utf8 P) (24 : Int32))), .unset, .unset, .unset, .unset] [(.int (own_utf8 P))]))
        refine Fin.step (fun _ => XS.bipush Xy10.here hx rfl (hb hby at_84)) ?_
        show Fin p e below s _ _ _ (Ty10.setTop (mkF m 86 #[.val (.int p1), .val (.int p2), .val (.int (p2 &&& (2147483647 : Int32))), .val (.int (p1 &&& (3 : Int32))), .val (.int P), .val (.int (own_utf8 P)), .val (.int (ushI (own_utf8 P) (24 : Int32))), .unset, .unset, .unset, .unset] [(.int (16 : Int32)), (.int (own_utf8 P))]))
        refine Fin.step (fun _ => XS.iushr Xy10.here hx rfl (hb hby at_86) rfl) ?_
        show Fin p e below s _ _ _ (Ty10.setTop (mkF m 87 #[.val (.int p1), .val (.int p2), .val (.int (p2 &&& (2147483647 : Int32))), .val (.int (p1 &&& (3 : Int32))), .val (.int P), .val (.int (own_utf8 P)), .val (.int (ushI (own_utf8 P) (24 : Int32))), .unset, .unset, .unset, .unset] [(.int (ushI (own_utf8 P) (16 : Int32)))]))
        refine Fin.step (fun _ => XS.sipush Xy10.here hx rfl (hb hby at_87)) ?_
        show Fin p e below s _ _ _ (Ty10.setTop (mkF m 90 #[.val (.int p1), .val (.int p2), .val (.int (p2 &&& (2147483647 : Int32))), .val (.int (p1 &&& (3 : Int32))), .val (.int P), .val (.int (own_utf8 P)), .val (.int (ushI (own_utf8 P) (24 : Int32))), .unset, .unset, .unset, .unset] [(.int (255 : Int32)), (.int (ushI (own_utf8 P) (16 : Int32)))]))
        refine Fin.step (fun _ => XS.iand Xy10.here hx rfl (hb hby at_90) rfl) ?_
        show Fin p e below s _ _ _ (Ty10.setTop (mkF m 91 #[.val (.int p1), .val (.int p2), .val (.int (p2 &&& (2147483647 : Int32))), .val (.int (p1 &&& (3 : Int32))), .val (.int P), .val (.int (own_utf8 P)), .val (.int (ushI (own_utf8 P) (24 : Int32))), .unset, .unset, .unset, .unset] [(.int ((ushI (own_utf8 P) (16 : Int32)) &&& (255 : Int32)))]))
        refine Fin.step (fun _ => XS.istore Xy10.here hx rfl (hb hby at_91) rfl (l' := #[.val (.int p1), .val (.int p2), .val (.int (p2 &&& (2147483647 : Int32))), .val (.int (p1 &&& (3 : Int32))), .val (.int P), .val (.int (own_utf8 P)), .val (.int (ushI (own_utf8 P) (24 : Int32))), .val (.int ((ushI (own_utf8 P) (16 : Int32)) &&& (255 : Int32))), .unset, .unset, .unset]) rfl) ?_
        show Fin p e below s _ _ _ (Ty10.setTop (mkF m 93 #[.val (.int p1), .val (.int p2), .val (.int (p2 &&& (2147483647 : Int32))), .val (.int (p1 &&& (3 : Int32))), .val (.int P), .val (.int (own_utf8 P)), .val (.int (ushI (own_utf8 P) (24 : Int32))), .val (.int ((ushI (own_utf8 P) (16 : Int32)) &&& (255 : Int32))), .unset, .unset, .unset] []))
        refine Fin.step (fun _ => XS.iload Xy10.here hx rfl (hb hby at_93) rfl) ?_
        show Fin p e below s _ _ _ (Ty10.setTop (mkF m 95 #[.val (.int p1), .val (.int p2), .val (.int (p2 &&& (2147483647 : Int32))), .val (.int (p1 &&& (3 : Int32))), .val (.int P), .val (.int (own_utf8 P)), .val (.int (ushI (own_utf8 P) (24 : Int32))), .val (.int ((ushI (own_utf8 P) (16 : Int32)) &&& (255 : Int32))), .unset, .unset, .unset] [(.int (own_utf8 P))]))
        refine Fin.step (fun _ => XS.bipush Xy10.here hx rfl (hb hby at_95)) ?_
        show Fin p e below s _ _ _ (Ty10.setTop (mkF m 97 #[.val (.int p1), .val (.int p2), .val (.int (p2 &&& (2147483647 : Int32))), .val (.int (p1 &&& (3 : Int32))), .val (.int P), .val (.int (own_utf8 P)), .val (.int (ushI (own_utf8 P) (24 : Int32))), .val (.int ((ushI (own_utf8 P) (16 : Int32)) &&& (255 : Int32))), .unset, .unset, .unset] [(.int (8 : Int32)), (.int (own_utf8 P))]))
        refine Fin.step (fun _ => XS.iushr Xy10.here hx rfl (hb hby at_97) rfl) ?_
        show Fin p e below s _ _ _ (Ty10.setTop (mkF m 98 #[.val (.int p1), .val (.int p2), .val (.int (p2 &&& (2147483647 : Int32))), .val (.int (p1 &&& (3 : Int32))), .val (.int P), .val (.int (own_utf8 P)), .val (.int (ushI (own_utf8 P) (24 : Int32))), .val (.int ((ushI (own_utf8 P) (16 : Int32)) &&& (255 : Int32))), .unset, .unset, .unset] [(.int (ushI (own_utf8 P) (8 : Int32)))]))
        refine Fin.step (fun _ => XS.sipush Xy10.here hx rfl (hb hby at_98)) ?_
        show Fin p e below s _ _ _ (Ty10.setTop (mkF m 101 #[.val (.int p1), .val (.int p2), .val (.int (p2 &&& (2147483647 : Int32))), .val (.int (p1 &&& (3 : Int32))), .val (.int P), .val (.int (own_utf8 P)), .val (.int (ushI (own_utf8 P) (24 : Int32))), .val (.int ((ushI (own_utf8 P) (16 : Int32)) &&& (255 : Int32))), .unset, .unset, .unset] [(.int (255 : Int32)), (.int (ushI (own_utf8 P) (8 : Int32)))]))
        refine Fin.step (fun _ => XS.iand Xy10.here hx rfl (hb hby at_101) rfl) ?_
        show Fin p e below s _ _ _ (Ty10.setTop (mkF m 102 #[.val (.int p1), .val (.int p2), .val (.int (p2 &&& (2147483647 : Int32))), .val (.int (p1 &&& (3 : Int32))), .val (.int P), .val (.int (own_utf8 P)), .val (.int (ushI (own_utf8 P) (24 : Int32))), .val (.int ((ushI (own_utf8 P) (16 : Int32)) &&& (255 : Int32))), .unset, .unset, .unset] [(.int ((ushI (own_utf8 P) (8 : Int32)) &&& (255 : Int32)))]))
        refine Fin.step (fun _ => XS.istore Xy10.here hx rfl (hb hby at_102) rfl (l' := #[.val (.int p1), .val (.int p2), .val (.int (p2 &&& (2147483647 : Int32))), .val (.int (p1 &&& (3 : Int32))), .val (.int P), .val (.int (own_utf8 P)), .val (.int (ushI (own_utf8 P) (24 : Int32))), .val (.int ((ushI (own_utf8 P) (16 : Int32)) &&& (255 : Int32))), .val (.int ((ushI (own_utf8 P) (8 : Int32)) &&& (255 : Int32))), .unset, .unset]) rfl) ?_
        show Fin p e below s _ _ _ (Ty10.setTop (mkF m 104 #[.val (.int p1), .val (.int p2), .val (.int (p2 &&& (2147483647 : Int32))), .val (.int (p1 &&& (3 : Int32))), .val (.int P), .val (.int (own_utf8 P)), .val (.int (ushI (own_utf8 P) (24 : Int32))), .val (.int ((ushI (own_utf8 P) (16 : Int32)) &&& (255 : Int32))), .val (.int ((ushI (own_utf8 P) (8 : Int32)) &&& (255 : Int32))), .unset, .unset] []))
        refine Fin.step (fun _ => XS.iload Xy10.here hx rfl (hb hby at_104) rfl) ?_
        show Fin p e below s _ _ _ (Ty10.setTop (mkF m 106 #[.val (.int p1), .val (.int p2), .val (.int (p2 &&& (2147483647 : Int32))), .val (.int (p1 &&& (3 : Int32))), .val (.int P), .val (.int (own_utf8 P)), .val (.int (ushI (own_utf8 P) (24 : Int32))), .val (.int ((ushI (own_utf8 P) (16 : Int32)) &&& (255 : Int32))), .val (.int ((ushI (own_utf8 P) (8 : Int32)) &&& (255 : Int32))), .unset, .unset] [(.int (own_utf8 P))]))
        refine Fin.step (fun _ => XS.sipush Xy10.here hx rfl (hb hby at_106)) ?_
        show Fin p e below s _ _ _ (Ty10.setTop (mkF m 109 #[.val (.int p1), .val (.int p2), .val (.int (p2 &&& (2147483647 : Int32))), .val (.int (p1 &&& (3 : Int32))), .val (.int P), .val (.int (own_utf8 P)), .val (.int (ushI (own_utf8 P) (24 : Int32))), .val (.int ((ushI (own_utf8 P) (16 : Int32)) &&& (255 : Int32))), .val (.int ((ushI (own_utf8 P) (8 : Int32)) &&& (255 : Int32))), .unset, .unset] [(.int (255 : Int32)), (.int (own_utf8 P))]))
        refine Fin.step (fun _ => XS.iand Xy10.here hx rfl (hb hby at_109) rfl) ?_
        show Fin p e below s _ _ _ (Ty10.setTop (mkF m 110 #[.val (.int p1), .val (.int p2), .val (.int (p2 &&& (2147483647 : Int32))), .val (.int (p1 &&& (3 : Int32))), .val (.int P), .val (.int (own_utf8 P)), .val (.int (ushI (own_utf8 P) (24 : Int32))), .val (.int ((ushI (own_utf8 P) (16 : Int32)) &&& (255 : Int32))), .val (.int ((ushI (own_utf8 P) (8 : Int32)) &&& (255 : Int32))), .unset, .unset] [(.int ((own_utf8 P) &&& (255 : Int32)))]))
        refine Fin.step (fun _ => XS.istore Xy10.here hx rfl (hb hby at_110) rfl (l' := #[.val (.int p1), .val (.int p2), .val (.int (p2 &&& (2147483647 : Int32))), .val (.int (p1 &&& (3 : Int32))), .val (.int P), .val (.int (own_utf8 P)), .val (.int (ushI (own_utf8 P) (24 : Int32))), .val (.int ((ushI (own_utf8 P) (16 : Int32)) &&& (255 : Int32))), .val (.int ((ushI (own_utf8 P) (8 : Int32)) &&& (255 : Int32))), .val (.int ((own_utf8 P) &&& (255 : Int32))), .unset]) rfl) ?_
        show Fin p e below s _ _ _ (Ty10.setTop (mkF m 112 #[.val (.int p1), .val (.int p2), .val (.int (p2 &&& (2147483647 : Int32))), .val (.int (p1 &&& (3 : Int32))), .val (.int P), .val (.int (own_utf8 P)), .val (.int (ushI (own_utf8 P) (24 : Int32))), .val (.int ((ushI (own_utf8 P) (16 : Int32)) &&& (255 : Int32))), .val (.int ((ushI (own_utf8 P) (8 : Int32)) &&& (255 : Int32))), .val (.int ((own_utf8 P) &&& (255 : Int32))), .unset] []))
        refine Fin.step (fun _ => XS.iload Xy10.here hx rfl (hb hby at_112) rfl) ?_
        show Fin p e below s _ _ _ (Ty10.setTop (mkF m 114 #[.val (.int p1), .val (.int p2), .val (.int (p2 &&& (2147483647 : Int32))), .val (.int (p1 &&& (3 : Int32))), .val (.int P), .val (.int (own_utf8 P)), .val (.int (ushI (own_utf8 P) (24 : Int32))), .val (.int ((ushI (own_utf8 P) (16 : Int32)) &&& (255 : Int32))), .val (.int ((ushI (own_utf8 P) (8 : Int32)) &&& (255 : Int32))), .val (.int ((own_utf8 P) &&& (255 : Int32))), .unset] [(.int P)]))
        refine Fin.step (fun _ => XS.sipush Xy10.here hx rfl (hb hby at_114)) ?_
        show Fin p e below s _ _ _ (Ty10.setTop (mkF m 117 #[.val (.int p1), .val (.int p2), .val (.int (p2 &&& (2147483647 : Int32))), .val (.int (p1 &&& (3 : Int32))), .val (.int P), .val (.int (own_utf8 P)), .val (.int (ushI (own_utf8 P) (24 : Int32))), .val (.int ((ushI (own_utf8 P) (16 : Int32)) &&& (255 : Int32))), .val (.int ((ushI (own_utf8 P) (8 : Int32)) &&& (255 : Int32))), .val (.int ((own_utf8 P) &&& (255 : Int32))), .unset] [(.int (128 : Int32)), (.int P)]))
        refine Fin.step (fun _ => XS.icmpYes Xy10.here hx rfl (pc0 := 117) (pc' := 137) rfl (hb hby at_117) rfl (flt ((by rw [Int32.lt_iff_toInt_lt]; show ¬ _ < (128 : Int); omega) : ¬ (P < (128 : Int32)))).2.1 (by decide) (by decide)) ?_
        show Fin p e below s _ _ _ (Ty10.setTop (mkF m 137 #[.val (.int p1), .val (.int p2), .val (.int (p2 &&& (2147483647 : Int32))), .val (.int (p1 &&& (3 : Int32))), .val (.int P), .val (.int (own_utf8 P)), .val (.int (ushI (own_utf8 P) (24 : Int32))), .val (.int ((ushI (own_utf8 P) (16 : Int32)) &&& (255 : Int32))), .val (.int ((ushI (own_utf8 P) (8 : Int32)) &&& (255 : Int32))), .val (.int ((own_utf8 P) &&& (255 : Int32))), .unset] []))
        refine Fin.step (fun _ => XS.iload Xy10.here hx rfl (hb hby at_137) rfl) ?_
        show Fin p e below s _ _ _ (Ty10.setTop (mkF m 139 #[.val (.int p1), .val (.int p2), .val (.int (p2 &&& (2147483647 : Int32))), .val (.int (p1 &&& (3 : Int32))), .val (.int P), .val (.int (own_utf8 P)), .val (.int (ushI (own_utf8 P) (24 : Int32))), .val (.int ((ushI (own_utf8 P) (16 : Int32)) &&& (255 : Int32))), .val (.int ((ushI (own_utf8 P) (8 : Int32)) &&& (255 : Int32))), .val (.int ((own_utf8 P) &&& (255 : Int32))), .unset] [(.int P)]))
        refine Fin.step (fun _ => XS.sipush Xy10.here hx rfl (hb hby at_139)) ?_
        show Fin p e below s _ _ _ (Ty10.setTop (mkF m 142 #[.val (.int p1), .val (.int p2), .val (.int (p2 &&& (2147483647 : Int32))), .val (.int (p1 &&& (3 : Int32))), .val (.int P), .val (.int (own_utf8 P)), .val (.int (ushI (own_utf8 P) (24 : Int32))), .val (.int ((ushI (own_utf8 P) (16 : Int32)) &&& (255 : Int32))), .val (.int ((ushI (own_utf8 P) (8 : Int32)) &&& (255 : Int32))), .val (.int ((own_utf8 P) &&& (255 : Int32))), .unset] [(.int (2048 : Int32)), (.int P)]))
        refine Fin.step (fun _ => XS.icmpYes Xy10.here hx rfl (pc0 := 142) (pc' := 204) rfl (hb hby at_142) rfl (flt ((by rw [Int32.lt_iff_toInt_lt]; show ¬ _ < (2048 : Int); omega) : ¬ (P < (2048 : Int32)))).2.1 (by decide) (by decide)) ?_
        show Fin p e below s _ _ _ (Ty10.setTop (mkF m 204 #[.val (.int p1), .val (.int p2), .val (.int (p2 &&& (2147483647 : Int32))), .val (.int (p1 &&& (3 : Int32))), .val (.int P), .val (.int (own_utf8 P)), .val (.int (ushI (own_utf8 P) (24 : Int32))), .val (.int ((ushI (own_utf8 P) (16 : Int32)) &&& (255 : Int32))), .val (.int ((ushI (own_utf8 P) (8 : Int32)) &&& (255 : Int32))), .val (.int ((own_utf8 P) &&& (255 : Int32))), .unset] []))
        refine Fin.step (fun _ => XS.iload Xy10.here hx rfl (hb hby at_204) rfl) ?_
        show Fin p e below s _ _ _ (Ty10.setTop (mkF m 206 #[.val (.int p1), .val (.int p2), .val (.int (p2 &&& (2147483647 : Int32))), .val (.int (p1 &&& (3 : Int32))), .val (.int P), .val (.int (own_utf8 P)), .val (.int (ushI (own_utf8 P) (24 : Int32))), .val (.int ((ushI (own_utf8 P) (16 : Int32)) &&& (255 : Int32))), .val (.int ((ushI (own_utf8 P) (8 : Int32)) &&& (255 : Int32))), .val (.int ((own_utf8 P) &&& (255 : Int32))), .unset] [(.int P)]))
        refine Fin.step (Xy10.ldcInt hx hown (mvT hZ (hw _ (List.mem_of_getElem? (i := 7) rfl))) (g := (mkF m 206 #[.val (.int p1), .val (.int p2), .val (.int (p2 &&& (2147483647 : Int32))), .val (.int (p1 &&& (3 : Int32))), .val (.int P), .val (.int (own_utf8 P)), .val (.int (ushI (own_utf8 P) (24 : Int32))), .val (.int ((ushI (own_utf8 P) (16 : Int32)) &&& (255 : Int32))), .val (.int ((ushI (own_utf8 P) (8 : Int32)) &&& (255 : Int32))), .val (.int ((own_utf8 P) &&& (255 : Int32))), .unset] [(.int P)])) rfl (hb hby at_206)) ?_
        show Fin p e below s _ _ _ (Ty10.setTop (mkF m 208 #[.val (.int p1), .val (.int p2), .val (.int (p2 &&& (2147483647 : Int32))), .val (.int (p1 &&& (3 : Int32))), .val (.int P), .val (.int (own_utf8 P)), .val (.int (ushI (own_utf8 P) (24 : Int32))), .val (.int ((ushI (own_utf8 P) (16 : Int32)) &&& (255 : Int32))), .val (.int ((ushI (own_utf8 P) (8 : Int32)) &&& (255 : Int32))), .val (.int ((own_utf8 P) &&& (255 : Int32))), .unset] [(.int (65536 : Int32)), (.int P)]))
        refine Fin.step (fun _ => XS.icmpYes Xy10.here hx rfl (pc0 := 208) (pc' := 282) rfl (hb hby at_208) rfl (flt ((by rw [Int32.lt_iff_toInt_lt]; show ¬ _ < (65536 : Int); omega) : ¬ (P < (65536 : Int32)))).2.1 (by decide) (by decide)) ?_
        show Fin p e below s _ _ _ (Ty10.setTop (mkF m 282 #[.val (.int p1), .val (.int p2), .val (.int (p2 &&& (2147483647 : Int32))), .val (.int (p1 &&& (3 : Int32))), .val (.int P), .val (.int (own_utf8 P)), .val (.int (ushI (own_utf8 P) (24 : Int32))), .val (.int ((ushI (own_utf8 P) (16 : Int32)) &&& (255 : Int32))), .val (.int ((ushI (own_utf8 P) (8 : Int32)) &&& (255 : Int32))), .val (.int ((own_utf8 P) &&& (255 : Int32))), .unset] []))
        refine Fin.step (fun _ => XS.iload Xy10.here hx rfl (hb hby at_282) rfl) ?_
        show Fin p e below s _ _ _ (Ty10.setTop (mkF m 284 #[.val (.int p1), .val (.int p2), .val (.int (p2 &&& (2147483647 : Int32))), .val (.int (p1 &&& (3 : Int32))), .val (.int P), .val (.int (own_utf8 P)), .val (.int (ushI (own_utf8 P) (24 : Int32))), .val (.int ((ushI (own_utf8 P) (16 : Int32)) &&& (255 : Int32))), .val (.int ((ushI (own_utf8 P) (8 : Int32)) &&& (255 : Int32))), .val (.int ((own_utf8 P) &&& (255 : Int32))), .unset] [(.int (ushI (own_utf8 P) (24 : Int32)))]))
        refine Fin.step (fun _ => XS.sipush Xy10.here hx rfl (hb hby at_284)) ?_
        show Fin p e below s _ _ _ (Ty10.setTop (mkF m 287 #[.val (.int p1), .val (.int p2), .val (.int (p2 &&& (2147483647 : Int32))), .val (.int (p1 &&& (3 : Int32))), .val (.int P), .val (.int (own_utf8 P)), .val (.int (ushI (own_utf8 P) (24 : Int32))), .val (.int ((ushI (own_utf8 P) (16 : Int32)) &&& (255 : Int32))), .val (.int ((ushI (own_utf8 P) (8 : Int32)) &&& (255 : Int32))), .val (.int ((own_utf8 P) &&& (255 : Int32))), .unset] [(.int (248 : Int32)), (.int (ushI (own_utf8 P) (24 : Int32)))]))
        refine Fin.step (fun _ => XS.iand Xy10.here hx rfl (hb hby at_287) rfl) ?_
        show Fin p e below s _ _ _ (Ty10.setTop (mkF m 288 #[.val (.int p1), .val (.int p2), .val (.int (p2 &&& (2147483647 : Int32))), .val (.int (p1 &&& (3 : Int32))), .val (.int P), .val (.int (own_utf8 P)), .val (.int (ushI (own_utf8 P) (24 : Int32))), .val (.int ((ushI (own_utf8 P) (16 : Int32)) &&& (255 : Int32))), .val (.int ((ushI (own_utf8 P) (8 : Int32)) &&& (255 : Int32))), .val (.int ((own_utf8 P) &&& (255 : Int32))), .unset] [(.int ((ushI (own_utf8 P) (24 : Int32)) &&& (248 : Int32)))]))
        refine Fin.step (fun _ => XS.sipush Xy10.here hx rfl (hb hby at_288)) ?_
        show Fin p e below s _ _ _ (Ty10.setTop (mkF m 291 #[.val (.int p1), .val (.int p2), .val (.int (p2 &&& (2147483647 : Int32))), .val (.int (p1 &&& (3 : Int32))), .val (.int P), .val (.int (own_utf8 P)), .val (.int (ushI (own_utf8 P) (24 : Int32))), .val (.int ((ushI (own_utf8 P) (16 : Int32)) &&& (255 : Int32))), .val (.int ((ushI (own_utf8 P) (8 : Int32)) &&& (255 : Int32))), .val (.int ((own_utf8 P) &&& (255 : Int32))), .unset] [(.int (240 : Int32)), (.int ((ushI (own_utf8 P) (24 : Int32)) &&& (248 : Int32)))]))
        refine Fin.step (fun _ => XS.icmpNo Xy10.here hx rfl (hb hby at_291) rfl (teq (G.1 : (((ushI (own_utf8 P) (24 : Int32)) &&& (248 : Int32)) = (240 : Int32)))).2) ?_
        show Fin p e below s _ _ _ (Ty10.setTop (mkF m 294 #[.val (.int p1), .val (.int p2), .val (.int (p2 &&& (2147483647 : Int32))), .val (.int (p1 &&& (3 : Int32))), .val (.int P), .val (.int (own_utf8 P)), .val (.int (ushI (own_utf8 P) (24 : Int32))), .val (.int ((ushI (own_utf8 P) (16 : Int32)) &&& (255 : Int32))), .val (.int ((ushI (own_utf8 P) (8 : Int32)) &&& (255 : Int32))), .val (.int ((own_utf8 P) &&& (255 : Int32))), .unset] []))
        refine Fin.step (fun _ => XS.iload Xy10.here hx rfl (hb hby at_294) rfl) ?_
        show Fin p e below s _ _ _ (Ty10.setTop (mkF m 296 #[.val (.int p1), .val (.int p2), .val (.int (p2 &&& (2147483647 : Int32))), .val (.int (p1 &&& (3 : Int32))), .val (.int P), .val (.int (own_utf8 P)), .val (.int (ushI (own_utf8 P) (24 : Int32))), .val (.int ((ushI (own_utf8 P) (16 : Int32)) &&& (255 : Int32))), .val (.int ((ushI (own_utf8 P) (8 : Int32)) &&& (255 : Int32))), .val (.int ((own_utf8 P) &&& (255 : Int32))), .unset] [(.int ((ushI (own_utf8 P) (16 : Int32)) &&& (255 : Int32)))]))
        obtain ⟨_, _, ⟨Ty11, Ly11, ky11, ny11⟩, -, Xy11, ⟨Lcy11, hQy11, ly11, yy11, zy11⟩, sty11⟩ := Jvm.LawKit.callS Xy10 hx (y := (⟨"com/example/stavetree/stavetree/Utf8KeyUtf8PinLaw", "cont", "(I)Z"⟩ : MethodName)) hown (mvT hZ (hw _ (List.mem_of_getElem? (i := 8) rfl))) (mvT hZ (hw _ (List.mem_of_getElem? (i := 9) rfl))) (mvT hZ (hw _ (List.mem_of_getElem? (i := 10) rfl))) (mvT hZ (hw _ (List.mem_of_getElem? (i := 11) rfl))) (by decide) (backOf (W := 0) (rm2 l Z a0 hw [] ((ushI (own_utf8 P) (16 : Int32)) &&& (255 : Int32)) h0 n0 Z0 ) hZ (hw _ (List.mem_of_getElem? (i := 11) rfl)) (hw _ (List.mem_of_getElem? (i := 10) rfl)) (by decide) (by decide)) (g := (mkF m 296 #[.val (.int p1), .val (.int p2), .val (.int (p2 &&& (2147483647 : Int32))), .val (.int (p1 &&& (3 : Int32))), .val (.int P), .val (.int (own_utf8 P)), .val (.int (ushI (own_utf8 P) (24 : Int32))), .val (.int ((ushI (own_utf8 P) (16 : Int32)) &&& (255 : Int32))), .val (.int ((ushI (own_utf8 P) (8 : Int32)) &&& (255 : Int32))), .val (.int ((own_utf8 P) &&& (255 : Int32))), .unset] [(.int ((ushI (own_utf8 P) (16 : Int32)) &&& (255 : Int32)))])) rfl (by rw [hml]; rfl) (argsL := [(.int ((ushI (own_utf8 P) (16 : Int32)) &&& (255 : Int32)))]) (rest := []) (lenOf pd_1 rfl) rfl (by show 2 * 0 + _ ≤ _; exact Nat.le_of_eq rfl) (hb hby at_296) (fun _ _ => ⟨rfl, eqy10, (by decide : 0 + 0 ≤ _), (by decide : 0 + 0 ≤ _)⟩)
        dsimp only [Pt.U, Pt.locs, Pt.cells, Pt.slots] at Xy11 ly11 yy11 zy11 sty11 hQy11
        subst ly11 yy11 zy11
        obtain ⟨rfl, Nqy11, eqy11⟩ := hQy11
        have Ny11 := Fr.app Ny10 Nqy11
        refine Fin.step (sty11) ?_
        show Fin p e below s _ _ _ (Ty11.setTop (mkF m 299 #[.val (.int p1), .val (.int p2), .val (.int (p2 &&& (2147483647 : Int32))), .val (.int (p1 &&& (3 : Int32))), .val (.int P), .val (.int (own_utf8 P)), .val (.int (ushI (own_utf8 P) (24 : Int32))), .val (.int ((ushI (own_utf8 P) (16 : Int32)) &&& (255 : Int32))), .val (.int ((ushI (own_utf8 P) (8 : Int32)) &&& (255 : Int32))), .val (.int ((own_utf8 P) &&& (255 : Int32))), .unset] [(.int (own_cont ((ushI (own_utf8 P) (16 : Int32)) &&& (255 : Int32))))]))
        refine Fin.step (fun _ => XS.ifNo Xy11.here hx rfl (hb hby at_299) rfl ((if0 _ _).trans (feq ((own_contv G.2.1) : ¬ ((own_cont ((ushI (own_utf8 P) (16 : Int32)) &&& (255 : Int32))) = (0 : Int32)))).1)) ?_
        show Fin p e below s _ _ _ (Ty11.setTop (mkF m 302 #[.val (.int p1), .val (.int p2), .val (.int (p2 &&& (2147483647 : Int32))), .val (.int (p1 &&& (3 : Int32))), .val (.int P), .val (.int (own_utf8 P)), .val (.int (ushI (own_utf8 P) (24 : Int32))), .val (.int ((ushI (own_utf8 P) (16 : Int32)) &&& (255 : Int32))), .val (.int ((ushI (own_utf8 P) (8 : Int32)) &&& (255 : Int32))), .val (.int ((own_utf8 P) &&& (255 : Int32))), .unset] []))
        refine Fin.step (fun _ => XS.iload Xy11.here hx rfl (hb hby at_302) rfl) ?_
        show Fin p e below s _ _ _ (Ty11.setTop (mkF m 304 #[.val (.int p1), .val (.int p2), .val (.int (p2 &&& (2147483647 : Int32))), .val (.int (p1 &&& (3 : Int32))), .val (.int P), .val (.int (own_utf8 P)), .val (.int (ushI (own_utf8 P) (24 : Int32))), .val (.int ((ushI (own_utf8 P) (16 : Int32)) &&& (255 : Int32))), .val (.int ((ushI (own_utf8 P) (8 : Int32)) &&& (255 : Int32))), .val (.int ((own_utf8 P) &&& (255 : Int32))), .unset] [(.int ((ushI (own_utf8 P) (8 : Int32)) &&& (255 : Int32)))]))
        obtain ⟨_, _, ⟨Ty12, Ly12, ky12, ny12⟩, -, Xy12, ⟨Lcy12, hQy12, ly12, yy12, zy12⟩, sty12⟩ := Jvm.LawKit.callS Xy11 hx (y := (⟨"com/example/stavetree/stavetree/Utf8KeyUtf8PinLaw", "cont", "(I)Z"⟩ : MethodName)) hown (mvT hZ (hw _ (List.mem_of_getElem? (i := 8) rfl))) (mvT hZ (hw _ (List.mem_of_getElem? (i := 9) rfl))) (mvT hZ (hw _ (List.mem_of_getElem? (i := 10) rfl))) (mvT hZ (hw _ (List.mem_of_getElem? (i := 11) rfl))) (by decide) (backOf (W := 0) (rm2 l Z a0 hw [] ((ushI (own_utf8 P) (8 : Int32)) &&& (255 : Int32)) h0 n0 Z0 ) hZ (hw _ (List.mem_of_getElem? (i := 11) rfl)) (hw _ (List.mem_of_getElem? (i := 10) rfl)) (by decide) (by decide)) (g := (mkF m 304 #[.val (.int p1), .val (.int p2), .val (.int (p2 &&& (2147483647 : Int32))), .val (.int (p1 &&& (3 : Int32))), .val (.int P), .val (.int (own_utf8 P)), .val (.int (ushI (own_utf8 P) (24 : Int32))), .val (.int ((ushI (own_utf8 P) (16 : Int32)) &&& (255 : Int32))), .val (.int ((ushI (own_utf8 P) (8 : Int32)) &&& (255 : Int32))), .val (.int ((own_utf8 P) &&& (255 : Int32))), .unset] [(.int ((ushI (own_utf8 P) (8 : Int32)) &&& (255 : Int32)))])) rfl (by rw [hml]; rfl) (argsL := [(.int ((ushI (own_utf8 P) (8 : Int32)) &&& (255 : Int32)))]) (rest := []) (lenOf pd_1 rfl) rfl (by show 2 * 0 + _ ≤ _; exact Nat.le_of_eq rfl) (hb hby at_304) (fun _ _ => ⟨rfl, eqy11, (by decide : 0 + 0 ≤ _), (by decide : 0 + 0 ≤ _)⟩)
        dsimp only [Pt.U, Pt.locs, Pt.cells, Pt.slots] at Xy12 ly12 yy12 zy12 sty12 hQy12
        subst ly12 yy12 zy12
        obtain ⟨rfl, Nqy12, eqy12⟩ := hQy12
        have Ny12 := Fr.app Ny11 Nqy12
        refine Fin.step (sty12) ?_
        show Fin p e below s _ _ _ (Ty12.setTop (mkF m 307 #[.val (.int p1), .val (.int p2), .val (.int (p2 &&& (2147483647 : Int32))), .val (.int (p1 &&& (3 : Int32))), .val (.int P), .val (.int (own_utf8 P)), .val (.int (ushI (own_utf8 P) (24 : Int32))), .val (.int ((ushI (own_utf8 P) (16 : Int32)) &&& (255 : Int32))), .val (.int ((ushI (own_utf8 P) (8 : Int32)) &&& (255 : Int32))), .val (.int ((own_utf8 P) &&& (255 : Int32))), .unset] [(.int (own_cont ((ushI (own_utf8 P) (8 : Int32)) &&& (255 : Int32))))]))
        refine Fin.step (fun _ => XS.ifNo Xy12.here hx rfl (hb hby at_307) rfl ((if0 _ _).trans (feq ((own_contv G.2.2.1) : ¬ ((own_cont ((ushI (own_utf8 P) (8 : Int32)) &&& (255 : Int32))) = (0 : Int32)))).1)) ?_
        show Fin p e below s _ _ _ (Ty12.setTop (mkF m 310 #[.val (.int p1), .val (.int p2), .val (.int (p2 &&& (2147483647 : Int32))), .val (.int (p1 &&& (3 : Int32))), .val (.int P), .val (.int (own_utf8 P)), .val (.int (ushI (own_utf8 P) (24 : Int32))), .val (.int ((ushI (own_utf8 P) (16 : Int32)) &&& (255 : Int32))), .val (.int ((ushI (own_utf8 P) (8 : Int32)) &&& (255 : Int32))), .val (.int ((own_utf8 P) &&& (255 : Int32))), .unset] []))
        refine Fin.step (fun _ => XS.iload Xy12.here hx rfl (hb hby at_310) rfl) ?_
        show Fin p e below s _ _ _ (Ty12.setTop (mkF m 312 #[.val (.int p1), .val (.int p2), .val (.int (p2 &&& (2147483647 : Int32))), .val (.int (p1 &&& (3 : Int32))), .val (.int P), .val (.int (own_utf8 P)), .val (.int (ushI (own_utf8 P) (24 : Int32))), .val (.int ((ushI (own_utf8 P) (16 : Int32)) &&& (255 : Int32))), .val (.int ((ushI (own_utf8 P) (8 : Int32)) &&& (255 : Int32))), .val (.int ((own_utf8 P) &&& (255 : Int32))), .unset] [(.int ((own_utf8 P) &&& (255 : Int32)))]))
        obtain ⟨_, _, ⟨Ty13, Ly13, ky13, ny13⟩, -, Xy13, ⟨Lcy13, hQy13, ly13, yy13, zy13⟩, sty13⟩ := Jvm.LawKit.callS Xy12 hx (y := (⟨"com/example/stavetree/stavetree/Utf8KeyUtf8PinLaw", "cont", "(I)Z"⟩ : MethodName)) hown (mvT hZ (hw _ (List.mem_of_getElem? (i := 8) rfl))) (mvT hZ (hw _ (List.mem_of_getElem? (i := 9) rfl))) (mvT hZ (hw _ (List.mem_of_getElem? (i := 10) rfl))) (mvT hZ (hw _ (List.mem_of_getElem? (i := 11) rfl))) (by decide) (backOf (W := 0) (rm2 l Z a0 hw [] ((own_utf8 P) &&& (255 : Int32)) h0 n0 Z0 ) hZ (hw _ (List.mem_of_getElem? (i := 11) rfl)) (hw _ (List.mem_of_getElem? (i := 10) rfl)) (by decide) (by decide)) (g := (mkF m 312 #[.val (.int p1), .val (.int p2), .val (.int (p2 &&& (2147483647 : Int32))), .val (.int (p1 &&& (3 : Int32))), .val (.int P), .val (.int (own_utf8 P)), .val (.int (ushI (own_utf8 P) (24 : Int32))), .val (.int ((ushI (own_utf8 P) (16 : Int32)) &&& (255 : Int32))), .val (.int ((ushI (own_utf8 P) (8 : Int32)) &&& (255 : Int32))), .val (.int ((own_utf8 P) &&& (255 : Int32))), .unset] [(.int ((own_utf8 P) &&& (255 : Int32)))])) rfl (by rw [hml]; rfl) (argsL := [(.int ((own_utf8 P) &&& (255 : Int32)))]) (rest := []) (lenOf pd_1 rfl) rfl (by show 2 * 0 + _ ≤ _; exact Nat.le_of_eq rfl) (hb hby at_312) (fun _ _ => ⟨rfl, eqy12, (by decide : 0 + 0 ≤ _), (by decide : 0 + 0 ≤ _)⟩)
        dsimp only [Pt.U, Pt.locs, Pt.cells, Pt.slots] at Xy13 ly13 yy13 zy13 sty13 hQy13
        subst ly13 yy13 zy13
        obtain ⟨rfl, Nqy13, eqy13⟩ := hQy13
        have Ny13 := Fr.app Ny12 Nqy13
        refine Fin.step (sty13) ?_
        show Fin p e below s _ _ _ (Ty13.setTop (mkF m 315 #[.val (.int p1), .val (.int p2), .val (.int (p2 &&& (2147483647 : Int32))), .val (.int (p1 &&& (3 : Int32))), .val (.int P), .val (.int (own_utf8 P)), .val (.int (ushI (own_utf8 P) (24 : Int32))), .val (.int ((ushI (own_utf8 P) (16 : Int32)) &&& (255 : Int32))), .val (.int ((ushI (own_utf8 P) (8 : Int32)) &&& (255 : Int32))), .val (.int ((own_utf8 P) &&& (255 : Int32))), .unset] [(.int (own_cont ((own_utf8 P) &&& (255 : Int32))))]))
        refine Fin.step (fun _ => XS.ifNo Xy13.here hx rfl (hb hby at_315) rfl ((if0 _ _).trans (feq ((own_contv G.2.2.2.1) : ¬ ((own_cont ((own_utf8 P) &&& (255 : Int32))) = (0 : Int32)))).1)) ?_
        show Fin p e below s _ _ _ (Ty13.setTop (mkF m 318 #[.val (.int p1), .val (.int p2), .val (.int (p2 &&& (2147483647 : Int32))), .val (.int (p1 &&& (3 : Int32))), .val (.int P), .val (.int (own_utf8 P)), .val (.int (ushI (own_utf8 P) (24 : Int32))), .val (.int ((ushI (own_utf8 P) (16 : Int32)) &&& (255 : Int32))), .val (.int ((ushI (own_utf8 P) (8 : Int32)) &&& (255 : Int32))), .val (.int ((own_utf8 P) &&& (255 : Int32))), .unset] []))
        refine Fin.step (fun _ => XS.iload Xy13.here hx rfl (hb hby at_318) rfl) ?_
        show Fin p e below s _ _ _ (Ty13.setTop (mkF m 320 #[.val (.int p1), .val (.int p2), .val (.int (p2 &&& (2147483647 : Int32))), .val (.int (p1 &&& (3 : Int32))), .val (.int P), .val (.int (own_utf8 P)), .val (.int (ushI (own_utf8 P) (24 : Int32))), .val (.int ((ushI (own_utf8 P) (16 : Int32)) &&& (255 : Int32))), .val (.int ((ushI (own_utf8 P) (8 : Int32)) &&& (255 : Int32))), .val (.int ((own_utf8 P) &&& (255 : Int32))), .unset] [(.int (ushI (own_utf8 P) (24 : Int32)))]))
        refine Fin.step (fun _ => XS.bipush Xy13.here hx rfl (hb hby at_320)) ?_
        show Fin p e below s _ _ _ (Ty13.setTop (mkF m 322 #[.val (.int p1), .val (.int p2), .val (.int (p2 &&& (2147483647 : Int32))), .val (.int (p1 &&& (3 : Int32))), .val (.int P), .val (.int (own_utf8 P)), .val (.int (ushI (own_utf8 P) (24 : Int32))), .val (.int ((ushI (own_utf8 P) (16 : Int32)) &&& (255 : Int32))), .val (.int ((ushI (own_utf8 P) (8 : Int32)) &&& (255 : Int32))), .val (.int ((own_utf8 P) &&& (255 : Int32))), .unset] [(.int (7 : Int32)), (.int (ushI (own_utf8 P) (24 : Int32)))]))
        refine Fin.step (fun _ => XS.iand Xy13.here hx rfl (hb hby at_322) rfl) ?_
        show Fin p e below s _ _ _ (Ty13.setTop (mkF m 323 #[.val (.int p1), .val (.int p2), .val (.int (p2 &&& (2147483647 : Int32))), .val (.int (p1 &&& (3 : Int32))), .val (.int P), .val (.int (own_utf8 P)), .val (.int (ushI (own_utf8 P) (24 : Int32))), .val (.int ((ushI (own_utf8 P) (16 : Int32)) &&& (255 : Int32))), .val (.int ((ushI (own_utf8 P) (8 : Int32)) &&& (255 : Int32))), .val (.int ((own_utf8 P) &&& (255 : Int32))), .unset] [(.int ((ushI (own_utf8 P) (24 : Int32)) &&& (7 : Int32)))]))
        refine Fin.step (fun _ => XS.bipush Xy13.here hx rfl (hb hby at_323)) ?_
        show Fin p e below s _ _ _ (Ty13.setTop (mkF m 325 #[.val (.int p1), .val (.int p2), .val (.int (p2 &&& (2147483647 : Int32))), .val (.int (p1 &&& (3 : Int32))), .val (.int P), .val (.int (own_utf8 P)), .val (.int (ushI (own_utf8 P) (24 : Int32))), .val (.int ((ushI (own_utf8 P) (16 : Int32)) &&& (255 : Int32))), .val (.int ((ushI (own_utf8 P) (8 : Int32)) &&& (255 : Int32))), .val (.int ((own_utf8 P) &&& (255 : Int32))), .unset] [(.int (18 : Int32)), (.int ((ushI (own_utf8 P) (24 : Int32)) &&& (7 : Int32)))]))
        refine Fin.step (fun _ => XS.ishl Xy13.here hx rfl (hb hby at_325) rfl) ?_
        show Fin p e below s _ _ _ (Ty13.setTop (mkF m 326 #[.val (.int p1), .val (.int p2), .val (.int (p2 &&& (2147483647 : Int32))), .val (.int (p1 &&& (3 : Int32))), .val (.int P), .val (.int (own_utf8 P)), .val (.int (ushI (own_utf8 P) (24 : Int32))), .val (.int ((ushI (own_utf8 P) (16 : Int32)) &&& (255 : Int32))), .val (.int ((ushI (own_utf8 P) (8 : Int32)) &&& (255 : Int32))), .val (.int ((own_utf8 P) &&& (255 : Int32))), .unset] [(.int (((ushI (own_utf8 P) (24 : Int32)) &&& (7 : Int32)) <<< ((18 : Int32) &&& 31)))]))
        refine Fin.step (fun _ => XS.iload Xy13.here hx rfl (hb hby at_326) rfl) ?_
        show Fin p e below s _ _ _ (Ty13.setTop (mkF m 328 #[.val (.int p1), .val (.int p2), .val (.int (p2 &&& (2147483647 : Int32))), .val (.int (p1 &&& (3 : Int32))), .val (.int P), .val (.int (own_utf8 P)), .val (.int (ushI (own_utf8 P) (24 : Int32))), .val (.int ((ushI (own_utf8 P) (16 : Int32)) &&& (255 : Int32))), .val (.int ((ushI (own_utf8 P) (8 : Int32)) &&& (255 : Int32))), .val (.int ((own_utf8 P) &&& (255 : Int32))), .unset] [(.int ((ushI (own_utf8 P) (16 : Int32)) &&& (255 : Int32))), (.int (((ushI (own_utf8 P) (24 : Int32)) &&& (7 : Int32)) <<< ((18 : Int32) &&& 31)))]))
        refine Fin.step (fun _ => XS.bipush Xy13.here hx rfl (hb hby at_328)) ?_
        show Fin p e below s _ _ _ (Ty13.setTop (mkF m 330 #[.val (.int p1), .val (.int p2), .val (.int (p2 &&& (2147483647 : Int32))), .val (.int (p1 &&& (3 : Int32))), .val (.int P), .val (.int (own_utf8 P)), .val (.int (ushI (own_utf8 P) (24 : Int32))), .val (.int ((ushI (own_utf8 P) (16 : Int32)) &&& (255 : Int32))), .val (.int ((ushI (own_utf8 P) (8 : Int32)) &&& (255 : Int32))), .val (.int ((own_utf8 P) &&& (255 : Int32))), .unset] [(.int (63 : Int32)), (.int ((ushI (own_utf8 P) (16 : Int32)) &&& (255 : Int32))), (.int (((ushI (own_utf8 P) (24 : Int32)) &&& (7 : Int32)) <<< ((18 : Int32) &&& 31)))]))
        refine Fin.step (fun _ => XS.iand Xy13.here hx rfl (hb hby at_330) rfl) ?_
        show Fin p e below s _ _ _ (Ty13.setTop (mkF m 331 #[.val (.int p1), .val (.int p2), .val (.int (p2 &&& (2147483647 : Int32))), .val (.int (p1 &&& (3 : Int32))), .val (.int P), .val (.int (own_utf8 P)), .val (.int (ushI (own_utf8 P) (24 : Int32))), .val (.int ((ushI (own_utf8 P) (16 : Int32)) &&& (255 : Int32))), .val (.int ((ushI (own_utf8 P) (8 : Int32)) &&& (255 : Int32))), .val (.int ((own_utf8 P) &&& (255 : Int32))), .unset] [(.int (((ushI (own_utf8 P) (16 : Int32)) &&& (255 : Int32)) &&& (63 : Int32))), (.int (((ushI (own_utf8 P) (24 : Int32)) &&& (7 : Int32)) <<< ((18 : Int32) &&& 31)))]))
        refine Fin.step (fun _ => XS.bipush Xy13.here hx rfl (hb hby at_331)) ?_
        show Fin p e below s _ _ _ (Ty13.setTop (mkF m 333 #[.val (.int p1), .val (.int p2), .val (.int (p2 &&& (2147483647 : Int32))), .val (.int (p1 &&& (3 : Int32))), .val (.int P), .val (.int (own_utf8 P)), .val (.int (ushI (own_utf8 P) (24 : Int32))), .val (.int ((ushI (own_utf8 P) (16 : Int32)) &&& (255 : Int32))), .val (.int ((ushI (own_utf8 P) (8 : Int32)) &&& (255 : Int32))), .val (.int ((own_utf8 P) &&& (255 : Int32))), .unset] [(.int (12 : Int32)), (.int (((ushI (own_utf8 P) (16 : Int32)) &&& (255 : Int32)) &&& (63 : Int32))), (.int (((ushI (own_utf8 P) (24 : Int32)) &&& (7 : Int32)) <<< ((18 : Int32) &&& 31)))]))
        refine Fin.step (fun _ => XS.ishl Xy13.here hx rfl (hb hby at_333) rfl) ?_
        show Fin p e below s _ _ _ (Ty13.setTop (mkF m 334 #[.val (.int p1), .val (.int p2), .val (.int (p2 &&& (2147483647 : Int32))), .val (.int (p1 &&& (3 : Int32))), .val (.int P), .val (.int (own_utf8 P)), .val (.int (ushI (own_utf8 P) (24 : Int32))), .val (.int ((ushI (own_utf8 P) (16 : Int32)) &&& (255 : Int32))), .val (.int ((ushI (own_utf8 P) (8 : Int32)) &&& (255 : Int32))), .val (.int ((own_utf8 P) &&& (255 : Int32))), .unset] [(.int ((((ushI (own_utf8 P) (16 : Int32)) &&& (255 : Int32)) &&& (63 : Int32)) <<< ((12 : Int32) &&& 31))), (.int (((ushI (own_utf8 P) (24 : Int32)) &&& (7 : Int32)) <<< ((18 : Int32) &&& 31)))]))
        refine Fin.step (fun _ => XS.ior Xy13.here hx rfl (hb hby at_334) rfl) ?_
        show Fin p e below s _ _ _ (Ty13.setTop (mkF m 335 #[.val (.int p1), .val (.int p2), .val (.int (p2 &&& (2147483647 : Int32))), .val (.int (p1 &&& (3 : Int32))), .val (.int P), .val (.int (own_utf8 P)), .val (.int (ushI (own_utf8 P) (24 : Int32))), .val (.int ((ushI (own_utf8 P) (16 : Int32)) &&& (255 : Int32))), .val (.int ((ushI (own_utf8 P) (8 : Int32)) &&& (255 : Int32))), .val (.int ((own_utf8 P) &&& (255 : Int32))), .unset] [(.int ((((ushI (own_utf8 P) (24 : Int32)) &&& (7 : Int32)) <<< ((18 : Int32) &&& 31)) ||| ((((ushI (own_utf8 P) (16 : Int32)) &&& (255 : Int32)) &&& (63 : Int32)) <<< ((12 : Int32) &&& 31))))]))
        refine Fin.step (fun _ => XS.iload Xy13.here hx rfl (hb hby at_335) rfl) ?_
        show Fin p e below s _ _ _ (Ty13.setTop (mkF m 337 #[.val (.int p1), .val (.int p2), .val (.int (p2 &&& (2147483647 : Int32))), .val (.int (p1 &&& (3 : Int32))), .val (.int P), .val (.int (own_utf8 P)), .val (.int (ushI (own_utf8 P) (24 : Int32))), .val (.int ((ushI (own_utf8 P) (16 : Int32)) &&& (255 : Int32))), .val (.int ((ushI (own_utf8 P) (8 : Int32)) &&& (255 : Int32))), .val (.int ((own_utf8 P) &&& (255 : Int32))), .unset] [(.int ((ushI (own_utf8 P) (8 : Int32)) &&& (255 : Int32))), (.int ((((ushI (own_utf8 P) (24 : Int32)) &&& (7 : Int32)) <<< ((18 : Int32) &&& 31)) ||| ((((ushI (own_utf8 P) (16 : Int32)) &&& (255 : Int32)) &&& (63 : Int32)) <<< ((12 : Int32) &&& 31))))]))
        refine Fin.step (fun _ => XS.bipush Xy13.here hx rfl (hb hby at_337)) ?_
        show Fin p e below s _ _ _ (Ty13.setTop (mkF m 339 #[.val (.int p1), .val (.int p2), .val (.int (p2 &&& (2147483647 : Int32))), .val (.int (p1 &&& (3 : Int32))), .val (.int P), .val (.int (own_utf8 P)), .val (.int (ushI (own_utf8 P) (24 : Int32))), .val (.int ((ushI (own_utf8 P) (16 : Int32)) &&& (255 : Int32))), .val (.int ((ushI (own_utf8 P) (8 : Int32)) &&& (255 : Int32))), .val (.int ((own_utf8 P) &&& (255 : Int32))), .unset] [(.int (63 : Int32)), (.int ((ushI (own_utf8 P) (8 : Int32)) &&& (255 : Int32))), (.int ((((ushI (own_utf8 P) (24 : Int32)) &&& (7 : Int32)) <<< ((18 : Int32) &&& 31)) ||| ((((ushI (own_utf8 P) (16 : Int32)) &&& (255 : Int32)) &&& (63 : Int32)) <<< ((12 : Int32) &&& 31))))]))
        refine Fin.step (fun _ => XS.iand Xy13.here hx rfl (hb hby at_339) rfl) ?_
        show Fin p e below s _ _ _ (Ty13.setTop (mkF m 340 #[.val (.int p1), .val (.int p2), .val (.int (p2 &&& (2147483647 : Int32))), .val (.int (p1 &&& (3 : Int32))), .val (.int P), .val (.int (own_utf8 P)), .val (.int (ushI (own_utf8 P) (24 : Int32))), .val (.int ((ushI (own_utf8 P) (16 : Int32)) &&& (255 : Int32))), .val (.int ((ushI (own_utf8 P) (8 : Int32)) &&& (255 : Int32))), .val (.int ((own_utf8 P) &&& (255 : Int32))), .unset] [(.int (((ushI (own_utf8 P) (8 : Int32)) &&& (255 : Int32)) &&& (63 : Int32))), (.int ((((ushI (own_utf8 P) (24 : Int32)) &&& (7 : Int32)) <<< ((18 : Int32) &&& 31)) ||| ((((ushI (own_utf8 P) (16 : Int32)) &&& (255 : Int32)) &&& (63 : Int32)) <<< ((12 : Int32) &&& 31))))]))
        refine Fin.step (fun _ => XS.bipush Xy13.here hx rfl (hb hby at_340)) ?_
        show Fin p e below s _ _ _ (Ty13.setTop (mkF m 342 #[.val (.int p1), .val (.int p2), .val (.int (p2 &&& (2147483647 : Int32))), .val (.int (p1 &&& (3 : Int32))), .val (.int P), .val (.int (own_utf8 P)), .val (.int (ushI (own_utf8 P) (24 : Int32))), .val (.int ((ushI (own_utf8 P) (16 : Int32)) &&& (255 : Int32))), .val (.int ((ushI (own_utf8 P) (8 : Int32)) &&& (255 : Int32))), .val (.int ((own_utf8 P) &&& (255 : Int32))), .unset] [(.int (6 : Int32)), (.int (((ushI (own_utf8 P) (8 : Int32)) &&& (255 : Int32)) &&& (63 : Int32))), (.int ((((ushI (own_utf8 P) (24 : Int32)) &&& (7 : Int32)) <<< ((18 : Int32) &&& 31)) ||| ((((ushI (own_utf8 P) (16 : Int32)) &&& (255 : Int32)) &&& (63 : Int32)) <<< ((12 : Int32) &&& 31))))]))
        refine Fin.step (fun _ => XS.ishl Xy13.here hx rfl (hb hby at_342) rfl) ?_
        show Fin p e below s _ _ _ (Ty13.setTop (mkF m 343 #[.val (.int p1), .val (.int p2), .val (.int (p2 &&& (2147483647 : Int32))), .val (.int (p1 &&& (3 : Int32))), .val (.int P), .val (.int (own_utf8 P)), .val (.int (ushI (own_utf8 P) (24 : Int32))), .val (.int ((ushI (own_utf8 P) (16 : Int32)) &&& (255 : Int32))), .val (.int ((ushI (own_utf8 P) (8 : Int32)) &&& (255 : Int32))), .val (.int ((own_utf8 P) &&& (255 : Int32))), .unset] [(.int ((((ushI (own_utf8 P) (8 : Int32)) &&& (255 : Int32)) &&& (63 : Int32)) <<< ((6 : Int32) &&& 31))), (.int ((((ushI (own_utf8 P) (24 : Int32)) &&& (7 : Int32)) <<< ((18 : Int32) &&& 31)) ||| ((((ushI (own_utf8 P) (16 : Int32)) &&& (255 : Int32)) &&& (63 : Int32)) <<< ((12 : Int32) &&& 31))))]))
        refine Fin.step (fun _ => XS.ior Xy13.here hx rfl (hb hby at_343) rfl) ?_
        show Fin p e below s _ _ _ (Ty13.setTop (mkF m 344 #[.val (.int p1), .val (.int p2), .val (.int (p2 &&& (2147483647 : Int32))), .val (.int (p1 &&& (3 : Int32))), .val (.int P), .val (.int (own_utf8 P)), .val (.int (ushI (own_utf8 P) (24 : Int32))), .val (.int ((ushI (own_utf8 P) (16 : Int32)) &&& (255 : Int32))), .val (.int ((ushI (own_utf8 P) (8 : Int32)) &&& (255 : Int32))), .val (.int ((own_utf8 P) &&& (255 : Int32))), .unset] [(.int (((((ushI (own_utf8 P) (24 : Int32)) &&& (7 : Int32)) <<< ((18 : Int32) &&& 31)) ||| ((((ushI (own_utf8 P) (16 : Int32)) &&& (255 : Int32)) &&& (63 : Int32)) <<< ((12 : Int32) &&& 31))) ||| ((((ushI (own_utf8 P) (8 : Int32)) &&& (255 : Int32)) &&& (63 : Int32)) <<< ((6 : Int32) &&& 31))))]))
        refine Fin.step (fun _ => XS.iload Xy13.here hx rfl (hb hby at_344) rfl) ?_
        show Fin p e below s _ _ _ (Ty13.setTop (mkF m 346 #[.val (.int p1), .val (.int p2), .val (.int (p2 &&& (2147483647 : Int32))), .val (.int (p1 &&& (3 : Int32))), .val (.int P), .val (.int (own_utf8 P)), .val (.int (ushI (own_utf8 P) (24 : Int32))), .val (.int ((ushI (own_utf8 P) (16 : Int32)) &&& (255 : Int32))), .val (.int ((ushI (own_utf8 P) (8 : Int32)) &&& (255 : Int32))), .val (.int ((own_utf8 P) &&& (255 : Int32))), .unset] [(.int ((own_utf8 P) &&& (255 : Int32))), (.int (((((ushI (own_utf8 P) (24 : Int32)) &&& (7 : Int32)) <<< ((18 : Int32) &&& 31)) ||| ((((ushI (own_utf8 P) (16 : Int32)) &&& (255 : Int32)) &&& (63 : Int32)) <<< ((12 : Int32) &&& 31))) ||| ((((ushI (own_utf8 P) (8 : Int32)) &&& (255 : Int32)) &&& (63 : Int32)) <<< ((6 : Int32) &&& 31))))]))
        refine Fin.step (fun _ => XS.bipush Xy13.here hx rfl (hb hby at_346)) ?_
        show Fin p e below s _ _ _ (Ty13.setTop (mkF m 348 #[.val (.int p1), .val (.int p2), .val (.int (p2 &&& (2147483647 : Int32))), .val (.int (p1 &&& (3 : Int32))), .val (.int P), .val (.int (own_utf8 P)), .val (.int (ushI (own_utf8 P) (24 : Int32))), .val (.int ((ushI (own_utf8 P) (16 : Int32)) &&& (255 : Int32))), .val (.int ((ushI (own_utf8 P) (8 : Int32)) &&& (255 : Int32))), .val (.int ((own_utf8 P) &&& (255 : Int32))), .unset] [(.int (63 : Int32)), (.int ((own_utf8 P) &&& (255 : Int32))), (.int (((((ushI (own_utf8 P) (24 : Int32)) &&& (7 : Int32)) <<< ((18 : Int32) &&& 31)) ||| ((((ushI (own_utf8 P) (16 : Int32)) &&& (255 : Int32)) &&& (63 : Int32)) <<< ((12 : Int32) &&& 31))) ||| ((((ushI (own_utf8 P) (8 : Int32)) &&& (255 : Int32)) &&& (63 : Int32)) <<< ((6 : Int32) &&& 31))))]))
        refine Fin.step (fun _ => XS.iand Xy13.here hx rfl (hb hby at_348) rfl) ?_
        show Fin p e below s _ _ _ (Ty13.setTop (mkF m 349 #[.val (.int p1), .val (.int p2), .val (.int (p2 &&& (2147483647 : Int32))), .val (.int (p1 &&& (3 : Int32))), .val (.int P), .val (.int (own_utf8 P)), .val (.int (ushI (own_utf8 P) (24 : Int32))), .val (.int ((ushI (own_utf8 P) (16 : Int32)) &&& (255 : Int32))), .val (.int ((ushI (own_utf8 P) (8 : Int32)) &&& (255 : Int32))), .val (.int ((own_utf8 P) &&& (255 : Int32))), .unset] [(.int (((own_utf8 P) &&& (255 : Int32)) &&& (63 : Int32))), (.int (((((ushI (own_utf8 P) (24 : Int32)) &&& (7 : Int32)) <<< ((18 : Int32) &&& 31)) ||| ((((ushI (own_utf8 P) (16 : Int32)) &&& (255 : Int32)) &&& (63 : Int32)) <<< ((12 : Int32) &&& 31))) ||| ((((ushI (own_utf8 P) (8 : Int32)) &&& (255 : Int32)) &&& (63 : Int32)) <<< ((6 : Int32) &&& 31))))]))
        refine Fin.step (fun _ => XS.ior Xy13.here hx rfl (hb hby at_349) rfl) ?_
        show Fin p e below s _ _ _ (Ty13.setTop (mkF m 350 #[.val (.int p1), .val (.int p2), .val (.int (p2 &&& (2147483647 : Int32))), .val (.int (p1 &&& (3 : Int32))), .val (.int P), .val (.int (own_utf8 P)), .val (.int (ushI (own_utf8 P) (24 : Int32))), .val (.int ((ushI (own_utf8 P) (16 : Int32)) &&& (255 : Int32))), .val (.int ((ushI (own_utf8 P) (8 : Int32)) &&& (255 : Int32))), .val (.int ((own_utf8 P) &&& (255 : Int32))), .unset] [(.int ((((((ushI (own_utf8 P) (24 : Int32)) &&& (7 : Int32)) <<< ((18 : Int32) &&& 31)) ||| ((((ushI (own_utf8 P) (16 : Int32)) &&& (255 : Int32)) &&& (63 : Int32)) <<< ((12 : Int32) &&& 31))) ||| ((((ushI (own_utf8 P) (8 : Int32)) &&& (255 : Int32)) &&& (63 : Int32)) <<< ((6 : Int32) &&& 31))) ||| (((own_utf8 P) &&& (255 : Int32)) &&& (63 : Int32))))]))
        refine Fin.step (fun _ => XS.iload Xy13.here hx rfl (hb hby at_350) rfl) ?_
        show Fin p e below s _ _ _ (Ty13.setTop (mkF m 352 #[.val (.int p1), .val (.int p2), .val (.int (p2 &&& (2147483647 : Int32))), .val (.int (p1 &&& (3 : Int32))), .val (.int P), .val (.int (own_utf8 P)), .val (.int (ushI (own_utf8 P) (24 : Int32))), .val (.int ((ushI (own_utf8 P) (16 : Int32)) &&& (255 : Int32))), .val (.int ((ushI (own_utf8 P) (8 : Int32)) &&& (255 : Int32))), .val (.int ((own_utf8 P) &&& (255 : Int32))), .unset] [(.int P), (.int ((((((ushI (own_utf8 P) (24 : Int32)) &&& (7 : Int32)) <<< ((18 : Int32) &&& 31)) ||| ((((ushI (own_utf8 P) (16 : Int32)) &&& (255 : Int32)) &&& (63 : Int32)) <<< ((12 : Int32) &&& 31))) ||| ((((ushI (own_utf8 P) (8 : Int32)) &&& (255 : Int32)) &&& (63 : Int32)) <<< ((6 : Int32) &&& 31))) ||| (((own_utf8 P) &&& (255 : Int32)) &&& (63 : Int32))))]))
        refine Fin.step (fun _ => XS.icmpNo Xy13.here hx rfl (hb hby at_352) rfl (teq (G.2.2.2.2 : (((((((ushI (own_utf8 P) (24 : Int32)) &&& (7 : Int32)) <<< ((18 : Int32) &&& 31)) ||| ((((ushI (own_utf8 P) (16 : Int32)) &&& (255 : Int32)) &&& (63 : Int32)) <<< ((12 : Int32) &&& 31))) ||| ((((ushI (own_utf8 P) (8 : Int32)) &&& (255 : Int32)) &&& (63 : Int32)) <<< ((6 : Int32) &&& 31))) ||| (((own_utf8 P) &&& (255 : Int32)) &&& (63 : Int32))) = P))).2) ?_
        show Fin p e below s _ _ _ (Ty13.setTop (mkF m 355 #[.val (.int p1), .val (.int p2), .val (.int (p2 &&& (2147483647 : Int32))), .val (.int (p1 &&& (3 : Int32))), .val (.int P), .val (.int (own_utf8 P)), .val (.int (ushI (own_utf8 P) (24 : Int32))), .val (.int ((ushI (own_utf8 P) (16 : Int32)) &&& (255 : Int32))), .val (.int ((ushI (own_utf8 P) (8 : Int32)) &&& (255 : Int32))), .val (.int ((own_utf8 P) &&& (255 : Int32))), .unset] []))
        refine Fin.step (fun _ => XS.iconst Xy13.here hx rfl (hb hby at_355)) ?_
        show Fin p e below s _ _ _ (Ty13.setTop (mkF m 356 #[.val (.int p1), .val (.int p2), .val (.int (p2 &&& (2147483647 : Int32))), .val (.int (p1 &&& (3 : Int32))), .val (.int P), .val (.int (own_utf8 P)), .val (.int (ushI (own_utf8 P) (24 : Int32))), .val (.int ((ushI (own_utf8 P) (16 : Int32)) &&& (255 : Int32))), .val (.int ((ushI (own_utf8 P) (8 : Int32)) &&& (255 : Int32))), .val (.int ((own_utf8 P) &&& (255 : Int32))), .unset] [(.int (1 : Int32))]))
        refine Fin.step (fun _ => XS.goto Xy13.here hx rfl (pc0 := 356) (pc' := 360) rfl (hb hby at_356) (by decide) (by decide)) ?_
        show Fin p e below s _ _ _ (Ty13.setTop (mkF m 360 #[.val (.int p1), .val (.int p2), .val (.int (p2 &&& (2147483647 : Int32))), .val (.int (p1 &&& (3 : Int32))), .val (.int P), .val (.int (own_utf8 P)), .val (.int (ushI (own_utf8 P) (24 : Int32))), .val (.int ((ushI (own_utf8 P) (16 : Int32)) &&& (255 : Int32))), .val (.int ((ushI (own_utf8 P) (8 : Int32)) &&& (255 : Int32))), .val (.int ((own_utf8 P) &&& (255 : Int32))), .unset] [(.int (1 : Int32))]))
        refine Fin.step (fun _ => XS.istore Xy13.here hx rfl (hb hby at_360) rfl (l' := #[.val (.int p1), .val (.int p2), .val (.int (p2 &&& (2147483647 : Int32))), .val (.int (p1 &&& (3 : Int32))), .val (.int P), .val (.int (own_utf8 P)), .val (.int (ushI (own_utf8 P) (24 : Int32))), .val (.int ((ushI (own_utf8 P) (16 : Int32)) &&& (255 : Int32))), .val (.int ((ushI (own_utf8 P) (8 : Int32)) &&& (255 : Int32))), .val (.int ((own_utf8 P) &&& (255 : Int32))), .val (.int (1 : Int32))]) rfl) ?_
        show Fin p e below s _ _ _ (Ty13.setTop (mkF m 362 #[.val (.int p1), .val (.int p2), .val (.int (p2 &&& (2147483647 : Int32))), .val (.int (p1 &&& (3 : Int32))), .val (.int P), .val (.int (own_utf8 P)), .val (.int (ushI (own_utf8 P) (24 : Int32))), .val (.int ((ushI (own_utf8 P) (16 : Int32)) &&& (255 : Int32))), .val (.int ((ushI (own_utf8 P) (8 : Int32)) &&& (255 : Int32))), .val (.int ((own_utf8 P) &&& (255 : Int32))), .val (.int (1 : Int32))] []))
        refine Fin.step (fun _ => XS.iload Xy13.here hx rfl (hb hby at_362) rfl) ?_
        show Fin p e below s _ _ _ (Ty13.setTop (mkF m 364 #[.val (.int p1), .val (.int p2), .val (.int (p2 &&& (2147483647 : Int32))), .val (.int (p1 &&& (3 : Int32))), .val (.int P), .val (.int (own_utf8 P)), .val (.int (ushI (own_utf8 P) (24 : Int32))), .val (.int ((ushI (own_utf8 P) (16 : Int32)) &&& (255 : Int32))), .val (.int ((ushI (own_utf8 P) (8 : Int32)) &&& (255 : Int32))), .val (.int ((own_utf8 P) &&& (255 : Int32))), .val (.int (1 : Int32))] [(.int (1 : Int32))]))
        refine Fin.retN Xy13 hx (t := .boolean) hret (by simp) hlk (hb hby at_364) (by decide) (by decide) ?_
        show Q0 Z p1 p2 h0 n0 _ Ty13.heap _
        rw [eqy13]
        exact ⟨rfl, Ny13, rfl⟩
set_option maxRecDepth 65536 in
set_option maxHeartbeats 40000000 in
theorem comes_1 {Post : Tables → Env → Array Value → State → Outcome → State → Prop} (hpost : ∀ tb e args s v u, (limb_1_1.after args s (.returned v) u = true ∧ limb_1_2.after args s (.returned v) u = true ∧ True) → FrameEnd s (.returned v) u (Jvm.fieldLocs frame_1_writes args s ++ Jvm.arrayLocs frame_1_arrays args s ++ Jvm.staticLocs frame_1_statics s) 0 0 → Post tb e args s (.returned v) u) :
    ArmFor flags0 classFile x code maxLocals ret World_1 tables_1 room_1 Calls_1 rest_1 Pre_1 Post := by
  intro l hfl _ _ p e ha hc hk s m args below hf hA hF happ hP
  obtain ⟨hcalls, hrest, hpre⟩ := hP
  obtain ⟨-, -, -, hnamed, -, -, -, hat⟩ := (Spec.applies_iff hf).mp happ
  obtain ⟨hg, hn⟩ := and_e (Cond.before_iff.mp (show (Jvm.Cond.and given_1 narrow_1).before args s = true from hpre))
  obtain ⟨gc, gr0⟩ := and_e hg
  obtain ⟨ga0, gr1⟩ := and_e gr0
  have ga1 := gr1
  obtain ⟨w0, w1, rfl⟩ : ∃ w0 w1 : Value, args = #[w0, w1] := by
    have hs : args.size = 2 := by simpa [Cond.value, given_1] using gc
    obtain ⟨L⟩ := args
    match L, hs with
    | [w0, w1], _ => exact ⟨w0, w1, rfl⟩
  have hw := fun d (hd : d ∈ tables_1) => atoms_spec (ws := Jvm.Cond.code x code maxLocals ret :: tables_1) hat d (List.mem_cons_of_mem _ hd)
  have hfit : Fit s := fun {y c} hc i hi => by
    obtain ⟨ha, rfl⟩ := Array.getElem?_eq_some_iff.mp hc
    have q := List.all_eq_true.mp ((Array.all_eq_true_iff_forall_mem.mp hF) _ (Array.getElem_mem ha)) i (List.mem_range.mpr hi)
    simpa [Array.getElem?_eq_getElem hi] using q
  obtain ⟨i0, ei0⟩ := is_v ga0
  obtain rfl : w0 = (.int i0) := Option.some.inj ei0
  obtain ⟨i1, ei1⟩ := is_v ga1
  obtain rfl : w1 = (.int i1) := Option.some.inj ei1
  obtain ⟨n, o, h1, h2, h3, _, L, rfl, ⟨rfl, N, _⟩, hq⟩ := rm0 l s _ hw tables_1 i0 i1  s.heap s.heap.size (Nat.le_refl _)  p e ha hc hk s m _ below hf ((Spec.applies_iff_loose hf).mp happ).1 ⟨rfl, State.Warmed39.refl s, rfl⟩ trivial
  refine ⟨n, _, h1, h2, h3, hpost _ _ _ _ _ _ ⟨Cond.after_iff.mpr rfl, Cond.after_iff.mpr (eq_i res_at (Term.int_eval (1)) rfl), trivial⟩ ⟨hq.1, hq.2.1, (hq.2.2.sift fun y hy => Or.inr (N y hy)).mono (by decide) (by decide)⟩⟩
theorem main_1_1 : Claimed_1_1 := comes_1 fun _ _ _ _ _ _ h hF => ⟨h.1, hF⟩
theorem main_1_2 : Claimed_1_2 := comes_1 fun _ _ _ _ _ _ h hF => ⟨h.2.1, hF⟩
end Jvm.Pilot.@@N@@
namespace Jvm.Pilot.@@N@@
open Jvm Jvm.ClassFile Sem Op Lib Jvm.Free Jvm.Stand Jvm.Pilot.@@N@@.Jvm.D
/-! MADE BY PROGRAM (witnessworld.py) out of the Statement's table words and the real class files: 9 classes; the members and pool entries that the words name. The judged class is class 1, her method 2. -/
namespace start1
open Jvm.ClassFile
def u (s : String) : CpInfo := .utf8 (stringToUtf16 s)
/-- a pool by its gaps: so many unusable entries, then the entry; so many at the end -/
def gap : Nat → List CpInfo → List CpInfo
  | 0, r => r
  | n + 1, r => .unusable :: gap n r
def poolList (es : List (Nat × CpInfo)) (last : Nat) : List CpInfo := es.foldr (fun e r => gap e.1 (e.2 :: r)) (gap last [])
def pool (es : List (Nat × CpInfo)) (last : Nat) : Array CpInfo := ⟨poolList es last⟩
def fileOf (pool : Array CpInfo) (this : Nat) (attrs : Array Attribute := #[]) (ms : Array MethodInfo := #[]) (fl : Nat := 33) (sup : Nat := 0) (ifs : Array Nat := #[]) (fds : Array FieldInfo := #[]) : ClassFile where
  minorVersion := 0
  majorVersion := 65
  constantPool := pool
  accessFlags := fl
  thisClass := this
  superClass := sup
  interfaces := ifs
  fields := fds
  methods := ms
  attributes := attrs
def plain (name : String) (sup : Option ClassId) : Class where
  name := name
  kind := .ordinary
  loader := none
  accessFlags := 33
  super := sup
  interfaces := #[]
  cf := none
  fields := #[]
  methods := #[]
  instanceTypes := #[]
  staticTypes := #[]
  resolved := #[]
  callSites := []
  init := .initialized
  statics := none
  mirror := none

def pool0 : Array CpInfo := pool [(5, u "<init>"), (0, u "()V"), (1, .class_ 10), (1, u "java/lang/Object")] 113

def k0m0 : Method := { name := "<init>", desc := "()V", sig := { parameters := [], returnType := none }, accessFlags := 1, code := none }
/-- java/lang/Object -/
def k0 : Class := { plain "java/lang/Object" none with
  accessFlags := 33
  interfaces := #[]
  cf := some (fileOf pool0 8 #[] #[{ accessFlags := 1, nameIndex := 5, descriptorIndex := 6, attributes := #[] }] 33 0 #[] #[])
  fields := #[]
  methods := #[k0m0]
  instanceTypes := #[]
  staticTypes := #[]
  resolved := Array.replicate 124 none
  statics := none }

def pool1 : Array CpInfo := pool [(2, .class_ 4), (1, u "java/lang/Object"), (0, u "<init>"), (0, u "()V"), (0, .integer 2147483647), (0, .integer 63488), (0, .integer 65536), (0, .integer 1048576), (0, .methodref 12 13), (0, .class_ 14), (0, .nameAndType 15 16), (0, u "com/example/stavetree/stavetree/Utf8Stores$Utf8Key"), (0, u "utf8"), (0, u "(I)I"), (0, .methodref 18 19), (0, .class_ 20), (0, .nameAndType 21 22), (0, u "com/example/stavetree/stavetree/Utf8KeyUtf8PinLaw"), (0, u "cont"), (0, u "(I)Z"), (3, u "law"), (0, u "(II)Z")] 6

def k1m0 : Method := { name := "<init>", desc := "()V", sig := { parameters := [], returnType := none }, accessFlags := 2, code := none }
def k1c1 : Code := { maxStack := 2, maxLocals := 1, code := method_2_code, exceptionTable := #[], attributes := #[] }
def k1m1 : Method := { name := "cont", desc := "(I)Z", sig := { parameters := [.int], returnType := some .boolean }, accessFlags := 10, code := some k1c1 }
def k1c2 : Code := { maxStack := 3, maxLocals := 11, code := code, exceptionTable := #[], attributes := #[] }
def k1m2 : Method := { name := "law", desc := "(II)Z", sig := { parameters := [.int, .int], returnType := some .boolean }, accessFlags := 9, code := some k1c2 }
/-- com/example/stavetree/stavetree/Utf8KeyUtf8PinLaw -/
def k1 : Class := { plain "com/example/stavetree/stavetree/Utf8KeyUtf8PinLaw" (some 0) with
  accessFlags := 49
  interfaces := #[]
  cf := some (fileOf pool1 18 #[] #[{ accessFlags := 2, nameIndex := 5, descriptorIndex := 6, attributes := #[] }, { accessFlags := 10, nameIndex := 21, descriptorIndex := 22, attributes := #[] }, { accessFlags := 9, nameIndex := 26, descriptorIndex := 27, attributes := #[] }] 49 2 #[] #[])
  fields := #[]
  methods := #[k1m0, k1m1, k1m2]
  instanceTypes := #[]
  staticTypes := #[]
  resolved := Array.replicate 34 none
  statics := none }

def pool2 : Array CpInfo := pool [(6, .class_ 8), (1, u "java/lang/Object"), (0, u "<init>"), (0, u "()V"), (0, .class_ 12), (0, u "com/example/stavetree/stavetree/Utf8Stores$Utf8Key"), (4, u "words"), (0, u "[J"), (2, u "below"), (0, u "I"), (2, u "above"), (2, u "belowHandle"), (2, u "aboveHandle"), (2, u "isBelow"), (0, u "Z"), (6, u "length"), (13, u "text"), (0, u "Ljava/lang/String;"), (2, u "first"), (3, u "J"), (2, u "second"), (10, u "ascii"), (10, u "utf8"), (0, u "(I)I"), (10, u "word"), (38, .integer 65536), (36, u "WORDS_BYTES"), (2, u "LOW_BITS"), (0, u "UNPLACED"), (0, u "alone"), (23, .class_ 207), (0, u "com/example/stavetree/stavetree/Utf8Stores")] 4

def k2m0 : Method := { name := "<init>", desc := "()V", sig := { parameters := [], returnType := none }, accessFlags := 0, code := none }
def k2c1 : Code := { maxStack := 4, maxLocals := 2, code := prog_147_method_14_code, exceptionTable := #[], attributes := #[] }
def k2m1 : Method := { name := "utf8", desc := "(I)I", sig := { parameters := [.int], returnType := some .int }, accessFlags := 8, code := some k2c1 }
/-- com/example/stavetree/stavetree/Utf8Stores$Utf8Key -/
def k2 : Class := { plain "com/example/stavetree/stavetree/Utf8Stores$Utf8Key" (some 0) with
  accessFlags := 48
  interfaces := #[]
  cf := some (fileOf pool2 11 #[.nestHost 206] #[{ accessFlags := 0, nameIndex := 9, descriptorIndex := 10, attributes := #[] }, { accessFlags := 8, nameIndex := 89, descriptorIndex := 90, attributes := #[] }] 48 6 #[] #[{ accessFlags := 26, nameIndex := 177, descriptorIndex := 22, attributes := #[] }, { accessFlags := 26, nameIndex := 180, descriptorIndex := 64, attributes := #[] }, { accessFlags := 24, nameIndex := 181, descriptorIndex := 22, attributes := #[] }, { accessFlags := 16, nameIndex := 17, descriptorIndex := 18, attributes := #[] }, { accessFlags := 0, nameIndex := 42, descriptorIndex := 22, attributes := #[] }, { accessFlags := 2, nameIndex := 78, descriptorIndex := 22, attributes := #[] }, { accessFlags := 0, nameIndex := 60, descriptorIndex := 64, attributes := #[] }, { accessFlags := 0, nameIndex := 67, descriptorIndex := 64, attributes := #[] }, { accessFlags := 0, nameIndex := 56, descriptorIndex := 57, attributes := #[] }, { accessFlags := 2, nameIndex := 101, descriptorIndex := 64, attributes := #[] }, { accessFlags := 0, nameIndex := 21, descriptorIndex := 22, attributes := #[] }, { accessFlags := 0, nameIndex := 25, descriptorIndex := 22, attributes := #[] }, { accessFlags := 2, nameIndex := 28, descriptorIndex := 22, attributes := #[] }, { accessFlags := 2, nameIndex := 31, descriptorIndex := 22, attributes := #[] }, { accessFlags := 2, nameIndex := 34, descriptorIndex := 35, attributes := #[] }, { accessFlags := 0, nameIndex := 182, descriptorIndex := 35, attributes := #[] }])
  fields := #[{ name := "WORDS_BYTES", type := .int, accessFlags := 26, slot := 0, constantValue := 0 }, { name := "LOW_BITS", type := .long, accessFlags := 26, slot := 1, constantValue := 0 }, { name := "UNPLACED", type := .int, accessFlags := 24, slot := 2, constantValue := 0 }, { name := "words", type := (.array .long), accessFlags := 16, slot := 0, constantValue := 0 }, { name := "length", type := .int, accessFlags := 0, slot := 1, constantValue := 0 }, { name := "ascii", type := .int, accessFlags := 2, slot := 2, constantValue := 0 }, { name := "first", type := .long, accessFlags := 0, slot := 3, constantValue := 0 }, { name := "second", type := .long, accessFlags := 0, slot := 4, constantValue := 0 }, { name := "text", type := (.object "java/lang/String"), accessFlags := 0, slot := 5, constantValue := 0 }, { name := "word", type := .long, accessFlags := 2, slot := 6, constantValue := 0 }, { name := "below", type := .int, accessFlags := 0, slot := 7, constantValue := 0 }, { name := "above", type := .int, accessFlags := 0, slot := 8, constantValue := 0 }, { name := "belowHandle", type := .int, accessFlags := 2, slot := 9, constantValue := 0 }, { name := "aboveHandle", type := .int, accessFlags := 2, slot := 10, constantValue := 0 }, { name := "isBelow", type := .boolean, accessFlags := 2, slot := 11, constantValue := 0 }, { name := "alone", type := .boolean, accessFlags := 0, slot := 12, constantValue := 0 }]
  methods := #[k2m0, k2m1]
  instanceTypes := #[(.array .long), .int, .int, .long, .long, (.object "java/lang/String"), .long, .int, .int, .int, .int, .boolean, .boolean]
  staticTypes := #[.int, .long, .int]
  resolved := Array.replicate 212 none
  statics := none }

def pool3 : Array CpInfo := pool [(1, u "java/lang/Cloneable"), (0, .class_ 1), (0, u "java/lang/Object"), (0, .class_ 3)] 3

/-- java/lang/Cloneable -/
def k3 : Class := { plain "java/lang/Cloneable" (some 0) with
  accessFlags := 1537
  interfaces := #[]
  cf := some (fileOf pool3 2 #[] #[] 1537 4 #[] #[])
  fields := #[]
  methods := #[]
  instanceTypes := #[]
  staticTypes := #[]
  resolved := Array.replicate 8 none
  statics := none }

def pool4 : Array CpInfo := pool [(1, u "java/io/Serializable"), (0, .class_ 1), (0, u "java/lang/Object"), (0, .class_ 3)] 3

/-- java/io/Serializable -/
def k4 : Class := { plain "java/io/Serializable" (some 0) with
  accessFlags := 1537
  interfaces := #[]
  cf := some (fileOf pool4 2 #[] #[] 1537 4 #[] #[])
  fields := #[]
  methods := #[]
  instanceTypes := #[]
  staticTypes := #[]
  resolved := Array.replicate 8 none
  statics := none }

/-- the primitive byte -/
def k5 : Class := { plain "byte" none with kind := .primitive 'B', accessFlags := 0x411 }
/-- [B -/
def k6 : Class := { plain "[B" (some 0) with kind := .array 5 .byte, interfaces := #[3, 4], accessFlags := 1041 }

/-- the primitive int -/
def k7 : Class := { plain "int" none with kind := .primitive 'I', accessFlags := 0x411 }
/-- [I -/
def k8 : Class := { plain "[I" (some 0) with kind := .array 7 .int, interfaces := #[3, 4], accessFlags := 1041 }

def heap : Heap := #[]
def classes : Array Class := #[k0, k1, k2, k3, k4, k5, k6, k7, k8]
def interned : List (Array UInt16 × Addr) := []
def slotsUsed : Nat := 0
def theMethod : MethodId := ⟨1, 2⟩
def args0 : Array Value := #[.int 3, .int 70000]
def aboutOver (below : List Frame) : State where
  vm := { classes := classes, interned := interned.toArray }
  heap := heap
  slotsUsed := slotsUsed
  threads := #[{ frames := .invoking theMethod args0 :: below }]
def below0 : List Frame := [.native { method := ⟨0, 0⟩, args := #[] }]
def about1 : State := aboutOver below0
def p0 : Program := .bare "" "" ""
def e0 : Env := launch0.env 0 0 0
theorem w_frames : about1.frames = Frame.invoking theMethod args0 :: below0 := rfl
set_option maxRecDepth 65536 in
theorem w_args : argsFit about1.vm theMethod args0 = true := by decide +kernel
set_option maxRecDepth 65536 in
theorem w_heap : heapFits about1 = true := by decide +kernel
set_option maxRecDepth 65536 in
theorem w_runnable : about1.curStatus? = some .runnable := by decide +kernel
set_option maxRecDepth 65536 in
theorem w_alone : about1.alone = true := by decide +kernel
set_option maxRecDepth 65536 in
theorem w_named : about1.methodNamed? x = some theMethod := by decide +kernel
set_option maxRecDepth 65536 in
theorem w_hears : about1.hears theMethod below0 = true := by decide +kernel
set_option maxRecDepth 65536 in
theorem w_ripe : about1.ripe theMethod args0 below0 = true := by decide +kernel
theorem w_running : about1.status = .running := rfl
set_option maxRecDepth 65536 in
theorem w_room : about1.hasRoom e0.platform room_1 = true :=
  launch0.hasRoom_least _ room_1 (by decide +kernel) (by decide +kernel) (by decide +kernel) (by decide +kernel) (by decide +kernel) (by decide +kernel)
theorem allAtoms_all (ts : List Jvm.Cond) (a : Array Jvm.Value) (st : Jvm.State) : (allAtoms ts).before a st = ts.all (fun c => c.before a st) := by
  induction ts with
  | nil => rfl
  | cons c t ih =>
    show (Jvm.Cond.and c (allAtoms t)).before a st = _
    rw [Jvm.Cond.before_and, ih, List.all_cons]
def words1 : List Jvm.Cond := Jvm.Cond.code x code maxLocals ret :: tables_1
/-- a 'code' word, met by the world's own term for the bytes: nothing is compared byte by byte -/
theorem code_word {y : MethodName} {bytes : ByteArray} {mx : Nat} {rt : Option FieldType} {a : Array Value} {s : State} {m : MethodId} {meth : Method} {c : Code} (h1 : s.methodNamed? y = some m) (h2 : s.vm.method? m = some meth) (h3 : meth.code = some c) (h4 : c.code = bytes)
    (h5 : (c.maxLocals == mx && c.exceptionTable.isEmpty && decide (c.maxStack ≤ mostOperands) && decide (meth.sig.returnType = rt) && !meth.locks && decide (parseMethodDescriptor y.desc = some meth.sig)) = true) : (Jvm.Cond.code y bytes mx rt).before a s = true := by
  simp only [Bool.and_eq_true, beq_iff_eq, Bool.not_eq_true', decide_eq_true_eq] at h5
  obtain ⟨⟨⟨⟨⟨g1, g2⟩, g3⟩, g4⟩, g5⟩, g6⟩ := h5
  simp [Cond.before, Cond.holds, Cond.value, h1, h2, h3, h4, g1, g2, g3, g4, g5, g6]
def isCode : Jvm.Cond → Bool
  | .code _ _ _ _ => true
  | _ => false
theorem all_split {L : List Jvm.Cond} {P : Jvm.Cond → Bool} (h1 : L.all (fun c => isCode c || P c) = true) (h2 : ∀ c ∈ L.filter isCode, P c = true) : L.all P = true := by
  refine List.all_eq_true.mpr fun c hc => ?_
  have h := List.all_eq_true.mp h1 c hc
  rcases Bool.eq_false_or_eq_true (isCode c) with hi | hi
  · exact h2 c (List.mem_filter.mpr ⟨hc, hi⟩)
  · simpa [hi] using h
set_option maxRecDepth 65536 in
theorem w_c0 : (Jvm.Cond.code x code maxLocals ret).before args0 about1 = true := code_word (m := ⟨1, 2⟩) (meth := k1m2) (c := k1c2) (by decide +kernel) rfl rfl rfl (by decide +kernel)
set_option maxRecDepth 65536 in
theorem w_c1 : (Jvm.Cond.code ({ cls := "com/example/stavetree/stavetree/Utf8Stores$Utf8Key", name := "utf8", desc := "(I)I" } : Jvm.MethodName) prog_147_method_14_code (2 : Nat) (Option.some Jvm.ClassFile.FieldType.int)).before args0 about1 = true := code_word (m := ⟨2, 1⟩) (meth := k2m1) (c := k2c1) (by decide +kernel) rfl rfl rfl (by decide +kernel)
set_option maxRecDepth 65536 in
theorem w_c2 : (Jvm.Cond.code ({ cls := "com/example/stavetree/stavetree/Utf8KeyUtf8PinLaw", name := "cont", desc := "(I)Z" } : Jvm.MethodName) method_2_code (1 : Nat) (Option.some Jvm.ClassFile.FieldType.boolean)).before args0 about1 = true := code_word (m := ⟨1, 1⟩) (meth := k1m1) (c := k1c1) (by decide +kernel) rfl rfl rfl (by decide +kernel)
def codes1 : List Jvm.Cond := [Jvm.Cond.code x code maxLocals ret, Jvm.Cond.code ({ cls := "com/example/stavetree/stavetree/Utf8Stores$Utf8Key", name := "utf8", desc := "(I)I" } : Jvm.MethodName) prog_147_method_14_code (2 : Nat) (Option.some Jvm.ClassFile.FieldType.int), Jvm.Cond.code ({ cls := "com/example/stavetree/stavetree/Utf8KeyUtf8PinLaw", name := "cont", desc := "(I)Z" } : Jvm.MethodName) method_2_code (1 : Nat) (Option.some Jvm.ClassFile.FieldType.boolean)]
set_option maxRecDepth 65536 in
theorem codes_eq : words1.filter isCode = codes1 := rfl
theorem w_codes : ∀ c ∈ words1.filter isCode, c.before args0 about1 = true := by
  rw [codes_eq]
  intro c hc
  simp only [codes1, List.mem_cons, List.not_mem_nil, or_false] at hc
  rcases hc with rfl | rfl | rfl
  · exact w_c0
  · exact w_c1
  · exact w_c2
set_option maxRecDepth 65536 in
theorem w_t1 : words1.all (fun c => isCode c || c.before args0 about1) = true := by decide +kernel
theorem w_tables : (allAtoms (Jvm.Cond.code x code maxLocals ret :: tables_1)).before args0 about1 = true := by
  rw [allAtoms_all]
  show words1.all (fun c => c.before args0 about1) = true
  refine all_split ?_ w_codes
  rw [w_t1]
set_option maxRecDepth 65536 in
theorem w_case : (Jvm.Cond.and given_1 narrow_1).before args0 about1 = true := by decide +kernel
theorem w_applies : (headSpec (Jvm.Cond.code x code maxLocals ret :: tables_1) room_1).applies x e0.platform about1 = true :=
  (Spec.applies_iff w_frames).mpr ⟨w_running, w_runnable, w_alone, w_named, w_hears, w_ripe, w_room, w_tables⟩
theorem atStart : AtStart classFile x code maxLocals ret World_1 tables_1 room_1 Calls_1 rest_1 Pre_1 launch0 p0 e0 about1 theMethod args0 below0 :=
  ⟨lists_1, trivial, launch0.admits_env _ _ _, launch0.least_env, fairChoices_fair.cas, fairChoices_fair.clock, w_frames, w_args, w_heap, w_applies, trivial, trivial, w_case⟩
end start1
theorem witness_1 : WitnessClaimed_1 := ⟨start1.p0, start1.e0, start1.about1, start1.theMethod, start1.args0, start1.below0, start1.atStart⟩
end Jvm.Pilot.@@N@@
