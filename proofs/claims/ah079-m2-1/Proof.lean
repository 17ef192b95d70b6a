import JvmDerived
import JvmDerived.Pilot.@@N@@Statement
import JvmDerived.Pilot.@@N@@Code
set_option linter.unusedVariables false
set_option linter.unusedSimpArgs false
@@BLOCK:NumsL.lean.txt@@

namespace Jvm.OwnKit
open Sem ClassFile Op Lib Jvm.Stand Jvm.Free Jvm.LawKit Jvm.RoadKit
section Own
variable {p : Program} {l : Launch} {e : Env} {R : Room} {s : State} {m : MethodId} {args : Array Value} {below : List Frame} {meth : Method} {c : Code} {T : State} {locs : List Loc} {cells slots : Nat} {Q : Option Value → Heap → List Loc → Prop} {C S : Nat}
/-- what a body owes from a state on -/
def Fin (p : Program) (e : Env) (below : List Frame) (s : State) (Q : Option Value → Heap → List Loc → Prop) (C S : Nat) (st : State) : Prop :=
  ∃ s₂ o, Steps p.tables e below st s₂ ∧ s₂.status = .running ∧ Ended s₂ below o ∧ ∃ v L, o = .returned v ∧ Q v s₂.heap L ∧ FrameEnd s o s₂ L C S
theorem Fin.step {st st' : State} (h : ∀ t, Steps p.tables e below st' t → Steps p.tables e below st t) (k : Fin p e below s Q C S st') : Fin p e below s Q C S st := by
  obtain ⟨s₂, o, h1, h2⟩ := k
  exact ⟨s₂, o, h _ h1, h2⟩
theorem Fin.ret (X : Stand p l e R s m args below meth c T locs cells slots) {v : Option Value} {g : JFrame} (hv : meth.sig.returnType = none → v = none) (hlocks : meth.locks = false)
    (hst : ∀ fs, (∀ (f : JFrame) (acts : List Action), f.method = m → f.locked = none → f.entered = [] → (doReturn e (T.setTop f) acts v).1 = T.setFrames fs) → Steps p.tables e below (T.setTop g) (T.setFrames fs))
    (hC : cells ≤ C) (hS : slots ≤ S) (q : Q v T.heap locs) : Fin p e below s Q C S (T.setTop g) := by
  obtain ⟨fs, hr, hrun, hended, hW, hsame⟩ := X.leave (v := v) hv hlocks
  exact ⟨_, _, hst fs hr, hrun, hended, _, _, rfl, q, ⟨_, rfl⟩, hW, hsame.mono hC hS⟩
theorem Fin.retI (X : Stand p l e R s m args below meth c T locs cells slots) (hx : p.tables.exec = Jvm.exec) {pc : Nat} {Ls : Array Slot} {z : Int32} {rest : List Value} (hret : meth.sig.returnType = some .int) (hlocks : meth.locks = false) (hd : decode c.code pc = .ok (.ireturn, 1))
    (hC : cells ≤ C) (hS : slots ≤ S) (q : Q (some (.int z)) T.heap locs) : Fin p e below s Q C S (T.setTop (mkF m pc Ls (.int z :: rest))) :=
  Fin.ret X (fun h => by rw [hret] at h; cases h) hlocks (fun fs hl => retOut X hx hret rfl (Or.inl ⟨rfl, Or.inl rfl, z, rfl⟩) hd hl) hC hS q
theorem Fin.retJ (X : Stand p l e R s m args below meth c T locs cells slots) (hx : p.tables.exec = Jvm.exec) {pc : Nat} {Ls : Array Slot} {z : Int64} {rest : List Value} (hret : meth.sig.returnType = some .long) (hlocks : meth.locks = false) (hd : decode c.code pc = .ok (.lreturn, 1))
    (hC : cells ≤ C) (hS : slots ≤ S) (q : Q (some (.long z)) T.heap locs) : Fin p e below s Q C S (T.setTop (mkF m pc Ls (.long z :: rest))) :=
  Fin.ret X (fun h => by rw [hret] at h; cases h) hlocks (fun fs hl => retOut X hx hret rfl (Or.inr (Or.inl ⟨rfl, rfl, z, rfl⟩)) hd hl) hC hS q
theorem Fin.retD (X : Stand p l e R s m args below meth c T locs cells slots) (hx : p.tables.exec = Jvm.exec) {pc : Nat} {Ls : Array Slot} {z : UInt64} {rest : List Value} (hret : meth.sig.returnType = some .double) (hlocks : meth.locks = false) (hd : decode c.code pc = .ok (.dreturn, 1))
    (hC : cells ≤ C) (hS : slots ≤ S) (q : Q (some (.double z)) T.heap locs) : Fin p e below s Q C S (T.setTop (mkF m pc Ls (.double z :: rest))) :=
  Fin.ret X (fun h => by rw [hret] at h; cases h) hlocks (fun fs hl => retOut X hx hret rfl (Or.inr (Or.inr (Or.inl ⟨rfl, rfl, z, rfl⟩))) hd hl) hC hS q
theorem Fin.retR (X : Stand p l e R s m args below meth c T locs cells slots) (hx : p.tables.exec = Jvm.exec) {pc : Nat} {Ls : Array Slot} {w : Value} {t : FieldType} {rest : List Value} (hret : meth.sig.returnType = some t) (ht : t.isReference = true) (hw : w.isRef = true) (hlocks : meth.locks = false) (hd : decode c.code pc = .ok (.areturn, 1))
    (hC : cells ≤ C) (hS : slots ≤ S) (q : Q (some w) T.heap locs) : Fin p e below s Q C S (T.setTop (mkF m pc Ls (w :: rest))) :=
  Fin.ret X (fun h => by rw [hret] at h; cases h) hlocks (fun fs hl => retOut X hx hret (by cases t <;> simp [FieldType.isReference] at ht <;> cases w <;> simp [Value.isRef] at hw <;> rfl) (Or.inr (Or.inr (Or.inr (Or.inr ⟨rfl, ht, hw⟩)))) hd hl) hC hS q
theorem Fin.retN (X : Stand p l e R s m args below meth c T locs cells slots) (hx : p.tables.exec = Jvm.exec) {pc : Nat} {Ls : Array Slot} {z : Int32} {t : FieldType} {rest : List Value} (hret : meth.sig.returnType = some t) (ht : t = .boolean ∨ t = .byte ∨ t = .char ∨ t = .short) (hlocks : meth.locks = false) (hd : decode c.code pc = .ok (.ireturn, 1))
    (hC : cells ≤ C) (hS : slots ≤ S) (q : Q (some (.int (nar t z))) T.heap locs) : Fin p e below s Q C S (T.setTop (mkF m pc Ls (.int z :: rest))) :=
  Fin.ret X (fun h => by rw [hret] at h; cases h) hlocks (fun fs hl => RoadKit.retN X hx hret ht hd hl) hC hS q
theorem Fin.retV (X : Stand p l e R s m args below meth c T locs cells slots) (hx : p.tables.exec = Jvm.exec) {pc : Nat} {Ls : Array Slot} (hret : meth.sig.returnType = none) (hlocks : meth.locks = false) (hd : decode c.code pc = .ok (.return_, 1))
    (hC : cells ≤ C) (hS : slots ≤ S) (q : Q none T.heap locs) : Fin p e below s Q C S (T.setTop (mkF m pc Ls [])) :=
  Fin.ret X (fun _ => rfl) hlocks (fun fs hl => X.returnOut hx hret hd hl) hC hS q
/-- the same where the walk may intern: the end's frame is ReturnedEndW -/
def FinW (p : Program) (e : Env) (below : List Frame) (s : State) (Q : Option Value → Heap → List Loc → Prop) (C S : Nat) (st : State) : Prop :=
  ∃ s₂ o, Steps p.tables e below st s₂ ∧ s₂.status = .running ∧ Ended s₂ below o ∧ ∃ v L, o = .returned v ∧ Q v s₂.heap L ∧ ReturnedEndW s o s₂ L C S
theorem FinW.step {st st' : State} (h : ∀ t, Steps p.tables e below st' t → Steps p.tables e below st t) (k : FinW p e below s Q C S st') : FinW p e below s Q C S st := by
  obtain ⟨s₂, o, h1, h2⟩ := k
  exact ⟨s₂, o, h _ h1, h2⟩
theorem FinW.ret {vm₁ : Vm} (X : Stand p l e R (s.setVm vm₁) m args below meth c T locs cells slots) {n : Nat} (hS : s.Since vm₁ n) (hn : n ≤ T.heap.size) {v : Option Value} {g : JFrame} (hv : meth.sig.returnType = none → v = none) (hlocks : meth.locks = false)
    (hst : ∀ fs, (∀ (f : JFrame) (acts : List Action), f.method = m → f.locked = none → f.entered = [] → (doReturn e (T.setTop f) acts v).1 = T.setFrames fs) → Steps p.tables e below (T.setTop g) (T.setFrames fs))
    (hC : cells ≤ C) (hS' : slots ≤ S) (q : Q v T.heap locs) : FinW p e below s Q C S (T.setTop g) := by
  obtain ⟨fs, hr, hrun, hended, hW⟩ := X.leaveW hS hn (v := v) hv hlocks
  exact ⟨_, _, hst fs hr, hrun, hended, _, _, rfl, q, hW.1, hW.2.1, hW.2.2.1, hW.2.2.2.mono hC hS'⟩
theorem FinW.retN {vm₁ : Vm} (X : Stand p l e R (s.setVm vm₁) m args below meth c T locs cells slots) {n : Nat} (hS : s.Since vm₁ n) (hn : n ≤ T.heap.size) (hx : p.tables.exec = Jvm.exec) {pc : Nat} {Ls : Array Slot} {z : Int32} {t : FieldType} {rest : List Value} (hret : meth.sig.returnType = some t) (ht : t = .boolean ∨ t = .byte ∨ t = .char ∨ t = .short) (hlocks : meth.locks = false) (hd : decode c.code pc = .ok (.ireturn, 1))
    (hC : cells ≤ C) (hS' : slots ≤ S) (q : Q (some (.int (nar t z))) T.heap locs) : FinW p e below s Q C S (T.setTop (mkF m pc Ls (.int z :: rest))) :=
  FinW.ret X hS hn (fun h => by rw [hret] at h; cases h) hlocks (fun fs hl => RoadKit.retN X hx hret ht hd hl) hC hS' q
theorem FinW.retR {vm₁ : Vm} (X : Stand p l e R (s.setVm vm₁) m args below meth c T locs cells slots) {n : Nat} (hS : s.Since vm₁ n) (hn : n ≤ T.heap.size) (hx : p.tables.exec = Jvm.exec) {pc : Nat} {Ls : Array Slot} {w : Value} {t : FieldType} {rest : List Value} (hret : meth.sig.returnType = some t) (ht : t.isReference = true) (hw : w.isRef = true) (hlocks : meth.locks = false) (hd : decode c.code pc = .ok (.areturn, 1))
    (hC : cells ≤ C) (hS' : slots ≤ S) (q : Q (some w) T.heap locs) : FinW p e below s Q C S (T.setTop (mkF m pc Ls (w :: rest))) :=
  FinW.ret X hS hn (fun h => by rw [hret] at h; cases h) hlocks (fun fs hl => retOut X hx hret (by cases t <;> simp [FieldType.isReference] at ht <;> cases w <;> simp [Value.isRef] at hw <;> rfl) (Or.inr (Or.inr (Or.inr (Or.inr ⟨rfl, ht, hw⟩)))) hd hl) hC hS' q
theorem recast {locs' : List Loc} {cells' slots' : Nat} (X : Stand p l e R s m args below meth c T locs cells slots) (h1 : locs = locs') (h2 : cells = cells') (h3 : slots = slots') : Stand p l e R s m args below meth c T locs' cells' slots' := by
  subst h1 h2 h3; exact X
theorem Fld.cast {Z : State} {h : Heap} {a : Addr} {C n d : String} {v w : Value} (F : Fld Z h a C n d v) (e : v = w) : Fld Z h a C n d w := e ▸ F
theorem Sta_keep {Z : State} {h h' : Heap} {C n d : String} {v : Value} (F : Sta Z h C n d v) (K : Keep h h' []) : Sta Z h' C n d v := by
  obtain ⟨cf, i, k, f, st, cell, h1, h2, h3, h4, h5, r⟩ := F
  exact ⟨cf, i, k, f, st, cell, h1, h2, h3, h4, K.2.1 _ _ h5 nin0, r⟩
theorem Arr_keep {Z : State} {h h' : Heap} {a : Addr} {c : Cell} {ty : FieldType} (F : Arr Z h a c ty) (K : Keep h h' []) : Arr Z h' a c ty := ⟨K.2.1 _ _ F.1 nin0, F.2⟩
/-- the shifts without sign -/
def ushL (x : Int64) (k : Int32) : Int64 := (x.toUInt64 >>> (k &&& 0x3f).toInt64.toUInt64).toInt64
def ushI (x k : Int32) : Int32 := (x.toUInt32 >>> (k &&& 31).toUInt32).toInt32
theorem lcE {x y : Int64} (h : x = y) : lcmpW x y = 0 := by rw [lcW]; exact (lc_eq x y).mpr h
theorem lcNE {x y : Int64} (h : ¬ x = y) : ¬ lcmpW x y = 0 := fun q => h ((lc_eq x y).mp (by rw [← lcW]; exact q))
theorem lcL {x y : Int64} (h : x < y) : lcmpW x y < 0 := by rw [lcW]; exact (lc_lt x y).mpr h
theorem lcNL {x y : Int64} (h : ¬ x < y) : ¬ lcmpW x y < 0 := fun q => h ((lc_lt x y).mp (by rw [← lcW]; exact q))
theorem lcG {x y : Int64} (h : y < x) : 0 < lcmpW x y := by rw [lcW]; exact (lc_gt x y).mpr h
theorem lcNG {x y : Int64} (h : ¬ y < x) : ¬ 0 < lcmpW x y := fun q => h ((lc_gt x y).mp (by rw [← lcW]; exact q))
end Own
end Jvm.OwnKit
namespace Jvm.Pilot.@@N@@
open Jvm Jvm.ClassFile Sem Op Lib Jvm.Free Jvm.Stand Jvm.LawKit Jvm.RoadKit Jvm.OwnKit Bundle Jvm.Pilot.@@N@@.Jvm.D
def own_by (v : Int32) : Value := .int (nar .byte (((v &&& 127) ||| 128).toInt8.toInt32))
def own_la (v : Int32) : Value := .int (nar .byte (v.toInt8.toInt32))
def own_put : Nat → List Value → Nat → Int32 → List Value
  | 0, L, o, v => L.set o (own_la v)
  | n + 1, L, o, v => own_put n (L.set o (own_by v)) (o + 1) (ushI v 7)
def own_get (L : List Value) (i : Nat) : Int32 := match L.getD i (.int (0 : Int32)) with | .int z => z | _ => 0
theorem own_getv {L : List Value} {i : Nat} (h : ∃ z : Int32, L.getD i (.int (0 : Int32)) = .int z) : L.getD i (.int (0 : Int32)) = .int (own_get L i) := by
  obtain ⟨z, e⟩ := h
  rw [own_get, e]
def own_c (x y : Int32) : Int32 := if x = y then 1 else 0
def own_at (x j o n : Int32) (u : Int64) (s : Int32) : Int32 :=
  if j - o < 0 then own_c x s else if j - o < n then (if j - o < n - 1 then own_c x (((ushL u (7 * (j - o)) &&& 127).toInt32 ||| 128).toInt8.toInt32) else own_c x ((ushL u (7 * (j - o)) &&& 127).toInt32.toInt8.toInt32)) else own_c x s
def own_U (x : Int32) : Nat := x.toBitVec.toNat
theorem own_nat {x : Int32} (h : 0 ≤ x.toInt ∧ x.toInt ≤ 7) : x.toNatClampNeg ≤ 7 := by
  show x.toInt.toNat ≤ 7
  omega
theorem own_st (x : Int32) (b : Int) (h : 0 ≤ x.toInt ∧ x.toInt ≤ b) (hb : b ≤ 12) : (¬ x < 0 ∧ x < 13) ∧ (0 ≤ (x + 1).toInt ∧ (x + 1).toInt ≤ b + 1) ∧ (x + 1).toNatClampNeg = x.toNatClampNeg + 1 := by
  have e : (x + 1).toInt = x.toInt + 1 := Jvm.Kit.i32_add (q := 1) (by show _ ≤ x.toInt + 1; omega) (by show x.toInt + 1 < _; omega)
  refine ⟨?_, ?_, ?_⟩
  · rw [Int32.lt_iff_toInt_lt, Int32.lt_iff_toInt_lt]
    show ¬ x.toInt < (0 : Int) ∧ x.toInt < (13 : Int)
    omega
  · omega
  · show (x + 1).toInt.toNat = x.toInt.toNat + 1
    omega
theorem own_m7 (x : Int32) : 0 ≤ (x &&& 7).toInt ∧ (x &&& 7).toInt ≤ 7 := by
  have h : (x &&& 7).toInt = x.toInt % 2 ^ 3 := Jvm.Kit.i32_mask x 7 (k := 3) (by decide) (by decide)
  omega
theorem own_nb (x : Int32) : nar .byte (x.toInt8.toInt32) = x.toInt8.toInt32 := by
  show (x.toInt8.toInt32).toInt8.toInt32 = x.toInt8.toInt32
  rw [Int8.toInt8_toInt32]
theorem own_Ui (x : Int32) : (own_U x : Int) = x.toInt % 2 ^ 32 := by
  have hc := BitVec.toInt_eq_toNat_cond x.toBitVec
  have hl := x.toBitVec.isLt
  have ht : x.toBitVec.toInt = x.toInt := rfl
  rw [ht] at hc
  unfold own_U
  split at hc <;> omega
theorem own_Ult (x : Int32) : own_U x < 2 ^ 32 := x.toBitVec.isLt
theorem own_u (x : Int32) : (x.toInt64 &&& 4294967295).toInt = (own_U x : Int) := by
  have h : (x.toInt64 &&& 4294967295).toInt = x.toInt64.toInt % 2 ^ 32 := Jvm.Kit.i64_mask _ _ (k := 32) (by decide) (by decide)
  rw [h, Jvm.Kit.i64_of_i32, own_Ui]
theorem own_Ush (x : Int32) : own_U (ushI x 7) = own_U x / 128 := by
  unfold own_U ushI
  rw [show ((7 : Int32) &&& 31).toUInt32 = UInt32.ofNat 7 by decide]
  show (x.toUInt32 >>> UInt32.ofNat 7).toBitVec.toNat = _
  rw [UInt32.toBitVec_shiftRight]
  show (x.toBitVec >>> ((UInt32.ofNat 7).toBitVec % 32#32)).toNat = _
  rw [show ((UInt32.ofNat 7).toBitVec % 32#32) = 7#32 by decide, BitVec.ushiftRight_eq', BitVec.toNat_ushiftRight, Nat.shiftRight_eq_div_pow]
  rfl
theorem own_bits (x : BitVec 32) : x &&& 4294967168#32 = (x >>> 7) <<< 7 := by
  apply BitVec.eq_of_getLsbD_eq
  intro i hi
  have hi' : i = 0 ∨ i = 1 ∨ i = 2 ∨ i = 3 ∨ i = 4 ∨ i = 5 ∨ i = 6 ∨ i = 7 ∨ i = 8 ∨ i = 9 ∨ i = 10 ∨ i = 11 ∨ i = 12 ∨ i = 13 ∨ i = 14 ∨ i = 15 ∨ i = 16 ∨ i = 17 ∨ i = 18 ∨ i = 19 ∨ i = 20 ∨ i = 21 ∨ i = 22 ∨ i = 23 ∨ i = 24 ∨ i = 25 ∨ i = 26 ∨ i = 27 ∨ i = 28 ∨ i = 29 ∨ i = 30 ∨ i = 31 := by omega
  rcases hi' with rfl | rfl | rfl | rfl | rfl | rfl | rfl | rfl | rfl | rfl | rfl | rfl | rfl | rfl | rfl | rfl | rfl | rfl | rfl | rfl | rfl | rfl | rfl | rfl | rfl | rfl | rfl | rfl | rfl | rfl | rfl | rfl <;> simp
theorem own_and (x : Int32) : (x &&& (-128 : Int32)) = 0 ↔ own_U x < 128 := by
  have e : (x &&& (-128 : Int32)).toBitVec.toNat = own_U x / 128 * 128 := by
    rw [Int32.toBitVec_and, show (-128 : Int32).toBitVec = 4294967168#32 by decide, own_bits, BitVec.toNat_shiftLeft, BitVec.toNat_ushiftRight, Nat.shiftRight_eq_div_pow, Nat.shiftLeft_eq]
    have := own_Ult x
    unfold own_U at *
    omega
  constructor
  · intro h
    rw [h] at e
    have e' : (0 : Nat) = own_U x / 128 * 128 := e
    omega
  · intro h
    apply Int32.toBitVec_inj.mp
    apply BitVec.eq_of_toNat_eq
    rw [e]
    show _ = 0
    omega
theorem own_ltL (x : Int64) (k : Int64) : x < k ↔ x.toInt < k.toInt := Int64.lt_iff_toInt_lt
theorem own_cnd1 (pv : Int32) (u : Int64) (hU : u.toInt = (own_U pv : Int)) (h1 : u < 128) : (pv &&& (-128 : Int32)) = 0 := by
  rw [own_ltL] at h1
  have h1' : u.toInt < 128 := h1
  rw [own_and]
  omega
theorem own_cnd2 (pv : Int32) (u : Int64) (hU : u.toInt = (own_U pv : Int)) (h1 : ¬ u < 128) (h2 : u < 16384) : ¬ (pv &&& (-128 : Int32)) = 0 ∧ (ushI pv (7 : Int32) &&& (-128 : Int32)) = 0 := by
  rw [own_ltL] at h1 h2
  have h1' : ¬ u.toInt < 128 := h1
  have h2' : u.toInt < 16384 := h2
  simp only [own_and, own_Ush]
  omega
theorem own_cnd3 (pv : Int32) (u : Int64) (hU : u.toInt = (own_U pv : Int)) (h1 : ¬ u < 128) (h2 : ¬ u < 16384) (h3 : u < 2097152) : ¬ (pv &&& (-128 : Int32)) = 0 ∧ ¬ (ushI pv (7 : Int32) &&& (-128 : Int32)) = 0 ∧ (ushI (ushI pv (7 : Int32)) (7 : Int32) &&& (-128 : Int32)) = 0 := by
  rw [own_ltL] at h1 h2 h3
  have h1' : ¬ u.toInt < 128 := h1
  have h2' : ¬ u.toInt < 16384 := h2
  have h3' : u.toInt < 2097152 := h3
  simp only [own_and, own_Ush]
  omega
theorem own_cnd4 (pv : Int32) (u : Int64) (hU : u.toInt = (own_U pv : Int)) (h1 : ¬ u < 128) (h2 : ¬ u < 16384) (h3 : ¬ u < 2097152) (h4 : u < 268435456) : ¬ (pv &&& (-128 : Int32)) = 0 ∧ ¬ (ushI pv (7 : Int32) &&& (-128 : Int32)) = 0 ∧ ¬ (ushI (ushI pv (7 : Int32)) (7 : Int32) &&& (-128 : Int32)) = 0 ∧ (ushI (ushI (ushI pv (7 : Int32)) (7 : Int32)) (7 : Int32) &&& (-128 : Int32)) = 0 := by
  rw [own_ltL] at h1 h2 h3 h4
  have h1' : ¬ u.toInt < 128 := h1
  have h2' : ¬ u.toInt < 16384 := h2
  have h3' : ¬ u.toInt < 2097152 := h3
  have h4' : u.toInt < 268435456 := h4
  simp only [own_and, own_Ush]
  omega
theorem own_cnd5 (pv : Int32) (u : Int64) (hU : u.toInt = (own_U pv : Int)) (h1 : ¬ u < 128) (h2 : ¬ u < 16384) (h3 : ¬ u < 2097152) (h4 : ¬ u < 268435456) : ¬ (pv &&& (-128 : Int32)) = 0 ∧ ¬ (ushI pv (7 : Int32) &&& (-128 : Int32)) = 0 ∧ ¬ (ushI (ushI pv (7 : Int32)) (7 : Int32) &&& (-128 : Int32)) = 0 ∧ ¬ (ushI (ushI (ushI pv (7 : Int32)) (7 : Int32)) (7 : Int32) &&& (-128 : Int32)) = 0 ∧ (ushI (ushI (ushI (ushI pv (7 : Int32)) (7 : Int32)) (7 : Int32)) (7 : Int32) &&& (-128 : Int32)) = 0 := by
  rw [own_ltL] at h1 h2 h3 h4
  have h1' : ¬ u.toInt < 128 := h1
  have h2' : ¬ u.toInt < 16384 := h2
  have h3' : ¬ u.toInt < 2097152 := h3
  have h4' : ¬ u.toInt < 268435456 := h4
  have := own_Ult pv
  simp only [own_and, own_Ush]
  omega
theorem own_r1 (x : Int32) : x + 1 = x + 1 := rfl
theorem own_r2 (x : Int32) : x + 1 + 1 = x + 2 := by rw [Int32.add_assoc]; rfl
theorem own_r3 (x : Int32) : x + 1 + 1 + 1 = x + 3 := by rw [own_r2, Int32.add_assoc]; rfl
theorem own_r4 (x : Int32) : x + 1 + 1 + 1 + 1 = x + 4 := by rw [own_r3, Int32.add_assoc]; rfl
theorem own_r5 (x : Int32) : x + 1 + 1 + 1 + 1 + 1 = x + 5 := by rw [own_r4, Int32.add_assoc]; rfl
def own_sh : Nat → Int32 → Int32
  | 0, v => v
  | n + 1, v => own_sh n (ushI v 7)
theorem own_shU : ∀ (n : Nat) (v : Int32), own_U (own_sh n v) = own_U v / 128 ^ n
  | 0, v => by simp [own_sh]
  | n + 1, v => by rw [own_sh, own_shU n, own_Ush, Nat.div_div_eq_div_mul, Nat.pow_succ, Nat.mul_comm]
theorem own_setD (L : List Value) (o j : Nat) (a d : Value) (h : o < L.length) : (L.set o a).getD j d = if j = o then a else L.getD j d := by
  rw [List.getD_eq_getElem?_getD, List.getElem?_set, List.getD_eq_getElem?_getD]
  by_cases e : o = j
  · subst e
    simp [h]
  · rw [if_neg e, if_neg (fun q => e q.symm)]
theorem own_putD (d : Value) : ∀ (m : Nat) (L : List Value) (o : Nat) (v : Int32) (j : Nat), o + m < L.length →
    (own_put m L o v).getD j d = if j < o then L.getD j d else if j < o + m then own_by (own_sh (j - o) v) else if j = o + m then own_la (own_sh m v) else L.getD j d
  | 0, L, o, v, j, h => by
    rw [own_put, own_setD _ _ _ _ _ (by omega)]
    by_cases e : j = o
    · subst e
      rw [if_pos rfl, if_neg (by omega), if_neg (by omega), if_pos (by omega)]
      rfl
    · rw [if_neg e]
      by_cases q : j < o
      · rw [if_pos q]
      · rw [if_neg q, if_neg (by omega), if_neg (by omega)]
  | m + 1, L, o, v, j, h => by
    rw [own_put, own_putD d m _ _ _ _ (by rw [List.length_set]; omega), own_setD _ _ _ _ _ (by omega)]
    by_cases q : j < o
    · rw [if_pos (by omega), if_neg (by omega), if_pos q]
    · by_cases e : j = o
      · subst e
        rw [if_pos (by omega), if_pos rfl, if_neg (by omega), if_pos (by omega), Nat.sub_self]
        rfl
      · rw [if_neg (show ¬ j < o + 1 by omega), if_neg q]
        by_cases r : j < o + (m + 1)
        · rw [if_pos (by omega), if_pos r, show j - o = (j - (o + 1)) + 1 by omega]
          rfl
        · rw [if_neg (by omega), if_neg r]
          by_cases t : j = o + (m + 1)
          · rw [if_pos (by omega), if_pos t]
            rfl
          · rw [if_neg (by omega), if_neg t, if_neg e]
theorem own_setI (L : List Value) (o : Nat) (a : Value) (ha : ∃ z : Int32, a = .int z) (h : ∀ i, ∃ z : Int32, L.getD i (.int (0 : Int32)) = .int z) : ∀ i, ∃ z : Int32, (L.set o a).getD i (.int (0 : Int32)) = .int z := fun i => by
  by_cases hl : o < L.length
  · rw [own_setD _ _ _ _ _ hl]
    by_cases e : i = o
    · rw [if_pos e]; exact ha
    · rw [if_neg e]; exact h i
  · rw [List.set_eq_of_length_le (by omega)]; exact h i
theorem own_putI : ∀ (m : Nat) (L : List Value) (o : Nat) (v : Int32), (∀ i, ∃ z : Int32, L.getD i (.int (0 : Int32)) = .int z) → ∀ i, ∃ z : Int32, (own_put m L o v).getD i (.int (0 : Int32)) = .int z
  | 0, L, o, v, h => own_setI L o _ ⟨_, rfl⟩ h
  | m + 1, L, o, v, h => own_putI m _ _ _ (own_setI L o _ ⟨_, rfl⟩ h)
theorem own_pg (m : Nat) (L : List Value) (o : Nat) (v : Int32) {f : Nat → Int32} (h : ∀ i, L.getD i (.int (0 : Int32)) = .int (f i)) : ∀ i, ∃ z : Int32, (own_put m L o v).getD i (.int (0 : Int32)) = .int z := own_putI m L o v fun i => ⟨_, h i⟩
theorem own_made (x : Int32) (hx : nar .byte x = x) : [Value.int (nar .byte x), .int (nar .byte x), .int (nar .byte x), .int (nar .byte x), .int (nar .byte x), .int (nar .byte x), .int (nar .byte x), .int (nar .byte x), .int (nar .byte x), .int (nar .byte x), .int (nar .byte x), .int (nar .byte x), .int (nar .byte x)].length = 13 ∧
    ∀ i, [Value.int (nar .byte x), .int (nar .byte x), .int (nar .byte x), .int (nar .byte x), .int (nar .byte x), .int (nar .byte x), .int (nar .byte x), .int (nar .byte x), .int (nar .byte x), .int (nar .byte x), .int (nar .byte x), .int (nar .byte x), .int (nar .byte x)].getD i (.int (0 : Int32)) = .int (if i < 13 then x else 0) := by
  rw [hx]
  refine ⟨rfl, fun i => ?_⟩
  show (List.replicate 13 (Value.int x)).getD i (.int (0 : Int32)) = _
  rw [List.getD_eq_getElem?_getD, List.getElem?_replicate]
  by_cases h : i < 13
  · rw [if_pos h, if_pos h]; rfl
  · rw [if_neg h, if_neg h]; rfl
theorem own_low (x : Int32) : (x &&& 127).toInt = ((own_U x % 128 : Nat) : Int) := by
  have h : (x &&& 127).toInt = x.toInt % 2 ^ 7 := Jvm.Kit.i32_mask x 127 (k := 7) (by decide) (by decide)
  have := own_Ui x
  omega
theorem own_g (u : Int64) (v d : Int32) (i k : Nat) (hu : u.toInt = (own_U v : Int)) (hk : k < 64) (hd : (d &&& 0x3f).toInt64.toUInt64.toNat = k) (hp : 2 ^ k = 128 ^ i) : (ushL u d &&& 127).toInt32 = own_sh i v &&& 127 := by
  have h0 : 0 ≤ u := Jvm.Kit.i64_nonneg.mpr (by omega)
  have h1 : (ushL u d).toInt = u.toInt / 2 ^ k := Jvm.Kit.i64_lushr (k := k) h0 hd hk
  have h2 : (ushL u d &&& 127).toInt = (ushL u d).toInt % 2 ^ 7 := Jvm.Kit.i64_mask _ _ (k := 7) (by decide) (by decide)
  have h3 : (ushL u d &&& 127).toInt32.toInt = (ushL u d &&& 127).toInt := Jvm.Kit.i32_of_i64 (by omega) (by omega)
  apply Int32.toInt_inj.mp
  rw [h3, h2, h1, own_low, own_shU, hu]
  have e : ((2 : Int) ^ k) = ((128 ^ i : Nat) : Int) := by rw [← hp]; norm_cast
  rw [e]
  norm_cast
theorem own_shl (x : Int32) (h : own_U x < 128) : x &&& 127 = x := by
  apply Int32.toInt_inj.mp
  rw [own_low]
  have := own_Ui x
  have hb := Int32.toInt_lt x
  have hc := Int32.le_toInt x
  omega
theorem own_i (x : Int32) (k : Nat) (hk : k < 2 ^ 31) (h : x.toInt = k) : x = Int32.ofNat k := Int32.toInt_inj.mp (by rw [h, Int32.toInt_ofNat_of_lt hk])
theorem own_fin (m : Nat) (hm : m ≤ 4) (J N PO : Int32) (hJ : 0 ≤ J.toInt ∧ J.toInt < 13) (hN : N.toInt = (m : Int) + 1) (hO : 0 ≤ PO.toInt ∧ PO.toInt ≤ 7) (v ps : Int32) (L : List Value) (M : L.length = 13 ∧ ∀ i, L.getD i (.int (0 : Int32)) = .int (if i < 13 then ps else 0)) (u : Int64) (hu : u.toInt = (own_U v : Int))
    (hlast : (own_sh m v &&& (-128 : Int32)) = 0) : own_at (own_get (own_put m L PO.toNatClampNeg v) J.toNatClampNeg) J PO N u ps = 1 := by
  have hs : (J - PO).toInt = J.toInt - PO.toInt := Jvm.Kit.i32_sub (by omega) (by omega)
  have h1 : (N - 1).toInt = N.toInt - 1 := Jvm.Kit.i32_sub (q := 1) (by show _ ≤ N.toInt - 1; omega) (by show N.toInt - 1 < _; omega)
  have ho : (PO.toNatClampNeg : Int) = PO.toInt := by show (PO.toInt.toNat : Int) = _; omega
  have hj : (J.toNatClampNeg : Int) = J.toInt := by show (J.toInt.toNat : Int) = _; omega
  have hx := own_putD (.int (0 : Int32)) m L PO.toNatClampNeg v J.toNatClampNeg (by rw [M.1]; omega)
  have hold : L.getD J.toNatClampNeg (.int (0 : Int32)) = .int ps := by rw [M.2, if_pos (by omega)]
  rw [own_and] at hlast
  rw [hold] at hx
  have cc : ∀ z : Int32, own_c z z = 1 := fun z => by rw [own_c, if_pos rfl]
  have gt : ∀ z : Int32, (own_put m L PO.toNatClampNeg v).getD J.toNatClampNeg (.int (0 : Int32)) = .int z → own_get (own_put m L PO.toNatClampNeg v) J.toNatClampNeg = z := fun z e => by rw [own_get, e]
  unfold own_at
  simp only [Int32.lt_iff_toInt_lt]
  by_cases c1 : J.toInt < PO.toInt
  · rw [if_pos (by rw [hs]; show _ < (0 : Int); omega)]
    rw [if_pos (by omega)] at hx
    rw [gt _ hx, cc]
  · rw [if_neg (by rw [hs]; show ¬ _ < (0 : Int); omega)]
    rw [if_neg (by omega)] at hx
    by_cases c2 : J.toInt - PO.toInt < N.toInt
    · rw [if_pos (by rw [hs]; exact c2)]
      obtain ⟨i, hi⟩ : ∃ i : Nat, J.toNatClampNeg - PO.toNatClampNeg = i := ⟨_, rfl⟩
      have hi4 : i = 0 ∨ i = 1 ∨ i = 2 ∨ i = 3 ∨ i = 4 := by omega
      have hd : J - PO = Int32.ofNat i := own_i _ _ (by omega) (by rw [hs]; omega)
      have G : (ushL u (7 * (J - PO)) &&& 127).toInt32 = own_sh i v &&& 127 := by
        rw [hd]
        rcases hi4 with rfl | rfl | rfl | rfl | rfl
        · exact own_g u v _ 0 0 hu (by decide) (by decide) (by decide)
        · exact own_g u v _ 1 7 hu (by decide) (by decide) (by decide)
        · exact own_g u v _ 2 14 hu (by decide) (by decide) (by decide)
        · exact own_g u v _ 3 21 hu (by decide) (by decide) (by decide)
        · exact own_g u v _ 4 28 hu (by decide) (by decide) (by decide)
      rw [G]
      by_cases c3 : J.toInt - PO.toInt < N.toInt - 1
      · rw [if_pos (by rw [hs, h1]; exact c3)]
        rw [if_pos (by omega), hi] at hx
        rw [gt _ hx, own_nb, cc]
      · rw [if_neg (by rw [hs, h1]; exact c3)]
        rw [if_neg (by omega), if_pos (by omega)] at hx
        have him : i = m := by omega
        rw [him, own_shl _ hlast, gt _ hx, own_nb, cc]
    · rw [if_neg (by rw [hs]; exact c2)]
      rw [if_neg (by omega), if_neg (by omega)] at hx
      rw [gt _ hx, cc]
theorem own_1 {x : Int32} (h : x = 1) : ¬ x = 0 := by rw [h]; decide

theorem d1_0 : decode prog_37_method_4_code 0 = .ok (.iload_n 1, 1) := by decide +kernel
theorem d1_1 : decode prog_37_method_4_code 1 = .ok (.istore_n 3, 1) := by decide +kernel
theorem d1_2 : decode prog_37_method_4_code 2 = .ok (.iload_n 2, 1) := by decide +kernel
theorem d1_3 : decode prog_37_method_4_code 3 = .ok (.istore 4, 2) := by decide +kernel
theorem d1_5 : decode prog_37_method_4_code 5 = .ok (.iload 4, 2) := by decide +kernel
theorem d1_7 : decode prog_37_method_4_code 7 = .ok (.bipush (-128), 2) := by decide +kernel
theorem d1_9 : decode prog_37_method_4_code 9 = .ok (.iand, 1) := by decide +kernel
theorem d1_10 : decode prog_37_method_4_code 10 = .ok (.ifCond .eq 29, 3) := by decide +kernel
theorem d1_13 : decode prog_37_method_4_code 13 = .ok (.aload_n 0, 1) := by decide +kernel
theorem d1_14 : decode prog_37_method_4_code 14 = .ok (.iload_n 3, 1) := by decide +kernel
theorem d1_15 : decode prog_37_method_4_code 15 = .ok (.iinc 3 1, 3) := by decide +kernel
theorem d1_18 : decode prog_37_method_4_code 18 = .ok (.iload 4, 2) := by decide +kernel
theorem d1_20 : decode prog_37_method_4_code 20 = .ok (.bipush 127, 2) := by decide +kernel
theorem d1_22 : decode prog_37_method_4_code 22 = .ok (.iand, 1) := by decide +kernel
theorem d1_23 : decode prog_37_method_4_code 23 = .ok (.sipush 128, 3) := by decide +kernel
theorem d1_26 : decode prog_37_method_4_code 26 = .ok (.ior, 1) := by decide +kernel
theorem d1_27 : decode prog_37_method_4_code 27 = .ok (.i2b, 1) := by decide +kernel
theorem d1_28 : decode prog_37_method_4_code 28 = .ok (.bastore, 1) := by decide +kernel
theorem d1_29 : decode prog_37_method_4_code 29 = .ok (.iload 4, 2) := by decide +kernel
theorem d1_31 : decode prog_37_method_4_code 31 = .ok (.bipush 7, 2) := by decide +kernel
theorem d1_33 : decode prog_37_method_4_code 33 = .ok (.iushr, 1) := by decide +kernel
theorem d1_34 : decode prog_37_method_4_code 34 = .ok (.istore 4, 2) := by decide +kernel
theorem d1_36 : decode prog_37_method_4_code 36 = .ok (.goto (-31), 3) := by decide +kernel
theorem d1_39 : decode prog_37_method_4_code 39 = .ok (.aload_n 0, 1) := by decide +kernel
theorem d1_40 : decode prog_37_method_4_code 40 = .ok (.iload_n 3, 1) := by decide +kernel
theorem d1_41 : decode prog_37_method_4_code 41 = .ok (.iinc 3 1, 3) := by decide +kernel
theorem d1_44 : decode prog_37_method_4_code 44 = .ok (.iload 4, 2) := by decide +kernel
theorem d1_46 : decode prog_37_method_4_code 46 = .ok (.i2b, 1) := by decide +kernel
theorem d1_47 : decode prog_37_method_4_code 47 = .ok (.bastore, 1) := by decide +kernel
theorem d1_48 : decode prog_37_method_4_code 48 = .ok (.iload_n 3, 1) := by decide +kernel
theorem d1_49 : decode prog_37_method_4_code 49 = .ok (.ireturn, 1) := by decide +kernel
theorem pn_1 : plainName "com/example/indexterity/indexterity/index/IndexFormat" = true := by first | (simp [plainName, overriddenIn]; done) | decide +kernel
theorem ef_rmv1 (m : MethodId) (x0 : Addr) (x1 : Int32) (x2 : Int32) : entryFrame m #[(.ref x0), (.int x1), (.int x2)] 5 = mkF m 0 #[.val (.ref x0), .val (.int x1), .val (.int x2), .unset, .unset] [] := by first | (simp [entryFrame, mkF, argsToLocals, Value.category]; done) | rfl
def Qv1 (Z : State) (a1 : Addr) (p2 : Int32) (p3 : Int32) (k1 : ClassId) (L0 : List Value) (h0 : Heap) (n0 : Nat) (v : Option Value) (h : Heap) (L : List Loc) : Prop := v = some (.int (p2 + (1 : Int32))) ∧ Fr n0 L ∧ Keep h0 h [a1] ∧ Arv Z h a1 k1 .byte (13 : Int32) (own_put 0 L0 p2.toNatClampNeg p3) (.int (0 : Int32))
set_option maxRecDepth 65536 in
set_option maxHeartbeats 40000000 in
theorem rmv1 (l : Launch) (Z : State) (a0 : Array Value) (hw : ∀ d ∈ tables_1, d.before a0 Z = true) (ws : List Jvm.Cond) (a1 : Addr) (p2 : Int32) (p3 : Int32) (k1 : ClassId) (L0 : List Value) (h0 : Heap) (n0 : Nat) (Z0 : n0 ≤ h0.size) (HV_a1 : Arv Z h0 a1 k1 .byte (13 : Int32) L0 (.int (0 : Int32))) (g_a1 : n0 ≤ a1) (hL : L0.length = 13) (ho : 0 ≤ p2.toInt ∧ p2.toInt ≤ 7) (hv0 : (p3 &&& (-128 : Int32)) = 0) :
    MetFree l (⟨"com/example/indexterity/indexterity/index/IndexFormat", "putVarInt", "([BII)I"⟩ : MethodName) (head1 (Jvm.Cond.code (⟨"com/example/indexterity/indexterity/index/IndexFormat", "putVarInt", "([BII)I"⟩ : MethodName) prog_37_method_4_code 5 (some .int) :: ws) ({ frames := 0, cells := 0, slots := 0, locals := 0 } : Room)) (fun a U => a = #[(.ref a1), (.int p2), (.int p3)] ∧ Z.Warmed39 U.vm ∧ U.heap = h0) (fun _ _ _ _ _ => True) (fun _ U o U' => ∃ v L, o = .returned v ∧ Qv1 Z a1 p2 p3 k1 L0 h0 n0 v U'.heap L ∧ FrameEnd U o U' L ({ frames := 0, cells := 0, slots := 0, locals := 0 } : Room).cells ({ frames := 0, cells := 0, slots := 0, locals := 0 } : Room).slots) := by
  refine MetFree.of_bodySF (plainFor_of_name pn_1) hisR ?_
  intro p e s m args below meth c s₁ Bd hml0 hP hK
  obtain ⟨rfl, hZ, hh⟩ := hP
  have hx := Bd.exec
  have hby := Bd.bytes
  have hlk := BodyLoose.notSynchronized Bd
  have hret := Bd.returns
  have hml : c.maxLocals = 5 := hml0
  have hown : s.vm.findClass "com/example/indexterity/indexterity/index/IndexFormat" = some m.cls := findClass_of_methodNamed Bd.named
  have hnm := (name_of_methodNamed Bd.named Bd.method).1
  have X0 : Stand p l e ({ frames := 0, cells := 0, slots := 0, locals := 0 } : Room) s m #[(.ref a1), (.int p2), (.int p3)] below meth c s₁ [] 0 0 := Stand.of_body Bd
  have e0 : s₁.heap = h0 := by rw [← hh, Bd.state]; rfl
  have N0 := Fr.nil n0
  have K0 : Keep h0 h0 [a1] := Keep.refl h0 _
  refine Fin.step (Q := fun v h L => Qv1 Z a1 p2 p3 k1 L0 h0 n0 v h L) (st' := s₁.setTop (mkF m 0 #[.val (.ref a1), .val (.int p2), .val (.int p3), .unset, .unset] [])) (fun t k => castTop (ef_rmv1 m a1 p2 p3) k) ?_
  show Fin p e below s _ _ _ (s₁.setTop (mkF m 0 #[.val (.ref a1), .val (.int p2), .val (.int p3), .unset, .unset] []))
  refine Fin.step (fun _ => XS.iloadN X0.here hx rfl (hb hby d1_0) rfl) ?_
  show Fin p e below s _ _ _ (s₁.setTop (mkF m 1 #[.val (.ref a1), .val (.int p2), .val (.int p3), .unset, .unset] [(.int p2)]))
  refine Fin.step (fun _ => XS.istoreN X0.here hx rfl (hb hby d1_1) rfl (l' := #[.val (.ref a1), .val (.int p2), .val (.int p3), .val (.int p2), .unset]) rfl) ?_
  show Fin p e below s _ _ _ (s₁.setTop (mkF m 2 #[.val (.ref a1), .val (.int p2), .val (.int p3), .val (.int p2), .unset] []))
  refine Fin.step (fun _ => XS.iloadN X0.here hx rfl (hb hby d1_2) rfl) ?_
  show Fin p e below s _ _ _ (s₁.setTop (mkF m 3 #[.val (.ref a1), .val (.int p2), .val (.int p3), .val (.int p2), .unset] [(.int p3)]))
  refine Fin.step (fun _ => XS.istore X0.here hx rfl (hb hby d1_3) rfl (l' := #[.val (.ref a1), .val (.int p2), .val (.int p3), .val (.int p2), .val (.int p3)]) rfl) ?_
  show Fin p e below s _ _ _ (s₁.setTop (mkF m 5 #[.val (.ref a1), .val (.int p2), .val (.int p3), .val (.int p2), .val (.int p3)] []))
  have hO := own_nat ho
  have S0 := own_st p2 7 ho (by decide)
  have J0 : p2.toNatClampNeg = p2.toNatClampNeg := rfl
  refine Fin.step (fun _ => XS.iload X0.here hx rfl (hb hby d1_5) rfl) ?_
  show Fin p e below s _ _ _ (s₁.setTop (mkF m 7 #[.val (.ref a1), .val (.int p2), .val (.int p3), .val (.int p2), .val (.int p3)] [(.int p3)]))
  refine Fin.step (fun _ => XS.bipush X0.here hx rfl (hb hby d1_7)) ?_
  show Fin p e below s _ _ _ (s₁.setTop (mkF m 9 #[.val (.ref a1), .val (.int p2), .val (.int p3), .val (.int p2), .val (.int p3)] [(.int (-128 : Int32)), (.int p3)]))
  refine Fin.step (fun _ => XS.iand X0.here hx rfl (hb hby d1_9) rfl) ?_
  show Fin p e below s _ _ _ (s₁.setTop (mkF m 10 #[.val (.ref a1), .val (.int p2), .val (.int p3), .val (.int p2), .val (.int p3)] [(.int (p3 &&& (-128 : Int32)))]))
  refine Fin.step (fun _ => XS.ifYes X0.here hx rfl (pc0 := 10) (pc' := 39) rfl (hb hby d1_10) rfl ((if0 _ _).trans (teq (hv0 : ((p3 &&& (-128 : Int32)) = (0 : Int32)))).1) (by decide) (by decide)) ?_
  show Fin p e below s _ _ _ (s₁.setTop (mkF m 39 #[.val (.ref a1), .val (.int p2), .val (.int p3), .val (.int p2), .val (.int p3)] []))
  refine Fin.step (fun _ => XS.aloadN X0.here hx rfl (hb hby d1_39) rfl rfl) ?_
  show Fin p e below s _ _ _ (s₁.setTop (mkF m 40 #[.val (.ref a1), .val (.int p2), .val (.int p3), .val (.int p2), .val (.int p3)] [(.ref a1)]))
  refine Fin.step (fun _ => XS.iloadN X0.here hx rfl (hb hby d1_40) rfl) ?_
  show Fin p e below s _ _ _ (s₁.setTop (mkF m 41 #[.val (.ref a1), .val (.int p2), .val (.int p3), .val (.int p2), .val (.int p3)] [(.int p2), (.ref a1)]))
  refine Fin.step (fun _ => XS.iinc X0.here hx rfl (hb hby d1_41) rfl (l' := #[.val (.ref a1), .val (.int p2), .val (.int p3), .val (.int (p2 + (1 : Int32))), .val (.int p3)]) rfl) ?_
  show Fin p e below s _ _ _ (s₁.setTop (mkF m 44 #[.val (.ref a1), .val (.int p2), .val (.int p3), .val (.int (p2 + (1 : Int32))), .val (.int p3)] [(.int p2), (.ref a1)]))
  refine Fin.step (fun _ => XS.iload X0.here hx rfl (hb hby d1_44) rfl) ?_
  show Fin p e below s _ _ _ (s₁.setTop (mkF m 46 #[.val (.ref a1), .val (.int p2), .val (.int p3), .val (.int (p2 + (1 : Int32))), .val (.int p3)] [(.int p3), (.int p2), (.ref a1)]))
  refine Fin.step (fun _ => XS.i2b X0.here hx rfl (hb hby d1_46) rfl) ?_
  show Fin p e below s _ _ _ (s₁.setTop (mkF m 47 #[.val (.ref a1), .val (.int p2), .val (.int p3), .val (.int (p2 + (1 : Int32))), .val (.int p3)] [(.int (p3.toInt8.toInt32)), (.int p2), (.ref a1)]))
  have voy1 := HV_a1
  obtain ⟨cly1, Ary1, qay1, say1, nay1, hay1, gay1⟩ := voy1
  obtain ⟨Ty1, hy1, Xy1, ey1, Wy1, sty1⟩ := stB X0 hx hZ e0 Ary1 (j := p2) (inb_of say1 S0.1) (g := (mkF m 47 #[.val (.ref a1), .val (.int p2), .val (.int p3), .val (.int (p2 + (1 : Int32))), .val (.int p3)] [(.int (p3.toInt8.toInt32)), (.int p2), (.ref a1)])) rfl rfl (hb hby d1_47)
  have Vy1 : Arv Z hy1 a1 k1 .byte (13 : Int32) (List.set L0 p2.toNatClampNeg (own_la p3)) (.int (0 : Int32)) := Arv.set Ary1 qay1 say1 nay1 hay1 gay1 (fits_nar_byte _) Wy1 p2.toNatClampNeg J0 (by first | (simp only [List.length_set]; omega) | omega)
  have Zy1 : n0 ≤ hy1.size := Nat.le_trans Z0 (Keep.of_wr Wy1).1
  have Ky1 : Keep h0 hy1 [a1] := K0.wr Wy1 (Or.inl (List.mem_of_getElem? (i := 0) rfl))
  have Ny1 := Fr.snoc Xy1 N0 g_a1
  refine Fin.step (sty1) ?_
  show Fin p e below s _ _ _ (Ty1.setTop (mkF m 48 #[.val (.ref a1), .val (.int p2), .val (.int p3), .val (.int (p2 + (1 : Int32))), .val (.int p3)] []))
  refine Fin.step (fun _ => XS.iloadN Xy1.here hx rfl (hb hby d1_48) rfl) ?_
  show Fin p e below s _ _ _ (Ty1.setTop (mkF m 49 #[.val (.ref a1), .val (.int p2), .val (.int p3), .val (.int (p2 + (1 : Int32))), .val (.int p3)] [(.int (p2 + (1 : Int32)))]))
  refine Fin.retI Xy1 hx hret hlk (hb hby d1_49) (by decide) (by decide) ?_
  show Qv1 Z a1 p2 p3 k1 L0 h0 n0 _ Ty1.heap _
  rw [ey1]
  exact ⟨rfl, Ny1, Ky1, Vy1⟩
theorem ef_rmv2 (m : MethodId) (x0 : Addr) (x1 : Int32) (x2 : Int32) : entryFrame m #[(.ref x0), (.int x1), (.int x2)] 5 = mkF m 0 #[.val (.ref x0), .val (.int x1), .val (.int x2), .unset, .unset] [] := by first | (simp [entryFrame, mkF, argsToLocals, Value.category]; done) | rfl
def Qv2 (Z : State) (a1 : Addr) (p2 : Int32) (p3 : Int32) (k1 : ClassId) (L0 : List Value) (h0 : Heap) (n0 : Nat) (v : Option Value) (h : Heap) (L : List Loc) : Prop := v = some (.int ((p2 + (1 : Int32)) + (1 : Int32))) ∧ Fr n0 L ∧ Keep h0 h [a1] ∧ Arv Z h a1 k1 .byte (13 : Int32) (own_put 1 L0 p2.toNatClampNeg p3) (.int (0 : Int32))
set_option maxRecDepth 65536 in
set_option maxHeartbeats 40000000 in
theorem rmv2 (l : Launch) (Z : State) (a0 : Array Value) (hw : ∀ d ∈ tables_1, d.before a0 Z = true) (ws : List Jvm.Cond) (a1 : Addr) (p2 : Int32) (p3 : Int32) (k1 : ClassId) (L0 : List Value) (h0 : Heap) (n0 : Nat) (Z0 : n0 ≤ h0.size) (HV_a1 : Arv Z h0 a1 k1 .byte (13 : Int32) L0 (.int (0 : Int32))) (g_a1 : n0 ≤ a1) (hL : L0.length = 13) (ho : 0 ≤ p2.toInt ∧ p2.toInt ≤ 7) (hv0 : ¬ (p3 &&& (-128 : Int32)) = 0) (hv1 : ((ushI p3 (7 : Int32)) &&& (-128 : Int32)) = 0) :
    MetFree l (⟨"com/example/indexterity/indexterity/index/IndexFormat", "putVarInt", "([BII)I"⟩ : MethodName) (head1 (Jvm.Cond.code (⟨"com/example/indexterity/indexterity/index/IndexFormat", "putVarInt", "([BII)I"⟩ : MethodName) prog_37_method_4_code 5 (some .int) :: ws) ({ frames := 0, cells := 0, slots := 0, locals := 0 } : Room)) (fun a U => a = #[(.ref a1), (.int p2), (.int p3)] ∧ Z.Warmed39 U.vm ∧ U.heap = h0) (fun _ _ _ _ _ => True) (fun _ U o U' => ∃ v L, o = .returned v ∧ Qv2 Z a1 p2 p3 k1 L0 h0 n0 v U'.heap L ∧ FrameEnd U o U' L ({ frames := 0, cells := 0, slots := 0, locals := 0 } : Room).cells ({ frames := 0, cells := 0, slots := 0, locals := 0 } : Room).slots) := by
  refine MetFree.of_bodySF (plainFor_of_name pn_1) hisR ?_
  intro p e s m args below meth c s₁ Bd hml0 hP hK
  obtain ⟨rfl, hZ, hh⟩ := hP
  have hx := Bd.exec
  have hby := Bd.bytes
  have hlk := BodyLoose.notSynchronized Bd
  have hret := Bd.returns
  have hml : c.maxLocals = 5 := hml0
  have hown : s.vm.findClass "com/example/indexterity/indexterity/index/IndexFormat" = some m.cls := findClass_of_methodNamed Bd.named
  have hnm := (name_of_methodNamed Bd.named Bd.method).1
  have X0 : Stand p l e ({ frames := 0, cells := 0, slots := 0, locals := 0 } : Room) s m #[(.ref a1), (.int p2), (.int p3)] below meth c s₁ [] 0 0 := Stand.of_body Bd
  have e0 : s₁.heap = h0 := by rw [← hh, Bd.state]; rfl
  have N0 := Fr.nil n0
  have K0 : Keep h0 h0 [a1] := Keep.refl h0 _
  refine Fin.step (Q := fun v h L => Qv2 Z a1 p2 p3 k1 L0 h0 n0 v h L) (st' := s₁.setTop (mkF m 0 #[.val (.ref a1), .val (.int p2), .val (.int p3), .unset, .unset] [])) (fun t k => castTop (ef_rmv2 m a1 p2 p3) k) ?_
  show Fin p e below s _ _ _ (s₁.setTop (mkF m 0 #[.val (.ref a1), .val (.int p2), .val (.int p3), .unset, .unset] []))
  refine Fin.step (fun _ => XS.iloadN X0.here hx rfl (hb hby d1_0) rfl) ?_
  show Fin p e below s _ _ _ (s₁.setTop (mkF m 1 #[.val (.ref a1), .val (.int p2), .val (.int p3), .unset, .unset] [(.int p2)]))
  refine Fin.step (fun _ => XS.istoreN X0.here hx rfl (hb hby d1_1) rfl (l' := #[.val (.ref a1), .val (.int p2), .val (.int p3), .val (.int p2), .unset]) rfl) ?_
  show Fin p e below s _ _ _ (s₁.setTop (mkF m 2 #[.val (.ref a1), .val (.int p2), .val (.int p3), .val (.int p2), .unset] []))
  refine Fin.step (fun _ => XS.iloadN X0.here hx rfl (hb hby d1_2) rfl) ?_
  show Fin p e below s _ _ _ (s₁.setTop (mkF m 3 #[.val (.ref a1), .val (.int p2), .val (.int p3), .val (.int p2), .unset] [(.int p3)]))
  refine Fin.step (fun _ => XS.istore X0.here hx rfl (hb hby d1_3) rfl (l' := #[.val (.ref a1), .val (.int p2), .val (.int p3), .val (.int p2), .val (.int p3)]) rfl) ?_
  show Fin p e below s _ _ _ (s₁.setTop (mkF m 5 #[.val (.ref a1), .val (.int p2), .val (.int p3), .val (.int p2), .val (.int p3)] []))
  have hO := own_nat ho
  have S0 := own_st p2 7 ho (by decide)
  have J0 : p2.toNatClampNeg = p2.toNatClampNeg := rfl
  refine Fin.step (fun _ => XS.iload X0.here hx rfl (hb hby d1_5) rfl) ?_
  show Fin p e below s _ _ _ (s₁.setTop (mkF m 7 #[.val (.ref a1), .val (.int p2), .val (.int p3), .val (.int p2), .val (.int p3)] [(.int p3)]))
  refine Fin.step (fun _ => XS.bipush X0.here hx rfl (hb hby d1_7)) ?_
  show Fin p e below s _ _ _ (s₁.setTop (mkF m 9 #[.val (.ref a1), .val (.int p2), .val (.int p3), .val (.int p2), .val (.int p3)] [(.int (-128 : Int32)), (.int p3)]))
  refine Fin.step (fun _ => XS.iand X0.here hx rfl (hb hby d1_9) rfl) ?_
  show Fin p e below s _ _ _ (s₁.setTop (mkF m 10 #[.val (.ref a1), .val (.int p2), .val (.int p3), .val (.int p2), .val (.int p3)] [(.int (p3 &&& (-128 : Int32)))]))
  refine Fin.step (fun _ => XS.ifNo X0.here hx rfl (hb hby d1_10) rfl ((if0 _ _).trans (feq (hv0 : ¬ ((p3 &&& (-128 : Int32)) = (0 : Int32)))).1)) ?_
  show Fin p e below s _ _ _ (s₁.setTop (mkF m 13 #[.val (.ref a1), .val (.int p2), .val (.int p3), .val (.int p2), .val (.int p3)] []))
  refine Fin.step (fun _ => XS.aloadN X0.here hx rfl (hb hby d1_13) rfl rfl) ?_
  show Fin p e below s _ _ _ (s₁.setTop (mkF m 14 #[.val (.ref a1), .val (.int p2), .val (.int p3), .val (.int p2), .val (.int p3)] [(.ref a1)]))
  refine Fin.step (fun _ => XS.iloadN X0.here hx rfl (hb hby d1_14) rfl) ?_
  show Fin p e below s _ _ _ (s₁.setTop (mkF m 15 #[.val (.ref a1), .val (.int p2), .val (.int p3), .val (.int p2), .val (.int p3)] [(.int p2), (.ref a1)]))
  refine Fin.step (fun _ => XS.iinc X0.here hx rfl (hb hby d1_15) rfl (l' := #[.val (.ref a1), .val (.int p2), .val (.int p3), .val (.int (p2 + (1 : Int32))), .val (.int p3)]) rfl) ?_
  show Fin p e below s _ _ _ (s₁.setTop (mkF m 18 #[.val (.ref a1), .val (.int p2), .val (.int p3), .val (.int (p2 + (1 : Int32))), .val (.int p3)] [(.int p2), (.ref a1)]))
  refine Fin.step (fun _ => XS.iload X0.here hx rfl (hb hby d1_18) rfl) ?_
  show Fin p e below s _ _ _ (s₁.setTop (mkF m 20 #[.val (.ref a1), .val (.int p2), .val (.int p3), .val (.int (p2 + (1 : Int32))), .val (.int p3)] [(.int p3), (.int p2), (.ref a1)]))
  refine Fin.step (fun _ => XS.bipush X0.here hx rfl (hb hby d1_20)) ?_
  show Fin p e below s _ _ _ (s₁.setTop (mkF m 22 #[.val (.ref a1), .val (.int p2), .val (.int p3), .val (.int (p2 + (1 : Int32))), .val (.int p3)] [(.int (127 : Int32)), (.int p3), (.int p2), (.ref a1)]))
  refine Fin.step (fun _ => XS.iand X0.here hx rfl (hb hby d1_22) rfl) ?_
  show Fin p e below s _ _ _ (s₁.setTop (mkF m 23 #[.val (.ref a1), .val (.int p2), .val (.int p3), .val (.int (p2 + (1 : Int32))), .val (.int p3)] [(.int (p3 &&& (127 : Int32))), (.int p2), (.ref a1)]))
  refine Fin.step (fun _ => XS.sipush X0.here hx rfl (hb hby d1_23)) ?_
  show Fin p e below s _ _ _ (s₁.setTop (mkF m 26 #[.val (.ref a1), .val (.int p2), .val (.int p3), .val (.int (p2 + (1 : Int32))), .val (.int p3)] [(.int (128 : Int32)), (.int (p3 &&& (127 : Int32))), (.int p2), (.ref a1)]))
  refine Fin.step (fun _ => XS.ior X0.here hx rfl (hb hby d1_26) rfl) ?_
  show Fin p e below s _ _ _ (s₁.setTop (mkF m 27 #[.val (.ref a1), .val (.int p2), .val (.int p3), .val (.int (p2 + (1 : Int32))), .val (.int p3)] [(.int ((p3 &&& (127 : Int32)) ||| (128 : Int32))), (.int p2), (.ref a1)]))
  refine Fin.step (fun _ => XS.i2b X0.here hx rfl (hb hby d1_27) rfl) ?_
  show Fin p e below s _ _ _ (s₁.setTop (mkF m 28 #[.val (.ref a1), .val (.int p2), .val (.int p3), .val (.int (p2 + (1 : Int32))), .val (.int p3)] [(.int (((p3 &&& (127 : Int32)) ||| (128 : Int32)).toInt8.toInt32)), (.int p2), (.ref a1)]))
  have voy1 := HV_a1
  obtain ⟨cly1, Ary1, qay1, say1, nay1, hay1, gay1⟩ := voy1
  obtain ⟨Ty1, hy1, Xy1, ey1, Wy1, sty1⟩ := stB X0 hx hZ e0 Ary1 (j := p2) (inb_of say1 S0.1) (g := (mkF m 28 #[.val (.ref a1), .val (.int p2), .val (.int p3), .val (.int (p2 + (1 : Int32))), .val (.int p3)] [(.int (((p3 &&& (127 : Int32)) ||| (128 : Int32)).toInt8.toInt32)), (.int p2), (.ref a1)])) rfl rfl (hb hby d1_28)
  have Vy1 : Arv Z hy1 a1 k1 .byte (13 : Int32) (List.set L0 p2.toNatClampNeg (own_by p3)) (.int (0 : Int32)) := Arv.set Ary1 qay1 say1 nay1 hay1 gay1 (fits_nar_byte _) Wy1 p2.toNatClampNeg J0 (by first | (simp only [List.length_set]; omega) | omega)
  have Zy1 : n0 ≤ hy1.size := Nat.le_trans Z0 (Keep.of_wr Wy1).1
  have Ky1 : Keep h0 hy1 [a1] := K0.wr Wy1 (Or.inl (List.mem_of_getElem? (i := 0) rfl))
  have Ny1 := Fr.snoc Xy1 N0 g_a1
  refine Fin.step (sty1) ?_
  show Fin p e below s _ _ _ (Ty1.setTop (mkF m 29 #[.val (.ref a1), .val (.int p2), .val (.int p3), .val (.int (p2 + (1 : Int32))), .val (.int p3)] []))
  refine Fin.step (fun _ => XS.iload Xy1.here hx rfl (hb hby d1_29) rfl) ?_
  show Fin p e below s _ _ _ (Ty1.setTop (mkF m 31 #[.val (.ref a1), .val (.int p2), .val (.int p3), .val (.int (p2 + (1 : Int32))), .val (.int p3)] [(.int p3)]))
  refine Fin.step (fun _ => XS.bipush Xy1.here hx rfl (hb hby d1_31)) ?_
  show Fin p e below s _ _ _ (Ty1.setTop (mkF m 33 #[.val (.ref a1), .val (.int p2), .val (.int p3), .val (.int (p2 + (1 : Int32))), .val (.int p3)] [(.int (7 : Int32)), (.int p3)]))
  refine Fin.step (fun _ => XS.iushr Xy1.here hx rfl (hb hby d1_33) rfl) ?_
  show Fin p e below s _ _ _ (Ty1.setTop (mkF m 34 #[.val (.ref a1), .val (.int p2), .val (.int p3), .val (.int (p2 + (1 : Int32))), .val (.int p3)] [(.int (ushI p3 (7 : Int32)))]))
  refine Fin.step (fun _ => XS.istore Xy1.here hx rfl (hb hby d1_34) rfl (l' := #[.val (.ref a1), .val (.int p2), .val (.int p3), .val (.int (p2 + (1 : Int32))), .val (.int (ushI p3 (7 : Int32)))]) rfl) ?_
  show Fin p e below s _ _ _ (Ty1.setTop (mkF m 36 #[.val (.ref a1), .val (.int p2), .val (.int p3), .val (.int (p2 + (1 : Int32))), .val (.int (ushI p3 (7 : Int32)))] []))
  refine Fin.step (fun _ => XS.goto Xy1.here hx rfl (pc0 := 36) (pc' := 5) rfl (hb hby d1_36) (by decide) (by decide)) ?_
  show Fin p e below s _ _ _ (Ty1.setTop (mkF m 5 #[.val (.ref a1), .val (.int p2), .val (.int p3), .val (.int (p2 + (1 : Int32))), .val (.int (ushI p3 (7 : Int32)))] []))
  have S1 := own_st (p2 + (1 : Int32)) 8 S0.2.1 (by decide)
  have J1 : ((p2 + (1 : Int32))).toNatClampNeg = (p2.toNatClampNeg + 1) := S0.2.2.trans (congrArg (· + 1) J0)
  refine Fin.step (fun _ => XS.iload Xy1.here hx rfl (hb hby d1_5) rfl) ?_
  show Fin p e below s _ _ _ (Ty1.setTop (mkF m 7 #[.val (.ref a1), .val (.int p2), .val (.int p3), .val (.int (p2 + (1 : Int32))), .val (.int (ushI p3 (7 : Int32)))] [(.int (ushI p3 (7 : Int32)))]))
  refine Fin.step (fun _ => XS.bipush Xy1.here hx rfl (hb hby d1_7)) ?_
  show Fin p e below s _ _ _ (Ty1.setTop (mkF m 9 #[.val (.ref a1), .val (.int p2), .val (.int p3), .val (.int (p2 + (1 : Int32))), .val (.int (ushI p3 (7 : Int32)))] [(.int (-128 : Int32)), (.int (ushI p3 (7 : Int32)))]))
  refine Fin.step (fun _ => XS.iand Xy1.here hx rfl (hb hby d1_9) rfl) ?_
  show Fin p e below s _ _ _ (Ty1.setTop (mkF m 10 #[.val (.ref a1), .val (.int p2), .val (.int p3), .val (.int (p2 + (1 : Int32))), .val (.int (ushI p3 (7 : Int32)))] [(.int ((ushI p3 (7 : Int32)) &&& (-128 : Int32)))]))
  refine Fin.step (fun _ => XS.ifYes Xy1.here hx rfl (pc0 := 10) (pc' := 39) rfl (hb hby d1_10) rfl ((if0 _ _).trans (teq (hv1 : (((ushI p3 (7 : Int32)) &&& (-128 : Int32)) = (0 : Int32)))).1) (by decide) (by decide)) ?_
  show Fin p e below s _ _ _ (Ty1.setTop (mkF m 39 #[.val (.ref a1), .val (.int p2), .val (.int p3), .val (.int (p2 + (1 : Int32))), .val (.int (ushI p3 (7 : Int32)))] []))
  refine Fin.step (fun _ => XS.aloadN Xy1.here hx rfl (hb hby d1_39) rfl rfl) ?_
  show Fin p e below s _ _ _ (Ty1.setTop (mkF m 40 #[.val (.ref a1), .val (.int p2), .val (.int p3), .val (.int (p2 + (1 : Int32))), .val (.int (ushI p3 (7 : Int32)))] [(.ref a1)]))
  refine Fin.step (fun _ => XS.iloadN Xy1.here hx rfl (hb hby d1_40) rfl) ?_
  show Fin p e below s _ _ _ (Ty1.setTop (mkF m 41 #[.val (.ref a1), .val (.int p2), .val (.int p3), .val (.int (p2 + (1 : Int32))), .val (.int (ushI p3 (7 : Int32)))] [(.int (p2 + (1 : Int32))), (.ref a1)]))
  refine Fin.step (fun _ => XS.iinc Xy1.here hx rfl (hb hby d1_41) rfl (l' := #[.val (.ref a1), .val (.int p2), .val (.int p3), .val (.int ((p2 + (1 : Int32)) + (1 : Int32))), .val (.int (ushI p3 (7 : Int32)))]) rfl) ?_
  show Fin p e below s _ _ _ (Ty1.setTop (mkF m 44 #[.val (.ref a1), .val (.int p2), .val (.int p3), .val (.int ((p2 + (1 : Int32)) + (1 : Int32))), .val (.int (ushI p3 (7 : Int32)))] [(.int (p2 + (1 : Int32))), (.ref a1)]))
  refine Fin.step (fun _ => XS.iload Xy1.here hx rfl (hb hby d1_44) rfl) ?_
  show Fin p e below s _ _ _ (Ty1.setTop (mkF m 46 #[.val (.ref a1), .val (.int p2), .val (.int p3), .val (.int ((p2 + (1 : Int32)) + (1 : Int32))), .val (.int (ushI p3 (7 : Int32)))] [(.int (ushI p3 (7 : Int32))), (.int (p2 + (1 : Int32))), (.ref a1)]))
  refine Fin.step (fun _ => XS.i2b Xy1.here hx rfl (hb hby d1_46) rfl) ?_
  show Fin p e below s _ _ _ (Ty1.setTop (mkF m 47 #[.val (.ref a1), .val (.int p2), .val (.int p3), .val (.int ((p2 + (1 : Int32)) + (1 : Int32))), .val (.int (ushI p3 (7 : Int32)))] [(.int ((ushI p3 (7 : Int32)).toInt8.toInt32)), (.int (p2 + (1 : Int32))), (.ref a1)]))
  have voy2 := Vy1
  obtain ⟨cly2, Ary2, qay2, say2, nay2, hay2, gay2⟩ := voy2
  obtain ⟨Ty2, hy2, Xy2, ey2, Wy2, sty2⟩ := stB Xy1 hx hZ ey1 Ary2 (j := (p2 + (1 : Int32))) (inb_of say2 S1.1) (g := (mkF m 47 #[.val (.ref a1), .val (.int p2), .val (.int p3), .val (.int ((p2 + (1 : Int32)) + (1 : Int32))), .val (.int (ushI p3 (7 : Int32)))] [(.int ((ushI p3 (7 : Int32)).toInt8.toInt32)), (.int (p2 + (1 : Int32))), (.ref a1)])) rfl rfl (hb hby d1_47)
  have Vy2 : Arv Z hy2 a1 k1 .byte (13 : Int32) (List.set (List.set L0 p2.toNatClampNeg (own_by p3)) (p2.toNatClampNeg + 1) (own_la (ushI p3 (7 : Int32)))) (.int (0 : Int32)) := Arv.set Ary2 qay2 say2 nay2 hay2 gay2 (fits_nar_byte _) Wy2 (p2.toNatClampNeg + 1) J1 (by first | (simp only [List.length_set]; omega) | omega)
  have Zy2 : n0 ≤ hy2.size := Nat.le_trans Zy1 (Keep.of_wr Wy2).1
  have Ky2 : Keep h0 hy2 [a1] := Ky1.wr Wy2 (Or.inl (List.mem_of_getElem? (i := 0) rfl))
  have Ny2 := Fr.snoc Xy2 Ny1 g_a1
  refine Fin.step (sty2) ?_
  show Fin p e below s _ _ _ (Ty2.setTop (mkF m 48 #[.val (.ref a1), .val (.int p2), .val (.int p3), .val (.int ((p2 + (1 : Int32)) + (1 : Int32))), .val (.int (ushI p3 (7 : Int32)))] []))
  refine Fin.step (fun _ => XS.iloadN Xy2.here hx rfl (hb hby d1_48) rfl) ?_
  show Fin p e below s _ _ _ (Ty2.setTop (mkF m 49 #[.val (.ref a1), .val (.int p2), .val (.int p3), .val (.int ((p2 + (1 : Int32)) + (1 : Int32))), .val (.int (ushI p3 (7 : Int32)))] [(.int ((p2 + (1 : Int32)) + (1 : Int32)))]))
  refine Fin.retI Xy2 hx hret hlk (hb hby d1_49) (by decide) (by decide) ?_
  show Qv2 Z a1 p2 p3 k1 L0 h0 n0 _ Ty2.heap _
  rw [ey2]
  exact ⟨rfl, Ny2, Ky2, Vy2⟩
theorem ef_rmv3 (m : MethodId) (x0 : Addr) (x1 : Int32) (x2 : Int32) : entryFrame m #[(.ref x0), (.int x1), (.int x2)] 5 = mkF m 0 #[.val (.ref x0), .val (.int x1), .val (.int x2), .unset, .unset] [] := by first | (simp [entryFrame, mkF, argsToLocals, Value.category]; done) | rfl
def Qv3 (Z : State) (a1 : Addr) (p2 : Int32) (p3 : Int32) (k1 : ClassId) (L0 : List Value) (h0 : Heap) (n0 : Nat) (v : Option Value) (h : Heap) (L : List Loc) : Prop := v = some (.int (((p2 + (1 : Int32)) + (1 : Int32)) + (1 : Int32))) ∧ Fr n0 L ∧ Keep h0 h [a1] ∧ Arv Z h a1 k1 .byte (13 : Int32) (own_put 2 L0 p2.toNatClampNeg p3) (.int (0 : Int32))
set_option maxRecDepth 65536 in
set_option maxHeartbeats 40000000 in
theorem rmv3 (l : Launch) (Z : State) (a0 : Array Value) (hw : ∀ d ∈ tables_1, d.before a0 Z = true) (ws : List Jvm.Cond) (a1 : Addr) (p2 : Int32) (p3 : Int32) (k1 : ClassId) (L0 : List Value) (h0 : Heap) (n0 : Nat) (Z0 : n0 ≤ h0.size) (HV_a1 : Arv Z h0 a1 k1 .byte (13 : Int32) L0 (.int (0 : Int32))) (g_a1 : n0 ≤ a1) (hL : L0.length = 13) (ho : 0 ≤ p2.toInt ∧ p2.toInt ≤ 7) (hv0 : ¬ (p3 &&& (-128 : Int32)) = 0) (hv1 : ¬ ((ushI p3 (7 : Int32)) &&& (-128 : Int32)) = 0) (hv2 : ((ushI (ushI p3 (7 : Int32)) (7 : Int32)) &&& (-128 : Int32)) = 0) :
    MetFree l (⟨"com/example/indexterity/indexterity/index/IndexFormat", "putVarInt", "([BII)I"⟩ : MethodName) (head1 (Jvm.Cond.code (⟨"com/example/indexterity/indexterity/index/IndexFormat", "putVarInt", "([BII)I"⟩ : MethodName) prog_37_method_4_code 5 (some .int) :: ws) ({ frames := 0, cells := 0, slots := 0, locals := 0 } : Room)) (fun a U => a = #[(.ref a1), (.int p2), (.int p3)] ∧ Z.Warmed39 U.vm ∧ U.heap = h0) (fun _ _ _ _ _ => True) (fun _ U o U' => ∃ v L, o = .returned v ∧ Qv3 Z a1 p2 p3 k1 L0 h0 n0 v U'.heap L ∧ FrameEnd U o U' L ({ frames := 0, cells := 0, slots := 0, locals := 0 } : Room).cells ({ frames := 0, cells := 0, slots := 0, locals := 0 } : Room).slots) := by
  refine MetFree.of_bodySF (plainFor_of_name pn_1) hisR ?_
  intro p e s m args below meth c s₁ Bd hml0 hP hK
  obtain ⟨rfl, hZ, hh⟩ := hP
  have hx := Bd.exec
  have hby := Bd.bytes
  have hlk := BodyLoose.notSynchronized Bd
  have hret := Bd.returns
  have hml : c.maxLocals = 5 := hml0
  have hown : s.vm.findClass "com/example/indexterity/indexterity/index/IndexFormat" = some m.cls := findClass_of_methodNamed Bd.named
  have hnm := (name_of_methodNamed Bd.named Bd.method).1
  have X0 : Stand p l e ({ frames := 0, cells := 0, slots := 0, locals := 0 } : Room) s m #[(.ref a1), (.int p2), (.int p3)] below meth c s₁ [] 0 0 := Stand.of_body Bd
  have e0 : s₁.heap = h0 := by rw [← hh, Bd.state]; rfl
  have N0 := Fr.nil n0
  have K0 : Keep h0 h0 [a1] := Keep.refl h0 _
  refine Fin.step (Q := fun v h L => Qv3 Z a1 p2 p3 k1 L0 h0 n0 v h L) (st' := s₁.setTop (mkF m 0 #[.val (.ref a1), .val (.int p2), .val (.int p3), .unset, .unset] [])) (fun t k => castTop (ef_rmv3 m a1 p2 p3) k) ?_
  show Fin p e below s _ _ _ (s₁.setTop (mkF m 0 #[.val (.ref a1), .val (.int p2), .val (.int p3), .unset, .unset] []))
  refine Fin.step (fun _ => XS.iloadN X0.here hx rfl (hb hby d1_0) rfl) ?_
  show Fin p e below s _ _ _ (s₁.setTop (mkF m 1 #[.val (.ref a1), .val (.int p2), .val (.int p3), .unset, .unset] [(.int p2)]))
  refine Fin.step (fun _ => XS.istoreN X0.here hx rfl (hb hby d1_1) rfl (l' := #[.val (.ref a1), .val (.int p2), .val (.int p3), .val (.int p2), .unset]) rfl) ?_
  show Fin p e below s _ _ _ (s₁.setTop (mkF m 2 #[.val (.ref a1), .val (.int p2), .val (.int p3), .val (.int p2), .unset] []))
  refine Fin.step (fun _ => XS.iloadN X0.here hx rfl (hb hby d1_2) rfl) ?_
  show Fin p e below s _ _ _ (s₁.setTop (mkF m 3 #[.val (.ref a1), .val (.int p2), .val (.int p3), .val (.int p2), .unset] [(.int p3)]))
  refine Fin.step (fun _ => XS.istore X0.here hx rfl (hb hby d1_3) rfl (l' := #[.val (.ref a1), .val (.int p2), .val (.int p3), .val (.int p2), .val (.int p3)]) rfl) ?_
  show Fin p e below s _ _ _ (s₁.setTop (mkF m 5 #[.val (.ref a1), .val (.int p2), .val (.int p3), .val (.int p2), .val (.int p3)] []))
  have hO := own_nat ho
  have S0 := own_st p2 7 ho (by decide)
  have J0 : p2.toNatClampNeg = p2.toNatClampNeg := rfl
  refine Fin.step (fun _ => XS.iload X0.here hx rfl (hb hby d1_5) rfl) ?_
  show Fin p e below s _ _ _ (s₁.setTop (mkF m 7 #[.val (.ref a1), .val (.int p2), .val (.int p3), .val (.int p2), .val (.int p3)] [(.int p3)]))
  refine Fin.step (fun _ => XS.bipush X0.here hx rfl (hb hby d1_7)) ?_
  show Fin p e below s _ _ _ (s₁.setTop (mkF m 9 #[.val (.ref a1), .val (.int p2), .val (.int p3), .val (.int p2), .val (.int p3)] [(.int (-128 : Int32)), (.int p3)]))
  refine Fin.step (fun _ => XS.iand X0.here hx rfl (hb hby d1_9) rfl) ?_
  show Fin p e below s _ _ _ (s₁.setTop (mkF m 10 #[.val (.ref a1), .val (.int p2), .val (.int p3), .val (.int p2), .val (.int p3)] [(.int (p3 &&& (-128 : Int32)))]))
  refine Fin.step (fun _ => XS.ifNo X0.here hx rfl (hb hby d1_10) rfl ((if0 _ _).trans (feq (hv0 : ¬ ((p3 &&& (-128 : Int32)) = (0 : Int32)))).1)) ?_
  show Fin p e below s _ _ _ (s₁.setTop (mkF m 13 #[.val (.ref a1), .val (.int p2), .val (.int p3), .val (.int p2), .val (.int p3)] []))
  refine Fin.step (fun _ => XS.aloadN X0.here hx rfl (hb hby d1_13) rfl rfl) ?_
  show Fin p e below s _ _ _ (s₁.setTop (mkF m 14 #[.val (.ref a1), .val (.int p2), .val (.int p3), .val (.int p2), .val (.int p3)] [(.ref a1)]))
  refine Fin.step (fun _ => XS.iloadN X0.here hx rfl (hb hby d1_14) rfl) ?_
  show Fin p e below s _ _ _ (s₁.setTop (mkF m 15 #[.val (.ref a1), .val (.int p2), .val (.int p3), .val (.int p2), .val (.int p3)] [(.int p2), (.ref a1)]))
  refine Fin.step (fun _ => XS.iinc X0.here hx rfl (hb hby d1_15) rfl (l' := #[.val (.ref a1), .val (.int p2), .val (.int p3), .val (.int (p2 + (1 : Int32))), .val (.int p3)]) rfl) ?_
  show Fin p e below s _ _ _ (s₁.setTop (mkF m 18 #[.val (.ref a1), .val (.int p2), .val (.int p3), .val (.int (p2 + (1 : Int32))), .val (.int p3)] [(.int p2), (.ref a1)]))
  refine Fin.step (fun _ => XS.iload X0.here hx rfl (hb hby d1_18) rfl) ?_
  show Fin p e below s _ _ _ (s₁.setTop (mkF m 20 #[.val (.ref a1), .val (.int p2), .val (.int p3), .val (.int (p2 + (1 : Int32))), .val (.int p3)] [(.int p3), (.int p2), (.ref a1)]))
  refine Fin.step (fun _ => XS.bipush X0.here hx rfl (hb hby d1_20)) ?_
  show Fin p e below s _ _ _ (s₁.setTop (mkF m 22 #[.val (.ref a1), .val (.int p2), .val (.int p3), .val (.int (p2 + (1 : Int32))), .val (.int p3)] [(.int (127 : Int32)), (.int p3), (.int p2), (.ref a1)]))
  refine Fin.step (fun _ => XS.iand X0.here hx rfl (hb hby d1_22) rfl) ?_
  show Fin p e below s _ _ _ (s₁.setTop (mkF m 23 #[.val (.ref a1), .val (.int p2), .val (.int p3), .val (.int (p2 + (1 : Int32))), .val (.int p3)] [(.int (p3 &&& (127 : Int32))), (.int p2), (.ref a1)]))
  refine Fin.step (fun _ => XS.sipush X0.here hx rfl (hb hby d1_23)) ?_
  show Fin p e below s _ _ _ (s₁.setTop (mkF m 26 #[.val (.ref a1), .val (.int p2), .val (.int p3), .val (.int (p2 + (1 : Int32))), .val (.int p3)] [(.int (128 : Int32)), (.int (p3 &&& (127 : Int32))), (.int p2), (.ref a1)]))
  refine Fin.step (fun _ => XS.ior X0.here hx rfl (hb hby d1_26) rfl) ?_
  show Fin p e below s _ _ _ (s₁.setTop (mkF m 27 #[.val (.ref a1), .val (.int p2), .val (.int p3), .val (.int (p2 + (1 : Int32))), .val (.int p3)] [(.int ((p3 &&& (127 : Int32)) ||| (128 : Int32))), (.int p2), (.ref a1)]))
  refine Fin.step (fun _ => XS.i2b X0.here hx rfl (hb hby d1_27) rfl) ?_
  show Fin p e below s _ _ _ (s₁.setTop (mkF m 28 #[.val (.ref a1), .val (.int p2), .val (.int p3), .val (.int (p2 + (1 : Int32))), .val (.int p3)] [(.int (((p3 &&& (127 : Int32)) ||| (128 : Int32)).toInt8.toInt32)), (.int p2), (.ref a1)]))
  have voy1 := HV_a1
  obtain ⟨cly1, Ary1, qay1, say1, nay1, hay1, gay1⟩ := voy1
  obtain ⟨Ty1, hy1, Xy1, ey1, Wy1, sty1⟩ := stB X0 hx hZ e0 Ary1 (j := p2) (inb_of say1 S0.1) (g := (mkF m 28 #[.val (.ref a1), .val (.int p2), .val (.int p3), .val (.int (p2 + (1 : Int32))), .val (.int p3)] [(.int (((p3 &&& (127 : Int32)) ||| (128 : Int32)).toInt8.toInt32)), (.int p2), (.ref a1)])) rfl rfl (hb hby d1_28)
  have Vy1 : Arv Z hy1 a1 k1 .byte (13 : Int32) (List.set L0 p2.toNatClampNeg (own_by p3)) (.int (0 : Int32)) := Arv.set Ary1 qay1 say1 nay1 hay1 gay1 (fits_nar_byte _) Wy1 p2.toNatClampNeg J0 (by first | (simp only [List.length_set]; omega) | omega)
  have Zy1 : n0 ≤ hy1.size := Nat.le_trans Z0 (Keep.of_wr Wy1).1
  have Ky1 : Keep h0 hy1 [a1] := K0.wr Wy1 (Or.inl (List.mem_of_getElem? (i := 0) rfl))
  have Ny1 := Fr.snoc Xy1 N0 g_a1
  refine Fin.step (sty1) ?_
  show Fin p e below s _ _ _ (Ty1.setTop (mkF m 29 #[.val (.ref a1), .val (.int p2), .val (.int p3), .val (.int (p2 + (1 : Int32))), .val (.int p3)] []))
  refine Fin.step (fun _ => XS.iload Xy1.here hx rfl (hb hby d1_29) rfl) ?_
  show Fin p e below s _ _ _ (Ty1.setTop (mkF m 31 #[.val (.ref a1), .val (.int p2), .val (.int p3), .val (.int (p2 + (1 : Int32))), .val (.int p3)] [(.int p3)]))
  refine Fin.step (fun _ => XS.bipush Xy1.here hx rfl (hb hby d1_31)) ?_
  show Fin p e below s _ _ _ (Ty1.setTop (mkF m 33 #[.val (.ref a1), .val (.int p2), .val (.int p3), .val (.int (p2 + (1 : Int32))), .val (.int p3)] [(.int (7 : Int32)), (.int p3)]))
  refine Fin.step (fun _ => XS.iushr Xy1.here hx rfl (hb hby d1_33) rfl) ?_
  show Fin p e below s _ _ _ (Ty1.setTop (mkF m 34 #[.val (.ref a1), .val (.int p2), .val (.int p3), .val (.int (p2 + (1 : Int32))), .val (.int p3)] [(.int (ushI p3 (7 : Int32)))]))
  refine Fin.step (fun _ => XS.istore Xy1.here hx rfl (hb hby d1_34) rfl (l' := #[.val (.ref a1), .val (.int p2), .val (.int p3), .val (.int (p2 + (1 : Int32))), .val (.int (ushI p3 (7 : Int32)))]) rfl) ?_
  show Fin p e below s _ _ _ (Ty1.setTop (mkF m 36 #[.val (.ref a1), .val (.int p2), .val (.int p3), .val (.int (p2 + (1 : Int32))), .val (.int (ushI p3 (7 : Int32)))] []))
  refine Fin.step (fun _ => XS.goto Xy1.here hx rfl (pc0 := 36) (pc' := 5) rfl (hb hby d1_36) (by decide) (by decide)) ?_
  show Fin p e below s _ _ _ (Ty1.setTop (mkF m 5 #[.val (.ref a1), .val (.int p2), .val (.int p3), .val (.int (p2 + (1 : Int32))), .val (.int (ushI p3 (7 : Int32)))] []))
  have S1 := own_st (p2 + (1 : Int32)) 8 S0.2.1 (by decide)
  have J1 : ((p2 + (1 : Int32))).toNatClampNeg = (p2.toNatClampNeg + 1) := S0.2.2.trans (congrArg (· + 1) J0)
  refine Fin.step (fun _ => XS.iload Xy1.here hx rfl (hb hby d1_5) rfl) ?_
  show Fin p e below s _ _ _ (Ty1.setTop (mkF m 7 #[.val (.ref a1), .val (.int p2), .val (.int p3), .val (.int (p2 + (1 : Int32))), .val (.int (ushI p3 (7 : Int32)))] [(.int (ushI p3 (7 : Int32)))]))
  refine Fin.step (fun _ => XS.bipush Xy1.here hx rfl (hb hby d1_7)) ?_
  show Fin p e below s _ _ _ (Ty1.setTop (mkF m 9 #[.val (.ref a1), .val (.int p2), .val (.int p3), .val (.int (p2 + (1 : Int32))), .val (.int (ushI p3 (7 : Int32)))] [(.int (-128 : Int32)), (.int (ushI p3 (7 : Int32)))]))
  refine Fin.step (fun _ => XS.iand Xy1.here hx rfl (hb hby d1_9) rfl) ?_
  show Fin p e below s _ _ _ (Ty1.setTop (mkF m 10 #[.val (.ref a1), .val (.int p2), .val (.int p3), .val (.int (p2 + (1 : Int32))), .val (.int (ushI p3 (7 : Int32)))] [(.int ((ushI p3 (7 : Int32)) &&& (-128 : Int32)))]))
  refine Fin.step (fun _ => XS.ifNo Xy1.here hx rfl (hb hby d1_10) rfl ((if0 _ _).trans (feq (hv1 : ¬ (((ushI p3 (7 : Int32)) &&& (-128 : Int32)) = (0 : Int32)))).1)) ?_
  show Fin p e below s _ _ _ (Ty1.setTop (mkF m 13 #[.val (.ref a1), .val (.int p2), .val (.int p3), .val (.int (p2 + (1 : Int32))), .val (.int (ushI p3 (7 : Int32)))] []))
  refine Fin.step (fun _ => XS.aloadN Xy1.here hx rfl (hb hby d1_13) rfl rfl) ?_
  show Fin p e below s _ _ _ (Ty1.setTop (mkF m 14 #[.val (.ref a1), .val (.int p2), .val (.int p3), .val (.int (p2 + (1 : Int32))), .val (.int (ushI p3 (7 : Int32)))] [(.ref a1)]))
  refine Fin.step (fun _ => XS.iloadN Xy1.here hx rfl (hb hby d1_14) rfl) ?_
  show Fin p e below s _ _ _ (Ty1.setTop (mkF m 15 #[.val (.ref a1), .val (.int p2), .val (.int p3), .val (.int (p2 + (1 : Int32))), .val (.int (ushI p3 (7 : Int32)))] [(.int (p2 + (1 : Int32))), (.ref a1)]))
  refine Fin.step (fun _ => XS.iinc Xy1.here hx rfl (hb hby d1_15) rfl (l' := #[.val (.ref a1), .val (.int p2), .val (.int p3), .val (.int ((p2 + (1 : Int32)) + (1 : Int32))), .val (.int (ushI p3 (7 : Int32)))]) rfl) ?_
  show Fin p e below s _ _ _ (Ty1.setTop (mkF m 18 #[.val (.ref a1), .val (.int p2), .val (.int p3), .val (.int ((p2 + (1 : Int32)) + (1 : Int32))), .val (.int (ushI p3 (7 : Int32)))] [(.int (p2 + (1 : Int32))), (.ref a1)]))
  refine Fin.step (fun _ => XS.iload Xy1.here hx rfl (hb hby d1_18) rfl) ?_
  show Fin p e below s _ _ _ (Ty1.setTop (mkF m 20 #[.val (.ref a1), .val (.int p2), .val (.int p3), .val (.int ((p2 + (1 : Int32)) + (1 : Int32))), .val (.int (ushI p3 (7 : Int32)))] [(.int (ushI p3 (7 : Int32))), (.int (p2 + (1 : Int32))), (.ref a1)]))
  refine Fin.step (fun _ => XS.bipush Xy1.here hx rfl (hb hby d1_20)) ?_
  show Fin p e below s _ _ _ (Ty1.setTop (mkF m 22 #[.val (.ref a1), .val (.int p2), .val (.int p3), .val (.int ((p2 + (1 : Int32)) + (1 : Int32))), .val (.int (ushI p3 (7 : Int32)))] [(.int (127 : Int32)), (.int (ushI p3 (7 : Int32))), (.int (p2 + (1 : Int32))), (.ref a1)]))
  refine Fin.step (fun _ => XS.iand Xy1.here hx rfl (hb hby d1_22) rfl) ?_
  show Fin p e below s _ _ _ (Ty1.setTop (mkF m 23 #[.val (.ref a1), .val (.int p2), .val (.int p3), .val (.int ((p2 + (1 : Int32)) + (1 : Int32))), .val (.int (ushI p3 (7 : Int32)))] [(.int ((ushI p3 (7 : Int32)) &&& (127 : Int32))), (.int (p2 + (1 : Int32))), (.ref a1)]))
  refine Fin.step (fun _ => XS.sipush Xy1.here hx rfl (hb hby d1_23)) ?_
  show Fin p e below s _ _ _ (Ty1.setTop (mkF m 26 #[.val (.ref a1), .val (.int p2), .val (.int p3), .val (.int ((p2 + (1 : Int32)) + (1 : Int32))), .val (.int (ushI p3 (7 : Int32)))] [(.int (128 : Int32)), (.int ((ushI p3 (7 : Int32)) &&& (127 : Int32))), (.int (p2 + (1 : Int32))), (.ref a1)]))
  refine Fin.step (fun _ => XS.ior Xy1.here hx rfl (hb hby d1_26) rfl) ?_
  show Fin p e below s _ _ _ (Ty1.setTop (mkF m 27 #[.val (.ref a1), .val (.int p2), .val (.int p3), .val (.int ((p2 + (1 : Int32)) + (1 : Int32))), .val (.int (ushI p3 (7 : Int32)))] [(.int (((ushI p3 (7 : Int32)) &&& (127 : Int32)) ||| (128 : Int32))), (.int (p2 + (1 : Int32))), (.ref a1)]))
  refine Fin.step (fun _ => XS.i2b Xy1.here hx rfl (hb hby d1_27) rfl) ?_
  show Fin p e below s _ _ _ (Ty1.setTop (mkF m 28 #[.val (.ref a1), .val (.int p2), .val (.int p3), .val (.int ((p2 + (1 : Int32)) + (1 : Int32))), .val (.int (ushI p3 (7 : Int32)))] [(.int ((((ushI p3 (7 : Int32)) &&& (127 : Int32)) ||| (128 : Int32)).toInt8.toInt32)), (.int (p2 + (1 : Int32))), (.ref a1)]))
  have voy2 := Vy1
  obtain ⟨cly2, Ary2, qay2, say2, nay2, hay2, gay2⟩ := voy2
  obtain ⟨Ty2, hy2, Xy2, ey2, Wy2, sty2⟩ := stB Xy1 hx hZ ey1 Ary2 (j := (p2 + (1 : Int32))) (inb_of say2 S1.1) (g := (mkF m 28 #[.val (.ref a1), .val (.int p2), .val (.int p3), .val (.int ((p2 + (1 : Int32)) + (1 : Int32))), .val (.int (ushI p3 (7 : Int32)))] [(.int ((((ushI p3 (7 : Int32)) &&& (127 : Int32)) ||| (128 : Int32)).toInt8.toInt32)), (.int (p2 + (1 : Int32))), (.ref a1)])) rfl rfl (hb hby d1_28)
  have Vy2 : Arv Z hy2 a1 k1 .byte (13 : Int32) (List.set (List.set L0 p2.toNatClampNeg (own_by p3)) (p2.toNatClampNeg + 1) (own_by (ushI p3 (7 : Int32)))) (.int (0 : Int32)) := Arv.set Ary2 qay2 say2 nay2 hay2 gay2 (fits_nar_byte _) Wy2 (p2.toNatClampNeg + 1) J1 (by first | (simp only [List.length_set]; omega) | omega)
  have Zy2 : n0 ≤ hy2.size := Nat.le_trans Zy1 (Keep.of_wr Wy2).1
  have Ky2 : Keep h0 hy2 [a1] := Ky1.wr Wy2 (Or.inl (List.mem_of_getElem? (i := 0) rfl))
  have Ny2 := Fr.snoc Xy2 Ny1 g_a1
  refine Fin.step (sty2) ?_
  show Fin p e below s _ _ _ (Ty2.setTop (mkF m 29 #[.val (.ref a1), .val (.int p2), .val (.int p3), .val (.int ((p2 + (1 : Int32)) + (1 : Int32))), .val (.int (ushI p3 (7 : Int32)))] []))
  refine Fin.step (fun _ => XS.iload Xy2.here hx rfl (hb hby d1_29) rfl) ?_
  show Fin p e below s _ _ _ (Ty2.setTop (mkF m 31 #[.val (.ref a1), .val (.int p2), .val (.int p3), .val (.int ((p2 + (1 : Int32)) + (1 : Int32))), .val (.int (ushI p3 (7 : Int32)))] [(.int (ushI p3 (7 : Int32)))]))
  refine Fin.step (fun _ => XS.bipush Xy2.here hx rfl (hb hby d1_31)) ?_
  show Fin p e below s _ _ _ (Ty2.setTop (mkF m 33 #[.val (.ref a1), .val (.int p2), .val (.int p3), .val (.int ((p2 + (1 : Int32)) + (1 : Int32))), .val (.int (ushI p3 (7 : Int32)))] [(.int (7 : Int32)), (.int (ushI p3 (7 : Int32)))]))
  refine Fin.step (fun _ => XS.iushr Xy2.here hx rfl (hb hby d1_33) rfl) ?_
  show Fin p e below s _ _ _ (Ty2.setTop (mkF m 34 #[.val (.ref a1), .val (.int p2), .val (.int p3), .val (.int ((p2 + (1 : Int32)) + (1 : Int32))), .val (.int (ushI p3 (7 : Int32)))] [(.int (ushI (ushI p3 (7 : Int32)) (7 : Int32)))]))
  refine Fin.step (fun _ => XS.istore Xy2.here hx rfl (hb hby d1_34) rfl (l' := #[.val (.ref a1), .val (.int p2), .val (.int p3), .val (.int ((p2 + (1 : Int32)) + (1 : Int32))), .val (.int (ushI (ushI p3 (7 : Int32)) (7 : Int32)))]) rfl) ?_
  show Fin p e below s _ _ _ (Ty2.setTop (mkF m 36 #[.val (.ref a1), .val (.int p2), .val (.int p3), .val (.int ((p2 + (1 : Int32)) + (1 : Int32))), .val (.int (ushI (ushI p3 (7 : Int32)) (7 : Int32)))] []))
  refine Fin.step (fun _ => XS.goto Xy2.here hx rfl (pc0 := 36) (pc' := 5) rfl (hb hby d1_36) (by decide) (by decide)) ?_
  show Fin p e below s _ _ _ (Ty2.setTop (mkF m 5 #[.val (.ref a1), .val (.int p2), .val (.int p3), .val (.int ((p2 + (1 : Int32)) + (1 : Int32))), .val (.int (ushI (ushI p3 (7 : Int32)) (7 : Int32)))] []))
  have S2 := own_st ((p2 + (1 : Int32)) + (1 : Int32)) 9 S1.2.1 (by decide)
  have J2 : (((p2 + (1 : Int32)) + (1 : Int32))).toNatClampNeg = ((p2.toNatClampNeg + 1) + 1) := S1.2.2.trans (congrArg (· + 1) J1)
  refine Fin.step (fun _ => XS.iload Xy2.here hx rfl (hb hby d1_5) rfl) ?_
  show Fin p e below s _ _ _ (Ty2.setTop (mkF m 7 #[.val (.ref a1), .val (.int p2), .val (.int p3), .val (.int ((p2 + (1 : Int32)) + (1 : Int32))), .val (.int (ushI (ushI p3 (7 : Int32)) (7 : Int32)))] [(.int (ushI (ushI p3 (7 : Int32)) (7 : Int32)))]))
  refine Fin.step (fun _ => XS.bipush Xy2.here hx rfl (hb hby d1_7)) ?_
  show Fin p e below s _ _ _ (Ty2.setTop (mkF m 9 #[.val (.ref a1), .val (.int p2), .val (.int p3), .val (.int ((p2 + (1 : Int32)) + (1 : Int32))), .val (.int (ushI (ushI p3 (7 : Int32)) (7 : Int32)))] [(.int (-128 : Int32)), (.int (ushI (ushI p3 (7 : Int32)) (7 : Int32)))]))
  refine Fin.step (fun _ => XS.iand Xy2.here hx rfl (hb hby d1_9) rfl) ?_
  show Fin p e below s _ _ _ (Ty2.setTop (mkF m 10 #[.val (.ref a1), .val (.int p2), .val (.int p3), .val (.int ((p2 + (1 : Int32)) + (1 : Int32))), .val (.int (ushI (ushI p3 (7 : Int32)) (7 : Int32)))] [(.int ((ushI (ushI p3 (7 : Int32)) (7 : Int32)) &&& (-128 : Int32)))]))
  refine Fin.step (fun _ => XS.ifYes Xy2.here hx rfl (pc0 := 10) (pc' := 39) rfl (hb hby d1_10) rfl ((if0 _ _).trans (teq (hv2 : (((ushI (ushI p3 (7 : Int32)) (7 : Int32)) &&& (-128 : Int32)) = (0 : Int32)))).1) (by decide) (by decide)) ?_
  show Fin p e below s _ _ _ (Ty2.setTop (mkF m 39 #[.val (.ref a1), .val (.int p2), .val (.int p3), .val (.int ((p2 + (1 : Int32)) + (1 : Int32))), .val (.int (ushI (ushI p3 (7 : Int32)) (7 : Int32)))] []))
  refine Fin.step (fun _ => XS.aloadN Xy2.here hx rfl (hb hby d1_39) rfl rfl) ?_
  show Fin p e below s _ _ _ (Ty2.setTop (mkF m 40 #[.val (.ref a1), .val (.int p2), .val (.int p3), .val (.int ((p2 + (1 : Int32)) + (1 : Int32))), .val (.int (ushI (ushI p3 (7 : Int32)) (7 : Int32)))] [(.ref a1)]))
  refine Fin.step (fun _ => XS.iloadN Xy2.here hx rfl (hb hby d1_40) rfl) ?_
  show Fin p e below s _ _ _ (Ty2.setTop (mkF m 41 #[.val (.ref a1), .val (.int p2), .val (.int p3), .val (.int ((p2 + (1 : Int32)) + (1 : Int32))), .val (.int (ushI (ushI p3 (7 : Int32)) (7 : Int32)))] [(.int ((p2 + (1 : Int32)) + (1 : Int32))), (.ref a1)]))
  refine Fin.step (fun _ => XS.iinc Xy2.here hx rfl (hb hby d1_41) rfl (l' := #[.val (.ref a1), .val (.int p2), .val (.int p3), .val (.int (((p2 + (1 : Int32)) + (1 : Int32)) + (1 : Int32))), .val (.int (ushI (ushI p3 (7 : Int32)) (7 : Int32)))]) rfl) ?_
  show Fin p e below s _ _ _ (Ty2.setTop (mkF m 44 #[.val (.ref a1), .val (.int p2), .val (.int p3), .val (.int (((p2 + (1 : Int32)) + (1 : Int32)) + (1 : Int32))), .val (.int (ushI (ushI p3 (7 : Int32)) (7 : Int32)))] [(.int ((p2 + (1 : Int32)) + (1 : Int32))), (.ref a1)]))
  refine Fin.step (fun _ => XS.iload Xy2.here hx rfl (hb hby d1_44) rfl) ?_
  show Fin p e below s _ _ _ (Ty2.setTop (mkF m 46 #[.val (.ref a1), .val (.int p2), .val (.int p3), .val (.int (((p2 + (1 : Int32)) + (1 : Int32)) + (1 : Int32))), .val (.int (ushI (ushI p3 (7 : Int32)) (7 : Int32)))] [(.int (ushI (ushI p3 (7 : Int32)) (7 : Int32))), (.int ((p2 + (1 : Int32)) + (1 : Int32))), (.ref a1)]))
  refine Fin.step (fun _ => XS.i2b Xy2.here hx rfl (hb hby d1_46) rfl) ?_
  show Fin p e below s _ _ _ (Ty2.setTop (mkF m 47 #[.val (.ref a1), .val (.int p2), .val (.int p3), .val (.int (((p2 + (1 : Int32)) + (1 : Int32)) + (1 : Int32))), .val (.int (ushI (ushI p3 (7 : Int32)) (7 : Int32)))] [(.int ((ushI (ushI p3 (7 : Int32)) (7 : Int32)).toInt8.toInt32)), (.int ((p2 + (1 : Int32)) + (1 : Int32))), (.ref a1)]))
  have voy3 := Vy2
  obtain ⟨cly3, Ary3, qay3, say3, nay3, hay3, gay3⟩ := voy3
  obtain ⟨Ty3, hy3, Xy3, ey3, Wy3, sty3⟩ := stB Xy2 hx hZ ey2 Ary3 (j := ((p2 + (1 : Int32)) + (1 : Int32))) (inb_of say3 S2.1) (g := (mkF m 47 #[.val (.ref a1), .val (.int p2), .val (.int p3), .val (.int (((p2 + (1 : Int32)) + (1 : Int32)) + (1 : Int32))), .val (.int (ushI (ushI p3 (7 : Int32)) (7 : Int32)))] [(.int ((ushI (ushI p3 (7 : Int32)) (7 : Int32)).toInt8.toInt32)), (.int ((p2 + (1 : Int32)) + (1 : Int32))), (.ref a1)])) rfl rfl (hb hby d1_47)
  have Vy3 : Arv Z hy3 a1 k1 .byte (13 : Int32) (List.set (List.set (List.set L0 p2.toNatClampNeg (own_by p3)) (p2.toNatClampNeg + 1) (own_by (ushI p3 (7 : Int32)))) ((p2.toNatClampNeg + 1) + 1) (own_la (ushI (ushI p3 (7 : Int32)) (7 : Int32)))) (.int (0 : Int32)) := Arv.set Ary3 qay3 say3 nay3 hay3 gay3 (fits_nar_byte _) Wy3 ((p2.toNatClampNeg + 1) + 1) J2 (by first | (simp only [List.length_set]; omega) | omega)
  have Zy3 : n0 ≤ hy3.size := Nat.le_trans Zy2 (Keep.of_wr Wy3).1
  have Ky3 : Keep h0 hy3 [a1] := Ky2.wr Wy3 (Or.inl (List.mem_of_getElem? (i := 0) rfl))
  have Ny3 := Fr.snoc Xy3 Ny2 g_a1
  refine Fin.step (sty3) ?_
  show Fin p e below s _ _ _ (Ty3.setTop (mkF m 48 #[.val (.ref a1), .val (.int p2), .val (.int p3), .val (.int (((p2 + (1 : Int32)) + (1 : Int32)) + (1 : Int32))), .val (.int (ushI (ushI p3 (7 : Int32)) (7 : Int32)))] []))
  refine Fin.step (fun _ => XS.iloadN Xy3.here hx rfl (hb hby d1_48) rfl) ?_
  show Fin p e below s _ _ _ (Ty3.setTop (mkF m 49 #[.val (.ref a1), .val (.int p2), .val (.int p3), .val (.int (((p2 + (1 : Int32)) + (1 : Int32)) + (1 : Int32))), .val (.int (ushI (ushI p3 (7 : Int32)) (7 : Int32)))] [(.int (((p2 + (1 : Int32)) + (1 : Int32)) + (1 : Int32)))]))
  refine Fin.retI Xy3 hx hret hlk (hb hby d1_49) (by decide) (by decide) ?_
  show Qv3 Z a1 p2 p3 k1 L0 h0 n0 _ Ty3.heap _
  rw [ey3]
  exact ⟨rfl, Ny3, Ky3, Vy3⟩
theorem ef_rmv4 (m : MethodId) (x0 : Addr) (x1 : Int32) (x2 : Int32) : entryFrame m #[(.ref x0), (.int x1), (.int x2)] 5 = mkF m 0 #[.val (.ref x0), .val (.int x1), .val (.int x2), .unset, .unset] [] := by first | (simp [entryFrame, mkF, argsToLocals, Value.category]; done) | rfl
def Qv4 (Z : State) (a1 : Addr) (p2 : Int32) (p3 : Int32) (k1 : ClassId) (L0 : List Value) (h0 : Heap) (n0 : Nat) (v : Option Value) (h : Heap) (L : List Loc) : Prop := v = some (.int ((((p2 + (1 : Int32)) + (1 : Int32)) + (1 : Int32)) + (1 : Int32))) ∧ Fr n0 L ∧ Keep h0 h [a1] ∧ Arv Z h a1 k1 .byte (13 : Int32) (own_put 3 L0 p2.toNatClampNeg p3) (.int (0 : Int32))
set_option maxRecDepth 65536 in
set_option maxHeartbeats 40000000 in
theorem rmv4 (l : Launch) (Z : State) (a0 : Array Value) (hw : ∀ d ∈ tables_1, d.before a0 Z = true) (ws : List Jvm.Cond) (a1 : Addr) (p2 : Int32) (p3 : Int32) (k1 : ClassId) (L0 : List Value) (h0 : Heap) (n0 : Nat) (Z0 : n0 ≤ h0.size) (HV_a1 : Arv Z h0 a1 k1 .byte (13 : Int32) L0 (.int (0 : Int32))) (g_a1 : n0 ≤ a1) (hL : L0.length = 13) (ho : 0 ≤ p2.toInt ∧ p2.toInt ≤ 7) (hv0 : ¬ (p3 &&& (-128 : Int32)) = 0) (hv1 : ¬ ((ushI p3 (7 : Int32)) &&& (-128 : Int32)) = 0) (hv2 : ¬ ((ushI (ushI p3 (7 : Int32)) (7 : Int32)) &&& (-128 : Int32)) = 0) (hv3 : ((ushI (ushI (ushI p3 (7 : Int32)) (7 : Int32)) (7 : Int32)) &&& (-128 : Int32)) = 0) :
    MetFree l (⟨"com/example/indexterity/indexterity/index/IndexFormat", "putVarInt", "([BII)I"⟩ : MethodName) (head1 (Jvm.Cond.code (⟨"com/example/indexterity/indexterity/index/IndexFormat", "putVarInt", "([BII)I"⟩ : MethodName) prog_37_method_4_code 5 (some .int) :: ws) ({ frames := 0, cells := 0, slots := 0, locals := 0 } : Room)) (fun a U => a = #[(.ref a1), (.int p2), (.int p3)] ∧ Z.Warmed39 U.vm ∧ U.heap = h0) (fun _ _ _ _ _ => True) (fun _ U o U' => ∃ v L, o = .returned v ∧ Qv4 Z a1 p2 p3 k1 L0 h0 n0 v U'.heap L ∧ FrameEnd U o U' L ({ frames := 0, cells := 0, slots := 0, locals := 0 } : Room).cells ({ frames := 0, cells := 0, slots := 0, locals := 0 } : Room).slots) := by
  refine MetFree.of_bodySF (plainFor_of_name pn_1) hisR ?_
  intro p e s m args below meth c s₁ Bd hml0 hP hK
  obtain ⟨rfl, hZ, hh⟩ := hP
  have hx := Bd.exec
  have hby := Bd.bytes
  have hlk := BodyLoose.notSynchronized Bd
  have hret := Bd.returns
  have hml : c.maxLocals = 5 := hml0
  have hown : s.vm.findClass "com/example/indexterity/indexterity/index/IndexFormat" = some m.cls := findClass_of_methodNamed Bd.named
  have hnm := (name_of_methodNamed Bd.named Bd.method).1
  have X0 : Stand p l e ({ frames := 0, cells := 0, slots := 0, locals := 0 } : Room) s m #[(.ref a1), (.int p2), (.int p3)] below meth c s₁ [] 0 0 := Stand.of_body Bd
  have e0 : s₁.heap = h0 := by rw [← hh, Bd.state]; rfl
  have N0 := Fr.nil n0
  have K0 : Keep h0 h0 [a1] := Keep.refl h0 _
  refine Fin.step (Q := fun v h L => Qv4 Z a1 p2 p3 k1 L0 h0 n0 v h L) (st' := s₁.setTop (mkF m 0 #[.val (.ref a1), .val (.int p2), .val (.int p3), .unset, .unset] [])) (fun t k => castTop (ef_rmv4 m a1 p2 p3) k) ?_
  show Fin p e below s _ _ _ (s₁.setTop (mkF m 0 #[.val (.ref a1), .val (.int p2), .val (.int p3), .unset, .unset] []))
  refine Fin.step (fun _ => XS.iloadN X0.here hx rfl (hb hby d1_0) rfl) ?_
  show Fin p e below s _ _ _ (s₁.setTop (mkF m 1 #[.val (.ref a1), .val (.int p2), .val (.int p3), .unset, .unset] [(.int p2)]))
  refine Fin.step (fun _ => XS.istoreN X0.here hx rfl (hb hby d1_1) rfl (l' := #[.val (.ref a1), .val (.int p2), .val (.int p3), .val (.int p2), .unset]) rfl) ?_
  show Fin p e below s _ _ _ (s₁.setTop (mkF m 2 #[.val (.ref a1), .val (.int p2), .val (.int p3), .val (.int p2), .unset] []))
  refine Fin.step (fun _ => XS.iloadN X0.here hx rfl (hb hby d1_2) rfl) ?_
  show Fin p e below s _ _ _ (s₁.setTop (mkF m 3 #[.val (.ref a1), .val (.int p2), .val (.int p3), .val (.int p2), .unset] [(.int p3)]))
  refine Fin.step (fun _ => XS.istore X0.here hx rfl (hb hby d1_3) rfl (l' := #[.val (.ref a1), .val (.int p2), .val (.int p3), .val (.int p2), .val (.int p3)]) rfl) ?_
  show Fin p e below s _ _ _ (s₁.setTop (mkF m 5 #[.val (.ref a1), .val (.int p2), .val (.int p3), .val (.int p2), .val (.int p3)] []))
  have hO := own_nat ho
  have S0 := own_st p2 7 ho (by decide)
  have J0 : p2.toNatClampNeg = p2.toNatClampNeg := rfl
  refine Fin.step (fun _ => XS.iload X0.here hx rfl (hb hby d1_5) rfl) ?_
  show Fin p e below s _ _ _ (s₁.setTop (mkF m 7 #[.val (.ref a1), .val (.int p2), .val (.int p3), .val (.int p2), .val (.int p3)] [(.int p3)]))
  refine Fin.step (fun _ => XS.bipush X0.here hx rfl (hb hby d1_7)) ?_
  show Fin p e below s _ _ _ (s₁.setTop (mkF m 9 #[.val (.ref a1), .val (.int p2), .val (.int p3), .val (.int p2), .val (.int p3)] [(.int (-128 : Int32)), (.int p3)]))
  refine Fin.step (fun _ => XS.iand X0.here hx rfl (hb hby d1_9) rfl) ?_
  show Fin p e below s _ _ _ (s₁.setTop (mkF m 10 #[.val (.ref a1), .val (.int p2), .val (.int p3), .val (.int p2), .val (.int p3)] [(.int (p3 &&& (-128 : Int32)))]))
  refine Fin.step (fun _ => XS.ifNo X0.here hx rfl (hb hby d1_10) rfl ((if0 _ _).trans (feq (hv0 : ¬ ((p3 &&& (-128 : Int32)) = (0 : Int32)))).1)) ?_
  show Fin p e below s _ _ _ (s₁.setTop (mkF m 13 #[.val (.ref a1), .val (.int p2), .val (.int p3), .val (.int p2), .val (.int p3)] []))
  refine Fin.step (fun _ => XS.aloadN X0.here hx rfl (hb hby d1_13) rfl rfl) ?_
  show Fin p e below s _ _ _ (s₁.setTop (mkF m 14 #[.val (.ref a1), .val (.int p2), .val (.int p3), .val (.int p2), .val (.int p3)] [(.ref a1)]))
  refine Fin.step (fun _ => XS.iloadN X0.here hx rfl (hb hby d1_14) rfl) ?_
  show Fin p e below s _ _ _ (s₁.setTop (mkF m 15 #[.val (.ref a1), .val (.int p2), .val (.int p3), .val (.int p2), .val (.int p3)] [(.int p2), (.ref a1)]))
  refine Fin.step (fun _ => XS.iinc X0.here hx rfl (hb hby d1_15) rfl (l' := #[.val (.ref a1), .val (.int p2), .val (.int p3), .val (.int (p2 + (1 : Int32))), .val (.int p3)]) rfl) ?_
  show Fin p e below s _ _ _ (s₁.setTop (mkF m 18 #[.val (.ref a1), .val (.int p2), .val (.int p3), .val (.int (p2 + (1 : Int32))), .val (.int p3)] [(.int p2), (.ref a1)]))
  refine Fin.step (fun _ => XS.iload X0.here hx rfl (hb hby d1_18) rfl) ?_
  show Fin p e below s _ _ _ (s₁.setTop (mkF m 20 #[.val (.ref a1), .val (.int p2), .val (.int p3), .val (.int (p2 + (1 : Int32))), .val (.int p3)] [(.int p3), (.int p2), (.ref a1)]))
  refine Fin.step (fun _ => XS.bipush X0.here hx rfl (hb hby d1_20)) ?_
  show Fin p e below s _ _ _ (s₁.setTop (mkF m 22 #[.val (.ref a1), .val (.int p2), .val (.int p3), .val (.int (p2 + (1 : Int32))), .val (.int p3)] [(.int (127 : Int32)), (.int p3), (.int p2), (.ref a1)]))
  refine Fin.step (fun _ => XS.iand X0.here hx rfl (hb hby d1_22) rfl) ?_
  show Fin p e below s _ _ _ (s₁.setTop (mkF m 23 #[.val (.ref a1), .val (.int p2), .val (.int p3), .val (.int (p2 + (1 : Int32))), .val (.int p3)] [(.int (p3 &&& (127 : Int32))), (.int p2), (.ref a1)]))
  refine Fin.step (fun _ => XS.sipush X0.here hx rfl (hb hby d1_23)) ?_
  show Fin p e below s _ _ _ (s₁.setTop (mkF m 26 #[.val (.ref a1), .val (.int p2), .val (.int p3), .val (.int (p2 + (1 : Int32))), .val (.int p3)] [(.int (128 : Int32)), (.int (p3 &&& (127 : Int32))), (.int p2), (.ref a1)]))
  refine Fin.step (fun _ => XS.ior X0.here hx rfl (hb hby d1_26) rfl) ?_
  show Fin p e below s _ _ _ (s₁.setTop (mkF m 27 #[.val (.ref a1), .val (.int p2), .val (.int p3), .val (.int (p2 + (1 : Int32))), .val (.int p3)] [(.int ((p3 &&& (127 : Int32)) ||| (128 : Int32))), (.int p2), (.ref a1)]))
  refine Fin.step (fun _ => XS.i2b X0.here hx rfl (hb hby d1_27) rfl) ?_
  show Fin p e below s _ _ _ (s₁.setTop (mkF m 28 #[.val (.ref a1), .val (.int p2), .val (.int p3), .val (.int (p2 + (1 : Int32))), .val (.int p3)] [(.int (((p3 &&& (127 : Int32)) ||| (128 : Int32)).toInt8.toInt32)), (.int p2), (.ref a1)]))
  have voy1 := HV_a1
  obtain ⟨cly1, Ary1, qay1, say1, nay1, hay1, gay1⟩ := voy1
  obtain ⟨Ty1, hy1, Xy1, ey1, Wy1, sty1⟩ := stB X0 hx hZ e0 Ary1 (j := p2) (inb_of say1 S0.1) (g := (mkF m 28 #[.val (.ref a1), .val (.int p2), .val (.int p3), .val (.int (p2 + (1 : Int32))), .val (.int p3)] [(.int (((p3 &&& (127 : Int32)) ||| (128 : Int32)).toInt8.toInt32)), (.int p2), (.ref a1)])) rfl rfl (hb hby d1_28)
  have Vy1 : Arv Z hy1 a1 k1 .byte (13 : Int32) (List.set L0 p2.toNatClampNeg (own_by p3)) (.int (0 : Int32)) := Arv.set Ary1 qay1 say1 nay1 hay1 gay1 (fits_nar_byte _) Wy1 p2.toNatClampNeg J0 (by first | (simp only [List.length_set]; omega) | omega)
  have Zy1 : n0 ≤ hy1.size := Nat.le_trans Z0 (Keep.of_wr Wy1).1
  have Ky1 : Keep h0 hy1 [a1] := K0.wr Wy1 (Or.inl (List.mem_of_getElem? (i := 0) rfl))
  have Ny1 := Fr.snoc Xy1 N0 g_a1
  refine Fin.step (sty1) ?_
  show Fin p e below s _ _ _ (Ty1.setTop (mkF m 29 #[.val (.ref a1), .val (.int p2), .val (.int p3), .val (.int (p2 + (1 : Int32))), .val (.int p3)] []))
  refine Fin.step (fun _ => XS.iload Xy1.here hx rfl (hb hby d1_29) rfl) ?_
  show Fin p e below s _ _ _ (Ty1.setTop (mkF m 31 #[.val (.ref a1), .val (.int p2), .val (.int p3), .val (.int (p2 + (1 : Int32))), .val (.int p3)] [(.int p3)]))
  refine Fin.step (fun _ => XS.bipush Xy1.here hx rfl (hb hby d1_31)) ?_
  show Fin p e below s _ _ _ (Ty1.setTop (mkF m 33 #[.val (.ref a1), .val (.int p2), .val (.int p3), .val (.int (p2 + (1 : Int32))), .val (.int p3)] [(.int (7 : Int32)), (.int p3)]))
  refine Fin.step (fun _ => XS.iushr Xy1.here hx rfl (hb hby d1_33) rfl) ?_
  show Fin p e below s _ _ _ (Ty1.setTop (mkF m 34 #[.val (.ref a1), .val (.int p2), .val (.int p3), .val (.int (p2 + (1 : Int32))), .val (.int p3)] [(.int (ushI p3 (7 : Int32)))]))
  refine Fin.step (fun _ => XS.istore Xy1.here hx rfl (hb hby d1_34) rfl (l' := #[.val (.ref a1), .val (.int p2), .val (.int p3), .val (.int (p2 + (1 : Int32))), .val (.int (ushI p3 (7 : Int32)))]) rfl) ?_
  show Fin p e below s _ _ _ (Ty1.setTop (mkF m 36 #[.val (.ref a1), .val (.int p2), .val (.int p3), .val (.int (p2 + (1 : Int32))), .val (.int (ushI p3 (7 : Int32)))] []))
  refine Fin.step (fun _ => XS.goto Xy1.here hx rfl (pc0 := 36) (pc' := 5) rfl (hb hby d1_36) (by decide) (by decide)) ?_
  show Fin p e below s _ _ _ (Ty1.setTop (mkF m 5 #[.val (.ref a1), .val (.int p2), .val (.int p3), .val (.int (p2 + (1 : Int32))), .val (.int (ushI p3 (7 : Int32)))] []))
  have S1 := own_st (p2 + (1 : Int32)) 8 S0.2.1 (by decide)
  have J1 : ((p2 + (1 : Int32))).toNatClampNeg = (p2.toNatClampNeg + 1) := S0.2.2.trans (congrArg (· + 1) J0)
  refine Fin.step (fun _ => XS.iload Xy1.here hx rfl (hb hby d1_5) rfl) ?_
  show Fin p e below s _ _ _ (Ty1.setTop (mkF m 7 #[.val (.ref a1), .val (.int p2), .val (.int p3), .val (.int (p2 + (1 : Int32))), .val (.int (ushI p3 (7 : Int32)))] [(.int (ushI p3 (7 : Int32)))]))
  refine Fin.step (fun _ => XS.bipush Xy1.here hx rfl (hb hby d1_7)) ?_
  show Fin p e below s _ _ _ (Ty1.setTop (mkF m 9 #[.val (.ref a1), .val (.int p2), .val (.int p3), .val (.int (p2 + (1 : Int32))), .val (.int (ushI p3 (7 : Int32)))] [(.int (-128 : Int32)), (.int (ushI p3 (7 : Int32)))]))
  refine Fin.step (fun _ => XS.iand Xy1.here hx rfl (hb hby d1_9) rfl) ?_
  show Fin p e below s _ _ _ (Ty1.setTop (mkF m 10 #[.val (.ref a1), .val (.int p2), .val (.int p3), .val (.int (p2 + (1 : Int32))), .val (.int (ushI p3 (7 : Int32)))] [(.int ((ushI p3 (7 : Int32)) &&& (-128 : Int32)))]))
  refine Fin.step (fun _ => XS.ifNo Xy1.here hx rfl (hb hby d1_10) rfl ((if0 _ _).trans (feq (hv1 : ¬ (((ushI p3 (7 : Int32)) &&& (-128 : Int32)) = (0 : Int32)))).1)) ?_
  show Fin p e below s _ _ _ (Ty1.setTop (mkF m 13 #[.val (.ref a1), .val (.int p2), .val (.int p3), .val (.int (p2 + (1 : Int32))), .val (.int (ushI p3 (7 : Int32)))] []))
  refine Fin.step (fun _ => XS.aloadN Xy1.here hx rfl (hb hby d1_13) rfl rfl) ?_
  show Fin p e below s _ _ _ (Ty1.setTop (mkF m 14 #[.val (.ref a1), .val (.int p2), .val (.int p3), .val (.int (p2 + (1 : Int32))), .val (.int (ushI p3 (7 : Int32)))] [(.ref a1)]))
  refine Fin.step (fun _ => XS.iloadN Xy1.here hx rfl (hb hby d1_14) rfl) ?_
  show Fin p e below s _ _ _ (Ty1.setTop (mkF m 15 #[.val (.ref a1), .val (.int p2), .val (.int p3), .val (.int (p2 + (1 : Int32))), .val (.int (ushI p3 (7 : Int32)))] [(.int (p2 + (1 : Int32))), (.ref a1)]))
  refine Fin.step (fun _ => XS.iinc Xy1.here hx rfl (hb hby d1_15) rfl (l' := #[.val (.ref a1), .val (.int p2), .val (.int p3), .val (.int ((p2 + (1 : Int32)) + (1 : Int32))), .val (.int (ushI p3 (7 : Int32)))]) rfl) ?_
  show Fin p e below s _ _ _ (Ty1.setTop (mkF m 18 #[.val (.ref a1), .val (.int p2), .val (.int p3), .val (.int ((p2 + (1 : Int32)) + (1 : Int32))), .val (.int (ushI p3 (7 : Int32)))] [(.int (p2 + (1 : Int32))), (.ref a1)]))
  refine Fin.step (fun _ => XS.iload Xy1.here hx rfl (hb hby d1_18) rfl) ?_
  show Fin p e below s _ _ _ (Ty1.setTop (mkF m 20 #[.val (.ref a1), .val (.int p2), .val (.int p3), .val (.int ((p2 + (1 : Int32)) + (1 : Int32))), .val (.int (ushI p3 (7 : Int32)))] [(.int (ushI p3 (7 : Int32))), (.int (p2 + (1 : Int32))), (.ref a1)]))
  refine Fin.step (fun _ => XS.bipush Xy1.here hx rfl (hb hby d1_20)) ?_
  show Fin p e below s _ _ _ (Ty1.setTop (mkF m 22 #[.val (.ref a1), .val (.int p2), .val (.int p3), .val (.int ((p2 + (1 : Int32)) + (1 : Int32))), .val (.int (ushI p3 (7 : Int32)))] [(.int (127 : Int32)), (.int (ushI p3 (7 : Int32))), (.int (p2 + (1 : Int32))), (.ref a1)]))
  refine Fin.step (fun _ => XS.iand Xy1.here hx rfl (hb hby d1_22) rfl) ?_
  show Fin p e below s _ _ _ (Ty1.setTop (mkF m 23 #[.val (.ref a1), .val (.int p2), .val (.int p3), .val (.int ((p2 + (1 : Int32)) + (1 : Int32))), .val (.int (ushI p3 (7 : Int32)))] [(.int ((ushI p3 (7 : Int32)) &&& (127 : Int32))), (.int (p2 + (1 : Int32))), (.ref a1)]))
  refine Fin.step (fun _ => XS.sipush Xy1.here hx rfl (hb hby d1_23)) ?_
  show Fin p e below s _ _ _ (Ty1.setTop (mkF m 26 #[.val (.ref a1), .val (.int p2), .val (.int p3), .val (.int ((p2 + (1 : Int32)) + (1 : Int32))), .val (.int (ushI p3 (7 : Int32)))] [(.int (128 : Int32)), (.int ((ushI p3 (7 : Int32)) &&& (127 : Int32))), (.int (p2 + (1 : Int32))), (.ref a1)]))
  refine Fin.step (fun _ => XS.ior Xy1.here hx rfl (hb hby d1_26) rfl) ?_
  show Fin p e below s _ _ _ (Ty1.setTop (mkF m 27 #[.val (.ref a1), .val (.int p2), .val (.int p3), .val (.int ((p2 + (1 : Int32)) + (1 : Int32))), .val (.int (ushI p3 (7 : Int32)))] [(.int (((ushI p3 (7 : Int32)) &&& (127 : Int32)) ||| (128 : Int32))), (.int (p2 + (1 : Int32))), (.ref a1)]))
  refine Fin.step (fun _ => XS.i2b Xy1.here hx rfl (hb hby d1_27) rfl) ?_
  show Fin p e below s _ _ _ (Ty1.setTop (mkF m 28 #[.val (.ref a1), .val (.int p2), .val (.int p3), .val (.int ((p2 + (1 : Int32)) + (1 : Int32))), .val (.int (ushI p3 (7 : Int32)))] [(.int ((((ushI p3 (7 : Int32)) &&& (127 : Int32)) ||| (128 : Int32)).toInt8.toInt32)), (.int (p2 + (1 : Int32))), (.ref a1)]))
  have voy2 := Vy1
  obtain ⟨cly2, Ary2, qay2, say2, nay2, hay2, gay2⟩ := voy2
  obtain ⟨Ty2, hy2, Xy2, ey2, Wy2, sty2⟩ := stB Xy1 hx hZ ey1 Ary2 (j := (p2 + (1 : Int32))) (inb_of say2 S1.1) (g := (mkF m 28 #[.val (.ref a1), .val (.int p2), .val (.int p3), .val (.int ((p2 + (1 : Int32)) + (1 : Int32))), .val (.int (ushI p3 (7 : Int32)))] [(.int ((((ushI p3 (7 : Int32)) &&& (127 : Int32)) ||| (128 : Int32)).toInt8.toInt32)), (.int (p2 + (1 : Int32))), (.ref a1)])) rfl rfl (hb hby d1_28)
  have Vy2 : Arv Z hy2 a1 k1 .byte (13 : Int32) (List.set (List.set L0 p2.toNatClampNeg (own_by p3)) (p2.toNatClampNeg + 1) (own_by (ushI p3 (7 : Int32)))) (.int (0 : Int32)) := Arv.set Ary2 qay2 say2 nay2 hay2 gay2 (fits_nar_byte _) Wy2 (p2.toNatClampNeg + 1) J1 (by first | (simp only [List.length_set]; omega) | omega)
  have Zy2 : n0 ≤ hy2.size := Nat.le_trans Zy1 (Keep.of_wr Wy2).1
  have Ky2 : Keep h0 hy2 [a1] := Ky1.wr Wy2 (Or.inl (List.mem_of_getElem? (i := 0) rfl))
  have Ny2 := Fr.snoc Xy2 Ny1 g_a1
  refine Fin.step (sty2) ?_
  show Fin p e below s _ _ _ (Ty2.setTop (mkF m 29 #[.val (.ref a1), .val (.int p2), .val (.int p3), .val (.int ((p2 + (1 : Int32)) + (1 : Int32))), .val (.int (ushI p3 (7 : Int32)))] []))
  refine Fin.step (fun _ => XS.iload Xy2.here hx rfl (hb hby d1_29) rfl) ?_
  show Fin p e below s _ _ _ (Ty2.setTop (mkF m 31 #[.val (.ref a1), .val (.int p2), .val (.int p3), .val (.int ((p2 + (1 : Int32)) + (1 : Int32))), .val (.int (ushI p3 (7 : Int32)))] [(.int (ushI p3 (7 : Int32)))]))
  refine Fin.step (fun _ => XS.bipush Xy2.here hx rfl (hb hby d1_31)) ?_
  show Fin p e below s _ _ _ (Ty2.setTop (mkF m 33 #[.val (.ref a1), .val (.int p2), .val (.int p3), .val (.int ((p2 + (1 : Int32)) + (1 : Int32))), .val (.int (ushI p3 (7 : Int32)))] [(.int (7 : Int32)), (.int (ushI p3 (7 : Int32)))]))
  refine Fin.step (fun _ => XS.iushr Xy2.here hx rfl (hb hby d1_33) rfl) ?_
  show Fin p e below s _ _ _ (Ty2.setTop (mkF m 34 #[.val (.ref a1), .val (.int p2), .val (.int p3), .val (.int ((p2 + (1 : Int32)) + (1 : Int32))), .val (.int (ushI p3 (7 : Int32)))] [(.int (ushI (ushI p3 (7 : Int32)) (7 : Int32)))]))
  refine Fin.step (fun _ => XS.istore Xy2.here hx rfl (hb hby d1_34) rfl (l' := #[.val (.ref a1), .val (.int p2), .val (.int p3), .val (.int ((p2 + (1 : Int32)) + (1 : Int32))), .val (.int (ushI (ushI p3 (7 : Int32)) (7 : Int32)))]) rfl) ?_
  show Fin p e below s _ _ _ (Ty2.setTop (mkF m 36 #[.val (.ref a1), .val (.int p2), .val (.int p3), .val (.int ((p2 + (1 : Int32)) + (1 : Int32))), .val (.int (ushI (ushI p3 (7 : Int32)) (7 : Int32)))] []))
  refine Fin.step (fun _ => XS.goto Xy2.here hx rfl (pc0 := 36) (pc' := 5) rfl (hb hby d1_36) (by decide) (by decide)) ?_
  show Fin p e below s _ _ _ (Ty2.setTop (mkF m 5 #[.val (.ref a1), .val (.int p2), .val (.int p3), .val (.int ((p2 + (1 : Int32)) + (1 : Int32))), .val (.int (ushI (ushI p3 (7 : Int32)) (7 : Int32)))] []))
  have S2 := own_st ((p2 + (1 : Int32)) + (1 : Int32)) 9 S1.2.1 (by decide)
  have J2 : (((p2 + (1 : Int32)) + (1 : Int32))).toNatClampNeg = ((p2.toNatClampNeg + 1) + 1) := S1.2.2.trans (congrArg (· + 1) J1)
  refine Fin.step (fun _ => XS.iload Xy2.here hx rfl (hb hby d1_5) rfl) ?_
  show Fin p e below s _ _ _ (Ty2.setTop (mkF m 7 #[.val (.ref a1), .val (.int p2), .val (.int p3), .val (.int ((p2 + (1 : Int32)) + (1 : Int32))), .val (.int (ushI (ushI p3 (7 : Int32)) (7 : Int32)))] [(.int (ushI (ushI p3 (7 : Int32)) (7 : Int32)))]))
  refine Fin.step (fun _ => XS.bipush Xy2.here hx rfl (hb hby d1_7)) ?_
  show Fin p e below s _ _ _ (Ty2.setTop (mkF m 9 #[.val (.ref a1), .val (.int p2), .val (.int p3), .val (.int ((p2 + (1 : Int32)) + (1 : Int32))), .val (.int (ushI (ushI p3 (7 : Int32)) (7 : Int32)))] [(.int (-128 : Int32)), (.int (ushI (ushI p3 (7 : Int32)) (7 : Int32)))]))
  refine Fin.step (fun _ => XS.iand Xy2.here hx rfl (hb hby d1_9) rfl) ?_
  show Fin p e below s _ _ _ (Ty2.setTop (mkF m 10 #[.val (.ref a1), .val (.int p2), .val (.int p3), .val (.int ((p2 + (1 : Int32)) + (1 : Int32))), .val (.int (ushI (ushI p3 (7 : Int32)) (7 : Int32)))] [(.int ((ushI (ushI p3 (7 : Int32)) (7 : Int32)) &&& (-128 : Int32)))]))
  refine Fin.step (fun _ => XS.ifNo Xy2.here hx rfl (hb hby d1_10) rfl ((if0 _ _).trans (feq (hv2 : ¬ (((ushI (ushI p3 (7 : Int32)) (7 : Int32)) &&& (-128 : Int32)) = (0 : Int32)))).1)) ?_
  show Fin p e below s _ _ _ (Ty2.setTop (mkF m 13 #[.val (.ref a1), .val (.int p2), .val (.int p3), .val (.int ((p2 + (1 : Int32)) + (1 : Int32))), .val (.int (ushI (ushI p3 (7 : Int32)) (7 : Int32)))] []))
  refine Fin.step (fun _ => XS.aloadN Xy2.here hx rfl (hb hby d1_13) rfl rfl) ?_
  show Fin p e below s _ _ _ (Ty2.setTop (mkF m 14 #[.val (.ref a1), .val (.int p2), .val (.int p3), .val (.int ((p2 + (1 : Int32)) + (1 : Int32))), .val (.int (ushI (ushI p3 (7 : Int32)) (7 : Int32)))] [(.ref a1)]))
  refine Fin.step (fun _ => XS.iloadN Xy2.here hx rfl (hb hby d1_14) rfl) ?_
  show Fin p e below s _ _ _ (Ty2.setTop (mkF m 15 #[.val (.ref a1), .val (.int p2), .val (.int p3), .val (.int ((p2 + (1 : Int32)) + (1 : Int32))), .val (.int (ushI (ushI p3 (7 : Int32)) (7 : Int32)))] [(.int ((p2 + (1 : Int32)) + (1 : Int32))), (.ref a1)]))
  refine Fin.step (fun _ => XS.iinc Xy2.here hx rfl (hb hby d1_15) rfl (l' := #[.val (.ref a1), .val (.int p2), .val (.int p3), .val (.int (((p2 + (1 : Int32)) + (1 : Int32)) + (1 : Int32))), .val (.int (ushI (ushI p3 (7 : Int32)) (7 : Int32)))]) rfl) ?_
  show Fin p e below s _ _ _ (Ty2.setTop (mkF m 18 #[.val (.ref a1), .val (.int p2), .val (.int p3), .val (.int (((p2 + (1 : Int32)) + (1 : Int32)) + (1 : Int32))), .val (.int (ushI (ushI p3 (7 : Int32)) (7 : Int32)))] [(.int ((p2 + (1 : Int32)) + (1 : Int32))), (.ref a1)]))
  refine Fin.step (fun _ => XS.iload Xy2.here hx rfl (hb hby d1_18) rfl) ?_
  show Fin p e below s _ _ _ (Ty2.setTop (mkF m 20 #[.val (.ref a1), .val (.int p2), .val (.int p3), .val (.int (((p2 + (1 : Int32)) + (1 : Int32)) + (1 : Int32))), .val (.int (ushI (ushI p3 (7 : Int32)) (7 : Int32)))] [(.int (ushI (ushI p3 (7 : Int32)) (7 : Int32))), (.int ((p2 + (1 : Int32)) + (1 : Int32))), (.ref a1)]))
  refine Fin.step (fun _ => XS.bipush Xy2.here hx rfl (hb hby d1_20)) ?_
  show Fin p e below s _ _ _ (Ty2.setTop (mkF m 22 #[.val (.ref a1), .val (.int p2), .val (.int p3), .val (.int (((p2 + (1 : Int32)) + (1 : Int32)) + (1 : Int32))), .val (.int (ushI (ushI p3 (7 : Int32)) (7 : Int32)))] [(.int (127 : Int32)), (.int (ushI (ushI p3 (7 : Int32)) (7 : Int32))), (.int ((p2 + (1 : Int32)) + (1 : Int32))), (.ref a1)]))
  refine Fin.step (fun _ => XS.iand Xy2.here hx rfl (hb hby d1_22) rfl) ?_
  show Fin p e below s _ _ _ (Ty2.setTop (mkF m 23 #[.val (.ref a1), .val (.int p2), .val (.int p3), .val (.int (((p2 + (1 : Int32)) + (1 : Int32)) + (1 : Int32))), .val (.int (ushI (ushI p3 (7 : Int32)) (7 : Int32)))] [(.int ((ushI (ushI p3 (7 : Int32)) (7 : Int32)) &&& (127 : Int32))), (.int ((p2 + (1 : Int32)) + (1 : Int32))), (.ref a1)]))
  refine Fin.step (fun _ => XS.sipush Xy2.here hx rfl (hb hby d1_23)) ?_
  show Fin p e below s _ _ _ (Ty2.setTop (mkF m 26 #[.val (.ref a1), .val (.int p2), .val (.int p3), .val (.int (((p2 + (1 : Int32)) + (1 : Int32)) + (1 : Int32))), .val (.int (ushI (ushI p3 (7 : Int32)) (7 : Int32)))] [(.int (128 : Int32)), (.int ((ushI (ushI p3 (7 : Int32)) (7 : Int32)) &&& (127 : Int32))), (.int ((p2 + (1 : Int32)) + (1 : Int32))), (.ref a1)]))
  refine Fin.step (fun _ => XS.ior Xy2.here hx rfl (hb hby d1_26) rfl) ?_
  show Fin p e below s _ _ _ (Ty2.setTop (mkF m 27 #[.val (.ref a1), .val (.int p2), .val (.int p3), .val (.int (((p2 + (1 : Int32)) + (1 : Int32)) + (1 : Int32))), .val (.int (ushI (ushI p3 (7 : Int32)) (7 : Int32)))] [(.int (((ushI (ushI p3 (7 : Int32)) (7 : Int32)) &&& (127 : Int32)) ||| (128 : Int32))), (.int ((p2 + (1 : Int32)) + (1 : Int32))), (.ref a1)]))
  refine Fin.step (fun _ => XS.i2b Xy2.here hx rfl (hb hby d1_27) rfl) ?_
  show Fin p e below s _ _ _ (Ty2.setTop (mkF m 28 #[.val (.ref a1), .val (.int p2), .val (.int p3), .val (.int (((p2 + (1 : Int32)) + (1 : Int32)) + (1 : Int32))), .val (.int (ushI (ushI p3 (7 : Int32)) (7 : Int32)))] [(.int ((((ushI (ushI p3 (7 : Int32)) (7 : Int32)) &&& (127 : Int32)) ||| (128 : Int32)).toInt8.toInt32)), (.int ((p2 + (1 : Int32)) + (1 : Int32))), (.ref a1)]))
  have voy3 := Vy2
  obtain ⟨cly3, Ary3, qay3, say3, nay3, hay3, gay3⟩ := voy3
  obtain ⟨Ty3, hy3, Xy3, ey3, Wy3, sty3⟩ := stB Xy2 hx hZ ey2 Ary3 (j := ((p2 + (1 : Int32)) + (1 : Int32))) (inb_of say3 S2.1) (g := (mkF m 28 #[.val (.ref a1), .val (.int p2), .val (.int p3), .val (.int (((p2 + (1 : Int32)) + (1 : Int32)) + (1 : Int32))), .val (.int (ushI (ushI p3 (7 : Int32)) (7 : Int32)))] [(.int ((((ushI (ushI p3 (7 : Int32)) (7 : Int32)) &&& (127 : Int32)) ||| (128 : Int32)).toInt8.toInt32)), (.int ((p2 + (1 : Int32)) + (1 : Int32))), (.ref a1)])) rfl rfl (hb hby d1_28)
  have Vy3 : Arv Z hy3 a1 k1 .byte (13 : Int32) (List.set (List.set (List.set L0 p2.toNatClampNeg (own_by p3)) (p2.toNatClampNeg + 1) (own_by (ushI p3 (7 : Int32)))) ((p2.toNatClampNeg + 1) + 1) (own_by (ushI (ushI p3 (7 : Int32)) (7 : Int32)))) (.int (0 : Int32)) := Arv.set Ary3 qay3 say3 nay3 hay3 gay3 (fits_nar_byte _) Wy3 ((p2.toNatClampNeg + 1) + 1) J2 (by first | (simp only [List.length_set]; omega) | omega)
  have Zy3 : n0 ≤ hy3.size := Nat.le_trans Zy2 (Keep.of_wr Wy3).1
  have Ky3 : Keep h0 hy3 [a1] := Ky2.wr Wy3 (Or.inl (List.mem_of_getElem? (i := 0) rfl))
  have Ny3 := Fr.snoc Xy3 Ny2 g_a1
  refine Fin.step (sty3) ?_
  show Fin p e below s _ _ _ (Ty3.setTop (mkF m 29 #[.val (.ref a1), .val (.int p2), .val (.int p3), .val (.int (((p2 + (1 : Int32)) + (1 : Int32)) + (1 : Int32))), .val (.int (ushI (ushI p3 (7 : Int32)) (7 : Int32)))] []))
  refine Fin.step (fun _ => XS.iload Xy3.here hx rfl (hb hby d1_29) rfl) ?_
  show Fin p e below s _ _ _ (Ty3.setTop (mkF m 31 #[.val (.ref a1), .val (.int p2), .val (.int p3), .val (.int (((p2 + (1 : Int32)) + (1 : Int32)) + (1 : Int32))), .val (.int (ushI (ushI p3 (7 : Int32)) (7 : Int32)))] [(.int (ushI (ushI p3 (7 : Int32)) (7 : Int32)))]))
  refine Fin.step (fun _ => XS.bipush Xy3.here hx rfl (hb hby d1_31)) ?_
  show Fin p e below s _ _ _ (Ty3.setTop (mkF m 33 #[.val (.ref a1), .val (.int p2), .val (.int p3), .val (.int (((p2 + (1 : Int32)) + (1 : Int32)) + (1 : Int32))), .val (.int (ushI (ushI p3 (7 : Int32)) (7 : Int32)))] [(.int (7 : Int32)), (.int (ushI (ushI p3 (7 : Int32)) (7 : Int32)))]))
  refine Fin.step (fun _ => XS.iushr Xy3.here hx rfl (hb hby d1_33) rfl) ?_
  show Fin p e below s _ _ _ (Ty3.setTop (mkF m 34 #[.val (.ref a1), .val (.int p2), .val (.int p3), .val (.int (((p2 + (1 : Int32)) + (1 : Int32)) + (1 : Int32))), .val (.int (ushI (ushI p3 (7 : Int32)) (7 : Int32)))] [(.int (ushI (ushI (ushI p3 (7 : Int32)) (7 : Int32)) (7 : Int32)))]))
  refine Fin.step (fun _ => XS.istore Xy3.here hx rfl (hb hby d1_34) rfl (l' := #[.val (.ref a1), .val (.int p2), .val (.int p3), .val (.int (((p2 + (1 : Int32)) + (1 : Int32)) + (1 : Int32))), .val (.int (ushI (ushI (ushI p3 (7 : Int32)) (7 : Int32)) (7 : Int32)))]) rfl) ?_
  show Fin p e below s _ _ _ (Ty3.setTop (mkF m 36 #[.val (.ref a1), .val (.int p2), .val (.int p3), .val (.int (((p2 + (1 : Int32)) + (1 : Int32)) + (1 : Int32))), .val (.int (ushI (ushI (ushI p3 (7 : Int32)) (7 : Int32)) (7 : Int32)))] []))
  refine Fin.step (fun _ => XS.goto Xy3.here hx rfl (pc0 := 36) (pc' := 5) rfl (hb hby d1_36) (by decide) (by decide)) ?_
  show Fin p e below s _ _ _ (Ty3.setTop (mkF m 5 #[.val (.ref a1), .val (.int p2), .val (.int p3), .val (.int (((p2 + (1 : Int32)) + (1 : Int32)) + (1 : Int32))), .val (.int (ushI (ushI (ushI p3 (7 : Int32)) (7 : Int32)) (7 : Int32)))] []))
  have S3 := own_st (((p2 + (1 : Int32)) + (1 : Int32)) + (1 : Int32)) 10 S2.2.1 (by decide)
  have J3 : ((((p2 + (1 : Int32)) + (1 : Int32)) + (1 : Int32))).toNatClampNeg = (((p2.toNatClampNeg + 1) + 1) + 1) := S2.2.2.trans (congrArg (· + 1) J2)
  refine Fin.step (fun _ => XS.iload Xy3.here hx rfl (hb hby d1_5) rfl) ?_
  show Fin p e below s _ _ _ (Ty3.setTop (mkF m 7 #[.val (.ref a1), .val (.int p2), .val (.int p3), .val (.int (((p2 + (1 : Int32)) + (1 : Int32)) + (1 : Int32))), .val (.int (ushI (ushI (ushI p3 (7 : Int32)) (7 : Int32)) (7 : Int32)))] [(.int (ushI (ushI (ushI p3 (7 : Int32)) (7 : Int32)) (7 : Int32)))]))
  refine Fin.step (fun _ => XS.bipush Xy3.here hx rfl (hb hby d1_7)) ?_
  show Fin p e below s _ _ _ (Ty3.setTop (mkF m 9 #[.val (.ref a1), .val (.int p2), .val (.int p3), .val (.int (((p2 + (1 : Int32)) + (1 : Int32)) + (1 : Int32))), .val (.int (ushI (ushI (ushI p3 (7 : Int32)) (7 : Int32)) (7 : Int32)))] [(.int (-128 : Int32)), (.int (ushI (ushI (ushI p3 (7 : Int32)) (7 : Int32)) (7 : Int32)))]))
  refine Fin.step (fun _ => XS.iand Xy3.here hx rfl (hb hby d1_9) rfl) ?_
  show Fin p e below s _ _ _ (Ty3.setTop (mkF m 10 #[.val (.ref a1), .val (.int p2), .val (.int p3), .val (.int (((p2 + (1 : Int32)) + (1 : Int32)) + (1 : Int32))), .val (.int (ushI (ushI (ushI p3 (7 : Int32)) (7 : Int32)) (7 : Int32)))] [(.int ((ushI (ushI (ushI p3 (7 : Int32)) (7 : Int32)) (7 : Int32)) &&& (-128 : Int32)))]))
  refine Fin.step (fun _ => XS.ifYes Xy3.here hx rfl (pc0 := 10) (pc' := 39) rfl (hb hby d1_10) rfl ((if0 _ _).trans (teq (hv3 : (((ushI (ushI (ushI p3 (7 : Int32)) (7 : Int32)) (7 : Int32)) &&& (-128 : Int32)) = (0 : Int32)))).1) (by decide) (by decide)) ?_
  show Fin p e below s _ _ _ (Ty3.setTop (mkF m 39 #[.val (.ref a1), .val (.int p2), .val (.int p3), .val (.int (((p2 + (1 : Int32)) + (1 : Int32)) + (1 : Int32))), .val (.int (ushI (ushI (ushI p3 (7 : Int32)) (7 : Int32)) (7 : Int32)))] []))
  refine Fin.step (fun _ => XS.aloadN Xy3.here hx rfl (hb hby d1_39) rfl rfl) ?_
  show Fin p e below s _ _ _ (Ty3.setTop (mkF m 40 #[.val (.ref a1), .val (.int p2), .val (.int p3), .val (.int (((p2 + (1 : Int32)) + (1 : Int32)) + (1 : Int32))), .val (.int (ushI (ushI (ushI p3 (7 : Int32)) (7 : Int32)) (7 : Int32)))] [(.ref a1)]))
  refine Fin.step (fun _ => XS.iloadN Xy3.here hx rfl (hb hby d1_40) rfl) ?_
  show Fin p e below s _ _ _ (Ty3.setTop (mkF m 41 #[.val (.ref a1), .val (.int p2), .val (.int p3), .val (.int (((p2 + (1 : Int32)) + (1 : Int32)) + (1 : Int32))), .val (.int (ushI (ushI (ushI p3 (7 : Int32)) (7 : Int32)) (7 : Int32)))] [(.int (((p2 + (1 : Int32)) + (1 : Int32)) + (1 : Int32))), (.ref a1)]))
  refine Fin.step (fun _ => XS.iinc Xy3.here hx rfl (hb hby d1_41) rfl (l' := #[.val (.ref a1), .val (.int p2), .val (.int p3), .val (.int ((((p2 + (1 : Int32)) + (1 : Int32)) + (1 : Int32)) + (1 : Int32))), .val (.int (ushI (ushI (ushI p3 (7 : Int32)) (7 : Int32)) (7 : Int32)))]) rfl) ?_
  show Fin p e below s _ _ _ (Ty3.setTop (mkF m 44 #[.val (.ref a1), .val (.int p2), .val (.int p3), .val (.int ((((p2 + (1 : Int32)) + (1 : Int32)) + (1 : Int32)) + (1 : Int32))), .val (.int (ushI (ushI (ushI p3 (7 : Int32)) (7 : Int32)) (7 : Int32)))] [(.int (((p2 + (1 : Int32)) + (1 : Int32)) + (1 : Int32))), (.ref a1)]))
  refine Fin.step (fun _ => XS.iload Xy3.here hx rfl (hb hby d1_44) rfl) ?_
  show Fin p e below s _ _ _ (Ty3.setTop (mkF m 46 #[.val (.ref a1), .val (.int p2), .val (.int p3), .val (.int ((((p2 + (1 : Int32)) + (1 : Int32)) + (1 : Int32)) + (1 : Int32))), .val (.int (ushI (ushI (ushI p3 (7 : Int32)) (7 : Int32)) (7 : Int32)))] [(.int (ushI (ushI (ushI p3 (7 : Int32)) (7 : Int32)) (7 : Int32))), (.int (((p2 + (1 : Int32)) + (1 : Int32)) + (1 : Int32))), (.ref a1)]))
  refine Fin.step (fun _ => XS.i2b Xy3.here hx rfl (hb hby d1_46) rfl) ?_
  show Fin p e below s _ _ _ (Ty3.setTop (mkF m 47 #[.val (.ref a1), .val (.int p2), .val (.int p3), .val (.int ((((p2 + (1 : Int32)) + (1 : Int32)) + (1 : Int32)) + (1 : Int32))), .val (.int (ushI (ushI (ushI p3 (7 : Int32)) (7 : Int32)) (7 : Int32)))] [(.int ((ushI (ushI (ushI p3 (7 : Int32)) (7 : Int32)) (7 : Int32)).toInt8.toInt32)), (.int (((p2 + (1 : Int32)) + (1 : Int32)) + (1 : Int32))), (.ref a1)]))
  have voy4 := Vy3
  obtain ⟨cly4, Ary4, qay4, say4, nay4, hay4, gay4⟩ := voy4
  obtain ⟨Ty4, hy4, Xy4, ey4, Wy4, sty4⟩ := stB Xy3 hx hZ ey3 Ary4 (j := (((p2 + (1 : Int32)) + (1 : Int32)) + (1 : Int32))) (inb_of say4 S3.1) (g := (mkF m 47 #[.val (.ref a1), .val (.int p2), .val (.int p3), .val (.int ((((p2 + (1 : Int32)) + (1 : Int32)) + (1 : Int32)) + (1 : Int32))), .val (.int (ushI (ushI (ushI p3 (7 : Int32)) (7 : Int32)) (7 : Int32)))] [(.int ((ushI (ushI (ushI p3 (7 : Int32)) (7 : Int32)) (7 : Int32)).toInt8.toInt32)), (.int (((p2 + (1 : Int32)) + (1 : Int32)) + (1 : Int32))), (.ref a1)])) rfl rfl (hb hby d1_47)
  have Vy4 : Arv Z hy4 a1 k1 .byte (13 : Int32) (List.set (List.set (List.set (List.set L0 p2.toNatClampNeg (own_by p3)) (p2.toNatClampNeg + 1) (own_by (ushI p3 (7 : Int32)))) ((p2.toNatClampNeg + 1) + 1) (own_by (ushI (ushI p3 (7 : Int32)) (7 : Int32)))) (((p2.toNatClampNeg + 1) + 1) + 1) (own_la (ushI (ushI (ushI p3 (7 : Int32)) (7 : Int32)) (7 : Int32)))) (.int (0 : Int32)) := Arv.set Ary4 qay4 say4 nay4 hay4 gay4 (fits_nar_byte _) Wy4 (((p2.toNatClampNeg + 1) + 1) + 1) J3 (by first | (simp only [List.length_set]; omega) | omega)
  have Zy4 : n0 ≤ hy4.size := Nat.le_trans Zy3 (Keep.of_wr Wy4).1
  have Ky4 : Keep h0 hy4 [a1] := Ky3.wr Wy4 (Or.inl (List.mem_of_getElem? (i := 0) rfl))
  have Ny4 := Fr.snoc Xy4 Ny3 g_a1
  refine Fin.step (sty4) ?_
  show Fin p e below s _ _ _ (Ty4.setTop (mkF m 48 #[.val (.ref a1), .val (.int p2), .val (.int p3), .val (.int ((((p2 + (1 : Int32)) + (1 : Int32)) + (1 : Int32)) + (1 : Int32))), .val (.int (ushI (ushI (ushI p3 (7 : Int32)) (7 : Int32)) (7 : Int32)))] []))
  refine Fin.step (fun _ => XS.iloadN Xy4.here hx rfl (hb hby d1_48) rfl) ?_
  show Fin p e below s _ _ _ (Ty4.setTop (mkF m 49 #[.val (.ref a1), .val (.int p2), .val (.int p3), .val (.int ((((p2 + (1 : Int32)) + (1 : Int32)) + (1 : Int32)) + (1 : Int32))), .val (.int (ushI (ushI (ushI p3 (7 : Int32)) (7 : Int32)) (7 : Int32)))] [(.int ((((p2 + (1 : Int32)) + (1 : Int32)) + (1 : Int32)) + (1 : Int32)))]))
  refine Fin.retI Xy4 hx hret hlk (hb hby d1_49) (by decide) (by decide) ?_
  show Qv4 Z a1 p2 p3 k1 L0 h0 n0 _ Ty4.heap _
  rw [ey4]
  exact ⟨rfl, Ny4, Ky4, Vy4⟩
theorem ef_rmv5 (m : MethodId) (x0 : Addr) (x1 : Int32) (x2 : Int32) : entryFrame m #[(.ref x0), (.int x1), (.int x2)] 5 = mkF m 0 #[.val (.ref x0), .val (.int x1), .val (.int x2), .unset, .unset] [] := by first | (simp [entryFrame, mkF, argsToLocals, Value.category]; done) | rfl
def Qv5 (Z : State) (a1 : Addr) (p2 : Int32) (p3 : Int32) (k1 : ClassId) (L0 : List Value) (h0 : Heap) (n0 : Nat) (v : Option Value) (h : Heap) (L : List Loc) : Prop := v = some (.int (((((p2 + (1 : Int32)) + (1 : Int32)) + (1 : Int32)) + (1 : Int32)) + (1 : Int32))) ∧ Fr n0 L ∧ Keep h0 h [a1] ∧ Arv Z h a1 k1 .byte (13 : Int32) (own_put 4 L0 p2.toNatClampNeg p3) (.int (0 : Int32))
set_option maxRecDepth 65536 in
set_option maxHeartbeats 40000000 in
theorem rmv5 (l : Launch) (Z : State) (a0 : Array Value) (hw : ∀ d ∈ tables_1, d.before a0 Z = true) (ws : List Jvm.Cond) (a1 : Addr) (p2 : Int32) (p3 : Int32) (k1 : ClassId) (L0 : List Value) (h0 : Heap) (n0 : Nat) (Z0 : n0 ≤ h0.size) (HV_a1 : Arv Z h0 a1 k1 .byte (13 : Int32) L0 (.int (0 : Int32))) (g_a1 : n0 ≤ a1) (hL : L0.length = 13) (ho : 0 ≤ p2.toInt ∧ p2.toInt ≤ 7) (hv0 : ¬ (p3 &&& (-128 : Int32)) = 0) (hv1 : ¬ ((ushI p3 (7 : Int32)) &&& (-128 : Int32)) = 0) (hv2 : ¬ ((ushI (ushI p3 (7 : Int32)) (7 : Int32)) &&& (-128 : Int32)) = 0) (hv3 : ¬ ((ushI (ushI (ushI p3 (7 : Int32)) (7 : Int32)) (7 : Int32)) &&& (-128 : Int32)) = 0) (hv4 : ((ushI (ushI (ushI (ushI p3 (7 : Int32)) (7 : Int32)) (7 : Int32)) (7 : Int32)) &&& (-128 : Int32)) = 0) :
    MetFree l (⟨"com/example/indexterity/indexterity/index/IndexFormat", "putVarInt", "([BII)I"⟩ : MethodName) (head1 (Jvm.Cond.code (⟨"com/example/indexterity/indexterity/index/IndexFormat", "putVarInt", "([BII)I"⟩ : MethodName) prog_37_method_4_code 5 (some .int) :: ws) ({ frames := 0, cells := 0, slots := 0, locals := 0 } : Room)) (fun a U => a = #[(.ref a1), (.int p2), (.int p3)] ∧ Z.Warmed39 U.vm ∧ U.heap = h0) (fun _ _ _ _ _ => True) (fun _ U o U' => ∃ v L, o = .returned v ∧ Qv5 Z a1 p2 p3 k1 L0 h0 n0 v U'.heap L ∧ FrameEnd U o U' L ({ frames := 0, cells := 0, slots := 0, locals := 0 } : Room).cells ({ frames := 0, cells := 0, slots := 0, locals := 0 } : Room).slots) := by
  refine MetFree.of_bodySF (plainFor_of_name pn_1) hisR ?_
  intro p e s m args below meth c s₁ Bd hml0 hP hK
  obtain ⟨rfl, hZ, hh⟩ := hP
  have hx := Bd.exec
  have hby := Bd.bytes
  have hlk := BodyLoose.notSynchronized Bd
  have hret := Bd.returns
  have hml : c.maxLocals = 5 := hml0
  have hown : s.vm.findClass "com/example/indexterity/indexterity/index/IndexFormat" = some m.cls := findClass_of_methodNamed Bd.named
  have hnm := (name_of_methodNamed Bd.named Bd.method).1
  have X0 : Stand p l e ({ frames := 0, cells := 0, slots := 0, locals := 0 } : Room) s m #[(.ref a1), (.int p2), (.int p3)] below meth c s₁ [] 0 0 := Stand.of_body Bd
  have e0 : s₁.heap = h0 := by rw [← hh, Bd.state]; rfl
  have N0 := Fr.nil n0
  have K0 : Keep h0 h0 [a1] := Keep.refl h0 _
  refine Fin.step (Q := fun v h L => Qv5 Z a1 p2 p3 k1 L0 h0 n0 v h L) (st' := s₁.setTop (mkF m 0 #[.val (.ref a1), .val (.int p2), .val (.int p3), .unset, .unset] [])) (fun t k => castTop (ef_rmv5 m a1 p2 p3) k) ?_
  show Fin p e below s _ _ _ (s₁.setTop (mkF m 0 #[.val (.ref a1), .val (.int p2), .val (.int p3), .unset, .unset] []))
  refine Fin.step (fun _ => XS.iloadN X0.here hx rfl (hb hby d1_0) rfl) ?_
  show Fin p e below s _ _ _ (s₁.setTop (mkF m 1 #[.val (.ref a1), .val (.int p2), .val (.int p3), .unset, .unset] [(.int p2)]))
  refine Fin.step (fun _ => XS.istoreN X0.here hx rfl (hb hby d1_1) rfl (l' := #[.val (.ref a1), .val (.int p2), .val (.int p3), .val (.int p2), .unset]) rfl) ?_
  show Fin p e below s _ _ _ (s₁.setTop (mkF m 2 #[.val (.ref a1), .val (.int p2), .val (.int p3), .val (.int p2), .unset] []))
  refine Fin.step (fun _ => XS.iloadN X0.here hx rfl (hb hby d1_2) rfl) ?_
  show Fin p e below s _ _ _ (s₁.setTop (mkF m 3 #[.val (.ref a1), .val (.int p2), .val (.int p3), .val (.int p2), .unset] [(.int p3)]))
  refine Fin.step (fun _ => XS.istore X0.here hx rfl (hb hby d1_3) rfl (l' := #[.val (.ref a1), .val (.int p2), .val (.int p3), .val (.int p2), .val (.int p3)]) rfl) ?_
  show Fin p e below s _ _ _ (s₁.setTop (mkF m 5 #[.val (.ref a1), .val (.int p2), .val (.int p3), .val (.int p2), .val (.int p3)] []))
  have hO := own_nat ho
  have S0 := own_st p2 7 ho (by decide)
  have J0 : p2.toNatClampNeg = p2.toNatClampNeg := rfl
  refine Fin.step (fun _ => XS.iload X0.here hx rfl (hb hby d1_5) rfl) ?_
  show Fin p e below s _ _ _ (s₁.setTop (mkF m 7 #[.val (.ref a1), .val (.int p2), .val (.int p3), .val (.int p2), .val (.int p3)] [(.int p3)]))
  refine Fin.step (fun _ => XS.bipush X0.here hx rfl (hb hby d1_7)) ?_
  show Fin p e below s _ _ _ (s₁.setTop (mkF m 9 #[.val (.ref a1), .val (.int p2), .val (.int p3), .val (.int p2), .val (.int p3)] [(.int (-128 : Int32)), (.int p3)]))
  refine Fin.step (fun _ => XS.iand X0.here hx rfl (hb hby d1_9) rfl) ?_
  show Fin p e below s _ _ _ (s₁.setTop (mkF m 10 #[.val (.ref a1), .val (.int p2), .val (.int p3), .val (.int p2), .val (.int p3)] [(.int (p3 &&& (-128 : Int32)))]))
  refine Fin.step (fun _ => XS.ifNo X0.here hx rfl (hb hby d1_10) rfl ((if0 _ _).trans (feq (hv0 : ¬ ((p3 &&& (-128 : Int32)) = (0 : Int32)))).1)) ?_
  show Fin p e below s _ _ _ (s₁.setTop (mkF m 13 #[.val (.ref a1), .val (.int p2), .val (.int p3), .val (.int p2), .val (.int p3)] []))
  refine Fin.step (fun _ => XS.aloadN X0.here hx rfl (hb hby d1_13) rfl rfl) ?_
  show Fin p e below s _ _ _ (s₁.setTop (mkF m 14 #[.val (.ref a1), .val (.int p2), .val (.int p3), .val (.int p2), .val (.int p3)] [(.ref a1)]))
  refine Fin.step (fun _ => XS.iloadN X0.here hx rfl (hb hby d1_14) rfl) ?_
  show Fin p e below s _ _ _ (s₁.setTop (mkF m 15 #[.val (.ref a1), .val (.int p2), .val (.int p3), .val (.int p2), .val (.int p3)] [(.int p2), (.ref a1)]))
  refine Fin.step (fun _ => XS.iinc X0.here hx rfl (hb hby d1_15) rfl (l' := #[.val (.ref a1), .val (.int p2), .val (.int p3), .val (.int (p2 + (1 : Int32))), .val (.int p3)]) rfl) ?_
  show Fin p e below s _ _ _ (s₁.setTop (mkF m 18 #[.val (.ref a1), .val (.int p2), .val (.int p3), .val (.int (p2 + (1 : Int32))), .val (.int p3)] [(.int p2), (.ref a1)]))
  refine Fin.step (fun _ => XS.iload X0.here hx rfl (hb hby d1_18) rfl) ?_
  show Fin p e below s _ _ _ (s₁.setTop (mkF m 20 #[.val (.ref a1), .val (.int p2), .val (.int p3), .val (.int (p2 + (1 : Int32))), .val (.int p3)] [(.int p3), (.int p2), (.ref a1)]))
  refine Fin.step (fun _ => XS.bipush X0.here hx rfl (hb hby d1_20)) ?_
  show Fin p e below s _ _ _ (s₁.setTop (mkF m 22 #[.val (.ref a1), .val (.int p2), .val (.int p3), .val (.int (p2 + (1 : Int32))), .val (.int p3)] [(.int (127 : Int32)), (.int p3), (.int p2), (.ref a1)]))
  refine Fin.step (fun _ => XS.iand X0.here hx rfl (hb hby d1_22) rfl) ?_
  show Fin p e below s _ _ _ (s₁.setTop (mkF m 23 #[.val (.ref a1), .val (.int p2), .val (.int p3), .val (.int (p2 + (1 : Int32))), .val (.int p3)] [(.int (p3 &&& (127 : Int32))), (.int p2), (.ref a1)]))
  refine Fin.step (fun _ => XS.sipush X0.here hx rfl (hb hby d1_23)) ?_
  show Fin p e below s _ _ _ (s₁.setTop (mkF m 26 #[.val (.ref a1), .val (.int p2), .val (.int p3), .val (.int (p2 + (1 : Int32))), .val (.int p3)] [(.int (128 : Int32)), (.int (p3 &&& (127 : Int32))), (.int p2), (.ref a1)]))
  refine Fin.step (fun _ => XS.ior X0.here hx rfl (hb hby d1_26) rfl) ?_
  show Fin p e below s _ _ _ (s₁.setTop (mkF m 27 #[.val (.ref a1), .val (.int p2), .val (.int p3), .val (.int (p2 + (1 : Int32))), .val (.int p3)] [(.int ((p3 &&& (127 : Int32)) ||| (128 : Int32))), (.int p2), (.ref a1)]))
  refine Fin.step (fun _ => XS.i2b X0.here hx rfl (hb hby d1_27) rfl) ?_
  show Fin p e below s _ _ _ (s₁.setTop (mkF m 28 #[.val (.ref a1), .val (.int p2), .val (.int p3), .val (.int (p2 + (1 : Int32))), .val (.int p3)] [(.int (((p3 &&& (127 : Int32)) ||| (128 : Int32)).toInt8.toInt32)), (.int p2), (.ref a1)]))
  have voy1 := HV_a1
  obtain ⟨cly1, Ary1, qay1, say1, nay1, hay1, gay1⟩ := voy1
  obtain ⟨Ty1, hy1, Xy1, ey1, Wy1, sty1⟩ := stB X0 hx hZ e0 Ary1 (j := p2) (inb_of say1 S0.1) (g := (mkF m 28 #[.val (.ref a1), .val (.int p2), .val (.int p3), .val (.int (p2 + (1 : Int32))), .val (.int p3)] [(.int (((p3 &&& (127 : Int32)) ||| (128 : Int32)).toInt8.toInt32)), (.int p2), (.ref a1)])) rfl rfl (hb hby d1_28)
  have Vy1 : Arv Z hy1 a1 k1 .byte (13 : Int32) (List.set L0 p2.toNatClampNeg (own_by p3)) (.int (0 : Int32)) := Arv.set Ary1 qay1 say1 nay1 hay1 gay1 (fits_nar_byte _) Wy1 p2.toNatClampNeg J0 (by first | (simp only [List.length_set]; omega) | omega)
  have Zy1 : n0 ≤ hy1.size := Nat.le_trans Z0 (Keep.of_wr Wy1).1
  have Ky1 : Keep h0 hy1 [a1] := K0.wr Wy1 (Or.inl (List.mem_of_getElem? (i := 0) rfl))
  have Ny1 := Fr.snoc Xy1 N0 g_a1
  refine Fin.step (sty1) ?_
  show Fin p e below s _ _ _ (Ty1.setTop (mkF m 29 #[.val (.ref a1), .val (.int p2), .val (.int p3), .val (.int (p2 + (1 : Int32))), .val (.int p3)] []))
  refine Fin.step (fun _ => XS.iload Xy1.here hx rfl (hb hby d1_29) rfl) ?_
  show Fin p e below s _ _ _ (Ty1.setTop (mkF m 31 #[.val (.ref a1), .val (.int p2), .val (.int p3), .val (.int (p2 + (1 : Int32))), .val (.int p3)] [(.int p3)]))
  refine Fin.step (fun _ => XS.bipush Xy1.here hx rfl (hb hby d1_31)) ?_
  show Fin p e below s _ _ _ (Ty1.setTop (mkF m 33 #[.val (.ref a1), .val (.int p2), .val (.int p3), .val (.int (p2 + (1 : Int32))), .val (.int p3)] [(.int (7 : Int32)), (.int p3)]))
  refine Fin.step (fun _ => XS.iushr Xy1.here hx rfl (hb hby d1_33) rfl) ?_
  show Fin p e below s _ _ _ (Ty1.setTop (mkF m 34 #[.val (.ref a1), .val (.int p2), .val (.int p3), .val (.int (p2 + (1 : Int32))), .val (.int p3)] [(.int (ushI p3 (7 : Int32)))]))
  refine Fin.step (fun _ => XS.istore Xy1.here hx rfl (hb hby d1_34) rfl (l' := #[.val (.ref a1), .val (.int p2), .val (.int p3), .val (.int (p2 + (1 : Int32))), .val (.int (ushI p3 (7 : Int32)))]) rfl) ?_
  show Fin p e below s _ _ _ (Ty1.setTop (mkF m 36 #[.val (.ref a1), .val (.int p2), .val (.int p3), .val (.int (p2 + (1 : Int32))), .val (.int (ushI p3 (7 : Int32)))] []))
  refine Fin.step (fun _ => XS.goto Xy1.here hx rfl (pc0 := 36) (pc' := 5) rfl (hb hby d1_36) (by decide) (by decide)) ?_
  show Fin p e below s _ _ _ (Ty1.setTop (mkF m 5 #[.val (.ref a1), .val (.int p2), .val (.int p3), .val (.int (p2 + (1 : Int32))), .val (.int (ushI p3 (7 : Int32)))] []))
  have S1 := own_st (p2 + (1 : Int32)) 8 S0.2.1 (by decide)
  have J1 : ((p2 + (1 : Int32))).toNatClampNeg = (p2.toNatClampNeg + 1) := S0.2.2.trans (congrArg (· + 1) J0)
  refine Fin.step (fun _ => XS.iload Xy1.here hx rfl (hb hby d1_5) rfl) ?_
  show Fin p e below s _ _ _ (Ty1.setTop (mkF m 7 #[.val (.ref a1), .val (.int p2), .val (.int p3), .val (.int (p2 + (1 : Int32))), .val (.int (ushI p3 (7 : Int32)))] [(.int (ushI p3 (7 : Int32)))]))
  refine Fin.step (fun _ => XS.bipush Xy1.here hx rfl (hb hby d1_7)) ?_
  show Fin p e below s _ _ _ (Ty1.setTop (mkF m 9 #[.val (.ref a1), .val (.int p2), .val (.int p3), .val (.int (p2 + (1 : Int32))), .val (.int (ushI p3 (7 : Int32)))] [(.int (-128 : Int32)), (.int (ushI p3 (7 : Int32)))]))
  refine Fin.step (fun _ => XS.iand Xy1.here hx rfl (hb hby d1_9) rfl) ?_
  show Fin p e below s _ _ _ (Ty1.setTop (mkF m 10 #[.val (.ref a1), .val (.int p2), .val (.int p3), .val (.int (p2 + (1 : Int32))), .val (.int (ushI p3 (7 : Int32)))] [(.int ((ushI p3 (7 : Int32)) &&& (-128 : Int32)))]))
  refine Fin.step (fun _ => XS.ifNo Xy1.here hx rfl (hb hby d1_10) rfl ((if0 _ _).trans (feq (hv1 : ¬ (((ushI p3 (7 : Int32)) &&& (-128 : Int32)) = (0 : Int32)))).1)) ?_
  show Fin p e below s _ _ _ (Ty1.setTop (mkF m 13 #[.val (.ref a1), .val (.int p2), .val (.int p3), .val (.int (p2 + (1 : Int32))), .val (.int (ushI p3 (7 : Int32)))] []))
  refine Fin.step (fun _ => XS.aloadN Xy1.here hx rfl (hb hby d1_13) rfl rfl) ?_
  show Fin p e below s _ _ _ (Ty1.setTop (mkF m 14 #[.val (.ref a1), .val (.int p2), .val (.int p3), .val (.int (p2 + (1 : Int32))), .val (.int (ushI p3 (7 : Int32)))] [(.ref a1)]))
  refine Fin.step (fun _ => XS.iloadN Xy1.here hx rfl (hb hby d1_14) rfl) ?_
  show Fin p e below s _ _ _ (Ty1.setTop (mkF m 15 #[.val (.ref a1), .val (.int p2), .val (.int p3), .val (.int (p2 + (1 : Int32))), .val (.int (ushI p3 (7 : Int32)))] [(.int (p2 + (1 : Int32))), (.ref a1)]))
  refine Fin.step (fun _ => XS.iinc Xy1.here hx rfl (hb hby d1_15) rfl (l' := #[.val (.ref a1), .val (.int p2), .val (.int p3), .val (.int ((p2 + (1 : Int32)) + (1 : Int32))), .val (.int (ushI p3 (7 : Int32)))]) rfl) ?_
  show Fin p e below s _ _ _ (Ty1.setTop (mkF m 18 #[.val (.ref a1), .val (.int p2), .val (.int p3), .val (.int ((p2 + (1 : Int32)) + (1 : Int32))), .val (.int (ushI p3 (7 : Int32)))] [(.int (p2 + (1 : Int32))), (.ref a1)]))
  refine Fin.step (fun _ => XS.iload Xy1.here hx rfl (hb hby d1_18) rfl) ?_
  show Fin p e below s _ _ _ (Ty1.setTop (mkF m 20 #[.val (.ref a1), .val (.int p2), .val (.int p3), .val (.int ((p2 + (1 : Int32)) + (1 : Int32))), .val (.int (ushI p3 (7 : Int32)))] [(.int (ushI p3 (7 : Int32))), (.int (p2 + (1 : Int32))), (.ref a1)]))
  refine Fin.step (fun _ => XS.bipush Xy1.here hx rfl (hb hby d1_20)) ?_
  show Fin p e below s _ _ _ (Ty1.setTop (mkF m 22 #[.val (.ref a1), .val (.int p2), .val (.int p3), .val (.int ((p2 + (1 : Int32)) + (1 : Int32))), .val (.int (ushI p3 (7 : Int32)))] [(.int (127 : Int32)), (.int (ushI p3 (7 : Int32))), (.int (p2 + (1 : Int32))), (.ref a1)]))
  refine Fin.step (fun _ => XS.iand Xy1.here hx rfl (hb hby d1_22) rfl) ?_
  show Fin p e below s _ _ _ (Ty1.setTop (mkF m 23 #[.val (.ref a1), .val (.int p2), .val (.int p3), .val (.int ((p2 + (1 : Int32)) + (1 : Int32))), .val (.int (ushI p3 (7 : Int32)))] [(.int ((ushI p3 (7 : Int32)) &&& (127 : Int32))), (.int (p2 + (1 : Int32))), (.ref a1)]))
  refine Fin.step (fun _ => XS.sipush Xy1.here hx rfl (hb hby d1_23)) ?_
  show Fin p e below s _ _ _ (Ty1.setTop (mkF m 26 #[.val (.ref a1), .val (.int p2), .val (.int p3), .val (.int ((p2 + (1 : Int32)) + (1 : Int32))), .val (.int (ushI p3 (7 : Int32)))] [(.int (128 : Int32)), (.int ((ushI p3 (7 : Int32)) &&& (127 : Int32))), (.int (p2 + (1 : Int32))), (.ref a1)]))
  refine Fin.step (fun _ => XS.ior Xy1.here hx rfl (hb hby d1_26) rfl) ?_
  show Fin p e below s _ _ _ (Ty1.setTop (mkF m 27 #[.val (.ref a1), .val (.int p2), .val (.int p3), .val (.int ((p2 + (1 : Int32)) + (1 : Int32))), .val (.int (ushI p3 (7 : Int32)))] [(.int (((ushI p3 (7 : Int32)) &&& (127 : Int32)) ||| (128 : Int32))), (.int (p2 + (1 : Int32))), (.ref a1)]))
  refine Fin.step (fun _ => XS.i2b Xy1.here hx rfl (hb hby d1_27) rfl) ?_
  show Fin p e below s _ _ _ (Ty1.setTop (mkF m 28 #[.val (.ref a1), .val (.int p2), .val (.int p3), .val (.int ((p2 + (1 : Int32)) + (1 : Int32))), .val (.int (ushI p3 (7 : Int32)))] [(.int ((((ushI p3 (7 : Int32)) &&& (127 : Int32)) ||| (128 : Int32)).toInt8.toInt32)), (.int (p2 + (1 : Int32))), (.ref a1)]))
  have voy2 := Vy1
  obtain ⟨cly2, Ary2, qay2, say2, nay2, hay2, gay2⟩ := voy2
  obtain ⟨Ty2, hy2, Xy2, ey2, Wy2, sty2⟩ := stB Xy1 hx hZ ey1 Ary2 (j := (p2 + (1 : Int32))) (inb_of say2 S1.1) (g := (mkF m 28 #[.val (.ref a1), .val (.int p2), .val (.int p3), .val (.int ((p2 + (1 : Int32)) + (1 : Int32))), .val (.int (ushI p3 (7 : Int32)))] [(.int ((((ushI p3 (7 : Int32)) &&& (127 : Int32)) ||| (128 : Int32)).toInt8.toInt32)), (.int (p2 + (1 : Int32))), (.ref a1)])) rfl rfl (hb hby d1_28)
  have Vy2 : Arv Z hy2 a1 k1 .byte (13 : Int32) (List.set (List.set L0 p2.toNatClampNeg (own_by p3)) (p2.toNatClampNeg + 1) (own_by (ushI p3 (7 : Int32)))) (.int (0 : Int32)) := Arv.set Ary2 qay2 say2 nay2 hay2 gay2 (fits_nar_byte _) Wy2 (p2.toNatClampNeg + 1) J1 (by first | (simp only [List.length_set]; omega) | omega)
  have Zy2 : n0 ≤ hy2.size := Nat.le_trans Zy1 (Keep.of_wr Wy2).1
  have Ky2 : Keep h0 hy2 [a1] := Ky1.wr Wy2 (Or.inl (List.mem_of_getElem? (i := 0) rfl))
  have Ny2 := Fr.snoc Xy2 Ny1 g_a1
  refine Fin.step (sty2) ?_
  show Fin p e below s _ _ _ (Ty2.setTop (mkF m 29 #[.val (.ref a1), .val (.int p2), .val (.int p3), .val (.int ((p2 + (1 : Int32)) + (1 : Int32))), .val (.int (ushI p3 (7 : Int32)))] []))
  refine Fin.step (fun _ => XS.iload Xy2.here hx rfl (hb hby d1_29) rfl) ?_
  show Fin p e below s _ _ _ (Ty2.setTop (mkF m 31 #[.val (.ref a1), .val (.int p2), .val (.int p3), .val (.int ((p2 + (1 : Int32)) + (1 : Int32))), .val (.int (ushI p3 (7 : Int32)))] [(.int (ushI p3 (7 : Int32)))]))
  refine Fin.step (fun _ => XS.bipush Xy2.here hx rfl (hb hby d1_31)) ?_
  show Fin p e below s _ _ _ (Ty2.setTop (mkF m 33 #[.val (.ref a1), .val (.int p2), .val (.int p3), .val (.int ((p2 + (1 : Int32)) + (1 : Int32))), .val (.int (ushI p3 (7 : Int32)))] [(.int (7 : Int32)), (.int (ushI p3 (7 : Int32)))]))
  refine Fin.step (fun _ => XS.iushr Xy2.here hx rfl (hb hby d1_33) rfl) ?_
  show Fin p e below s _ _ _ (Ty2.setTop (mkF m 34 #[.val (.ref a1), .val (.int p2), .val (.int p3), .val (.int ((p2 + (1 : Int32)) + (1 : Int32))), .val (.int (ushI p3 (7 : Int32)))] [(.int (ushI (ushI p3 (7 : Int32)) (7 : Int32)))]))
  refine Fin.step (fun _ => XS.istore Xy2.here hx rfl (hb hby d1_34) rfl (l' := #[.val (.ref a1), .val (.int p2), .val (.int p3), .val (.int ((p2 + (1 : Int32)) + (1 : Int32))), .val (.int (ushI (ushI p3 (7 : Int32)) (7 : Int32)))]) rfl) ?_
  show Fin p e below s _ _ _ (Ty2.setTop (mkF m 36 #[.val (.ref a1), .val (.int p2), .val (.int p3), .val (.int ((p2 + (1 : Int32)) + (1 : Int32))), .val (.int (ushI (ushI p3 (7 : Int32)) (7 : Int32)))] []))
  refine Fin.step (fun _ => XS.goto Xy2.here hx rfl (pc0 := 36) (pc' := 5) rfl (hb hby d1_36) (by decide) (by decide)) ?_
  show Fin p e below s _ _ _ (Ty2.setTop (mkF m 5 #[.val (.ref a1), .val (.int p2), .val (.int p3), .val (.int ((p2 + (1 : Int32)) + (1 : Int32))), .val (.int (ushI (ushI p3 (7 : Int32)) (7 : Int32)))] []))
  have S2 := own_st ((p2 + (1 : Int32)) + (1 : Int32)) 9 S1.2.1 (by decide)
  have J2 : (((p2 + (1 : Int32)) + (1 : Int32))).toNatClampNeg = ((p2.toNatClampNeg + 1) + 1) := S1.2.2.trans (congrArg (· + 1) J1)
  refine Fin.step (fun _ => XS.iload Xy2.here hx rfl (hb hby d1_5) rfl) ?_
  show Fin p e below s _ _ _ (Ty2.setTop (mkF m 7 #[.val (.ref a1), .val (.int p2), .val (.int p3), .val (.int ((p2 + (1 : Int32)) + (1 : Int32))), .val (.int (ushI (ushI p3 (7 : Int32)) (7 : Int32)))] [(.int (ushI (ushI p3 (7 : Int32)) (7 : Int32)))]))
  refine Fin.step (fun _ => XS.bipush Xy2.here hx rfl (hb hby d1_7)) ?_
  show Fin p e below s _ _ _ (Ty2.setTop (mkF m 9 #[.val (.ref a1), .val (.int p2), .val (.int p3), .val (.int ((p2 + (1 : Int32)) + (1 : Int32))), .val (.int (ushI (ushI p3 (7 : Int32)) (7 : Int32)))] [(.int (-128 : Int32)), (.int (ushI (ushI p3 (7 : Int32)) (7 : Int32)))]))
  refine Fin.step (fun _ => XS.iand Xy2.here hx rfl (hb hby d1_9) rfl) ?_
  show Fin p e below s _ _ _ (Ty2.setTop (mkF m 10 #[.val (.ref a1), .val (.int p2), .val (.int p3), .val (.int ((p2 + (1 : Int32)) + (1 : Int32))), .val (.int (ushI (ushI p3 (7 : Int32)) (7 : Int32)))] [(.int ((ushI (ushI p3 (7 : Int32)) (7 : Int32)) &&& (-128 : Int32)))]))
  refine Fin.step (fun _ => XS.ifNo Xy2.here hx rfl (hb hby d1_10) rfl ((if0 _ _).trans (feq (hv2 : ¬ (((ushI (ushI p3 (7 : Int32)) (7 : Int32)) &&& (-128 : Int32)) = (0 : Int32)))).1)) ?_
  show Fin p e below s _ _ _ (Ty2.setTop (mkF m 13 #[.val (.ref a1), .val (.int p2), .val (.int p3), .val (.int ((p2 + (1 : Int32)) + (1 : Int32))), .val (.int (ushI (ushI p3 (7 : Int32)) (7 : Int32)))] []))
  refine Fin.step (fun _ => XS.aloadN Xy2.here hx rfl (hb hby d1_13) rfl rfl) ?_
  show Fin p e below s _ _ _ (Ty2.setTop (mkF m 14 #[.val (.ref a1), .val (.int p2), .val (.int p3), .val (.int ((p2 + (1 : Int32)) + (1 : Int32))), .val (.int (ushI (ushI p3 (7 : Int32)) (7 : Int32)))] [(.ref a1)]))
  refine Fin.step (fun _ => XS.iloadN Xy2.here hx rfl (hb hby d1_14) rfl) ?_
  show Fin p e below s _ _ _ (Ty2.setTop (mkF m 15 #[.val (.ref a1), .val (.int p2), .val (.int p3), .val (.int ((p2 + (1 : Int32)) + (1 : Int32))), .val (.int (ushI (ushI p3 (7 : Int32)) (7 : Int32)))] [(.int ((p2 + (1 : Int32)) + (1 : Int32))), (.ref a1)]))
  refine Fin.step (fun _ => XS.iinc Xy2.here hx rfl (hb hby d1_15) rfl (l' := #[.val (.ref a1), .val (.int p2), .val (.int p3), .val (.int (((p2 + (1 : Int32)) + (1 : Int32)) + (1 : Int32))), .val (.int (ushI (ushI p3 (7 : Int32)) (7 : Int32)))]) rfl) ?_
  show Fin p e below s _ _ _ (Ty2.setTop (mkF m 18 #[.val (.ref a1), .val (.int p2), .val (.int p3), .val (.int (((p2 + (1 : Int32)) + (1 : Int32)) + (1 : Int32))), .val (.int (ushI (ushI p3 (7 : Int32)) (7 : Int32)))] [(.int ((p2 + (1 : Int32)) + (1 : Int32))), (.ref a1)]))
  refine Fin.step (fun _ => XS.iload Xy2.here hx rfl (hb hby d1_18) rfl) ?_
  show Fin p e below s _ _ _ (Ty2.setTop (mkF m 20 #[.val (.ref a1), .val (.int p2), .val (.int p3), .val (.int (((p2 + (1 : Int32)) + (1 : Int32)) + (1 : Int32))), .val (.int (ushI (ushI p3 (7 : Int32)) (7 : Int32)))] [(.int (ushI (ushI p3 (7 : Int32)) (7 : Int32))), (.int ((p2 + (1 : Int32)) + (1 : Int32))), (.ref a1)]))
  refine Fin.step (fun _ => XS.bipush Xy2.here hx rfl (hb hby d1_20)) ?_
  show Fin p e below s _ _ _ (Ty2.setTop (mkF m 22 #[.val (.ref a1), .val (.int p2), .val (.int p3), .val (.int (((p2 + (1 : Int32)) + (1 : Int32)) + (1 : Int32))), .val (.int (ushI (ushI p3 (7 : Int32)) (7 : Int32)))] [(.int (127 : Int32)), (.int (ushI (ushI p3 (7 : Int32)) (7 : Int32))), (.int ((p2 + (1 : Int32)) + (1 : Int32))), (.ref a1)]))
  refine Fin.step (fun _ => XS.iand Xy2.here hx rfl (hb hby d1_22) rfl) ?_
  show Fin p e below s _ _ _ (Ty2.setTop (mkF m 23 #[.val (.ref a1), .val (.int p2), .val (.int p3), .val (.int (((p2 + (1 : Int32)) + (1 : Int32)) + (1 : Int32))), .val (.int (ushI (ushI p3 (7 : Int32)) (7 : Int32)))] [(.int ((ushI (ushI p3 (7 : Int32)) (7 : Int32)) &&& (127 : Int32))), (.int ((p2 + (1 : Int32)) + (1 : Int32))), (.ref a1)]))
  refine Fin.step (fun _ => XS.sipush Xy2.here hx rfl (hb hby d1_23)) ?_
  show Fin p e below s _ _ _ (Ty2.setTop (mkF m 26 #[.val (.ref a1), .val (.int p2), .val (.int p3), .val (.int (((p2 + (1 : Int32)) + (1 : Int32)) + (1 : Int32))), .val (.int (ushI (ushI p3 (7 : Int32)) (7 : Int32)))] [(.int (128 : Int32)), (.int ((ushI (ushI p3 (7 : Int32)) (7 : Int32)) &&& (127 : Int32))), (.int ((p2 + (1 : Int32)) + (1 : Int32))), (.ref a1)]))
  refine Fin.step (fun _ => XS.ior Xy2.here hx rfl (hb hby d1_26) rfl) ?_
  show Fin p e below s _ _ _ (Ty2.setTop (mkF m 27 #[.val (.ref a1), .val (.int p2), .val (.int p3), .val (.int (((p2 + (1 : Int32)) + (1 : Int32)) + (1 : Int32))), .val (.int (ushI (ushI p3 (7 : Int32)) (7 : Int32)))] [(.int (((ushI (ushI p3 (7 : Int32)) (7 : Int32)) &&& (127 : Int32)) ||| (128 : Int32))), (.int ((p2 + (1 : Int32)) + (1 : Int32))), (.ref a1)]))
  refine Fin.step (fun _ => XS.i2b Xy2.here hx rfl (hb hby d1_27) rfl) ?_
  show Fin p e below s _ _ _ (Ty2.setTop (mkF m 28 #[.val (.ref a1), .val (.int p2), .val (.int p3), .val (.int (((p2 + (1 : Int32)) + (1 : Int32)) + (1 : Int32))), .val (.int (ushI (ushI p3 (7 : Int32)) (7 : Int32)))] [(.int ((((ushI (ushI p3 (7 : Int32)) (7 : Int32)) &&& (127 : Int32)) ||| (128 : Int32)).toInt8.toInt32)), (.int ((p2 + (1 : Int32)) + (1 : Int32))), (.ref a1)]))
  have voy3 := Vy2
  obtain ⟨cly3, Ary3, qay3, say3, nay3, hay3, gay3⟩ := voy3
  obtain ⟨Ty3, hy3, Xy3, ey3, Wy3, sty3⟩ := stB Xy2 hx hZ ey2 Ary3 (j := ((p2 + (1 : Int32)) + (1 : Int32))) (inb_of say3 S2.1) (g := (mkF m 28 #[.val (.ref a1), .val (.int p2), .val (.int p3), .val (.int (((p2 + (1 : Int32)) + (1 : Int32)) + (1 : Int32))), .val (.int (ushI (ushI p3 (7 : Int32)) (7 : Int32)))] [(.int ((((ushI (ushI p3 (7 : Int32)) (7 : Int32)) &&& (127 : Int32)) ||| (128 : Int32)).toInt8.toInt32)), (.int ((p2 + (1 : Int32)) + (1 : Int32))), (.ref a1)])) rfl rfl (hb hby d1_28)
  have Vy3 : Arv Z hy3 a1 k1 .byte (13 : Int32) (List.set (List.set (List.set L0 p2.toNatClampNeg (own_by p3)) (p2.toNatClampNeg + 1) (own_by (ushI p3 (7 : Int32)))) ((p2.toNatClampNeg + 1) + 1) (own_by (ushI (ushI p3 (7 : Int32)) (7 : Int32)))) (.int (0 : Int32)) := Arv.set Ary3 qay3 say3 nay3 hay3 gay3 (fits_nar_byte _) Wy3 ((p2.toNatClampNeg + 1) + 1) J2 (by first | (simp only [List.length_set]; omega) | omega)
  have Zy3 : n0 ≤ hy3.size := Nat.le_trans Zy2 (Keep.of_wr Wy3).1
  have Ky3 : Keep h0 hy3 [a1] := Ky2.wr Wy3 (Or.inl (List.mem_of_getElem? (i := 0) rfl))
  have Ny3 := Fr.snoc Xy3 Ny2 g_a1
  refine Fin.step (sty3) ?_
  show Fin p e below s _ _ _ (Ty3.setTop (mkF m 29 #[.val (.ref a1), .val (.int p2), .val (.int p3), .val (.int (((p2 + (1 : Int32)) + (1 : Int32)) + (1 : Int32))), .val (.int (ushI (ushI p3 (7 : Int32)) (7 : Int32)))] []))
  refine Fin.step (fun _ => XS.iload Xy3.here hx rfl (hb hby d1_29) rfl) ?_
  show Fin p e below s _ _ _ (Ty3.setTop (mkF m 31 #[.val (.ref a1), .val (.int p2), .val (.int p3), .val (.int (((p2 + (1 : Int32)) + (1 : Int32)) + (1 : Int32))), .val (.int (ushI (ushI p3 (7 : Int32)) (7 : Int32)))] [(.int (ushI (ushI p3 (7 : Int32)) (7 : Int32)))]))
  refine Fin.step (fun _ => XS.bipush Xy3.here hx rfl (hb hby d1_31)) ?_
  show Fin p e below s _ _ _ (Ty3.setTop (mkF m 33 #[.val (.ref a1), .val (.int p2), .val (.int p3), .val (.int (((p2 + (1 : Int32)) + (1 : Int32)) + (1 : Int32))), .val (.int (ushI (ushI p3 (7 : Int32)) (7 : Int32)))] [(.int (7 : Int32)), (.int (ushI (ushI p3 (7 : Int32)) (7 : Int32)))]))
  refine Fin.step (fun _ => XS.iushr Xy3.here hx rfl (hb hby d1_33) rfl) ?_
  show Fin p e below s _ _ _ (Ty3.setTop (mkF m 34 #[.val (.ref a1), .val (.int p2), .val (.int p3), .val (.int (((p2 + (1 : Int32)) + (1 : Int32)) + (1 : Int32))), .val (.int (ushI (ushI p3 (7 : Int32)) (7 : Int32)))] [(.int (ushI (ushI (ushI p3 (7 : Int32)) (7 : Int32)) (7 : Int32)))]))
  refine Fin.step (fun _ => XS.istore Xy3.here hx rfl (hb hby d1_34) rfl (l' := #[.val (.ref a1), .val (.int p2), .val (.int p3), .val (.int (((p2 + (1 : Int32)) + (1 : Int32)) + (1 : Int32))), .val (.int (ushI (ushI (ushI p3 (7 : Int32)) (7 : Int32)) (7 : Int32)))]) rfl) ?_
  show Fin p e below s _ _ _ (Ty3.setTop (mkF m 36 #[.val (.ref a1), .val (.int p2), .val (.int p3), .val (.int (((p2 + (1 : Int32)) + (1 : Int32)) + (1 : Int32))), .val (.int (ushI (ushI (ushI p3 (7 : Int32)) (7 : Int32)) (7 : Int32)))] []))
  refine Fin.step (fun _ => XS.goto Xy3.here hx rfl (pc0 := 36) (pc' := 5) rfl (hb hby d1_36) (by decide) (by decide)) ?_
  show Fin p e below s _ _ _ (Ty3.setTop (mkF m 5 #[.val (.ref a1), .val (.int p2), .val (.int p3), .val (.int (((p2 + (1 : Int32)) + (1 : Int32)) + (1 : Int32))), .val (.int (ushI (ushI (ushI p3 (7 : Int32)) (7 : Int32)) (7 : Int32)))] []))
  have S3 := own_st (((p2 + (1 : Int32)) + (1 : Int32)) + (1 : Int32)) 10 S2.2.1 (by decide)
  have J3 : ((((p2 + (1 : Int32)) + (1 : Int32)) + (1 : Int32))).toNatClampNeg = (((p2.toNatClampNeg + 1) + 1) + 1) := S2.2.2.trans (congrArg (· + 1) J2)
  refine Fin.step (fun _ => XS.iload Xy3.here hx rfl (hb hby d1_5) rfl) ?_
  show Fin p e below s _ _ _ (Ty3.setTop (mkF m 7 #[.val (.ref a1), .val (.int p2), .val (.int p3), .val (.int (((p2 + (1 : Int32)) + (1 : Int32)) + (1 : Int32))), .val (.int (ushI (ushI (ushI p3 (7 : Int32)) (7 : Int32)) (7 : Int32)))] [(.int (ushI (ushI (ushI p3 (7 : Int32)) (7 : Int32)) (7 : Int32)))]))
  refine Fin.step (fun _ => XS.bipush Xy3.here hx rfl (hb hby d1_7)) ?_
  show Fin p e below s _ _ _ (Ty3.setTop (mkF m 9 #[.val (.ref a1), .val (.int p2), .val (.int p3), .val (.int (((p2 + (1 : Int32)) + (1 : Int32)) + (1 : Int32))), .val (.int (ushI (ushI (ushI p3 (7 : Int32)) (7 : Int32)) (7 : Int32)))] [(.int (-128 : Int32)), (.int (ushI (ushI (ushI p3 (7 : Int32)) (7 : Int32)) (7 : Int32)))]))
  refine Fin.step (fun _ => XS.iand Xy3.here hx rfl (hb hby d1_9) rfl) ?_
  show Fin p e below s _ _ _ (Ty3.setTop (mkF m 10 #[.val (.ref a1), .val (.int p2), .val (.int p3), .val (.int (((p2 + (1 : Int32)) + (1 : Int32)) + (1 : Int32))), .val (.int (ushI (ushI (ushI p3 (7 : Int32)) (7 : Int32)) (7 : Int32)))] [(.int ((ushI (ushI (ushI p3 (7 : Int32)) (7 : Int32)) (7 : Int32)) &&& (-128 : Int32)))]))
  refine Fin.step (fun _ => XS.ifNo Xy3.here hx rfl (hb hby d1_10) rfl ((if0 _ _).trans (feq (hv3 : ¬ (((ushI (ushI (ushI p3 (7 : Int32)) (7 : Int32)) (7 : Int32)) &&& (-128 : Int32)) = (0 : Int32)))).1)) ?_
  show Fin p e below s _ _ _ (Ty3.setTop (mkF m 13 #[.val (.ref a1), .val (.int p2), .val (.int p3), .val (.int (((p2 + (1 : Int32)) + (1 : Int32)) + (1 : Int32))), .val (.int (ushI (ushI (ushI p3 (7 : Int32)) (7 : Int32)) (7 : Int32)))] []))
  refine Fin.step (fun _ => XS.aloadN Xy3.here hx rfl (hb hby d1_13) rfl rfl) ?_
  show Fin p e below s _ _ _ (Ty3.setTop (mkF m 14 #[.val (.ref a1), .val (.int p2), .val (.int p3), .val (.int (((p2 + (1 : Int32)) + (1 : Int32)) + (1 : Int32))), .val (.int (ushI (ushI (ushI p3 (7 : Int32)) (7 : Int32)) (7 : Int32)))] [(.ref a1)]))
  refine Fin.step (fun _ => XS.iloadN Xy3.here hx rfl (hb hby d1_14) rfl) ?_
  show Fin p e below s _ _ _ (Ty3.setTop (mkF m 15 #[.val (.ref a1), .val (.int p2), .val (.int p3), .val (.int (((p2 + (1 : Int32)) + (1 : Int32)) + (1 : Int32))), .val (.int (ushI (ushI (ushI p3 (7 : Int32)) (7 : Int32)) (7 : Int32)))] [(.int (((p2 + (1 : Int32)) + (1 : Int32)) + (1 : Int32))), (.ref a1)]))
  refine Fin.step (fun _ => XS.iinc Xy3.here hx rfl (hb hby d1_15) rfl (l' := #[.val (.ref a1), .val (.int p2), .val (.int p3), .val (.int ((((p2 + (1 : Int32)) + (1 : Int32)) + (1 : Int32)) + (1 : Int32))), .val (.int (ushI (ushI (ushI p3 (7 : Int32)) (7 : Int32)) (7 : Int32)))]) rfl) ?_
  show Fin p e below s _ _ _ (Ty3.setTop (mkF m 18 #[.val (.ref a1), .val (.int p2), .val (.int p3), .val (.int ((((p2 + (1 : Int32)) + (1 : Int32)) + (1 : Int32)) + (1 : Int32))), .val (.int (ushI (ushI (ushI p3 (7 : Int32)) (7 : Int32)) (7 : Int32)))] [(.int (((p2 + (1 : Int32)) + (1 : Int32)) + (1 : Int32))), (.ref a1)]))
  refine Fin.step (fun _ => XS.iload Xy3.here hx rfl (hb hby d1_18) rfl) ?_
  show Fin p e below s _ _ _ (Ty3.setTop (mkF m 20 #[.val (.ref a1), .val (.int p2), .val (.int p3), .val (.int ((((p2 + (1 : Int32)) + (1 : Int32)) + (1 : Int32)) + (1 : Int32))), .val (.int (ushI (ushI (ushI p3 (7 : Int32)) (7 : Int32)) (7 : Int32)))] [(.int (ushI (ushI (ushI p3 (7 : Int32)) (7 : Int32)) (7 : Int32))), (.int (((p2 + (1 : Int32)) + (1 : Int32)) + (1 : Int32))), (.ref a1)]))
  refine Fin.step (fun _ => XS.bipush Xy3.here hx rfl (hb hby d1_20)) ?_
  show Fin p e below s _ _ _ (Ty3.setTop (mkF m 22 #[.val (.ref a1), .val (.int p2), .val (.int p3), .val (.int ((((p2 + (1 : Int32)) + (1 : Int32)) + (1 : Int32)) + (1 : Int32))), .val (.int (ushI (ushI (ushI p3 (7 : Int32)) (7 : Int32)) (7 : Int32)))] [(.int (127 : Int32)), (.int (ushI (ushI (ushI p3 (7 : Int32)) (7 : Int32)) (7 : Int32))), (.int (((p2 + (1 : Int32)) + (1 : Int32)) + (1 : Int32))), (.ref a1)]))
  refine Fin.step (fun _ => XS.iand Xy3.here hx rfl (hb hby d1_22) rfl) ?_
  show Fin p e below s _ _ _ (Ty3.setTop (mkF m 23 #[.val (.ref a1), .val (.int p2), .val (.int p3), .val (.int ((((p2 + (1 : Int32)) + (1 : Int32)) + (1 : Int32)) + (1 : Int32))), .val (.int (ushI (ushI (ushI p3 (7 : Int32)) (7 : Int32)) (7 : Int32)))] [(.int ((ushI (ushI (ushI p3 (7 : Int32)) (7 : Int32)) (7 : Int32)) &&& (127 : Int32))), (.int (((p2 + (1 : Int32)) + (1 : Int32)) + (1 : Int32))), (.ref a1)]))
  refine Fin.step (fun _ => XS.sipush Xy3.here hx rfl (hb hby d1_23)) ?_
  show Fin p e below s _ _ _ (Ty3.setTop (mkF m 26 #[.val (.ref a1), .val (.int p2), .val (.int p3), .val (.int ((((p2 + (1 : Int32)) + (1 : Int32)) + (1 : Int32)) + (1 : Int32))), .val (.int (ushI (ushI (ushI p3 (7 : Int32)) (7 : Int32)) (7 : Int32)))] [(.int (128 : Int32)), (.int ((ushI (ushI (ushI p3 (7 : Int32)) (7 : Int32)) (7 : Int32)) &&& (127 : Int32))), (.int (((p2 + (1 : Int32)) + (1 : Int32)) + (1 : Int32))), (.ref a1)]))
  refine Fin.step (fun _ => XS.ior Xy3.here hx rfl (hb hby d1_26) rfl) ?_
  show Fin p e below s _ _ _ (Ty3.setTop (mkF m 27 #[.val (.ref a1), .val (.int p2), .val (.int p3), .val (.int ((((p2 + (1 : Int32)) + (1 : Int32)) + (1 : Int32)) + (1 : Int32))), .val (.int (ushI (ushI (ushI p3 (7 : Int32)) (7 : Int32)) (7 : Int32)))] [(.int (((ushI (ushI (ushI p3 (7 : Int32)) (7 : Int32)) (7 : Int32)) &&& (127 : Int32)) ||| (128 : Int32))), (.int (((p2 + (1 : Int32)) + (1 : Int32)) + (1 : Int32))), (.ref a1)]))
  refine Fin.step (fun _ => XS.i2b Xy3.here hx rfl (hb hby d1_27) rfl) ?_
  show Fin p e below s _ _ _ (Ty3.setTop (mkF m 28 #[.val (.ref a1), .val (.int p2), .val (.int p3), .val (.int ((((p2 + (1 : Int32)) + (1 : Int32)) + (1 : Int32)) + (1 : Int32))), .val (.int (ushI (ushI (ushI p3 (7 : Int32)) (7 : Int32)) (7 : Int32)))] [(.int ((((ushI (ushI (ushI p3 (7 : Int32)) (7 : Int32)) (7 : Int32)) &&& (127 : Int32)) ||| (128 : Int32)).toInt8.toInt32)), (.int (((p2 + (1 : Int32)) + (1 : Int32)) + (1 : Int32))), (.ref a1)]))
  have voy4 := Vy3
  obtain ⟨cly4, Ary4, qay4, say4, nay4, hay4, gay4⟩ := voy4
  obtain ⟨Ty4, hy4, Xy4, ey4, Wy4, sty4⟩ := stB Xy3 hx hZ ey3 Ary4 (j := (((p2 + (1 : Int32)) + (1 : Int32)) + (1 : Int32))) (inb_of say4 S3.1) (g := (mkF m 28 #[.val (.ref a1), .val (.int p2), .val (.int p3), .val (.int ((((p2 + (1 : Int32)) + (1 : Int32)) + (1 : Int32)) + (1 : Int32))), .val (.int (ushI (ushI (ushI p3 (7 : Int32)) (7 : Int32)) (7 : Int32)))] [(.int ((((ushI (ushI (ushI p3 (7 : Int32)) (7 : Int32)) (7 : Int32)) &&& (127 : Int32)) ||| (128 : Int32)).toInt8.toInt32)), (.int (((p2 + (1 : Int32)) + (1 : Int32)) + (1 : Int32))), (.ref a1)])) rfl rfl (hb hby d1_28)
  have Vy4 : Arv Z hy4 a1 k1 .byte (13 : Int32) (List.set (List.set (List.set (List.set L0 p2.toNatClampNeg (own_by p3)) (p2.toNatClampNeg + 1) (own_by (ushI p3 (7 : Int32)))) ((p2.toNatClampNeg + 1) + 1) (own_by (ushI (ushI p3 (7 : Int32)) (7 : Int32)))) (((p2.toNatClampNeg + 1) + 1) + 1) (own_by (ushI (ushI (ushI p3 (7 : Int32)) (7 : Int32)) (7 : Int32)))) (.int (0 : Int32)) := Arv.set Ary4 qay4 say4 nay4 hay4 gay4 (fits_nar_byte _) Wy4 (((p2.toNatClampNeg + 1) + 1) + 1) J3 (by first | (simp only [List.length_set]; omega) | omega)
  have Zy4 : n0 ≤ hy4.size := Nat.le_trans Zy3 (Keep.of_wr Wy4).1
  have Ky4 : Keep h0 hy4 [a1] := Ky3.wr Wy4 (Or.inl (List.mem_of_getElem? (i := 0) rfl))
  have Ny4 := Fr.snoc Xy4 Ny3 g_a1
  refine Fin.step (sty4) ?_
  show Fin p e below s _ _ _ (Ty4.setTop (mkF m 29 #[.val (.ref a1), .val (.int p2), .val (.int p3), .val (.int ((((p2 + (1 : Int32)) + (1 : Int32)) + (1 : Int32)) + (1 : Int32))), .val (.int (ushI (ushI (ushI p3 (7 : Int32)) (7 : Int32)) (7 : Int32)))] []))
  refine Fin.step (fun _ => XS.iload Xy4.here hx rfl (hb hby d1_29) rfl) ?_
  show Fin p e below s _ _ _ (Ty4.setTop (mkF m 31 #[.val (.ref a1), .val (.int p2), .val (.int p3), .val (.int ((((p2 + (1 : Int32)) + (1 : Int32)) + (1 : Int32)) + (1 : Int32))), .val (.int (ushI (ushI (ushI p3 (7 : Int32)) (7 : Int32)) (7 : Int32)))] [(.int (ushI (ushI (ushI p3 (7 : Int32)) (7 : Int32)) (7 : Int32)))]))
  refine Fin.step (fun _ => XS.bipush Xy4.here hx rfl (hb hby d1_31)) ?_
  show Fin p e below s _ _ _ (Ty4.setTop (mkF m 33 #[.val (.ref a1), .val (.int p2), .val (.int p3), .val (.int ((((p2 + (1 : Int32)) + (1 : Int32)) + (1 : Int32)) + (1 : Int32))), .val (.int (ushI (ushI (ushI p3 (7 : Int32)) (7 : Int32)) (7 : Int32)))] [(.int (7 : Int32)), (.int (ushI (ushI (ushI p3 (7 : Int32)) (7 : Int32)) (7 : Int32)))]))
  refine Fin.step (fun _ => XS.iushr Xy4.here hx rfl (hb hby d1_33) rfl) ?_
  show Fin p e below s _ _ _ (Ty4.setTop (mkF m 34 #[.val (.ref a1), .val (.int p2), .val (.int p3), .val (.int ((((p2 + (1 : Int32)) + (1 : Int32)) + (1 : Int32)) + (1 : Int32))), .val (.int (ushI (ushI (ushI p3 (7 : Int32)) (7 : Int32)) (7 : Int32)))] [(.int (ushI (ushI (ushI (ushI p3 (7 : Int32)) (7 : Int32)) (7 : Int32)) (7 : Int32)))]))
  refine Fin.step (fun _ => XS.istore Xy4.here hx rfl (hb hby d1_34) rfl (l' := #[.val (.ref a1), .val (.int p2), .val (.int p3), .val (.int ((((p2 + (1 : Int32)) + (1 : Int32)) + (1 : Int32)) + (1 : Int32))), .val (.int (ushI (ushI (ushI (ushI p3 (7 : Int32)) (7 : Int32)) (7 : Int32)) (7 : Int32)))]) rfl) ?_
  show Fin p e below s _ _ _ (Ty4.setTop (mkF m 36 #[.val (.ref a1), .val (.int p2), .val (.int p3), .val (.int ((((p2 + (1 : Int32)) + (1 : Int32)) + (1 : Int32)) + (1 : Int32))), .val (.int (ushI (ushI (ushI (ushI p3 (7 : Int32)) (7 : Int32)) (7 : Int32)) (7 : Int32)))] []))
  refine Fin.step (fun _ => XS.goto Xy4.here hx rfl (pc0 := 36) (pc' := 5) rfl (hb hby d1_36) (by decide) (by decide)) ?_
  show Fin p e below s _ _ _ (Ty4.setTop (mkF m 5 #[.val (.ref a1), .val (.int p2), .val (.int p3), .val (.int ((((p2 + (1 : Int32)) + (1 : Int32)) + (1 : Int32)) + (1 : Int32))), .val (.int (ushI (ushI (ushI (ushI p3 (7 : Int32)) (7 : Int32)) (7 : Int32)) (7 : Int32)))] []))
  have S4 := own_st ((((p2 + (1 : Int32)) + (1 : Int32)) + (1 : Int32)) + (1 : Int32)) 11 S3.2.1 (by decide)
  have J4 : (((((p2 + (1 : Int32)) + (1 : Int32)) + (1 : Int32)) + (1 : Int32))).toNatClampNeg = ((((p2.toNatClampNeg + 1) + 1) + 1) + 1) := S3.2.2.trans (congrArg (· + 1) J3)
  refine Fin.step (fun _ => XS.iload Xy4.here hx rfl (hb hby d1_5) rfl) ?_
  show Fin p e below s _ _ _ (Ty4.setTop (mkF m 7 #[.val (.ref a1), .val (.int p2), .val (.int p3), .val (.int ((((p2 + (1 : Int32)) + (1 : Int32)) + (1 : Int32)) + (1 : Int32))), .val (.int (ushI (ushI (ushI (ushI p3 (7 : Int32)) (7 : Int32)) (7 : Int32)) (7 : Int32)))] [(.int (ushI (ushI (ushI (ushI p3 (7 : Int32)) (7 : Int32)) (7 : Int32)) (7 : Int32)))]))
  refine Fin.step (fun _ => XS.bipush Xy4.here hx rfl (hb hby d1_7)) ?_
  show Fin p e below s _ _ _ (Ty4.setTop (mkF m 9 #[.val (.ref a1), .val (.int p2), .val (.int p3), .val (.int ((((p2 + (1 : Int32)) + (1 : Int32)) + (1 : Int32)) + (1 : Int32))), .val (.int (ushI (ushI (ushI (ushI p3 (7 : Int32)) (7 : Int32)) (7 : Int32)) (7 : Int32)))] [(.int (-128 : Int32)), (.int (ushI (ushI (ushI (ushI p3 (7 : Int32)) (7 : Int32)) (7 : Int32)) (7 : Int32)))]))
  refine Fin.step (fun _ => XS.iand Xy4.here hx rfl (hb hby d1_9) rfl) ?_
  show Fin p e below s _ _ _ (Ty4.setTop (mkF m 10 #[.val (.ref a1), .val (.int p2), .val (.int p3), .val (.int ((((p2 + (1 : Int32)) + (1 : Int32)) + (1 : Int32)) + (1 : Int32))), .val (.int (ushI (ushI (ushI (ushI p3 (7 : Int32)) (7 : Int32)) (7 : Int32)) (7 : Int32)))] [(.int ((ushI (ushI (ushI (ushI p3 (7 : Int32)) (7 : Int32)) (7 : Int32)) (7 : Int32)) &&& (-128 : Int32)))]))
  refine Fin.step (fun _ => XS.ifYes Xy4.here hx rfl (pc0 := 10) (pc' := 39) rfl (hb hby d1_10) rfl ((if0 _ _).trans (teq (hv4 : (((ushI (ushI (ushI (ushI p3 (7 : Int32)) (7 : Int32)) (7 : Int32)) (7 : Int32)) &&& (-128 : Int32)) = (0 : Int32)))).1) (by decide) (by decide)) ?_
  show Fin p e below s _ _ _ (Ty4.setTop (mkF m 39 #[.val (.ref a1), .val (.int p2), .val (.int p3), .val (.int ((((p2 + (1 : Int32)) + (1 : Int32)) + (1 : Int32)) + (1 : Int32))), .val (.int (ushI (ushI (ushI (ushI p3 (7 : Int32)) (7 : Int32)) (7 : Int32)) (7 : Int32)))] []))
  refine Fin.step (fun _ => XS.aloadN Xy4.here hx rfl (hb hby d1_39) rfl rfl) ?_
  show Fin p e below s _ _ _ (Ty4.setTop (mkF m 40 #[.val (.ref a1), .val (.int p2), .val (.int p3), .val (.int ((((p2 + (1 : Int32)) + (1 : Int32)) + (1 : Int32)) + (1 : Int32))), .val (.int (ushI (ushI (ushI (ushI p3 (7 : Int32)) (7 : Int32)) (7 : Int32)) (7 : Int32)))] [(.ref a1)]))
  refine Fin.step (fun _ => XS.iloadN Xy4.here hx rfl (hb hby d1_40) rfl) ?_
  show Fin p e below s _ _ _ (Ty4.setTop (mkF m 41 #[.val (.ref a1), .val (.int p2), .val (.int p3), .val (.int ((((p2 + (1 : Int32)) + (1 : Int32)) + (1 : Int32)) + (1 : Int32))), .val (.int (ushI (ushI (ushI (ushI p3 (7 : Int32)) (7 : Int32)) (7 : Int32)) (7 : Int32)))] [(.int ((((p2 + (1 : Int32)) + (1 : Int32)) + (1 : Int32)) + (1 : Int32))), (.ref a1)]))
  refine Fin.step (fun _ => XS.iinc Xy4.here hx rfl (hb hby d1_41) rfl (l' := #[.val (.ref a1), .val (.int p2), .val (.int p3), .val (.int (((((p2 + (1 : Int32)) + (1 : Int32)) + (1 : Int32)) + (1 : Int32)) + (1 : Int32))), .val (.int (ushI (ushI (ushI (ushI p3 (7 : Int32)) (7 : Int32)) (7 : Int32)) (7 : Int32)))]) rfl) ?_
  show Fin p e below s _ _ _ (Ty4.setTop (mkF m 44 #[.val (.ref a1), .val (.int p2), .val (.int p3), .val (.int (((((p2 + (1 : Int32)) + (1 : Int32)) + (1 : Int32)) + (1 : Int32)) + (1 : Int32))), .val (.int (ushI (ushI (ushI (ushI p3 (7 : Int32)) (7 : Int32)) (7 : Int32)) (7 : Int32)))] [(.int ((((p2 + (1 : Int32)) + (1 : Int32)) + (1 : Int32)) + (1 : Int32))), (.ref a1)]))
  refine Fin.step (fun _ => XS.iload Xy4.here hx rfl (hb hby d1_44) rfl) ?_
  show Fin p e below s _ _ _ (Ty4.setTop (mkF m 46 #[.val (.ref a1), .val (.int p2), .val (.int p3), .val (.int (((((p2 + (1 : Int32)) + (1 : Int32)) + (1 : Int32)) + (1 : Int32)) + (1 : Int32))), .val (.int (ushI (ushI (ushI (ushI p3 (7 : Int32)) (7 : Int32)) (7 : Int32)) (7 : Int32)))] [(.int (ushI (ushI (ushI (ushI p3 (7 : Int32)) (7 : Int32)) (7 : Int32)) (7 : Int32))), (.int ((((p2 + (1 : Int32)) + (1 : Int32)) + (1 : Int32)) + (1 : Int32))), (.ref a1)]))
  refine Fin.step (fun _ => XS.i2b Xy4.here hx rfl (hb hby d1_46) rfl) ?_
  show Fin p e below s _ _ _ (Ty4.setTop (mkF m 47 #[.val (.ref a1), .val (.int p2), .val (.int p3), .val (.int (((((p2 + (1 : Int32)) + (1 : Int32)) + (1 : Int32)) + (1 : Int32)) + (1 : Int32))), .val (.int (ushI (ushI (ushI (ushI p3 (7 : Int32)) (7 : Int32)) (7 : Int32)) (7 : Int32)))] [(.int ((ushI (ushI (ushI (ushI p3 (7 : Int32)) (7 : Int32)) (7 : Int32)) (7 : Int32)).toInt8.toInt32)), (.int ((((p2 + (1 : Int32)) + (1 : Int32)) + (1 : Int32)) + (1 : Int32))), (.ref a1)]))
  have voy5 := Vy4
  obtain ⟨cly5, Ary5, qay5, say5, nay5, hay5, gay5⟩ := voy5
  obtain ⟨Ty5, hy5, Xy5, ey5, Wy5, sty5⟩ := stB Xy4 hx hZ ey4 Ary5 (j := ((((p2 + (1 : Int32)) + (1 : Int32)) + (1 : Int32)) + (1 : Int32))) (inb_of say5 S4.1) (g := (mkF m 47 #[.val (.ref a1), .val (.int p2), .val (.int p3), .val (.int (((((p2 + (1 : Int32)) + (1 : Int32)) + (1 : Int32)) + (1 : Int32)) + (1 : Int32))), .val (.int (ushI (ushI (ushI (ushI p3 (7 : Int32)) (7 : Int32)) (7 : Int32)) (7 : Int32)))] [(.int ((ushI (ushI (ushI (ushI p3 (7 : Int32)) (7 : Int32)) (7 : Int32)) (7 : Int32)).toInt8.toInt32)), (.int ((((p2 + (1 : Int32)) + (1 : Int32)) + (1 : Int32)) + (1 : Int32))), (.ref a1)])) rfl rfl (hb hby d1_47)
  have Vy5 : Arv Z hy5 a1 k1 .byte (13 : Int32) (List.set (List.set (List.set (List.set (List.set L0 p2.toNatClampNeg (own_by p3)) (p2.toNatClampNeg + 1) (own_by (ushI p3 (7 : Int32)))) ((p2.toNatClampNeg + 1) + 1) (own_by (ushI (ushI p3 (7 : Int32)) (7 : Int32)))) (((p2.toNatClampNeg + 1) + 1) + 1) (own_by (ushI (ushI (ushI p3 (7 : Int32)) (7 : Int32)) (7 : Int32)))) ((((p2.toNatClampNeg + 1) + 1) + 1) + 1) (own_la (ushI (ushI (ushI (ushI p3 (7 : Int32)) (7 : Int32)) (7 : Int32)) (7 : Int32)))) (.int (0 : Int32)) := Arv.set Ary5 qay5 say5 nay5 hay5 gay5 (fits_nar_byte _) Wy5 ((((p2.toNatClampNeg + 1) + 1) + 1) + 1) J4 (by first | (simp only [List.length_set]; omega) | omega)
  have Zy5 : n0 ≤ hy5.size := Nat.le_trans Zy4 (Keep.of_wr Wy5).1
  have Ky5 : Keep h0 hy5 [a1] := Ky4.wr Wy5 (Or.inl (List.mem_of_getElem? (i := 0) rfl))
  have Ny5 := Fr.snoc Xy5 Ny4 g_a1
  refine Fin.step (sty5) ?_
  show Fin p e below s _ _ _ (Ty5.setTop (mkF m 48 #[.val (.ref a1), .val (.int p2), .val (.int p3), .val (.int (((((p2 + (1 : Int32)) + (1 : Int32)) + (1 : Int32)) + (1 : Int32)) + (1 : Int32))), .val (.int (ushI (ushI (ushI (ushI p3 (7 : Int32)) (7 : Int32)) (7 : Int32)) (7 : Int32)))] []))
  refine Fin.step (fun _ => XS.iloadN Xy5.here hx rfl (hb hby d1_48) rfl) ?_
  show Fin p e below s _ _ _ (Ty5.setTop (mkF m 49 #[.val (.ref a1), .val (.int p2), .val (.int p3), .val (.int (((((p2 + (1 : Int32)) + (1 : Int32)) + (1 : Int32)) + (1 : Int32)) + (1 : Int32))), .val (.int (ushI (ushI (ushI (ushI p3 (7 : Int32)) (7 : Int32)) (7 : Int32)) (7 : Int32)))] [(.int (((((p2 + (1 : Int32)) + (1 : Int32)) + (1 : Int32)) + (1 : Int32)) + (1 : Int32)))]))
  refine Fin.retI Xy5 hx hret hlk (hb hby d1_49) (by decide) (by decide) ?_
  show Qv5 Z a1 p2 p3 k1 L0 h0 n0 _ Ty5.heap _
  rw [ey5]
  exact ⟨rfl, Ny5, Ky5, Vy5⟩
theorem d2_0 : decode method_3_code 0 = .ok (.iload_n 1, 1) := by decide +kernel
theorem d2_1 : decode method_3_code 1 = .ok (.iload_n 2, 1) := by decide +kernel
theorem d2_2 : decode method_3_code 2 = .ok (.isub, 1) := by decide +kernel
theorem d2_3 : decode method_3_code 3 = .ok (.istore 7, 2) := by decide +kernel
theorem d2_5 : decode method_3_code 5 = .ok (.iload 7, 2) := by decide +kernel
theorem d2_7 : decode method_3_code 7 = .ok (.ifCond .lt 9, 3) := by decide +kernel
theorem d2_10 : decode method_3_code 10 = .ok (.iload 7, 2) := by decide +kernel
theorem d2_12 : decode method_3_code 12 = .ok (.iload_n 3, 1) := by decide +kernel
theorem d2_13 : decode method_3_code 13 = .ok (.if_icmp .lt 17, 3) := by decide +kernel
theorem d2_16 : decode method_3_code 16 = .ok (.aload_n 0, 1) := by decide +kernel
theorem d2_17 : decode method_3_code 17 = .ok (.iload_n 1, 1) := by decide +kernel
theorem d2_18 : decode method_3_code 18 = .ok (.baload, 1) := by decide +kernel
theorem d2_19 : decode method_3_code 19 = .ok (.iload 6, 2) := by decide +kernel
theorem d2_21 : decode method_3_code 21 = .ok (.if_icmp .ne 7, 3) := by decide +kernel
theorem d2_24 : decode method_3_code 24 = .ok (.iconst 1, 1) := by decide +kernel
theorem d2_25 : decode method_3_code 25 = .ok (.goto 4, 3) := by decide +kernel
theorem d2_28 : decode method_3_code 28 = .ok (.iconst 0, 1) := by decide +kernel
theorem d2_29 : decode method_3_code 29 = .ok (.ireturn, 1) := by decide +kernel
theorem d2_30 : decode method_3_code 30 = .ok (.lload 4, 2) := by decide +kernel
theorem d2_32 : decode method_3_code 32 = .ok (.bipush 7, 2) := by decide +kernel
theorem d2_34 : decode method_3_code 34 = .ok (.iload 7, 2) := by decide +kernel
theorem d2_36 : decode method_3_code 36 = .ok (.imul, 1) := by decide +kernel
theorem d2_37 : decode method_3_code 37 = .ok (.lushr, 1) := by decide +kernel
theorem d2_38 : decode method_3_code 38 = .ok (.ldc2_w 29, 3) := by decide +kernel
theorem d2_41 : decode method_3_code 41 = .ok (.land, 1) := by decide +kernel
theorem d2_42 : decode method_3_code 42 = .ok (.l2i, 1) := by decide +kernel
theorem d2_43 : decode method_3_code 43 = .ok (.istore 8, 2) := by decide +kernel
theorem d2_45 : decode method_3_code 45 = .ok (.iload 7, 2) := by decide +kernel
theorem d2_47 : decode method_3_code 47 = .ok (.iload_n 3, 1) := by decide +kernel
theorem d2_48 : decode method_3_code 48 = .ok (.iconst 1, 1) := by decide +kernel
theorem d2_49 : decode method_3_code 49 = .ok (.isub, 1) := by decide +kernel
theorem d2_50 : decode method_3_code 50 = .ok (.if_icmp .ge 12, 3) := by decide +kernel
theorem d2_53 : decode method_3_code 53 = .ok (.iload 8, 2) := by decide +kernel
theorem d2_55 : decode method_3_code 55 = .ok (.sipush 128, 3) := by decide +kernel
theorem d2_58 : decode method_3_code 58 = .ok (.ior, 1) := by decide +kernel
theorem d2_59 : decode method_3_code 59 = .ok (.goto 5, 3) := by decide +kernel
theorem d2_62 : decode method_3_code 62 = .ok (.iload 8, 2) := by decide +kernel
theorem d2_64 : decode method_3_code 64 = .ok (.istore 9, 2) := by decide +kernel
theorem d2_66 : decode method_3_code 66 = .ok (.aload_n 0, 1) := by decide +kernel
theorem d2_67 : decode method_3_code 67 = .ok (.iload_n 1, 1) := by decide +kernel
theorem d2_68 : decode method_3_code 68 = .ok (.baload, 1) := by decide +kernel
theorem d2_69 : decode method_3_code 69 = .ok (.iload 9, 2) := by decide +kernel
theorem d2_71 : decode method_3_code 71 = .ok (.i2b, 1) := by decide +kernel
theorem d2_72 : decode method_3_code 72 = .ok (.if_icmp .ne 7, 3) := by decide +kernel
theorem d2_75 : decode method_3_code 75 = .ok (.iconst 1, 1) := by decide +kernel
theorem d2_76 : decode method_3_code 76 = .ok (.goto 4, 3) := by decide +kernel
theorem d2_79 : decode method_3_code 79 = .ok (.iconst 0, 1) := by decide +kernel
theorem d2_80 : decode method_3_code 80 = .ok (.ireturn, 1) := by decide +kernel
theorem pn_2 : plainName "com/example/indexterity/indexterity/index/IndexFormatPutVarIntPinLaw" = true := by first | (simp [plainName, overriddenIn]; done) | decide +kernel
theorem ef_rma (m : MethodId) (x0 : Addr) (x1 : Int32) (x2 : Int32) (x3 : Int32) (x4 : Int64) (x5 : Int32) : entryFrame m #[(.ref x0), (.int x1), (.int x2), (.int x3), (.long x4), (.int x5)] 10 = mkF m 0 #[.val (.ref x0), .val (.int x1), .val (.int x2), .val (.int x3), .val (.long x4), .second, .val (.int x5), .unset, .unset, .unset] [] := by first | (simp [entryFrame, mkF, argsToLocals, Value.category]; done) | rfl
def Qa (Z : State) (a1 : Addr) (pj : Int32) (po : Int32) (pn : Int32) (qu : Int64) (ps : Int32) (k1 : ClassId) (L0 : List Value) (h0 : Heap) (n0 : Nat) (v : Option Value) (h : Heap) (L : List Loc) : Prop := v = some (.int (own_at (own_get L0 pj.toNatClampNeg) pj po pn qu ps)) ∧ Fr n0 L ∧ h = h0
set_option maxRecDepth 65536 in
set_option maxHeartbeats 40000000 in
theorem rma (l : Launch) (Z : State) (a0 : Array Value) (hw : ∀ d ∈ tables_1, d.before a0 Z = true) (ws : List Jvm.Cond) (a1 : Addr) (pj : Int32) (po : Int32) (pn : Int32) (qu : Int64) (ps : Int32) (k1 : ClassId) (L0 : List Value) (h0 : Heap) (n0 : Nat) (Z0 : n0 ≤ h0.size) (HV_a1 : Arv Z h0 a1 k1 .byte (13 : Int32) L0 (.int (0 : Int32))) (hg : ∀ i, ∃ z : Int32, L0.getD i (.int (0 : Int32)) = .int z) (hj : ¬ pj < 0 ∧ pj < 13) :
    MetFree l (⟨"com/example/indexterity/indexterity/index/IndexFormatPutVarIntPinLaw", "at", "([BIIIJB)Z"⟩ : MethodName) (head1 (Jvm.Cond.code (⟨"com/example/indexterity/indexterity/index/IndexFormatPutVarIntPinLaw", "at", "([BIIIJB)Z"⟩ : MethodName) method_3_code 10 (some .boolean) :: ws) ({ frames := 0, cells := 0, slots := 0, locals := 0 } : Room)) (fun a U => a = #[(.ref a1), (.int pj), (.int po), (.int pn), (.long qu), (.int ps)] ∧ Z.Warmed39 U.vm ∧ U.heap = h0) (fun _ _ _ _ _ => True) (fun _ U o U' => ∃ v L, o = .returned v ∧ Qa Z a1 pj po pn qu ps k1 L0 h0 n0 v U'.heap L ∧ FrameEnd U o U' L ({ frames := 0, cells := 0, slots := 0, locals := 0 } : Room).cells ({ frames := 0, cells := 0, slots := 0, locals := 0 } : Room).slots) := by
  refine MetFree.of_bodySF (plainFor_of_name pn_2) hisR ?_
  intro p e s m args below meth c s₁ Bd hml0 hP hK
  obtain ⟨rfl, hZ, hh⟩ := hP
  have hx := Bd.exec
  have hby := Bd.bytes
  have hlk := BodyLoose.notSynchronized Bd
  have hret := Bd.returns
  have hml : c.maxLocals = 10 := hml0
  have hown : s.vm.findClass "com/example/indexterity/indexterity/index/IndexFormatPutVarIntPinLaw" = some m.cls := findClass_of_methodNamed Bd.named
  have hnm := (name_of_methodNamed Bd.named Bd.method).1
  have X0 : Stand p l e ({ frames := 0, cells := 0, slots := 0, locals := 0 } : Room) s m #[(.ref a1), (.int pj), (.int po), (.int pn), (.long qu), (.int ps)] below meth c s₁ [] 0 0 := Stand.of_body Bd
  have e0 : s₁.heap = h0 := by rw [← hh, Bd.state]; rfl
  have N0 := Fr.nil n0
  have K0 : Keep h0 h0 [] := Keep.refl h0 _
  refine Fin.step (Q := fun v h L => Qa Z a1 pj po pn qu ps k1 L0 h0 n0 v h L) (st' := s₁.setTop (mkF m 0 #[.val (.ref a1), .val (.int pj), .val (.int po), .val (.int pn), .val (.long qu), .second, .val (.int ps), .unset, .unset, .unset] [])) (fun t k => castTop (ef_rma m a1 pj po pn qu ps) k) ?_
  show Fin p e below s _ _ _ (s₁.setTop (mkF m 0 #[.val (.ref a1), .val (.int pj), .val (.int po), .val (.int pn), .val (.long qu), .second, .val (.int ps), .unset, .unset, .unset] []))
  refine Fin.step (fun _ => XS.iloadN X0.here hx rfl (hb hby d2_0) rfl) ?_
  show Fin p e below s _ _ _ (s₁.setTop (mkF m 1 #[.val (.ref a1), .val (.int pj), .val (.int po), .val (.int pn), .val (.long qu), .second, .val (.int ps), .unset, .unset, .unset] [(.int pj)]))
  refine Fin.step (fun _ => XS.iloadN X0.here hx rfl (hb hby d2_1) rfl) ?_
  show Fin p e below s _ _ _ (s₁.setTop (mkF m 2 #[.val (.ref a1), .val (.int pj), .val (.int po), .val (.int pn), .val (.long qu), .second, .val (.int ps), .unset, .unset, .unset] [(.int po), (.int pj)]))
  refine Fin.step (fun _ => XS.isub X0.here hx rfl (hb hby d2_2) rfl) ?_
  show Fin p e below s _ _ _ (s₁.setTop (mkF m 3 #[.val (.ref a1), .val (.int pj), .val (.int po), .val (.int pn), .val (.long qu), .second, .val (.int ps), .unset, .unset, .unset] [(.int (pj - po))]))
  refine Fin.step (fun _ => XS.istore X0.here hx rfl (hb hby d2_3) rfl (l' := #[.val (.ref a1), .val (.int pj), .val (.int po), .val (.int pn), .val (.long qu), .second, .val (.int ps), .val (.int (pj - po)), .unset, .unset]) rfl) ?_
  show Fin p e below s _ _ _ (s₁.setTop (mkF m 5 #[.val (.ref a1), .val (.int pj), .val (.int po), .val (.int pn), .val (.long qu), .second, .val (.int ps), .val (.int (pj - po)), .unset, .unset] []))
  refine Fin.step (fun _ => XS.iload X0.here hx rfl (hb hby d2_5) rfl) ?_
  show Fin p e below s _ _ _ (s₁.setTop (mkF m 7 #[.val (.ref a1), .val (.int pj), .val (.int po), .val (.int pn), .val (.long qu), .second, .val (.int ps), .val (.int (pj - po)), .unset, .unset] [(.int (pj - po))]))
  by_cases hcy1 : (pj - po) < (0 : Int32)
  · refine Fin.step (fun _ => XS.ifYes X0.here hx rfl (pc0 := 7) (pc' := 16) rfl (hb hby d2_7) rfl ((if0 _ _).trans (tlt (hcy1 : ((pj - po) < (0 : Int32)))).1) (by decide) (by decide)) ?_
    show Fin p e below s _ _ _ (s₁.setTop (mkF m 16 #[.val (.ref a1), .val (.int pj), .val (.int po), .val (.int pn), .val (.long qu), .second, .val (.int ps), .val (.int (pj - po)), .unset, .unset] []))
    refine Fin.step (fun _ => XS.aloadN X0.here hx rfl (hb hby d2_16) rfl rfl) ?_
    show Fin p e below s _ _ _ (s₁.setTop (mkF m 17 #[.val (.ref a1), .val (.int pj), .val (.int po), .val (.int pn), .val (.long qu), .second, .val (.int ps), .val (.int (pj - po)), .unset, .unset] [(.ref a1)]))
    refine Fin.step (fun _ => XS.iloadN X0.here hx rfl (hb hby d2_17) rfl) ?_
    show Fin p e below s _ _ _ (s₁.setTop (mkF m 18 #[.val (.ref a1), .val (.int pj), .val (.int po), .val (.int pn), .val (.long qu), .second, .val (.int ps), .val (.int (pj - po)), .unset, .unset] [(.int pj), (.ref a1)]))
    have voy2 := HV_a1
    obtain ⟨cly2, Ary2, qay2, say2, nay2, hay2, gay2⟩ := voy2
    have iny2 := inb_of (j := pj) say2 hj
    refine Fin.step (X0.baloadBytes hx (j := pj) (v := (.int (own_get L0 pj.toNatClampNeg))) (by rw [e0]; exact Ary2.1) (State.isArrayOf_alike hZ.alike Ary2.2.1) Ary2.2.2 iny2 (hay2.at iny2 (own_getv (hg _))) (g := (mkF m 18 #[.val (.ref a1), .val (.int pj), .val (.int po), .val (.int pn), .val (.long qu), .second, .val (.int ps), .val (.int (pj - po)), .unset, .unset] [(.int pj), (.ref a1)])) rfl rfl (hb hby d2_18)) ?_
    show Fin p e below s _ _ _ (s₁.setTop (mkF m 19 #[.val (.ref a1), .val (.int pj), .val (.int po), .val (.int pn), .val (.long qu), .second, .val (.int ps), .val (.int (pj - po)), .unset, .unset] [(.int (own_get L0 pj.toNatClampNeg))]))
    refine Fin.step (fun _ => XS.iload X0.here hx rfl (hb hby d2_19) rfl) ?_
    show Fin p e below s _ _ _ (s₁.setTop (mkF m 21 #[.val (.ref a1), .val (.int pj), .val (.int po), .val (.int pn), .val (.long qu), .second, .val (.int ps), .val (.int (pj - po)), .unset, .unset] [(.int ps), (.int (own_get L0 pj.toNatClampNeg))]))
    by_cases hcy3 : (own_get L0 pj.toNatClampNeg) = ps
    · refine Fin.step (fun _ => XS.icmpNo X0.here hx rfl (hb hby d2_21) rfl (teq (hcy3 : ((own_get L0 pj.toNatClampNeg) = ps))).2) ?_
      show Fin p e below s _ _ _ (s₁.setTop (mkF m 24 #[.val (.ref a1), .val (.int pj), .val (.int po), .val (.int pn), .val (.long qu), .second, .val (.int ps), .val (.int (pj - po)), .unset, .unset] []))
      refine Fin.step (fun _ => XS.iconst X0.here hx rfl (hb hby d2_24)) ?_
      show Fin p e below s _ _ _ (s₁.setTop (mkF m 25 #[.val (.ref a1), .val (.int pj), .val (.int po), .val (.int pn), .val (.long qu), .second, .val (.int ps), .val (.int (pj - po)), .unset, .unset] [(.int (1 : Int32))]))
      refine Fin.step (fun _ => XS.goto X0.here hx rfl (pc0 := 25) (pc' := 29) rfl (hb hby d2_25) (by decide) (by decide)) ?_
      show Fin p e below s _ _ _ (s₁.setTop (mkF m 29 #[.val (.ref a1), .val (.int pj), .val (.int po), .val (.int pn), .val (.long qu), .second, .val (.int ps), .val (.int (pj - po)), .unset, .unset] [(.int (1 : Int32))]))
      refine Fin.retN X0 hx (t := .boolean) hret (by simp) hlk (hb hby d2_29) (by decide) (by decide) ?_
      show Qa Z a1 pj po pn qu ps k1 L0 h0 n0 _ s₁.heap _
      rw [e0]
      exact ⟨(congrArg (fun z => some (Value.int z)) (by rw [own_at, if_pos hcy1, own_c, if_pos hcy3]; first | done | rfl)), N0, rfl⟩
    · refine Fin.step (fun _ => XS.icmpYes X0.here hx rfl (pc0 := 21) (pc' := 28) rfl (hb hby d2_21) rfl (feq (hcy3 : ¬ ((own_get L0 pj.toNatClampNeg) = ps))).2 (by decide) (by decide)) ?_
      show Fin p e below s _ _ _ (s₁.setTop (mkF m 28 #[.val (.ref a1), .val (.int pj), .val (.int po), .val (.int pn), .val (.long qu), .second, .val (.int ps), .val (.int (pj - po)), .unset, .unset] []))
      refine Fin.step (fun _ => XS.iconst X0.here hx rfl (hb hby d2_28)) ?_
      show Fin p e below s _ _ _ (s₁.setTop (mkF m 29 #[.val (.ref a1), .val (.int pj), .val (.int po), .val (.int pn), .val (.long qu), .second, .val (.int ps), .val (.int (pj - po)), .unset, .unset] [(.int (0 : Int32))]))
      refine Fin.retN X0 hx (t := .boolean) hret (by simp) hlk (hb hby d2_29) (by decide) (by decide) ?_
      show Qa Z a1 pj po pn qu ps k1 L0 h0 n0 _ s₁.heap _
      rw [e0]
      exact ⟨(congrArg (fun z => some (Value.int z)) (by rw [own_at, if_pos hcy1, own_c, if_neg hcy3]; first | done | rfl)), N0, rfl⟩
  · refine Fin.step (fun _ => XS.ifNo X0.here hx rfl (hb hby d2_7) rfl ((if0 _ _).trans (flt (hcy1 : ¬ ((pj - po) < (0 : Int32)))).1)) ?_
    show Fin p e below s _ _ _ (s₁.setTop (mkF m 10 #[.val (.ref a1), .val (.int pj), .val (.int po), .val (.int pn), .val (.long qu), .second, .val (.int ps), .val (.int (pj - po)), .unset, .unset] []))
    refine Fin.step (fun _ => XS.iload X0.here hx rfl (hb hby d2_10) rfl) ?_
    show Fin p e below s _ _ _ (s₁.setTop (mkF m 12 #[.val (.ref a1), .val (.int pj), .val (.int po), .val (.int pn), .val (.long qu), .second, .val (.int ps), .val (.int (pj - po)), .unset, .unset] [(.int (pj - po))]))
    refine Fin.step (fun _ => XS.iloadN X0.here hx rfl (hb hby d2_12) rfl) ?_
    show Fin p e below s _ _ _ (s₁.setTop (mkF m 13 #[.val (.ref a1), .val (.int pj), .val (.int po), .val (.int pn), .val (.long qu), .second, .val (.int ps), .val (.int (pj - po)), .unset, .unset] [(.int pn), (.int (pj - po))]))
    by_cases hcy4 : (pj - po) < pn
    · refine Fin.step (fun _ => XS.icmpYes X0.here hx rfl (pc0 := 13) (pc' := 30) rfl (hb hby d2_13) rfl (tlt (hcy4 : ((pj - po) < pn))).1 (by decide) (by decide)) ?_
      show Fin p e below s _ _ _ (s₁.setTop (mkF m 30 #[.val (.ref a1), .val (.int pj), .val (.int po), .val (.int pn), .val (.long qu), .second, .val (.int ps), .val (.int (pj - po)), .unset, .unset] []))
      refine Fin.step (fun _ => XS.lload X0.here hx rfl (hb hby d2_30) rfl) ?_
      show Fin p e below s _ _ _ (s₁.setTop (mkF m 32 #[.val (.ref a1), .val (.int pj), .val (.int po), .val (.int pn), .val (.long qu), .second, .val (.int ps), .val (.int (pj - po)), .unset, .unset] [(.long qu)]))
      refine Fin.step (fun _ => XS.bipush X0.here hx rfl (hb hby d2_32)) ?_
      show Fin p e below s _ _ _ (s₁.setTop (mkF m 34 #[.val (.ref a1), .val (.int pj), .val (.int po), .val (.int pn), .val (.long qu), .second, .val (.int ps), .val (.int (pj - po)), .unset, .unset] [(.int (7 : Int32)), (.long qu)]))
      refine Fin.step (fun _ => XS.iload X0.here hx rfl (hb hby d2_34) rfl) ?_
      show Fin p e below s _ _ _ (s₁.setTop (mkF m 36 #[.val (.ref a1), .val (.int pj), .val (.int po), .val (.int pn), .val (.long qu), .second, .val (.int ps), .val (.int (pj - po)), .unset, .unset] [(.int (pj - po)), (.int (7 : Int32)), (.long qu)]))
      refine Fin.step (fun _ => XS.imul X0.here hx rfl (hb hby d2_36) rfl) ?_
      show Fin p e below s _ _ _ (s₁.setTop (mkF m 37 #[.val (.ref a1), .val (.int pj), .val (.int po), .val (.int pn), .val (.long qu), .second, .val (.int ps), .val (.int (pj - po)), .unset, .unset] [(.int ((7 : Int32) * (pj - po))), (.long qu)]))
      refine Fin.step (fun _ => XS.lushr X0.here hx rfl (hb hby d2_37) rfl) ?_
      show Fin p e below s _ _ _ (s₁.setTop (mkF m 38 #[.val (.ref a1), .val (.int pj), .val (.int po), .val (.int pn), .val (.long qu), .second, .val (.int ps), .val (.int (pj - po)), .unset, .unset] [(.long (ushL qu ((7 : Int32) * (pj - po))))]))
      refine Fin.step (X0.ldc2Long hx hown (mvT hZ (hw _ (List.mem_of_getElem? (i := 11) rfl))) (g := (mkF m 38 #[.val (.ref a1), .val (.int pj), .val (.int po), .val (.int pn), .val (.long qu), .second, .val (.int ps), .val (.int (pj - po)), .unset, .unset] [(.long (ushL qu ((7 : Int32) * (pj - po))))])) rfl (hb hby d2_38)) ?_
      show Fin p e below s _ _ _ (s₁.setTop (mkF m 41 #[.val (.ref a1), .val (.int pj), .val (.int po), .val (.int pn), .val (.long qu), .second, .val (.int ps), .val (.int (pj - po)), .unset, .unset] [(.long (127 : Int64)), (.long (ushL qu ((7 : Int32) * (pj - po))))]))
      refine Fin.step (fun _ => XS.land X0.here hx rfl (hb hby d2_41) rfl) ?_
      show Fin p e below s _ _ _ (s₁.setTop (mkF m 42 #[.val (.ref a1), .val (.int pj), .val (.int po), .val (.int pn), .val (.long qu), .second, .val (.int ps), .val (.int (pj - po)), .unset, .unset] [(.long ((ushL qu ((7 : Int32) * (pj - po))) &&& (127 : Int64)))]))
      refine Fin.step (fun _ => XS.l2i X0.here hx rfl (hb hby d2_42) rfl) ?_
      show Fin p e below s _ _ _ (s₁.setTop (mkF m 43 #[.val (.ref a1), .val (.int pj), .val (.int po), .val (.int pn), .val (.long qu), .second, .val (.int ps), .val (.int (pj - po)), .unset, .unset] [(.int ((ushL qu ((7 : Int32) * (pj - po))) &&& (127 : Int64)).toInt32)]))
      refine Fin.step (fun _ => XS.istore X0.here hx rfl (hb hby d2_43) rfl (l' := #[.val (.ref a1), .val (.int pj), .val (.int po), .val (.int pn), .val (.long qu), .second, .val (.int ps), .val (.int (pj - po)), .val (.int ((ushL qu ((7 : Int32) * (pj - po))) &&& (127 : Int64)).toInt32), .unset]) rfl) ?_
      show Fin p e below s _ _ _ (s₁.setTop (mkF m 45 #[.val (.ref a1), .val (.int pj), .val (.int po), .val (.int pn), .val (.long qu), .second, .val (.int ps), .val (.int (pj - po)), .val (.int ((ushL qu ((7 : Int32) * (pj - po))) &&& (127 : Int64)).toInt32), .unset] []))
      refine Fin.step (fun _ => XS.iload X0.here hx rfl (hb hby d2_45) rfl) ?_
      show Fin p e below s _ _ _ (s₁.setTop (mkF m 47 #[.val (.ref a1), .val (.int pj), .val (.int po), .val (.int pn), .val (.long qu), .second, .val (.int ps), .val (.int (pj - po)), .val (.int ((ushL qu ((7 : Int32) * (pj - po))) &&& (127 : Int64)).toInt32), .unset] [(.int (pj - po))]))
      refine Fin.step (fun _ => XS.iloadN X0.here hx rfl (hb hby d2_47) rfl) ?_
      show Fin p e below s _ _ _ (s₁.setTop (mkF m 48 #[.val (.ref a1), .val (.int pj), .val (.int po), .val (.int pn), .val (.long qu), .second, .val (.int ps), .val (.int (pj - po)), .val (.int ((ushL qu ((7 : Int32) * (pj - po))) &&& (127 : Int64)).toInt32), .unset] [(.int pn), (.int (pj - po))]))
      refine Fin.step (fun _ => XS.iconst X0.here hx rfl (hb hby d2_48)) ?_
      show Fin p e below s _ _ _ (s₁.setTop (mkF m 49 #[.val (.ref a1), .val (.int pj), .val (.int po), .val (.int pn), .val (.long qu), .second, .val (.int ps), .val (.int (pj - po)), .val (.int ((ushL qu ((7 : Int32) * (pj - po))) &&& (127 : Int64)).toInt32), .unset] [(.int (1 : Int32)), (.int pn), (.int (pj - po))]))
      refine Fin.step (fun _ => XS.isub X0.here hx rfl (hb hby d2_49) rfl) ?_
      show Fin p e below s _ _ _ (s₁.setTop (mkF m 50 #[.val (.ref a1), .val (.int pj), .val (.int po), .val (.int pn), .val (.long qu), .second, .val (.int ps), .val (.int (pj - po)), .val (.int ((ushL qu ((7 : Int32) * (pj - po))) &&& (127 : Int64)).toInt32), .unset] [(.int (pn - (1 : Int32))), (.int (pj - po))]))
      by_cases hcy5 : (pj - po) < (pn - (1 : Int32))
      · refine Fin.step (fun _ => XS.icmpNo X0.here hx rfl (hb hby d2_50) rfl (tlt (hcy5 : ((pj - po) < (pn - (1 : Int32))))).2.1) ?_
        show Fin p e below s _ _ _ (s₁.setTop (mkF m 53 #[.val (.ref a1), .val (.int pj), .val (.int po), .val (.int pn), .val (.long qu), .second, .val (.int ps), .val (.int (pj - po)), .val (.int ((ushL qu ((7 : Int32) * (pj - po))) &&& (127 : Int64)).toInt32), .unset] []))
        refine Fin.step (fun _ => XS.iload X0.here hx rfl (hb hby d2_53) rfl) ?_
        show Fin p e below s _ _ _ (s₁.setTop (mkF m 55 #[.val (.ref a1), .val (.int pj), .val (.int po), .val (.int pn), .val (.long qu), .second, .val (.int ps), .val (.int (pj - po)), .val (.int ((ushL qu ((7 : Int32) * (pj - po))) &&& (127 : Int64)).toInt32), .unset] [(.int ((ushL qu ((7 : Int32) * (pj - po))) &&& (127 : Int64)).toInt32)]))
        refine Fin.step (fun _ => XS.sipush X0.here hx rfl (hb hby d2_55)) ?_
        show Fin p e below s _ _ _ (s₁.setTop (mkF m 58 #[.val (.ref a1), .val (.int pj), .val (.int po), .val (.int pn), .val (.long qu), .second, .val (.int ps), .val (.int (pj - po)), .val (.int ((ushL qu ((7 : Int32) * (pj - po))) &&& (127 : Int64)).toInt32), .unset] [(.int (128 : Int32)), (.int ((ushL qu ((7 : Int32) * (pj - po))) &&& (127 : Int64)).toInt32)]))
        refine Fin.step (fun _ => XS.ior X0.here hx rfl (hb hby d2_58) rfl) ?_
        show Fin p e below s _ _ _ (s₁.setTop (mkF m 59 #[.val (.ref a1), .val (.int pj), .val (.int po), .val (.int pn), .val (.long qu), .second, .val (.int ps), .val (.int (pj - po)), .val (.int ((ushL qu ((7 : Int32) * (pj - po))) &&& (127 : Int64)).toInt32), .unset] [(.int (((ushL qu ((7 : Int32) * (pj - po))) &&& (127 : Int64)).toInt32 ||| (128 : Int32)))]))
        refine Fin.step (fun _ => XS.goto X0.here hx rfl (pc0 := 59) (pc' := 64) rfl (hb hby d2_59) (by decide) (by decide)) ?_
        show Fin p e below s _ _ _ (s₁.setTop (mkF m 64 #[.val (.ref a1), .val (.int pj), .val (.int po), .val (.int pn), .val (.long qu), .second, .val (.int ps), .val (.int (pj - po)), .val (.int ((ushL qu ((7 : Int32) * (pj - po))) &&& (127 : Int64)).toInt32), .unset] [(.int (((ushL qu ((7 : Int32) * (pj - po))) &&& (127 : Int64)).toInt32 ||| (128 : Int32)))]))
        refine Fin.step (fun _ => XS.istore X0.here hx rfl (hb hby d2_64) rfl (l' := #[.val (.ref a1), .val (.int pj), .val (.int po), .val (.int pn), .val (.long qu), .second, .val (.int ps), .val (.int (pj - po)), .val (.int ((ushL qu ((7 : Int32) * (pj - po))) &&& (127 : Int64)).toInt32), .val (.int (((ushL qu ((7 : Int32) * (pj - po))) &&& (127 : Int64)).toInt32 ||| (128 : Int32)))]) rfl) ?_
        show Fin p e below s _ _ _ (s₁.setTop (mkF m 66 #[.val (.ref a1), .val (.int pj), .val (.int po), .val (.int pn), .val (.long qu), .second, .val (.int ps), .val (.int (pj - po)), .val (.int ((ushL qu ((7 : Int32) * (pj - po))) &&& (127 : Int64)).toInt32), .val (.int (((ushL qu ((7 : Int32) * (pj - po))) &&& (127 : Int64)).toInt32 ||| (128 : Int32)))] []))
        refine Fin.step (fun _ => XS.aloadN X0.here hx rfl (hb hby d2_66) rfl rfl) ?_
        show Fin p e below s _ _ _ (s₁.setTop (mkF m 67 #[.val (.ref a1), .val (.int pj), .val (.int po), .val (.int pn), .val (.long qu), .second, .val (.int ps), .val (.int (pj - po)), .val (.int ((ushL qu ((7 : Int32) * (pj - po))) &&& (127 : Int64)).toInt32), .val (.int (((ushL qu ((7 : Int32) * (pj - po))) &&& (127 : Int64)).toInt32 ||| (128 : Int32)))] [(.ref a1)]))
        refine Fin.step (fun _ => XS.iloadN X0.here hx rfl (hb hby d2_67) rfl) ?_
        show Fin p e below s _ _ _ (s₁.setTop (mkF m 68 #[.val (.ref a1), .val (.int pj), .val (.int po), .val (.int pn), .val (.long qu), .second, .val (.int ps), .val (.int (pj - po)), .val (.int ((ushL qu ((7 : Int32) * (pj - po))) &&& (127 : Int64)).toInt32), .val (.int (((ushL qu ((7 : Int32) * (pj - po))) &&& (127 : Int64)).toInt32 ||| (128 : Int32)))] [(.int pj), (.ref a1)]))
        have voy6 := HV_a1
        obtain ⟨cly6, Ary6, qay6, say6, nay6, hay6, gay6⟩ := voy6
        have iny6 := inb_of (j := pj) say6 hj
        refine Fin.step (X0.baloadBytes hx (j := pj) (v := (.int (own_get L0 pj.toNatClampNeg))) (by rw [e0]; exact Ary6.1) (State.isArrayOf_alike hZ.alike Ary6.2.1) Ary6.2.2 iny6 (hay6.at iny6 (own_getv (hg _))) (g := (mkF m 68 #[.val (.ref a1), .val (.int pj), .val (.int po), .val (.int pn), .val (.long qu), .second, .val (.int ps), .val (.int (pj - po)), .val (.int ((ushL qu ((7 : Int32) * (pj - po))) &&& (127 : Int64)).toInt32), .val (.int (((ushL qu ((7 : Int32) * (pj - po))) &&& (127 : Int64)).toInt32 ||| (128 : Int32)))] [(.int pj), (.ref a1)])) rfl rfl (hb hby d2_68)) ?_
        show Fin p e below s _ _ _ (s₁.setTop (mkF m 69 #[.val (.ref a1), .val (.int pj), .val (.int po), .val (.int pn), .val (.long qu), .second, .val (.int ps), .val (.int (pj - po)), .val (.int ((ushL qu ((7 : Int32) * (pj - po))) &&& (127 : Int64)).toInt32), .val (.int (((ushL qu ((7 : Int32) * (pj - po))) &&& (127 : Int64)).toInt32 ||| (128 : Int32)))] [(.int (own_get L0 pj.toNatClampNeg))]))
        refine Fin.step (fun _ => XS.iload X0.here hx rfl (hb hby d2_69) rfl) ?_
        show Fin p e below s _ _ _ (s₁.setTop (mkF m 71 #[.val (.ref a1), .val (.int pj), .val (.int po), .val (.int pn), .val (.long qu), .second, .val (.int ps), .val (.int (pj - po)), .val (.int ((ushL qu ((7 : Int32) * (pj - po))) &&& (127 : Int64)).toInt32), .val (.int (((ushL qu ((7 : Int32) * (pj - po))) &&& (127 : Int64)).toInt32 ||| (128 : Int32)))] [(.int (((ushL qu ((7 : Int32) * (pj - po))) &&& (127 : Int64)).toInt32 ||| (128 : Int32))), (.int (own_get L0 pj.toNatClampNeg))]))
        refine Fin.step (fun _ => XS.i2b X0.here hx rfl (hb hby d2_71) rfl) ?_
        show Fin p e below s _ _ _ (s₁.setTop (mkF m 72 #[.val (.ref a1), .val (.int pj), .val (.int po), .val (.int pn), .val (.long qu), .second, .val (.int ps), .val (.int (pj - po)), .val (.int ((ushL qu ((7 : Int32) * (pj - po))) &&& (127 : Int64)).toInt32), .val (.int (((ushL qu ((7 : Int32) * (pj - po))) &&& (127 : Int64)).toInt32 ||| (128 : Int32)))] [(.int ((((ushL qu ((7 : Int32) * (pj - po))) &&& (127 : Int64)).toInt32 ||| (128 : Int32)).toInt8.toInt32)), (.int (own_get L0 pj.toNatClampNeg))]))
        by_cases hcy7 : (own_get L0 pj.toNatClampNeg) = ((((ushL qu ((7 : Int32) * (pj - po))) &&& (127 : Int64)).toInt32 ||| (128 : Int32)).toInt8.toInt32)
        · refine Fin.step (fun _ => XS.icmpNo X0.here hx rfl (hb hby d2_72) rfl (teq (hcy7 : ((own_get L0 pj.toNatClampNeg) = ((((ushL qu ((7 : Int32) * (pj - po))) &&& (127 : Int64)).toInt32 ||| (128 : Int32)).toInt8.toInt32)))).2) ?_
          show Fin p e below s _ _ _ (s₁.setTop (mkF m 75 #[.val (.ref a1), .val (.int pj), .val (.int po), .val (.int pn), .val (.long qu), .second, .val (.int ps), .val (.int (pj - po)), .val (.int ((ushL qu ((7 : Int32) * (pj - po))) &&& (127 : Int64)).toInt32), .val (.int (((ushL qu ((7 : Int32) * (pj - po))) &&& (127 : Int64)).toInt32 ||| (128 : Int32)))] []))
          refine Fin.step (fun _ => XS.iconst X0.here hx rfl (hb hby d2_75)) ?_
          show Fin p e below s _ _ _ (s₁.setTop (mkF m 76 #[.val (.ref a1), .val (.int pj), .val (.int po), .val (.int pn), .val (.long qu), .second, .val (.int ps), .val (.int (pj - po)), .val (.int ((ushL qu ((7 : Int32) * (pj - po))) &&& (127 : Int64)).toInt32), .val (.int (((ushL qu ((7 : Int32) * (pj - po))) &&& (127 : Int64)).toInt32 ||| (128 : Int32)))] [(.int (1 : Int32))]))
          refine Fin.step (fun _ => XS.goto X0.here hx rfl (pc0 := 76) (pc' := 80) rfl (hb hby d2_76) (by decide) (by decide)) ?_
          show Fin p e below s _ _ _ (s₁.setTop (mkF m 80 #[.val (.ref a1), .val (.int pj), .val (.int po), .val (.int pn), .val (.long qu), .second, .val (.int ps), .val (.int (pj - po)), .val (.int ((ushL qu ((7 : Int32) * (pj - po))) &&& (127 : Int64)).toInt32), .val (.int (((ushL qu ((7 : Int32) * (pj - po))) &&& (127 : Int64)).toInt32 ||| (128 : Int32)))] [(.int (1 : Int32))]))
          refine Fin.retN X0 hx (t := .boolean) hret (by simp) hlk (hb hby d2_80) (by decide) (by decide) ?_
          show Qa Z a1 pj po pn qu ps k1 L0 h0 n0 _ s₁.heap _
          rw [e0]
          exact ⟨(congrArg (fun z => some (Value.int z)) (by rw [own_at, if_neg hcy1, if_pos hcy4, if_pos hcy5, own_c, if_pos hcy7]; first | done | rfl)), N0, rfl⟩
        · refine Fin.step (fun _ => XS.icmpYes X0.here hx rfl (pc0 := 72) (pc' := 79) rfl (hb hby d2_72) rfl (feq (hcy7 : ¬ ((own_get L0 pj.toNatClampNeg) = ((((ushL qu ((7 : Int32) * (pj - po))) &&& (127 : Int64)).toInt32 ||| (128 : Int32)).toInt8.toInt32)))).2 (by decide) (by decide)) ?_
          show Fin p e below s _ _ _ (s₁.setTop (mkF m 79 #[.val (.ref a1), .val (.int pj), .val (.int po), .val (.int pn), .val (.long qu), .second, .val (.int ps), .val (.int (pj - po)), .val (.int ((ushL qu ((7 : Int32) * (pj - po))) &&& (127 : Int64)).toInt32), .val (.int (((ushL qu ((7 : Int32) * (pj - po))) &&& (127 : Int64)).toInt32 ||| (128 : Int32)))] []))
          refine Fin.step (fun _ => XS.iconst X0.here hx rfl (hb hby d2_79)) ?_
          show Fin p e below s _ _ _ (s₁.setTop (mkF m 80 #[.val (.ref a1), .val (.int pj), .val (.int po), .val (.int pn), .val (.long qu), .second, .val (.int ps), .val (.int (pj - po)), .val (.int ((ushL qu ((7 : Int32) * (pj - po))) &&& (127 : Int64)).toInt32), .val (.int (((ushL qu ((7 : Int32) * (pj - po))) &&& (127 : Int64)).toInt32 ||| (128 : Int32)))] [(.int (0 : Int32))]))
          refine Fin.retN X0 hx (t := .boolean) hret (by simp) hlk (hb hby d2_80) (by decide) (by decide) ?_
          show Qa Z a1 pj po pn qu ps k1 L0 h0 n0 _ s₁.heap _
          rw [e0]
          exact ⟨(congrArg (fun z => some (Value.int z)) (by rw [own_at, if_neg hcy1, if_pos hcy4, if_pos hcy5, own_c, if_neg hcy7]; first | done | rfl)), N0, rfl⟩
      · refine Fin.step (fun _ => XS.icmpYes X0.here hx rfl (pc0 := 50) (pc' := 62) rfl (hb hby d2_50) rfl (flt (hcy5 : ¬ ((pj - po) < (pn - (1 : Int32))))).2.1 (by decide) (by decide)) ?_
        show Fin p e below s _ _ _ (s₁.setTop (mkF m 62 #[.val (.ref a1), .val (.int pj), .val (.int po), .val (.int pn), .val (.long qu), .second, .val (.int ps), .val (.int (pj - po)), .val (.int ((ushL qu ((7 : Int32) * (pj - po))) &&& (127 : Int64)).toInt32), .unset] []))
        refine Fin.step (fun _ => XS.iload X0.here hx rfl (hb hby d2_62) rfl) ?_
        show Fin p e below s _ _ _ (s₁.setTop (mkF m 64 #[.val (.ref a1), .val (.int pj), .val (.int po), .val (.int pn), .val (.long qu), .second, .val (.int ps), .val (.int (pj - po)), .val (.int ((ushL qu ((7 : Int32) * (pj - po))) &&& (127 : Int64)).toInt32), .unset] [(.int ((ushL qu ((7 : Int32) * (pj - po))) &&& (127 : Int64)).toInt32)]))
        refine Fin.step (fun _ => XS.istore X0.here hx rfl (hb hby d2_64) rfl (l' := #[.val (.ref a1), .val (.int pj), .val (.int po), .val (.int pn), .val (.long qu), .second, .val (.int ps), .val (.int (pj - po)), .val (.int ((ushL qu ((7 : Int32) * (pj - po))) &&& (127 : Int64)).toInt32), .val (.int ((ushL qu ((7 : Int32) * (pj - po))) &&& (127 : Int64)).toInt32)]) rfl) ?_
        show Fin p e below s _ _ _ (s₁.setTop (mkF m 66 #[.val (.ref a1), .val (.int pj), .val (.int po), .val (.int pn), .val (.long qu), .second, .val (.int ps), .val (.int (pj - po)), .val (.int ((ushL qu ((7 : Int32) * (pj - po))) &&& (127 : Int64)).toInt32), .val (.int ((ushL qu ((7 : Int32) * (pj - po))) &&& (127 : Int64)).toInt32)] []))
        refine Fin.step (fun _ => XS.aloadN X0.here hx rfl (hb hby d2_66) rfl rfl) ?_
        show Fin p e below s _ _ _ (s₁.setTop (mkF m 67 #[.val (.ref a1), .val (.int pj), .val (.int po), .val (.int pn), .val (.long qu), .second, .val (.int ps), .val (.int (pj - po)), .val (.int ((ushL qu ((7 : Int32) * (pj - po))) &&& (127 : Int64)).toInt32), .val (.int ((ushL qu ((7 : Int32) * (pj - po))) &&& (127 : Int64)).toInt32)] [(.ref a1)]))
        refine Fin.step (fun _ => XS.iloadN X0.here hx rfl (hb hby d2_67) rfl) ?_
        show Fin p e below s _ _ _ (s₁.setTop (mkF m 68 #[.val (.ref a1), .val (.int pj), .val (.int po), .val (.int pn), .val (.long qu), .second, .val (.int ps), .val (.int (pj - po)), .val (.int ((ushL qu ((7 : Int32) * (pj - po))) &&& (127 : Int64)).toInt32), .val (.int ((ushL qu ((7 : Int32) * (pj - po))) &&& (127 : Int64)).toInt32)] [(.int pj), (.ref a1)]))
        have voy8 := HV_a1
        obtain ⟨cly8, Ary8, qay8, say8, nay8, hay8, gay8⟩ := voy8
        have iny8 := inb_of (j := pj) say8 hj
        refine Fin.step (X0.baloadBytes hx (j := pj) (v := (.int (own_get L0 pj.toNatClampNeg))) (by rw [e0]; exact Ary8.1) (State.isArrayOf_alike hZ.alike Ary8.2.1) Ary8.2.2 iny8 (hay8.at iny8 (own_getv (hg _))) (g := (mkF m 68 #[.val (.ref a1), .val (.int pj), .val (.int po), .val (.int pn), .val (.long qu), .second, .val (.int ps), .val (.int (pj - po)), .val (.int ((ushL qu ((7 : Int32) * (pj - po))) &&& (127 : Int64)).toInt32), .val (.int ((ushL qu ((7 : Int32) * (pj - po))) &&& (127 : Int64)).toInt32)] [(.int pj), (.ref a1)])) rfl rfl (hb hby d2_68)) ?_
        show Fin p e below s _ _ _ (s₁.setTop (mkF m 69 #[.val (.ref a1), .val (.int pj), .val (.int po), .val (.int pn), .val (.long qu), .second, .val (.int ps), .val (.int (pj - po)), .val (.int ((ushL qu ((7 : Int32) * (pj - po))) &&& (127 : Int64)).toInt32), .val (.int ((ushL qu ((7 : Int32) * (pj - po))) &&& (127 : Int64)).toInt32)] [(.int (own_get L0 pj.toNatClampNeg))]))
        refine Fin.step (fun _ => XS.iload X0.here hx rfl (hb hby d2_69) rfl) ?_
        show Fin p e below s _ _ _ (s₁.setTop (mkF m 71 #[.val (.ref a1), .val (.int pj), .val (.int po), .val (.int pn), .val (.long qu), .second, .val (.int ps), .val (.int (pj - po)), .val (.int ((ushL qu ((7 : Int32) * (pj - po))) &&& (127 : Int64)).toInt32), .val (.int ((ushL qu ((7 : Int32) * (pj - po))) &&& (127 : Int64)).toInt32)] [(.int ((ushL qu ((7 : Int32) * (pj - po))) &&& (127 : Int64)).toInt32), (.int (own_get L0 pj.toNatClampNeg))]))
        refine Fin.step (fun _ => XS.i2b X0.here hx rfl (hb hby d2_71) rfl) ?_
        show Fin p e below s _ _ _ (s₁.setTop (mkF m 72 #[.val (.ref a1), .val (.int pj), .val (.int po), .val (.int pn), .val (.long qu), .second, .val (.int ps), .val (.int (pj - po)), .val (.int ((ushL qu ((7 : Int32) * (pj - po))) &&& (127 : Int64)).toInt32), .val (.int ((ushL qu ((7 : Int32) * (pj - po))) &&& (127 : Int64)).toInt32)] [(.int (((ushL qu ((7 : Int32) * (pj - po))) &&& (127 : Int64)).toInt32.toInt8.toInt32)), (.int (own_get L0 pj.toNatClampNeg))]))
        by_cases hcy9 : (own_get L0 pj.toNatClampNeg) = (((ushL qu ((7 : Int32) * (pj - po))) &&& (127 : Int64)).toInt32.toInt8.toInt32)
        · refine Fin.step (fun _ => XS.icmpNo X0.here hx rfl (hb hby d2_72) rfl (teq (hcy9 : ((own_get L0 pj.toNatClampNeg) = (((ushL qu ((7 : Int32) * (pj - po))) &&& (127 : Int64)).toInt32.toInt8.toInt32)))).2) ?_
          show Fin p e below s _ _ _ (s₁.setTop (mkF m 75 #[.val (.ref a1), .val (.int pj), .val (.int po), .val (.int pn), .val (.long qu), .second, .val (.int ps), .val (.int (pj - po)), .val (.int ((ushL qu ((7 : Int32) * (pj - po))) &&& (127 : Int64)).toInt32), .val (.int ((ushL qu ((7 : Int32) * (pj - po))) &&& (127 : Int64)).toInt32)] []))
          refine Fin.step (fun _ => XS.iconst X0.here hx rfl (hb hby d2_75)) ?_
          show Fin p e below s _ _ _ (s₁.setTop (mkF m 76 #[.val (.ref a1), .val (.int pj), .val (.int po), .val (.int pn), .val (.long qu), .second, .val (.int ps), .val (.int (pj - po)), .val (.int ((ushL qu ((7 : Int32) * (pj - po))) &&& (127 : Int64)).toInt32), .val (.int ((ushL qu ((7 : Int32) * (pj - po))) &&& (127 : Int64)).toInt32)] [(.int (1 : Int32))]))
          refine Fin.step (fun _ => XS.goto X0.here hx rfl (pc0 := 76) (pc' := 80) rfl (hb hby d2_76) (by decide) (by decide)) ?_
          show Fin p e below s _ _ _ (s₁.setTop (mkF m 80 #[.val (.ref a1), .val (.int pj), .val (.int po), .val (.int pn), .val (.long qu), .second, .val (.int ps), .val (.int (pj - po)), .val (.int ((ushL qu ((7 : Int32) * (pj - po))) &&& (127 : Int64)).toInt32), .val (.int ((ushL qu ((7 : Int32) * (pj - po))) &&& (127 : Int64)).toInt32)] [(.int (1 : Int32))]))
          refine Fin.retN X0 hx (t := .boolean) hret (by simp) hlk (hb hby d2_80) (by decide) (by decide) ?_
          show Qa Z a1 pj po pn qu ps k1 L0 h0 n0 _ s₁.heap _
          rw [e0]
          exact ⟨(congrArg (fun z => some (Value.int z)) (by rw [own_at, if_neg hcy1, if_pos hcy4, if_neg hcy5, own_c, if_pos hcy9]; first | done | rfl)), N0, rfl⟩
        · refine Fin.step (fun _ => XS.icmpYes X0.here hx rfl (pc0 := 72) (pc' := 79) rfl (hb hby d2_72) rfl (feq (hcy9 : ¬ ((own_get L0 pj.toNatClampNeg) = (((ushL qu ((7 : Int32) * (pj - po))) &&& (127 : Int64)).toInt32.toInt8.toInt32)))).2 (by decide) (by decide)) ?_
          show Fin p e below s _ _ _ (s₁.setTop (mkF m 79 #[.val (.ref a1), .val (.int pj), .val (.int po), .val (.int pn), .val (.long qu), .second, .val (.int ps), .val (.int (pj - po)), .val (.int ((ushL qu ((7 : Int32) * (pj - po))) &&& (127 : Int64)).toInt32), .val (.int ((ushL qu ((7 : Int32) * (pj - po))) &&& (127 : Int64)).toInt32)] []))
          refine Fin.step (fun _ => XS.iconst X0.here hx rfl (hb hby d2_79)) ?_
          show Fin p e below s _ _ _ (s₁.setTop (mkF m 80 #[.val (.ref a1), .val (.int pj), .val (.int po), .val (.int pn), .val (.long qu), .second, .val (.int ps), .val (.int (pj - po)), .val (.int ((ushL qu ((7 : Int32) * (pj - po))) &&& (127 : Int64)).toInt32), .val (.int ((ushL qu ((7 : Int32) * (pj - po))) &&& (127 : Int64)).toInt32)] [(.int (0 : Int32))]))
          refine Fin.retN X0 hx (t := .boolean) hret (by simp) hlk (hb hby d2_80) (by decide) (by decide) ?_
          show Qa Z a1 pj po pn qu ps k1 L0 h0 n0 _ s₁.heap _
          rw [e0]
          exact ⟨(congrArg (fun z => some (Value.int z)) (by rw [own_at, if_neg hcy1, if_pos hcy4, if_neg hcy5, own_c, if_neg hcy9]; first | done | rfl)), N0, rfl⟩
    · refine Fin.step (fun _ => XS.icmpNo X0.here hx rfl (hb hby d2_13) rfl (flt (hcy4 : ¬ ((pj - po) < pn))).1) ?_
      show Fin p e below s _ _ _ (s₁.setTop (mkF m 16 #[.val (.ref a1), .val (.int pj), .val (.int po), .val (.int pn), .val (.long qu), .second, .val (.int ps), .val (.int (pj - po)), .unset, .unset] []))
      refine Fin.step (fun _ => XS.aloadN X0.here hx rfl (hb hby d2_16) rfl rfl) ?_
      show Fin p e below s _ _ _ (s₁.setTop (mkF m 17 #[.val (.ref a1), .val (.int pj), .val (.int po), .val (.int pn), .val (.long qu), .second, .val (.int ps), .val (.int (pj - po)), .unset, .unset] [(.ref a1)]))
      refine Fin.step (fun _ => XS.iloadN X0.here hx rfl (hb hby d2_17) rfl) ?_
      show Fin p e below s _ _ _ (s₁.setTop (mkF m 18 #[.val (.ref a1), .val (.int pj), .val (.int po), .val (.int pn), .val (.long qu), .second, .val (.int ps), .val (.int (pj - po)), .unset, .unset] [(.int pj), (.ref a1)]))
      have voy10 := HV_a1
      obtain ⟨cly10, Ary10, qay10, say10, nay10, hay10, gay10⟩ := voy10
      have iny10 := inb_of (j := pj) say10 hj
      refine Fin.step (X0.baloadBytes hx (j := pj) (v := (.int (own_get L0 pj.toNatClampNeg))) (by rw [e0]; exact Ary10.1) (State.isArrayOf_alike hZ.alike Ary10.2.1) Ary10.2.2 iny10 (hay10.at iny10 (own_getv (hg _))) (g := (mkF m 18 #[.val (.ref a1), .val (.int pj), .val (.int po), .val (.int pn), .val (.long qu), .second, .val (.int ps), .val (.int (pj - po)), .unset, .unset] [(.int pj), (.ref a1)])) rfl rfl (hb hby d2_18)) ?_
      show Fin p e below s _ _ _ (s₁.setTop (mkF m 19 #[.val (.ref a1), .val (.int pj), .val (.int po), .val (.int pn), .val (.long qu), .second, .val (.int ps), .val (.int (pj - po)), .unset, .unset] [(.int (own_get L0 pj.toNatClampNeg))]))
      refine Fin.step (fun _ => XS.iload X0.here hx rfl (hb hby d2_19) rfl) ?_
      show Fin p e below s _ _ _ (s₁.setTop (mkF m 21 #[.val (.ref a1), .val (.int pj), .val (.int po), .val (.int pn), .val (.long qu), .second, .val (.int ps), .val (.int (pj - po)), .unset, .unset] [(.int ps), (.int (own_get L0 pj.toNatClampNeg))]))
      by_cases hcy11 : (own_get L0 pj.toNatClampNeg) = ps
      · refine Fin.step (fun _ => XS.icmpNo X0.here hx rfl (hb hby d2_21) rfl (teq (hcy11 : ((own_get L0 pj.toNatClampNeg) = ps))).2) ?_
        show Fin p e below s _ _ _ (s₁.setTop (mkF m 24 #[.val (.ref a1), .val (.int pj), .val (.int po), .val (.int pn), .val (.long qu), .second, .val (.int ps), .val (.int (pj - po)), .unset, .unset] []))
        refine Fin.step (fun _ => XS.iconst X0.here hx rfl (hb hby d2_24)) ?_
        show Fin p e below s _ _ _ (s₁.setTop (mkF m 25 #[.val (.ref a1), .val (.int pj), .val (.int po), .val (.int pn), .val (.long qu), .second, .val (.int ps), .val (.int (pj - po)), .unset, .unset] [(.int (1 : Int32))]))
        refine Fin.step (fun _ => XS.goto X0.here hx rfl (pc0 := 25) (pc' := 29) rfl (hb hby d2_25) (by decide) (by decide)) ?_
        show Fin p e below s _ _ _ (s₁.setTop (mkF m 29 #[.val (.ref a1), .val (.int pj), .val (.int po), .val (.int pn), .val (.long qu), .second, .val (.int ps), .val (.int (pj - po)), .unset, .unset] [(.int (1 : Int32))]))
        refine Fin.retN X0 hx (t := .boolean) hret (by simp) hlk (hb hby d2_29) (by decide) (by decide) ?_
        show Qa Z a1 pj po pn qu ps k1 L0 h0 n0 _ s₁.heap _
        rw [e0]
        exact ⟨(congrArg (fun z => some (Value.int z)) (by rw [own_at, if_neg hcy1, if_neg hcy4, own_c, if_pos hcy11]; first | done | rfl)), N0, rfl⟩
      · refine Fin.step (fun _ => XS.icmpYes X0.here hx rfl (pc0 := 21) (pc' := 28) rfl (hb hby d2_21) rfl (feq (hcy11 : ¬ ((own_get L0 pj.toNatClampNeg) = ps))).2 (by decide) (by decide)) ?_
        show Fin p e below s _ _ _ (s₁.setTop (mkF m 28 #[.val (.ref a1), .val (.int pj), .val (.int po), .val (.int pn), .val (.long qu), .second, .val (.int ps), .val (.int (pj - po)), .unset, .unset] []))
        refine Fin.step (fun _ => XS.iconst X0.here hx rfl (hb hby d2_28)) ?_
        show Fin p e below s _ _ _ (s₁.setTop (mkF m 29 #[.val (.ref a1), .val (.int pj), .val (.int po), .val (.int pn), .val (.long qu), .second, .val (.int ps), .val (.int (pj - po)), .unset, .unset] [(.int (0 : Int32))]))
        refine Fin.retN X0 hx (t := .boolean) hret (by simp) hlk (hb hby d2_29) (by decide) (by decide) ?_
        show Qa Z a1 pj po pn qu ps k1 L0 h0 n0 _ s₁.heap _
        rw [e0]
        exact ⟨(congrArg (fun z => some (Value.int z)) (by rw [own_at, if_neg hcy1, if_neg hcy4, own_c, if_neg hcy11]; first | done | rfl)), N0, rfl⟩
theorem pn_0 : plainName "com/example/indexterity/indexterity/index/IndexFormatPutVarIntPinLaw" = true := by first | (simp [plainName, overriddenIn]; done) | decide +kernel
theorem pd_0 : parseMethodDescriptor "([BII)I" = some ⟨[(.array .byte), .int, .int], some .int⟩ := by decide +kernel
theorem pd_1 : parseMethodDescriptor "([BIIIJB)Z" = some ⟨[(.array .byte), .int, .int, .int, .long, .byte], some .boolean⟩ := by decide +kernel
theorem ef_rm0 (m : MethodId) (x0 : Int32) (x1 : Int32) (x2 : Int32) : entryFrame m #[(.int x0), (.int x1), (.int x2)] maxLocals = mkF m 0 #[.val (.int x0), .val (.int x1), .val (.int x2), .unset, .unset, .unset, .unset, .unset, .unset, .unset] [] := by first | (simp [entryFrame, mkF, argsToLocals, Value.category, maxLocals]; done) | rfl
def Q0 (Z : State) (pf : Int32) (pv : Int32) (pl : Int32) (h0 : Heap) (n0 : Nat) (v : Option Value) (h : Heap) (L : List Loc) : Prop := v = some (.int (1 : Int32)) ∧ Fr n0 L ∧ Keep h0 h []
set_option maxRecDepth 65536 in
set_option maxHeartbeats 40000000 in
theorem rm0 (l : Launch) (Z : State) (a0 : Array Value) (hw : ∀ d ∈ tables_1, d.before a0 Z = true) (ws : List Jvm.Cond) (pf : Int32) (pv : Int32) (pl : Int32) (h0 : Heap) (n0 : Nat) (Z0 : n0 ≤ h0.size) :
    MetFree l x (head1 (Jvm.Cond.code x code maxLocals ret :: ws) room_1) (fun a U => a = #[(.int pf), (.int pv), (.int pl)] ∧ Z.Warmed39 U.vm ∧ U.heap = h0) (fun _ _ _ _ _ => True) (fun _ U o U' => ∃ v L, o = .returned v ∧ Q0 Z pf pv pl h0 n0 v U'.heap L ∧ FrameEnd U o U' L room_1.cells room_1.slots) := by
  refine MetFree.of_bodySF (plainFor_of_name pn_0) hisR ?_
  intro p e s m args below meth c s₁ Bd hml0 hP hK
  obtain ⟨rfl, hZ, hh⟩ := hP
  have hx := Bd.exec
  have hby := Bd.bytes
  have hlk := BodyLoose.notSynchronized Bd
  have hret := Bd.returns
  have hml : c.maxLocals = 10 := hml0
  have hown : s.vm.findClass "com/example/indexterity/indexterity/index/IndexFormatPutVarIntPinLaw" = some m.cls := findClass_of_methodNamed Bd.named
  have hnm := (name_of_methodNamed Bd.named Bd.method).1
  have X0 : Stand p l e room_1 s m #[(.int pf), (.int pv), (.int pl)] below meth c s₁ [] 0 0 := Stand.of_body Bd
  have e0 : s₁.heap = h0 := by rw [← hh, Bd.state]; rfl
  have N0 := Fr.nil n0
  have K0 : Keep h0 h0 [] := Keep.refl h0 _
  refine Fin.step (Q := fun v h L => Q0 Z pf pv pl h0 n0 v h L) (st' := s₁.setTop (mkF m 0 #[.val (.int pf), .val (.int pv), .val (.int pl), .unset, .unset, .unset, .unset, .unset, .unset, .unset] [])) (fun t k => castTop (ef_rm0 m pf pv pl) k) ?_
  show Fin p e below s _ _ _ (s₁.setTop (mkF m 0 #[.val (.int pf), .val (.int pv), .val (.int pl), .unset, .unset, .unset, .unset, .unset, .unset, .unset] []))
  refine Fin.step (fun _ => XS.iloadN X0.here hx rfl (hb hby at_0) rfl) ?_
  show Fin p e below s _ _ _ (s₁.setTop (mkF m 1 #[.val (.int pf), .val (.int pv), .val (.int pl), .unset, .unset, .unset, .unset, .unset, .unset, .unset] [(.int pf)]))
  refine Fin.step (fun _ => XS.bipush X0.here hx rfl (hb hby at_1)) ?_
  show Fin p e below s _ _ _ (s₁.setTop (mkF m 3 #[.val (.int pf), .val (.int pv), .val (.int pl), .unset, .unset, .unset, .unset, .unset, .unset, .unset] [(.int (7 : Int32)), (.int pf)]))
  refine Fin.step (fun _ => XS.iand X0.here hx rfl (hb hby at_3) rfl) ?_
  show Fin p e below s _ _ _ (s₁.setTop (mkF m 4 #[.val (.int pf), .val (.int pv), .val (.int pl), .unset, .unset, .unset, .unset, .unset, .unset, .unset] [(.int (pf &&& (7 : Int32)))]))
  refine Fin.step (fun _ => XS.istoreN X0.here hx rfl (hb hby at_4) rfl (l' := #[.val (.int pf), .val (.int pv), .val (.int pl), .val (.int (pf &&& (7 : Int32))), .unset, .unset, .unset, .unset, .unset, .unset]) rfl) ?_
  show Fin p e below s _ _ _ (s₁.setTop (mkF m 5 #[.val (.int pf), .val (.int pv), .val (.int pl), .val (.int (pf &&& (7 : Int32))), .unset, .unset, .unset, .unset, .unset, .unset] []))
  refine Fin.step (fun _ => XS.iloadN X0.here hx rfl (hb hby at_5) rfl) ?_
  show Fin p e below s _ _ _ (s₁.setTop (mkF m 6 #[.val (.int pf), .val (.int pv), .val (.int pl), .val (.int (pf &&& (7 : Int32))), .unset, .unset, .unset, .unset, .unset, .unset] [(.int pl)]))
  refine Fin.step (fun _ => XS.i2b X0.here hx rfl (hb hby at_6) rfl) ?_
  show Fin p e below s _ _ _ (s₁.setTop (mkF m 7 #[.val (.int pf), .val (.int pv), .val (.int pl), .val (.int (pf &&& (7 : Int32))), .unset, .unset, .unset, .unset, .unset, .unset] [(.int (pl.toInt8.toInt32))]))
  refine Fin.step (fun _ => XS.istore X0.here hx rfl (hb hby at_7) rfl (l' := #[.val (.int pf), .val (.int pv), .val (.int pl), .val (.int (pf &&& (7 : Int32))), .val (.int (pl.toInt8.toInt32)), .unset, .unset, .unset, .unset, .unset]) rfl) ?_
  show Fin p e below s _ _ _ (s₁.setTop (mkF m 9 #[.val (.int pf), .val (.int pv), .val (.int pl), .val (.int (pf &&& (7 : Int32))), .val (.int (pl.toInt8.toInt32)), .unset, .unset, .unset, .unset, .unset] []))
  obtain ⟨PO, h_PO⟩ : ∃ z : Int32, z = (pf &&& (7 : Int32)) := ⟨_, rfl⟩
  rw [← h_PO]
  show Fin p e below s _ _ _ (s₁.setTop (mkF m 9 #[.val (.int pf), .val (.int pv), .val (.int pl), .val (.int PO), .val (.int (pl.toInt8.toInt32)), .unset, .unset, .unset, .unset, .unset] []))
  have hO : 0 ≤ PO.toInt ∧ PO.toInt ≤ 7 := by rw [h_PO]; exact own_m7 _
  obtain ⟨PS, h_PS⟩ : ∃ z : Int32, z = (pl.toInt8.toInt32) := ⟨_, rfl⟩
  rw [← h_PS]
  show Fin p e below s _ _ _ (s₁.setTop (mkF m 9 #[.val (.int pf), .val (.int pv), .val (.int pl), .val (.int PO), .val (.int PS), .unset, .unset, .unset, .unset, .unset] []))
  have hS : nar .byte PS = PS := by rw [h_PS]; exact own_nb _
  refine Fin.step (fun _ => XS.bipush X0.here hx rfl (hb hby at_9)) ?_
  show Fin p e below s _ _ _ (s₁.setTop (mkF m 11 #[.val (.int pf), .val (.int pv), .val (.int pl), .val (.int PO), .val (.int PS), .unset, .unset, .unset, .unset, .unset] [(.int (13 : Int32))]))
  obtain ⟨Ty1, hy1, ky1, Xy1, ey1, Ey1, Ay1, sty1⟩ := newP X0 hx hZ (hw _ (List.mem_of_getElem? (i := 0) rfl)) e0 (g := (mkF m 11 #[.val (.int pf), .val (.int pv), .val (.int pl), .val (.int PO), .val (.int PS), .unset, .unset, .unset, .unset, .unset] [(.int (13 : Int32))])) rfl (hb hby at_11) rfl (by decide) (cap := 13) (by decide) (by decide) (by decide) (by decide)
  obtain ⟨by1, gy1⟩ : ∃ z, z = h0.size := ⟨_, rfl⟩
  rw [← gy1] at Ay1 sty1
  have gzy1 : n0 ≤ by1 := Nat.le_trans Z0 (Nat.le_of_eq gy1.symm)
  have szy1 : h0.size ≤ by1 := Nat.le_trans K0.1 (Nat.le_of_eq gy1.symm)
  have Zy1 : n0 ≤ hy1.size := Nat.le_trans Z0 Ey1.1
  have Ky1 : Keep h0 hy1 [] := K0.ext Ey1
  have Vy1 : Arv Z hy1 by1 ky1 .byte (13 : Int32) [(.int (0 : Int32)), (.int (0 : Int32)), (.int (0 : Int32)), (.int (0 : Int32)), (.int (0 : Int32)), (.int (0 : Int32)), (.int (0 : Int32)), (.int (0 : Int32)), (.int (0 : Int32)), (.int (0 : Int32)), (.int (0 : Int32)), (.int (0 : Int32)), (.int (0 : Int32))] (.int (0 : Int32)) := (Arv.new Ay1 (by decide)).pad (pad_rep [] (.int (0 : Int32)) 13)
  refine Fin.step (sty1) ?_
  show Fin p e below s _ _ _ (Ty1.setTop (mkF m 13 #[.val (.int pf), .val (.int pv), .val (.int pl), .val (.int PO), .val (.int PS), .unset, .unset, .unset, .unset, .unset] [(.ref by1)]))
  refine Fin.step (fun _ => XS.dup Xy1.here hx rfl (hb hby at_13) rfl rfl) ?_
  show Fin p e below s _ _ _ (Ty1.setTop (mkF m 14 #[.val (.int pf), .val (.int pv), .val (.int pl), .val (.int PO), .val (.int PS), .unset, .unset, .unset, .unset, .unset] [(.ref by1), (.ref by1)]))
  refine Fin.step (fun _ => XS.iconst Xy1.here hx rfl (hb hby at_14)) ?_
  show Fin p e below s _ _ _ (Ty1.setTop (mkF m 15 #[.val (.int pf), .val (.int pv), .val (.int pl), .val (.int PO), .val (.int PS), .unset, .unset, .unset, .unset, .unset] [(.int (0 : Int32)), (.ref by1), (.ref by1)]))
  refine Fin.step (fun _ => XS.iload Xy1.here hx rfl (hb hby at_15) rfl) ?_
  show Fin p e below s _ _ _ (Ty1.setTop (mkF m 17 #[.val (.int pf), .val (.int pv), .val (.int pl), .val (.int PO), .val (.int PS), .unset, .unset, .unset, .unset, .unset] [(.int PS), (.int (0 : Int32)), (.ref by1), (.ref by1)]))
  have voy2 := Vy1
  obtain ⟨cly2, Ary2, qay2, say2, nay2, hay2, gay2⟩ := voy2
  obtain ⟨Ty2, hy2, Xy2, ey2, Wy2, sty2⟩ := stB Xy1 hx hZ ey1 Ary2 (j := (0 : Int32)) (inb_of say2 ⟨by decide, by decide⟩) (g := (mkF m 17 #[.val (.int pf), .val (.int pv), .val (.int pl), .val (.int PO), .val (.int PS), .unset, .unset, .unset, .unset, .unset] [(.int PS), (.int (0 : Int32)), (.ref by1), (.ref by1)])) rfl rfl (hb hby at_17)
  have Vy2 : Arv Z hy2 by1 ky1 .byte (13 : Int32) [(.int (nar .byte PS)), (.int (0 : Int32)), (.int (0 : Int32)), (.int (0 : Int32)), (.int (0 : Int32)), (.int (0 : Int32)), (.int (0 : Int32)), (.int (0 : Int32)), (.int (0 : Int32)), (.int (0 : Int32)), (.int (0 : Int32)), (.int (0 : Int32)), (.int (0 : Int32))] (.int (0 : Int32)) := Arv.set Ary2 qay2 say2 nay2 hay2 gay2 (fits_nar_byte _) Wy2 0 rfl (Nat.le_of_ble_eq_true rfl)
  have Zy2 : n0 ≤ hy2.size := Nat.le_trans Zy1 (Keep.of_wr Wy2).1
  have Ky2 : Keep h0 hy2 [] := Ky1.wr Wy2 (Or.inr szy1)
  have Ny2 := Fr.snoc Xy2 N0 gzy1
  refine Fin.step (sty2) ?_
  show Fin p e below s _ _ _ (Ty2.setTop (mkF m 18 #[.val (.int pf), .val (.int pv), .val (.int pl), .val (.int PO), .val (.int PS), .unset, .unset, .unset, .unset, .unset] [(.ref by1)]))
  refine Fin.step (fun _ => XS.dup Xy2.here hx rfl (hb hby at_18) rfl rfl) ?_
  show Fin p e below s _ _ _ (Ty2.setTop (mkF m 19 #[.val (.int pf), .val (.int pv), .val (.int pl), .val (.int PO), .val (.int PS), .unset, .unset, .unset, .unset, .unset] [(.ref by1), (.ref by1)]))
  refine Fin.step (fun _ => XS.iconst Xy2.here hx rfl (hb hby at_19)) ?_
  show Fin p e below s _ _ _ (Ty2.setTop (mkF m 20 #[.val (.int pf), .val (.int pv), .val (.int pl), .val (.int PO), .val (.int PS), .unset, .unset, .unset, .unset, .unset] [(.int (1 : Int32)), (.ref by1), (.ref by1)]))
  refine Fin.step (fun _ => XS.iload Xy2.here hx rfl (hb hby at_20) rfl) ?_
  show Fin p e below s _ _ _ (Ty2.setTop (mkF m 22 #[.val (.int pf), .val (.int pv), .val (.int pl), .val (.int PO), .val (.int PS), .unset, .unset, .unset, .unset, .unset] [(.int PS), (.int (1 : Int32)), (.ref by1), (.ref by1)]))
  have voy3 := Vy2
  obtain ⟨cly3, Ary3, qay3, say3, nay3, hay3, gay3⟩ := voy3
  obtain ⟨Ty3, hy3, Xy3, ey3, Wy3, sty3⟩ := stB Xy2 hx hZ ey2 Ary3 (j := (1 : Int32)) (inb_of say3 ⟨by decide, by decide⟩) (g := (mkF m 22 #[.val (.int pf), .val (.int pv), .val (.int pl), .val (.int PO), .val (.int PS), .unset, .unset, .unset, .unset, .unset] [(.int PS), (.int (1 : Int32)), (.ref by1), (.ref by1)])) rfl rfl (hb hby at_22)
  have Vy3 : Arv Z hy3 by1 ky1 .byte (13 : Int32) [(.int (nar .byte PS)), (.int (nar .byte PS)), (.int (0 : Int32)), (.int (0 : Int32)), (.int (0 : Int32)), (.int (0 : Int32)), (.int (0 : Int32)), (.int (0 : Int32)), (.int (0 : Int32)), (.int (0 : Int32)), (.int (0 : Int32)), (.int (0 : Int32)), (.int (0 : Int32))] (.int (0 : Int32)) := Arv.set Ary3 qay3 say3 nay3 hay3 gay3 (fits_nar_byte _) Wy3 1 rfl (Nat.le_of_ble_eq_true rfl)
  have Zy3 : n0 ≤ hy3.size := Nat.le_trans Zy2 (Keep.of_wr Wy3).1
  have Ky3 : Keep h0 hy3 [] := Ky2.wr Wy3 (Or.inr szy1)
  have Ny3 := Fr.snoc Xy3 Ny2 gzy1
  refine Fin.step (sty3) ?_
  show Fin p e below s _ _ _ (Ty3.setTop (mkF m 23 #[.val (.int pf), .val (.int pv), .val (.int pl), .val (.int PO), .val (.int PS), .unset, .unset, .unset, .unset, .unset] [(.ref by1)]))
  refine Fin.step (fun _ => XS.dup Xy3.here hx rfl (hb hby at_23) rfl rfl) ?_
  show Fin p e below s _ _ _ (Ty3.setTop (mkF m 24 #[.val (.int pf), .val (.int pv), .val (.int pl), .val (.int PO), .val (.int PS), .unset, .unset, .unset, .unset, .unset] [(.ref by1), (.ref by1)]))
  refine Fin.step (fun _ => XS.iconst Xy3.here hx rfl (hb hby at_24)) ?_
  show Fin p e below s _ _ _ (Ty3.setTop (mkF m 25 #[.val (.int pf), .val (.int pv), .val (.int pl), .val (.int PO), .val (.int PS), .unset, .unset, .unset, .unset, .unset] [(.int (2 : Int32)), (.ref by1), (.ref by1)]))
  refine Fin.step (fun _ => XS.iload Xy3.here hx rfl (hb hby at_25) rfl) ?_
  show Fin p e below s _ _ _ (Ty3.setTop (mkF m 27 #[.val (.int pf), .val (.int pv), .val (.int pl), .val (.int PO), .val (.int PS), .unset, .unset, .unset, .unset, .unset] [(.int PS), (.int (2 : Int32)), (.ref by1), (.ref by1)]))
  have voy4 := Vy3
  obtain ⟨cly4, Ary4, qay4, say4, nay4, hay4, gay4⟩ := voy4
  obtain ⟨Ty4, hy4, Xy4, ey4, Wy4, sty4⟩ := stB Xy3 hx hZ ey3 Ary4 (j := (2 : Int32)) (inb_of say4 ⟨by decide, by decide⟩) (g := (mkF m 27 #[.val (.int pf), .val (.int pv), .val (.int pl), .val (.int PO), .val (.int PS), .unset, .unset, .unset, .unset, .unset] [(.int PS), (.int (2 : Int32)), (.ref by1), (.ref by1)])) rfl rfl (hb hby at_27)
  have Vy4 : Arv Z hy4 by1 ky1 .byte (13 : Int32) [(.int (nar .byte PS)), (.int (nar .byte PS)), (.int (nar .byte PS)), (.int (0 : Int32)), (.int (0 : Int32)), (.int (0 : Int32)), (.int (0 : Int32)), (.int (0 : Int32)), (.int (0 : Int32)), (.int (0 : Int32)), (.int (0 : Int32)), (.int (0 : Int32)), (.int (0 : Int32))] (.int (0 : Int32)) := Arv.set Ary4 qay4 say4 nay4 hay4 gay4 (fits_nar_byte _) Wy4 2 rfl (Nat.le_of_ble_eq_true rfl)
  have Zy4 : n0 ≤ hy4.size := Nat.le_trans Zy3 (Keep.of_wr Wy4).1
  have Ky4 : Keep h0 hy4 [] := Ky3.wr Wy4 (Or.inr szy1)
  have Ny4 := Fr.snoc Xy4 Ny3 gzy1
  refine Fin.step (sty4) ?_
  show Fin p e below s _ _ _ (Ty4.setTop (mkF m 28 #[.val (.int pf), .val (.int pv), .val (.int pl), .val (.int PO), .val (.int PS), .unset, .unset, .unset, .unset, .unset] [(.ref by1)]))
  refine Fin.step (fun _ => XS.dup Xy4.here hx rfl (hb hby at_28) rfl rfl) ?_
  show Fin p e below s _ _ _ (Ty4.setTop (mkF m 29 #[.val (.int pf), .val (.int pv), .val (.int pl), .val (.int PO), .val (.int PS), .unset, .unset, .unset, .unset, .unset] [(.ref by1), (.ref by1)]))
  refine Fin.step (fun _ => XS.iconst Xy4.here hx rfl (hb hby at_29)) ?_
  show Fin p e below s _ _ _ (Ty4.setTop (mkF m 30 #[.val (.int pf), .val (.int pv), .val (.int pl), .val (.int PO), .val (.int PS), .unset, .unset, .unset, .unset, .unset] [(.int (3 : Int32)), (.ref by1), (.ref by1)]))
  refine Fin.step (fun _ => XS.iload Xy4.here hx rfl (hb hby at_30) rfl) ?_
  show Fin p e below s _ _ _ (Ty4.setTop (mkF m 32 #[.val (.int pf), .val (.int pv), .val (.int pl), .val (.int PO), .val (.int PS), .unset, .unset, .unset, .unset, .unset] [(.int PS), (.int (3 : Int32)), (.ref by1), (.ref by1)]))
  have voy5 := Vy4
  obtain ⟨cly5, Ary5, qay5, say5, nay5, hay5, gay5⟩ := voy5
  obtain ⟨Ty5, hy5, Xy5, ey5, Wy5, sty5⟩ := stB Xy4 hx hZ ey4 Ary5 (j := (3 : Int32)) (inb_of say5 ⟨by decide, by decide⟩) (g := (mkF m 32 #[.val (.int pf), .val (.int pv), .val (.int pl), .val (.int PO), .val (.int PS), .unset, .unset, .unset, .unset, .unset] [(.int PS), (.int (3 : Int32)), (.ref by1), (.ref by1)])) rfl rfl (hb hby at_32)
  have Vy5 : Arv Z hy5 by1 ky1 .byte (13 : Int32) [(.int (nar .byte PS)), (.int (nar .byte PS)), (.int (nar .byte PS)), (.int (nar .byte PS)), (.int (0 : Int32)), (.int (0 : Int32)), (.int (0 : Int32)), (.int (0 : Int32)), (.int (0 : Int32)), (.int (0 : Int32)), (.int (0 : Int32)), (.int (0 : Int32)), (.int (0 : Int32))] (.int (0 : Int32)) := Arv.set Ary5 qay5 say5 nay5 hay5 gay5 (fits_nar_byte _) Wy5 3 rfl (Nat.le_of_ble_eq_true rfl)
  have Zy5 : n0 ≤ hy5.size := Nat.le_trans Zy4 (Keep.of_wr Wy5).1
  have Ky5 : Keep h0 hy5 [] := Ky4.wr Wy5 (Or.inr szy1)
  have Ny5 := Fr.snoc Xy5 Ny4 gzy1
  refine Fin.step (sty5) ?_
  show Fin p e below s _ _ _ (Ty5.setTop (mkF m 33 #[.val (.int pf), .val (.int pv), .val (.int pl), .val (.int PO), .val (.int PS), .unset, .unset, .unset, .unset, .unset] [(.ref by1)]))
  refine Fin.step (fun _ => XS.dup Xy5.here hx rfl (hb hby at_33) rfl rfl) ?_
  show Fin p e below s _ _ _ (Ty5.setTop (mkF m 34 #[.val (.int pf), .val (.int pv), .val (.int pl), .val (.int PO), .val (.int PS), .unset, .unset, .unset, .unset, .unset] [(.ref by1), (.ref by1)]))
  refine Fin.step (fun _ => XS.iconst Xy5.here hx rfl (hb hby at_34)) ?_
  show Fin p e below s _ _ _ (Ty5.setTop (mkF m 35 #[.val (.int pf), .val (.int pv), .val (.int pl), .val (.int PO), .val (.int PS), .unset, .unset, .unset, .unset, .unset] [(.int (4 : Int32)), (.ref by1), (.ref by1)]))
  refine Fin.step (fun _ => XS.iload Xy5.here hx rfl (hb hby at_35) rfl) ?_
  show Fin p e below s _ _ _ (Ty5.setTop (mkF m 37 #[.val (.int pf), .val (.int pv), .val (.int pl), .val (.int PO), .val (.int PS), .unset, .unset, .unset, .unset, .unset] [(.int PS), (.int (4 : Int32)), (.ref by1), (.ref by1)]))
  have voy6 := Vy5
  obtain ⟨cly6, Ary6, qay6, say6, nay6, hay6, gay6⟩ := voy6
  obtain ⟨Ty6, hy6, Xy6, ey6, Wy6, sty6⟩ := stB Xy5 hx hZ ey5 Ary6 (j := (4 : Int32)) (inb_of say6 ⟨by decide, by decide⟩) (g := (mkF m 37 #[.val (.int pf), .val (.int pv), .val (.int pl), .val (.int PO), .val (.int PS), .unset, .unset, .unset, .unset, .unset] [(.int PS), (.int (4 : Int32)), (.ref by1), (.ref by1)])) rfl rfl (hb hby at_37)
  have Vy6 : Arv Z hy6 by1 ky1 .byte (13 : Int32) [(.int (nar .byte PS)), (.int (nar .byte PS)), (.int (nar .byte PS)), (.int (nar .byte PS)), (.int (nar .byte PS)), (.int (0 : Int32)), (.int (0 : Int32)), (.int (0 : Int32)), (.int (0 : Int32)), (.int (0 : Int32)), (.int (0 : Int32)), (.int (0 : Int32)), (.int (0 : Int32))] (.int (0 : Int32)) := Arv.set Ary6 qay6 say6 nay6 hay6 gay6 (fits_nar_byte _) Wy6 4 rfl (Nat.le_of_ble_eq_true rfl)
  have Zy6 : n0 ≤ hy6.size := Nat.le_trans Zy5 (Keep.of_wr Wy6).1
  have Ky6 : Keep h0 hy6 [] := Ky5.wr Wy6 (Or.inr szy1)
  have Ny6 := Fr.snoc Xy6 Ny5 gzy1
  refine Fin.step (sty6) ?_
  show Fin p e below s _ _ _ (Ty6.setTop (mkF m 38 #[.val (.int pf), .val (.int pv), .val (.int pl), .val (.int PO), .val (.int PS), .unset, .unset, .unset, .unset, .unset] [(.ref by1)]))
  refine Fin.step (fun _ => XS.dup Xy6.here hx rfl (hb hby at_38) rfl rfl) ?_
  show Fin p e below s _ _ _ (Ty6.setTop (mkF m 39 #[.val (.int pf), .val (.int pv), .val (.int pl), .val (.int PO), .val (.int PS), .unset, .unset, .unset, .unset, .unset] [(.ref by1), (.ref by1)]))
  refine Fin.step (fun _ => XS.iconst Xy6.here hx rfl (hb hby at_39)) ?_
  show Fin p e below s _ _ _ (Ty6.setTop (mkF m 40 #[.val (.int pf), .val (.int pv), .val (.int pl), .val (.int PO), .val (.int PS), .unset, .unset, .unset, .unset, .unset] [(.int (5 : Int32)), (.ref by1), (.ref by1)]))
  refine Fin.step (fun _ => XS.iload Xy6.here hx rfl (hb hby at_40) rfl) ?_
  show Fin p e below s _ _ _ (Ty6.setTop (mkF m 42 #[.val (.int pf), .val (.int pv), .val (.int pl), .val (.int PO), .val (.int PS), .unset, .unset, .unset, .unset, .unset] [(.int PS), (.int (5 : Int32)), (.ref by1), (.ref by1)]))
  have voy7 := Vy6
  obtain ⟨cly7, Ary7, qay7, say7, nay7, hay7, gay7⟩ := voy7
  obtain ⟨Ty7, hy7, Xy7, ey7, Wy7, sty7⟩ := stB Xy6 hx hZ ey6 Ary7 (j := (5 : Int32)) (inb_of say7 ⟨by decide, by decide⟩) (g := (mkF m 42 #[.val (.int pf), .val (.int pv), .val (.int pl), .val (.int PO), .val (.int PS), .unset, .unset, .unset, .unset, .unset] [(.int PS), (.int (5 : Int32)), (.ref by1), (.ref by1)])) rfl rfl (hb hby at_42)
  have Vy7 : Arv Z hy7 by1 ky1 .byte (13 : Int32) [(.int (nar .byte PS)), (.int (nar .byte PS)), (.int (nar .byte PS)), (.int (nar .byte PS)), (.int (nar .byte PS)), (.int (nar .byte PS)), (.int (0 : Int32)), (.int (0 : Int32)), (.int (0 : Int32)), (.int (0 : Int32)), (.int (0 : Int32)), (.int (0 : Int32)), (.int (0 : Int32))] (.int (0 : Int32)) := Arv.set Ary7 qay7 say7 nay7 hay7 gay7 (fits_nar_byte _) Wy7 5 rfl (Nat.le_of_ble_eq_true rfl)
  have Zy7 : n0 ≤ hy7.size := Nat.le_trans Zy6 (Keep.of_wr Wy7).1
  have Ky7 : Keep h0 hy7 [] := Ky6.wr Wy7 (Or.inr szy1)
  have Ny7 := Fr.snoc Xy7 Ny6 gzy1
  refine Fin.step (sty7) ?_
  show Fin p e below s _ _ _ (Ty7.setTop (mkF m 43 #[.val (.int pf), .val (.int pv), .val (.int pl), .val (.int PO), .val (.int PS), .unset, .unset, .unset, .unset, .unset] [(.ref by1)]))
  refine Fin.step (fun _ => XS.dup Xy7.here hx rfl (hb hby at_43) rfl rfl) ?_
  show Fin p e below s _ _ _ (Ty7.setTop (mkF m 44 #[.val (.int pf), .val (.int pv), .val (.int pl), .val (.int PO), .val (.int PS), .unset, .unset, .unset, .unset, .unset] [(.ref by1), (.ref by1)]))
  refine Fin.step (fun _ => XS.bipush Xy7.here hx rfl (hb hby at_44)) ?_
  show Fin p e below s _ _ _ (Ty7.setTop (mkF m 46 #[.val (.int pf), .val (.int pv), .val (.int pl), .val (.int PO), .val (.int PS), .unset, .unset, .unset, .unset, .unset] [(.int (6 : Int32)), (.ref by1), (.ref by1)]))
  refine Fin.step (fun _ => XS.iload Xy7.here hx rfl (hb hby at_46) rfl) ?_
  show Fin p e below s _ _ _ (Ty7.setTop (mkF m 48 #[.val (.int pf), .val (.int pv), .val (.int pl), .val (.int PO), .val (.int PS), .unset, .unset, .unset, .unset, .unset] [(.int PS), (.int (6 : Int32)), (.ref by1), (.ref by1)]))
  have voy8 := Vy7
  obtain ⟨cly8, Ary8, qay8, say8, nay8, hay8, gay8⟩ := voy8
  obtain ⟨Ty8, hy8, Xy8, ey8, Wy8, sty8⟩ := stB Xy7 hx hZ ey7 Ary8 (j := (6 : Int32)) (inb_of say8 ⟨by decide, by decide⟩) (g := (mkF m 48 #[.val (.int pf), .val (.int pv), .val (.int pl), .val (.int PO), .val (.int PS), .unset, .unset, .unset, .unset, .unset] [(.int PS), (.int (6 : Int32)), (.ref by1), (.ref by1)])) rfl rfl (hb hby at_48)
  have Vy8 : Arv Z hy8 by1 ky1 .byte (13 : Int32) [(.int (nar .byte PS)), (.int (nar .byte PS)), (.int (nar .byte PS)), (.int (nar .byte PS)), (.int (nar .byte PS)), (.int (nar .byte PS)), (.int (nar .byte PS)), (.int (0 : Int32)), (.int (0 : Int32)), (.int (0 : Int32)), (.int (0 : Int32)), (.int (0 : Int32)), (.int (0 : Int32))] (.int (0 : Int32)) := Arv.set Ary8 qay8 say8 nay8 hay8 gay8 (fits_nar_byte _) Wy8 6 rfl (Nat.le_of_ble_eq_true rfl)
  have Zy8 : n0 ≤ hy8.size := Nat.le_trans Zy7 (Keep.of_wr Wy8).1
  have Ky8 : Keep h0 hy8 [] := Ky7.wr Wy8 (Or.inr szy1)
  have Ny8 := Fr.snoc Xy8 Ny7 gzy1
  refine Fin.step (sty8) ?_
  show Fin p e below s _ _ _ (Ty8.setTop (mkF m 49 #[.val (.int pf), .val (.int pv), .val (.int pl), .val (.int PO), .val (.int PS), .unset, .unset, .unset, .unset, .unset] [(.ref by1)]))
  refine Fin.step (fun _ => XS.dup Xy8.here hx rfl (hb hby at_49) rfl rfl) ?_
  show Fin p e below s _ _ _ (Ty8.setTop (mkF m 50 #[.val (.int pf), .val (.int pv), .val (.int pl), .val (.int PO), .val (.int PS), .unset, .unset, .unset, .unset, .unset] [(.ref by1), (.ref by1)]))
  refine Fin.step (fun _ => XS.bipush Xy8.here hx rfl (hb hby at_50)) ?_
  show Fin p e below s _ _ _ (Ty8.setTop (mkF m 52 #[.val (.int pf), .val (.int pv), .val (.int pl), .val (.int PO), .val (.int PS), .unset, .unset, .unset, .unset, .unset] [(.int (7 : Int32)), (.ref by1), (.ref by1)]))
  refine Fin.step (fun _ => XS.iload Xy8.here hx rfl (hb hby at_52) rfl) ?_
  show Fin p e below s _ _ _ (Ty8.setTop (mkF m 54 #[.val (.int pf), .val (.int pv), .val (.int pl), .val (.int PO), .val (.int PS), .unset, .unset, .unset, .unset, .unset] [(.int PS), (.int (7 : Int32)), (.ref by1), (.ref by1)]))
  have voy9 := Vy8
  obtain ⟨cly9, Ary9, qay9, say9, nay9, hay9, gay9⟩ := voy9
  obtain ⟨Ty9, hy9, Xy9, ey9, Wy9, sty9⟩ := stB Xy8 hx hZ ey8 Ary9 (j := (7 : Int32)) (inb_of say9 ⟨by decide, by decide⟩) (g := (mkF m 54 #[.val (.int pf), .val (.int pv), .val (.int pl), .val (.int PO), .val (.int PS), .unset, .unset, .unset, .unset, .unset] [(.int PS), (.int (7 : Int32)), (.ref by1), (.ref by1)])) rfl rfl (hb hby at_54)
  have Vy9 : Arv Z hy9 by1 ky1 .byte (13 : Int32) [(.int (nar .byte PS)), (.int (nar .byte PS)), (.int (nar .byte PS)), (.int (nar .byte PS)), (.int (nar .byte PS)), (.int (nar .byte PS)), (.int (nar .byte PS)), (.int (nar .byte PS)), (.int (0 : Int32)), (.int (0 : Int32)), (.int (0 : Int32)), (.int (0 : Int32)), (.int (0 : Int32))] (.int (0 : Int32)) := Arv.set Ary9 qay9 say9 nay9 hay9 gay9 (fits_nar_byte _) Wy9 7 rfl (Nat.le_of_ble_eq_true rfl)
  have Zy9 : n0 ≤ hy9.size := Nat.le_trans Zy8 (Keep.of_wr Wy9).1
  have Ky9 : Keep h0 hy9 [] := Ky8.wr Wy9 (Or.inr szy1)
  have Ny9 := Fr.snoc Xy9 Ny8 gzy1
  refine Fin.step (sty9) ?_
  show Fin p e below s _ _ _ (Ty9.setTop (mkF m 55 #[.val (.int pf), .val (.int pv), .val (.int pl), .val (.int PO), .val (.int PS), .unset, .unset, .unset, .unset, .unset] [(.ref by1)]))
  refine Fin.step (fun _ => XS.dup Xy9.here hx rfl (hb hby at_55) rfl rfl) ?_
  show Fin p e below s _ _ _ (Ty9.setTop (mkF m 56 #[.val (.int pf), .val (.int pv), .val (.int pl), .val (.int PO), .val (.int PS), .unset, .unset, .unset, .unset, .unset] [(.ref by1), (.ref by1)]))
  refine Fin.step (fun _ => XS.bipush Xy9.here hx rfl (hb hby at_56)) ?_
  show Fin p e below s _ _ _ (Ty9.setTop (mkF m 58 #[.val (.int pf), .val (.int pv), .val (.int pl), .val (.int PO), .val (.int PS), .unset, .unset, .unset, .unset, .unset] [(.int (8 : Int32)), (.ref by1), (.ref by1)]))
  refine Fin.step (fun _ => XS.iload Xy9.here hx rfl (hb hby at_58) rfl) ?_
  show Fin p e below s _ _ _ (Ty9.setTop (mkF m 60 #[.val (.int pf), .val (.int pv), .val (.int pl), .val (.int PO), .val (.int PS), .unset, .unset, .unset, .unset, .unset] [(.int PS), (.int (8 : Int32)), (.ref by1), (.ref by1)]))
  have voy10 := Vy9
  obtain ⟨cly10, Ary10, qay10, say10, nay10, hay10, gay10⟩ := voy10
  obtain ⟨Ty10, hy10, Xy10, ey10, Wy10, sty10⟩ := stB Xy9 hx hZ ey9 Ary10 (j := (8 : Int32)) (inb_of say10 ⟨by decide, by decide⟩) (g := (mkF m 60 #[.val (.int pf), .val (.int pv), .val (.int pl), .val (.int PO), .val (.int PS), .unset, .unset, .unset, .unset, .unset] [(.int PS), (.int (8 : Int32)), (.ref by1), (.ref by1)])) rfl rfl (hb hby at_60)
  have Vy10 : Arv Z hy10 by1 ky1 .byte (13 : Int32) [(.int (nar .byte PS)), (.int (nar .byte PS)), (.int (nar .byte PS)), (.int (nar .byte PS)), (.int (nar .byte PS)), (.int (nar .byte PS)), (.int (nar .byte PS)), (.int (nar .byte PS)), (.int (nar .byte PS)), (.int (0 : Int32)), (.int (0 : Int32)), (.int (0 : Int32)), (.int (0 : Int32))] (.int (0 : Int32)) := Arv.set Ary10 qay10 say10 nay10 hay10 gay10 (fits_nar_byte _) Wy10 8 rfl (Nat.le_of_ble_eq_true rfl)
  have Zy10 : n0 ≤ hy10.size := Nat.le_trans Zy9 (Keep.of_wr Wy10).1
  have Ky10 : Keep h0 hy10 [] := Ky9.wr Wy10 (Or.inr szy1)
  have Ny10 := Fr.snoc Xy10 Ny9 gzy1
  refine Fin.step (sty10) ?_
  show Fin p e below s _ _ _ (Ty10.setTop (mkF m 61 #[.val (.int pf), .val (.int pv), .val (.int pl), .val (.int PO), .val (.int PS), .unset, .unset, .unset, .unset, .unset] [(.ref by1)]))
  refine Fin.step (fun _ => XS.dup Xy10.here hx rfl (hb hby at_61) rfl rfl) ?_
  show Fin p e below s _ _ _ (Ty10.setTop (mkF m 62 #[.val (.int pf), .val (.int pv), .val (.int pl), .val (.int PO), .val (.int PS), .unset, .unset, .unset, .unset, .unset] [(.ref by1), (.ref by1)]))
  refine Fin.step (fun _ => XS.bipush Xy10.here hx rfl (hb hby at_62)) ?_
  show Fin p e below s _ _ _ (Ty10.setTop (mkF m 64 #[.val (.int pf), .val (.int pv), .val (.int pl), .val (.int PO), .val (.int PS), .unset, .unset, .unset, .unset, .unset] [(.int (9 : Int32)), (.ref by1), (.ref by1)]))
  refine Fin.step (fun _ => XS.iload Xy10.here hx rfl (hb hby at_64) rfl) ?_
  show Fin p e below s _ _ _ (Ty10.setTop (mkF m 66 #[.val (.int pf), .val (.int pv), .val (.int pl), .val (.int PO), .val (.int PS), .unset, .unset, .unset, .unset, .unset] [(.int PS), (.int (9 : Int32)), (.ref by1), (.ref by1)]))
  have voy11 := Vy10
  obtain ⟨cly11, Ary11, qay11, say11, nay11, hay11, gay11⟩ := voy11
  obtain ⟨Ty11, hy11, Xy11, ey11, Wy11, sty11⟩ := stB Xy10 hx hZ ey10 Ary11 (j := (9 : Int32)) (inb_of say11 ⟨by decide, by decide⟩) (g := (mkF m 66 #[.val (.int pf), .val (.int pv), .val (.int pl), .val (.int PO), .val (.int PS), .unset, .unset, .unset, .unset, .unset] [(.int PS), (.int (9 : Int32)), (.ref by1), (.ref by1)])) rfl rfl (hb hby at_66)
  have Vy11 : Arv Z hy11 by1 ky1 .byte (13 : Int32) [(.int (nar .byte PS)), (.int (nar .byte PS)), (.int (nar .byte PS)), (.int (nar .byte PS)), (.int (nar .byte PS)), (.int (nar .byte PS)), (.int (nar .byte PS)), (.int (nar .byte PS)), (.int (nar .byte PS)), (.int (nar .byte PS)), (.int (0 : Int32)), (.int (0 : Int32)), (.int (0 : Int32))] (.int (0 : Int32)) := Arv.set Ary11 qay11 say11 nay11 hay11 gay11 (fits_nar_byte _) Wy11 9 rfl (Nat.le_of_ble_eq_true rfl)
  have Zy11 : n0 ≤ hy11.size := Nat.le_trans Zy10 (Keep.of_wr Wy11).1
  have Ky11 : Keep h0 hy11 [] := Ky10.wr Wy11 (Or.inr szy1)
  have Ny11 := Fr.snoc Xy11 Ny10 gzy1
  refine Fin.step (sty11) ?_
  show Fin p e below s _ _ _ (Ty11.setTop (mkF m 67 #[.val (.int pf), .val (.int pv), .val (.int pl), .val (.int PO), .val (.int PS), .unset, .unset, .unset, .unset, .unset] [(.ref by1)]))
  refine Fin.step (fun _ => XS.dup Xy11.here hx rfl (hb hby at_67) rfl rfl) ?_
  show Fin p e below s _ _ _ (Ty11.setTop (mkF m 68 #[.val (.int pf), .val (.int pv), .val (.int pl), .val (.int PO), .val (.int PS), .unset, .unset, .unset, .unset, .unset] [(.ref by1), (.ref by1)]))
  refine Fin.step (fun _ => XS.bipush Xy11.here hx rfl (hb hby at_68)) ?_
  show Fin p e below s _ _ _ (Ty11.setTop (mkF m 70 #[.val (.int pf), .val (.int pv), .val (.int pl), .val (.int PO), .val (.int PS), .unset, .unset, .unset, .unset, .unset] [(.int (10 : Int32)), (.ref by1), (.ref by1)]))
  refine Fin.step (fun _ => XS.iload Xy11.here hx rfl (hb hby at_70) rfl) ?_
  show Fin p e below s _ _ _ (Ty11.setTop (mkF m 72 #[.val (.int pf), .val (.int pv), .val (.int pl), .val (.int PO), .val (.int PS), .unset, .unset, .unset, .unset, .unset] [(.int PS), (.int (10 : Int32)), (.ref by1), (.ref by1)]))
  have voy12 := Vy11
  obtain ⟨cly12, Ary12, qay12, say12, nay12, hay12, gay12⟩ := voy12
  obtain ⟨Ty12, hy12, Xy12, ey12, Wy12, sty12⟩ := stB Xy11 hx hZ ey11 Ary12 (j := (10 : Int32)) (inb_of say12 ⟨by decide, by decide⟩) (g := (mkF m 72 #[.val (.int pf), .val (.int pv), .val (.int pl), .val (.int PO), .val (.int PS), .unset, .unset, .unset, .unset, .unset] [(.int PS), (.int (10 : Int32)), (.ref by1), (.ref by1)])) rfl rfl (hb hby at_72)
  have Vy12 : Arv Z hy12 by1 ky1 .byte (13 : Int32) [(.int (nar .byte PS)), (.int (nar .byte PS)), (.int (nar .byte PS)), (.int (nar .byte PS)), (.int (nar .byte PS)), (.int (nar .byte PS)), (.int (nar .byte PS)), (.int (nar .byte PS)), (.int (nar .byte PS)), (.int (nar .byte PS)), (.int (nar .byte PS)), (.int (0 : Int32)), (.int (0 : Int32))] (.int (0 : Int32)) := Arv.set Ary12 qay12 say12 nay12 hay12 gay12 (fits_nar_byte _) Wy12 10 rfl (Nat.le_of_ble_eq_true rfl)
  have Zy12 : n0 ≤ hy12.size := Nat.le_trans Zy11 (Keep.of_wr Wy12).1
  have Ky12 : Keep h0 hy12 [] := Ky11.wr Wy12 (Or.inr szy1)
  have Ny12 := Fr.snoc Xy12 Ny11 gzy1
  refine Fin.step (sty12) ?_
  show Fin p e below s _ _ _ (Ty12.setTop (mkF m 73 #[.val (.int pf), .val (.int pv), .val (.int pl), .val (.int PO), .val (.int PS), .unset, .unset, .unset, .unset, .unset] [(.ref by1)]))
  refine Fin.step (fun _ => XS.dup Xy12.here hx rfl (hb hby at_73) rfl rfl) ?_
  show Fin p e below s _ _ _ (Ty12.setTop (mkF m 74 #[.val (.int pf), .val (.int pv), .val (.int pl), .val (.int PO), .val (.int PS), .unset, .unset, .unset, .unset, .unset] [(.ref by1), (.ref by1)]))
  refine Fin.step (fun _ => XS.bipush Xy12.here hx rfl (hb hby at_74)) ?_
  show Fin p e below s _ _ _ (Ty12.setTop (mkF m 76 #[.val (.int pf), .val (.int pv), .val (.int pl), .val (.int PO), .val (.int PS), .unset, .unset, .unset, .unset, .unset] [(.int (11 : Int32)), (.ref by1), (.ref by1)]))
  refine Fin.step (fun _ => XS.iload Xy12.here hx rfl (hb hby at_76) rfl) ?_
  show Fin p e below s _ _ _ (Ty12.setTop (mkF m 78 #[.val (.int pf), .val (.int pv), .val (.int pl), .val (.int PO), .val (.int PS), .unset, .unset, .unset, .unset, .unset] [(.int PS), (.int (11 : Int32)), (.ref by1), (.ref by1)]))
  have voy13 := Vy12
  obtain ⟨cly13, Ary13, qay13, say13, nay13, hay13, gay13⟩ := voy13
  obtain ⟨Ty13, hy13, Xy13, ey13, Wy13, sty13⟩ := stB Xy12 hx hZ ey12 Ary13 (j := (11 : Int32)) (inb_of say13 ⟨by decide, by decide⟩) (g := (mkF m 78 #[.val (.int pf), .val (.int pv), .val (.int pl), .val (.int PO), .val (.int PS), .unset, .unset, .unset, .unset, .unset] [(.int PS), (.int (11 : Int32)), (.ref by1), (.ref by1)])) rfl rfl (hb hby at_78)
  have Vy13 : Arv Z hy13 by1 ky1 .byte (13 : Int32) [(.int (nar .byte PS)), (.int (nar .byte PS)), (.int (nar .byte PS)), (.int (nar .byte PS)), (.int (nar .byte PS)), (.int (nar .byte PS)), (.int (nar .byte PS)), (.int (nar .byte PS)), (.int (nar .byte PS)), (.int (nar .byte PS)), (.int (nar .byte PS)), (.int (nar .byte PS)), (.int (0 : Int32))] (.int (0 : Int32)) := Arv.set Ary13 qay13 say13 nay13 hay13 gay13 (fits_nar_byte _) Wy13 11 rfl (Nat.le_of_ble_eq_true rfl)
  have Zy13 : n0 ≤ hy13.size := Nat.le_trans Zy12 (Keep.of_wr Wy13).1
  have Ky13 : Keep h0 hy13 [] := Ky12.wr Wy13 (Or.inr szy1)
  have Ny13 := Fr.snoc Xy13 Ny12 gzy1
  refine Fin.step (sty13) ?_
  show Fin p e below s _ _ _ (Ty13.setTop (mkF m 79 #[.val (.int pf), .val (.int pv), .val (.int pl), .val (.int PO), .val (.int PS), .unset, .unset, .unset, .unset, .unset] [(.ref by1)]))
  refine Fin.step (fun _ => XS.dup Xy13.here hx rfl (hb hby at_79) rfl rfl) ?_
  show Fin p e below s _ _ _ (Ty13.setTop (mkF m 80 #[.val (.int pf), .val (.int pv), .val (.int pl), .val (.int PO), .val (.int PS), .unset, .unset, .unset, .unset, .unset] [(.ref by1), (.ref by1)]))
  refine Fin.step (fun _ => XS.bipush Xy13.here hx rfl (hb hby at_80)) ?_
  show Fin p e below s _ _ _ (Ty13.setTop (mkF m 82 #[.val (.int pf), .val (.int pv), .val (.int pl), .val (.int PO), .val (.int PS), .unset, .unset, .unset, .unset, .unset] [(.int (12 : Int32)), (.ref by1), (.ref by1)]))
  refine Fin.step (fun _ => XS.iload Xy13.here hx rfl (hb hby at_82) rfl) ?_
  show Fin p e below s _ _ _ (Ty13.setTop (mkF m 84 #[.val (.int pf), .val (.int pv), .val (.int pl), .val (.int PO), .val (.int PS), .unset, .unset, .unset, .unset, .unset] [(.int PS), (.int (12 : Int32)), (.ref by1), (.ref by1)]))
  have voy14 := Vy13
  obtain ⟨cly14, Ary14, qay14, say14, nay14, hay14, gay14⟩ := voy14
  obtain ⟨Ty14, hy14, Xy14, ey14, Wy14, sty14⟩ := stB Xy13 hx hZ ey13 Ary14 (j := (12 : Int32)) (inb_of say14 ⟨by decide, by decide⟩) (g := (mkF m 84 #[.val (.int pf), .val (.int pv), .val (.int pl), .val (.int PO), .val (.int PS), .unset, .unset, .unset, .unset, .unset] [(.int PS), (.int (12 : Int32)), (.ref by1), (.ref by1)])) rfl rfl (hb hby at_84)
  have Vy14 : Arv Z hy14 by1 ky1 .byte (13 : Int32) [(.int (nar .byte PS)), (.int (nar .byte PS)), (.int (nar .byte PS)), (.int (nar .byte PS)), (.int (nar .byte PS)), (.int (nar .byte PS)), (.int (nar .byte PS)), (.int (nar .byte PS)), (.int (nar .byte PS)), (.int (nar .byte PS)), (.int (nar .byte PS)), (.int (nar .byte PS)), (.int (nar .byte PS))] (.int (0 : Int32)) := Arv.set Ary14 qay14 say14 nay14 hay14 gay14 (fits_nar_byte _) Wy14 12 rfl (Nat.le_of_ble_eq_true rfl)
  have Zy14 : n0 ≤ hy14.size := Nat.le_trans Zy13 (Keep.of_wr Wy14).1
  have Ky14 : Keep h0 hy14 [] := Ky13.wr Wy14 (Or.inr szy1)
  have Ny14 := Fr.snoc Xy14 Ny13 gzy1
  refine Fin.step (sty14) ?_
  show Fin p e below s _ _ _ (Ty14.setTop (mkF m 85 #[.val (.int pf), .val (.int pv), .val (.int pl), .val (.int PO), .val (.int PS), .unset, .unset, .unset, .unset, .unset] [(.ref by1)]))
  refine Fin.step (fun _ => XS.astore Xy14.here hx rfl (hb hby at_85) rfl rfl (l' := #[.val (.int pf), .val (.int pv), .val (.int pl), .val (.int PO), .val (.int PS), .val (.ref by1), .unset, .unset, .unset, .unset]) rfl) ?_
  show Fin p e below s _ _ _ (Ty14.setTop (mkF m 87 #[.val (.int pf), .val (.int pv), .val (.int pl), .val (.int PO), .val (.int PS), .val (.ref by1), .unset, .unset, .unset, .unset] []))
  refine Fin.step (fun _ => XS.iloadN Xy14.here hx rfl (hb hby at_87) rfl) ?_
  show Fin p e below s _ _ _ (Ty14.setTop (mkF m 88 #[.val (.int pf), .val (.int pv), .val (.int pl), .val (.int PO), .val (.int PS), .val (.ref by1), .unset, .unset, .unset, .unset] [(.int pv)]))
  refine Fin.step (fun _ => XS.i2l Xy14.here hx rfl (hb hby at_88) rfl) ?_
  show Fin p e below s _ _ _ (Ty14.setTop (mkF m 89 #[.val (.int pf), .val (.int pv), .val (.int pl), .val (.int PO), .val (.int PS), .val (.ref by1), .unset, .unset, .unset, .unset] [(.long pv.toInt64)]))
  refine Fin.step (Xy14.ldc2Long hx hown (mvT hZ (hw _ (List.mem_of_getElem? (i := 1) rfl))) (g := (mkF m 89 #[.val (.int pf), .val (.int pv), .val (.int pl), .val (.int PO), .val (.int PS), .val (.ref by1), .unset, .unset, .unset, .unset] [(.long pv.toInt64)])) rfl (hb hby at_89)) ?_
  show Fin p e below s _ _ _ (Ty14.setTop (mkF m 92 #[.val (.int pf), .val (.int pv), .val (.int pl), .val (.int PO), .val (.int PS), .val (.ref by1), .unset, .unset, .unset, .unset] [(.long (4294967295 : Int64)), (.long pv.toInt64)]))
  refine Fin.step (fun _ => XS.land Xy14.here hx rfl (hb hby at_92) rfl) ?_
  show Fin p e below s _ _ _ (Ty14.setTop (mkF m 93 #[.val (.int pf), .val (.int pv), .val (.int pl), .val (.int PO), .val (.int PS), .val (.ref by1), .unset, .unset, .unset, .unset] [(.long (pv.toInt64 &&& (4294967295 : Int64)))]))
  refine Fin.step (fun _ => XS.lstore Xy14.here hx rfl (hb hby at_93) rfl (l' := #[.val (.int pf), .val (.int pv), .val (.int pl), .val (.int PO), .val (.int PS), .val (.ref by1), .val (.long (pv.toInt64 &&& (4294967295 : Int64))), .second, .unset, .unset]) rfl) ?_
  show Fin p e below s _ _ _ (Ty14.setTop (mkF m 95 #[.val (.int pf), .val (.int pv), .val (.int pl), .val (.int PO), .val (.int PS), .val (.ref by1), .val (.long (pv.toInt64 &&& (4294967295 : Int64))), .second, .unset, .unset] []))
  obtain ⟨PU, h_PU⟩ : ∃ z : Int64, z = (pv.toInt64 &&& (4294967295 : Int64)) := ⟨_, rfl⟩
  rw [← h_PU]
  show Fin p e below s _ _ _ (Ty14.setTop (mkF m 95 #[.val (.int pf), .val (.int pv), .val (.int pl), .val (.int PO), .val (.int PS), .val (.ref by1), .val (.long PU), .second, .unset, .unset] []))
  have hU : PU.toInt = (own_U pv : Int) := by rw [h_PU]; exact own_u _
  refine Fin.step (fun _ => XS.lload Xy14.here hx rfl (hb hby at_95) rfl) ?_
  show Fin p e below s _ _ _ (Ty14.setTop (mkF m 97 #[.val (.int pf), .val (.int pv), .val (.int pl), .val (.int PO), .val (.int PS), .val (.ref by1), .val (.long PU), .second, .unset, .unset] [(.long PU)]))
  refine Fin.step (Xy14.ldc2Long hx hown (mvT hZ (hw _ (List.mem_of_getElem? (i := 2) rfl))) (g := (mkF m 97 #[.val (.int pf), .val (.int pv), .val (.int pl), .val (.int PO), .val (.int PS), .val (.ref by1), .val (.long PU), .second, .unset, .unset] [(.long PU)])) rfl (hb hby at_97)) ?_
  show Fin p e below s _ _ _ (Ty14.setTop (mkF m 100 #[.val (.int pf), .val (.int pv), .val (.int pl), .val (.int PO), .val (.int PS), .val (.ref by1), .val (.long PU), .second, .unset, .unset] [(.long (128 : Int64)), (.long PU)]))
  refine Fin.step (fun _ => XS.lcmp Xy14.here hx rfl (hb hby at_100) rfl) ?_
  show Fin p e below s _ _ _ (Ty14.setTop (mkF m 101 #[.val (.int pf), .val (.int pv), .val (.int pl), .val (.int PO), .val (.int PS), .val (.ref by1), .val (.long PU), .second, .unset, .unset] [(.int (lcmpW PU (128 : Int64)))]))
  by_cases hcy15 : PU < (128 : Int64)
  · refine Fin.step (fun _ => XS.ifNo Xy14.here hx rfl (hb hby at_101) rfl ((if0 _ _).trans (tlt ((lcL hcy15) : ((lcmpW PU (128 : Int64)) < (0 : Int32)))).2.1)) ?_
    show Fin p e below s _ _ _ (Ty14.setTop (mkF m 104 #[.val (.int pf), .val (.int pv), .val (.int pl), .val (.int PO), .val (.int PS), .val (.ref by1), .val (.long PU), .second, .unset, .unset] []))
    refine Fin.step (fun _ => XS.iconst Xy14.here hx rfl (hb hby at_104)) ?_
    show Fin p e below s _ _ _ (Ty14.setTop (mkF m 105 #[.val (.int pf), .val (.int pv), .val (.int pl), .val (.int PO), .val (.int PS), .val (.ref by1), .val (.long PU), .second, .unset, .unset] [(.int (1 : Int32))]))
    refine Fin.step (fun _ => XS.istore Xy14.here hx rfl (hb hby at_105) rfl (l' := #[.val (.int pf), .val (.int pv), .val (.int pl), .val (.int PO), .val (.int PS), .val (.ref by1), .val (.long PU), .second, .val (.int (1 : Int32)), .unset]) rfl) ?_
    show Fin p e below s _ _ _ (Ty14.setTop (mkF m 107 #[.val (.int pf), .val (.int pv), .val (.int pl), .val (.int PO), .val (.int PS), .val (.ref by1), .val (.long PU), .second, .val (.int (1 : Int32)), .unset] []))
    refine Fin.step (fun _ => XS.goto Xy14.here hx rfl (pc0 := 107) (pc' := 158) rfl (hb hby at_107) (by decide) (by decide)) ?_
    show Fin p e below s _ _ _ (Ty14.setTop (mkF m 158 #[.val (.int pf), .val (.int pv), .val (.int pl), .val (.int PO), .val (.int PS), .val (.ref by1), .val (.long PU), .second, .val (.int (1 : Int32)), .unset] []))
    have C := own_cnd1 pv PU hU hcy15
    have CL : (own_sh 0 pv &&& (-128 : Int32)) = 0 := C
    have M := own_made PS hS
    obtain ⟨Ls, h_Ls⟩ : ∃ z : List Value, z = [(.int (nar .byte PS)), (.int (nar .byte PS)), (.int (nar .byte PS)), (.int (nar .byte PS)), (.int (nar .byte PS)), (.int (nar .byte PS)), (.int (nar .byte PS)), (.int (nar .byte PS)), (.int (nar .byte PS)), (.int (nar .byte PS)), (.int (nar .byte PS)), (.int (nar .byte PS)), (.int (nar .byte PS))] := ⟨_, rfl⟩
    rw [← h_Ls] at M
    have VL : Arv Z hy14 by1 ky1 .byte (13 : Int32) Ls (.int (0 : Int32)) := by rw [h_Ls]; exact Vy14
    refine Fin.step (fun _ => XS.aload Xy14.here hx rfl (hb hby at_158) rfl rfl) ?_
    show Fin p e below s _ _ _ (Ty14.setTop (mkF m 160 #[.val (.int pf), .val (.int pv), .val (.int pl), .val (.int PO), .val (.int PS), .val (.ref by1), .val (.long PU), .second, .val (.int (1 : Int32)), .unset] [(.ref by1)]))
    refine Fin.step (fun _ => XS.iloadN Xy14.here hx rfl (hb hby at_160) rfl) ?_
    show Fin p e below s _ _ _ (Ty14.setTop (mkF m 161 #[.val (.int pf), .val (.int pv), .val (.int pl), .val (.int PO), .val (.int PS), .val (.ref by1), .val (.long PU), .second, .val (.int (1 : Int32)), .unset] [(.int PO), (.ref by1)]))
    refine Fin.step (fun _ => XS.iloadN Xy14.here hx rfl (hb hby at_161) rfl) ?_
    show Fin p e below s _ _ _ (Ty14.setTop (mkF m 162 #[.val (.int pf), .val (.int pv), .val (.int pl), .val (.int PO), .val (.int PS), .val (.ref by1), .val (.long PU), .second, .val (.int (1 : Int32)), .unset] [(.int pv), (.int PO), (.ref by1)]))
    obtain ⟨_, _, ⟨Ty16, Ly16, ky16, ny16⟩, -, Xy16, ⟨Lcy16, hQy16, ly16, yy16, zy16⟩, sty16⟩ := Jvm.LawKit.callS Xy14 hx (y := (⟨"com/example/indexterity/indexterity/index/IndexFormat", "putVarInt", "([BII)I"⟩ : MethodName)) hown (mvT hZ (hw _ (List.mem_of_getElem? (i := 3) rfl))) (mvT hZ (hw _ (List.mem_of_getElem? (i := 4) rfl))) (mvT hZ (hw _ (List.mem_of_getElem? (i := 5) rfl))) (mvT hZ (hw _ (List.mem_of_getElem? (i := 6) rfl))) (by decide) (backOf (W := 0) (rmv1 l Z a0 hw [] by1 PO pv ky1 Ls hy14 n0 Zy14 VL gzy1 M.1 hO C) hZ (hw _ (List.mem_of_getElem? (i := 6) rfl)) (hw _ (List.mem_of_getElem? (i := 5) rfl)) (by decide) (by decide)) (g := (mkF m 162 #[.val (.int pf), .val (.int pv), .val (.int pl), .val (.int PO), .val (.int PS), .val (.ref by1), .val (.long PU), .second, .val (.int (1 : Int32)), .unset] [(.int pv), (.int PO), (.ref by1)])) rfl (by rw [hml]; rfl) (argsL := [(.ref by1), (.int PO), (.int pv)]) (rest := []) (lenOf pd_0 rfl) rfl (by show 2 * 0 + _ ≤ _; exact Nat.le_of_eq rfl) (hb hby at_162) (fun _ _ => ⟨rfl, ey14, (by decide : 1 + 0 ≤ _), (by decide : 13 + 0 ≤ _)⟩)
    dsimp only [Pt.U, Pt.locs, Pt.cells, Pt.slots] at Xy16 ly16 yy16 zy16 sty16 hQy16
    have yy16 : ky16 = 1 := yy16
    have zy16 : ny16 = 13 := zy16
    replace Xy16 := recast Xy16 ly16 yy16 zy16
    clear ly16 yy16 zy16
    obtain ⟨rfl, Nqy16, Kcy16, fy16_0⟩ := hQy16
    have Ny16 := Fr.app Ny14 Nqy16
    have Zy16 : n0 ≤ Ty16.heap.size := Nat.le_trans Zy14 Kcy16.1
    have Ky16 : Keep h0 Ty16.heap [] := Ky14.trans Kcy16 (allS (Or.inr szy1) all0)
    refine Fin.step (sty16) ?_
    show Fin p e below s _ _ _ (Ty16.setTop (mkF m 165 #[.val (.int pf), .val (.int pv), .val (.int pl), .val (.int PO), .val (.int PS), .val (.ref by1), .val (.long PU), .second, .val (.int (1 : Int32)), .unset] [(.int (PO + (1 : Int32)))]))
    refine Fin.step (fun _ => XS.istore Xy16.here hx rfl (hb hby at_165) rfl (l' := #[.val (.int pf), .val (.int pv), .val (.int pl), .val (.int PO), .val (.int PS), .val (.ref by1), .val (.long PU), .second, .val (.int (1 : Int32)), .val (.int (PO + (1 : Int32)))]) rfl) ?_
    show Fin p e below s _ _ _ (Ty16.setTop (mkF m 167 #[.val (.int pf), .val (.int pv), .val (.int pl), .val (.int PO), .val (.int PS), .val (.ref by1), .val (.long PU), .second, .val (.int (1 : Int32)), .val (.int (PO + (1 : Int32)))] []))
    refine Fin.step (fun _ => XS.iload Xy16.here hx rfl (hb hby at_167) rfl) ?_
    show Fin p e below s _ _ _ (Ty16.setTop (mkF m 169 #[.val (.int pf), .val (.int pv), .val (.int pl), .val (.int PO), .val (.int PS), .val (.ref by1), .val (.long PU), .second, .val (.int (1 : Int32)), .val (.int (PO + (1 : Int32)))] [(.int (PO + (1 : Int32)))]))
    refine Fin.step (fun _ => XS.iloadN Xy16.here hx rfl (hb hby at_169) rfl) ?_
    show Fin p e below s _ _ _ (Ty16.setTop (mkF m 170 #[.val (.int pf), .val (.int pv), .val (.int pl), .val (.int PO), .val (.int PS), .val (.ref by1), .val (.long PU), .second, .val (.int (1 : Int32)), .val (.int (PO + (1 : Int32)))] [(.int PO), (.int (PO + (1 : Int32)))]))
    refine Fin.step (fun _ => XS.iload Xy16.here hx rfl (hb hby at_170) rfl) ?_
    show Fin p e below s _ _ _ (Ty16.setTop (mkF m 172 #[.val (.int pf), .val (.int pv), .val (.int pl), .val (.int PO), .val (.int PS), .val (.ref by1), .val (.long PU), .second, .val (.int (1 : Int32)), .val (.int (PO + (1 : Int32)))] [(.int (1 : Int32)), (.int PO), (.int (PO + (1 : Int32)))]))
    refine Fin.step (fun _ => XS.iadd Xy16.here hx rfl (hb hby at_172) rfl) ?_
    show Fin p e below s _ _ _ (Ty16.setTop (mkF m 173 #[.val (.int pf), .val (.int pv), .val (.int pl), .val (.int PO), .val (.int PS), .val (.ref by1), .val (.long PU), .second, .val (.int (1 : Int32)), .val (.int (PO + (1 : Int32)))] [(.int (PO + (1 : Int32))), (.int (PO + (1 : Int32)))]))
    refine Fin.step (fun _ => XS.icmpYes Xy16.here hx rfl (pc0 := 173) (pc' := 178) rfl (hb hby at_173) rfl (teq (rfl : ((PO + (1 : Int32)) = (PO + (1 : Int32))))).1 (by decide) (by decide)) ?_
    show Fin p e below s _ _ _ (Ty16.setTop (mkF m 178 #[.val (.int pf), .val (.int pv), .val (.int pl), .val (.int PO), .val (.int PS), .val (.ref by1), .val (.long PU), .second, .val (.int (1 : Int32)), .val (.int (PO + (1 : Int32)))] []))
    refine Fin.step (fun _ => XS.aload Xy16.here hx rfl (hb hby at_178) rfl rfl) ?_
    show Fin p e below s _ _ _ (Ty16.setTop (mkF m 180 #[.val (.int pf), .val (.int pv), .val (.int pl), .val (.int PO), .val (.int PS), .val (.ref by1), .val (.long PU), .second, .val (.int (1 : Int32)), .val (.int (PO + (1 : Int32)))] [(.ref by1)]))
    refine Fin.step (fun _ => XS.iconst Xy16.here hx rfl (hb hby at_180)) ?_
    show Fin p e below s _ _ _ (Ty16.setTop (mkF m 181 #[.val (.int pf), .val (.int pv), .val (.int pl), .val (.int PO), .val (.int PS), .val (.ref by1), .val (.long PU), .second, .val (.int (1 : Int32)), .val (.int (PO + (1 : Int32)))] [(.int (0 : Int32)), (.ref by1)]))
    refine Fin.step (fun _ => XS.iloadN Xy16.here hx rfl (hb hby at_181) rfl) ?_
    show Fin p e below s _ _ _ (Ty16.setTop (mkF m 182 #[.val (.int pf), .val (.int pv), .val (.int pl), .val (.int PO), .val (.int PS), .val (.ref by1), .val (.long PU), .second, .val (.int (1 : Int32)), .val (.int (PO + (1 : Int32)))] [(.int PO), (.int (0 : Int32)), (.ref by1)]))
    refine Fin.step (fun _ => XS.iload Xy16.here hx rfl (hb hby at_182) rfl) ?_
    show Fin p e below s _ _ _ (Ty16.setTop (mkF m 184 #[.val (.int pf), .val (.int pv), .val (.int pl), .val (.int PO), .val (.int PS), .val (.ref by1), .val (.long PU), .second, .val (.int (1 : Int32)), .val (.int (PO + (1 : Int32)))] [(.int (1 : Int32)), (.int PO), (.int (0 : Int32)), (.ref by1)]))
    refine Fin.step (fun _ => XS.lload Xy16.here hx rfl (hb hby at_184) rfl) ?_
    show Fin p e below s _ _ _ (Ty16.setTop (mkF m 186 #[.val (.int pf), .val (.int pv), .val (.int pl), .val (.int PO), .val (.int PS), .val (.ref by1), .val (.long PU), .second, .val (.int (1 : Int32)), .val (.int (PO + (1 : Int32)))] [(.long PU), (.int (1 : Int32)), (.int PO), (.int (0 : Int32)), (.ref by1)]))
    refine Fin.step (fun _ => XS.iload Xy16.here hx rfl (hb hby at_186) rfl) ?_
    show Fin p e below s _ _ _ (Ty16.setTop (mkF m 188 #[.val (.int pf), .val (.int pv), .val (.int pl), .val (.int PO), .val (.int PS), .val (.ref by1), .val (.long PU), .second, .val (.int (1 : Int32)), .val (.int (PO + (1 : Int32)))] [(.int PS), (.long PU), (.int (1 : Int32)), (.int PO), (.int (0 : Int32)), (.ref by1)]))
    obtain ⟨_, _, ⟨Ty17, Ly17, ky17, ny17⟩, -, Xy17, ⟨Lcy17, hQy17, ly17, yy17, zy17⟩, sty17⟩ := Jvm.LawKit.callS Xy16 hx (y := (⟨"com/example/indexterity/indexterity/index/IndexFormatPutVarIntPinLaw", "at", "([BIIIJB)Z"⟩ : MethodName)) hown (mvT hZ (hw _ (List.mem_of_getElem? (i := 7) rfl))) (mvT hZ (hw _ (List.mem_of_getElem? (i := 8) rfl))) (mvT hZ (hw _ (List.mem_of_getElem? (i := 9) rfl))) (mvT hZ (hw _ (List.mem_of_getElem? (i := 10) rfl))) (by decide) (backOf (W := 0) (rma l Z a0 hw [] by1 (0 : Int32) PO (1 : Int32) PU PS ky1 (own_put 0 Ls PO.toNatClampNeg pv) Ty16.heap n0 Zy16 fy16_0 (own_pg 0 Ls _ pv M.2) ⟨by decide, by decide⟩) hZ (hw _ (List.mem_of_getElem? (i := 10) rfl)) (hw _ (List.mem_of_getElem? (i := 9) rfl)) (by decide) (by decide)) (g := (mkF m 188 #[.val (.int pf), .val (.int pv), .val (.int pl), .val (.int PO), .val (.int PS), .val (.ref by1), .val (.long PU), .second, .val (.int (1 : Int32)), .val (.int (PO + (1 : Int32)))] [(.int PS), (.long PU), (.int (1 : Int32)), (.int PO), (.int (0 : Int32)), (.ref by1)])) rfl (by rw [hml]; rfl) (argsL := [(.ref by1), (.int (0 : Int32)), (.int PO), (.int (1 : Int32)), (.long PU), (.int PS)]) (rest := []) (lenOf pd_1 rfl) rfl (by show 2 * 0 + _ ≤ _; exact Nat.le_of_eq rfl) (hb hby at_188) (fun _ _ => ⟨rfl, rfl, (by decide : 1 + 0 ≤ _), (by decide : 13 + 0 ≤ _)⟩)
    dsimp only [Pt.U, Pt.locs, Pt.cells, Pt.slots] at Xy17 ly17 yy17 zy17 sty17 hQy17
    have yy17 : ky17 = 1 := yy17
    have zy17 : ny17 = 13 := zy17
    replace Xy17 := recast Xy17 ly17 yy17 zy17
    clear ly17 yy17 zy17
    obtain ⟨rfl, Nqy17, eqy17⟩ := hQy17
    have Ny17 := Fr.app Ny16 Nqy17
    refine Fin.step (sty17) ?_
    show Fin p e below s _ _ _ (Ty17.setTop (mkF m 191 #[.val (.int pf), .val (.int pv), .val (.int pl), .val (.int PO), .val (.int PS), .val (.ref by1), .val (.long PU), .second, .val (.int (1 : Int32)), .val (.int (PO + (1 : Int32)))] [(.int (own_at (own_get (own_put 0 Ls PO.toNatClampNeg pv) (0 : Int32).toNatClampNeg) (0 : Int32) PO (1 : Int32) PU PS))]))
    refine Fin.step (fun _ => XS.ifNo Xy17.here hx rfl (hb hby at_191) rfl ((if0 _ _).trans (feq ((own_1 (own_fin 0 (by decide) (0 : Int32) (1 : Int32) PO (by decide) (by decide) hO pv PS Ls M PU hU CL)) : ¬ ((own_at (own_get (own_put 0 Ls PO.toNatClampNeg pv) (0 : Int32).toNatClampNeg) (0 : Int32) PO (1 : Int32) PU PS) = (0 : Int32)))).1)) ?_
    show Fin p e below s _ _ _ (Ty17.setTop (mkF m 194 #[.val (.int pf), .val (.int pv), .val (.int pl), .val (.int PO), .val (.int PS), .val (.ref by1), .val (.long PU), .second, .val (.int (1 : Int32)), .val (.int (PO + (1 : Int32)))] []))
    refine Fin.step (fun _ => XS.aload Xy17.here hx rfl (hb hby at_194) rfl rfl) ?_
    show Fin p e below s _ _ _ (Ty17.setTop (mkF m 196 #[.val (.int pf), .val (.int pv), .val (.int pl), .val (.int PO), .val (.int PS), .val (.ref by1), .val (.long PU), .second, .val (.int (1 : Int32)), .val (.int (PO + (1 : Int32)))] [(.ref by1)]))
    refine Fin.step (fun _ => XS.iconst Xy17.here hx rfl (hb hby at_196)) ?_
    show Fin p e below s _ _ _ (Ty17.setTop (mkF m 197 #[.val (.int pf), .val (.int pv), .val (.int pl), .val (.int PO), .val (.int PS), .val (.ref by1), .val (.long PU), .second, .val (.int (1 : Int32)), .val (.int (PO + (1 : Int32)))] [(.int (1 : Int32)), (.ref by1)]))
    refine Fin.step (fun _ => XS.iloadN Xy17.here hx rfl (hb hby at_197) rfl) ?_
    show Fin p e below s _ _ _ (Ty17.setTop (mkF m 198 #[.val (.int pf), .val (.int pv), .val (.int pl), .val (.int PO), .val (.int PS), .val (.ref by1), .val (.long PU), .second, .val (.int (1 : Int32)), .val (.int (PO + (1 : Int32)))] [(.int PO), (.int (1 : Int32)), (.ref by1)]))
    refine Fin.step (fun _ => XS.iload Xy17.here hx rfl (hb hby at_198) rfl) ?_
    show Fin p e below s _ _ _ (Ty17.setTop (mkF m 200 #[.val (.int pf), .val (.int pv), .val (.int pl), .val (.int PO), .val (.int PS), .val (.ref by1), .val (.long PU), .second, .val (.int (1 : Int32)), .val (.int (PO + (1 : Int32)))] [(.int (1 : Int32)), (.int PO), (.int (1 : Int32)), (.ref by1)]))
    refine Fin.step (fun _ => XS.lload Xy17.here hx rfl (hb hby at_200) rfl) ?_
    show Fin p e below s _ _ _ (Ty17.setTop (mkF m 202 #[.val (.int pf), .val (.int pv), .val (.int pl), .val (.int PO), .val (.int PS), .val (.ref by1), .val (.long PU), .second, .val (.int (1 : Int32)), .val (.int (PO + (1 : Int32)))] [(.long PU), (.int (1 : Int32)), (.int PO), (.int (1 : Int32)), (.ref by1)]))
    refine Fin.step (fun _ => XS.iload Xy17.here hx rfl (hb hby at_202) rfl) ?_
    show Fin p e below s _ _ _ (Ty17.setTop (mkF m 204 #[.val (.int pf), .val (.int pv), .val (.int pl), .val (.int PO), .val (.int PS), .val (.ref by1), .val (.long PU), .second, .val (.int (1 : Int32)), .val (.int (PO + (1 : Int32)))] [(.int PS), (.long PU), (.int (1 : Int32)), (.int PO), (.int (1 : Int32)), (.ref by1)]))
    obtain ⟨_, _, ⟨Ty18, Ly18, ky18, ny18⟩, -, Xy18, ⟨Lcy18, hQy18, ly18, yy18, zy18⟩, sty18⟩ := Jvm.LawKit.callS Xy17 hx (y := (⟨"com/example/indexterity/indexterity/index/IndexFormatPutVarIntPinLaw", "at", "([BIIIJB)Z"⟩ : MethodName)) hown (mvT hZ (hw _ (List.mem_of_getElem? (i := 7) rfl))) (mvT hZ (hw _ (List.mem_of_getElem? (i := 8) rfl))) (mvT hZ (hw _ (List.mem_of_getElem? (i := 9) rfl))) (mvT hZ (hw _ (List.mem_of_getElem? (i := 10) rfl))) (by decide) (backOf (W := 0) (rma l Z a0 hw [] by1 (1 : Int32) PO (1 : Int32) PU PS ky1 (own_put 0 Ls PO.toNatClampNeg pv) Ty16.heap n0 Zy16 fy16_0 (own_pg 0 Ls _ pv M.2) ⟨by decide, by decide⟩) hZ (hw _ (List.mem_of_getElem? (i := 10) rfl)) (hw _ (List.mem_of_getElem? (i := 9) rfl)) (by decide) (by decide)) (g := (mkF m 204 #[.val (.int pf), .val (.int pv), .val (.int pl), .val (.int PO), .val (.int PS), .val (.ref by1), .val (.long PU), .second, .val (.int (1 : Int32)), .val (.int (PO + (1 : Int32)))] [(.int PS), (.long PU), (.int (1 : Int32)), (.int PO), (.int (1 : Int32)), (.ref by1)])) rfl (by rw [hml]; rfl) (argsL := [(.ref by1), (.int (1 : Int32)), (.int PO), (.int (1 : Int32)), (.long PU), (.int PS)]) (rest := []) (lenOf pd_1 rfl) rfl (by show 2 * 0 + _ ≤ _; exact Nat.le_of_eq rfl) (hb hby at_204) (fun _ _ => ⟨rfl, eqy17, (by decide : 1 + 0 ≤ _), (by decide : 13 + 0 ≤ _)⟩)
    dsimp only [Pt.U, Pt.locs, Pt.cells, Pt.slots] at Xy18 ly18 yy18 zy18 sty18 hQy18
    have yy18 : ky18 = 1 := yy18
    have zy18 : ny18 = 13 := zy18
    replace Xy18 := recast Xy18 ly18 yy18 zy18
    clear ly18 yy18 zy18
    obtain ⟨rfl, Nqy18, eqy18⟩ := hQy18
    have Ny18 := Fr.app Ny17 Nqy18
    refine Fin.step (sty18) ?_
    show Fin p e below s _ _ _ (Ty18.setTop (mkF m 207 #[.val (.int pf), .val (.int pv), .val (.int pl), .val (.int PO), .val (.int PS), .val (.ref by1), .val (.long PU), .second, .val (.int (1 : Int32)), .val (.int (PO + (1 : Int32)))] [(.int (own_at (own_get (own_put 0 Ls PO.toNatClampNeg pv) (1 : Int32).toNatClampNeg) (1 : Int32) PO (1 : Int32) PU PS))]))
    refine Fin.step (fun _ => XS.ifNo Xy18.here hx rfl (hb hby at_207) rfl ((if0 _ _).trans (feq ((own_1 (own_fin 0 (by decide) (1 : Int32) (1 : Int32) PO (by decide) (by decide) hO pv PS Ls M PU hU CL)) : ¬ ((own_at (own_get (own_put 0 Ls PO.toNatClampNeg pv) (1 : Int32).toNatClampNeg) (1 : Int32) PO (1 : Int32) PU PS) = (0 : Int32)))).1)) ?_
    show Fin p e below s _ _ _ (Ty18.setTop (mkF m 210 #[.val (.int pf), .val (.int pv), .val (.int pl), .val (.int PO), .val (.int PS), .val (.ref by1), .val (.long PU), .second, .val (.int (1 : Int32)), .val (.int (PO + (1 : Int32)))] []))
    refine Fin.step (fun _ => XS.aload Xy18.here hx rfl (hb hby at_210) rfl rfl) ?_
    show Fin p e below s _ _ _ (Ty18.setTop (mkF m 212 #[.val (.int pf), .val (.int pv), .val (.int pl), .val (.int PO), .val (.int PS), .val (.ref by1), .val (.long PU), .second, .val (.int (1 : Int32)), .val (.int (PO + (1 : Int32)))] [(.ref by1)]))
    refine Fin.step (fun _ => XS.iconst Xy18.here hx rfl (hb hby at_212)) ?_
    show Fin p e below s _ _ _ (Ty18.setTop (mkF m 213 #[.val (.int pf), .val (.int pv), .val (.int pl), .val (.int PO), .val (.int PS), .val (.ref by1), .val (.long PU), .second, .val (.int (1 : Int32)), .val (.int (PO + (1 : Int32)))] [(.int (2 : Int32)), (.ref by1)]))
    refine Fin.step (fun _ => XS.iloadN Xy18.here hx rfl (hb hby at_213) rfl) ?_
    show Fin p e below s _ _ _ (Ty18.setTop (mkF m 214 #[.val (.int pf), .val (.int pv), .val (.int pl), .val (.int PO), .val (.int PS), .val (.ref by1), .val (.long PU), .second, .val (.int (1 : Int32)), .val (.int (PO + (1 : Int32)))] [(.int PO), (.int (2 : Int32)), (.ref by1)]))
    refine Fin.step (fun _ => XS.iload Xy18.here hx rfl (hb hby at_214) rfl) ?_
    show Fin p e below s _ _ _ (Ty18.setTop (mkF m 216 #[.val (.int pf), .val (.int pv), .val (.int pl), .val (.int PO), .val (.int PS), .val (.ref by1), .val (.long PU), .second, .val (.int (1 : Int32)), .val (.int (PO + (1 : Int32)))] [(.int (1 : Int32)), (.int PO), (.int (2 : Int32)), (.ref by1)]))
    refine Fin.step (fun _ => XS.lload Xy18.here hx rfl (hb hby at_216) rfl) ?_
    show Fin p e below s _ _ _ (Ty18.setTop (mkF m 218 #[.val (.int pf), .val (.int pv), .val (.int pl), .val (.int PO), .val (.int PS), .val (.ref by1), .val (.long PU), .second, .val (.int (1 : Int32)), .val (.int (PO + (1 : Int32)))] [(.long PU), (.int (1 : Int32)), (.int PO), (.int (2 : Int32)), (.ref by1)]))
    refine Fin.step (fun _ => XS.iload Xy18.here hx rfl (hb hby at_218) rfl) ?_
    show Fin p e below s _ _ _ (Ty18.setTop (mkF m 220 #[.val (.int pf), .val (.int pv), .val (.int pl), .val (.int PO), .val (.int PS), .val (.ref by1), .val (.long PU), .second, .val (.int (1 : Int32)), .val (.int (PO + (1 : Int32)))] [(.int PS), (.long PU), (.int (1 : Int32)), (.int PO), (.int (2 : Int32)), (.ref by1)]))
    obtain ⟨_, _, ⟨Ty19, Ly19, ky19, ny19⟩, -, Xy19, ⟨Lcy19, hQy19, ly19, yy19, zy19⟩, sty19⟩ := Jvm.LawKit.callS Xy18 hx (y := (⟨"com/example/indexterity/indexterity/index/IndexFormatPutVarIntPinLaw", "at", "([BIIIJB)Z"⟩ : MethodName)) hown (mvT hZ (hw _ (List.mem_of_getElem? (i := 7) rfl))) (mvT hZ (hw _ (List.mem_of_getElem? (i := 8) rfl))) (mvT hZ (hw _ (List.mem_of_getElem? (i := 9) rfl))) (mvT hZ (hw _ (List.mem_of_getElem? (i := 10) rfl))) (by decide) (backOf (W := 0) (rma l Z a0 hw [] by1 (2 : Int32) PO (1 : Int32) PU PS ky1 (own_put 0 Ls PO.toNatClampNeg pv) Ty16.heap n0 Zy16 fy16_0 (own_pg 0 Ls _ pv M.2) ⟨by decide, by decide⟩) hZ (hw _ (List.mem_of_getElem? (i := 10) rfl)) (hw _ (List.mem_of_getElem? (i := 9) rfl)) (by decide) (by decide)) (g := (mkF m 220 #[.val (.int pf), .val (.int pv), .val (.int pl), .val (.int PO), .val (.int PS), .val (.ref by1), .val (.long PU), .second, .val (.int (1 : Int32)), .val (.int (PO + (1 : Int32)))] [(.int PS), (.long PU), (.int (1 : Int32)), (.int PO), (.int (2 : Int32)), (.ref by1)])) rfl (by rw [hml]; rfl) (argsL := [(.ref by1), (.int (2 : Int32)), (.int PO), (.int (1 : Int32)), (.long PU), (.int PS)]) (rest := []) (lenOf pd_1 rfl) rfl (by show 2 * 0 + _ ≤ _; exact Nat.le_of_eq rfl) (hb hby at_220) (fun _ _ => ⟨rfl, eqy18, (by decide : 1 + 0 ≤ _), (by decide : 13 + 0 ≤ _)⟩)
    dsimp only [Pt.U, Pt.locs, Pt.cells, Pt.slots] at Xy19 ly19 yy19 zy19 sty19 hQy19
    have yy19 : ky19 = 1 := yy19
    have zy19 : ny19 = 13 := zy19
    replace Xy19 := recast Xy19 ly19 yy19 zy19
    clear ly19 yy19 zy19
    obtain ⟨rfl, Nqy19, eqy19⟩ := hQy19
    have Ny19 := Fr.app Ny18 Nqy19
    refine Fin.step (sty19) ?_
    show Fin p e below s _ _ _ (Ty19.setTop (mkF m 223 #[.val (.int pf), .val (.int pv), .val (.int pl), .val (.int PO), .val (.int PS), .val (.ref by1), .val (.long PU), .second, .val (.int (1 : Int32)), .val (.int (PO + (1 : Int32)))] [(.int (own_at (own_get (own_put 0 Ls PO.toNatClampNeg pv) (2 : Int32).toNatClampNeg) (2 : Int32) PO (1 : Int32) PU PS))]))
    refine Fin.step (fun _ => XS.ifNo Xy19.here hx rfl (hb hby at_223) rfl ((if0 _ _).trans (feq ((own_1 (own_fin 0 (by decide) (2 : Int32) (1 : Int32) PO (by decide) (by decide) hO pv PS Ls M PU hU CL)) : ¬ ((own_at (own_get (own_put 0 Ls PO.toNatClampNeg pv) (2 : Int32).toNatClampNeg) (2 : Int32) PO (1 : Int32) PU PS) = (0 : Int32)))).1)) ?_
    show Fin p e below s _ _ _ (Ty19.setTop (mkF m 226 #[.val (.int pf), .val (.int pv), .val (.int pl), .val (.int PO), .val (.int PS), .val (.ref by1), .val (.long PU), .second, .val (.int (1 : Int32)), .val (.int (PO + (1 : Int32)))] []))
    refine Fin.step (fun _ => XS.aload Xy19.here hx rfl (hb hby at_226) rfl rfl) ?_
    show Fin p e below s _ _ _ (Ty19.setTop (mkF m 228 #[.val (.int pf), .val (.int pv), .val (.int pl), .val (.int PO), .val (.int PS), .val (.ref by1), .val (.long PU), .second, .val (.int (1 : Int32)), .val (.int (PO + (1 : Int32)))] [(.ref by1)]))
    refine Fin.step (fun _ => XS.iconst Xy19.here hx rfl (hb hby at_228)) ?_
    show Fin p e below s _ _ _ (Ty19.setTop (mkF m 229 #[.val (.int pf), .val (.int pv), .val (.int pl), .val (.int PO), .val (.int PS), .val (.ref by1), .val (.long PU), .second, .val (.int (1 : Int32)), .val (.int (PO + (1 : Int32)))] [(.int (3 : Int32)), (.ref by1)]))
    refine Fin.step (fun _ => XS.iloadN Xy19.here hx rfl (hb hby at_229) rfl) ?_
    show Fin p e below s _ _ _ (Ty19.setTop (mkF m 230 #[.val (.int pf), .val (.int pv), .val (.int pl), .val (.int PO), .val (.int PS), .val (.ref by1), .val (.long PU), .second, .val (.int (1 : Int32)), .val (.int (PO + (1 : Int32)))] [(.int PO), (.int (3 : Int32)), (.ref by1)]))
    refine Fin.step (fun _ => XS.iload Xy19.here hx rfl (hb hby at_230) rfl) ?_
    show Fin p e below s _ _ _ (Ty19.setTop (mkF m 232 #[.val (.int pf), .val (.int pv), .val (.int pl), .val (.int PO), .val (.int PS), .val (.ref by1), .val (.long PU), .second, .val (.int (1 : Int32)), .val (.int (PO + (1 : Int32)))] [(.int (1 : Int32)), (.int PO), (.int (3 : Int32)), (.ref by1)]))
    refine Fin.step (fun _ => XS.lload Xy19.here hx rfl (hb hby at_232) rfl) ?_
    show Fin p e below s _ _ _ (Ty19.setTop (mkF m 234 #[.val (.int pf), .val (.int pv), .val (.int pl), .val (.int PO), .val (.int PS), .val (.ref by1), .val (.long PU), .second, .val (.int (1 : Int32)), .val (.int (PO + (1 : Int32)))] [(.long PU), (.int (1 : Int32)), (.int PO), (.int (3 : Int32)), (.ref by1)]))
    refine Fin.step (fun _ => XS.iload Xy19.here hx rfl (hb hby at_234) rfl) ?_
    show Fin p e below s _ _ _ (Ty19.setTop (mkF m 236 #[.val (.int pf), .val (.int pv), .val (.int pl), .val (.int PO), .val (.int PS), .val (.ref by1), .val (.long PU), .second, .val (.int (1 : Int32)), .val (.int (PO + (1 : Int32)))] [(.int PS), (.long PU), (.int (1 : Int32)), (.int PO), (.int (3 : Int32)), (.ref by1)]))
    obtain ⟨_, _, ⟨Ty20, Ly20, ky20, ny20⟩, -, Xy20, ⟨Lcy20, hQy20, ly20, yy20, zy20⟩, sty20⟩ := Jvm.LawKit.callS Xy19 hx (y := (⟨"com/example/indexterity/indexterity/index/IndexFormatPutVarIntPinLaw", "at", "([BIIIJB)Z"⟩ : MethodName)) hown (mvT hZ (hw _ (List.mem_of_getElem? (i := 7) rfl))) (mvT hZ (hw _ (List.mem_of_getElem? (i := 8) rfl))) (mvT hZ (hw _ (List.mem_of_getElem? (i := 9) rfl))) (mvT hZ (hw _ (List.mem_of_getElem? (i := 10) rfl))) (by decide) (backOf (W := 0) (rma l Z a0 hw [] by1 (3 : Int32) PO (1 : Int32) PU PS ky1 (own_put 0 Ls PO.toNatClampNeg pv) Ty16.heap n0 Zy16 fy16_0 (own_pg 0 Ls _ pv M.2) ⟨by decide, by decide⟩) hZ (hw _ (List.mem_of_getElem? (i := 10) rfl)) (hw _ (List.mem_of_getElem? (i := 9) rfl)) (by decide) (by decide)) (g := (mkF m 236 #[.val (.int pf), .val (.int pv), .val (.int pl), .val (.int PO), .val (.int PS), .val (.ref by1), .val (.long PU), .second, .val (.int (1 : Int32)), .val (.int (PO + (1 : Int32)))] [(.int PS), (.long PU), (.int (1 : Int32)), (.int PO), (.int (3 : Int32)), (.ref by1)])) rfl (by rw [hml]; rfl) (argsL := [(.ref by1), (.int (3 : Int32)), (.int PO), (.int (1 : Int32)), (.long PU), (.int PS)]) (rest := []) (lenOf pd_1 rfl) rfl (by show 2 * 0 + _ ≤ _; exact Nat.le_of_eq rfl) (hb hby at_236) (fun _ _ => ⟨rfl, eqy19, (by decide : 1 + 0 ≤ _), (by decide : 13 + 0 ≤ _)⟩)
    dsimp only [Pt.U, Pt.locs, Pt.cells, Pt.slots] at Xy20 ly20 yy20 zy20 sty20 hQy20
    have yy20 : ky20 = 1 := yy20
    have zy20 : ny20 = 13 := zy20
    replace Xy20 := recast Xy20 ly20 yy20 zy20
    clear ly20 yy20 zy20
    obtain ⟨rfl, Nqy20, eqy20⟩ := hQy20
    have Ny20 := Fr.app Ny19 Nqy20
    refine Fin.step (sty20) ?_
    show Fin p e below s _ _ _ (Ty20.setTop (mkF m 239 #[.val (.int pf), .val (.int pv), .val (.int pl), .val (.int PO), .val (.int PS), .val (.ref by1), .val (.long PU), .second, .val (.int (1 : Int32)), .val (.int (PO + (1 : Int32)))] [(.int (own_at (own_get (own_put 0 Ls PO.toNatClampNeg pv) (3 : Int32).toNatClampNeg) (3 : Int32) PO (1 : Int32) PU PS))]))
    refine Fin.step (fun _ => XS.ifNo Xy20.here hx rfl (hb hby at_239) rfl ((if0 _ _).trans (feq ((own_1 (own_fin 0 (by decide) (3 : Int32) (1 : Int32) PO (by decide) (by decide) hO pv PS Ls M PU hU CL)) : ¬ ((own_at (own_get (own_put 0 Ls PO.toNatClampNeg pv) (3 : Int32).toNatClampNeg) (3 : Int32) PO (1 : Int32) PU PS) = (0 : Int32)))).1)) ?_
    show Fin p e below s _ _ _ (Ty20.setTop (mkF m 242 #[.val (.int pf), .val (.int pv), .val (.int pl), .val (.int PO), .val (.int PS), .val (.ref by1), .val (.long PU), .second, .val (.int (1 : Int32)), .val (.int (PO + (1 : Int32)))] []))
    refine Fin.step (fun _ => XS.aload Xy20.here hx rfl (hb hby at_242) rfl rfl) ?_
    show Fin p e below s _ _ _ (Ty20.setTop (mkF m 244 #[.val (.int pf), .val (.int pv), .val (.int pl), .val (.int PO), .val (.int PS), .val (.ref by1), .val (.long PU), .second, .val (.int (1 : Int32)), .val (.int (PO + (1 : Int32)))] [(.ref by1)]))
    refine Fin.step (fun _ => XS.iconst Xy20.here hx rfl (hb hby at_244)) ?_
    show Fin p e below s _ _ _ (Ty20.setTop (mkF m 245 #[.val (.int pf), .val (.int pv), .val (.int pl), .val (.int PO), .val (.int PS), .val (.ref by1), .val (.long PU), .second, .val (.int (1 : Int32)), .val (.int (PO + (1 : Int32)))] [(.int (4 : Int32)), (.ref by1)]))
    refine Fin.step (fun _ => XS.iloadN Xy20.here hx rfl (hb hby at_245) rfl) ?_
    show Fin p e below s _ _ _ (Ty20.setTop (mkF m 246 #[.val (.int pf), .val (.int pv), .val (.int pl), .val (.int PO), .val (.int PS), .val (.ref by1), .val (.long PU), .second, .val (.int (1 : Int32)), .val (.int (PO + (1 : Int32)))] [(.int PO), (.int (4 : Int32)), (.ref by1)]))
    refine Fin.step (fun _ => XS.iload Xy20.here hx rfl (hb hby at_246) rfl) ?_
    show Fin p e below s _ _ _ (Ty20.setTop (mkF m 248 #[.val (.int pf), .val (.int pv), .val (.int pl), .val (.int PO), .val (.int PS), .val (.ref by1), .val (.long PU), .second, .val (.int (1 : Int32)), .val (.int (PO + (1 : Int32)))] [(.int (1 : Int32)), (.int PO), (.int (4 : Int32)), (.ref by1)]))
    refine Fin.step (fun _ => XS.lload Xy20.here hx rfl (hb hby at_248) rfl) ?_
    show Fin p e below s _ _ _ (Ty20.setTop (mkF m 250 #[.val (.int pf), .val (.int pv), .val (.int pl), .val (.int PO), .val (.int PS), .val (.ref by1), .val (.long PU), .second, .val (.int (1 : Int32)), .val (.int (PO + (1 : Int32)))] [(.long PU), (.int (1 : Int32)), (.int PO), (.int (4 : Int32)), (.ref by1)]))
    refine Fin.step (fun _ => XS.iload Xy20.here hx rfl (hb hby at_250) rfl) ?_
    show Fin p e below s _ _ _ (Ty20.setTop (mkF m 252 #[.val (.int pf), .val (.int pv), .val (.int pl), .val (.int PO), .val (.int PS), .val (.ref by1), .val (.long PU), .second, .val (.int (1 : Int32)), .val (.int (PO + (1 : Int32)))] [(.int PS), (.long PU), (.int (1 : Int32)), (.int PO), (.int (4 : Int32)), (.ref by1)]))
    obtain ⟨_, _, ⟨Ty21, Ly21, ky21, ny21⟩, -, Xy21, ⟨Lcy21, hQy21, ly21, yy21, zy21⟩, sty21⟩ := Jvm.LawKit.callS Xy20 hx (y := (⟨"com/example/indexterity/indexterity/index/IndexFormatPutVarIntPinLaw", "at", "([BIIIJB)Z"⟩ : MethodName)) hown (mvT hZ (hw _ (List.mem_of_getElem? (i := 7) rfl))) (mvT hZ (hw _ (List.mem_of_getElem? (i := 8) rfl))) (mvT hZ (hw _ (List.mem_of_getElem? (i := 9) rfl))) (mvT hZ (hw _ (List.mem_of_getElem? (i := 10) rfl))) (by decide) (backOf (W := 0) (rma l Z a0 hw [] by1 (4 : Int32) PO (1 : Int32) PU PS ky1 (own_put 0 Ls PO.toNatClampNeg pv) Ty16.heap n0 Zy16 fy16_0 (own_pg 0 Ls _ pv M.2) ⟨by decide, by decide⟩) hZ (hw _ (List.mem_of_getElem? (i := 10) rfl)) (hw _ (List.mem_of_getElem? (i := 9) rfl)) (by decide) (by decide)) (g := (mkF m 252 #[.val (.int pf), .val (.int pv), .val (.int pl), .val (.int PO), .val (.int PS), .val (.ref by1), .val (.long PU), .second, .val (.int (1 : Int32)), .val (.int (PO + (1 : Int32)))] [(.int PS), (.long PU), (.int (1 : Int32)), (.int PO), (.int (4 : Int32)), (.ref by1)])) rfl (by rw [hml]; rfl) (argsL := [(.ref by1), (.int (4 : Int32)), (.int PO), (.int (1 : Int32)), (.long PU), (.int PS)]) (rest := []) (lenOf pd_1 rfl) rfl (by show 2 * 0 + _ ≤ _; exact Nat.le_of_eq rfl) (hb hby at_252) (fun _ _ => ⟨rfl, eqy20, (by decide : 1 + 0 ≤ _), (by decide : 13 + 0 ≤ _)⟩)
    dsimp only [Pt.U, Pt.locs, Pt.cells, Pt.slots] at Xy21 ly21 yy21 zy21 sty21 hQy21
    have yy21 : ky21 = 1 := yy21
    have zy21 : ny21 = 13 := zy21
    replace Xy21 := recast Xy21 ly21 yy21 zy21
    clear ly21 yy21 zy21
    obtain ⟨rfl, Nqy21, eqy21⟩ := hQy21
    have Ny21 := Fr.app Ny20 Nqy21
    refine Fin.step (sty21) ?_
    show Fin p e below s _ _ _ (Ty21.setTop (mkF m 255 #[.val (.int pf), .val (.int pv), .val (.int pl), .val (.int PO), .val (.int PS), .val (.ref by1), .val (.long PU), .second, .val (.int (1 : Int32)), .val (.int (PO + (1 : Int32)))] [(.int (own_at (own_get (own_put 0 Ls PO.toNatClampNeg pv) (4 : Int32).toNatClampNeg) (4 : Int32) PO (1 : Int32) PU PS))]))
    refine Fin.step (fun _ => XS.ifNo Xy21.here hx rfl (hb hby at_255) rfl ((if0 _ _).trans (feq ((own_1 (own_fin 0 (by decide) (4 : Int32) (1 : Int32) PO (by decide) (by decide) hO pv PS Ls M PU hU CL)) : ¬ ((own_at (own_get (own_put 0 Ls PO.toNatClampNeg pv) (4 : Int32).toNatClampNeg) (4 : Int32) PO (1 : Int32) PU PS) = (0 : Int32)))).1)) ?_
    show Fin p e below s _ _ _ (Ty21.setTop (mkF m 258 #[.val (.int pf), .val (.int pv), .val (.int pl), .val (.int PO), .val (.int PS), .val (.ref by1), .val (.long PU), .second, .val (.int (1 : Int32)), .val (.int (PO + (1 : Int32)))] []))
    refine Fin.step (fun _ => XS.aload Xy21.here hx rfl (hb hby at_258) rfl rfl) ?_
    show Fin p e below s _ _ _ (Ty21.setTop (mkF m 260 #[.val (.int pf), .val (.int pv), .val (.int pl), .val (.int PO), .val (.int PS), .val (.ref by1), .val (.long PU), .second, .val (.int (1 : Int32)), .val (.int (PO + (1 : Int32)))] [(.ref by1)]))
    refine Fin.step (fun _ => XS.iconst Xy21.here hx rfl (hb hby at_260)) ?_
    show Fin p e below s _ _ _ (Ty21.setTop (mkF m 261 #[.val (.int pf), .val (.int pv), .val (.int pl), .val (.int PO), .val (.int PS), .val (.ref by1), .val (.long PU), .second, .val (.int (1 : Int32)), .val (.int (PO + (1 : Int32)))] [(.int (5 : Int32)), (.ref by1)]))
    refine Fin.step (fun _ => XS.iloadN Xy21.here hx rfl (hb hby at_261) rfl) ?_
    show Fin p e below s _ _ _ (Ty21.setTop (mkF m 262 #[.val (.int pf), .val (.int pv), .val (.int pl), .val (.int PO), .val (.int PS), .val (.ref by1), .val (.long PU), .second, .val (.int (1 : Int32)), .val (.int (PO + (1 : Int32)))] [(.int PO), (.int (5 : Int32)), (.ref by1)]))
    refine Fin.step (fun _ => XS.iload Xy21.here hx rfl (hb hby at_262) rfl) ?_
    show Fin p e below s _ _ _ (Ty21.setTop (mkF m 264 #[.val (.int pf), .val (.int pv), .val (.int pl), .val (.int PO), .val (.int PS), .val (.ref by1), .val (.long PU), .second, .val (.int (1 : Int32)), .val (.int (PO + (1 : Int32)))] [(.int (1 : Int32)), (.int PO), (.int (5 : Int32)), (.ref by1)]))
    refine Fin.step (fun _ => XS.lload Xy21.here hx rfl (hb hby at_264) rfl) ?_
    show Fin p e below s _ _ _ (Ty21.setTop (mkF m 266 #[.val (.int pf), .val (.int pv), .val (.int pl), .val (.int PO), .val (.int PS), .val (.ref by1), .val (.long PU), .second, .val (.int (1 : Int32)), .val (.int (PO + (1 : Int32)))] [(.long PU), (.int (1 : Int32)), (.int PO), (.int (5 : Int32)), (.ref by1)]))
    refine Fin.step (fun _ => XS.iload Xy21.here hx rfl (hb hby at_266) rfl) ?_
    show Fin p e below s _ _ _ (Ty21.setTop (mkF m 268 #[.val (.int pf), .val (.int pv), .val (.int pl), .val (.int PO), .val (.int PS), .val (.ref by1), .val (.long PU), .second, .val (.int (1 : Int32)), .val (.int (PO + (1 : Int32)))] [(.int PS), (.long PU), (.int (1 : Int32)), (.int PO), (.int (5 : Int32)), (.ref by1)]))
    obtain ⟨_, _, ⟨Ty22, Ly22, ky22, ny22⟩, -, Xy22, ⟨Lcy22, hQy22, ly22, yy22, zy22⟩, sty22⟩ := Jvm.LawKit.callS Xy21 hx (y := (⟨"com/example/indexterity/indexterity/index/IndexFormatPutVarIntPinLaw", "at", "([BIIIJB)Z"⟩ : MethodName)) hown (mvT hZ (hw _ (List.mem_of_getElem? (i := 7) rfl))) (mvT hZ (hw _ (List.mem_of_getElem? (i := 8) rfl))) (mvT hZ (hw _ (List.mem_of_getElem? (i := 9) rfl))) (mvT hZ (hw _ (List.mem_of_getElem? (i := 10) rfl))) (by decide) (backOf (W := 0) (rma l Z a0 hw [] by1 (5 : Int32) PO (1 : Int32) PU PS ky1 (own_put 0 Ls PO.toNatClampNeg pv) Ty16.heap n0 Zy16 fy16_0 (own_pg 0 Ls _ pv M.2) ⟨by decide, by decide⟩) hZ (hw _ (List.mem_of_getElem? (i := 10) rfl)) (hw _ (List.mem_of_getElem? (i := 9) rfl)) (by decide) (by decide)) (g := (mkF m 268 #[.val (.int pf), .val (.int pv), .val (.int pl), .val (.int PO), .val (.int PS), .val (.ref by1), .val (.long PU), .second, .val (.int (1 : Int32)), .val (.int (PO + (1 : Int32)))] [(.int PS), (.long PU), (.int (1 : Int32)), (.int PO), (.int (5 : Int32)), (.ref by1)])) rfl (by rw [hml]; rfl) (argsL := [(.ref by1), (.int (5 : Int32)), (.int PO), (.int (1 : Int32)), (.long PU), (.int PS)]) (rest := []) (lenOf pd_1 rfl) rfl (by show 2 * 0 + _ ≤ _; exact Nat.le_of_eq rfl) (hb hby at_268) (fun _ _ => ⟨rfl, eqy21, (by decide : 1 + 0 ≤ _), (by decide : 13 + 0 ≤ _)⟩)
    dsimp only [Pt.U, Pt.locs, Pt.cells, Pt.slots] at Xy22 ly22 yy22 zy22 sty22 hQy22
    have yy22 : ky22 = 1 := yy22
    have zy22 : ny22 = 13 := zy22
    replace Xy22 := recast Xy22 ly22 yy22 zy22
    clear ly22 yy22 zy22
    obtain ⟨rfl, Nqy22, eqy22⟩ := hQy22
    have Ny22 := Fr.app Ny21 Nqy22
    refine Fin.step (sty22) ?_
    show Fin p e below s _ _ _ (Ty22.setTop (mkF m 271 #[.val (.int pf), .val (.int pv), .val (.int pl), .val (.int PO), .val (.int PS), .val (.ref by1), .val (.long PU), .second, .val (.int (1 : Int32)), .val (.int (PO + (1 : Int32)))] [(.int (own_at (own_get (own_put 0 Ls PO.toNatClampNeg pv) (5 : Int32).toNatClampNeg) (5 : Int32) PO (1 : Int32) PU PS))]))
    refine Fin.step (fun _ => XS.ifNo Xy22.here hx rfl (hb hby at_271) rfl ((if0 _ _).trans (feq ((own_1 (own_fin 0 (by decide) (5 : Int32) (1 : Int32) PO (by decide) (by decide) hO pv PS Ls M PU hU CL)) : ¬ ((own_at (own_get (own_put 0 Ls PO.toNatClampNeg pv) (5 : Int32).toNatClampNeg) (5 : Int32) PO (1 : Int32) PU PS) = (0 : Int32)))).1)) ?_
    show Fin p e below s _ _ _ (Ty22.setTop (mkF m 274 #[.val (.int pf), .val (.int pv), .val (.int pl), .val (.int PO), .val (.int PS), .val (.ref by1), .val (.long PU), .second, .val (.int (1 : Int32)), .val (.int (PO + (1 : Int32)))] []))
    refine Fin.step (fun _ => XS.aload Xy22.here hx rfl (hb hby at_274) rfl rfl) ?_
    show Fin p e below s _ _ _ (Ty22.setTop (mkF m 276 #[.val (.int pf), .val (.int pv), .val (.int pl), .val (.int PO), .val (.int PS), .val (.ref by1), .val (.long PU), .second, .val (.int (1 : Int32)), .val (.int (PO + (1 : Int32)))] [(.ref by1)]))
    refine Fin.step (fun _ => XS.bipush Xy22.here hx rfl (hb hby at_276)) ?_
    show Fin p e below s _ _ _ (Ty22.setTop (mkF m 278 #[.val (.int pf), .val (.int pv), .val (.int pl), .val (.int PO), .val (.int PS), .val (.ref by1), .val (.long PU), .second, .val (.int (1 : Int32)), .val (.int (PO + (1 : Int32)))] [(.int (6 : Int32)), (.ref by1)]))
    refine Fin.step (fun _ => XS.iloadN Xy22.here hx rfl (hb hby at_278) rfl) ?_
    show Fin p e below s _ _ _ (Ty22.setTop (mkF m 279 #[.val (.int pf), .val (.int pv), .val (.int pl), .val (.int PO), .val (.int PS), .val (.ref by1), .val (.long PU), .second, .val (.int (1 : Int32)), .val (.int (PO + (1 : Int32)))] [(.int PO), (.int (6 : Int32)), (.ref by1)]))
    refine Fin.step (fun _ => XS.iload Xy22.here hx rfl (hb hby at_279) rfl) ?_
    show Fin p e below s _ _ _ (Ty22.setTop (mkF m 281 #[.val (.int pf), .val (.int pv), .val (.int pl), .val (.int PO), .val (.int PS), .val (.ref by1), .val (.long PU), .second, .val (.int (1 : Int32)), .val (.int (PO + (1 : Int32)))] [(.int (1 : Int32)), (.int PO), (.int (6 : Int32)), (.ref by1)]))
    refine Fin.step (fun _ => XS.lload Xy22.here hx rfl (hb hby at_281) rfl) ?_
    show Fin p e below s _ _ _ (Ty22.setTop (mkF m 283 #[.val (.int pf), .val (.int pv), .val (.int pl), .val (.int PO), .val (.int PS), .val (.ref by1), .val (.long PU), .second, .val (.int (1 : Int32)), .val (.int (PO + (1 : Int32)))] [(.long PU), (.int (1 : Int32)), (.int PO), (.int (6 : Int32)), (.ref by1)]))
    refine Fin.step (fun _ => XS.iload Xy22.here hx rfl (hb hby at_283) rfl) ?_
    show Fin p e below s _ _ _ (Ty22.setTop (mkF m 285 #[.val (.int pf), .val (.int pv), .val (.int pl), .val (.int PO), .val (.int PS), .val (.ref by1), .val (.long PU), .second, .val (.int (1 : Int32)), .val (.int (PO + (1 : Int32)))] [(.int PS), (.long PU), (.int (1 : Int32)), (.int PO), (.int (6 : Int32)), (.ref by1)]))
    obtain ⟨_, _, ⟨Ty23, Ly23, ky23, ny23⟩, -, Xy23, ⟨Lcy23, hQy23, ly23, yy23, zy23⟩, sty23⟩ := Jvm.LawKit.callS Xy22 hx (y := (⟨"com/example/indexterity/indexterity/index/IndexFormatPutVarIntPinLaw", "at", "([BIIIJB)Z"⟩ : MethodName)) hown (mvT hZ (hw _ (List.mem_of_getElem? (i := 7) rfl))) (mvT hZ (hw _ (List.mem_of_getElem? (i := 8) rfl))) (mvT hZ (hw _ (List.mem_of_getElem? (i := 9) rfl))) (mvT hZ (hw _ (List.mem_of_getElem? (i := 10) rfl))) (by decide) (backOf (W := 0) (rma l Z a0 hw [] by1 (6 : Int32) PO (1 : Int32) PU PS ky1 (own_put 0 Ls PO.toNatClampNeg pv) Ty16.heap n0 Zy16 fy16_0 (own_pg 0 Ls _ pv M.2) ⟨by decide, by decide⟩) hZ (hw _ (List.mem_of_getElem? (i := 10) rfl)) (hw _ (List.mem_of_getElem? (i := 9) rfl)) (by decide) (by decide)) (g := (mkF m 285 #[.val (.int pf), .val (.int pv), .val (.int pl), .val (.int PO), .val (.int PS), .val (.ref by1), .val (.long PU), .second, .val (.int (1 : Int32)), .val (.int (PO + (1 : Int32)))] [(.int PS), (.long PU), (.int (1 : Int32)), (.int PO), (.int (6 : Int32)), (.ref by1)])) rfl (by rw [hml]; rfl) (argsL := [(.ref by1), (.int (6 : Int32)), (.int PO), (.int (1 : Int32)), (.long PU), (.int PS)]) (rest := []) (lenOf pd_1 rfl) rfl (by show 2 * 0 + _ ≤ _; exact Nat.le_of_eq rfl) (hb hby at_285) (fun _ _ => ⟨rfl, eqy22, (by decide : 1 + 0 ≤ _), (by decide : 13 + 0 ≤ _)⟩)
    dsimp only [Pt.U, Pt.locs, Pt.cells, Pt.slots] at Xy23 ly23 yy23 zy23 sty23 hQy23
    have yy23 : ky23 = 1 := yy23
    have zy23 : ny23 = 13 := zy23
    replace Xy23 := recast Xy23 ly23 yy23 zy23
    clear ly23 yy23 zy23
    obtain ⟨rfl, Nqy23, eqy23⟩ := hQy23
    have Ny23 := Fr.app Ny22 Nqy23
    refine Fin.step (sty23) ?_
    show Fin p e below s _ _ _ (Ty23.setTop (mkF m 288 #[.val (.int pf), .val (.int pv), .val (.int pl), .val (.int PO), .val (.int PS), .val (.ref by1), .val (.long PU), .second, .val (.int (1 : Int32)), .val (.int (PO + (1 : Int32)))] [(.int (own_at (own_get (own_put 0 Ls PO.toNatClampNeg pv) (6 : Int32).toNatClampNeg) (6 : Int32) PO (1 : Int32) PU PS))]))
    refine Fin.step (fun _ => XS.ifNo Xy23.here hx rfl (hb hby at_288) rfl ((if0 _ _).trans (feq ((own_1 (own_fin 0 (by decide) (6 : Int32) (1 : Int32) PO (by decide) (by decide) hO pv PS Ls M PU hU CL)) : ¬ ((own_at (own_get (own_put 0 Ls PO.toNatClampNeg pv) (6 : Int32).toNatClampNeg) (6 : Int32) PO (1 : Int32) PU PS) = (0 : Int32)))).1)) ?_
    show Fin p e below s _ _ _ (Ty23.setTop (mkF m 291 #[.val (.int pf), .val (.int pv), .val (.int pl), .val (.int PO), .val (.int PS), .val (.ref by1), .val (.long PU), .second, .val (.int (1 : Int32)), .val (.int (PO + (1 : Int32)))] []))
    refine Fin.step (fun _ => XS.aload Xy23.here hx rfl (hb hby at_291) rfl rfl) ?_
    show Fin p e below s _ _ _ (Ty23.setTop (mkF m 293 #[.val (.int pf), .val (.int pv), .val (.int pl), .val (.int PO), .val (.int PS), .val (.ref by1), .val (.long PU), .second, .val (.int (1 : Int32)), .val (.int (PO + (1 : Int32)))] [(.ref by1)]))
    refine Fin.step (fun _ => XS.bipush Xy23.here hx rfl (hb hby at_293)) ?_
    show Fin p e below s _ _ _ (Ty23.setTop (mkF m 295 #[.val (.int pf), .val (.int pv), .val (.int pl), .val (.int PO), .val (.int PS), .val (.ref by1), .val (.long PU), .second, .val (.int (1 : Int32)), .val (.int (PO + (1 : Int32)))] [(.int (7 : Int32)), (.ref by1)]))
    refine Fin.step (fun _ => XS.iloadN Xy23.here hx rfl (hb hby at_295) rfl) ?_
    show Fin p e below s _ _ _ (Ty23.setTop (mkF m 296 #[.val (.int pf), .val (.int pv), .val (.int pl), .val (.int PO), .val (.int PS), .val (.ref by1), .val (.long PU), .second, .val (.int (1 : Int32)), .val (.int (PO + (1 : Int32)))] [(.int PO), (.int (7 : Int32)), (.ref by1)]))
    refine Fin.step (fun _ => XS.iload Xy23.here hx rfl (hb hby at_296) rfl) ?_
    show Fin p e below s _ _ _ (Ty23.setTop (mkF m 298 #[.val (.int pf), .val (.int pv), .val (.int pl), .val (.int PO), .val (.int PS), .val (.ref by1), .val (.long PU), .second, .val (.int (1 : Int32)), .val (.int (PO + (1 : Int32)))] [(.int (1 : Int32)), (.int PO), (.int (7 : Int32)), (.ref by1)]))
    refine Fin.step (fun _ => XS.lload Xy23.here hx rfl (hb hby at_298) rfl) ?_
    show Fin p e below s _ _ _ (Ty23.setTop (mkF m 300 #[.val (.int pf), .val (.int pv), .val (.int pl), .val (.int PO), .val (.int PS), .val (.ref by1), .val (.long PU), .second, .val (.int (1 : Int32)), .val (.int (PO + (1 : Int32)))] [(.long PU), (.int (1 : Int32)), (.int PO), (.int (7 : Int32)), (.ref by1)]))
    refine Fin.step (fun _ => XS.iload Xy23.here hx rfl (hb hby at_300) rfl) ?_
    show Fin p e below s _ _ _ (Ty23.setTop (mkF m 302 #[.val (.int pf), .val (.int pv), .val (.int pl), .val (.int PO), .val (.int PS), .val (.ref by1), .val (.long PU), .second, .val (.int (1 : Int32)), .val (.int (PO + (1 : Int32)))] [(.int PS), (.long PU), (.int (1 : Int32)), (.int PO), (.int (7 : Int32)), (.ref by1)]))
    obtain ⟨_, _, ⟨Ty24, Ly24, ky24, ny24⟩, -, Xy24, ⟨Lcy24, hQy24, ly24, yy24, zy24⟩, sty24⟩ := Jvm.LawKit.callS Xy23 hx (y := (⟨"com/example/indexterity/indexterity/index/IndexFormatPutVarIntPinLaw", "at", "([BIIIJB)Z"⟩ : MethodName)) hown (mvT hZ (hw _ (List.mem_of_getElem? (i := 7) rfl))) (mvT hZ (hw _ (List.mem_of_getElem? (i := 8) rfl))) (mvT hZ (hw _ (List.mem_of_getElem? (i := 9) rfl))) (mvT hZ (hw _ (List.mem_of_getElem? (i := 10) rfl))) (by decide) (backOf (W := 0) (rma l Z a0 hw [] by1 (7 : Int32) PO (1 : Int32) PU PS ky1 (own_put 0 Ls PO.toNatClampNeg pv) Ty16.heap n0 Zy16 fy16_0 (own_pg 0 Ls _ pv M.2) ⟨by decide, by decide⟩) hZ (hw _ (List.mem_of_getElem? (i := 10) rfl)) (hw _ (List.mem_of_getElem? (i := 9) rfl)) (by decide) (by decide)) (g := (mkF m 302 #[.val (.int pf), .val (.int pv), .val (.int pl), .val (.int PO), .val (.int PS), .val (.ref by1), .val (.long PU), .second, .val (.int (1 : Int32)), .val (.int (PO + (1 : Int32)))] [(.int PS), (.long PU), (.int (1 : Int32)), (.int PO), (.int (7 : Int32)), (.ref by1)])) rfl (by rw [hml]; rfl) (argsL := [(.ref by1), (.int (7 : Int32)), (.int PO), (.int (1 : Int32)), (.long PU), (.int PS)]) (rest := []) (lenOf pd_1 rfl) rfl (by show 2 * 0 + _ ≤ _; exact Nat.le_of_eq rfl) (hb hby at_302) (fun _ _ => ⟨rfl, eqy23, (by decide : 1 + 0 ≤ _), (by decide : 13 + 0 ≤ _)⟩)
    dsimp only [Pt.U, Pt.locs, Pt.cells, Pt.slots] at Xy24 ly24 yy24 zy24 sty24 hQy24
    have yy24 : ky24 = 1 := yy24
    have zy24 : ny24 = 13 := zy24
    replace Xy24 := recast Xy24 ly24 yy24 zy24
    clear ly24 yy24 zy24
    obtain ⟨rfl, Nqy24, eqy24⟩ := hQy24
    have Ny24 := Fr.app Ny23 Nqy24
    refine Fin.step (sty24) ?_
    show Fin p e below s _ _ _ (Ty24.setTop (mkF m 305 #[.val (.int pf), .val (.int pv), .val (.int pl), .val (.int PO), .val (.int PS), .val (.ref by1), .val (.long PU), .second, .val (.int (1 : Int32)), .val (.int (PO + (1 : Int32)))] [(.int (own_at (own_get (own_put 0 Ls PO.toNatClampNeg pv) (7 : Int32).toNatClampNeg) (7 : Int32) PO (1 : Int32) PU PS))]))
    refine Fin.step (fun _ => XS.ifNo Xy24.here hx rfl (hb hby at_305) rfl ((if0 _ _).trans (feq ((own_1 (own_fin 0 (by decide) (7 : Int32) (1 : Int32) PO (by decide) (by decide) hO pv PS Ls M PU hU CL)) : ¬ ((own_at (own_get (own_put 0 Ls PO.toNatClampNeg pv) (7 : Int32).toNatClampNeg) (7 : Int32) PO (1 : Int32) PU PS) = (0 : Int32)))).1)) ?_
    show Fin p e below s _ _ _ (Ty24.setTop (mkF m 308 #[.val (.int pf), .val (.int pv), .val (.int pl), .val (.int PO), .val (.int PS), .val (.ref by1), .val (.long PU), .second, .val (.int (1 : Int32)), .val (.int (PO + (1 : Int32)))] []))
    refine Fin.step (fun _ => XS.aload Xy24.here hx rfl (hb hby at_308) rfl rfl) ?_
    show Fin p e below s _ _ _ (Ty24.setTop (mkF m 310 #[.val (.int pf), .val (.int pv), .val (.int pl), .val (.int PO), .val (.int PS), .val (.ref by1), .val (.long PU), .second, .val (.int (1 : Int32)), .val (.int (PO + (1 : Int32)))] [(.ref by1)]))
    refine Fin.step (fun _ => XS.bipush Xy24.here hx rfl (hb hby at_310)) ?_
    show Fin p e below s _ _ _ (Ty24.setTop (mkF m 312 #[.val (.int pf), .val (.int pv), .val (.int pl), .val (.int PO), .val (.int PS), .val (.ref by1), .val (.long PU), .second, .val (.int (1 : Int32)), .val (.int (PO + (1 : Int32)))] [(.int (8 : Int32)), (.ref by1)]))
    refine Fin.step (fun _ => XS.iloadN Xy24.here hx rfl (hb hby at_312) rfl) ?_
    show Fin p e below s _ _ _ (Ty24.setTop (mkF m 313 #[.val (.int pf), .val (.int pv), .val (.int pl), .val (.int PO), .val (.int PS), .val (.ref by1), .val (.long PU), .second, .val (.int (1 : Int32)), .val (.int (PO + (1 : Int32)))] [(.int PO), (.int (8 : Int32)), (.ref by1)]))
    refine Fin.step (fun _ => XS.iload Xy24.here hx rfl (hb hby at_313) rfl) ?_
    show Fin p e below s _ _ _ (Ty24.setTop (mkF m 315 #[.val (.int pf), .val (.int pv), .val (.int pl), .val (.int PO), .val (.int PS), .val (.ref by1), .val (.long PU), .second, .val (.int (1 : Int32)), .val (.int (PO + (1 : Int32)))] [(.int (1 : Int32)), (.int PO), (.int (8 : Int32)), (.ref by1)]))
    refine Fin.step (fun _ => XS.lload Xy24.here hx rfl (hb hby at_315) rfl) ?_
    show Fin p e below s _ _ _ (Ty24.setTop (mkF m 317 #[.val (.int pf), .val (.int pv), .val (.int pl), .val (.int PO), .val (.int PS), .val (.ref by1), .val (.long PU), .second, .val (.int (1 : Int32)), .val (.int (PO + (1 : Int32)))] [(.long PU), (.int (1 : Int32)), (.int PO), (.int (8 : Int32)), (.ref by1)]))
    refine Fin.step (fun _ => XS.iload Xy24.here hx rfl (hb hby at_317) rfl) ?_
    show Fin p e below s _ _ _ (Ty24.setTop (mkF m 319 #[.val (.int pf), .val (.int pv), .val (.int pl), .val (.int PO), .val (.int PS), .val (.ref by1), .val (.long PU), .second, .val (.int (1 : Int32)), .val (.int (PO + (1 : Int32)))] [(.int PS), (.long PU), (.int (1 : Int32)), (.int PO), (.int (8 : Int32)), (.ref by1)]))
    obtain ⟨_, _, ⟨Ty25, Ly25, ky25, ny25⟩, -, Xy25, ⟨Lcy25, hQy25, ly25, yy25, zy25⟩, sty25⟩ := Jvm.LawKit.callS Xy24 hx (y := (⟨"com/example/indexterity/indexterity/index/IndexFormatPutVarIntPinLaw", "at", "([BIIIJB)Z"⟩ : MethodName)) hown (mvT hZ (hw _ (List.mem_of_getElem? (i := 7) rfl))) (mvT hZ (hw _ (List.mem_of_getElem? (i := 8) rfl))) (mvT hZ (hw _ (List.mem_of_getElem? (i := 9) rfl))) (mvT hZ (hw _ (List.mem_of_getElem? (i := 10) rfl))) (by decide) (backOf (W := 0) (rma l Z a0 hw [] by1 (8 : Int32) PO (1 : Int32) PU PS ky1 (own_put 0 Ls PO.toNatClampNeg pv) Ty16.heap n0 Zy16 fy16_0 (own_pg 0 Ls _ pv M.2) ⟨by decide, by decide⟩) hZ (hw _ (List.mem_of_getElem? (i := 10) rfl)) (hw _ (List.mem_of_getElem? (i := 9) rfl)) (by decide) (by decide)) (g := (mkF m 319 #[.val (.int pf), .val (.int pv), .val (.int pl), .val (.int PO), .val (.int PS), .val (.ref by1), .val (.long PU), .second, .val (.int (1 : Int32)), .val (.int (PO + (1 : Int32)))] [(.int PS), (.long PU), (.int (1 : Int32)), (.int PO), (.int (8 : Int32)), (.ref by1)])) rfl (by rw [hml]; rfl) (argsL := [(.ref by1), (.int (8 : Int32)), (.int PO), (.int (1 : Int32)), (.long PU), (.int PS)]) (rest := []) (lenOf pd_1 rfl) rfl (by show 2 * 0 + _ ≤ _; exact Nat.le_of_eq rfl) (hb hby at_319) (fun _ _ => ⟨rfl, eqy24, (by decide : 1 + 0 ≤ _), (by decide : 13 + 0 ≤ _)⟩)
    dsimp only [Pt.U, Pt.locs, Pt.cells, Pt.slots] at Xy25 ly25 yy25 zy25 sty25 hQy25
    have yy25 : ky25 = 1 := yy25
    have zy25 : ny25 = 13 := zy25
    replace Xy25 := recast Xy25 ly25 yy25 zy25
    clear ly25 yy25 zy25
    obtain ⟨rfl, Nqy25, eqy25⟩ := hQy25
    have Ny25 := Fr.app Ny24 Nqy25
    refine Fin.step (sty25) ?_
    show Fin p e below s _ _ _ (Ty25.setTop (mkF m 322 #[.val (.int pf), .val (.int pv), .val (.int pl), .val (.int PO), .val (.int PS), .val (.ref by1), .val (.long PU), .second, .val (.int (1 : Int32)), .val (.int (PO + (1 : Int32)))] [(.int (own_at (own_get (own_put 0 Ls PO.toNatClampNeg pv) (8 : Int32).toNatClampNeg) (8 : Int32) PO (1 : Int32) PU PS))]))
    refine Fin.step (fun _ => XS.ifNo Xy25.here hx rfl (hb hby at_322) rfl ((if0 _ _).trans (feq ((own_1 (own_fin 0 (by decide) (8 : Int32) (1 : Int32) PO (by decide) (by decide) hO pv PS Ls M PU hU CL)) : ¬ ((own_at (own_get (own_put 0 Ls PO.toNatClampNeg pv) (8 : Int32).toNatClampNeg) (8 : Int32) PO (1 : Int32) PU PS) = (0 : Int32)))).1)) ?_
    show Fin p e below s _ _ _ (Ty25.setTop (mkF m 325 #[.val (.int pf), .val (.int pv), .val (.int pl), .val (.int PO), .val (.int PS), .val (.ref by1), .val (.long PU), .second, .val (.int (1 : Int32)), .val (.int (PO + (1 : Int32)))] []))
    refine Fin.step (fun _ => XS.aload Xy25.here hx rfl (hb hby at_325) rfl rfl) ?_
    show Fin p e below s _ _ _ (Ty25.setTop (mkF m 327 #[.val (.int pf), .val (.int pv), .val (.int pl), .val (.int PO), .val (.int PS), .val (.ref by1), .val (.long PU), .second, .val (.int (1 : Int32)), .val (.int (PO + (1 : Int32)))] [(.ref by1)]))
    refine Fin.step (fun _ => XS.bipush Xy25.here hx rfl (hb hby at_327)) ?_
    show Fin p e below s _ _ _ (Ty25.setTop (mkF m 329 #[.val (.int pf), .val (.int pv), .val (.int pl), .val (.int PO), .val (.int PS), .val (.ref by1), .val (.long PU), .second, .val (.int (1 : Int32)), .val (.int (PO + (1 : Int32)))] [(.int (9 : Int32)), (.ref by1)]))
    refine Fin.step (fun _ => XS.iloadN Xy25.here hx rfl (hb hby at_329) rfl) ?_
    show Fin p e below s _ _ _ (Ty25.setTop (mkF m 330 #[.val (.int pf), .val (.int pv), .val (.int pl), .val (.int PO), .val (.int PS), .val (.ref by1), .val (.long PU), .second, .val (.int (1 : Int32)), .val (.int (PO + (1 : Int32)))] [(.int PO), (.int (9 : Int32)), (.ref by1)]))
    refine Fin.step (fun _ => XS.iload Xy25.here hx rfl (hb hby at_330) rfl) ?_
    show Fin p e below s _ _ _ (Ty25.setTop (mkF m 332 #[.val (.int pf), .val (.int pv), .val (.int pl), .val (.int PO), .val (.int PS), .val (.ref by1), .val (.long PU), .second, .val (.int (1 : Int32)), .val (.int (PO + (1 : Int32)))] [(.int (1 : Int32)), (.int PO), (.int (9 : Int32)), (.ref by1)]))
    refine Fin.step (fun _ => XS.lload Xy25.here hx rfl (hb hby at_332) rfl) ?_
    show Fin p e below s _ _ _ (Ty25.setTop (mkF m 334 #[.val (.int pf), .val (.int pv), .val (.int pl), .val (.int PO), .val (.int PS), .val (.ref by1), .val (.long PU), .second, .val (.int (1 : Int32)), .val (.int (PO + (1 : Int32)))] [(.long PU), (.int (1 : Int32)), (.int PO), (.int (9 : Int32)), (.ref by1)]))
    refine Fin.step (fun _ => XS.iload Xy25.here hx rfl (hb hby at_334) rfl) ?_
    show Fin p e below s _ _ _ (Ty25.setTop (mkF m 336 #[.val (.int pf), .val (.int pv), .val (.int pl), .val (.int PO), .val (.int PS), .val (.ref by1), .val (.long PU), .second, .val (.int (1 : Int32)), .val (.int (PO + (1 : Int32)))] [(.int PS), (.long PU), (.int (1 : Int32)), (.int PO), (.int (9 : Int32)), (.ref by1)]))
    obtain ⟨_, _, ⟨Ty26, Ly26, ky26, ny26⟩, -, Xy26, ⟨Lcy26, hQy26, ly26, yy26, zy26⟩, sty26⟩ := Jvm.LawKit.callS Xy25 hx (y := (⟨"com/example/indexterity/indexterity/index/IndexFormatPutVarIntPinLaw", "at", "([BIIIJB)Z"⟩ : MethodName)) hown (mvT hZ (hw _ (List.mem_of_getElem? (i := 7) rfl))) (mvT hZ (hw _ (List.mem_of_getElem? (i := 8) rfl))) (mvT hZ (hw _ (List.mem_of_getElem? (i := 9) rfl))) (mvT hZ (hw _ (List.mem_of_getElem? (i := 10) rfl))) (by decide) (backOf (W := 0) (rma l Z a0 hw [] by1 (9 : Int32) PO (1 : Int32) PU PS ky1 (own_put 0 Ls PO.toNatClampNeg pv) Ty16.heap n0 Zy16 fy16_0 (own_pg 0 Ls _ pv M.2) ⟨by decide, by decide⟩) hZ (hw _ (List.mem_of_getElem? (i := 10) rfl)) (hw _ (List.mem_of_getElem? (i := 9) rfl)) (by decide) (by decide)) (g := (mkF m 336 #[.val (.int pf), .val (.int pv), .val (.int pl), .val (.int PO), .val (.int PS), .val (.ref by1), .val (.long PU), .second, .val (.int (1 : Int32)), .val (.int (PO + (1 : Int32)))] [(.int PS), (.long PU), (.int (1 : Int32)), (.int PO), (.int (9 : Int32)), (.ref by1)])) rfl (by rw [hml]; rfl) (argsL := [(.ref by1), (.int (9 : Int32)), (.int PO), (.int (1 : Int32)), (.long PU), (.int PS)]) (rest := []) (lenOf pd_1 rfl) rfl (by show 2 * 0 + _ ≤ _; exact Nat.le_of_eq rfl) (hb hby at_336) (fun _ _ => ⟨rfl, eqy25, (by decide : 1 + 0 ≤ _), (by decide : 13 + 0 ≤ _)⟩)
    dsimp only [Pt.U, Pt.locs, Pt.cells, Pt.slots] at Xy26 ly26 yy26 zy26 sty26 hQy26
    have yy26 : ky26 = 1 := yy26
    have zy26 : ny26 = 13 := zy26
    replace Xy26 := recast Xy26 ly26 yy26 zy26
    clear ly26 yy26 zy26
    obtain ⟨rfl, Nqy26, eqy26⟩ := hQy26
    have Ny26 := Fr.app Ny25 Nqy26
    refine Fin.step (sty26) ?_
    show Fin p e below s _ _ _ (Ty26.setTop (mkF m 339 #[.val (.int pf), .val (.int pv), .val (.int pl), .val (.int PO), .val (.int PS), .val (.ref by1), .val (.long PU), .second, .val (.int (1 : Int32)), .val (.int (PO + (1 : Int32)))] [(.int (own_at (own_get (own_put 0 Ls PO.toNatClampNeg pv) (9 : Int32).toNatClampNeg) (9 : Int32) PO (1 : Int32) PU PS))]))
    refine Fin.step (fun _ => XS.ifNo Xy26.here hx rfl (hb hby at_339) rfl ((if0 _ _).trans (feq ((own_1 (own_fin 0 (by decide) (9 : Int32) (1 : Int32) PO (by decide) (by decide) hO pv PS Ls M PU hU CL)) : ¬ ((own_at (own_get (own_put 0 Ls PO.toNatClampNeg pv) (9 : Int32).toNatClampNeg) (9 : Int32) PO (1 : Int32) PU PS) = (0 : Int32)))).1)) ?_
    show Fin p e below s _ _ _ (Ty26.setTop (mkF m 342 #[.val (.int pf), .val (.int pv), .val (.int pl), .val (.int PO), .val (.int PS), .val (.ref by1), .val (.long PU), .second, .val (.int (1 : Int32)), .val (.int (PO + (1 : Int32)))] []))
    refine Fin.step (fun _ => XS.aload Xy26.here hx rfl (hb hby at_342) rfl rfl) ?_
    show Fin p e below s _ _ _ (Ty26.setTop (mkF m 344 #[.val (.int pf), .val (.int pv), .val (.int pl), .val (.int PO), .val (.int PS), .val (.ref by1), .val (.long PU), .second, .val (.int (1 : Int32)), .val (.int (PO + (1 : Int32)))] [(.ref by1)]))
    refine Fin.step (fun _ => XS.bipush Xy26.here hx rfl (hb hby at_344)) ?_
    show Fin p e below s _ _ _ (Ty26.setTop (mkF m 346 #[.val (.int pf), .val (.int pv), .val (.int pl), .val (.int PO), .val (.int PS), .val (.ref by1), .val (.long PU), .second, .val (.int (1 : Int32)), .val (.int (PO + (1 : Int32)))] [(.int (10 : Int32)), (.ref by1)]))
    refine Fin.step (fun _ => XS.iloadN Xy26.here hx rfl (hb hby at_346) rfl) ?_
    show Fin p e below s _ _ _ (Ty26.setTop (mkF m 347 #[.val (.int pf), .val (.int pv), .val (.int pl), .val (.int PO), .val (.int PS), .val (.ref by1), .val (.long PU), .second, .val (.int (1 : Int32)), .val (.int (PO + (1 : Int32)))] [(.int PO), (.int (10 : Int32)), (.ref by1)]))
    refine Fin.step (fun _ => XS.iload Xy26.here hx rfl (hb hby at_347) rfl) ?_
    show Fin p e below s _ _ _ (Ty26.setTop (mkF m 349 #[.val (.int pf), .val (.int pv), .val (.int pl), .val (.int PO), .val (.int PS), .val (.ref by1), .val (.long PU), .second, .val (.int (1 : Int32)), .val (.int (PO + (1 : Int32)))] [(.int (1 : Int32)), (.int PO), (.int (10 : Int32)), (.ref by1)]))
    refine Fin.step (fun _ => XS.lload Xy26.here hx rfl (hb hby at_349) rfl) ?_
    show Fin p e below s _ _ _ (Ty26.setTop (mkF m 351 #[.val (.int pf), .val (.int pv), .val (.int pl), .val (.int PO), .val (.int PS), .val (.ref by1), .val (.long PU), .second, .val (.int (1 : Int32)), .val (.int (PO + (1 : Int32)))] [(.long PU), (.int (1 : Int32)), (.int PO), (.int (10 : Int32)), (.ref by1)]))
    refine Fin.step (fun _ => XS.iload Xy26.here hx rfl (hb hby at_351) rfl) ?_
    show Fin p e below s _ _ _ (Ty26.setTop (mkF m 353 #[.val (.int pf), .val (.int pv), .val (.int pl), .val (.int PO), .val (.int PS), .val (.ref by1), .val (.long PU), .second, .val (.int (1 : Int32)), .val (.int (PO + (1 : Int32)))] [(.int PS), (.long PU), (.int (1 : Int32)), (.int PO), (.int (10 : Int32)), (.ref by1)]))
    obtain ⟨_, _, ⟨Ty27, Ly27, ky27, ny27⟩, -, Xy27, ⟨Lcy27, hQy27, ly27, yy27, zy27⟩, sty27⟩ := Jvm.LawKit.callS Xy26 hx (y := (⟨"com/example/indexterity/indexterity/index/IndexFormatPutVarIntPinLaw", "at", "([BIIIJB)Z"⟩ : MethodName)) hown (mvT hZ (hw _ (List.mem_of_getElem? (i := 7) rfl))) (mvT hZ (hw _ (List.mem_of_getElem? (i := 8) rfl))) (mvT hZ (hw _ (List.mem_of_getElem? (i := 9) rfl))) (mvT hZ (hw _ (List.mem_of_getElem? (i := 10) rfl))) (by decide) (backOf (W := 0) (rma l Z a0 hw [] by1 (10 : Int32) PO (1 : Int32) PU PS ky1 (own_put 0 Ls PO.toNatClampNeg pv) Ty16.heap n0 Zy16 fy16_0 (own_pg 0 Ls _ pv M.2) ⟨by decide, by decide⟩) hZ (hw _ (List.mem_of_getElem? (i := 10) rfl)) (hw _ (List.mem_of_getElem? (i := 9) rfl)) (by decide) (by decide)) (g := (mkF m 353 #[.val (.int pf), .val (.int pv), .val (.int pl), .val (.int PO), .val (.int PS), .val (.ref by1), .val (.long PU), .second, .val (.int (1 : Int32)), .val (.int (PO + (1 : Int32)))] [(.int PS), (.long PU), (.int (1 : Int32)), (.int PO), (.int (10 : Int32)), (.ref by1)])) rfl (by rw [hml]; rfl) (argsL := [(.ref by1), (.int (10 : Int32)), (.int PO), (.int (1 : Int32)), (.long PU), (.int PS)]) (rest := []) (lenOf pd_1 rfl) rfl (by show 2 * 0 + _ ≤ _; exact Nat.le_of_eq rfl) (hb hby at_353) (fun _ _ => ⟨rfl, eqy26, (by decide : 1 + 0 ≤ _), (by decide : 13 + 0 ≤ _)⟩)
    dsimp only [Pt.U, Pt.locs, Pt.cells, Pt.slots] at Xy27 ly27 yy27 zy27 sty27 hQy27
    have yy27 : ky27 = 1 := yy27
    have zy27 : ny27 = 13 := zy27
    replace Xy27 := recast Xy27 ly27 yy27 zy27
    clear ly27 yy27 zy27
    obtain ⟨rfl, Nqy27, eqy27⟩ := hQy27
    have Ny27 := Fr.app Ny26 Nqy27
    refine Fin.step (sty27) ?_
    show Fin p e below s _ _ _ (Ty27.setTop (mkF m 356 #[.val (.int pf), .val (.int pv), .val (.int pl), .val (.int PO), .val (.int PS), .val (.ref by1), .val (.long PU), .second, .val (.int (1 : Int32)), .val (.int (PO + (1 : Int32)))] [(.int (own_at (own_get (own_put 0 Ls PO.toNatClampNeg pv) (10 : Int32).toNatClampNeg) (10 : Int32) PO (1 : Int32) PU PS))]))
    refine Fin.step (fun _ => XS.ifNo Xy27.here hx rfl (hb hby at_356) rfl ((if0 _ _).trans (feq ((own_1 (own_fin 0 (by decide) (10 : Int32) (1 : Int32) PO (by decide) (by decide) hO pv PS Ls M PU hU CL)) : ¬ ((own_at (own_get (own_put 0 Ls PO.toNatClampNeg pv) (10 : Int32).toNatClampNeg) (10 : Int32) PO (1 : Int32) PU PS) = (0 : Int32)))).1)) ?_
    show Fin p e below s _ _ _ (Ty27.setTop (mkF m 359 #[.val (.int pf), .val (.int pv), .val (.int pl), .val (.int PO), .val (.int PS), .val (.ref by1), .val (.long PU), .second, .val (.int (1 : Int32)), .val (.int (PO + (1 : Int32)))] []))
    refine Fin.step (fun _ => XS.aload Xy27.here hx rfl (hb hby at_359) rfl rfl) ?_
    show Fin p e below s _ _ _ (Ty27.setTop (mkF m 361 #[.val (.int pf), .val (.int pv), .val (.int pl), .val (.int PO), .val (.int PS), .val (.ref by1), .val (.long PU), .second, .val (.int (1 : Int32)), .val (.int (PO + (1 : Int32)))] [(.ref by1)]))
    refine Fin.step (fun _ => XS.bipush Xy27.here hx rfl (hb hby at_361)) ?_
    show Fin p e below s _ _ _ (Ty27.setTop (mkF m 363 #[.val (.int pf), .val (.int pv), .val (.int pl), .val (.int PO), .val (.int PS), .val (.ref by1), .val (.long PU), .second, .val (.int (1 : Int32)), .val (.int (PO + (1 : Int32)))] [(.int (11 : Int32)), (.ref by1)]))
    refine Fin.step (fun _ => XS.iloadN Xy27.here hx rfl (hb hby at_363) rfl) ?_
    show Fin p e below s _ _ _ (Ty27.setTop (mkF m 364 #[.val (.int pf), .val (.int pv), .val (.int pl), .val (.int PO), .val (.int PS), .val (.ref by1), .val (.long PU), .second, .val (.int (1 : Int32)), .val (.int (PO + (1 : Int32)))] [(.int PO), (.int (11 : Int32)), (.ref by1)]))
    refine Fin.step (fun _ => XS.iload Xy27.here hx rfl (hb hby at_364) rfl) ?_
    show Fin p e below s _ _ _ (Ty27.setTop (mkF m 366 #[.val (.int pf), .val (.int pv), .val (.int pl), .val (.int PO), .val (.int PS), .val (.ref by1), .val (.long PU), .second, .val (.int (1 : Int32)), .val (.int (PO + (1 : Int32)))] [(.int (1 : Int32)), (.int PO), (.int (11 : Int32)), (.ref by1)]))
    refine Fin.step (fun _ => XS.lload Xy27.here hx rfl (hb hby at_366) rfl) ?_
    show Fin p e below s _ _ _ (Ty27.setTop (mkF m 368 #[.val (.int pf), .val (.int pv), .val (.int pl), .val (.int PO), .val (.int PS), .val (.ref by1), .val (.long PU), .second, .val (.int (1 : Int32)), .val (.int (PO + (1 : Int32)))] [(.long PU), (.int (1 : Int32)), (.int PO), (.int (11 : Int32)), (.ref by1)]))
    refine Fin.step (fun _ => XS.iload Xy27.here hx rfl (hb hby at_368) rfl) ?_
    show Fin p e below s _ _ _ (Ty27.setTop (mkF m 370 #[.val (.int pf), .val (.int pv), .val (.int pl), .val (.int PO), .val (.int PS), .val (.ref by1), .val (.long PU), .second, .val (.int (1 : Int32)), .val (.int (PO + (1 : Int32)))] [(.int PS), (.long PU), (.int (1 : Int32)), (.int PO), (.int (11 : Int32)), (.ref by1)]))
    obtain ⟨_, _, ⟨Ty28, Ly28, ky28, ny28⟩, -, Xy28, ⟨Lcy28, hQy28, ly28, yy28, zy28⟩, sty28⟩ := Jvm.LawKit.callS Xy27 hx (y := (⟨"com/example/indexterity/indexterity/index/IndexFormatPutVarIntPinLaw", "at", "([BIIIJB)Z"⟩ : MethodName)) hown (mvT hZ (hw _ (List.mem_of_getElem? (i := 7) rfl))) (mvT hZ (hw _ (List.mem_of_getElem? (i := 8) rfl))) (mvT hZ (hw _ (List.mem_of_getElem? (i := 9) rfl))) (mvT hZ (hw _ (List.mem_of_getElem? (i := 10) rfl))) (by decide) (backOf (W := 0) (rma l Z a0 hw [] by1 (11 : Int32) PO (1 : Int32) PU PS ky1 (own_put 0 Ls PO.toNatClampNeg pv) Ty16.heap n0 Zy16 fy16_0 (own_pg 0 Ls _ pv M.2) ⟨by decide, by decide⟩) hZ (hw _ (List.mem_of_getElem? (i := 10) rfl)) (hw _ (List.mem_of_getElem? (i := 9) rfl)) (by decide) (by decide)) (g := (mkF m 370 #[.val (.int pf), .val (.int pv), .val (.int pl), .val (.int PO), .val (.int PS), .val (.ref by1), .val (.long PU), .second, .val (.int (1 : Int32)), .val (.int (PO + (1 : Int32)))] [(.int PS), (.long PU), (.int (1 : Int32)), (.int PO), (.int (11 : Int32)), (.ref by1)])) rfl (by rw [hml]; rfl) (argsL := [(.ref by1), (.int (11 : Int32)), (.int PO), (.int (1 : Int32)), (.long PU), (.int PS)]) (rest := []) (lenOf pd_1 rfl) rfl (by show 2 * 0 + _ ≤ _; exact Nat.le_of_eq rfl) (hb hby at_370) (fun _ _ => ⟨rfl, eqy27, (by decide : 1 + 0 ≤ _), (by decide : 13 + 0 ≤ _)⟩)
    dsimp only [Pt.U, Pt.locs, Pt.cells, Pt.slots] at Xy28 ly28 yy28 zy28 sty28 hQy28
    have yy28 : ky28 = 1 := yy28
    have zy28 : ny28 = 13 := zy28
    replace Xy28 := recast Xy28 ly28 yy28 zy28
    clear ly28 yy28 zy28
    obtain ⟨rfl, Nqy28, eqy28⟩ := hQy28
    have Ny28 := Fr.app Ny27 Nqy28
    refine Fin.step (sty28) ?_
    show Fin p e below s _ _ _ (Ty28.setTop (mkF m 373 #[.val (.int pf), .val (.int pv), .val (.int pl), .val (.int PO), .val (.int PS), .val (.ref by1), .val (.long PU), .second, .val (.int (1 : Int32)), .val (.int (PO + (1 : Int32)))] [(.int (own_at (own_get (own_put 0 Ls PO.toNatClampNeg pv) (11 : Int32).toNatClampNeg) (11 : Int32) PO (1 : Int32) PU PS))]))
    refine Fin.step (fun _ => XS.ifNo Xy28.here hx rfl (hb hby at_373) rfl ((if0 _ _).trans (feq ((own_1 (own_fin 0 (by decide) (11 : Int32) (1 : Int32) PO (by decide) (by decide) hO pv PS Ls M PU hU CL)) : ¬ ((own_at (own_get (own_put 0 Ls PO.toNatClampNeg pv) (11 : Int32).toNatClampNeg) (11 : Int32) PO (1 : Int32) PU PS) = (0 : Int32)))).1)) ?_
    show Fin p e below s _ _ _ (Ty28.setTop (mkF m 376 #[.val (.int pf), .val (.int pv), .val (.int pl), .val (.int PO), .val (.int PS), .val (.ref by1), .val (.long PU), .second, .val (.int (1 : Int32)), .val (.int (PO + (1 : Int32)))] []))
    refine Fin.step (fun _ => XS.aload Xy28.here hx rfl (hb hby at_376) rfl rfl) ?_
    show Fin p e below s _ _ _ (Ty28.setTop (mkF m 378 #[.val (.int pf), .val (.int pv), .val (.int pl), .val (.int PO), .val (.int PS), .val (.ref by1), .val (.long PU), .second, .val (.int (1 : Int32)), .val (.int (PO + (1 : Int32)))] [(.ref by1)]))
    refine Fin.step (fun _ => XS.bipush Xy28.here hx rfl (hb hby at_378)) ?_
    show Fin p e below s _ _ _ (Ty28.setTop (mkF m 380 #[.val (.int pf), .val (.int pv), .val (.int pl), .val (.int PO), .val (.int PS), .val (.ref by1), .val (.long PU), .second, .val (.int (1 : Int32)), .val (.int (PO + (1 : Int32)))] [(.int (12 : Int32)), (.ref by1)]))
    refine Fin.step (fun _ => XS.iloadN Xy28.here hx rfl (hb hby at_380) rfl) ?_
    show Fin p e below s _ _ _ (Ty28.setTop (mkF m 381 #[.val (.int pf), .val (.int pv), .val (.int pl), .val (.int PO), .val (.int PS), .val (.ref by1), .val (.long PU), .second, .val (.int (1 : Int32)), .val (.int (PO + (1 : Int32)))] [(.int PO), (.int (12 : Int32)), (.ref by1)]))
    refine Fin.step (fun _ => XS.iload Xy28.here hx rfl (hb hby at_381) rfl) ?_
    show Fin p e below s _ _ _ (Ty28.setTop (mkF m 383 #[.val (.int pf), .val (.int pv), .val (.int pl), .val (.int PO), .val (.int PS), .val (.ref by1), .val (.long PU), .second, .val (.int (1 : Int32)), .val (.int (PO + (1 : Int32)))] [(.int (1 : Int32)), (.int PO), (.int (12 : Int32)), (.ref by1)]))
    refine Fin.step (fun _ => XS.lload Xy28.here hx rfl (hb hby at_383) rfl) ?_
    show Fin p e below s _ _ _ (Ty28.setTop (mkF m 385 #[.val (.int pf), .val (.int pv), .val (.int pl), .val (.int PO), .val (.int PS), .val (.ref by1), .val (.long PU), .second, .val (.int (1 : Int32)), .val (.int (PO + (1 : Int32)))] [(.long PU), (.int (1 : Int32)), (.int PO), (.int (12 : Int32)), (.ref by1)]))
    refine Fin.step (fun _ => XS.iload Xy28.here hx rfl (hb hby at_385) rfl) ?_
    show Fin p e below s _ _ _ (Ty28.setTop (mkF m 387 #[.val (.int pf), .val (.int pv), .val (.int pl), .val (.int PO), .val (.int PS), .val (.ref by1), .val (.long PU), .second, .val (.int (1 : Int32)), .val (.int (PO + (1 : Int32)))] [(.int PS), (.long PU), (.int (1 : Int32)), (.int PO), (.int (12 : Int32)), (.ref by1)]))
    obtain ⟨_, _, ⟨Ty29, Ly29, ky29, ny29⟩, -, Xy29, ⟨Lcy29, hQy29, ly29, yy29, zy29⟩, sty29⟩ := Jvm.LawKit.callS Xy28 hx (y := (⟨"com/example/indexterity/indexterity/index/IndexFormatPutVarIntPinLaw", "at", "([BIIIJB)Z"⟩ : MethodName)) hown (mvT hZ (hw _ (List.mem_of_getElem? (i := 7) rfl))) (mvT hZ (hw _ (List.mem_of_getElem? (i := 8) rfl))) (mvT hZ (hw _ (List.mem_of_getElem? (i := 9) rfl))) (mvT hZ (hw _ (List.mem_of_getElem? (i := 10) rfl))) (by decide) (backOf (W := 0) (rma l Z a0 hw [] by1 (12 : Int32) PO (1 : Int32) PU PS ky1 (own_put 0 Ls PO.toNatClampNeg pv) Ty16.heap n0 Zy16 fy16_0 (own_pg 0 Ls _ pv M.2) ⟨by decide, by decide⟩) hZ (hw _ (List.mem_of_getElem? (i := 10) rfl)) (hw _ (List.mem_of_getElem? (i := 9) rfl)) (by decide) (by decide)) (g := (mkF m 387 #[.val (.int pf), .val (.int pv), .val (.int pl), .val (.int PO), .val (.int PS), .val (.ref by1), .val (.long PU), .second, .val (.int (1 : Int32)), .val (.int (PO + (1 : Int32)))] [(.int PS), (.long PU), (.int (1 : Int32)), (.int PO), (.int (12 : Int32)), (.ref by1)])) rfl (by rw [hml]; rfl) (argsL := [(.ref by1), (.int (12 : Int32)), (.int PO), (.int (1 : Int32)), (.long PU), (.int PS)]) (rest := []) (lenOf pd_1 rfl) rfl (by show 2 * 0 + _ ≤ _; exact Nat.le_of_eq rfl) (hb hby at_387) (fun _ _ => ⟨rfl, eqy28, (by decide : 1 + 0 ≤ _), (by decide : 13 + 0 ≤ _)⟩)
    dsimp only [Pt.U, Pt.locs, Pt.cells, Pt.slots] at Xy29 ly29 yy29 zy29 sty29 hQy29
    have yy29 : ky29 = 1 := yy29
    have zy29 : ny29 = 13 := zy29
    replace Xy29 := recast Xy29 ly29 yy29 zy29
    clear ly29 yy29 zy29
    obtain ⟨rfl, Nqy29, eqy29⟩ := hQy29
    have Ny29 := Fr.app Ny28 Nqy29
    refine Fin.step (sty29) ?_
    show Fin p e below s _ _ _ (Ty29.setTop (mkF m 390 #[.val (.int pf), .val (.int pv), .val (.int pl), .val (.int PO), .val (.int PS), .val (.ref by1), .val (.long PU), .second, .val (.int (1 : Int32)), .val (.int (PO + (1 : Int32)))] [(.int (own_at (own_get (own_put 0 Ls PO.toNatClampNeg pv) (12 : Int32).toNatClampNeg) (12 : Int32) PO (1 : Int32) PU PS))]))
    refine Fin.step (fun _ => XS.ifNo Xy29.here hx rfl (hb hby at_390) rfl ((if0 _ _).trans (feq ((own_1 (own_fin 0 (by decide) (12 : Int32) (1 : Int32) PO (by decide) (by decide) hO pv PS Ls M PU hU CL)) : ¬ ((own_at (own_get (own_put 0 Ls PO.toNatClampNeg pv) (12 : Int32).toNatClampNeg) (12 : Int32) PO (1 : Int32) PU PS) = (0 : Int32)))).1)) ?_
    show Fin p e below s _ _ _ (Ty29.setTop (mkF m 393 #[.val (.int pf), .val (.int pv), .val (.int pl), .val (.int PO), .val (.int PS), .val (.ref by1), .val (.long PU), .second, .val (.int (1 : Int32)), .val (.int (PO + (1 : Int32)))] []))
    refine Fin.step (fun _ => XS.iconst Xy29.here hx rfl (hb hby at_393)) ?_
    show Fin p e below s _ _ _ (Ty29.setTop (mkF m 394 #[.val (.int pf), .val (.int pv), .val (.int pl), .val (.int PO), .val (.int PS), .val (.ref by1), .val (.long PU), .second, .val (.int (1 : Int32)), .val (.int (PO + (1 : Int32)))] [(.int (1 : Int32))]))
    refine Fin.step (fun _ => XS.goto Xy29.here hx rfl (pc0 := 394) (pc' := 398) rfl (hb hby at_394) (by decide) (by decide)) ?_
    show Fin p e below s _ _ _ (Ty29.setTop (mkF m 398 #[.val (.int pf), .val (.int pv), .val (.int pl), .val (.int PO), .val (.int PS), .val (.ref by1), .val (.long PU), .second, .val (.int (1 : Int32)), .val (.int (PO + (1 : Int32)))] [(.int (1 : Int32))]))
    refine Fin.retN Xy29 hx (t := .boolean) hret (by simp) hlk (hb hby at_398) (by decide) (by decide) ?_
    show Q0 Z pf pv pl h0 n0 _ Ty29.heap _
    rw [eqy29]
    exact ⟨rfl, Ny29, Ky16⟩
  · refine Fin.step (fun _ => XS.ifYes Xy14.here hx rfl (pc0 := 101) (pc' := 110) rfl (hb hby at_101) rfl ((if0 _ _).trans (flt ((lcNL hcy15) : ¬ ((lcmpW PU (128 : Int64)) < (0 : Int32)))).2.1) (by decide) (by decide)) ?_
    show Fin p e below s _ _ _ (Ty14.setTop (mkF m 110 #[.val (.int pf), .val (.int pv), .val (.int pl), .val (.int PO), .val (.int PS), .val (.ref by1), .val (.long PU), .second, .unset, .unset] []))
    refine Fin.step (fun _ => XS.lload Xy14.here hx rfl (hb hby at_110) rfl) ?_
    show Fin p e below s _ _ _ (Ty14.setTop (mkF m 112 #[.val (.int pf), .val (.int pv), .val (.int pl), .val (.int PO), .val (.int PS), .val (.ref by1), .val (.long PU), .second, .unset, .unset] [(.long PU)]))
    refine Fin.step (Xy14.ldc2Long hx hown (mvT hZ (hw _ (List.mem_of_getElem? (i := 12) rfl))) (g := (mkF m 112 #[.val (.int pf), .val (.int pv), .val (.int pl), .val (.int PO), .val (.int PS), .val (.ref by1), .val (.long PU), .second, .unset, .unset] [(.long PU)])) rfl (hb hby at_112)) ?_
    show Fin p e below s _ _ _ (Ty14.setTop (mkF m 115 #[.val (.int pf), .val (.int pv), .val (.int pl), .val (.int PO), .val (.int PS), .val (.ref by1), .val (.long PU), .second, .unset, .unset] [(.long (16384 : Int64)), (.long PU)]))
    refine Fin.step (fun _ => XS.lcmp Xy14.here hx rfl (hb hby at_115) rfl) ?_
    show Fin p e below s _ _ _ (Ty14.setTop (mkF m 116 #[.val (.int pf), .val (.int pv), .val (.int pl), .val (.int PO), .val (.int PS), .val (.ref by1), .val (.long PU), .second, .unset, .unset] [(.int (lcmpW PU (16384 : Int64)))]))
    by_cases hcy30 : PU < (16384 : Int64)
    · refine Fin.step (fun _ => XS.ifNo Xy14.here hx rfl (hb hby at_116) rfl ((if0 _ _).trans (tlt ((lcL hcy30) : ((lcmpW PU (16384 : Int64)) < (0 : Int32)))).2.1)) ?_
      show Fin p e below s _ _ _ (Ty14.setTop (mkF m 119 #[.val (.int pf), .val (.int pv), .val (.int pl), .val (.int PO), .val (.int PS), .val (.ref by1), .val (.long PU), .second, .unset, .unset] []))
      refine Fin.step (fun _ => XS.iconst Xy14.here hx rfl (hb hby at_119)) ?_
      show Fin p e below s _ _ _ (Ty14.setTop (mkF m 120 #[.val (.int pf), .val (.int pv), .val (.int pl), .val (.int PO), .val (.int PS), .val (.ref by1), .val (.long PU), .second, .unset, .unset] [(.int (2 : Int32))]))
      refine Fin.step (fun _ => XS.istore Xy14.here hx rfl (hb hby at_120) rfl (l' := #[.val (.int pf), .val (.int pv), .val (.int pl), .val (.int PO), .val (.int PS), .val (.ref by1), .val (.long PU), .second, .val (.int (2 : Int32)), .unset]) rfl) ?_
      show Fin p e below s _ _ _ (Ty14.setTop (mkF m 122 #[.val (.int pf), .val (.int pv), .val (.int pl), .val (.int PO), .val (.int PS), .val (.ref by1), .val (.long PU), .second, .val (.int (2 : Int32)), .unset] []))
      refine Fin.step (fun _ => XS.goto Xy14.here hx rfl (pc0 := 122) (pc' := 158) rfl (hb hby at_122) (by decide) (by decide)) ?_
      show Fin p e below s _ _ _ (Ty14.setTop (mkF m 158 #[.val (.int pf), .val (.int pv), .val (.int pl), .val (.int PO), .val (.int PS), .val (.ref by1), .val (.long PU), .second, .val (.int (2 : Int32)), .unset] []))
      have C := own_cnd2 pv PU hU hcy15 hcy30
      have CL : (own_sh 1 pv &&& (-128 : Int32)) = 0 := C.2
      have M := own_made PS hS
      obtain ⟨Ls, h_Ls⟩ : ∃ z : List Value, z = [(.int (nar .byte PS)), (.int (nar .byte PS)), (.int (nar .byte PS)), (.int (nar .byte PS)), (.int (nar .byte PS)), (.int (nar .byte PS)), (.int (nar .byte PS)), (.int (nar .byte PS)), (.int (nar .byte PS)), (.int (nar .byte PS)), (.int (nar .byte PS)), (.int (nar .byte PS)), (.int (nar .byte PS))] := ⟨_, rfl⟩
      rw [← h_Ls] at M
      have VL : Arv Z hy14 by1 ky1 .byte (13 : Int32) Ls (.int (0 : Int32)) := by rw [h_Ls]; exact Vy14
      refine Fin.step (fun _ => XS.aload Xy14.here hx rfl (hb hby at_158) rfl rfl) ?_
      show Fin p e below s _ _ _ (Ty14.setTop (mkF m 160 #[.val (.int pf), .val (.int pv), .val (.int pl), .val (.int PO), .val (.int PS), .val (.ref by1), .val (.long PU), .second, .val (.int (2 : Int32)), .unset] [(.ref by1)]))
      refine Fin.step (fun _ => XS.iloadN Xy14.here hx rfl (hb hby at_160) rfl) ?_
      show Fin p e below s _ _ _ (Ty14.setTop (mkF m 161 #[.val (.int pf), .val (.int pv), .val (.int pl), .val (.int PO), .val (.int PS), .val (.ref by1), .val (.long PU), .second, .val (.int (2 : Int32)), .unset] [(.int PO), (.ref by1)]))
      refine Fin.step (fun _ => XS.iloadN Xy14.here hx rfl (hb hby at_161) rfl) ?_
      show Fin p e below s _ _ _ (Ty14.setTop (mkF m 162 #[.val (.int pf), .val (.int pv), .val (.int pl), .val (.int PO), .val (.int PS), .val (.ref by1), .val (.long PU), .second, .val (.int (2 : Int32)), .unset] [(.int pv), (.int PO), (.ref by1)]))
      obtain ⟨_, _, ⟨Ty31, Ly31, ky31, ny31⟩, -, Xy31, ⟨Lcy31, hQy31, ly31, yy31, zy31⟩, sty31⟩ := Jvm.LawKit.callS Xy14 hx (y := (⟨"com/example/indexterity/indexterity/index/IndexFormat", "putVarInt", "([BII)I"⟩ : MethodName)) hown (mvT hZ (hw _ (List.mem_of_getElem? (i := 3) rfl))) (mvT hZ (hw _ (List.mem_of_getElem? (i := 4) rfl))) (mvT hZ (hw _ (List.mem_of_getElem? (i := 5) rfl))) (mvT hZ (hw _ (List.mem_of_getElem? (i := 6) rfl))) (by decide) (backOf (W := 0) (rmv2 l Z a0 hw [] by1 PO pv ky1 Ls hy14 n0 Zy14 VL gzy1 M.1 hO C.1 C.2) hZ (hw _ (List.mem_of_getElem? (i := 6) rfl)) (hw _ (List.mem_of_getElem? (i := 5) rfl)) (by decide) (by decide)) (g := (mkF m 162 #[.val (.int pf), .val (.int pv), .val (.int pl), .val (.int PO), .val (.int PS), .val (.ref by1), .val (.long PU), .second, .val (.int (2 : Int32)), .unset] [(.int pv), (.int PO), (.ref by1)])) rfl (by rw [hml]; rfl) (argsL := [(.ref by1), (.int PO), (.int pv)]) (rest := []) (lenOf pd_0 rfl) rfl (by show 2 * 0 + _ ≤ _; exact Nat.le_of_eq rfl) (hb hby at_162) (fun _ _ => ⟨rfl, ey14, (by decide : 1 + 0 ≤ _), (by decide : 13 + 0 ≤ _)⟩)
      dsimp only [Pt.U, Pt.locs, Pt.cells, Pt.slots] at Xy31 ly31 yy31 zy31 sty31 hQy31
      have yy31 : ky31 = 1 := yy31
      have zy31 : ny31 = 13 := zy31
      replace Xy31 := recast Xy31 ly31 yy31 zy31
      clear ly31 yy31 zy31
      obtain ⟨rfl, Nqy31, Kcy31, fy31_0⟩ := hQy31
      have Ny31 := Fr.app Ny14 Nqy31
      have Zy31 : n0 ≤ Ty31.heap.size := Nat.le_trans Zy14 Kcy31.1
      have Ky31 : Keep h0 Ty31.heap [] := Ky14.trans Kcy31 (allS (Or.inr szy1) all0)
      refine Fin.step (sty31) ?_
      show Fin p e below s _ _ _ (Ty31.setTop (mkF m 165 #[.val (.int pf), .val (.int pv), .val (.int pl), .val (.int PO), .val (.int PS), .val (.ref by1), .val (.long PU), .second, .val (.int (2 : Int32)), .unset] [(.int ((PO + (1 : Int32)) + (1 : Int32)))]))
      refine Fin.step (fun _ => XS.istore Xy31.here hx rfl (hb hby at_165) rfl (l' := #[.val (.int pf), .val (.int pv), .val (.int pl), .val (.int PO), .val (.int PS), .val (.ref by1), .val (.long PU), .second, .val (.int (2 : Int32)), .val (.int ((PO + (1 : Int32)) + (1 : Int32)))]) rfl) ?_
      show Fin p e below s _ _ _ (Ty31.setTop (mkF m 167 #[.val (.int pf), .val (.int pv), .val (.int pl), .val (.int PO), .val (.int PS), .val (.ref by1), .val (.long PU), .second, .val (.int (2 : Int32)), .val (.int ((PO + (1 : Int32)) + (1 : Int32)))] []))
      refine Fin.step (fun _ => XS.iload Xy31.here hx rfl (hb hby at_167) rfl) ?_
      show Fin p e below s _ _ _ (Ty31.setTop (mkF m 169 #[.val (.int pf), .val (.int pv), .val (.int pl), .val (.int PO), .val (.int PS), .val (.ref by1), .val (.long PU), .second, .val (.int (2 : Int32)), .val (.int ((PO + (1 : Int32)) + (1 : Int32)))] [(.int ((PO + (1 : Int32)) + (1 : Int32)))]))
      refine Fin.step (fun _ => XS.iloadN Xy31.here hx rfl (hb hby at_169) rfl) ?_
      show Fin p e below s _ _ _ (Ty31.setTop (mkF m 170 #[.val (.int pf), .val (.int pv), .val (.int pl), .val (.int PO), .val (.int PS), .val (.ref by1), .val (.long PU), .second, .val (.int (2 : Int32)), .val (.int ((PO + (1 : Int32)) + (1 : Int32)))] [(.int PO), (.int ((PO + (1 : Int32)) + (1 : Int32)))]))
      refine Fin.step (fun _ => XS.iload Xy31.here hx rfl (hb hby at_170) rfl) ?_
      show Fin p e below s _ _ _ (Ty31.setTop (mkF m 172 #[.val (.int pf), .val (.int pv), .val (.int pl), .val (.int PO), .val (.int PS), .val (.ref by1), .val (.long PU), .second, .val (.int (2 : Int32)), .val (.int ((PO + (1 : Int32)) + (1 : Int32)))] [(.int (2 : Int32)), (.int PO), (.int ((PO + (1 : Int32)) + (1 : Int32)))]))
      refine Fin.step (fun _ => XS.iadd Xy31.here hx rfl (hb hby at_172) rfl) ?_
      show Fin p e below s _ _ _ (Ty31.setTop (mkF m 173 #[.val (.int pf), .val (.int pv), .val (.int pl), .val (.int PO), .val (.int PS), .val (.ref by1), .val (.long PU), .second, .val (.int (2 : Int32)), .val (.int ((PO + (1 : Int32)) + (1 : Int32)))] [(.int (PO + (2 : Int32))), (.int ((PO + (1 : Int32)) + (1 : Int32)))]))
      refine Fin.step (fun _ => XS.icmpYes Xy31.here hx rfl (pc0 := 173) (pc' := 178) rfl (hb hby at_173) rfl (teq ((own_r2 PO) : (((PO + (1 : Int32)) + (1 : Int32)) = (PO + (2 : Int32))))).1 (by decide) (by decide)) ?_
      show Fin p e below s _ _ _ (Ty31.setTop (mkF m 178 #[.val (.int pf), .val (.int pv), .val (.int pl), .val (.int PO), .val (.int PS), .val (.ref by1), .val (.long PU), .second, .val (.int (2 : Int32)), .val (.int ((PO + (1 : Int32)) + (1 : Int32)))] []))
      refine Fin.step (fun _ => XS.aload Xy31.here hx rfl (hb hby at_178) rfl rfl) ?_
      show Fin p e below s _ _ _ (Ty31.setTop (mkF m 180 #[.val (.int pf), .val (.int pv), .val (.int pl), .val (.int PO), .val (.int PS), .val (.ref by1), .val (.long PU), .second, .val (.int (2 : Int32)), .val (.int ((PO + (1 : Int32)) + (1 : Int32)))] [(.ref by1)]))
      refine Fin.step (fun _ => XS.iconst Xy31.here hx rfl (hb hby at_180)) ?_
      show Fin p e below s _ _ _ (Ty31.setTop (mkF m 181 #[.val (.int pf), .val (.int pv), .val (.int pl), .val (.int PO), .val (.int PS), .val (.ref by1), .val (.long PU), .second, .val (.int (2 : Int32)), .val (.int ((PO + (1 : Int32)) + (1 : Int32)))] [(.int (0 : Int32)), (.ref by1)]))
      refine Fin.step (fun _ => XS.iloadN Xy31.here hx rfl (hb hby at_181) rfl) ?_
      show Fin p e below s _ _ _ (Ty31.setTop (mkF m 182 #[.val (.int pf), .val (.int pv), .val (.int pl), .val (.int PO), .val (.int PS), .val (.ref by1), .val (.long PU), .second, .val (.int (2 : Int32)), .val (.int ((PO + (1 : Int32)) + (1 : Int32)))] [(.int PO), (.int (0 : Int32)), (.ref by1)]))
      refine Fin.step (fun _ => XS.iload Xy31.here hx rfl (hb hby at_182) rfl) ?_
      show Fin p e below s _ _ _ (Ty31.setTop (mkF m 184 #[.val (.int pf), .val (.int pv), .val (.int pl), .val (.int PO), .val (.int PS), .val (.ref by1), .val (.long PU), .second, .val (.int (2 : Int32)), .val (.int ((PO + (1 : Int32)) + (1 : Int32)))] [(.int (2 : Int32)), (.int PO), (.int (0 : Int32)), (.ref by1)]))
      refine Fin.step (fun _ => XS.lload Xy31.here hx rfl (hb hby at_184) rfl) ?_
      show Fin p e below s _ _ _ (Ty31.setTop (mkF m 186 #[.val (.int pf), .val (.int pv), .val (.int pl), .val (.int PO), .val (.int PS), .val (.ref by1), .val (.long PU), .second, .val (.int (2 : Int32)), .val (.int ((PO + (1 : Int32)) + (1 : Int32)))] [(.long PU), (.int (2 : Int32)), (.int PO), (.int (0 : Int32)), (.ref by1)]))
      refine Fin.step (fun _ => XS.iload Xy31.here hx rfl (hb hby at_186) rfl) ?_
      show Fin p e below s _ _ _ (Ty31.setTop (mkF m 188 #[.val (.int pf), .val (.int pv), .val (.int pl), .val (.int PO), .val (.int PS), .val (.ref by1), .val (.long PU), .second, .val (.int (2 : Int32)), .val (.int ((PO + (1 : Int32)) + (1 : Int32)))] [(.int PS), (.long PU), (.int (2 : Int32)), (.int PO), (.int (0 : Int32)), (.ref by1)]))
      obtain ⟨_, _, ⟨Ty32, Ly32, ky32, ny32⟩, -, Xy32, ⟨Lcy32, hQy32, ly32, yy32, zy32⟩, sty32⟩ := Jvm.LawKit.callS Xy31 hx (y := (⟨"com/example/indexterity/indexterity/index/IndexFormatPutVarIntPinLaw", "at", "([BIIIJB)Z"⟩ : MethodName)) hown (mvT hZ (hw _ (List.mem_of_getElem? (i := 7) rfl))) (mvT hZ (hw _ (List.mem_of_getElem? (i := 8) rfl))) (mvT hZ (hw _ (List.mem_of_getElem? (i := 9) rfl))) (mvT hZ (hw _ (List.mem_of_getElem? (i := 10) rfl))) (by decide) (backOf (W := 0) (rma l Z a0 hw [] by1 (0 : Int32) PO (2 : Int32) PU PS ky1 (own_put 1 Ls PO.toNatClampNeg pv) Ty31.heap n0 Zy31 fy31_0 (own_pg 1 Ls _ pv M.2) ⟨by decide, by decide⟩) hZ (hw _ (List.mem_of_getElem? (i := 10) rfl)) (hw _ (List.mem_of_getElem? (i := 9) rfl)) (by decide) (by decide)) (g := (mkF m 188 #[.val (.int pf), .val (.int pv), .val (.int pl), .val (.int PO), .val (.int PS), .val (.ref by1), .val (.long PU), .second, .val (.int (2 : Int32)), .val (.int ((PO + (1 : Int32)) + (1 : Int32)))] [(.int PS), (.long PU), (.int (2 : Int32)), (.int PO), (.int (0 : Int32)), (.ref by1)])) rfl (by rw [hml]; rfl) (argsL := [(.ref by1), (.int (0 : Int32)), (.int PO), (.int (2 : Int32)), (.long PU), (.int PS)]) (rest := []) (lenOf pd_1 rfl) rfl (by show 2 * 0 + _ ≤ _; exact Nat.le_of_eq rfl) (hb hby at_188) (fun _ _ => ⟨rfl, rfl, (by decide : 1 + 0 ≤ _), (by decide : 13 + 0 ≤ _)⟩)
      dsimp only [Pt.U, Pt.locs, Pt.cells, Pt.slots] at Xy32 ly32 yy32 zy32 sty32 hQy32
      have yy32 : ky32 = 1 := yy32
      have zy32 : ny32 = 13 := zy32
      replace Xy32 := recast Xy32 ly32 yy32 zy32
      clear ly32 yy32 zy32
      obtain ⟨rfl, Nqy32, eqy32⟩ := hQy32
      have Ny32 := Fr.app Ny31 Nqy32
      refine Fin.step (sty32) ?_
      show Fin p e below s _ _ _ (Ty32.setTop (mkF m 191 #[.val (.int pf), .val (.int pv), .val (.int pl), .val (.int PO), .val (.int PS), .val (.ref by1), .val (.long PU), .second, .val (.int (2 : Int32)), .val (.int ((PO + (1 : Int32)) + (1 : Int32)))] [(.int (own_at (own_get (own_put 1 Ls PO.toNatClampNeg pv) (0 : Int32).toNatClampNeg) (0 : Int32) PO (2 : Int32) PU PS))]))
      refine Fin.step (fun _ => XS.ifNo Xy32.here hx rfl (hb hby at_191) rfl ((if0 _ _).trans (feq ((own_1 (own_fin 1 (by decide) (0 : Int32) (2 : Int32) PO (by decide) (by decide) hO pv PS Ls M PU hU CL)) : ¬ ((own_at (own_get (own_put 1 Ls PO.toNatClampNeg pv) (0 : Int32).toNatClampNeg) (0 : Int32) PO (2 : Int32) PU PS) = (0 : Int32)))).1)) ?_
      show Fin p e below s _ _ _ (Ty32.setTop (mkF m 194 #[.val (.int pf), .val (.int pv), .val (.int pl), .val (.int PO), .val (.int PS), .val (.ref by1), .val (.long PU), .second, .val (.int (2 : Int32)), .val (.int ((PO + (1 : Int32)) + (1 : Int32)))] []))
      refine Fin.step (fun _ => XS.aload Xy32.here hx rfl (hb hby at_194) rfl rfl) ?_
      show Fin p e below s _ _ _ (Ty32.setTop (mkF m 196 #[.val (.int pf), .val (.int pv), .val (.int pl), .val (.int PO), .val (.int PS), .val (.ref by1), .val (.long PU), .second, .val (.int (2 : Int32)), .val (.int ((PO + (1 : Int32)) + (1 : Int32)))] [(.ref by1)]))
      refine Fin.step (fun _ => XS.iconst Xy32.here hx rfl (hb hby at_196)) ?_
      show Fin p e below s _ _ _ (Ty32.setTop (mkF m 197 #[.val (.int pf), .val (.int pv), .val (.int pl), .val (.int PO), .val (.int PS), .val (.ref by1), .val (.long PU), .second, .val (.int (2 : Int32)), .val (.int ((PO + (1 : Int32)) + (1 : Int32)))] [(.int (1 : Int32)), (.ref by1)]))
      refine Fin.step (fun _ => XS.iloadN Xy32.here hx rfl (hb hby at_197) rfl) ?_
      show Fin p e below s _ _ _ (Ty32.setTop (mkF m 198 #[.val (.int pf), .val (.int pv), .val (.int pl), .val (.int PO), .val (.int PS), .val (.ref by1), .val (.long PU), .second, .val (.int (2 : Int32)), .val (.int ((PO + (1 : Int32)) + (1 : Int32)))] [(.int PO), (.int (1 : Int32)), (.ref by1)]))
      refine Fin.step (fun _ => XS.iload Xy32.here hx rfl (hb hby at_198) rfl) ?_
      show Fin p e below s _ _ _ (Ty32.setTop (mkF m 200 #[.val (.int pf), .val (.int pv), .val (.int pl), .val (.int PO), .val (.int PS), .val (.ref by1), .val (.long PU), .second, .val (.int (2 : Int32)), .val (.int ((PO + (1 : Int32)) + (1 : Int32)))] [(.int (2 : Int32)), (.int PO), (.int (1 : Int32)), (.ref by1)]))
      refine Fin.step (fun _ => XS.lload Xy32.here hx rfl (hb hby at_200) rfl) ?_
      show Fin p e below s _ _ _ (Ty32.setTop (mkF m 202 #[.val (.int pf), .val (.int pv), .val (.int pl), .val (.int PO), .val (.int PS), .val (.ref by1), .val (.long PU), .second, .val (.int (2 : Int32)), .val (.int ((PO + (1 : Int32)) + (1 : Int32)))] [(.long PU), (.int (2 : Int32)), (.int PO), (.int (1 : Int32)), (.ref by1)]))
      refine Fin.step (fun _ => XS.iload Xy32.here hx rfl (hb hby at_202) rfl) ?_
      show Fin p e below s _ _ _ (Ty32.setTop (mkF m 204 #[.val (.int pf), .val (.int pv), .val (.int pl), .val (.int PO), .val (.int PS), .val (.ref by1), .val (.long PU), .second, .val (.int (2 : Int32)), .val (.int ((PO + (1 : Int32)) + (1 : Int32)))] [(.int PS), (.long PU), (.int (2 : Int32)), (.int PO), (.int (1 : Int32)), (.ref by1)]))
      obtain ⟨_, _, ⟨Ty33, Ly33, ky33, ny33⟩, -, Xy33, ⟨Lcy33, hQy33, ly33, yy33, zy33⟩, sty33⟩ := Jvm.LawKit.callS Xy32 hx (y := (⟨"com/example/indexterity/indexterity/index/IndexFormatPutVarIntPinLaw", "at", "([BIIIJB)Z"⟩ : MethodName)) hown (mvT hZ (hw _ (List.mem_of_getElem? (i := 7) rfl))) (mvT hZ (hw _ (List.mem_of_getElem? (i := 8) rfl))) (mvT hZ (hw _ (List.mem_of_getElem? (i := 9) rfl))) (mvT hZ (hw _ (List.mem_of_getElem? (i := 10) rfl))) (by decide) (backOf (W := 0) (rma l Z a0 hw [] by1 (1 : Int32) PO (2 : Int32) PU PS ky1 (own_put 1 Ls PO.toNatClampNeg pv) Ty31.heap n0 Zy31 fy31_0 (own_pg 1 Ls _ pv M.2) ⟨by decide, by decide⟩) hZ (hw _ (List.mem_of_getElem? (i := 10) rfl)) (hw _ (List.mem_of_getElem? (i := 9) rfl)) (by decide) (by decide)) (g := (mkF m 204 #[.val (.int pf), .val (.int pv), .val (.int pl), .val (.int PO), .val (.int PS), .val (.ref by1), .val (.long PU), .second, .val (.int (2 : Int32)), .val (.int ((PO + (1 : Int32)) + (1 : Int32)))] [(.int PS), (.long PU), (.int (2 : Int32)), (.int PO), (.int (1 : Int32)), (.ref by1)])) rfl (by rw [hml]; rfl) (argsL := [(.ref by1), (.int (1 : Int32)), (.int PO), (.int (2 : Int32)), (.long PU), (.int PS)]) (rest := []) (lenOf pd_1 rfl) rfl (by show 2 * 0 + _ ≤ _; exact Nat.le_of_eq rfl) (hb hby at_204) (fun _ _ => ⟨rfl, eqy32, (by decide : 1 + 0 ≤ _), (by decide : 13 + 0 ≤ _)⟩)
      dsimp only [Pt.U, Pt.locs, Pt.cells, Pt.slots] at Xy33 ly33 yy33 zy33 sty33 hQy33
      have yy33 : ky33 = 1 := yy33
      have zy33 : ny33 = 13 := zy33
      replace Xy33 := recast Xy33 ly33 yy33 zy33
      clear ly33 yy33 zy33
      obtain ⟨rfl, Nqy33, eqy33⟩ := hQy33
      have Ny33 := Fr.app Ny32 Nqy33
      refine Fin.step (sty33) ?_
      show Fin p e below s _ _ _ (Ty33.setTop (mkF m 207 #[.val (.int pf), .val (.int pv), .val (.int pl), .val (.int PO), .val (.int PS), .val (.ref by1), .val (.long PU), .second, .val (.int (2 : Int32)), .val (.int ((PO + (1 : Int32)) + (1 : Int32)))] [(.int (own_at (own_get (own_put 1 Ls PO.toNatClampNeg pv) (1 : Int32).toNatClampNeg) (1 : Int32) PO (2 : Int32) PU PS))]))
      refine Fin.step (fun _ => XS.ifNo Xy33.here hx rfl (hb hby at_207) rfl ((if0 _ _).trans (feq ((own_1 (own_fin 1 (by decide) (1 : Int32) (2 : Int32) PO (by decide) (by decide) hO pv PS Ls M PU hU CL)) : ¬ ((own_at (own_get (own_put 1 Ls PO.toNatClampNeg pv) (1 : Int32).toNatClampNeg) (1 : Int32) PO (2 : Int32) PU PS) = (0 : Int32)))).1)) ?_
      show Fin p e below s _ _ _ (Ty33.setTop (mkF m 210 #[.val (.int pf), .val (.int pv), .val (.int pl), .val (.int PO), .val (.int PS), .val (.ref by1), .val (.long PU), .second, .val (.int (2 : Int32)), .val (.int ((PO + (1 : Int32)) + (1 : Int32)))] []))
      refine Fin.step (fun _ => XS.aload Xy33.here hx rfl (hb hby at_210) rfl rfl) ?_
      show Fin p e below s _ _ _ (Ty33.setTop (mkF m 212 #[.val (.int pf), .val (.int pv), .val (.int pl), .val (.int PO), .val (.int PS), .val (.ref by1), .val (.long PU), .second, .val (.int (2 : Int32)), .val (.int ((PO + (1 : Int32)) + (1 : Int32)))] [(.ref by1)]))
      refine Fin.step (fun _ => XS.iconst Xy33.here hx rfl (hb hby at_212)) ?_
      show Fin p e below s _ _ _ (Ty33.setTop (mkF m 213 #[.val (.int pf), .val (.int pv), .val (.int pl), .val (.int PO), .val (.int PS), .val (.ref by1), .val (.long PU), .second, .val (.int (2 : Int32)), .val (.int ((PO + (1 : Int32)) + (1 : Int32)))] [(.int (2 : Int32)), (.ref by1)]))
      refine Fin.step (fun _ => XS.iloadN Xy33.here hx rfl (hb hby at_213) rfl) ?_
      show Fin p e below s _ _ _ (Ty33.setTop (mkF m 214 #[.val (.int pf), .val (.int pv), .val (.int pl), .val (.int PO), .val (.int PS), .val (.ref by1), .val (.long PU), .second, .val (.int (2 : Int32)), .val (.int ((PO + (1 : Int32)) + (1 : Int32)))] [(.int PO), (.int (2 : Int32)), (.ref by1)]))
      refine Fin.step (fun _ => XS.iload Xy33.here hx rfl (hb hby at_214) rfl) ?_
      show Fin p e below s _ _ _ (Ty33.setTop (mkF m 216 #[.val (.int pf), .val (.int pv), .val (.int pl), .val (.int PO), .val (.int PS), .val (.ref by1), .val (.long PU), .second, .val (.int (2 : Int32)), .val (.int ((PO + (1 : Int32)) + (1 : Int32)))] [(.int (2 : Int32)), (.int PO), (.int (2 : Int32)), (.ref by1)]))
      refine Fin.step (fun _ => XS.lload Xy33.here hx rfl (hb hby at_216) rfl) ?_
      show Fin p e below s _ _ _ (Ty33.setTop (mkF m 218 #[.val (.int pf), .val (.int pv), .val (.int pl), .val (.int PO), .val (.int PS), .val (.ref by1), .val (.long PU), .second, .val (.int (2 : Int32)), .val (.int ((PO + (1 : Int32)) + (1 : Int32)))] [(.long PU), (.int (2 : Int32)), (.int PO), (.int (2 : Int32)), (.ref by1)]))
      refine Fin.step (fun _ => XS.iload Xy33.here hx rfl (hb hby at_218) rfl) ?_
      show Fin p e below s _ _ _ (Ty33.setTop (mkF m 220 #[.val (.int pf), .val (.int pv), .val (.int pl), .val (.int PO), .val (.int PS), .val (.ref by1), .val (.long PU), .second, .val (.int (2 : Int32)), .val (.int ((PO + (1 : Int32)) + (1 : Int32)))] [(.int PS), (.long PU), (.int (2 : Int32)), (.int PO), (.int (2 : Int32)), (.ref by1)]))
      obtain ⟨_, _, ⟨Ty34, Ly34, ky34, ny34⟩, -, Xy34, ⟨Lcy34, hQy34, ly34, yy34, zy34⟩, sty34⟩ := Jvm.LawKit.callS Xy33 hx (y := (⟨"com/example/indexterity/indexterity/index/IndexFormatPutVarIntPinLaw", "at", "([BIIIJB)Z"⟩ : MethodName)) hown (mvT hZ (hw _ (List.mem_of_getElem? (i := 7) rfl))) (mvT hZ (hw _ (List.mem_of_getElem? (i := 8) rfl))) (mvT hZ (hw _ (List.mem_of_getElem? (i := 9) rfl))) (mvT hZ (hw _ (List.mem_of_getElem? (i := 10) rfl))) (by decide) (backOf (W := 0) (rma l Z a0 hw [] by1 (2 : Int32) PO (2 : Int32) PU PS ky1 (own_put 1 Ls PO.toNatClampNeg pv) Ty31.heap n0 Zy31 fy31_0 (own_pg 1 Ls _ pv M.2) ⟨by decide, by decide⟩) hZ (hw _ (List.mem_of_getElem? (i := 10) rfl)) (hw _ (List.mem_of_getElem? (i := 9) rfl)) (by decide) (by decide)) (g := (mkF m 220 #[.val (.int pf), .val (.int pv), .val (.int pl), .val (.int PO), .val (.int PS), .val (.ref by1), .val (.long PU), .second, .val (.int (2 : Int32)), .val (.int ((PO + (1 : Int32)) + (1 : Int32)))] [(.int PS), (.long PU), (.int (2 : Int32)), (.int PO), (.int (2 : Int32)), (.ref by1)])) rfl (by rw [hml]; rfl) (argsL := [(.ref by1), (.int (2 : Int32)), (.int PO), (.int (2 : Int32)), (.long PU), (.int PS)]) (rest := []) (lenOf pd_1 rfl) rfl (by show 2 * 0 + _ ≤ _; exact Nat.le_of_eq rfl) (hb hby at_220) (fun _ _ => ⟨rfl, eqy33, (by decide : 1 + 0 ≤ _), (by decide : 13 + 0 ≤ _)⟩)
      dsimp only [Pt.U, Pt.locs, Pt.cells, Pt.slots] at Xy34 ly34 yy34 zy34 sty34 hQy34
      have yy34 : ky34 = 1 := yy34
      have zy34 : ny34 = 13 := zy34
      replace Xy34 := recast Xy34 ly34 yy34 zy34
      clear ly34 yy34 zy34
      obtain ⟨rfl, Nqy34, eqy34⟩ := hQy34
      have Ny34 := Fr.app Ny33 Nqy34
      refine Fin.step (sty34) ?_
      show Fin p e below s _ _ _ (Ty34.setTop (mkF m 223 #[.val (.int pf), .val (.int pv), .val (.int pl), .val (.int PO), .val (.int PS), .val (.ref by1), .val (.long PU), .second, .val (.int (2 : Int32)), .val (.int ((PO + (1 : Int32)) + (1 : Int32)))] [(.int (own_at (own_get (own_put 1 Ls PO.toNatClampNeg pv) (2 : Int32).toNatClampNeg) (2 : Int32) PO (2 : Int32) PU PS))]))
      refine Fin.step (fun _ => XS.ifNo Xy34.here hx rfl (hb hby at_223) rfl ((if0 _ _).trans (feq ((own_1 (own_fin 1 (by decide) (2 : Int32) (2 : Int32) PO (by decide) (by decide) hO pv PS Ls M PU hU CL)) : ¬ ((own_at (own_get (own_put 1 Ls PO.toNatClampNeg pv) (2 : Int32).toNatClampNeg) (2 : Int32) PO (2 : Int32) PU PS) = (0 : Int32)))).1)) ?_
      show Fin p e below s _ _ _ (Ty34.setTop (mkF m 226 #[.val (.int pf), .val (.int pv), .val (.int pl), .val (.int PO), .val (.int PS), .val (.ref by1), .val (.long PU), .second, .val (.int (2 : Int32)), .val (.int ((PO + (1 : Int32)) + (1 : Int32)))] []))
      refine Fin.step (fun _ => XS.aload Xy34.here hx rfl (hb hby at_226) rfl rfl) ?_
      show Fin p e below s _ _ _ (Ty34.setTop (mkF m 228 #[.val (.int pf), .val (.int pv), .val (.int pl), .val (.int PO), .val (.int PS), .val (.ref by1), .val (.long PU), .second, .val (.int (2 : Int32)), .val (.int ((PO + (1 : Int32)) + (1 : Int32)))] [(.ref by1)]))
      refine Fin.step (fun _ => XS.iconst Xy34.here hx rfl (hb hby at_228)) ?_
      show Fin p e below s _ _ _ (Ty34.setTop (mkF m 229 #[.val (.int pf), .val (.int pv), .val (.int pl), .val (.int PO), .val (.int PS), .val (.ref by1), .val (.long PU), .second, .val (.int (2 : Int32)), .val (.int ((PO + (1 : Int32)) + (1 : Int32)))] [(.int (3 : Int32)), (.ref by1)]))
      refine Fin.step (fun _ => XS.iloadN Xy34.here hx rfl (hb hby at_229) rfl) ?_
      show Fin p e below s _ _ _ (Ty34.setTop (mkF m 230 #[.val (.int pf), .val (.int pv), .val (.int pl), .val (.int PO), .val (.int PS), .val (.ref by1), .val (.long PU), .second, .val (.int (2 : Int32)), .val (.int ((PO + (1 : Int32)) + (1 : Int32)))] [(.int PO), (.int (3 : Int32)), (.ref by1)]))
      refine Fin.step (fun _ => XS.iload Xy34.here hx rfl (hb hby at_230) rfl) ?_
      show Fin p e below s _ _ _ (Ty34.setTop (mkF m 232 #[.val (.int pf), .val (.int pv), .val (.int pl), .val (.int PO), .val (.int PS), .val (.ref by1), .val (.long PU), .second, .val (.int (2 : Int32)), .val (.int ((PO + (1 : Int32)) + (1 : Int32)))] [(.int (2 : Int32)), (.int PO), (.int (3 : Int32)), (.ref by1)]))
      refine Fin.step (fun _ => XS.lload Xy34.here hx rfl (hb hby at_232) rfl) ?_
      show Fin p e below s _ _ _ (Ty34.setTop (mkF m 234 #[.val (.int pf), .val (.int pv), .val (.int pl), .val (.int PO), .val (.int PS), .val (.ref by1), .val (.long PU), .second, .val (.int (2 : Int32)), .val (.int ((PO + (1 : Int32)) + (1 : Int32)))] [(.long PU), (.int (2 : Int32)), (.int PO), (.int (3 : Int32)), (.ref by1)]))
      refine Fin.step (fun _ => XS.iload Xy34.here hx rfl (hb hby at_234) rfl) ?_
      show Fin p e below s _ _ _ (Ty34.setTop (mkF m 236 #[.val (.int pf), .val (.int pv), .val (.int pl), .val (.int PO), .val (.int PS), .val (.ref by1), .val (.long PU), .second, .val (.int (2 : Int32)), .val (.int ((PO + (1 : Int32)) + (1 : Int32)))] [(.int PS), (.long PU), (.int (2 : Int32)), (.int PO), (.int (3 : Int32)), (.ref by1)]))
      obtain ⟨_, _, ⟨Ty35, Ly35, ky35, ny35⟩, -, Xy35, ⟨Lcy35, hQy35, ly35, yy35, zy35⟩, sty35⟩ := Jvm.LawKit.callS Xy34 hx (y := (⟨"com/example/indexterity/indexterity/index/IndexFormatPutVarIntPinLaw", "at", "([BIIIJB)Z"⟩ : MethodName)) hown (mvT hZ (hw _ (List.mem_of_getElem? (i := 7) rfl))) (mvT hZ (hw _ (List.mem_of_getElem? (i := 8) rfl))) (mvT hZ (hw _ (List.mem_of_getElem? (i := 9) rfl))) (mvT hZ (hw _ (List.mem_of_getElem? (i := 10) rfl))) (by decide) (backOf (W := 0) (rma l Z a0 hw [] by1 (3 : Int32) PO (2 : Int32) PU PS ky1 (own_put 1 Ls PO.toNatClampNeg pv) Ty31.heap n0 Zy31 fy31_0 (own_pg 1 Ls _ pv M.2) ⟨by decide, by decide⟩) hZ (hw _ (List.mem_of_getElem? (i := 10) rfl)) (hw _ (List.mem_of_getElem? (i := 9) rfl)) (by decide) (by decide)) (g := (mkF m 236 #[.val (.int pf), .val (.int pv), .val (.int pl), .val (.int PO), .val (.int PS), .val (.ref by1), .val (.long PU), .second, .val (.int (2 : Int32)), .val (.int ((PO + (1 : Int32)) + (1 : Int32)))] [(.int PS), (.long PU), (.int (2 : Int32)), (.int PO), (.int (3 : Int32)), (.ref by1)])) rfl (by rw [hml]; rfl) (argsL := [(.ref by1), (.int (3 : Int32)), (.int PO), (.int (2 : Int32)), (.long PU), (.int PS)]) (rest := []) (lenOf pd_1 rfl) rfl (by show 2 * 0 + _ ≤ _; exact Nat.le_of_eq rfl) (hb hby at_236) (fun _ _ => ⟨rfl, eqy34, (by decide : 1 + 0 ≤ _), (by decide : 13 + 0 ≤ _)⟩)
      dsimp only [Pt.U, Pt.locs, Pt.cells, Pt.slots] at Xy35 ly35 yy35 zy35 sty35 hQy35
      have yy35 : ky35 = 1 := yy35
      have zy35 : ny35 = 13 := zy35
      replace Xy35 := recast Xy35 ly35 yy35 zy35
      clear ly35 yy35 zy35
      obtain ⟨rfl, Nqy35, eqy35⟩ := hQy35
      have Ny35 := Fr.app Ny34 Nqy35
      refine Fin.step (sty35) ?_
      show Fin p e below s _ _ _ (Ty35.setTop (mkF m 239 #[.val (.int pf), .val (.int pv), .val (.int pl), .val (.int PO), .val (.int PS), .val (.ref by1), .val (.long PU), .second, .val (.int (2 : Int32)), .val (.int ((PO + (1 : Int32)) + (1 : Int32)))] [(.int (own_at (own_get (own_put 1 Ls PO.toNatClampNeg pv) (3 : Int32).toNatClampNeg) (3 : Int32) PO (2 : Int32) PU PS))]))
      refine Fin.step (fun _ => XS.ifNo Xy35.here hx rfl (hb hby at_239) rfl ((if0 _ _).trans (feq ((own_1 (own_fin 1 (by decide) (3 : Int32) (2 : Int32) PO (by decide) (by decide) hO pv PS Ls M PU hU CL)) : ¬ ((own_at (own_get (own_put 1 Ls PO.toNatClampNeg pv) (3 : Int32).toNatClampNeg) (3 : Int32) PO (2 : Int32) PU PS) = (0 : Int32)))).1)) ?_
      show Fin p e below s _ _ _ (Ty35.setTop (mkF m 242 #[.val (.int pf), .val (.int pv), .val (.int pl), .val (.int PO), .val (.int PS), .val (.ref by1), .val (.long PU), .second, .val (.int (2 : Int32)), .val (.int ((PO + (1 : Int32)) + (1 : Int32)))] []))
      refine Fin.step (fun _ => XS.aload Xy35.here hx rfl (hb hby at_242) rfl rfl) ?_
      show Fin p e below s _ _ _ (Ty35.setTop (mkF m 244 #[.val (.int pf), .val (.int pv), .val (.int pl), .val (.int PO), .val (.int PS), .val (.ref by1), .val (.long PU), .second, .val (.int (2 : Int32)), .val (.int ((PO + (1 : Int32)) + (1 : Int32)))] [(.ref by1)]))
      refine Fin.step (fun _ => XS.iconst Xy35.here hx rfl (hb hby at_244)) ?_
      show Fin p e below s _ _ _ (Ty35.setTop (mkF m 245 #[.val (.int pf), .val (.int pv), .val (.int pl), .val (.int PO), .val (.int PS), .val (.ref by1), .val (.long PU), .second, .val (.int (2 : Int32)), .val (.int ((PO + (1 : Int32)) + (1 : Int32)))] [(.int (4 : Int32)), (.ref by1)]))
      refine Fin.step (fun _ => XS.iloadN Xy35.here hx rfl (hb hby at_245) rfl) ?_
      show Fin p e below s _ _ _ (Ty35.setTop (mkF m 246 #[.val (.int pf), .val (.int pv), .val (.int pl), .val (.int PO), .val (.int PS), .val (.ref by1), .val (.long PU), .second, .val (.int (2 : Int32)), .val (.int ((PO + (1 : Int32)) + (1 : Int32)))] [(.int PO), (.int (4 : Int32)), (.ref by1)]))
      refine Fin.step (fun _ => XS.iload Xy35.here hx rfl (hb hby at_246) rfl) ?_
      show Fin p e below s _ _ _ (Ty35.setTop (mkF m 248 #[.val (.int pf), .val (.int pv), .val (.int pl), .val (.int PO), .val (.int PS), .val (.ref by1), .val (.long PU), .second, .val (.int (2 : Int32)), .val (.int ((PO + (1 : Int32)) + (1 : Int32)))] [(.int (2 : Int32)), (.int PO), (.int (4 : Int32)), (.ref by1)]))
      refine Fin.step (fun _ => XS.lload Xy35.here hx rfl (hb hby at_248) rfl) ?_
      show Fin p e below s _ _ _ (Ty35.setTop (mkF m 250 #[.val (.int pf), .val (.int pv), .val (.int pl), .val (.int PO), .val (.int PS), .val (.ref by1), .val (.long PU), .second, .val (.int (2 : Int32)), .val (.int ((PO + (1 : Int32)) + (1 : Int32)))] [(.long PU), (.int (2 : Int32)), (.int PO), (.int (4 : Int32)), (.ref by1)]))
      refine Fin.step (fun _ => XS.iload Xy35.here hx rfl (hb hby at_250) rfl) ?_
      show Fin p e below s _ _ _ (Ty35.setTop (mkF m 252 #[.val (.int pf), .val (.int pv), .val (.int pl), .val (.int PO), .val (.int PS), .val (.ref by1), .val (.long PU), .second, .val (.int (2 : Int32)), .val (.int ((PO + (1 : Int32)) + (1 : Int32)))] [(.int PS), (.long PU), (.int (2 : Int32)), (.int PO), (.int (4 : Int32)), (.ref by1)]))
      obtain ⟨_, _, ⟨Ty36, Ly36, ky36, ny36⟩, -, Xy36, ⟨Lcy36, hQy36, ly36, yy36, zy36⟩, sty36⟩ := Jvm.LawKit.callS Xy35 hx (y := (⟨"com/example/indexterity/indexterity/index/IndexFormatPutVarIntPinLaw", "at", "([BIIIJB)Z"⟩ : MethodName)) hown (mvT hZ (hw _ (List.mem_of_getElem? (i := 7) rfl))) (mvT hZ (hw _ (List.mem_of_getElem? (i := 8) rfl))) (mvT hZ (hw _ (List.mem_of_getElem? (i := 9) rfl))) (mvT hZ (hw _ (List.mem_of_getElem? (i := 10) rfl))) (by decide) (backOf (W := 0) (rma l Z a0 hw [] by1 (4 : Int32) PO (2 : Int32) PU PS ky1 (own_put 1 Ls PO.toNatClampNeg pv) Ty31.heap n0 Zy31 fy31_0 (own_pg 1 Ls _ pv M.2) ⟨by decide, by decide⟩) hZ (hw _ (List.mem_of_getElem? (i := 10) rfl)) (hw _ (List.mem_of_getElem? (i := 9) rfl)) (by decide) (by decide)) (g := (mkF m 252 #[.val (.int pf), .val (.int pv), .val (.int pl), .val (.int PO), .val (.int PS), .val (.ref by1), .val (.long PU), .second, .val (.int (2 : Int32)), .val (.int ((PO + (1 : Int32)) + (1 : Int32)))] [(.int PS), (.long PU), (.int (2 : Int32)), (.int PO), (.int (4 : Int32)), (.ref by1)])) rfl (by rw [hml]; rfl) (argsL := [(.ref by1), (.int (4 : Int32)), (.int PO), (.int (2 : Int32)), (.long PU), (.int PS)]) (rest := []) (lenOf pd_1 rfl) rfl (by show 2 * 0 + _ ≤ _; exact Nat.le_of_eq rfl) (hb hby at_252) (fun _ _ => ⟨rfl, eqy35, (by decide : 1 + 0 ≤ _), (by decide : 13 + 0 ≤ _)⟩)
      dsimp only [Pt.U, Pt.locs, Pt.cells, Pt.slots] at Xy36 ly36 yy36 zy36 sty36 hQy36
      have yy36 : ky36 = 1 := yy36
      have zy36 : ny36 = 13 := zy36
      replace Xy36 := recast Xy36 ly36 yy36 zy36
      clear ly36 yy36 zy36
      obtain ⟨rfl, Nqy36, eqy36⟩ := hQy36
      have Ny36 := Fr.app Ny35 Nqy36
      refine Fin.step (sty36) ?_
      show Fin p e below s _ _ _ (Ty36.setTop (mkF m 255 #[.val (.int pf), .val (.int pv), .val (.int pl), .val (.int PO), .val (.int PS), .val (.ref by1), .val (.long PU), .second, .val (.int (2 : Int32)), .val (.int ((PO + (1 : Int32)) + (1 : Int32)))] [(.int (own_at (own_get (own_put 1 Ls PO.toNatClampNeg pv) (4 : Int32).toNatClampNeg) (4 : Int32) PO (2 : Int32) PU PS))]))
      refine Fin.step (fun _ => XS.ifNo Xy36.here hx rfl (hb hby at_255) rfl ((if0 _ _).trans (feq ((own_1 (own_fin 1 (by decide) (4 : Int32) (2 : Int32) PO (by decide) (by decide) hO pv PS Ls M PU hU CL)) : ¬ ((own_at (own_get (own_put 1 Ls PO.toNatClampNeg pv) (4 : Int32).toNatClampNeg) (4 : Int32) PO (2 : Int32) PU PS) = (0 : Int32)))).1)) ?_
      show Fin p e below s _ _ _ (Ty36.setTop (mkF m 258 #[.val (.int pf), .val (.int pv), .val (.int pl), .val (.int PO), .val (.int PS), .val (.ref by1), .val (.long PU), .second, .val (.int (2 : Int32)), .val (.int ((PO + (1 : Int32)) + (1 : Int32)))] []))
      refine Fin.step (fun _ => XS.aload Xy36.here hx rfl (hb hby at_258) rfl rfl) ?_
      show Fin p e below s _ _ _ (Ty36.setTop (mkF m 260 #[.val (.int pf), .val (.int pv), .val (.int pl), .val (.int PO), .val (.int PS), .val (.ref by1), .val (.long PU), .second, .val (.int (2 : Int32)), .val (.int ((PO + (1 : Int32)) + (1 : Int32)))] [(.ref by1)]))
      refine Fin.step (fun _ => XS.iconst Xy36.here hx rfl (hb hby at_260)) ?_
      show Fin p e below s _ _ _ (Ty36.setTop (mkF m 261 #[.val (.int pf), .val (.int pv), .val (.int pl), .val (.int PO), .val (.int PS), .val (.ref by1), .val (.long PU), .second, .val (.int (2 : Int32)), .val (.int ((PO + (1 : Int32)) + (1 : Int32)))] [(.int (5 : Int32)), (.ref by1)]))
      refine Fin.step (fun _ => XS.iloadN Xy36.here hx rfl (hb hby at_261) rfl) ?_
      show Fin p e below s _ _ _ (Ty36.setTop (mkF m 262 #[.val (.int pf), .val (.int pv), .val (.int pl), .val (.int PO), .val (.int PS), .val (.ref by1), .val (.long PU), .second, .val (.int (2 : Int32)), .val (.int ((PO + (1 : Int32)) + (1 : Int32)))] [(.int PO), (.int (5 : Int32)), (.ref by1)]))
      refine Fin.step (fun _ => XS.iload Xy36.here hx rfl (hb hby at_262) rfl) ?_
      show Fin p e below s _ _ _ (Ty36.setTop (mkF m 264 #[.val (.int pf), .val (.int pv), .val (.int pl), .val (.int PO), .val (.int PS), .val (.ref by1), .val (.long PU), .second, .val (.int (2 : Int32)), .val (.int ((PO + (1 : Int32)) + (1 : Int32)))] [(.int (2 : Int32)), (.int PO), (.int (5 : Int32)), (.ref by1)]))
      refine Fin.step (fun _ => XS.lload Xy36.here hx rfl (hb hby at_264) rfl) ?_
      show Fin p e below s _ _ _ (Ty36.setTop (mkF m 266 #[.val (.int pf), .val (.int pv), .val (.int pl), .val (.int PO), .val (.int PS), .val (.ref by1), .val (.long PU), .second, .val (.int (2 : Int32)), .val (.int ((PO + (1 : Int32)) + (1 : Int32)))] [(.long PU), (.int (2 : Int32)), (.int PO), (.int (5 : Int32)), (.ref by1)]))
      refine Fin.step (fun _ => XS.iload Xy36.here hx rfl (hb hby at_266) rfl) ?_
      show Fin p e below s _ _ _ (Ty36.setTop (mkF m 268 #[.val (.int pf), .val (.int pv), .val (.int pl), .val (.int PO), .val (.int PS), .val (.ref by1), .val (.long PU), .second, .val (.int (2 : Int32)), .val (.int ((PO + (1 : Int32)) + (1 : Int32)))] [(.int PS), (.long PU), (.int (2 : Int32)), (.int PO), (.int (5 : Int32)), (.ref by1)]))
      obtain ⟨_, _, ⟨Ty37, Ly37, ky37, ny37⟩, -, Xy37, ⟨Lcy37, hQy37, ly37, yy37, zy37⟩, sty37⟩ := Jvm.LawKit.callS Xy36 hx (y := (⟨"com/example/indexterity/indexterity/index/IndexFormatPutVarIntPinLaw", "at", "([BIIIJB)Z"⟩ : MethodName)) hown (mvT hZ (hw _ (List.mem_of_getElem? (i := 7) rfl))) (mvT hZ (hw _ (List.mem_of_getElem? (i := 8) rfl))) (mvT hZ (hw _ (List.mem_of_getElem? (i := 9) rfl))) (mvT hZ (hw _ (List.mem_of_getElem? (i := 10) rfl))) (by decide) (backOf (W := 0) (rma l Z a0 hw [] by1 (5 : Int32) PO (2 : Int32) PU PS ky1 (own_put 1 Ls PO.toNatClampNeg pv) Ty31.heap n0 Zy31 fy31_0 (own_pg 1 Ls _ pv M.2) ⟨by decide, by decide⟩) hZ (hw _ (List.mem_of_getElem? (i := 10) rfl)) (hw _ (List.mem_of_getElem? (i := 9) rfl)) (by decide) (by decide)) (g := (mkF m 268 #[.val (.int pf), .val (.int pv), .val (.int pl), .val (.int PO), .val (.int PS), .val (.ref by1), .val (.long PU), .second, .val (.int (2 : Int32)), .val (.int ((PO + (1 : Int32)) + (1 : Int32)))] [(.int PS), (.long PU), (.int (2 : Int32)), (.int PO), (.int (5 : Int32)), (.ref by1)])) rfl (by rw [hml]; rfl) (argsL := [(.ref by1), (.int (5 : Int32)), (.int PO), (.int (2 : Int32)), (.long PU), (.int PS)]) (rest := []) (lenOf pd_1 rfl) rfl (by show 2 * 0 + _ ≤ _; exact Nat.le_of_eq rfl) (hb hby at_268) (fun _ _ => ⟨rfl, eqy36, (by decide : 1 + 0 ≤ _), (by decide : 13 + 0 ≤ _)⟩)
      dsimp only [Pt.U, Pt.locs, Pt.cells, Pt.slots] at Xy37 ly37 yy37 zy37 sty37 hQy37
      have yy37 : ky37 = 1 := yy37
      have zy37 : ny37 = 13 := zy37
      replace Xy37 := recast Xy37 ly37 yy37 zy37
      clear ly37 yy37 zy37
      obtain ⟨rfl, Nqy37, eqy37⟩ := hQy37
      have Ny37 := Fr.app Ny36 Nqy37
      refine Fin.step (sty37) ?_
      show Fin p e below s _ _ _ (Ty37.setTop (mkF m 271 #[.val (.int pf), .val (.int pv), .val (.int pl), .val (.int PO), .val (.int PS), .val (.ref by1), .val (.long PU), .second, .val (.int (2 : Int32)), .val (.int ((PO + (1 : Int32)) + (1 : Int32)))] [(.int (own_at (own_get (own_put 1 Ls PO.toNatClampNeg pv) (5 : Int32).toNatClampNeg) (5 : Int32) PO (2 : Int32) PU PS))]))
      refine Fin.step (fun _ => XS.ifNo Xy37.here hx rfl (hb hby at_271) rfl ((if0 _ _).trans (feq ((own_1 (own_fin 1 (by decide) (5 : Int32) (2 : Int32) PO (by decide) (by decide) hO pv PS Ls M PU hU CL)) : ¬ ((own_at (own_get (own_put 1 Ls PO.toNatClampNeg pv) (5 : Int32).toNatClampNeg) (5 : Int32) PO (2 : Int32) PU PS) = (0 : Int32)))).1)) ?_
      show Fin p e below s _ _ _ (Ty37.setTop (mkF m 274 #[.val (.int pf), .val (.int pv), .val (.int pl), .val (.int PO), .val (.int PS), .val (.ref by1), .val (.long PU), .second, .val (.int (2 : Int32)), .val (.int ((PO + (1 : Int32)) + (1 : Int32)))] []))
      refine Fin.step (fun _ => XS.aload Xy37.here hx rfl (hb hby at_274) rfl rfl) ?_
      show Fin p e below s _ _ _ (Ty37.setTop (mkF m 276 #[.val (.int pf), .val (.int pv), .val (.int pl), .val (.int PO), .val (.int PS), .val (.ref by1), .val (.long PU), .second, .val (.int (2 : Int32)), .val (.int ((PO + (1 : Int32)) + (1 : Int32)))] [(.ref by1)]))
      refine Fin.step (fun _ => XS.bipush Xy37.here hx rfl (hb hby at_276)) ?_
      show Fin p e below s _ _ _ (Ty37.setTop (mkF m 278 #[.val (.int pf), .val (.int pv), .val (.int pl), .val (.int PO), .val (.int PS), .val (.ref by1), .val (.long PU), .second, .val (.int (2 : Int32)), .val (.int ((PO + (1 : Int32)) + (1 : Int32)))] [(.int (6 : Int32)), (.ref by1)]))
      refine Fin.step (fun _ => XS.iloadN Xy37.here hx rfl (hb hby at_278) rfl) ?_
      show Fin p e below s _ _ _ (Ty37.setTop (mkF m 279 #[.val (.int pf), .val (.int pv), .val (.int pl), .val (.int PO), .val (.int PS), .val (.ref by1), .val (.long PU), .second, .val (.int (2 : Int32)), .val (.int ((PO + (1 : Int32)) + (1 : Int32)))] [(.int PO), (.int (6 : Int32)), (.ref by1)]))
      refine Fin.step (fun _ => XS.iload Xy37.here hx rfl (hb hby at_279) rfl) ?_
      show Fin p e below s _ _ _ (Ty37.setTop (mkF m 281 #[.val (.int pf), .val (.int pv), .val (.int pl), .val (.int PO), .val (.int PS), .val (.ref by1), .val (.long PU), .second, .val (.int (2 : Int32)), .val (.int ((PO + (1 : Int32)) + (1 : Int32)))] [(.int (2 : Int32)), (.int PO), (.int (6 : Int32)), (.ref by1)]))
      refine Fin.step (fun _ => XS.lload Xy37.here hx rfl (hb hby at_281) rfl) ?_
      show Fin p e below s _ _ _ (Ty37.setTop (mkF m 283 #[.val (.int pf), .val (.int pv), .val (.int pl), .val (.int PO), .val (.int PS), .val (.ref by1), .val (.long PU), .second, .val (.int (2 : Int32)), .val (.int ((PO + (1 : Int32)) + (1 : Int32)))] [(.long PU), (.int (2 : Int32)), (.int PO), (.int (6 : Int32)), (.ref by1)]))
      refine Fin.step (fun _ => XS.iload Xy37.here hx rfl (hb hby at_283) rfl) ?_
      show Fin p e below s _ _ _ (Ty37.setTop (mkF m 285 #[.val (.int pf), .val (.int pv), .val (.int pl), .val (.int PO), .val (.int PS), .val (.ref by1), .val (.long PU), .second, .val (.int (2 : Int32)), .val (.int ((PO + (1 : Int32)) + (1 : Int32)))] [(.int PS), (.long PU), (.int (2 : Int32)), (.int PO), (.int (6 : Int32)), (.ref by1)]))
      obtain ⟨_, _, ⟨Ty38, Ly38, ky38, ny38⟩, -, Xy38, ⟨Lcy38, hQy38, ly38, yy38, zy38⟩, sty38⟩ := Jvm.LawKit.callS Xy37 hx (y := (⟨"com/example/indexterity/indexterity/index/IndexFormatPutVarIntPinLaw", "at", "([BIIIJB)Z"⟩ : MethodName)) hown (mvT hZ (hw _ (List.mem_of_getElem? (i := 7) rfl))) (mvT hZ (hw _ (List.mem_of_getElem? (i := 8) rfl))) (mvT hZ (hw _ (List.mem_of_getElem? (i := 9) rfl))) (mvT hZ (hw _ (List.mem_of_getElem? (i := 10) rfl))) (by decide) (backOf (W := 0) (rma l Z a0 hw [] by1 (6 : Int32) PO (2 : Int32) PU PS ky1 (own_put 1 Ls PO.toNatClampNeg pv) Ty31.heap n0 Zy31 fy31_0 (own_pg 1 Ls _ pv M.2) ⟨by decide, by decide⟩) hZ (hw _ (List.mem_of_getElem? (i := 10) rfl)) (hw _ (List.mem_of_getElem? (i := 9) rfl)) (by decide) (by decide)) (g := (mkF m 285 #[.val (.int pf), .val (.int pv), .val (.int pl), .val (.int PO), .val (.int PS), .val (.ref by1), .val (.long PU), .second, .val (.int (2 : Int32)), .val (.int ((PO + (1 : Int32)) + (1 : Int32)))] [(.int PS), (.long PU), (.int (2 : Int32)), (.int PO), (.int (6 : Int32)), (.ref by1)])) rfl (by rw [hml]; rfl) (argsL := [(.ref by1), (.int (6 : Int32)), (.int PO), (.int (2 : Int32)), (.long PU), (.int PS)]) (rest := []) (lenOf pd_1 rfl) rfl (by show 2 * 0 + _ ≤ _; exact Nat.le_of_eq rfl) (hb hby at_285) (fun _ _ => ⟨rfl, eqy37, (by decide : 1 + 0 ≤ _), (by decide : 13 + 0 ≤ _)⟩)
      dsimp only [Pt.U, Pt.locs, Pt.cells, Pt.slots] at Xy38 ly38 yy38 zy38 sty38 hQy38
      have yy38 : ky38 = 1 := yy38
      have zy38 : ny38 = 13 := zy38
      replace Xy38 := recast Xy38 ly38 yy38 zy38
      clear ly38 yy38 zy38
      obtain ⟨rfl, Nqy38, eqy38⟩ := hQy38
      have Ny38 := Fr.app Ny37 Nqy38
      refine Fin.step (sty38) ?_
      show Fin p e below s _ _ _ (Ty38.setTop (mkF m 288 #[.val (.int pf), .val (.int pv), .val (.int pl), .val (.int PO), .val (.int PS), .val (.ref by1), .val (.long PU), .second, .val (.int (2 : Int32)), .val (.int ((PO + (1 : Int32)) + (1 : Int32)))] [(.int (own_at (own_get (own_put 1 Ls PO.toNatClampNeg pv) (6 : Int32).toNatClampNeg) (6 : Int32) PO (2 : Int32) PU PS))]))
      refine Fin.step (fun _ => XS.ifNo Xy38.here hx rfl (hb hby at_288) rfl ((if0 _ _).trans (feq ((own_1 (own_fin 1 (by decide) (6 : Int32) (2 : Int32) PO (by decide) (by decide) hO pv PS Ls M PU hU CL)) : ¬ ((own_at (own_get (own_put 1 Ls PO.toNatClampNeg pv) (6 : Int32).toNatClampNeg) (6 : Int32) PO (2 : Int32) PU PS) = (0 : Int32)))).1)) ?_
      show Fin p e below s _ _ _ (Ty38.setTop (mkF m 291 #[.val (.int pf), .val (.int pv), .val (.int pl), .val (.int PO), .val (.int PS), .val (.ref by1), .val (.long PU), .second, .val (.int (2 : Int32)), .val (.int ((PO + (1 : Int32)) + (1 : Int32)))] []))
      refine Fin.step (fun _ => XS.aload Xy38.here hx rfl (hb hby at_291) rfl rfl) ?_
      show Fin p e below s _ _ _ (Ty38.setTop (mkF m 293 #[.val (.int pf), .val (.int pv), .val (.int pl), .val (.int PO), .val (.int PS), .val (.ref by1), .val (.long PU), .second, .val (.int (2 : Int32)), .val (.int ((PO + (1 : Int32)) + (1 : Int32)))] [(.ref by1)]))
      refine Fin.step (fun _ => XS.bipush Xy38.here hx rfl (hb hby at_293)) ?_
      show Fin p e below s _ _ _ (Ty38.setTop (mkF m 295 #[.val (.int pf), .val (.int pv), .val (.int pl), .val (.int PO), .val (.int PS), .val (.ref by1), .val (.long PU), .second, .val (.int (2 : Int32)), .val (.int ((PO + (1 : Int32)) + (1 : Int32)))] [(.int (7 : Int32)), (.ref by1)]))
      refine Fin.step (fun _ => XS.iloadN Xy38.here hx rfl (hb hby at_295) rfl) ?_
      show Fin p e below s _ _ _ (Ty38.setTop (mkF m 296 #[.val (.int pf), .val (.int pv), .val (.int pl), .val (.int PO), .val (.int PS), .val (.ref by1), .val (.long PU), .second, .val (.int (2 : Int32)), .val (.int ((PO + (1 : Int32)) + (1 : Int32)))] [(.int PO), (.int (7 : Int32)), (.ref by1)]))
      refine Fin.step (fun _ => XS.iload Xy38.here hx rfl (hb hby at_296) rfl) ?_
      show Fin p e below s _ _ _ (Ty38.setTop (mkF m 298 #[.val (.int pf), .val (.int pv), .val (.int pl), .val (.int PO), .val (.int PS), .val (.ref by1), .val (.long PU), .second, .val (.int (2 : Int32)), .val (.int ((PO + (1 : Int32)) + (1 : Int32)))] [(.int (2 : Int32)), (.int PO), (.int (7 : Int32)), (.ref by1)]))
      refine Fin.step (fun _ => XS.lload Xy38.here hx rfl (hb hby at_298) rfl) ?_
      show Fin p e below s _ _ _ (Ty38.setTop (mkF m 300 #[.val (.int pf), .val (.int pv), .val (.int pl), .val (.int PO), .val (.int PS), .val (.ref by1), .val (.long PU), .second, .val (.int (2 : Int32)), .val (.int ((PO + (1 : Int32)) + (1 : Int32)))] [(.long PU), (.int (2 : Int32)), (.int PO), (.int (7 : Int32)), (.ref by1)]))
      refine Fin.step (fun _ => XS.iload Xy38.here hx rfl (hb hby at_300) rfl) ?_
      show Fin p e below s _ _ _ (Ty38.setTop (mkF m 302 #[.val (.int pf), .val (.int pv), .val (.int pl), .val (.int PO), .val (.int PS), .val (.ref by1), .val (.long PU), .second, .val (.int (2 : Int32)), .val (.int ((PO + (1 : Int32)) + (1 : Int32)))] [(.int PS), (.long PU), (.int (2 : Int32)), (.int PO), (.int (7 : Int32)), (.ref by1)]))
      obtain ⟨_, _, ⟨Ty39, Ly39, ky39, ny39⟩, -, Xy39, ⟨Lcy39, hQy39, ly39, yy39, zy39⟩, sty39⟩ := Jvm.LawKit.callS Xy38 hx (y := (⟨"com/example/indexterity/indexterity/index/IndexFormatPutVarIntPinLaw", "at", "([BIIIJB)Z"⟩ : MethodName)) hown (mvT hZ (hw _ (List.mem_of_getElem? (i := 7) rfl))) (mvT hZ (hw _ (List.mem_of_getElem? (i := 8) rfl))) (mvT hZ (hw _ (List.mem_of_getElem? (i := 9) rfl))) (mvT hZ (hw _ (List.mem_of_getElem? (i := 10) rfl))) (by decide) (backOf (W := 0) (rma l Z a0 hw [] by1 (7 : Int32) PO (2 : Int32) PU PS ky1 (own_put 1 Ls PO.toNatClampNeg pv) Ty31.heap n0 Zy31 fy31_0 (own_pg 1 Ls _ pv M.2) ⟨by decide, by decide⟩) hZ (hw _ (List.mem_of_getElem? (i := 10) rfl)) (hw _ (List.mem_of_getElem? (i := 9) rfl)) (by decide) (by decide)) (g := (mkF m 302 #[.val (.int pf), .val (.int pv), .val (.int pl), .val (.int PO), .val (.int PS), .val (.ref by1), .val (.long PU), .second, .val (.int (2 : Int32)), .val (.int ((PO + (1 : Int32)) + (1 : Int32)))] [(.int PS), (.long PU), (.int (2 : Int32)), (.int PO), (.int (7 : Int32)), (.ref by1)])) rfl (by rw [hml]; rfl) (argsL := [(.ref by1), (.int (7 : Int32)), (.int PO), (.int (2 : Int32)), (.long PU), (.int PS)]) (rest := []) (lenOf pd_1 rfl) rfl (by show 2 * 0 + _ ≤ _; exact Nat.le_of_eq rfl) (hb hby at_302) (fun _ _ => ⟨rfl, eqy38, (by decide : 1 + 0 ≤ _), (by decide : 13 + 0 ≤ _)⟩)
      dsimp only [Pt.U, Pt.locs, Pt.cells, Pt.slots] at Xy39 ly39 yy39 zy39 sty39 hQy39
      have yy39 : ky39 = 1 := yy39
      have zy39 : ny39 = 13 := zy39
      replace Xy39 := recast Xy39 ly39 yy39 zy39
      clear ly39 yy39 zy39
      obtain ⟨rfl, Nqy39, eqy39⟩ := hQy39
      have Ny39 := Fr.app Ny38 Nqy39
      refine Fin.step (sty39) ?_
      show Fin p e below s _ _ _ (Ty39.setTop (mkF m 305 #[.val (.int pf), .val (.int pv), .val (.int pl), .val (.int PO), .val (.int PS), .val (.ref by1), .val (.long PU), .second, .val (.int (2 : Int32)), .val (.int ((PO + (1 : Int32)) + (1 : Int32)))] [(.int (own_at (own_get (own_put 1 Ls PO.toNatClampNeg pv) (7 : Int32).toNatClampNeg) (7 : Int32) PO (2 : Int32) PU PS))]))
      refine Fin.step (fun _ => XS.ifNo Xy39.here hx rfl (hb hby at_305) rfl ((if0 _ _).trans (feq ((own_1 (own_fin 1 (by decide) (7 : Int32) (2 : Int32) PO (by decide) (by decide) hO pv PS Ls M PU hU CL)) : ¬ ((own_at (own_get (own_put 1 Ls PO.toNatClampNeg pv) (7 : Int32).toNatClampNeg) (7 : Int32) PO (2 : Int32) PU PS) = (0 : Int32)))).1)) ?_
      show Fin p e below s _ _ _ (Ty39.setTop (mkF m 308 #[.val (.int pf), .val (.int pv), .val (.int pl), .val (.int PO), .val (.int PS), .val (.ref by1), .val (.long PU), .second, .val (.int (2 : Int32)), .val (.int ((PO + (1 : Int32)) + (1 : Int32)))] []))
      refine Fin.step (fun _ => XS.aload Xy39.here hx rfl (hb hby at_308) rfl rfl) ?_
      show Fin p e below s _ _ _ (Ty39.setTop (mkF m 310 #[.val (.int pf), .val (.int pv), .val (.int pl), .val (.int PO), .val (.int PS), .val (.ref by1), .val (.long PU), .second, .val (.int (2 : Int32)), .val (.int ((PO + (1 : Int32)) + (1 : Int32)))] [(.ref by1)]))
      refine Fin.step (fun _ => XS.bipush Xy39.here hx rfl (hb hby at_310)) ?_
      show Fin p e below s _ _ _ (Ty39.setTop (mkF m 312 #[.val (.int pf), .val (.int pv), .val (.int pl), .val (.int PO), .val (.int PS), .val (.ref by1), .val (.long PU), .second, .val (.int (2 : Int32)), .val (.int ((PO + (1 : Int32)) + (1 : Int32)))] [(.int (8 : Int32)), (.ref by1)]))
      refine Fin.step (fun _ => XS.iloadN Xy39.here hx rfl (hb hby at_312) rfl) ?_
      show Fin p e below s _ _ _ (Ty39.setTop (mkF m 313 #[.val (.int pf), .val (.int pv), .val (.int pl), .val (.int PO), .val (.int PS), .val (.ref by1), .val (.long PU), .second, .val (.int (2 : Int32)), .val (.int ((PO + (1 : Int32)) + (1 : Int32)))] [(.int PO), (.int (8 : Int32)), (.ref by1)]))
      refine Fin.step (fun _ => XS.iload Xy39.here hx rfl (hb hby at_313) rfl) ?_
      show Fin p e below s _ _ _ (Ty39.setTop (mkF m 315 #[.val (.int pf), .val (.int pv), .val (.int pl), .val (.int PO), .val (.int PS), .val (.ref by1), .val (.long PU), .second, .val (.int (2 : Int32)), .val (.int ((PO + (1 : Int32)) + (1 : Int32)))] [(.int (2 : Int32)), (.int PO), (.int (8 : Int32)), (.ref by1)]))
      refine Fin.step (fun _ => XS.lload Xy39.here hx rfl (hb hby at_315) rfl) ?_
      show Fin p e below s _ _ _ (Ty39.setTop (mkF m 317 #[.val (.int pf), .val (.int pv), .val (.int pl), .val (.int PO), .val (.int PS), .val (.ref by1), .val (.long PU), .second, .val (.int (2 : Int32)), .val (.int ((PO + (1 : Int32)) + (1 : Int32)))] [(.long PU), (.int (2 : Int32)), (.int PO), (.int (8 : Int32)), (.ref by1)]))
      refine Fin.step (fun _ => XS.iload Xy39.here hx rfl (hb hby at_317) rfl) ?_
      show Fin p e below s _ _ _ (Ty39.setTop (mkF m 319 #[.val (.int pf), .val (.int pv), .val (.int pl), .val (.int PO), .val (.int PS), .val (.ref by1), .val (.long PU), .second, .val (.int (2 : Int32)), .val (.int ((PO + (1 : Int32)) + (1 : Int32)))] [(.int PS), (.long PU), (.int (2 : Int32)), (.int PO), (.int (8 : Int32)), (.ref by1)]))
      obtain ⟨_, _, ⟨Ty40, Ly40, ky40, ny40⟩, -, Xy40, ⟨Lcy40, hQy40, ly40, yy40, zy40⟩, sty40⟩ := Jvm.LawKit.callS Xy39 hx (y := (⟨"com/example/indexterity/indexterity/index/IndexFormatPutVarIntPinLaw", "at", "([BIIIJB)Z"⟩ : MethodName)) hown (mvT hZ (hw _ (List.mem_of_getElem? (i := 7) rfl))) (mvT hZ (hw _ (List.mem_of_getElem? (i := 8) rfl))) (mvT hZ (hw _ (List.mem_of_getElem? (i := 9) rfl))) (mvT hZ (hw _ (List.mem_of_getElem? (i := 10) rfl))) (by decide) (backOf (W := 0) (rma l Z a0 hw [] by1 (8 : Int32) PO (2 : Int32) PU PS ky1 (own_put 1 Ls PO.toNatClampNeg pv) Ty31.heap n0 Zy31 fy31_0 (own_pg 1 Ls _ pv M.2) ⟨by decide, by decide⟩) hZ (hw _ (List.mem_of_getElem? (i := 10) rfl)) (hw _ (List.mem_of_getElem? (i := 9) rfl)) (by decide) (by decide)) (g := (mkF m 319 #[.val (.int pf), .val (.int pv), .val (.int pl), .val (.int PO), .val (.int PS), .val (.ref by1), .val (.long PU), .second, .val (.int (2 : Int32)), .val (.int ((PO + (1 : Int32)) + (1 : Int32)))] [(.int PS), (.long PU), (.int (2 : Int32)), (.int PO), (.int (8 : Int32)), (.ref by1)])) rfl (by rw [hml]; rfl) (argsL := [(.ref by1), (.int (8 : Int32)), (.int PO), (.int (2 : Int32)), (.long PU), (.int PS)]) (rest := []) (lenOf pd_1 rfl) rfl (by show 2 * 0 + _ ≤ _; exact Nat.le_of_eq rfl) (hb hby at_319) (fun _ _ => ⟨rfl, eqy39, (by decide : 1 + 0 ≤ _), (by decide : 13 + 0 ≤ _)⟩)
      dsimp only [Pt.U, Pt.locs, Pt.cells, Pt.slots] at Xy40 ly40 yy40 zy40 sty40 hQy40
      have yy40 : ky40 = 1 := yy40
      have zy40 : ny40 = 13 := zy40
      replace Xy40 := recast Xy40 ly40 yy40 zy40
      clear ly40 yy40 zy40
      obtain ⟨rfl, Nqy40, eqy40⟩ := hQy40
      have Ny40 := Fr.app Ny39 Nqy40
      refine Fin.step (sty40) ?_
      show Fin p e below s _ _ _ (Ty40.setTop (mkF m 322 #[.val (.int pf), .val (.int pv), .val (.int pl), .val (.int PO), .val (.int PS), .val (.ref by1), .val (.long PU), .second, .val (.int (2 : Int32)), .val (.int ((PO + (1 : Int32)) + (1 : Int32)))] [(.int (own_at (own_get (own_put 1 Ls PO.toNatClampNeg pv) (8 : Int32).toNatClampNeg) (8 : Int32) PO (2 : Int32) PU PS))]))
      refine Fin.step (fun _ => XS.ifNo Xy40.here hx rfl (hb hby at_322) rfl ((if0 _ _).trans (feq ((own_1 (own_fin 1 (by decide) (8 : Int32) (2 : Int32) PO (by decide) (by decide) hO pv PS Ls M PU hU CL)) : ¬ ((own_at (own_get (own_put 1 Ls PO.toNatClampNeg pv) (8 : Int32).toNatClampNeg) (8 : Int32) PO (2 : Int32) PU PS) = (0 : Int32)))).1)) ?_
      show Fin p e below s _ _ _ (Ty40.setTop (mkF m 325 #[.val (.int pf), .val (.int pv), .val (.int pl), .val (.int PO), .val (.int PS), .val (.ref by1), .val (.long PU), .second, .val (.int (2 : Int32)), .val (.int ((PO + (1 : Int32)) + (1 : Int32)))] []))
      refine Fin.step (fun _ => XS.aload Xy40.here hx rfl (hb hby at_325) rfl rfl) ?_
      show Fin p e below s _ _ _ (Ty40.setTop (mkF m 327 #[.val (.int pf), .val (.int pv), .val (.int pl), .val (.int PO), .val (.int PS), .val (.ref by1), .val (.long PU), .second, .val (.int (2 : Int32)), .val (.int ((PO + (1 : Int32)) + (1 : Int32)))] [(.ref by1)]))
      refine Fin.step (fun _ => XS.bipush Xy40.here hx rfl (hb hby at_327)) ?_
      show Fin p e below s _ _ _ (Ty40.setTop (mkF m 329 #[.val (.int pf), .val (.int pv), .val (.int pl), .val (.int PO), .val (.int PS), .val (.ref by1), .val (.long PU), .second, .val (.int (2 : Int32)), .val (.int ((PO + (1 : Int32)) + (1 : Int32)))] [(.int (9 : Int32)), (.ref by1)]))
      refine Fin.step (fun _ => XS.iloadN Xy40.here hx rfl (hb hby at_329) rfl) ?_
      show Fin p e below s _ _ _ (Ty40.setTop (mkF m 330 #[.val (.int pf), .val (.int pv), .val (.int pl), .val (.int PO), .val (.int PS), .val (.ref by1), .val (.long PU), .second, .val (.int (2 : Int32)), .val (.int ((PO + (1 : Int32)) + (1 : Int32)))] [(.int PO), (.int (9 : Int32)), (.ref by1)]))
      refine Fin.step (fun _ => XS.iload Xy40.here hx rfl (hb hby at_330) rfl) ?_
      show Fin p e below s _ _ _ (Ty40.setTop (mkF m 332 #[.val (.int pf), .val (.int pv), .val (.int pl), .val (.int PO), .val (.int PS), .val (.ref by1), .val (.long PU), .second, .val (.int (2 : Int32)), .val (.int ((PO + (1 : Int32)) + (1 : Int32)))] [(.int (2 : Int32)), (.int PO), (.int (9 : Int32)), (.ref by1)]))
      refine Fin.step (fun _ => XS.lload Xy40.here hx rfl (hb hby at_332) rfl) ?_
      show Fin p e below s _ _ _ (Ty40.setTop (mkF m 334 #[.val (.int pf), .val (.int pv), .val (.int pl), .val (.int PO), .val (.int PS), .val (.ref by1), .val (.long PU), .second, .val (.int (2 : Int32)), .val (.int ((PO + (1 : Int32)) + (1 : Int32)))] [(.long PU), (.int (2 : Int32)), (.int PO), (.int (9 : Int32)), (.ref by1)]))
      refine Fin.step (fun _ => XS.iload Xy40.here hx rfl (hb hby at_334) rfl) ?_
      show Fin p e below s _ _ _ (Ty40.setTop (mkF m 336 #[.val (.int pf), .val (.int pv), .val (.int pl), .val (.int PO), .val (.int PS), .val (.ref by1), .val (.long PU), .second, .val (.int (2 : Int32)), .val (.int ((PO + (1 : Int32)) + (1 : Int32)))] [(.int PS), (.long PU), (.int (2 : Int32)), (.int PO), (.int (9 : Int32)), (.ref by1)]))
      obtain ⟨_, _, ⟨Ty41, Ly41, ky41, ny41⟩, -, Xy41, ⟨Lcy41, hQy41, ly41, yy41, zy41⟩, sty41⟩ := Jvm.LawKit.callS Xy40 hx (y := (⟨"com/example/indexterity/indexterity/index/IndexFormatPutVarIntPinLaw", "at", "([BIIIJB)Z"⟩ : MethodName)) hown (mvT hZ (hw _ (List.mem_of_getElem? (i := 7) rfl))) (mvT hZ (hw _ (List.mem_of_getElem? (i := 8) rfl))) (mvT hZ (hw _ (List.mem_of_getElem? (i := 9) rfl))) (mvT hZ (hw _ (List.mem_of_getElem? (i := 10) rfl))) (by decide) (backOf (W := 0) (rma l Z a0 hw [] by1 (9 : Int32) PO (2 : Int32) PU PS ky1 (own_put 1 Ls PO.toNatClampNeg pv) Ty31.heap n0 Zy31 fy31_0 (own_pg 1 Ls _ pv M.2) ⟨by decide, by decide⟩) hZ (hw _ (List.mem_of_getElem? (i := 10) rfl)) (hw _ (List.mem_of_getElem? (i := 9) rfl)) (by decide) (by decide)) (g := (mkF m 336 #[.val (.int pf), .val (.int pv), .val (.int pl), .val (.int PO), .val (.int PS), .val (.ref by1), .val (.long PU), .second, .val (.int (2 : Int32)), .val (.int ((PO + (1 : Int32)) + (1 : Int32)))] [(.int PS), (.long PU), (.int (2 : Int32)), (.int PO), (.int (9 : Int32)), (.ref by1)])) rfl (by rw [hml]; rfl) (argsL := [(.ref by1), (.int (9 : Int32)), (.int PO), (.int (2 : Int32)), (.long PU), (.int PS)]) (rest := []) (lenOf pd_1 rfl) rfl (by show 2 * 0 + _ ≤ _; exact Nat.le_of_eq rfl) (hb hby at_336) (fun _ _ => ⟨rfl, eqy40, (by decide : 1 + 0 ≤ _), (by decide : 13 + 0 ≤ _)⟩)
      dsimp only [Pt.U, Pt.locs, Pt.cells, Pt.slots] at Xy41 ly41 yy41 zy41 sty41 hQy41
      have yy41 : ky41 = 1 := yy41
      have zy41 : ny41 = 13 := zy41
      replace Xy41 := recast Xy41 ly41 yy41 zy41
      clear ly41 yy41 zy41
      obtain ⟨rfl, Nqy41, eqy41⟩ := hQy41
      have Ny41 := Fr.app Ny40 Nqy41
      refine Fin.step (sty41) ?_
      show Fin p e below s _ _ _ (Ty41.setTop (mkF m 339 #[.val (.int pf), .val (.int pv), .val (.int pl), .val (.int PO), .val (.int PS), .val (.ref by1), .val (.long PU), .second, .val (.int (2 : Int32)), .val (.int ((PO + (1 : Int32)) + (1 : Int32)))] [(.int (own_at (own_get (own_put 1 Ls PO.toNatClampNeg pv) (9 : Int32).toNatClampNeg) (9 : Int32) PO (2 : Int32) PU PS))]))
      refine Fin.step (fun _ => XS.ifNo Xy41.here hx rfl (hb hby at_339) rfl ((if0 _ _).trans (feq ((own_1 (own_fin 1 (by decide) (9 : Int32) (2 : Int32) PO (by decide) (by decide) hO pv PS Ls M PU hU CL)) : ¬ ((own_at (own_get (own_put 1 Ls PO.toNatClampNeg pv) (9 : Int32).toNatClampNeg) (9 : Int32) PO (2 : Int32) PU PS) = (0 : Int32)))).1)) ?_
      show Fin p e below s _ _ _ (Ty41.setTop (mkF m 342 #[.val (.int pf), .val (.int pv), .val (.int pl), .val (.int PO), .val (.int PS), .val (.ref by1), .val (.long PU), .second, .val (.int (2 : Int32)), .val (.int ((PO + (1 : Int32)) + (1 : Int32)))] []))
      refine Fin.step (fun _ => XS.aload Xy41.here hx rfl (hb hby at_342) rfl rfl) ?_
      show Fin p e below s _ _ _ (Ty41.setTop (mkF m 344 #[.val (.int pf), .val (.int pv), .val (.int pl), .val (.int PO), .val (.int PS), .val (.ref by1), .val (.long PU), .second, .val (.int (2 : Int32)), .val (.int ((PO + (1 : Int32)) + (1 : Int32)))] [(.ref by1)]))
      refine Fin.step (fun _ => XS.bipush Xy41.here hx rfl (hb hby at_344)) ?_
      show Fin p e below s _ _ _ (Ty41.setTop (mkF m 346 #[.val (.int pf), .val (.int pv), .val (.int pl), .val (.int PO), .val (.int PS), .val (.ref by1), .val (.long PU), .second, .val (.int (2 : Int32)), .val (.int ((PO + (1 : Int32)) + (1 : Int32)))] [(.int (10 : Int32)), (.ref by1)]))
      refine Fin.step (fun _ => XS.iloadN Xy41.here hx rfl (hb hby at_346) rfl) ?_
      show Fin p e below s _ _ _ (Ty41.setTop (mkF m 347 #[.val (.int pf), .val (.int pv), .val (.int pl), .val (.int PO), .val (.int PS), .val (.ref by1), .val (.long PU), .second, .val (.int (2 : Int32)), .val (.int ((PO + (1 : Int32)) + (1 : Int32)))] [(.int PO), (.int (10 : Int32)), (.ref by1)]))
      refine Fin.step (fun _ => XS.iload Xy41.here hx rfl (hb hby at_347) rfl) ?_
      show Fin p e below s _ _ _ (Ty41.setTop (mkF m 349 #[.val (.int pf), .val (.int pv), .val (.int pl), .val (.int PO), .val (.int PS), .val (.ref by1), .val (.long PU), .second, .val (.int (2 : Int32)), .val (.int ((PO + (1 : Int32)) + (1 : Int32)))] [(.int (2 : Int32)), (.int PO), (.int (10 : Int32)), (.ref by1)]))
      refine Fin.step (fun _ => XS.lload Xy41.here hx rfl (hb hby at_349) rfl) ?_
      show Fin p e below s _ _ _ (Ty41.setTop (mkF m 351 #[.val (.int pf), .val (.int pv), .val (.int pl), .val (.int PO), .val (.int PS), .val (.ref by1), .val (.long PU), .second, .val (.int (2 : Int32)), .val (.int ((PO + (1 : Int32)) + (1 : Int32)))] [(.long PU), (.int (2 : Int32)), (.int PO), (.int (10 : Int32)), (.ref by1)]))
      refine Fin.step (fun _ => XS.iload Xy41.here hx rfl (hb hby at_351) rfl) ?_
      show Fin p e below s _ _ _ (Ty41.setTop (mkF m 353 #[.val (.int pf), .val (.int pv), .val (.int pl), .val (.int PO), .val (.int PS), .val (.ref by1), .val (.long PU), .second, .val (.int (2 : Int32)), .val (.int ((PO + (1 : Int32)) + (1 : Int32)))] [(.int PS), (.long PU), (.int (2 : Int32)), (.int PO), (.int (10 : Int32)), (.ref by1)]))
      obtain ⟨_, _, ⟨Ty42, Ly42, ky42, ny42⟩, -, Xy42, ⟨Lcy42, hQy42, ly42, yy42, zy42⟩, sty42⟩ := Jvm.LawKit.callS Xy41 hx (y := (⟨"com/example/indexterity/indexterity/index/IndexFormatPutVarIntPinLaw", "at", "([BIIIJB)Z"⟩ : MethodName)) hown (mvT hZ (hw _ (List.mem_of_getElem? (i := 7) rfl))) (mvT hZ (hw _ (List.mem_of_getElem? (i := 8) rfl))) (mvT hZ (hw _ (List.mem_of_getElem? (i := 9) rfl))) (mvT hZ (hw _ (List.mem_of_getElem? (i := 10) rfl))) (by decide) (backOf (W := 0) (rma l Z a0 hw [] by1 (10 : Int32) PO (2 : Int32) PU PS ky1 (own_put 1 Ls PO.toNatClampNeg pv) Ty31.heap n0 Zy31 fy31_0 (own_pg 1 Ls _ pv M.2) ⟨by decide, by decide⟩) hZ (hw _ (List.mem_of_getElem? (i := 10) rfl)) (hw _ (List.mem_of_getElem? (i := 9) rfl)) (by decide) (by decide)) (g := (mkF m 353 #[.val (.int pf), .val (.int pv), .val (.int pl), .val (.int PO), .val (.int PS), .val (.ref by1), .val (.long PU), .second, .val (.int (2 : Int32)), .val (.int ((PO + (1 : Int32)) + (1 : Int32)))] [(.int PS), (.long PU), (.int (2 : Int32)), (.int PO), (.int (10 : Int32)), (.ref by1)])) rfl (by rw [hml]; rfl) (argsL := [(.ref by1), (.int (10 : Int32)), (.int PO), (.int (2 : Int32)), (.long PU), (.int PS)]) (rest := []) (lenOf pd_1 rfl) rfl (by show 2 * 0 + _ ≤ _; exact Nat.le_of_eq rfl) (hb hby at_353) (fun _ _ => ⟨rfl, eqy41, (by decide : 1 + 0 ≤ _), (by decide : 13 + 0 ≤ _)⟩)
      dsimp only [Pt.U, Pt.locs, Pt.cells, Pt.slots] at Xy42 ly42 yy42 zy42 sty42 hQy42
      have yy42 : ky42 = 1 := yy42
      have zy42 : ny42 = 13 := zy42
      replace Xy42 := recast Xy42 ly42 yy42 zy42
      clear ly42 yy42 zy42
      obtain ⟨rfl, Nqy42, eqy42⟩ := hQy42
      have Ny42 := Fr.app Ny41 Nqy42
      refine Fin.step (sty42) ?_
      show Fin p e below s _ _ _ (Ty42.setTop (mkF m 356 #[.val (.int pf), .val (.int pv), .val (.int pl), .val (.int PO), .val (.int PS), .val (.ref by1), .val (.long PU), .second, .val (.int (2 : Int32)), .val (.int ((PO + (1 : Int32)) + (1 : Int32)))] [(.int (own_at (own_get (own_put 1 Ls PO.toNatClampNeg pv) (10 : Int32).toNatClampNeg) (10 : Int32) PO (2 : Int32) PU PS))]))
      refine Fin.step (fun _ => XS.ifNo Xy42.here hx rfl (hb hby at_356) rfl ((if0 _ _).trans (feq ((own_1 (own_fin 1 (by decide) (10 : Int32) (2 : Int32) PO (by decide) (by decide) hO pv PS Ls M PU hU CL)) : ¬ ((own_at (own_get (own_put 1 Ls PO.toNatClampNeg pv) (10 : Int32).toNatClampNeg) (10 : Int32) PO (2 : Int32) PU PS) = (0 : Int32)))).1)) ?_
      show Fin p e below s _ _ _ (Ty42.setTop (mkF m 359 #[.val (.int pf), .val (.int pv), .val (.int pl), .val (.int PO), .val (.int PS), .val (.ref by1), .val (.long PU), .second, .val (.int (2 : Int32)), .val (.int ((PO + (1 : Int32)) + (1 : Int32)))] []))
      refine Fin.step (fun _ => XS.aload Xy42.here hx rfl (hb hby at_359) rfl rfl) ?_
      show Fin p e below s _ _ _ (Ty42.setTop (mkF m 361 #[.val (.int pf), .val (.int pv), .val (.int pl), .val (.int PO), .val (.int PS), .val (.ref by1), .val (.long PU), .second, .val (.int (2 : Int32)), .val (.int ((PO + (1 : Int32)) + (1 : Int32)))] [(.ref by1)]))
      refine Fin.step (fun _ => XS.bipush Xy42.here hx rfl (hb hby at_361)) ?_
      show Fin p e below s _ _ _ (Ty42.setTop (mkF m 363 #[.val (.int pf), .val (.int pv), .val (.int pl), .val (.int PO), .val (.int PS), .val (.ref by1), .val (.long PU), .second, .val (.int (2 : Int32)), .val (.int ((PO + (1 : Int32)) + (1 : Int32)))] [(.int (11 : Int32)), (.ref by1)]))
      refine Fin.step (fun _ => XS.iloadN Xy42.here hx rfl (hb hby at_363) rfl) ?_
      show Fin p e below s _ _ _ (Ty42.setTop (mkF m 364 #[.val (.int pf), .val (.int pv), .val (.int pl), .val (.int PO), .val (.int PS), .val (.ref by1), .val (.long PU), .second, .val (.int (2 : Int32)), .val (.int ((PO + (1 : Int32)) + (1 : Int32)))] [(.int PO), (.int (11 : Int32)), (.ref by1)]))
      refine Fin.step (fun _ => XS.iload Xy42.here hx rfl (hb hby at_364) rfl) ?_
      show Fin p e below s _ _ _ (Ty42.setTop (mkF m 366 #[.val (.int pf), .val (.int pv), .val (.int pl), .val (.int PO), .val (.int PS), .val (.ref by1), .val (.long PU), .second, .val (.int (2 : Int32)), .val (.int ((PO + (1 : Int32)) + (1 : Int32)))] [(.int (2 : Int32)), (.int PO), (.int (11 : Int32)), (.ref by1)]))
      refine Fin.step (fun _ => XS.lload Xy42.here hx rfl (hb hby at_366) rfl) ?_
      show Fin p e below s _ _ _ (Ty42.setTop (mkF m 368 #[.val (.int pf), .val (.int pv), .val (.int pl), .val (.int PO), .val (.int PS), .val (.ref by1), .val (.long PU), .second, .val (.int (2 : Int32)), .val (.int ((PO + (1 : Int32)) + (1 : Int32)))] [(.long PU), (.int (2 : Int32)), (.int PO), (.int (11 : Int32)), (.ref by1)]))
      refine Fin.step (fun _ => XS.iload Xy42.here hx rfl (hb hby at_368) rfl) ?_
      show Fin p e below s _ _ _ (Ty42.setTop (mkF m 370 #[.val (.int pf), .val (.int pv), .val (.int pl), .val (.int PO), .val (.int PS), .val (.ref by1), .val (.long PU), .second, .val (.int (2 : Int32)), .val (.int ((PO + (1 : Int32)) + (1 : Int32)))] [(.int PS), (.long PU), (.int (2 : Int32)), (.int PO), (.int (11 : Int32)), (.ref by1)]))
      obtain ⟨_, _, ⟨Ty43, Ly43, ky43, ny43⟩, -, Xy43, ⟨Lcy43, hQy43, ly43, yy43, zy43⟩, sty43⟩ := Jvm.LawKit.callS Xy42 hx (y := (⟨"com/example/indexterity/indexterity/index/IndexFormatPutVarIntPinLaw", "at", "([BIIIJB)Z"⟩ : MethodName)) hown (mvT hZ (hw _ (List.mem_of_getElem? (i := 7) rfl))) (mvT hZ (hw _ (List.mem_of_getElem? (i := 8) rfl))) (mvT hZ (hw _ (List.mem_of_getElem? (i := 9) rfl))) (mvT hZ (hw _ (List.mem_of_getElem? (i := 10) rfl))) (by decide) (backOf (W := 0) (rma l Z a0 hw [] by1 (11 : Int32) PO (2 : Int32) PU PS ky1 (own_put 1 Ls PO.toNatClampNeg pv) Ty31.heap n0 Zy31 fy31_0 (own_pg 1 Ls _ pv M.2) ⟨by decide, by decide⟩) hZ (hw _ (List.mem_of_getElem? (i := 10) rfl)) (hw _ (List.mem_of_getElem? (i := 9) rfl)) (by decide) (by decide)) (g := (mkF m 370 #[.val (.int pf), .val (.int pv), .val (.int pl), .val (.int PO), .val (.int PS), .val (.ref by1), .val (.long PU), .second, .val (.int (2 : Int32)), .val (.int ((PO + (1 : Int32)) + (1 : Int32)))] [(.int PS), (.long PU), (.int (2 : Int32)), (.int PO), (.int (11 : Int32)), (.ref by1)])) rfl (by rw [hml]; rfl) (argsL := [(.ref by1), (.int (11 : Int32)), (.int PO), (.int (2 : Int32)), (.long PU), (.int PS)]) (rest := []) (lenOf pd_1 rfl) rfl (by show 2 * 0 + _ ≤ _; exact Nat.le_of_eq rfl) (hb hby at_370) (fun _ _ => ⟨rfl, eqy42, (by decide : 1 + 0 ≤ _), (by decide : 13 + 0 ≤ _)⟩)
      dsimp only [Pt.U, Pt.locs, Pt.cells, Pt.slots] at Xy43 ly43 yy43 zy43 sty43 hQy43
      have yy43 : ky43 = 1 := yy43
      have zy43 : ny43 = 13 := zy43
      replace Xy43 := recast Xy43 ly43 yy43 zy43
      clear ly43 yy43 zy43
      obtain ⟨rfl, Nqy43, eqy43⟩ := hQy43
      have Ny43 := Fr.app Ny42 Nqy43
      refine Fin.step (sty43) ?_
      show Fin p e below s _ _ _ (Ty43.setTop (mkF m 373 #[.val (.int pf), .val (.int pv), .val (.int pl), .val (.int PO), .val (.int PS), .val (.ref by1), .val (.long PU), .second, .val (.int (2 : Int32)), .val (.int ((PO + (1 : Int32)) + (1 : Int32)))] [(.int (own_at (own_get (own_put 1 Ls PO.toNatClampNeg pv) (11 : Int32).toNatClampNeg) (11 : Int32) PO (2 : Int32) PU PS))]))
      refine Fin.step (fun _ => XS.ifNo Xy43.here hx rfl (hb hby at_373) rfl ((if0 _ _).trans (feq ((own_1 (own_fin 1 (by decide) (11 : Int32) (2 : Int32) PO (by decide) (by decide) hO pv PS Ls M PU hU CL)) : ¬ ((own_at (own_get (own_put 1 Ls PO.toNatClampNeg pv) (11 : Int32).toNatClampNeg) (11 : Int32) PO (2 : Int32) PU PS) = (0 : Int32)))).1)) ?_
      show Fin p e below s _ _ _ (Ty43.setTop (mkF m 376 #[.val (.int pf), .val (.int pv), .val (.int pl), .val (.int PO), .val (.int PS), .val (.ref by1), .val (.long PU), .second, .val (.int (2 : Int32)), .val (.int ((PO + (1 : Int32)) + (1 : Int32)))] []))
      refine Fin.step (fun _ => XS.aload Xy43.here hx rfl (hb hby at_376) rfl rfl) ?_
      show Fin p e below s _ _ _ (Ty43.setTop (mkF m 378 #[.val (.int pf), .val (.int pv), .val (.int pl), .val (.int PO), .val (.int PS), .val (.ref by1), .val (.long PU), .second, .val (.int (2 : Int32)), .val (.int ((PO + (1 : Int32)) + (1 : Int32)))] [(.ref by1)]))
      refine Fin.step (fun _ => XS.bipush Xy43.here hx rfl (hb hby at_378)) ?_
      show Fin p e below s _ _ _ (Ty43.setTop (mkF m 380 #[.val (.int pf), .val (.int pv), .val (.int pl), .val (.int PO), .val (.int PS), .val (.ref by1), .val (.long PU), .second, .val (.int (2 : Int32)), .val (.int ((PO + (1 : Int32)) + (1 : Int32)))] [(.int (12 : Int32)), (.ref by1)]))
      refine Fin.step (fun _ => XS.iloadN Xy43.here hx rfl (hb hby at_380) rfl) ?_
      show Fin p e below s _ _ _ (Ty43.setTop (mkF m 381 #[.val (.int pf), .val (.int pv), .val (.int pl), .val (.int PO), .val (.int PS), .val (.ref by1), .val (.long PU), .second, .val (.int (2 : Int32)), .val (.int ((PO + (1 : Int32)) + (1 : Int32)))] [(.int PO), (.int (12 : Int32)), (.ref by1)]))
      refine Fin.step (fun _ => XS.iload Xy43.here hx rfl (hb hby at_381) rfl) ?_
      show Fin p e below s _ _ _ (Ty43.setTop (mkF m 383 #[.val (.int pf), .val (.int pv), .val (.int pl), .val (.int PO), .val (.int PS), .val (.ref by1), .val (.long PU), .second, .val (.int (2 : Int32)), .val (.int ((PO + (1 : Int32)) + (1 : Int32)))] [(.int (2 : Int32)), (.int PO), (.int (12 : Int32)), (.ref by1)]))
      refine Fin.step (fun _ => XS.lload Xy43.here hx rfl (hb hby at_383) rfl) ?_
      show Fin p e below s _ _ _ (Ty43.setTop (mkF m 385 #[.val (.int pf), .val (.int pv), .val (.int pl), .val (.int PO), .val (.int PS), .val (.ref by1), .val (.long PU), .second, .val (.int (2 : Int32)), .val (.int ((PO + (1 : Int32)) + (1 : Int32)))] [(.long PU), (.int (2 : Int32)), (.int PO), (.int (12 : Int32)), (.ref by1)]))
      refine Fin.step (fun _ => XS.iload Xy43.here hx rfl (hb hby at_385) rfl) ?_
      show Fin p e below s _ _ _ (Ty43.setTop (mkF m 387 #[.val (.int pf), .val (.int pv), .val (.int pl), .val (.int PO), .val (.int PS), .val (.ref by1), .val (.long PU), .second, .val (.int (2 : Int32)), .val (.int ((PO + (1 : Int32)) + (1 : Int32)))] [(.int PS), (.long PU), (.int (2 : Int32)), (.int PO), (.int (12 : Int32)), (.ref by1)]))
      obtain ⟨_, _, ⟨Ty44, Ly44, ky44, ny44⟩, -, Xy44, ⟨Lcy44, hQy44, ly44, yy44, zy44⟩, sty44⟩ := Jvm.LawKit.callS Xy43 hx (y := (⟨"com/example/indexterity/indexterity/index/IndexFormatPutVarIntPinLaw", "at", "([BIIIJB)Z"⟩ : MethodName)) hown (mvT hZ (hw _ (List.mem_of_getElem? (i := 7) rfl))) (mvT hZ (hw _ (List.mem_of_getElem? (i := 8) rfl))) (mvT hZ (hw _ (List.mem_of_getElem? (i := 9) rfl))) (mvT hZ (hw _ (List.mem_of_getElem? (i := 10) rfl))) (by decide) (backOf (W := 0) (rma l Z a0 hw [] by1 (12 : Int32) PO (2 : Int32) PU PS ky1 (own_put 1 Ls PO.toNatClampNeg pv) Ty31.heap n0 Zy31 fy31_0 (own_pg 1 Ls _ pv M.2) ⟨by decide, by decide⟩) hZ (hw _ (List.mem_of_getElem? (i := 10) rfl)) (hw _ (List.mem_of_getElem? (i := 9) rfl)) (by decide) (by decide)) (g := (mkF m 387 #[.val (.int pf), .val (.int pv), .val (.int pl), .val (.int PO), .val (.int PS), .val (.ref by1), .val (.long PU), .second, .val (.int (2 : Int32)), .val (.int ((PO + (1 : Int32)) + (1 : Int32)))] [(.int PS), (.long PU), (.int (2 : Int32)), (.int PO), (.int (12 : Int32)), (.ref by1)])) rfl (by rw [hml]; rfl) (argsL := [(.ref by1), (.int (12 : Int32)), (.int PO), (.int (2 : Int32)), (.long PU), (.int PS)]) (rest := []) (lenOf pd_1 rfl) rfl (by show 2 * 0 + _ ≤ _; exact Nat.le_of_eq rfl) (hb hby at_387) (fun _ _ => ⟨rfl, eqy43, (by decide : 1 + 0 ≤ _), (by decide : 13 + 0 ≤ _)⟩)
      dsimp only [Pt.U, Pt.locs, Pt.cells, Pt.slots] at Xy44 ly44 yy44 zy44 sty44 hQy44
      have yy44 : ky44 = 1 := yy44
      have zy44 : ny44 = 13 := zy44
      replace Xy44 := recast Xy44 ly44 yy44 zy44
      clear ly44 yy44 zy44
      obtain ⟨rfl, Nqy44, eqy44⟩ := hQy44
      have Ny44 := Fr.app Ny43 Nqy44
      refine Fin.step (sty44) ?_
      show Fin p e below s _ _ _ (Ty44.setTop (mkF m 390 #[.val (.int pf), .val (.int pv), .val (.int pl), .val (.int PO), .val (.int PS), .val (.ref by1), .val (.long PU), .second, .val (.int (2 : Int32)), .val (.int ((PO + (1 : Int32)) + (1 : Int32)))] [(.int (own_at (own_get (own_put 1 Ls PO.toNatClampNeg pv) (12 : Int32).toNatClampNeg) (12 : Int32) PO (2 : Int32) PU PS))]))
      refine Fin.step (fun _ => XS.ifNo Xy44.here hx rfl (hb hby at_390) rfl ((if0 _ _).trans (feq ((own_1 (own_fin 1 (by decide) (12 : Int32) (2 : Int32) PO (by decide) (by decide) hO pv PS Ls M PU hU CL)) : ¬ ((own_at (own_get (own_put 1 Ls PO.toNatClampNeg pv) (12 : Int32).toNatClampNeg) (12 : Int32) PO (2 : Int32) PU PS) = (0 : Int32)))).1)) ?_
      show Fin p e below s _ _ _ (Ty44.setTop (mkF m 393 #[.val (.int pf), .val (.int pv), .val (.int pl), .val (.int PO), .val (.int PS), .val (.ref by1), .val (.long PU), .second, .val (.int (2 : Int32)), .val (.int ((PO + (1 : Int32)) + (1 : Int32)))] []))
      refine Fin.step (fun _ => XS.iconst Xy44.here hx rfl (hb hby at_393)) ?_
      show Fin p e below s _ _ _ (Ty44.setTop (mkF m 394 #[.val (.int pf), .val (.int pv), .val (.int pl), .val (.int PO), .val (.int PS), .val (.ref by1), .val (.long PU), .second, .val (.int (2 : Int32)), .val (.int ((PO + (1 : Int32)) + (1 : Int32)))] [(.int (1 : Int32))]))
      refine Fin.step (fun _ => XS.goto Xy44.here hx rfl (pc0 := 394) (pc' := 398) rfl (hb hby at_394) (by decide) (by decide)) ?_
      show Fin p e below s _ _ _ (Ty44.setTop (mkF m 398 #[.val (.int pf), .val (.int pv), .val (.int pl), .val (.int PO), .val (.int PS), .val (.ref by1), .val (.long PU), .second, .val (.int (2 : Int32)), .val (.int ((PO + (1 : Int32)) + (1 : Int32)))] [(.int (1 : Int32))]))
      refine Fin.retN Xy44 hx (t := .boolean) hret (by simp) hlk (hb hby at_398) (by decide) (by decide) ?_
      show Q0 Z pf pv pl h0 n0 _ Ty44.heap _
      rw [eqy44]
      exact ⟨rfl, Ny44, Ky31⟩
    · refine Fin.step (fun _ => XS.ifYes Xy14.here hx rfl (pc0 := 116) (pc' := 125) rfl (hb hby at_116) rfl ((if0 _ _).trans (flt ((lcNL hcy30) : ¬ ((lcmpW PU (16384 : Int64)) < (0 : Int32)))).2.1) (by decide) (by decide)) ?_
      show Fin p e below s _ _ _ (Ty14.setTop (mkF m 125 #[.val (.int pf), .val (.int pv), .val (.int pl), .val (.int PO), .val (.int PS), .val (.ref by1), .val (.long PU), .second, .unset, .unset] []))
      refine Fin.step (fun _ => XS.lload Xy14.here hx rfl (hb hby at_125) rfl) ?_
      show Fin p e below s _ _ _ (Ty14.setTop (mkF m 127 #[.val (.int pf), .val (.int pv), .val (.int pl), .val (.int PO), .val (.int PS), .val (.ref by1), .val (.long PU), .second, .unset, .unset] [(.long PU)]))
      refine Fin.step (Xy14.ldc2Long hx hown (mvT hZ (hw _ (List.mem_of_getElem? (i := 13) rfl))) (g := (mkF m 127 #[.val (.int pf), .val (.int pv), .val (.int pl), .val (.int PO), .val (.int PS), .val (.ref by1), .val (.long PU), .second, .unset, .unset] [(.long PU)])) rfl (hb hby at_127)) ?_
      show Fin p e below s _ _ _ (Ty14.setTop (mkF m 130 #[.val (.int pf), .val (.int pv), .val (.int pl), .val (.int PO), .val (.int PS), .val (.ref by1), .val (.long PU), .second, .unset, .unset] [(.long (2097152 : Int64)), (.long PU)]))
      refine Fin.step (fun _ => XS.lcmp Xy14.here hx rfl (hb hby at_130) rfl) ?_
      show Fin p e below s _ _ _ (Ty14.setTop (mkF m 131 #[.val (.int pf), .val (.int pv), .val (.int pl), .val (.int PO), .val (.int PS), .val (.ref by1), .val (.long PU), .second, .unset, .unset] [(.int (lcmpW PU (2097152 : Int64)))]))
      by_cases hcy45 : PU < (2097152 : Int64)
      · refine Fin.step (fun _ => XS.ifNo Xy14.here hx rfl (hb hby at_131) rfl ((if0 _ _).trans (tlt ((lcL hcy45) : ((lcmpW PU (2097152 : Int64)) < (0 : Int32)))).2.1)) ?_
        show Fin p e below s _ _ _ (Ty14.setTop (mkF m 134 #[.val (.int pf), .val (.int pv), .val (.int pl), .val (.int PO), .val (.int PS), .val (.ref by1), .val (.long PU), .second, .unset, .unset] []))
        refine Fin.step (fun _ => XS.iconst Xy14.here hx rfl (hb hby at_134)) ?_
        show Fin p e below s _ _ _ (Ty14.setTop (mkF m 135 #[.val (.int pf), .val (.int pv), .val (.int pl), .val (.int PO), .val (.int PS), .val (.ref by1), .val (.long PU), .second, .unset, .unset] [(.int (3 : Int32))]))
        refine Fin.step (fun _ => XS.istore Xy14.here hx rfl (hb hby at_135) rfl (l' := #[.val (.int pf), .val (.int pv), .val (.int pl), .val (.int PO), .val (.int PS), .val (.ref by1), .val (.long PU), .second, .val (.int (3 : Int32)), .unset]) rfl) ?_
        show Fin p e below s _ _ _ (Ty14.setTop (mkF m 137 #[.val (.int pf), .val (.int pv), .val (.int pl), .val (.int PO), .val (.int PS), .val (.ref by1), .val (.long PU), .second, .val (.int (3 : Int32)), .unset] []))
        refine Fin.step (fun _ => XS.goto Xy14.here hx rfl (pc0 := 137) (pc' := 158) rfl (hb hby at_137) (by decide) (by decide)) ?_
        show Fin p e below s _ _ _ (Ty14.setTop (mkF m 158 #[.val (.int pf), .val (.int pv), .val (.int pl), .val (.int PO), .val (.int PS), .val (.ref by1), .val (.long PU), .second, .val (.int (3 : Int32)), .unset] []))
        have C := own_cnd3 pv PU hU hcy15 hcy30 hcy45
        have CL : (own_sh 2 pv &&& (-128 : Int32)) = 0 := C.2.2
        have M := own_made PS hS
        obtain ⟨Ls, h_Ls⟩ : ∃ z : List Value, z = [(.int (nar .byte PS)), (.int (nar .byte PS)), (.int (nar .byte PS)), (.int (nar .byte PS)), (.int (nar .byte PS)), (.int (nar .byte PS)), (.int (nar .byte PS)), (.int (nar .byte PS)), (.int (nar .byte PS)), (.int (nar .byte PS)), (.int (nar .byte PS)), (.int (nar .byte PS)), (.int (nar .byte PS))] := ⟨_, rfl⟩
        rw [← h_Ls] at M
        have VL : Arv Z hy14 by1 ky1 .byte (13 : Int32) Ls (.int (0 : Int32)) := by rw [h_Ls]; exact Vy14
        refine Fin.step (fun _ => XS.aload Xy14.here hx rfl (hb hby at_158) rfl rfl) ?_
        show Fin p e below s _ _ _ (Ty14.setTop (mkF m 160 #[.val (.int pf), .val (.int pv), .val (.int pl), .val (.int PO), .val (.int PS), .val (.ref by1), .val (.long PU), .second, .val (.int (3 : Int32)), .unset] [(.ref by1)]))
        refine Fin.step (fun _ => XS.iloadN Xy14.here hx rfl (hb hby at_160) rfl) ?_
        show Fin p e below s _ _ _ (Ty14.setTop (mkF m 161 #[.val (.int pf), .val (.int pv), .val (.int pl), .val (.int PO), .val (.int PS), .val (.ref by1), .val (.long PU), .second, .val (.int (3 : Int32)), .unset] [(.int PO), (.ref by1)]))
        refine Fin.step (fun _ => XS.iloadN Xy14.here hx rfl (hb hby at_161) rfl) ?_
        show Fin p e below s _ _ _ (Ty14.setTop (mkF m 162 #[.val (.int pf), .val (.int pv), .val (.int pl), .val (.int PO), .val (.int PS), .val (.ref by1), .val (.long PU), .second, .val (.int (3 : Int32)), .unset] [(.int pv), (.int PO), (.ref by1)]))
        obtain ⟨_, _, ⟨Ty46, Ly46, ky46, ny46⟩, -, Xy46, ⟨Lcy46, hQy46, ly46, yy46, zy46⟩, sty46⟩ := Jvm.LawKit.callS Xy14 hx (y := (⟨"com/example/indexterity/indexterity/index/IndexFormat", "putVarInt", "([BII)I"⟩ : MethodName)) hown (mvT hZ (hw _ (List.mem_of_getElem? (i := 3) rfl))) (mvT hZ (hw _ (List.mem_of_getElem? (i := 4) rfl))) (mvT hZ (hw _ (List.mem_of_getElem? (i := 5) rfl))) (mvT hZ (hw _ (List.mem_of_getElem? (i := 6) rfl))) (by decide) (backOf (W := 0) (rmv3 l Z a0 hw [] by1 PO pv ky1 Ls hy14 n0 Zy14 VL gzy1 M.1 hO C.1 C.2.1 C.2.2) hZ (hw _ (List.mem_of_getElem? (i := 6) rfl)) (hw _ (List.mem_of_getElem? (i := 5) rfl)) (by decide) (by decide)) (g := (mkF m 162 #[.val (.int pf), .val (.int pv), .val (.int pl), .val (.int PO), .val (.int PS), .val (.ref by1), .val (.long PU), .second, .val (.int (3 : Int32)), .unset] [(.int pv), (.int PO), (.ref by1)])) rfl (by rw [hml]; rfl) (argsL := [(.ref by1), (.int PO), (.int pv)]) (rest := []) (lenOf pd_0 rfl) rfl (by show 2 * 0 + _ ≤ _; exact Nat.le_of_eq rfl) (hb hby at_162) (fun _ _ => ⟨rfl, ey14, (by decide : 1 + 0 ≤ _), (by decide : 13 + 0 ≤ _)⟩)
        dsimp only [Pt.U, Pt.locs, Pt.cells, Pt.slots] at Xy46 ly46 yy46 zy46 sty46 hQy46
        have yy46 : ky46 = 1 := yy46
        have zy46 : ny46 = 13 := zy46
        replace Xy46 := recast Xy46 ly46 yy46 zy46
        clear ly46 yy46 zy46
        obtain ⟨rfl, Nqy46, Kcy46, fy46_0⟩ := hQy46
        have Ny46 := Fr.app Ny14 Nqy46
        have Zy46 : n0 ≤ Ty46.heap.size := Nat.le_trans Zy14 Kcy46.1
        have Ky46 : Keep h0 Ty46.heap [] := Ky14.trans Kcy46 (allS (Or.inr szy1) all0)
        refine Fin.step (sty46) ?_
        show Fin p e below s _ _ _ (Ty46.setTop (mkF m 165 #[.val (.int pf), .val (.int pv), .val (.int pl), .val (.int PO), .val (.int PS), .val (.ref by1), .val (.long PU), .second, .val (.int (3 : Int32)), .unset] [(.int (((PO + (1 : Int32)) + (1 : Int32)) + (1 : Int32)))]))
        refine Fin.step (fun _ => XS.istore Xy46.here hx rfl (hb hby at_165) rfl (l' := #[.val (.int pf), .val (.int pv), .val (.int pl), .val (.int PO), .val (.int PS), .val (.ref by1), .val (.long PU), .second, .val (.int (3 : Int32)), .val (.int (((PO + (1 : Int32)) + (1 : Int32)) + (1 : Int32)))]) rfl) ?_
        show Fin p e below s _ _ _ (Ty46.setTop (mkF m 167 #[.val (.int pf), .val (.int pv), .val (.int pl), .val (.int PO), .val (.int PS), .val (.ref by1), .val (.long PU), .second, .val (.int (3 : Int32)), .val (.int (((PO + (1 : Int32)) + (1 : Int32)) + (1 : Int32)))] []))
        refine Fin.step (fun _ => XS.iload Xy46.here hx rfl (hb hby at_167) rfl) ?_
        show Fin p e below s _ _ _ (Ty46.setTop (mkF m 169 #[.val (.int pf), .val (.int pv), .val (.int pl), .val (.int PO), .val (.int PS), .val (.ref by1), .val (.long PU), .second, .val (.int (3 : Int32)), .val (.int (((PO + (1 : Int32)) + (1 : Int32)) + (1 : Int32)))] [(.int (((PO + (1 : Int32)) + (1 : Int32)) + (1 : Int32)))]))
        refine Fin.step (fun _ => XS.iloadN Xy46.here hx rfl (hb hby at_169) rfl) ?_
        show Fin p e below s _ _ _ (Ty46.setTop (mkF m 170 #[.val (.int pf), .val (.int pv), .val (.int pl), .val (.int PO), .val (.int PS), .val (.ref by1), .val (.long PU), .second, .val (.int (3 : Int32)), .val (.int (((PO + (1 : Int32)) + (1 : Int32)) + (1 : Int32)))] [(.int PO), (.int (((PO + (1 : Int32)) + (1 : Int32)) + (1 : Int32)))]))
        refine Fin.step (fun _ => XS.iload Xy46.here hx rfl (hb hby at_170) rfl) ?_
        show Fin p e below s _ _ _ (Ty46.setTop (mkF m 172 #[.val (.int pf), .val (.int pv), .val (.int pl), .val (.int PO), .val (.int PS), .val (.ref by1), .val (.long PU), .second, .val (.int (3 : Int32)), .val (.int (((PO + (1 : Int32)) + (1 : Int32)) + (1 : Int32)))] [(.int (3 : Int32)), (.int PO), (.int (((PO + (1 : Int32)) + (1 : Int32)) + (1 : Int32)))]))
        refine Fin.step (fun _ => XS.iadd Xy46.here hx rfl (hb hby at_172) rfl) ?_
        show Fin p e below s _ _ _ (Ty46.setTop (mkF m 173 #[.val (.int pf), .val (.int pv), .val (.int pl), .val (.int PO), .val (.int PS), .val (.ref by1), .val (.long PU), .second, .val (.int (3 : Int32)), .val (.int (((PO + (1 : Int32)) + (1 : Int32)) + (1 : Int32)))] [(.int (PO + (3 : Int32))), (.int (((PO + (1 : Int32)) + (1 : Int32)) + (1 : Int32)))]))
        refine Fin.step (fun _ => XS.icmpYes Xy46.here hx rfl (pc0 := 173) (pc' := 178) rfl (hb hby at_173) rfl (teq ((own_r3 PO) : ((((PO + (1 : Int32)) + (1 : Int32)) + (1 : Int32)) = (PO + (3 : Int32))))).1 (by decide) (by decide)) ?_
        show Fin p e below s _ _ _ (Ty46.setTop (mkF m 178 #[.val (.int pf), .val (.int pv), .val (.int pl), .val (.int PO), .val (.int PS), .val (.ref by1), .val (.long PU), .second, .val (.int (3 : Int32)), .val (.int (((PO + (1 : Int32)) + (1 : Int32)) + (1 : Int32)))] []))
        refine Fin.step (fun _ => XS.aload Xy46.here hx rfl (hb hby at_178) rfl rfl) ?_
        show Fin p e below s _ _ _ (Ty46.setTop (mkF m 180 #[.val (.int pf), .val (.int pv), .val (.int pl), .val (.int PO), .val (.int PS), .val (.ref by1), .val (.long PU), .second, .val (.int (3 : Int32)), .val (.int (((PO + (1 : Int32)) + (1 : Int32)) + (1 : Int32)))] [(.ref by1)]))
        refine Fin.step (fun _ => XS.iconst Xy46.here hx rfl (hb hby at_180)) ?_
        show Fin p e below s _ _ _ (Ty46.setTop (mkF m 181 #[.val (.int pf), .val (.int pv), .val (.int pl), .val (.int PO), .val (.int PS), .val (.ref by1), .val (.long PU), .second, .val (.int (3 : Int32)), .val (.int (((PO + (1 : Int32)) + (1 : Int32)) + (1 : Int32)))] [(.int (0 : Int32)), (.ref by1)]))
        refine Fin.step (fun _ => XS.iloadN Xy46.here hx rfl (hb hby at_181) rfl) ?_
        show Fin p e below s _ _ _ (Ty46.setTop (mkF m 182 #[.val (.int pf), .val (.int pv), .val (.int pl), .val (.int PO), .val (.int PS), .val (.ref by1), .val (.long PU), .second, .val (.int (3 : Int32)), .val (.int (((PO + (1 : Int32)) + (1 : Int32)) + (1 : Int32)))] [(.int PO), (.int (0 : Int32)), (.ref by1)]))
        refine Fin.step (fun _ => XS.iload Xy46.here hx rfl (hb hby at_182) rfl) ?_
        show Fin p e below s _ _ _ (Ty46.setTop (mkF m 184 #[.val (.int pf), .val (.int pv), .val (.int pl), .val (.int PO), .val (.int PS), .val (.ref by1), .val (.long PU), .second, .val (.int (3 : Int32)), .val (.int (((PO + (1 : Int32)) + (1 : Int32)) + (1 : Int32)))] [(.int (3 : Int32)), (.int PO), (.int (0 : Int32)), (.ref by1)]))
        refine Fin.step (fun _ => XS.lload Xy46.here hx rfl (hb hby at_184) rfl) ?_
        show Fin p e below s _ _ _ (Ty46.setTop (mkF m 186 #[.val (.int pf), .val (.int pv), .val (.int pl), .val (.int PO), .val (.int PS), .val (.ref by1), .val (.long PU), .second, .val (.int (3 : Int32)), .val (.int (((PO + (1 : Int32)) + (1 : Int32)) + (1 : Int32)))] [(.long PU), (.int (3 : Int32)), (.int PO), (.int (0 : Int32)), (.ref by1)]))
        refine Fin.step (fun _ => XS.iload Xy46.here hx rfl (hb hby at_186) rfl) ?_
        show Fin p e below s _ _ _ (Ty46.setTop (mkF m 188 #[.val (.int pf), .val (.int pv), .val (.int pl), .val (.int PO), .val (.int PS), .val (.ref by1), .val (.long PU), .second, .val (.int (3 : Int32)), .val (.int (((PO + (1 : Int32)) + (1 : Int32)) + (1 : Int32)))] [(.int PS), (.long PU), (.int (3 : Int32)), (.int PO), (.int (0 : Int32)), (.ref by1)]))
        obtain ⟨_, _, ⟨Ty47, Ly47, ky47, ny47⟩, -, Xy47, ⟨Lcy47, hQy47, ly47, yy47, zy47⟩, sty47⟩ := Jvm.LawKit.callS Xy46 hx (y := (⟨"com/example/indexterity/indexterity/index/IndexFormatPutVarIntPinLaw", "at", "([BIIIJB)Z"⟩ : MethodName)) hown (mvT hZ (hw _ (List.mem_of_getElem? (i := 7) rfl))) (mvT hZ (hw _ (List.mem_of_getElem? (i := 8) rfl))) (mvT hZ (hw _ (List.mem_of_getElem? (i := 9) rfl))) (mvT hZ (hw _ (List.mem_of_getElem? (i := 10) rfl))) (by decide) (backOf (W := 0) (rma l Z a0 hw [] by1 (0 : Int32) PO (3 : Int32) PU PS ky1 (own_put 2 Ls PO.toNatClampNeg pv) Ty46.heap n0 Zy46 fy46_0 (own_pg 2 Ls _ pv M.2) ⟨by decide, by decide⟩) hZ (hw _ (List.mem_of_getElem? (i := 10) rfl)) (hw _ (List.mem_of_getElem? (i := 9) rfl)) (by decide) (by decide)) (g := (mkF m 188 #[.val (.int pf), .val (.int pv), .val (.int pl), .val (.int PO), .val (.int PS), .val (.ref by1), .val (.long PU), .second, .val (.int (3 : Int32)), .val (.int (((PO + (1 : Int32)) + (1 : Int32)) + (1 : Int32)))] [(.int PS), (.long PU), (.int (3 : Int32)), (.int PO), (.int (0 : Int32)), (.ref by1)])) rfl (by rw [hml]; rfl) (argsL := [(.ref by1), (.int (0 : Int32)), (.int PO), (.int (3 : Int32)), (.long PU), (.int PS)]) (rest := []) (lenOf pd_1 rfl) rfl (by show 2 * 0 + _ ≤ _; exact Nat.le_of_eq rfl) (hb hby at_188) (fun _ _ => ⟨rfl, rfl, (by decide : 1 + 0 ≤ _), (by decide : 13 + 0 ≤ _)⟩)
        dsimp only [Pt.U, Pt.locs, Pt.cells, Pt.slots] at Xy47 ly47 yy47 zy47 sty47 hQy47
        have yy47 : ky47 = 1 := yy47
        have zy47 : ny47 = 13 := zy47
        replace Xy47 := recast Xy47 ly47 yy47 zy47
        clear ly47 yy47 zy47
        obtain ⟨rfl, Nqy47, eqy47⟩ := hQy47
        have Ny47 := Fr.app Ny46 Nqy47
        refine Fin.step (sty47) ?_
        show Fin p e below s _ _ _ (Ty47.setTop (mkF m 191 #[.val (.int pf), .val (.int pv), .val (.int pl), .val (.int PO), .val (.int PS), .val (.ref by1), .val (.long PU), .second, .val (.int (3 : Int32)), .val (.int (((PO + (1 : Int32)) + (1 : Int32)) + (1 : Int32)))] [(.int (own_at (own_get (own_put 2 Ls PO.toNatClampNeg pv) (0 : Int32).toNatClampNeg) (0 : Int32) PO (3 : Int32) PU PS))]))
        refine Fin.step (fun _ => XS.ifNo Xy47.here hx rfl (hb hby at_191) rfl ((if0 _ _).trans (feq ((own_1 (own_fin 2 (by decide) (0 : Int32) (3 : Int32) PO (by decide) (by decide) hO pv PS Ls M PU hU CL)) : ¬ ((own_at (own_get (own_put 2 Ls PO.toNatClampNeg pv) (0 : Int32).toNatClampNeg) (0 : Int32) PO (3 : Int32) PU PS) = (0 : Int32)))).1)) ?_
        show Fin p e below s _ _ _ (Ty47.setTop (mkF m 194 #[.val (.int pf), .val (.int pv), .val (.int pl), .val (.int PO), .val (.int PS), .val (.ref by1), .val (.long PU), .second, .val (.int (3 : Int32)), .val (.int (((PO + (1 : Int32)) + (1 : Int32)) + (1 : Int32)))] []))
        refine Fin.step (fun _ => XS.aload Xy47.here hx rfl (hb hby at_194) rfl rfl) ?_
        show Fin p e below s _ _ _ (Ty47.setTop (mkF m 196 #[.val (.int pf), .val (.int pv), .val (.int pl), .val (.int PO), .val (.int PS), .val (.ref by1), .val (.long PU), .second, .val (.int (3 : Int32)), .val (.int (((PO + (1 : Int32)) + (1 : Int32)) + (1 : Int32)))] [(.ref by1)]))
        refine Fin.step (fun _ => XS.iconst Xy47.here hx rfl (hb hby at_196)) ?_
        show Fin p e below s _ _ _ (Ty47.setTop (mkF m 197 #[.val (.int pf), .val (.int pv), .val (.int pl), .val (.int PO), .val (.int PS), .val (.ref by1), .val (.long PU), .second, .val (.int (3 : Int32)), .val (.int (((PO + (1 : Int32)) + (1 : Int32)) + (1 : Int32)))] [(.int (1 : Int32)), (.ref by1)]))
        refine Fin.step (fun _ => XS.iloadN Xy47.here hx rfl (hb hby at_197) rfl) ?_
        show Fin p e below s _ _ _ (Ty47.setTop (mkF m 198 #[.val (.int pf), .val (.int pv), .val (.int pl), .val (.int PO), .val (.int PS), .val (.ref by1), .val (.long PU), .second, .val (.int (3 : Int32)), .val (.int (((PO + (1 : Int32)) + (1 : Int32)) + (1 : Int32)))] [(.int PO), (.int (1 : Int32)), (.ref by1)]))
        refine Fin.step (fun _ => XS.iload Xy47.here hx rfl (hb hby at_198) rfl) ?_
        show Fin p e below s _ _ _ (Ty47.setTop (mkF m 200 #[.val (.int pf), .val (.int pv), .val (.int pl), .val (.int PO), .val (.int PS), .val (.ref by1), .val (.long PU), .second, .val (.int (3 : Int32)), .val (.int (((PO + (1 : Int32)) + (1 : Int32)) + (1 : Int32)))] [(.int (3 : Int32)), (.int PO), (.int (1 : Int32)), (.ref by1)]))
        refine Fin.step (fun _ => XS.lload Xy47.here hx rfl (hb hby at_200) rfl) ?_
        show Fin p e below s _ _ _ (Ty47.setTop (mkF m 202 #[.val (.int pf), .val (.int pv), .val (.int pl), .val (.int PO), .val (.int PS), .val (.ref by1), .val (.long PU), .second, .val (.int (3 : Int32)), .val (.int (((PO + (1 : Int32)) + (1 : Int32)) + (1 : Int32)))] [(.long PU), (.int (3 : Int32)), (.int PO), (.int (1 : Int32)), (.ref by1)]))
        refine Fin.step (fun _ => XS.iload Xy47.here hx rfl (hb hby at_202) rfl) ?_
        show Fin p e below s _ _ _ (Ty47.setTop (mkF m 204 #[.val (.int pf), .val (.int pv), .val (.int pl), .val (.int PO), .val (.int PS), .val (.ref by1), .val (.long PU), .second, .val (.int (3 : Int32)), .val (.int (((PO + (1 : Int32)) + (1 : Int32)) + (1 : Int32)))] [(.int PS), (.long PU), (.int (3 : Int32)), (.int PO), (.int (1 : Int32)), (.ref by1)]))
        obtain ⟨_, _, ⟨Ty48, Ly48, ky48, ny48⟩, -, Xy48, ⟨Lcy48, hQy48, ly48, yy48, zy48⟩, sty48⟩ := Jvm.LawKit.callS Xy47 hx (y := (⟨"com/example/indexterity/indexterity/index/IndexFormatPutVarIntPinLaw", "at", "([BIIIJB)Z"⟩ : MethodName)) hown (mvT hZ (hw _ (List.mem_of_getElem? (i := 7) rfl))) (mvT hZ (hw _ (List.mem_of_getElem? (i := 8) rfl))) (mvT hZ (hw _ (List.mem_of_getElem? (i := 9) rfl))) (mvT hZ (hw _ (List.mem_of_getElem? (i := 10) rfl))) (by decide) (backOf (W := 0) (rma l Z a0 hw [] by1 (1 : Int32) PO (3 : Int32) PU PS ky1 (own_put 2 Ls PO.toNatClampNeg pv) Ty46.heap n0 Zy46 fy46_0 (own_pg 2 Ls _ pv M.2) ⟨by decide, by decide⟩) hZ (hw _ (List.mem_of_getElem? (i := 10) rfl)) (hw _ (List.mem_of_getElem? (i := 9) rfl)) (by decide) (by decide)) (g := (mkF m 204 #[.val (.int pf), .val (.int pv), .val (.int pl), .val (.int PO), .val (.int PS), .val (.ref by1), .val (.long PU), .second, .val (.int (3 : Int32)), .val (.int (((PO + (1 : Int32)) + (1 : Int32)) + (1 : Int32)))] [(.int PS), (.long PU), (.int (3 : Int32)), (.int PO), (.int (1 : Int32)), (.ref by1)])) rfl (by rw [hml]; rfl) (argsL := [(.ref by1), (.int (1 : Int32)), (.int PO), (.int (3 : Int32)), (.long PU), (.int PS)]) (rest := []) (lenOf pd_1 rfl) rfl (by show 2 * 0 + _ ≤ _; exact Nat.le_of_eq rfl) (hb hby at_204) (fun _ _ => ⟨rfl, eqy47, (by decide : 1 + 0 ≤ _), (by decide : 13 + 0 ≤ _)⟩)
        dsimp only [Pt.U, Pt.locs, Pt.cells, Pt.slots] at Xy48 ly48 yy48 zy48 sty48 hQy48
        have yy48 : ky48 = 1 := yy48
        have zy48 : ny48 = 13 := zy48
        replace Xy48 := recast Xy48 ly48 yy48 zy48
        clear ly48 yy48 zy48
        obtain ⟨rfl, Nqy48, eqy48⟩ := hQy48
        have Ny48 := Fr.app Ny47 Nqy48
        refine Fin.step (sty48) ?_
        show Fin p e below s _ _ _ (Ty48.setTop (mkF m 207 #[.val (.int pf), .val (.int pv), .val (.int pl), .val (.int PO), .val (.int PS), .val (.ref by1), .val (.long PU), .second, .val (.int (3 : Int32)), .val (.int (((PO + (1 : Int32)) + (1 : Int32)) + (1 : Int32)))] [(.int (own_at (own_get (own_put 2 Ls PO.toNatClampNeg pv) (1 : Int32).toNatClampNeg) (1 : Int32) PO (3 : Int32) PU PS))]))
        refine Fin.step (fun _ => XS.ifNo Xy48.here hx rfl (hb hby at_207) rfl ((if0 _ _).trans (feq ((own_1 (own_fin 2 (by decide) (1 : Int32) (3 : Int32) PO (by decide) (by decide) hO pv PS Ls M PU hU CL)) : ¬ ((own_at (own_get (own_put 2 Ls PO.toNatClampNeg pv) (1 : Int32).toNatClampNeg) (1 : Int32) PO (3 : Int32) PU PS) = (0 : Int32)))).1)) ?_
        show Fin p e below s _ _ _ (Ty48.setTop (mkF m 210 #[.val (.int pf), .val (.int pv), .val (.int pl), .val (.int PO), .val (.int PS), .val (.ref by1), .val (.long PU), .second, .val (.int (3 : Int32)), .val (.int (((PO + (1 : Int32)) + (1 : Int32)) + (1 : Int32)))] []))
        refine Fin.step (fun _ => XS.aload Xy48.here hx rfl (hb hby at_210) rfl rfl) ?_
        show Fin p e below s _ _ _ (Ty48.setTop (mkF m 212 #[.val (.int pf), .val (.int pv), .val (.int pl), .val (.int PO), .val (.int PS), .val (.ref by1), .val (.long PU), .second, .val (.int (3 : Int32)), .val (.int (((PO + (1 : Int32)) + (1 : Int32)) + (1 : Int32)))] [(.ref by1)]))
        refine Fin.step (fun _ => XS.iconst Xy48.here hx rfl (hb hby at_212)) ?_
        show Fin p e below s _ _ _ (Ty48.setTop (mkF m 213 #[.val (.int pf), .val (.int pv), .val (.int pl), .val (.int PO), .val (.int PS), .val (.ref by1), .val (.long PU), .second, .val (.int (3 : Int32)), .val (.int (((PO + (1 : Int32)) + (1 : Int32)) + (1 : Int32)))] [(.int (2 : Int32)), (.ref by1)]))
        refine Fin.step (fun _ => XS.iloadN Xy48.here hx rfl (hb hby at_213) rfl) ?_
        show Fin p e below s _ _ _ (Ty48.setTop (mkF m 214 #[.val (.int pf), .val (.int pv), .val (.int pl), .val (.int PO), .val (.int PS), .val (.ref by1), .val (.long PU), .second, .val (.int (3 : Int32)), .val (.int (((PO + (1 : Int32)) + (1 : Int32)) + (1 : Int32)))] [(.int PO), (.int (2 : Int32)), (.ref by1)]))
        refine Fin.step (fun _ => XS.iload Xy48.here hx rfl (hb hby at_214) rfl) ?_
        show Fin p e below s _ _ _ (Ty48.setTop (mkF m 216 #[.val (.int pf), .val (.int pv), .val (.int pl), .val (.int PO), .val (.int PS), .val (.ref by1), .val (.long PU), .second, .val (.int (3 : Int32)), .val (.int (((PO + (1 : Int32)) + (1 : Int32)) + (1 : Int32)))] [(.int (3 : Int32)), (.int PO), (.int (2 : Int32)), (.ref by1)]))
        refine Fin.step (fun _ => XS.lload Xy48.here hx rfl (hb hby at_216) rfl) ?_
        show Fin p e below s _ _ _ (Ty48.setTop (mkF m 218 #[.val (.int pf), .val (.int pv), .val (.int pl), .val (.int PO), .val (.int PS), .val (.ref by1), .val (.long PU), .second, .val (.int (3 : Int32)), .val (.int (((PO + (1 : Int32)) + (1 : Int32)) + (1 : Int32)))] [(.long PU), (.int (3 : Int32)), (.int PO), (.int (2 : Int32)), (.ref by1)]))
        refine Fin.step (fun _ => XS.iload Xy48.here hx rfl (hb hby at_218) rfl) ?_
        show Fin p e below s _ _ _ (Ty48.setTop (mkF m 220 #[.val (.int pf), .val (.int pv), .val (.int pl), .val (.int PO), .val (.int PS), .val (.ref by1), .val (.long PU), .second, .val (.int (3 : Int32)), .val (.int (((PO + (1 : Int32)) + (1 : Int32)) + (1 : Int32)))] [(.int PS), (.long PU), (.int (3 : Int32)), (.int PO), (.int (2 : Int32)), (.ref by1)]))
        obtain ⟨_, _, ⟨Ty49, Ly49, ky49, ny49⟩, -, Xy49, ⟨Lcy49, hQy49, ly49, yy49, zy49⟩, sty49⟩ := Jvm.LawKit.callS Xy48 hx (y := (⟨"com/example/indexterity/indexterity/index/IndexFormatPutVarIntPinLaw", "at", "([BIIIJB)Z"⟩ : MethodName)) hown (mvT hZ (hw _ (List.mem_of_getElem? (i := 7) rfl))) (mvT hZ (hw _ (List.mem_of_getElem? (i := 8) rfl))) (mvT hZ (hw _ (List.mem_of_getElem? (i := 9) rfl))) (mvT hZ (hw _ (List.mem_of_getElem? (i := 10) rfl))) (by decide) (backOf (W := 0) (rma l Z a0 hw [] by1 (2 : Int32) PO (3 : Int32) PU PS ky1 (own_put 2 Ls PO.toNatClampNeg pv) Ty46.heap n0 Zy46 fy46_0 (own_pg 2 Ls _ pv M.2) ⟨by decide, by decide⟩) hZ (hw _ (List.mem_of_getElem? (i := 10) rfl)) (hw _ (List.mem_of_getElem? (i := 9) rfl)) (by decide) (by decide)) (g := (mkF m 220 #[.val (.int pf), .val (.int pv), .val (.int pl), .val (.int PO), .val (.int PS), .val (.ref by1), .val (.long PU), .second, .val (.int (3 : Int32)), .val (.int (((PO + (1 : Int32)) + (1 : Int32)) + (1 : Int32)))] [(.int PS), (.long PU), (.int (3 : Int32)), (.int PO), (.int (2 : Int32)), (.ref by1)])) rfl (by rw [hml]; rfl) (argsL := [(.ref by1), (.int (2 : Int32)), (.int PO), (.int (3 : Int32)), (.long PU), (.int PS)]) (rest := []) (lenOf pd_1 rfl) rfl (by show 2 * 0 + _ ≤ _; exact Nat.le_of_eq rfl) (hb hby at_220) (fun _ _ => ⟨rfl, eqy48, (by decide : 1 + 0 ≤ _), (by decide : 13 + 0 ≤ _)⟩)
        dsimp only [Pt.U, Pt.locs, Pt.cells, Pt.slots] at Xy49 ly49 yy49 zy49 sty49 hQy49
        have yy49 : ky49 = 1 := yy49
        have zy49 : ny49 = 13 := zy49
        replace Xy49 := recast Xy49 ly49 yy49 zy49
        clear ly49 yy49 zy49
        obtain ⟨rfl, Nqy49, eqy49⟩ := hQy49
        have Ny49 := Fr.app Ny48 Nqy49
        refine Fin.step (sty49) ?_
        show Fin p e below s _ _ _ (Ty49.setTop (mkF m 223 #[.val (.int pf), .val (.int pv), .val (.int pl), .val (.int PO), .val (.int PS), .val (.ref by1), .val (.long PU), .second, .val (.int (3 : Int32)), .val (.int (((PO + (1 : Int32)) + (1 : Int32)) + (1 : Int32)))] [(.int (own_at (own_get (own_put 2 Ls PO.toNatClampNeg pv) (2 : Int32).toNatClampNeg) (2 : Int32) PO (3 : Int32) PU PS))]))
        refine Fin.step (fun _ => XS.ifNo Xy49.here hx rfl (hb hby at_223) rfl ((if0 _ _).trans (feq ((own_1 (own_fin 2 (by decide) (2 : Int32) (3 : Int32) PO (by decide) (by decide) hO pv PS Ls M PU hU CL)) : ¬ ((own_at (own_get (own_put 2 Ls PO.toNatClampNeg pv) (2 : Int32).toNatClampNeg) (2 : Int32) PO (3 : Int32) PU PS) = (0 : Int32)))).1)) ?_
        show Fin p e below s _ _ _ (Ty49.setTop (mkF m 226 #[.val (.int pf), .val (.int pv), .val (.int pl), .val (.int PO), .val (.int PS), .val (.ref by1), .val (.long PU), .second, .val (.int (3 : Int32)), .val (.int (((PO + (1 : Int32)) + (1 : Int32)) + (1 : Int32)))] []))
        refine Fin.step (fun _ => XS.aload Xy49.here hx rfl (hb hby at_226) rfl rfl) ?_
        show Fin p e below s _ _ _ (Ty49.setTop (mkF m 228 #[.val (.int pf), .val (.int pv), .val (.int pl), .val (.int PO), .val (.int PS), .val (.ref by1), .val (.long PU), .second, .val (.int (3 : Int32)), .val (.int (((PO + (1 : Int32)) + (1 : Int32)) + (1 : Int32)))] [(.ref by1)]))
        refine Fin.step (fun _ => XS.iconst Xy49.here hx rfl (hb hby at_228)) ?_
        show Fin p e below s _ _ _ (Ty49.setTop (mkF m 229 #[.val (.int pf), .val (.int pv), .val (.int pl), .val (.int PO), .val (.int PS), .val (.ref by1), .val (.long PU), .second, .val (.int (3 : Int32)), .val (.int (((PO + (1 : Int32)) + (1 : Int32)) + (1 : Int32)))] [(.int (3 : Int32)), (.ref by1)]))
        refine Fin.step (fun _ => XS.iloadN Xy49.here hx rfl (hb hby at_229) rfl) ?_
        show Fin p e below s _ _ _ (Ty49.setTop (mkF m 230 #[.val (.int pf), .val (.int pv), .val (.int pl), .val (.int PO), .val (.int PS), .val (.ref by1), .val (.long PU), .second, .val (.int (3 : Int32)), .val (.int (((PO + (1 : Int32)) + (1 : Int32)) + (1 : Int32)))] [(.int PO), (.int (3 : Int32)), (.ref by1)]))
        refine Fin.step (fun _ => XS.iload Xy49.here hx rfl (hb hby at_230) rfl) ?_
        show Fin p e below s _ _ _ (Ty49.setTop (mkF m 232 #[.val (.int pf), .val (.int pv), .val (.int pl), .val (.int PO), .val (.int PS), .val (.ref by1), .val (.long PU), .second, .val (.int (3 : Int32)), .val (.int (((PO + (1 : Int32)) + (1 : Int32)) + (1 : Int32)))] [(.int (3 : Int32)), (.int PO), (.int (3 : Int32)), (.ref by1)]))
        refine Fin.step (fun _ => XS.lload Xy49.here hx rfl (hb hby at_232) rfl) ?_
        show Fin p e below s _ _ _ (Ty49.setTop (mkF m 234 #[.val (.int pf), .val (.int pv), .val (.int pl), .val (.int PO), .val (.int PS), .val (.ref by1), .val (.long PU), .second, .val (.int (3 : Int32)), .val (.int (((PO + (1 : Int32)) + (1 : Int32)) + (1 : Int32)))] [(.long PU), (.int (3 : Int32)), (.int PO), (.int (3 : Int32)), (.ref by1)]))
        refine Fin.step (fun _ => XS.iload Xy49.here hx rfl (hb hby at_234) rfl) ?_
        show Fin p e below s _ _ _ (Ty49.setTop (mkF m 236 #[.val (.int pf), .val (.int pv), .val (.int pl), .val (.int PO), .val (.int PS), .val (.ref by1), .val (.long PU), .second, .val (.int (3 : Int32)), .val (.int (((PO + (1 : Int32)) + (1 : Int32)) + (1 : Int32)))] [(.int PS), (.long PU), (.int (3 : Int32)), (.int PO), (.int (3 : Int32)), (.ref by1)]))
        obtain ⟨_, _, ⟨Ty50, Ly50, ky50, ny50⟩, -, Xy50, ⟨Lcy50, hQy50, ly50, yy50, zy50⟩, sty50⟩ := Jvm.LawKit.callS Xy49 hx (y := (⟨"com/example/indexterity/indexterity/index/IndexFormatPutVarIntPinLaw", "at", "([BIIIJB)Z"⟩ : MethodName)) hown (mvT hZ (hw _ (List.mem_of_getElem? (i := 7) rfl))) (mvT hZ (hw _ (List.mem_of_getElem? (i := 8) rfl))) (mvT hZ (hw _ (List.mem_of_getElem? (i := 9) rfl))) (mvT hZ (hw _ (List.mem_of_getElem? (i := 10) rfl))) (by decide) (backOf (W := 0) (rma l Z a0 hw [] by1 (3 : Int32) PO (3 : Int32) PU PS ky1 (own_put 2 Ls PO.toNatClampNeg pv) Ty46.heap n0 Zy46 fy46_0 (own_pg 2 Ls _ pv M.2) ⟨by decide, by decide⟩) hZ (hw _ (List.mem_of_getElem? (i := 10) rfl)) (hw _ (List.mem_of_getElem? (i := 9) rfl)) (by decide) (by decide)) (g := (mkF m 236 #[.val (.int pf), .val (.int pv), .val (.int pl), .val (.int PO), .val (.int PS), .val (.ref by1), .val (.long PU), .second, .val (.int (3 : Int32)), .val (.int (((PO + (1 : Int32)) + (1 : Int32)) + (1 : Int32)))] [(.int PS), (.long PU), (.int (3 : Int32)), (.int PO), (.int (3 : Int32)), (.ref by1)])) rfl (by rw [hml]; rfl) (argsL := [(.ref by1), (.int (3 : Int32)), (.int PO), (.int (3 : Int32)), (.long PU), (.int PS)]) (rest := []) (lenOf pd_1 rfl) rfl (by show 2 * 0 + _ ≤ _; exact Nat.le_of_eq rfl) (hb hby at_236) (fun _ _ => ⟨rfl, eqy49, (by decide : 1 + 0 ≤ _), (by decide : 13 + 0 ≤ _)⟩)
        dsimp only [Pt.U, Pt.locs, Pt.cells, Pt.slots] at Xy50 ly50 yy50 zy50 sty50 hQy50
        have yy50 : ky50 = 1 := yy50
        have zy50 : ny50 = 13 := zy50
        replace Xy50 := recast Xy50 ly50 yy50 zy50
        clear ly50 yy50 zy50
        obtain ⟨rfl, Nqy50, eqy50⟩ := hQy50
        have Ny50 := Fr.app Ny49 Nqy50
        refine Fin.step (sty50) ?_
        show Fin p e below s _ _ _ (Ty50.setTop (mkF m 239 #[.val (.int pf), .val (.int pv), .val (.int pl), .val (.int PO), .val (.int PS), .val (.ref by1), .val (.long PU), .second, .val (.int (3 : Int32)), .val (.int (((PO + (1 : Int32)) + (1 : Int32)) + (1 : Int32)))] [(.int (own_at (own_get (own_put 2 Ls PO.toNatClampNeg pv) (3 : Int32).toNatClampNeg) (3 : Int32) PO (3 : Int32) PU PS))]))
        refine Fin.step (fun _ => XS.ifNo Xy50.here hx rfl (hb hby at_239) rfl ((if0 _ _).trans (feq ((own_1 (own_fin 2 (by decide) (3 : Int32) (3 : Int32) PO (by decide) (by decide) hO pv PS Ls M PU hU CL)) : ¬ ((own_at (own_get (own_put 2 Ls PO.toNatClampNeg pv) (3 : Int32).toNatClampNeg) (3 : Int32) PO (3 : Int32) PU PS) = (0 : Int32)))).1)) ?_
        show Fin p e below s _ _ _ (Ty50.setTop (mkF m 242 #[.val (.int pf), .val (.int pv), .val (.int pl), .val (.int PO), .val (.int PS), .val (.ref by1), .val (.long PU), .second, .val (.int (3 : Int32)), .val (.int (((PO + (1 : Int32)) + (1 : Int32)) + (1 : Int32)))] []))
        refine Fin.step (fun _ => XS.aload Xy50.here hx rfl (hb hby at_242) rfl rfl) ?_
        show Fin p e below s _ _ _ (Ty50.setTop (mkF m 244 #[.val (.int pf), .val (.int pv), .val (.int pl), .val (.int PO), .val (.int PS), .val (.ref by1), .val (.long PU), .second, .val (.int (3 : Int32)), .val (.int (((PO + (1 : Int32)) + (1 : Int32)) + (1 : Int32)))] [(.ref by1)]))
        refine Fin.step (fun _ => XS.iconst Xy50.here hx rfl (hb hby at_244)) ?_
        show Fin p e below s _ _ _ (Ty50.setTop (mkF m 245 #[.val (.int pf), .val (.int pv), .val (.int pl), .val (.int PO), .val (.int PS), .val (.ref by1), .val (.long PU), .second, .val (.int (3 : Int32)), .val (.int (((PO + (1 : Int32)) + (1 : Int32)) + (1 : Int32)))] [(.int (4 : Int32)), (.ref by1)]))
        refine Fin.step (fun _ => XS.iloadN Xy50.here hx rfl (hb hby at_245) rfl) ?_
        show Fin p e below s _ _ _ (Ty50.setTop (mkF m 246 #[.val (.int pf), .val (.int pv), .val (.int pl), .val (.int PO), .val (.int PS), .val (.ref by1), .val (.long PU), .second, .val (.int (3 : Int32)), .val (.int (((PO + (1 : Int32)) + (1 : Int32)) + (1 : Int32)))] [(.int PO), (.int (4 : Int32)), (.ref by1)]))
        refine Fin.step (fun _ => XS.iload Xy50.here hx rfl (hb hby at_246) rfl) ?_
        show Fin p e below s _ _ _ (Ty50.setTop (mkF m 248 #[.val (.int pf), .val (.int pv), .val (.int pl), .val (.int PO), .val (.int PS), .val (.ref by1), .val (.long PU), .second, .val (.int (3 : Int32)), .val (.int (((PO + (1 : Int32)) + (1 : Int32)) + (1 : Int32)))] [(.int (3 : Int32)), (.int PO), (.int (4 : Int32)), (.ref by1)]))
        refine Fin.step (fun _ => XS.lload Xy50.here hx rfl (hb hby at_248) rfl) ?_
        show Fin p e below s _ _ _ (Ty50.setTop (mkF m 250 #[.val (.int pf), .val (.int pv), .val (.int pl), .val (.int PO), .val (.int PS), .val (.ref by1), .val (.long PU), .second, .val (.int (3 : Int32)), .val (.int (((PO + (1 : Int32)) + (1 : Int32)) + (1 : Int32)))] [(.long PU), (.int (3 : Int32)), (.int PO), (.int (4 : Int32)), (.ref by1)]))
        refine Fin.step (fun _ => XS.iload Xy50.here hx rfl (hb hby at_250) rfl) ?_
        show Fin p e below s _ _ _ (Ty50.setTop (mkF m 252 #[.val (.int pf), .val (.int pv), .val (.int pl), .val (.int PO), .val (.int PS), .val (.ref by1), .val (.long PU), .second, .val (.int (3 : Int32)), .val (.int (((PO + (1 : Int32)) + (1 : Int32)) + (1 : Int32)))] [(.int PS), (.long PU), (.int (3 : Int32)), (.int PO), (.int (4 : Int32)), (.ref by1)]))
        obtain ⟨_, _, ⟨Ty51, Ly51, ky51, ny51⟩, -, Xy51, ⟨Lcy51, hQy51, ly51, yy51, zy51⟩, sty51⟩ := Jvm.LawKit.callS Xy50 hx (y := (⟨"com/example/indexterity/indexterity/index/IndexFormatPutVarIntPinLaw", "at", "([BIIIJB)Z"⟩ : MethodName)) hown (mvT hZ (hw _ (List.mem_of_getElem? (i := 7) rfl))) (mvT hZ (hw _ (List.mem_of_getElem? (i := 8) rfl))) (mvT hZ (hw _ (List.mem_of_getElem? (i := 9) rfl))) (mvT hZ (hw _ (List.mem_of_getElem? (i := 10) rfl))) (by decide) (backOf (W := 0) (rma l Z a0 hw [] by1 (4 : Int32) PO (3 : Int32) PU PS ky1 (own_put 2 Ls PO.toNatClampNeg pv) Ty46.heap n0 Zy46 fy46_0 (own_pg 2 Ls _ pv M.2) ⟨by decide, by decide⟩) hZ (hw _ (List.mem_of_getElem? (i := 10) rfl)) (hw _ (List.mem_of_getElem? (i := 9) rfl)) (by decide) (by decide)) (g := (mkF m 252 #[.val (.int pf), .val (.int pv), .val (.int pl), .val (.int PO), .val (.int PS), .val (.ref by1), .val (.long PU), .second, .val (.int (3 : Int32)), .val (.int (((PO + (1 : Int32)) + (1 : Int32)) + (1 : Int32)))] [(.int PS), (.long PU), (.int (3 : Int32)), (.int PO), (.int (4 : Int32)), (.ref by1)])) rfl (by rw [hml]; rfl) (argsL := [(.ref by1), (.int (4 : Int32)), (.int PO), (.int (3 : Int32)), (.long PU), (.int PS)]) (rest := []) (lenOf pd_1 rfl) rfl (by show 2 * 0 + _ ≤ _; exact Nat.le_of_eq rfl) (hb hby at_252) (fun _ _ => ⟨rfl, eqy50, (by decide : 1 + 0 ≤ _), (by decide : 13 + 0 ≤ _)⟩)
        dsimp only [Pt.U, Pt.locs, Pt.cells, Pt.slots] at Xy51 ly51 yy51 zy51 sty51 hQy51
        have yy51 : ky51 = 1 := yy51
        have zy51 : ny51 = 13 := zy51
        replace Xy51 := recast Xy51 ly51 yy51 zy51
        clear ly51 yy51 zy51
        obtain ⟨rfl, Nqy51, eqy51⟩ := hQy51
        have Ny51 := Fr.app Ny50 Nqy51
        refine Fin.step (sty51) ?_
        show Fin p e below s _ _ _ (Ty51.setTop (mkF m 255 #[.val (.int pf), .val (.int pv), .val (.int pl), .val (.int PO), .val (.int PS), .val (.ref by1), .val (.long PU), .second, .val (.int (3 : Int32)), .val (.int (((PO + (1 : Int32)) + (1 : Int32)) + (1 : Int32)))] [(.int (own_at (own_get (own_put 2 Ls PO.toNatClampNeg pv) (4 : Int32).toNatClampNeg) (4 : Int32) PO (3 : Int32) PU PS))]))
        refine Fin.step (fun _ => XS.ifNo Xy51.here hx rfl (hb hby at_255) rfl ((if0 _ _).trans (feq ((own_1 (own_fin 2 (by decide) (4 : Int32) (3 : Int32) PO (by decide) (by decide) hO pv PS Ls M PU hU CL)) : ¬ ((own_at (own_get (own_put 2 Ls PO.toNatClampNeg pv) (4 : Int32).toNatClampNeg) (4 : Int32) PO (3 : Int32) PU PS) = (0 : Int32)))).1)) ?_
        show Fin p e below s _ _ _ (Ty51.setTop (mkF m 258 #[.val (.int pf), .val (.int pv), .val (.int pl), .val (.int PO), .val (.int PS), .val (.ref by1), .val (.long PU), .second, .val (.int (3 : Int32)), .val (.int (((PO + (1 : Int32)) + (1 : Int32)) + (1 : Int32)))] []))
        refine Fin.step (fun _ => XS.aload Xy51.here hx rfl (hb hby at_258) rfl rfl) ?_
        show Fin p e below s _ _ _ (Ty51.setTop (mkF m 260 #[.val (.int pf), .val (.int pv), .val (.int pl), .val (.int PO), .val (.int PS), .val (.ref by1), .val (.long PU), .second, .val (.int (3 : Int32)), .val (.int (((PO + (1 : Int32)) + (1 : Int32)) + (1 : Int32)))] [(.ref by1)]))
        refine Fin.step (fun _ => XS.iconst Xy51.here hx rfl (hb hby at_260)) ?_
        show Fin p e below s _ _ _ (Ty51.setTop (mkF m 261 #[.val (.int pf), .val (.int pv), .val (.int pl), .val (.int PO), .val (.int PS), .val (.ref by1), .val (.long PU), .second, .val (.int (3 : Int32)), .val (.int (((PO + (1 : Int32)) + (1 : Int32)) + (1 : Int32)))] [(.int (5 : Int32)), (.ref by1)]))
        refine Fin.step (fun _ => XS.iloadN Xy51.here hx rfl (hb hby at_261) rfl) ?_
        show Fin p e below s _ _ _ (Ty51.setTop (mkF m 262 #[.val (.int pf), .val (.int pv), .val (.int pl), .val (.int PO), .val (.int PS), .val (.ref by1), .val (.long PU), .second, .val (.int (3 : Int32)), .val (.int (((PO + (1 : Int32)) + (1 : Int32)) + (1 : Int32)))] [(.int PO), (.int (5 : Int32)), (.ref by1)]))
        refine Fin.step (fun _ => XS.iload Xy51.here hx rfl (hb hby at_262) rfl) ?_
        show Fin p e below s _ _ _ (Ty51.setTop (mkF m 264 #[.val (.int pf), .val (.int pv), .val (.int pl), .val (.int PO), .val (.int PS), .val (.ref by1), .val (.long PU), .second, .val (.int (3 : Int32)), .val (.int (((PO + (1 : Int32)) + (1 : Int32)) + (1 : Int32)))] [(.int (3 : Int32)), (.int PO), (.int (5 : Int32)), (.ref by1)]))
        refine Fin.step (fun _ => XS.lload Xy51.here hx rfl (hb hby at_264) rfl) ?_
        show Fin p e below s _ _ _ (Ty51.setTop (mkF m 266 #[.val (.int pf), .val (.int pv), .val (.int pl), .val (.int PO), .val (.int PS), .val (.ref by1), .val (.long PU), .second, .val (.int (3 : Int32)), .val (.int (((PO + (1 : Int32)) + (1 : Int32)) + (1 : Int32)))] [(.long PU), (.int (3 : Int32)), (.int PO), (.int (5 : Int32)), (.ref by1)]))
        refine Fin.step (fun _ => XS.iload Xy51.here hx rfl (hb hby at_266) rfl) ?_
        show Fin p e below s _ _ _ (Ty51.setTop (mkF m 268 #[.val (.int pf), .val (.int pv), .val (.int pl), .val (.int PO), .val (.int PS), .val (.ref by1), .val (.long PU), .second, .val (.int (3 : Int32)), .val (.int (((PO + (1 : Int32)) + (1 : Int32)) + (1 : Int32)))] [(.int PS), (.long PU), (.int (3 : Int32)), (.int PO), (.int (5 : Int32)), (.ref by1)]))
        obtain ⟨_, _, ⟨Ty52, Ly52, ky52, ny52⟩, -, Xy52, ⟨Lcy52, hQy52, ly52, yy52, zy52⟩, sty52⟩ := Jvm.LawKit.callS Xy51 hx (y := (⟨"com/example/indexterity/indexterity/index/IndexFormatPutVarIntPinLaw", "at", "([BIIIJB)Z"⟩ : MethodName)) hown (mvT hZ (hw _ (List.mem_of_getElem? (i := 7) rfl))) (mvT hZ (hw _ (List.mem_of_getElem? (i := 8) rfl))) (mvT hZ (hw _ (List.mem_of_getElem? (i := 9) rfl))) (mvT hZ (hw _ (List.mem_of_getElem? (i := 10) rfl))) (by decide) (backOf (W := 0) (rma l Z a0 hw [] by1 (5 : Int32) PO (3 : Int32) PU PS ky1 (own_put 2 Ls PO.toNatClampNeg pv) Ty46.heap n0 Zy46 fy46_0 (own_pg 2 Ls _ pv M.2) ⟨by decide, by decide⟩) hZ (hw _ (List.mem_of_getElem? (i := 10) rfl)) (hw _ (List.mem_of_getElem? (i := 9) rfl)) (by decide) (by decide)) (g := (mkF m 268 #[.val (.int pf), .val (.int pv), .val (.int pl), .val (.int PO), .val (.int PS), .val (.ref by1), .val (.long PU), .second, .val (.int (3 : Int32)), .val (.int (((PO + (1 : Int32)) + (1 : Int32)) + (1 : Int32)))] [(.int PS), (.long PU), (.int (3 : Int32)), (.int PO), (.int (5 : Int32)), (.ref by1)])) rfl (by rw [hml]; rfl) (argsL := [(.ref by1), (.int (5 : Int32)), (.int PO), (.int (3 : Int32)), (.long PU), (.int PS)]) (rest := []) (lenOf pd_1 rfl) rfl (by show 2 * 0 + _ ≤ _; exact Nat.le_of_eq rfl) (hb hby at_268) (fun _ _ => ⟨rfl, eqy51, (by decide : 1 + 0 ≤ _), (by decide : 13 + 0 ≤ _)⟩)
        dsimp only [Pt.U, Pt.locs, Pt.cells, Pt.slots] at Xy52 ly52 yy52 zy52 sty52 hQy52
        have yy52 : ky52 = 1 := yy52
        have zy52 : ny52 = 13 := zy52
        replace Xy52 := recast Xy52 ly52 yy52 zy52
        clear ly52 yy52 zy52
        obtain ⟨rfl, Nqy52, eqy52⟩ := hQy52
        have Ny52 := Fr.app Ny51 Nqy52
        refine Fin.step (sty52) ?_
        show Fin p e below s _ _ _ (Ty52.setTop (mkF m 271 #[.val (.int pf), .val (.int pv), .val (.int pl), .val (.int PO), .val (.int PS), .val (.ref by1), .val (.long PU), .second, .val (.int (3 : Int32)), .val (.int (((PO + (1 : Int32)) + (1 : Int32)) + (1 : Int32)))] [(.int (own_at (own_get (own_put 2 Ls PO.toNatClampNeg pv) (5 : Int32).toNatClampNeg) (5 : Int32) PO (3 : Int32) PU PS))]))
        refine Fin.step (fun _ => XS.ifNo Xy52.here hx rfl (hb hby at_271) rfl ((if0 _ _).trans (feq ((own_1 (own_fin 2 (by decide) (5 : Int32) (3 : Int32) PO (by decide) (by decide) hO pv PS Ls M PU hU CL)) : ¬ ((own_at (own_get (own_put 2 Ls PO.toNatClampNeg pv) (5 : Int32).toNatClampNeg) (5 : Int32) PO (3 : Int32) PU PS) = (0 : Int32)))).1)) ?_
        show Fin p e below s _ _ _ (Ty52.setTop (mkF m 274 #[.val (.int pf), .val (.int pv), .val (.int pl), .val (.int PO), .val (.int PS), .val (.ref by1), .val (.long PU), .second, .val (.int (3 : Int32)), .val (.int (((PO + (1 : Int32)) + (1 : Int32)) + (1 : Int32)))] []))
        refine Fin.step (fun _ => XS.aload Xy52.here hx rfl (hb hby at_274) rfl rfl) ?_
        show Fin p e below s _ _ _ (Ty52.setTop (mkF m 276 #[.val (.int pf), .val (.int pv), .val (.int pl), .val (.int PO), .val (.int PS), .val (.ref by1), .val (.long PU), .second, .val (.int (3 : Int32)), .val (.int (((PO + (1 : Int32)) + (1 : Int32)) + (1 : Int32)))] [(.ref by1)]))
        refine Fin.step (fun _ => XS.bipush Xy52.here hx rfl (hb hby at_276)) ?_
        show Fin p e below s _ _ _ (Ty52.setTop (mkF m 278 #[.val (.int pf), .val (.int pv), .val (.int pl), .val (.int PO), .val (.int PS), .val (.ref by1), .val (.long PU), .second, .val (.int (3 : Int32)), .val (.int (((PO + (1 : Int32)) + (1 : Int32)) + (1 : Int32)))] [(.int (6 : Int32)), (.ref by1)]))
        refine Fin.step (fun _ => XS.iloadN Xy52.here hx rfl (hb hby at_278) rfl) ?_
        show Fin p e below s _ _ _ (Ty52.setTop (mkF m 279 #[.val (.int pf), .val (.int pv), .val (.int pl), .val (.int PO), .val (.int PS), .val (.ref by1), .val (.long PU), .second, .val (.int (3 : Int32)), .val (.int (((PO + (1 : Int32)) + (1 : Int32)) + (1 : Int32)))] [(.int PO), (.int (6 : Int32)), (.ref by1)]))
        refine Fin.step (fun _ => XS.iload Xy52.here hx rfl (hb hby at_279) rfl) ?_
        show Fin p e below s _ _ _ (Ty52.setTop (mkF m 281 #[.val (.int pf), .val (.int pv), .val (.int pl), .val (.int PO), .val (.int PS), .val (.ref by1), .val (.long PU), .second, .val (.int (3 : Int32)), .val (.int (((PO + (1 : Int32)) + (1 : Int32)) + (1 : Int32)))] [(.int (3 : Int32)), (.int PO), (.int (6 : Int32)), (.ref by1)]))
        refine Fin.step (fun _ => XS.lload Xy52.here hx rfl (hb hby at_281) rfl) ?_
        show Fin p e below s _ _ _ (Ty52.setTop (mkF m 283 #[.val (.int pf), .val (.int pv), .val (.int pl), .val (.int PO), .val (.int PS), .val (.ref by1), .val (.long PU), .second, .val (.int (3 : Int32)), .val (.int (((PO + (1 : Int32)) + (1 : Int32)) + (1 : Int32)))] [(.long PU), (.int (3 : Int32)), (.int PO), (.int (6 : Int32)), (.ref by1)]))
        refine Fin.step (fun _ => XS.iload Xy52.here hx rfl (hb hby at_283) rfl) ?_
        show Fin p e below s _ _ _ (Ty52.setTop (mkF m 285 #[.val (.int pf), .val (.int pv), .val (.int pl), .val (.int PO), .val (.int PS), .val (.ref by1), .val (.long PU), .second, .val (.int (3 : Int32)), .val (.int (((PO + (1 : Int32)) + (1 : Int32)) + (1 : Int32)))] [(.int PS), (.long PU), (.int (3 : Int32)), (.int PO), (.int (6 : Int32)), (.ref by1)]))
        obtain ⟨_, _, ⟨Ty53, Ly53, ky53, ny53⟩, -, Xy53, ⟨Lcy53, hQy53, ly53, yy53, zy53⟩, sty53⟩ := Jvm.LawKit.callS Xy52 hx (y := (⟨"com/example/indexterity/indexterity/index/IndexFormatPutVarIntPinLaw", "at", "([BIIIJB)Z"⟩ : MethodName)) hown (mvT hZ (hw _ (List.mem_of_getElem? (i := 7) rfl))) (mvT hZ (hw _ (List.mem_of_getElem? (i := 8) rfl))) (mvT hZ (hw _ (List.mem_of_getElem? (i := 9) rfl))) (mvT hZ (hw _ (List.mem_of_getElem? (i := 10) rfl))) (by decide) (backOf (W := 0) (rma l Z a0 hw [] by1 (6 : Int32) PO (3 : Int32) PU PS ky1 (own_put 2 Ls PO.toNatClampNeg pv) Ty46.heap n0 Zy46 fy46_0 (own_pg 2 Ls _ pv M.2) ⟨by decide, by decide⟩) hZ (hw _ (List.mem_of_getElem? (i := 10) rfl)) (hw _ (List.mem_of_getElem? (i := 9) rfl)) (by decide) (by decide)) (g := (mkF m 285 #[.val (.int pf), .val (.int pv), .val (.int pl), .val (.int PO), .val (.int PS), .val (.ref by1), .val (.long PU), .second, .val (.int (3 : Int32)), .val (.int (((PO + (1 : Int32)) + (1 : Int32)) + (1 : Int32)))] [(.int PS), (.long PU), (.int (3 : Int32)), (.int PO), (.int (6 : Int32)), (.ref by1)])) rfl (by rw [hml]; rfl) (argsL := [(.ref by1), (.int (6 : Int32)), (.int PO), (.int (3 : Int32)), (.long PU), (.int PS)]) (rest := []) (lenOf pd_1 rfl) rfl (by show 2 * 0 + _ ≤ _; exact Nat.le_of_eq rfl) (hb hby at_285) (fun _ _ => ⟨rfl, eqy52, (by decide : 1 + 0 ≤ _), (by decide : 13 + 0 ≤ _)⟩)
        dsimp only [Pt.U, Pt.locs, Pt.cells, Pt.slots] at Xy53 ly53 yy53 zy53 sty53 hQy53
        have yy53 : ky53 = 1 := yy53
        have zy53 : ny53 = 13 := zy53
        replace Xy53 := recast Xy53 ly53 yy53 zy53
        clear ly53 yy53 zy53
        obtain ⟨rfl, Nqy53, eqy53⟩ := hQy53
        have Ny53 := Fr.app Ny52 Nqy53
        refine Fin.step (sty53) ?_
        show Fin p e below s _ _ _ (Ty53.setTop (mkF m 288 #[.val (.int pf), .val (.int pv), .val (.int pl), .val (.int PO), .val (.int PS), .val (.ref by1), .val (.long PU), .second, .val (.int (3 : Int32)), .val (.int (((PO + (1 : Int32)) + (1 : Int32)) + (1 : Int32)))] [(.int (own_at (own_get (own_put 2 Ls PO.toNatClampNeg pv) (6 : Int32).toNatClampNeg) (6 : Int32) PO (3 : Int32) PU PS))]))
        refine Fin.step (fun _ => XS.ifNo Xy53.here hx rfl (hb hby at_288) rfl ((if0 _ _).trans (feq ((own_1 (own_fin 2 (by decide) (6 : Int32) (3 : Int32) PO (by decide) (by decide) hO pv PS Ls M PU hU CL)) : ¬ ((own_at (own_get (own_put 2 Ls PO.toNatClampNeg pv) (6 : Int32).toNatClampNeg) (6 : Int32) PO (3 : Int32) PU PS) = (0 : Int32)))).1)) ?_
        show Fin p e below s _ _ _ (Ty53.setTop (mkF m 291 #[.val (.int pf), .val (.int pv), .val (.int pl), .val (.int PO), .val (.int PS), .val (.ref by1), .val (.long PU), .second, .val (.int (3 : Int32)), .val (.int (((PO + (1 : Int32)) + (1 : Int32)) + (1 : Int32)))] []))
        refine Fin.step (fun _ => XS.aload Xy53.here hx rfl (hb hby at_291) rfl rfl) ?_
        show Fin p e below s _ _ _ (Ty53.setTop (mkF m 293 #[.val (.int pf), .val (.int pv), .val (.int pl), .val (.int PO), .val (.int PS), .val (.ref by1), .val (.long PU), .second, .val (.int (3 : Int32)), .val (.int (((PO + (1 : Int32)) + (1 : Int32)) + (1 : Int32)))] [(.ref by1)]))
        refine Fin.step (fun _ => XS.bipush Xy53.here hx rfl (hb hby at_293)) ?_
        show Fin p e below s _ _ _ (Ty53.setTop (mkF m 295 #[.val (.int pf), .val (.int pv), .val (.int pl), .val (.int PO), .val (.int PS), .val (.ref by1), .val (.long PU), .second, .val (.int (3 : Int32)), .val (.int (((PO + (1 : Int32)) + (1 : Int32)) + (1 : Int32)))] [(.int (7 : Int32)), (.ref by1)]))
        refine Fin.step (fun _ => XS.iloadN Xy53.here hx rfl (hb hby at_295) rfl) ?_
        show Fin p e below s _ _ _ (Ty53.setTop (mkF m 296 #[.val (.int pf), .val (.int pv), .val (.int pl), .val (.int PO), .val (.int PS), .val (.ref by1), .val (.long PU), .second, .val (.int (3 : Int32)), .val (.int (((PO + (1 : Int32)) + (1 : Int32)) + (1 : Int32)))] [(.int PO), (.int (7 : Int32)), (.ref by1)]))
        refine Fin.step (fun _ => XS.iload Xy53.here hx rfl (hb hby at_296) rfl) ?_
        show Fin p e below s _ _ _ (Ty53.setTop (mkF m 298 #[.val (.int pf), .val (.int pv), .val (.int pl), .val (.int PO), .val (.int PS), .val (.ref by1), .val (.long PU), .second, .val (.int (3 : Int32)), .val (.int (((PO + (1 : Int32)) + (1 : Int32)) + (1 : Int32)))] [(.int (3 : Int32)), (.int PO), (.int (7 : Int32)), (.ref by1)]))
        refine Fin.step (fun _ => XS.lload Xy53.here hx rfl (hb hby at_298) rfl) ?_
        show Fin p e below s _ _ _ (Ty53.setTop (mkF m 300 #[.val (.int pf), .val (.int pv), .val (.int pl), .val (.int PO), .val (.int PS), .val (.ref by1), .val (.long PU), .second, .val (.int (3 : Int32)), .val (.int (((PO + (1 : Int32)) + (1 : Int32)) + (1 : Int32)))] [(.long PU), (.int (3 : Int32)), (.int PO), (.int (7 : Int32)), (.ref by1)]))
        refine Fin.step (fun _ => XS.iload Xy53.here hx rfl (hb hby at_300) rfl) ?_
        show Fin p e below s _ _ _ (Ty53.setTop (mkF m 302 #[.val (.int pf), .val (.int pv), .val (.int pl), .val (.int PO), .val (.int PS), .val (.ref by1), .val (.long PU), .second, .val (.int (3 : Int32)), .val (.int (((PO + (1 : Int32)) + (1 : Int32)) + (1 : Int32)))] [(.int PS), (.long PU), (.int (3 : Int32)), (.int PO), (.int (7 : Int32)), (.ref by1)]))
        obtain ⟨_, _, ⟨Ty54, Ly54, ky54, ny54⟩, -, Xy54, ⟨Lcy54, hQy54, ly54, yy54, zy54⟩, sty54⟩ := Jvm.LawKit.callS Xy53 hx (y := (⟨"com/example/indexterity/indexterity/index/IndexFormatPutVarIntPinLaw", "at", "([BIIIJB)Z"⟩ : MethodName)) hown (mvT hZ (hw _ (List.mem_of_getElem? (i := 7) rfl))) (mvT hZ (hw _ (List.mem_of_getElem? (i := 8) rfl))) (mvT hZ (hw _ (List.mem_of_getElem? (i := 9) rfl))) (mvT hZ (hw _ (List.mem_of_getElem? (i := 10) rfl))) (by decide) (backOf (W := 0) (rma l Z a0 hw [] by1 (7 : Int32) PO (3 : Int32) PU PS ky1 (own_put 2 Ls PO.toNatClampNeg pv) Ty46.heap n0 Zy46 fy46_0 (own_pg 2 Ls _ pv M.2) ⟨by decide, by decide⟩) hZ (hw _ (List.mem_of_getElem? (i := 10) rfl)) (hw _ (List.mem_of_getElem? (i := 9) rfl)) (by decide) (by decide)) (g := (mkF m 302 #[.val (.int pf), .val (.int pv), .val (.int pl), .val (.int PO), .val (.int PS), .val (.ref by1), .val (.long PU), .second, .val (.int (3 : Int32)), .val (.int (((PO + (1 : Int32)) + (1 : Int32)) + (1 : Int32)))] [(.int PS), (.long PU), (.int (3 : Int32)), (.int PO), (.int (7 : Int32)), (.ref by1)])) rfl (by rw [hml]; rfl) (argsL := [(.ref by1), (.int (7 : Int32)), (.int PO), (.int (3 : Int32)), (.long PU), (.int PS)]) (rest := []) (lenOf pd_1 rfl) rfl (by show 2 * 0 + _ ≤ _; exact Nat.le_of_eq rfl) (hb hby at_302) (fun _ _ => ⟨rfl, eqy53, (by decide : 1 + 0 ≤ _), (by decide : 13 + 0 ≤ _)⟩)
        dsimp only [Pt.U, Pt.locs, Pt.cells, Pt.slots] at Xy54 ly54 yy54 zy54 sty54 hQy54
        have yy54 : ky54 = 1 := yy54
        have zy54 : ny54 = 13 := zy54
        replace Xy54 := recast Xy54 ly54 yy54 zy54
        clear ly54 yy54 zy54
        obtain ⟨rfl, Nqy54, eqy54⟩ := hQy54
        have Ny54 := Fr.app Ny53 Nqy54
        refine Fin.step (sty54) ?_
        show Fin p e below s _ _ _ (Ty54.setTop (mkF m 305 #[.val (.int pf), .val (.int pv), .val (.int pl), .val (.int PO), .val (.int PS), .val (.ref by1), .val (.long PU), .second, .val (.int (3 : Int32)), .val (.int (((PO + (1 : Int32)) + (1 : Int32)) + (1 : Int32)))] [(.int (own_at (own_get (own_put 2 Ls PO.toNatClampNeg pv) (7 : Int32).toNatClampNeg) (7 : Int32) PO (3 : Int32) PU PS))]))
        refine Fin.step (fun _ => XS.ifNo Xy54.here hx rfl (hb hby at_305) rfl ((if0 _ _).trans (feq ((own_1 (own_fin 2 (by decide) (7 : Int32) (3 : Int32) PO (by decide) (by decide) hO pv PS Ls M PU hU CL)) : ¬ ((own_at (own_get (own_put 2 Ls PO.toNatClampNeg pv) (7 : Int32).toNatClampNeg) (7 : Int32) PO (3 : Int32) PU PS) = (0 : Int32)))).1)) ?_
        show Fin p e below s _ _ _ (Ty54.setTop (mkF m 308 #[.val (.int pf), .val (.int pv), .val (.int pl), .val (.int PO), .val (.int PS), .val (.ref by1), .val (.long PU), .second, .val (.int (3 : Int32)), .val (.int (((PO + (1 : Int32)) + (1 : Int32)) + (1 : Int32)))] []))
        refine Fin.step (fun _ => XS.aload Xy54.here hx rfl (hb hby at_308) rfl rfl) ?_
        show Fin p e below s _ _ _ (Ty54.setTop (mkF m 310 #[.val (.int pf), .val (.int pv), .val (.int pl), .val (.int PO), .val (.int PS), .val (.ref by1), .val (.long PU), .second, .val (.int (3 : Int32)), .val (.int (((PO + (1 : Int32)) + (1 : Int32)) + (1 : Int32)))] [(.ref by1)]))
        refine Fin.step (fun _ => XS.bipush Xy54.here hx rfl (hb hby at_310)) ?_
        show Fin p e below s _ _ _ (Ty54.setTop (mkF m 312 #[.val (.int pf), .val (.int pv), .val (.int pl), .val (.int PO), .val (.int PS), .val (.ref by1), .val (.long PU), .second, .val (.int (3 : Int32)), .val (.int (((PO + (1 : Int32)) + (1 : Int32)) + (1 : Int32)))] [(.int (8 : Int32)), (.ref by1)]))
        refine Fin.step (fun _ => XS.iloadN Xy54.here hx rfl (hb hby at_312) rfl) ?_
        show Fin p e below s _ _ _ (Ty54.setTop (mkF m 313 #[.val (.int pf), .val (.int pv), .val (.int pl), .val (.int PO), .val (.int PS), .val (.ref by1), .val (.long PU), .second, .val (.int (3 : Int32)), .val (.int (((PO + (1 : Int32)) + (1 : Int32)) + (1 : Int32)))] [(.int PO), (.int (8 : Int32)), (.ref by1)]))
        refine Fin.step (fun _ => XS.iload Xy54.here hx rfl (hb hby at_313) rfl) ?_
        show Fin p e below s _ _ _ (Ty54.setTop (mkF m 315 #[.val (.int pf), .val (.int pv), .val (.int pl), .val (.int PO), .val (.int PS), .val (.ref by1), .val (.long PU), .second, .val (.int (3 : Int32)), .val (.int (((PO + (1 : Int32)) + (1 : Int32)) + (1 : Int32)))] [(.int (3 : Int32)), (.int PO), (.int (8 : Int32)), (.ref by1)]))
        refine Fin.step (fun _ => XS.lload Xy54.here hx rfl (hb hby at_315) rfl) ?_
        show Fin p e below s _ _ _ (Ty54.setTop (mkF m 317 #[.val (.int pf), .val (.int pv), .val (.int pl), .val (.int PO), .val (.int PS), .val (.ref by1), .val (.long PU), .second, .val (.int (3 : Int32)), .val (.int (((PO + (1 : Int32)) + (1 : Int32)) + (1 : Int32)))] [(.long PU), (.int (3 : Int32)), (.int PO), (.int (8 : Int32)), (.ref by1)]))
        refine Fin.step (fun _ => XS.iload Xy54.here hx rfl (hb hby at_317) rfl) ?_
        show Fin p e below s _ _ _ (Ty54.setTop (mkF m 319 #[.val (.int pf), .val (.int pv), .val (.int pl), .val (.int PO), .val (.int PS), .val (.ref by1), .val (.long PU), .second, .val (.int (3 : Int32)), .val (.int (((PO + (1 : Int32)) + (1 : Int32)) + (1 : Int32)))] [(.int PS), (.long PU), (.int (3 : Int32)), (.int PO), (.int (8 : Int32)), (.ref by1)]))
        obtain ⟨_, _, ⟨Ty55, Ly55, ky55, ny55⟩, -, Xy55, ⟨Lcy55, hQy55, ly55, yy55, zy55⟩, sty55⟩ := Jvm.LawKit.callS Xy54 hx (y := (⟨"com/example/indexterity/indexterity/index/IndexFormatPutVarIntPinLaw", "at", "([BIIIJB)Z"⟩ : MethodName)) hown (mvT hZ (hw _ (List.mem_of_getElem? (i := 7) rfl))) (mvT hZ (hw _ (List.mem_of_getElem? (i := 8) rfl))) (mvT hZ (hw _ (List.mem_of_getElem? (i := 9) rfl))) (mvT hZ (hw _ (List.mem_of_getElem? (i := 10) rfl))) (by decide) (backOf (W := 0) (rma l Z a0 hw [] by1 (8 : Int32) PO (3 : Int32) PU PS ky1 (own_put 2 Ls PO.toNatClampNeg pv) Ty46.heap n0 Zy46 fy46_0 (own_pg 2 Ls _ pv M.2) ⟨by decide, by decide⟩) hZ (hw _ (List.mem_of_getElem? (i := 10) rfl)) (hw _ (List.mem_of_getElem? (i := 9) rfl)) (by decide) (by decide)) (g := (mkF m 319 #[.val (.int pf), .val (.int pv), .val (.int pl), .val (.int PO), .val (.int PS), .val (.ref by1), .val (.long PU), .second, .val (.int (3 : Int32)), .val (.int (((PO + (1 : Int32)) + (1 : Int32)) + (1 : Int32)))] [(.int PS), (.long PU), (.int (3 : Int32)), (.int PO), (.int (8 : Int32)), (.ref by1)])) rfl (by rw [hml]; rfl) (argsL := [(.ref by1), (.int (8 : Int32)), (.int PO), (.int (3 : Int32)), (.long PU), (.int PS)]) (rest := []) (lenOf pd_1 rfl) rfl (by show 2 * 0 + _ ≤ _; exact Nat.le_of_eq rfl) (hb hby at_319) (fun _ _ => ⟨rfl, eqy54, (by decide : 1 + 0 ≤ _), (by decide : 13 + 0 ≤ _)⟩)
        dsimp only [Pt.U, Pt.locs, Pt.cells, Pt.slots] at Xy55 ly55 yy55 zy55 sty55 hQy55
        have yy55 : ky55 = 1 := yy55
        have zy55 : ny55 = 13 := zy55
        replace Xy55 := recast Xy55 ly55 yy55 zy55
        clear ly55 yy55 zy55
        obtain ⟨rfl, Nqy55, eqy55⟩ := hQy55
        have Ny55 := Fr.app Ny54 Nqy55
        refine Fin.step (sty55) ?_
        show Fin p e below s _ _ _ (Ty55.setTop (mkF m 322 #[.val (.int pf), .val (.int pv), .val (.int pl), .val (.int PO), .val (.int PS), .val (.ref by1), .val (.long PU), .second, .val (.int (3 : Int32)), .val (.int (((PO + (1 : Int32)) + (1 : Int32)) + (1 : Int32)))] [(.int (own_at (own_get (own_put 2 Ls PO.toNatClampNeg pv) (8 : Int32).toNatClampNeg) (8 : Int32) PO (3 : Int32) PU PS))]))
        refine Fin.step (fun _ => XS.ifNo Xy55.here hx rfl (hb hby at_322) rfl ((if0 _ _).trans (feq ((own_1 (own_fin 2 (by decide) (8 : Int32) (3 : Int32) PO (by decide) (by decide) hO pv PS Ls M PU hU CL)) : ¬ ((own_at (own_get (own_put 2 Ls PO.toNatClampNeg pv) (8 : Int32).toNatClampNeg) (8 : Int32) PO (3 : Int32) PU PS) = (0 : Int32)))).1)) ?_
        show Fin p e below s _ _ _ (Ty55.setTop (mkF m 325 #[.val (.int pf), .val (.int pv), .val (.int pl), .val (.int PO), .val (.int PS), .val (.ref by1), .val (.long PU), .second, .val (.int (3 : Int32)), .val (.int (((PO + (1 : Int32)) + (1 : Int32)) + (1 : Int32)))] []))
        refine Fin.step (fun _ => XS.aload Xy55.here hx rfl (hb hby at_325) rfl rfl) ?_
        show Fin p e below s _ _ _ (Ty55.setTop (mkF m 327 #[.val (.int pf), .val (.int pv), .val (.int pl), .val (.int PO), .val (.int PS), .val (.ref by1), .val (.long PU), .second, .val (.int (3 : Int32)), .val (.int (((PO + (1 : Int32)) + (1 : Int32)) + (1 : Int32)))] [(.ref by1)]))
        refine Fin.step (fun _ => XS.bipush Xy55.here hx rfl (hb hby at_327)) ?_
        show Fin p e below s _ _ _ (Ty55.setTop (mkF m 329 #[.val (.int pf), .val (.int pv), .val (.int pl), .val (.int PO), .val (.int PS), .val (.ref by1), .val (.long PU), .second, .val (.int (3 : Int32)), .val (.int (((PO + (1 : Int32)) + (1 : Int32)) + (1 : Int32)))] [(.int (9 : Int32)), (.ref by1)]))
        refine Fin.step (fun _ => XS.iloadN Xy55.here hx rfl (hb hby at_329) rfl) ?_
        show Fin p e below s _ _ _ (Ty55.setTop (mkF m 330 #[.val (.int pf), .val (.int pv), .val (.int pl), .val (.int PO), .val (.int PS), .val (.ref by1), .val (.long PU), .second, .val (.int (3 : Int32)), .val (.int (((PO + (1 : Int32)) + (1 : Int32)) + (1 : Int32)))] [(.int PO), (.int (9 : Int32)), (.ref by1)]))
        refine Fin.step (fun _ => XS.iload Xy55.here hx rfl (hb hby at_330) rfl) ?_
        show Fin p e below s _ _ _ (Ty55.setTop (mkF m 332 #[.val (.int pf), .val (.int pv), .val (.int pl), .val (.int PO), .val (.int PS), .val (.ref by1), .val (.long PU), .second, .val (.int (3 : Int32)), .val (.int (((PO + (1 : Int32)) + (1 : Int32)) + (1 : Int32)))] [(.int (3 : Int32)), (.int PO), (.int (9 : Int32)), (.ref by1)]))
        refine Fin.step (fun _ => XS.lload Xy55.here hx rfl (hb hby at_332) rfl) ?_
        show Fin p e below s _ _ _ (Ty55.setTop (mkF m 334 #[.val (.int pf), .val (.int pv), .val (.int pl), .val (.int PO), .val (.int PS), .val (.ref by1), .val (.long PU), .second, .val (.int (3 : Int32)), .val (.int (((PO + (1 : Int32)) + (1 : Int32)) + (1 : Int32)))] [(.long PU), (.int (3 : Int32)), (.int PO), (.int (9 : Int32)), (.ref by1)]))
        refine Fin.step (fun _ => XS.iload Xy55.here hx rfl (hb hby at_334) rfl) ?_
        show Fin p e below s _ _ _ (Ty55.setTop (mkF m 336 #[.val (.int pf), .val (.int pv), .val (.int pl), .val (.int PO), .val (.int PS), .val (.ref by1), .val (.long PU), .second, .val (.int (3 : Int32)), .val (.int (((PO + (1 : Int32)) + (1 : Int32)) + (1 : Int32)))] [(.int PS), (.long PU), (.int (3 : Int32)), (.int PO), (.int (9 : Int32)), (.ref by1)]))
        obtain ⟨_, _, ⟨Ty56, Ly56, ky56, ny56⟩, -, Xy56, ⟨Lcy56, hQy56, ly56, yy56, zy56⟩, sty56⟩ := Jvm.LawKit.callS Xy55 hx (y := (⟨"com/example/indexterity/indexterity/index/IndexFormatPutVarIntPinLaw", "at", "([BIIIJB)Z"⟩ : MethodName)) hown (mvT hZ (hw _ (List.mem_of_getElem? (i := 7) rfl))) (mvT hZ (hw _ (List.mem_of_getElem? (i := 8) rfl))) (mvT hZ (hw _ (List.mem_of_getElem? (i := 9) rfl))) (mvT hZ (hw _ (List.mem_of_getElem? (i := 10) rfl))) (by decide) (backOf (W := 0) (rma l Z a0 hw [] by1 (9 : Int32) PO (3 : Int32) PU PS ky1 (own_put 2 Ls PO.toNatClampNeg pv) Ty46.heap n0 Zy46 fy46_0 (own_pg 2 Ls _ pv M.2) ⟨by decide, by decide⟩) hZ (hw _ (List.mem_of_getElem? (i := 10) rfl)) (hw _ (List.mem_of_getElem? (i := 9) rfl)) (by decide) (by decide)) (g := (mkF m 336 #[.val (.int pf), .val (.int pv), .val (.int pl), .val (.int PO), .val (.int PS), .val (.ref by1), .val (.long PU), .second, .val (.int (3 : Int32)), .val (.int (((PO + (1 : Int32)) + (1 : Int32)) + (1 : Int32)))] [(.int PS), (.long PU), (.int (3 : Int32)), (.int PO), (.int (9 : Int32)), (.ref by1)])) rfl (by rw [hml]; rfl) (argsL := [(.ref by1), (.int (9 : Int32)), (.int PO), (.int (3 : Int32)), (.long PU), (.int PS)]) (rest := []) (lenOf pd_1 rfl) rfl (by show 2 * 0 + _ ≤ _; exact Nat.le_of_eq rfl) (hb hby at_336) (fun _ _ => ⟨rfl, eqy55, (by decide : 1 + 0 ≤ _), (by decide : 13 + 0 ≤ _)⟩)
        dsimp only [Pt.U, Pt.locs, Pt.cells, Pt.slots] at Xy56 ly56 yy56 zy56 sty56 hQy56
        have yy56 : ky56 = 1 := yy56
        have zy56 : ny56 = 13 := zy56
        replace Xy56 := recast Xy56 ly56 yy56 zy56
        clear ly56 yy56 zy56
        obtain ⟨rfl, Nqy56, eqy56⟩ := hQy56
        have Ny56 := Fr.app Ny55 Nqy56
        refine Fin.step (sty56) ?_
        show Fin p e below s _ _ _ (Ty56.setTop (mkF m 339 #[.val (.int pf), .val (.int pv), .val (.int pl), .val (.int PO), .val (.int PS), .val (.ref by1), .val (.long PU), .second, .val (.int (3 : Int32)), .val (.int (((PO + (1 : Int32)) + (1 : Int32)) + (1 : Int32)))] [(.int (own_at (own_get (own_put 2 Ls PO.toNatClampNeg pv) (9 : Int32).toNatClampNeg) (9 : Int32) PO (3 : Int32) PU PS))]))
        refine Fin.step (fun _ => XS.ifNo Xy56.here hx rfl (hb hby at_339) rfl ((if0 _ _).trans (feq ((own_1 (own_fin 2 (by decide) (9 : Int32) (3 : Int32) PO (by decide) (by decide) hO pv PS Ls M PU hU CL)) : ¬ ((own_at (own_get (own_put 2 Ls PO.toNatClampNeg pv) (9 : Int32).toNatClampNeg) (9 : Int32) PO (3 : Int32) PU PS) = (0 : Int32)))).1)) ?_
        show Fin p e below s _ _ _ (Ty56.setTop (mkF m 342 #[.val (.int pf), .val (.int pv), .val (.int pl), .val (.int PO), .val (.int PS), .val (.ref by1), .val (.long PU), .second, .val (.int (3 : Int32)), .val (.int (((PO + (1 : Int32)) + (1 : Int32)) + (1 : Int32)))] []))
        refine Fin.step (fun _ => XS.aload Xy56.here hx rfl (hb hby at_342) rfl rfl) ?_
        show Fin p e below s _ _ _ (Ty56.setTop (mkF m 344 #[.val (.int pf), .val (.int pv), .val (.int pl), .val (.int PO), .val (.int PS), .val (.ref by1), .val (.long PU), .second, .val (.int (3 : Int32)), .val (.int (((PO + (1 : Int32)) + (1 : Int32)) + (1 : Int32)))] [(.ref by1)]))
        refine Fin.step (fun _ => XS.bipush Xy56.here hx rfl (hb hby at_344)) ?_
        show Fin p e below s _ _ _ (Ty56.setTop (mkF m 346 #[.val (.int pf), .val (.int pv), .val (.int pl), .val (.int PO), .val (.int PS), .val (.ref by1), .val (.long PU), .second, .val (.int (3 : Int32)), .val (.int (((PO + (1 : Int32)) + (1 : Int32)) + (1 : Int32)))] [(.int (10 : Int32)), (.ref by1)]))
        refine Fin.step (fun _ => XS.iloadN Xy56.here hx rfl (hb hby at_346) rfl) ?_
        show Fin p e below s _ _ _ (Ty56.setTop (mkF m 347 #[.val (.int pf), .val (.int pv), .val (.int pl), .val (.int PO), .val (.int PS), .val (.ref by1), .val (.long PU), .second, .val (.int (3 : Int32)), .val (.int (((PO + (1 : Int32)) + (1 : Int32)) + (1 : Int32)))] [(.int PO), (.int (10 : Int32)), (.ref by1)]))
        refine Fin.step (fun _ => XS.iload Xy56.here hx rfl (hb hby at_347) rfl) ?_
        show Fin p e below s _ _ _ (Ty56.setTop (mkF m 349 #[.val (.int pf), .val (.int pv), .val (.int pl), .val (.int PO), .val (.int PS), .val (.ref by1), .val (.long PU), .second, .val (.int (3 : Int32)), .val (.int (((PO + (1 : Int32)) + (1 : Int32)) + (1 : Int32)))] [(.int (3 : Int32)), (.int PO), (.int (10 : Int32)), (.ref by1)]))
        refine Fin.step (fun _ => XS.lload Xy56.here hx rfl (hb hby at_349) rfl) ?_
        show Fin p e below s _ _ _ (Ty56.setTop (mkF m 351 #[.val (.int pf), .val (.int pv), .val (.int pl), .val (.int PO), .val (.int PS), .val (.ref by1), .val (.long PU), .second, .val (.int (3 : Int32)), .val (.int (((PO + (1 : Int32)) + (1 : Int32)) + (1 : Int32)))] [(.long PU), (.int (3 : Int32)), (.int PO), (.int (10 : Int32)), (.ref by1)]))
        refine Fin.step (fun _ => XS.iload Xy56.here hx rfl (hb hby at_351) rfl) ?_
        show Fin p e below s _ _ _ (Ty56.setTop (mkF m 353 #[.val (.int pf), .val (.int pv), .val (.int pl), .val (.int PO), .val (.int PS), .val (.ref by1), .val (.long PU), .second, .val (.int (3 : Int32)), .val (.int (((PO + (1 : Int32)) + (1 : Int32)) + (1 : Int32)))] [(.int PS), (.long PU), (.int (3 : Int32)), (.int PO), (.int (10 : Int32)), (.ref by1)]))
        obtain ⟨_, _, ⟨Ty57, Ly57, ky57, ny57⟩, -, Xy57, ⟨Lcy57, hQy57, ly57, yy57, zy57⟩, sty57⟩ := Jvm.LawKit.callS Xy56 hx (y := (⟨"com/example/indexterity/indexterity/index/IndexFormatPutVarIntPinLaw", "at", "([BIIIJB)Z"⟩ : MethodName)) hown (mvT hZ (hw _ (List.mem_of_getElem? (i := 7) rfl))) (mvT hZ (hw _ (List.mem_of_getElem? (i := 8) rfl))) (mvT hZ (hw _ (List.mem_of_getElem? (i := 9) rfl))) (mvT hZ (hw _ (List.mem_of_getElem? (i := 10) rfl))) (by decide) (backOf (W := 0) (rma l Z a0 hw [] by1 (10 : Int32) PO (3 : Int32) PU PS ky1 (own_put 2 Ls PO.toNatClampNeg pv) Ty46.heap n0 Zy46 fy46_0 (own_pg 2 Ls _ pv M.2) ⟨by decide, by decide⟩) hZ (hw _ (List.mem_of_getElem? (i := 10) rfl)) (hw _ (List.mem_of_getElem? (i := 9) rfl)) (by decide) (by decide)) (g := (mkF m 353 #[.val (.int pf), .val (.int pv), .val (.int pl), .val (.int PO), .val (.int PS), .val (.ref by1), .val (.long PU), .second, .val (.int (3 : Int32)), .val (.int (((PO + (1 : Int32)) + (1 : Int32)) + (1 : Int32)))] [(.int PS), (.long PU), (.int (3 : Int32)), (.int PO), (.int (10 : Int32)), (.ref by1)])) rfl (by rw [hml]; rfl) (argsL := [(.ref by1), (.int (10 : Int32)), (.int PO), (.int (3 : Int32)), (.long PU), (.int PS)]) (rest := []) (lenOf pd_1 rfl) rfl (by show 2 * 0 + _ ≤ _; exact Nat.le_of_eq rfl) (hb hby at_353) (fun _ _ => ⟨rfl, eqy56, (by decide : 1 + 0 ≤ _), (by decide : 13 + 0 ≤ _)⟩)
        dsimp only [Pt.U, Pt.locs, Pt.cells, Pt.slots] at Xy57 ly57 yy57 zy57 sty57 hQy57
        have yy57 : ky57 = 1 := yy57
        have zy57 : ny57 = 13 := zy57
        replace Xy57 := recast Xy57 ly57 yy57 zy57
        clear ly57 yy57 zy57
        obtain ⟨rfl, Nqy57, eqy57⟩ := hQy57
        have Ny57 := Fr.app Ny56 Nqy57
        refine Fin.step (sty57) ?_
        show Fin p e below s _ _ _ (Ty57.setTop (mkF m 356 #[.val (.int pf), .val (.int pv), .val (.int pl), .val (.int PO), .val (.int PS), .val (.ref by1), .val (.long PU), .second, .val (.int (3 : Int32)), .val (.int (((PO + (1 : Int32)) + (1 : Int32)) + (1 : Int32)))] [(.int (own_at (own_get (own_put 2 Ls PO.toNatClampNeg pv) (10 : Int32).toNatClampNeg) (10 : Int32) PO (3 : Int32) PU PS))]))
        refine Fin.step (fun _ => XS.ifNo Xy57.here hx rfl (hb hby at_356) rfl ((if0 _ _).trans (feq ((own_1 (own_fin 2 (by decide) (10 : Int32) (3 : Int32) PO (by decide) (by decide) hO pv PS Ls M PU hU CL)) : ¬ ((own_at (own_get (own_put 2 Ls PO.toNatClampNeg pv) (10 : Int32).toNatClampNeg) (10 : Int32) PO (3 : Int32) PU PS) = (0 : Int32)))).1)) ?_
        show Fin p e below s _ _ _ (Ty57.setTop (mkF m 359 #[.val (.int pf), .val (.int pv), .val (.int pl), .val (.int PO), .val (.int PS), .val (.ref by1), .val (.long PU), .second, .val (.int (3 : Int32)), .val (.int (((PO + (1 : Int32)) + (1 : Int32)) + (1 : Int32)))] []))
        refine Fin.step (fun _ => XS.aload Xy57.here hx rfl (hb hby at_359) rfl rfl) ?_
        show Fin p e below s _ _ _ (Ty57.setTop (mkF m 361 #[.val (.int pf), .val (.int pv), .val (.int pl), .val (.int PO), .val (.int PS), .val (.ref by1), .val (.long PU), .second, .val (.int (3 : Int32)), .val (.int (((PO + (1 : Int32)) + (1 : Int32)) + (1 : Int32)))] [(.ref by1)]))
        refine Fin.step (fun _ => XS.bipush Xy57.here hx rfl (hb hby at_361)) ?_
        show Fin p e below s _ _ _ (Ty57.setTop (mkF m 363 #[.val (.int pf), .val (.int pv), .val (.int pl), .val (.int PO), .val (.int PS), .val (.ref by1), .val (.long PU), .second, .val (.int (3 : Int32)), .val (.int (((PO + (1 : Int32)) + (1 : Int32)) + (1 : Int32)))] [(.int (11 : Int32)), (.ref by1)]))
        refine Fin.step (fun _ => XS.iloadN Xy57.here hx rfl (hb hby at_363) rfl) ?_
        show Fin p e below s _ _ _ (Ty57.setTop (mkF m 364 #[.val (.int pf), .val (.int pv), .val (.int pl), .val (.int PO), .val (.int PS), .val (.ref by1), .val (.long PU), .second, .val (.int (3 : Int32)), .val (.int (((PO + (1 : Int32)) + (1 : Int32)) + (1 : Int32)))] [(.int PO), (.int (11 : Int32)), (.ref by1)]))
        refine Fin.step (fun _ => XS.iload Xy57.here hx rfl (hb hby at_364) rfl) ?_
        show Fin p e below s _ _ _ (Ty57.setTop (mkF m 366 #[.val (.int pf), .val (.int pv), .val (.int pl), .val (.int PO), .val (.int PS), .val (.ref by1), .val (.long PU), .second, .val (.int (3 : Int32)), .val (.int (((PO + (1 : Int32)) + (1 : Int32)) + (1 : Int32)))] [(.int (3 : Int32)), (.int PO), (.int (11 : Int32)), (.ref by1)]))
        refine Fin.step (fun _ => XS.lload Xy57.here hx rfl (hb hby at_366) rfl) ?_
        show Fin p e below s _ _ _ (Ty57.setTop (mkF m 368 #[.val (.int pf), .val (.int pv), .val (.int pl), .val (.int PO), .val (.int PS), .val (.ref by1), .val (.long PU), .second, .val (.int (3 : Int32)), .val (.int (((PO + (1 : Int32)) + (1 : Int32)) + (1 : Int32)))] [(.long PU), (.int (3 : Int32)), (.int PO), (.int (11 : Int32)), (.ref by1)]))
        refine Fin.step (fun _ => XS.iload Xy57.here hx rfl (hb hby at_368) rfl) ?_
        show Fin p e below s _ _ _ (Ty57.setTop (mkF m 370 #[.val (.int pf), .val (.int pv), .val (.int pl), .val (.int PO), .val (.int PS), .val (.ref by1), .val (.long PU), .second, .val (.int (3 : Int32)), .val (.int (((PO + (1 : Int32)) + (1 : Int32)) + (1 : Int32)))] [(.int PS), (.long PU), (.int (3 : Int32)), (.int PO), (.int (11 : Int32)), (.ref by1)]))
        obtain ⟨_, _, ⟨Ty58, Ly58, ky58, ny58⟩, -, Xy58, ⟨Lcy58, hQy58, ly58, yy58, zy58⟩, sty58⟩ := Jvm.LawKit.callS Xy57 hx (y := (⟨"com/example/indexterity/indexterity/index/IndexFormatPutVarIntPinLaw", "at", "([BIIIJB)Z"⟩ : MethodName)) hown (mvT hZ (hw _ (List.mem_of_getElem? (i := 7) rfl))) (mvT hZ (hw _ (List.mem_of_getElem? (i := 8) rfl))) (mvT hZ (hw _ (List.mem_of_getElem? (i := 9) rfl))) (mvT hZ (hw _ (List.mem_of_getElem? (i := 10) rfl))) (by decide) (backOf (W := 0) (rma l Z a0 hw [] by1 (11 : Int32) PO (3 : Int32) PU PS ky1 (own_put 2 Ls PO.toNatClampNeg pv) Ty46.heap n0 Zy46 fy46_0 (own_pg 2 Ls _ pv M.2) ⟨by decide, by decide⟩) hZ (hw _ (List.mem_of_getElem? (i := 10) rfl)) (hw _ (List.mem_of_getElem? (i := 9) rfl)) (by decide) (by decide)) (g := (mkF m 370 #[.val (.int pf), .val (.int pv), .val (.int pl), .val (.int PO), .val (.int PS), .val (.ref by1), .val (.long PU), .second, .val (.int (3 : Int32)), .val (.int (((PO + (1 : Int32)) + (1 : Int32)) + (1 : Int32)))] [(.int PS), (.long PU), (.int (3 : Int32)), (.int PO), (.int (11 : Int32)), (.ref by1)])) rfl (by rw [hml]; rfl) (argsL := [(.ref by1), (.int (11 : Int32)), (.int PO), (.int (3 : Int32)), (.long PU), (.int PS)]) (rest := []) (lenOf pd_1 rfl) rfl (by show 2 * 0 + _ ≤ _; exact Nat.le_of_eq rfl) (hb hby at_370) (fun _ _ => ⟨rfl, eqy57, (by decide : 1 + 0 ≤ _), (by decide : 13 + 0 ≤ _)⟩)
        dsimp only [Pt.U, Pt.locs, Pt.cells, Pt.slots] at Xy58 ly58 yy58 zy58 sty58 hQy58
        have yy58 : ky58 = 1 := yy58
        have zy58 : ny58 = 13 := zy58
        replace Xy58 := recast Xy58 ly58 yy58 zy58
        clear ly58 yy58 zy58
        obtain ⟨rfl, Nqy58, eqy58⟩ := hQy58
        have Ny58 := Fr.app Ny57 Nqy58
        refine Fin.step (sty58) ?_
        show Fin p e below s _ _ _ (Ty58.setTop (mkF m 373 #[.val (.int pf), .val (.int pv), .val (.int pl), .val (.int PO), .val (.int PS), .val (.ref by1), .val (.long PU), .second, .val (.int (3 : Int32)), .val (.int (((PO + (1 : Int32)) + (1 : Int32)) + (1 : Int32)))] [(.int (own_at (own_get (own_put 2 Ls PO.toNatClampNeg pv) (11 : Int32).toNatClampNeg) (11 : Int32) PO (3 : Int32) PU PS))]))
        refine Fin.step (fun _ => XS.ifNo Xy58.here hx rfl (hb hby at_373) rfl ((if0 _ _).trans (feq ((own_1 (own_fin 2 (by decide) (11 : Int32) (3 : Int32) PO (by decide) (by decide) hO pv PS Ls M PU hU CL)) : ¬ ((own_at (own_get (own_put 2 Ls PO.toNatClampNeg pv) (11 : Int32).toNatClampNeg) (11 : Int32) PO (3 : Int32) PU PS) = (0 : Int32)))).1)) ?_
        show Fin p e below s _ _ _ (Ty58.setTop (mkF m 376 #[.val (.int pf), .val (.int pv), .val (.int pl), .val (.int PO), .val (.int PS), .val (.ref by1), .val (.long PU), .second, .val (.int (3 : Int32)), .val (.int (((PO + (1 : Int32)) + (1 : Int32)) + (1 : Int32)))] []))
        refine Fin.step (fun _ => XS.aload Xy58.here hx rfl (hb hby at_376) rfl rfl) ?_
        show Fin p e below s _ _ _ (Ty58.setTop (mkF m 378 #[.val (.int pf), .val (.int pv), .val (.int pl), .val (.int PO), .val (.int PS), .val (.ref by1), .val (.long PU), .second, .val (.int (3 : Int32)), .val (.int (((PO + (1 : Int32)) + (1 : Int32)) + (1 : Int32)))] [(.ref by1)]))
        refine Fin.step (fun _ => XS.bipush Xy58.here hx rfl (hb hby at_378)) ?_
        show Fin p e below s _ _ _ (Ty58.setTop (mkF m 380 #[.val (.int pf), .val (.int pv), .val (.int pl), .val (.int PO), .val (.int PS), .val (.ref by1), .val (.long PU), .second, .val (.int (3 : Int32)), .val (.int (((PO + (1 : Int32)) + (1 : Int32)) + (1 : Int32)))] [(.int (12 : Int32)), (.ref by1)]))
        refine Fin.step (fun _ => XS.iloadN Xy58.here hx rfl (hb hby at_380) rfl) ?_
        show Fin p e below s _ _ _ (Ty58.setTop (mkF m 381 #[.val (.int pf), .val (.int pv), .val (.int pl), .val (.int PO), .val (.int PS), .val (.ref by1), .val (.long PU), .second, .val (.int (3 : Int32)), .val (.int (((PO + (1 : Int32)) + (1 : Int32)) + (1 : Int32)))] [(.int PO), (.int (12 : Int32)), (.ref by1)]))
        refine Fin.step (fun _ => XS.iload Xy58.here hx rfl (hb hby at_381) rfl) ?_
        show Fin p e below s _ _ _ (Ty58.setTop (mkF m 383 #[.val (.int pf), .val (.int pv), .val (.int pl), .val (.int PO), .val (.int PS), .val (.ref by1), .val (.long PU), .second, .val (.int (3 : Int32)), .val (.int (((PO + (1 : Int32)) + (1 : Int32)) + (1 : Int32)))] [(.int (3 : Int32)), (.int PO), (.int (12 : Int32)), (.ref by1)]))
        refine Fin.step (fun _ => XS.lload Xy58.here hx rfl (hb hby at_383) rfl) ?_
        show Fin p e below s _ _ _ (Ty58.setTop (mkF m 385 #[.val (.int pf), .val (.int pv), .val (.int pl), .val (.int PO), .val (.int PS), .val (.ref by1), .val (.long PU), .second, .val (.int (3 : Int32)), .val (.int (((PO + (1 : Int32)) + (1 : Int32)) + (1 : Int32)))] [(.long PU), (.int (3 : Int32)), (.int PO), (.int (12 : Int32)), (.ref by1)]))
        refine Fin.step (fun _ => XS.iload Xy58.here hx rfl (hb hby at_385) rfl) ?_
        show Fin p e below s _ _ _ (Ty58.setTop (mkF m 387 #[.val (.int pf), .val (.int pv), .val (.int pl), .val (.int PO), .val (.int PS), .val (.ref by1), .val (.long PU), .second, .val (.int (3 : Int32)), .val (.int (((PO + (1 : Int32)) + (1 : Int32)) + (1 : Int32)))] [(.int PS), (.long PU), (.int (3 : Int32)), (.int PO), (.int (12 : Int32)), (.ref by1)]))
        obtain ⟨_, _, ⟨Ty59, Ly59, ky59, ny59⟩, -, Xy59, ⟨Lcy59, hQy59, ly59, yy59, zy59⟩, sty59⟩ := Jvm.LawKit.callS Xy58 hx (y := (⟨"com/example/indexterity/indexterity/index/IndexFormatPutVarIntPinLaw", "at", "([BIIIJB)Z"⟩ : MethodName)) hown (mvT hZ (hw _ (List.mem_of_getElem? (i := 7) rfl))) (mvT hZ (hw _ (List.mem_of_getElem? (i := 8) rfl))) (mvT hZ (hw _ (List.mem_of_getElem? (i := 9) rfl))) (mvT hZ (hw _ (List.mem_of_getElem? (i := 10) rfl))) (by decide) (backOf (W := 0) (rma l Z a0 hw [] by1 (12 : Int32) PO (3 : Int32) PU PS ky1 (own_put 2 Ls PO.toNatClampNeg pv) Ty46.heap n0 Zy46 fy46_0 (own_pg 2 Ls _ pv M.2) ⟨by decide, by decide⟩) hZ (hw _ (List.mem_of_getElem? (i := 10) rfl)) (hw _ (List.mem_of_getElem? (i := 9) rfl)) (by decide) (by decide)) (g := (mkF m 387 #[.val (.int pf), .val (.int pv), .val (.int pl), .val (.int PO), .val (.int PS), .val (.ref by1), .val (.long PU), .second, .val (.int (3 : Int32)), .val (.int (((PO + (1 : Int32)) + (1 : Int32)) + (1 : Int32)))] [(.int PS), (.long PU), (.int (3 : Int32)), (.int PO), (.int (12 : Int32)), (.ref by1)])) rfl (by rw [hml]; rfl) (argsL := [(.ref by1), (.int (12 : Int32)), (.int PO), (.int (3 : Int32)), (.long PU), (.int PS)]) (rest := []) (lenOf pd_1 rfl) rfl (by show 2 * 0 + _ ≤ _; exact Nat.le_of_eq rfl) (hb hby at_387) (fun _ _ => ⟨rfl, eqy58, (by decide : 1 + 0 ≤ _), (by decide : 13 + 0 ≤ _)⟩)
        dsimp only [Pt.U, Pt.locs, Pt.cells, Pt.slots] at Xy59 ly59 yy59 zy59 sty59 hQy59
        have yy59 : ky59 = 1 := yy59
        have zy59 : ny59 = 13 := zy59
        replace Xy59 := recast Xy59 ly59 yy59 zy59
        clear ly59 yy59 zy59
        obtain ⟨rfl, Nqy59, eqy59⟩ := hQy59
        have Ny59 := Fr.app Ny58 Nqy59
        refine Fin.step (sty59) ?_
        show Fin p e below s _ _ _ (Ty59.setTop (mkF m 390 #[.val (.int pf), .val (.int pv), .val (.int pl), .val (.int PO), .val (.int PS), .val (.ref by1), .val (.long PU), .second, .val (.int (3 : Int32)), .val (.int (((PO + (1 : Int32)) + (1 : Int32)) + (1 : Int32)))] [(.int (own_at (own_get (own_put 2 Ls PO.toNatClampNeg pv) (12 : Int32).toNatClampNeg) (12 : Int32) PO (3 : Int32) PU PS))]))
        refine Fin.step (fun _ => XS.ifNo Xy59.here hx rfl (hb hby at_390) rfl ((if0 _ _).trans (feq ((own_1 (own_fin 2 (by decide) (12 : Int32) (3 : Int32) PO (by decide) (by decide) hO pv PS Ls M PU hU CL)) : ¬ ((own_at (own_get (own_put 2 Ls PO.toNatClampNeg pv) (12 : Int32).toNatClampNeg) (12 : Int32) PO (3 : Int32) PU PS) = (0 : Int32)))).1)) ?_
        show Fin p e below s _ _ _ (Ty59.setTop (mkF m 393 #[.val (.int pf), .val (.int pv), .val (.int pl), .val (.int PO), .val (.int PS), .val (.ref by1), .val (.long PU), .second, .val (.int (3 : Int32)), .val (.int (((PO + (1 : Int32)) + (1 : Int32)) + (1 : Int32)))] []))
        refine Fin.step (fun _ => XS.iconst Xy59.here hx rfl (hb hby at_393)) ?_
        show Fin p e below s _ _ _ (Ty59.setTop (mkF m 394 #[.val (.int pf), .val (.int pv), .val (.int pl), .val (.int PO), .val (.int PS), .val (.ref by1), .val (.long PU), .second, .val (.int (3 : Int32)), .val (.int (((PO + (1 : Int32)) + (1 : Int32)) + (1 : Int32)))] [(.int (1 : Int32))]))
        refine Fin.step (fun _ => XS.goto Xy59.here hx rfl (pc0 := 394) (pc' := 398) rfl (hb hby at_394) (by decide) (by decide)) ?_
        show Fin p e below s _ _ _ (Ty59.setTop (mkF m 398 #[.val (.int pf), .val (.int pv), .val (.int pl), .val (.int PO), .val (.int PS), .val (.ref by1), .val (.long PU), .second, .val (.int (3 : Int32)), .val (.int (((PO + (1 : Int32)) + (1 : Int32)) + (1 : Int32)))] [(.int (1 : Int32))]))
        refine Fin.retN Xy59 hx (t := .boolean) hret (by simp) hlk (hb hby at_398) (by decide) (by decide) ?_
        show Q0 Z pf pv pl h0 n0 _ Ty59.heap _
        rw [eqy59]
        exact ⟨rfl, Ny59, Ky46⟩
      · refine Fin.step (fun _ => XS.ifYes Xy14.here hx rfl (pc0 := 131) (pc' := 140) rfl (hb hby at_131) rfl ((if0 _ _).trans (flt ((lcNL hcy45) : ¬ ((lcmpW PU (2097152 : Int64)) < (0 : Int32)))).2.1) (by decide) (by decide)) ?_
        show Fin p e below s _ _ _ (Ty14.setTop (mkF m 140 #[.val (.int pf), .val (.int pv), .val (.int pl), .val (.int PO), .val (.int PS), .val (.ref by1), .val (.long PU), .second, .unset, .unset] []))
        refine Fin.step (fun _ => XS.lload Xy14.here hx rfl (hb hby at_140) rfl) ?_
        show Fin p e below s _ _ _ (Ty14.setTop (mkF m 142 #[.val (.int pf), .val (.int pv), .val (.int pl), .val (.int PO), .val (.int PS), .val (.ref by1), .val (.long PU), .second, .unset, .unset] [(.long PU)]))
        refine Fin.step (Xy14.ldc2Long hx hown (mvT hZ (hw _ (List.mem_of_getElem? (i := 14) rfl))) (g := (mkF m 142 #[.val (.int pf), .val (.int pv), .val (.int pl), .val (.int PO), .val (.int PS), .val (.ref by1), .val (.long PU), .second, .unset, .unset] [(.long PU)])) rfl (hb hby at_142)) ?_
        show Fin p e below s _ _ _ (Ty14.setTop (mkF m 145 #[.val (.int pf), .val (.int pv), .val (.int pl), .val (.int PO), .val (.int PS), .val (.ref by1), .val (.long PU), .second, .unset, .unset] [(.long (268435456 : Int64)), (.long PU)]))
        refine Fin.step (fun _ => XS.lcmp Xy14.here hx rfl (hb hby at_145) rfl) ?_
        show Fin p e below s _ _ _ (Ty14.setTop (mkF m 146 #[.val (.int pf), .val (.int pv), .val (.int pl), .val (.int PO), .val (.int PS), .val (.ref by1), .val (.long PU), .second, .unset, .unset] [(.int (lcmpW PU (268435456 : Int64)))]))
        by_cases hcy60 : PU < (268435456 : Int64)
        · refine Fin.step (fun _ => XS.ifNo Xy14.here hx rfl (hb hby at_146) rfl ((if0 _ _).trans (tlt ((lcL hcy60) : ((lcmpW PU (268435456 : Int64)) < (0 : Int32)))).2.1)) ?_
          show Fin p e below s _ _ _ (Ty14.setTop (mkF m 149 #[.val (.int pf), .val (.int pv), .val (.int pl), .val (.int PO), .val (.int PS), .val (.ref by1), .val (.long PU), .second, .unset, .unset] []))
          refine Fin.step (fun _ => XS.iconst Xy14.here hx rfl (hb hby at_149)) ?_
          show Fin p e below s _ _ _ (Ty14.setTop (mkF m 150 #[.val (.int pf), .val (.int pv), .val (.int pl), .val (.int PO), .val (.int PS), .val (.ref by1), .val (.long PU), .second, .unset, .unset] [(.int (4 : Int32))]))
          refine Fin.step (fun _ => XS.istore Xy14.here hx rfl (hb hby at_150) rfl (l' := #[.val (.int pf), .val (.int pv), .val (.int pl), .val (.int PO), .val (.int PS), .val (.ref by1), .val (.long PU), .second, .val (.int (4 : Int32)), .unset]) rfl) ?_
          show Fin p e below s _ _ _ (Ty14.setTop (mkF m 152 #[.val (.int pf), .val (.int pv), .val (.int pl), .val (.int PO), .val (.int PS), .val (.ref by1), .val (.long PU), .second, .val (.int (4 : Int32)), .unset] []))
          refine Fin.step (fun _ => XS.goto Xy14.here hx rfl (pc0 := 152) (pc' := 158) rfl (hb hby at_152) (by decide) (by decide)) ?_
          show Fin p e below s _ _ _ (Ty14.setTop (mkF m 158 #[.val (.int pf), .val (.int pv), .val (.int pl), .val (.int PO), .val (.int PS), .val (.ref by1), .val (.long PU), .second, .val (.int (4 : Int32)), .unset] []))
          have C := own_cnd4 pv PU hU hcy15 hcy30 hcy45 hcy60
          have CL : (own_sh 3 pv &&& (-128 : Int32)) = 0 := C.2.2.2
          have M := own_made PS hS
          obtain ⟨Ls, h_Ls⟩ : ∃ z : List Value, z = [(.int (nar .byte PS)), (.int (nar .byte PS)), (.int (nar .byte PS)), (.int (nar .byte PS)), (.int (nar .byte PS)), (.int (nar .byte PS)), (.int (nar .byte PS)), (.int (nar .byte PS)), (.int (nar .byte PS)), (.int (nar .byte PS)), (.int (nar .byte PS)), (.int (nar .byte PS)), (.int (nar .byte PS))] := ⟨_, rfl⟩
          rw [← h_Ls] at M
          have VL : Arv Z hy14 by1 ky1 .byte (13 : Int32) Ls (.int (0 : Int32)) := by rw [h_Ls]; exact Vy14
          refine Fin.step (fun _ => XS.aload Xy14.here hx rfl (hb hby at_158) rfl rfl) ?_
          show Fin p e below s _ _ _ (Ty14.setTop (mkF m 160 #[.val (.int pf), .val (.int pv), .val (.int pl), .val (.int PO), .val (.int PS), .val (.ref by1), .val (.long PU), .second, .val (.int (4 : Int32)), .unset] [(.ref by1)]))
          refine Fin.step (fun _ => XS.iloadN Xy14.here hx rfl (hb hby at_160) rfl) ?_
          show Fin p e below s _ _ _ (Ty14.setTop (mkF m 161 #[.val (.int pf), .val (.int pv), .val (.int pl), .val (.int PO), .val (.int PS), .val (.ref by1), .val (.long PU), .second, .val (.int (4 : Int32)), .unset] [(.int PO), (.ref by1)]))
          refine Fin.step (fun _ => XS.iloadN Xy14.here hx rfl (hb hby at_161) rfl) ?_
          show Fin p e below s _ _ _ (Ty14.setTop (mkF m 162 #[.val (.int pf), .val (.int pv), .val (.int pl), .val (.int PO), .val (.int PS), .val (.ref by1), .val (.long PU), .second, .val (.int (4 : Int32)), .unset] [(.int pv), (.int PO), (.ref by1)]))
          obtain ⟨_, _, ⟨Ty61, Ly61, ky61, ny61⟩, -, Xy61, ⟨Lcy61, hQy61, ly61, yy61, zy61⟩, sty61⟩ := Jvm.LawKit.callS Xy14 hx (y := (⟨"com/example/indexterity/indexterity/index/IndexFormat", "putVarInt", "([BII)I"⟩ : MethodName)) hown (mvT hZ (hw _ (List.mem_of_getElem? (i := 3) rfl))) (mvT hZ (hw _ (List.mem_of_getElem? (i := 4) rfl))) (mvT hZ (hw _ (List.mem_of_getElem? (i := 5) rfl))) (mvT hZ (hw _ (List.mem_of_getElem? (i := 6) rfl))) (by decide) (backOf (W := 0) (rmv4 l Z a0 hw [] by1 PO pv ky1 Ls hy14 n0 Zy14 VL gzy1 M.1 hO C.1 C.2.1 C.2.2.1 C.2.2.2) hZ (hw _ (List.mem_of_getElem? (i := 6) rfl)) (hw _ (List.mem_of_getElem? (i := 5) rfl)) (by decide) (by decide)) (g := (mkF m 162 #[.val (.int pf), .val (.int pv), .val (.int pl), .val (.int PO), .val (.int PS), .val (.ref by1), .val (.long PU), .second, .val (.int (4 : Int32)), .unset] [(.int pv), (.int PO), (.ref by1)])) rfl (by rw [hml]; rfl) (argsL := [(.ref by1), (.int PO), (.int pv)]) (rest := []) (lenOf pd_0 rfl) rfl (by show 2 * 0 + _ ≤ _; exact Nat.le_of_eq rfl) (hb hby at_162) (fun _ _ => ⟨rfl, ey14, (by decide : 1 + 0 ≤ _), (by decide : 13 + 0 ≤ _)⟩)
          dsimp only [Pt.U, Pt.locs, Pt.cells, Pt.slots] at Xy61 ly61 yy61 zy61 sty61 hQy61
          have yy61 : ky61 = 1 := yy61
          have zy61 : ny61 = 13 := zy61
          replace Xy61 := recast Xy61 ly61 yy61 zy61
          clear ly61 yy61 zy61
          obtain ⟨rfl, Nqy61, Kcy61, fy61_0⟩ := hQy61
          have Ny61 := Fr.app Ny14 Nqy61
          have Zy61 : n0 ≤ Ty61.heap.size := Nat.le_trans Zy14 Kcy61.1
          have Ky61 : Keep h0 Ty61.heap [] := Ky14.trans Kcy61 (allS (Or.inr szy1) all0)
          refine Fin.step (sty61) ?_
          show Fin p e below s _ _ _ (Ty61.setTop (mkF m 165 #[.val (.int pf), .val (.int pv), .val (.int pl), .val (.int PO), .val (.int PS), .val (.ref by1), .val (.long PU), .second, .val (.int (4 : Int32)), .unset] [(.int ((((PO + (1 : Int32)) + (1 : Int32)) + (1 : Int32)) + (1 : Int32)))]))
          refine Fin.step (fun _ => XS.istore Xy61.here hx rfl (hb hby at_165) rfl (l' := #[.val (.int pf), .val (.int pv), .val (.int pl), .val (.int PO), .val (.int PS), .val (.ref by1), .val (.long PU), .second, .val (.int (4 : Int32)), .val (.int ((((PO + (1 : Int32)) + (1 : Int32)) + (1 : Int32)) + (1 : Int32)))]) rfl) ?_
          show Fin p e below s _ _ _ (Ty61.setTop (mkF m 167 #[.val (.int pf), .val (.int pv), .val (.int pl), .val (.int PO), .val (.int PS), .val (.ref by1), .val (.long PU), .second, .val (.int (4 : Int32)), .val (.int ((((PO + (1 : Int32)) + (1 : Int32)) + (1 : Int32)) + (1 : Int32)))] []))
          refine Fin.step (fun _ => XS.iload Xy61.here hx rfl (hb hby at_167) rfl) ?_
          show Fin p e below s _ _ _ (Ty61.setTop (mkF m 169 #[.val (.int pf), .val (.int pv), .val (.int pl), .val (.int PO), .val (.int PS), .val (.ref by1), .val (.long PU), .second, .val (.int (4 : Int32)), .val (.int ((((PO + (1 : Int32)) + (1 : Int32)) + (1 : Int32)) + (1 : Int32)))] [(.int ((((PO + (1 : Int32)) + (1 : Int32)) + (1 : Int32)) + (1 : Int32)))]))
          refine Fin.step (fun _ => XS.iloadN Xy61.here hx rfl (hb hby at_169) rfl) ?_
          show Fin p e below s _ _ _ (Ty61.setTop (mkF m 170 #[.val (.int pf), .val (.int pv), .val (.int pl), .val (.int PO), .val (.int PS), .val (.ref by1), .val (.long PU), .second, .val (.int (4 : Int32)), .val (.int ((((PO + (1 : Int32)) + (1 : Int32)) + (1 : Int32)) + (1 : Int32)))] [(.int PO), (.int ((((PO + (1 : Int32)) + (1 : Int32)) + (1 : Int32)) + (1 : Int32)))]))
          refine Fin.step (fun _ => XS.iload Xy61.here hx rfl (hb hby at_170) rfl) ?_
          show Fin p e below s _ _ _ (Ty61.setTop (mkF m 172 #[.val (.int pf), .val (.int pv), .val (.int pl), .val (.int PO), .val (.int PS), .val (.ref by1), .val (.long PU), .second, .val (.int (4 : Int32)), .val (.int ((((PO + (1 : Int32)) + (1 : Int32)) + (1 : Int32)) + (1 : Int32)))] [(.int (4 : Int32)), (.int PO), (.int ((((PO + (1 : Int32)) + (1 : Int32)) + (1 : Int32)) + (1 : Int32)))]))
          refine Fin.step (fun _ => XS.iadd Xy61.here hx rfl (hb hby at_172) rfl) ?_
          show Fin p e below s _ _ _ (Ty61.setTop (mkF m 173 #[.val (.int pf), .val (.int pv), .val (.int pl), .val (.int PO), .val (.int PS), .val (.ref by1), .val (.long PU), .second, .val (.int (4 : Int32)), .val (.int ((((PO + (1 : Int32)) + (1 : Int32)) + (1 : Int32)) + (1 : Int32)))] [(.int (PO + (4 : Int32))), (.int ((((PO + (1 : Int32)) + (1 : Int32)) + (1 : Int32)) + (1 : Int32)))]))
          refine Fin.step (fun _ => XS.icmpYes Xy61.here hx rfl (pc0 := 173) (pc' := 178) rfl (hb hby at_173) rfl (teq ((own_r4 PO) : (((((PO + (1 : Int32)) + (1 : Int32)) + (1 : Int32)) + (1 : Int32)) = (PO + (4 : Int32))))).1 (by decide) (by decide)) ?_
          show Fin p e below s _ _ _ (Ty61.setTop (mkF m 178 #[.val (.int pf), .val (.int pv), .val (.int pl), .val (.int PO), .val (.int PS), .val (.ref by1), .val (.long PU), .second, .val (.int (4 : Int32)), .val (.int ((((PO + (1 : Int32)) + (1 : Int32)) + (1 : Int32)) + (1 : Int32)))] []))
          refine Fin.step (fun _ => XS.aload Xy61.here hx rfl (hb hby at_178) rfl rfl) ?_
          show Fin p e below s _ _ _ (Ty61.setTop (mkF m 180 #[.val (.int pf), .val (.int pv), .val (.int pl), .val (.int PO), .val (.int PS), .val (.ref by1), .val (.long PU), .second, .val (.int (4 : Int32)), .val (.int ((((PO + (1 : Int32)) + (1 : Int32)) + (1 : Int32)) + (1 : Int32)))] [(.ref by1)]))
          refine Fin.step (fun _ => XS.iconst Xy61.here hx rfl (hb hby at_180)) ?_
          show Fin p e below s _ _ _ (Ty61.setTop (mkF m 181 #[.val (.int pf), .val (.int pv), .val (.int pl), .val (.int PO), .val (.int PS), .val (.ref by1), .val (.long PU), .second, .val (.int (4 : Int32)), .val (.int ((((PO + (1 : Int32)) + (1 : Int32)) + (1 : Int32)) + (1 : Int32)))] [(.int (0 : Int32)), (.ref by1)]))
          refine Fin.step (fun _ => XS.iloadN Xy61.here hx rfl (hb hby at_181) rfl) ?_
          show Fin p e below s _ _ _ (Ty61.setTop (mkF m 182 #[.val (.int pf), .val (.int pv), .val (.int pl), .val (.int PO), .val (.int PS), .val (.ref by1), .val (.long PU), .second, .val (.int (4 : Int32)), .val (.int ((((PO + (1 : Int32)) + (1 : Int32)) + (1 : Int32)) + (1 : Int32)))] [(.int PO), (.int (0 : Int32)), (.ref by1)]))
          refine Fin.step (fun _ => XS.iload Xy61.here hx rfl (hb hby at_182) rfl) ?_
          show Fin p e below s _ _ _ (Ty61.setTop (mkF m 184 #[.val (.int pf), .val (.int pv), .val (.int pl), .val (.int PO), .val (.int PS), .val (.ref by1), .val (.long PU), .second, .val (.int (4 : Int32)), .val (.int ((((PO + (1 : Int32)) + (1 : Int32)) + (1 : Int32)) + (1 : Int32)))] [(.int (4 : Int32)), (.int PO), (.int (0 : Int32)), (.ref by1)]))
          refine Fin.step (fun _ => XS.lload Xy61.here hx rfl (hb hby at_184) rfl) ?_
          show Fin p e below s _ _ _ (Ty61.setTop (mkF m 186 #[.val (.int pf), .val (.int pv), .val (.int pl), .val (.int PO), .val (.int PS), .val (.ref by1), .val (.long PU), .second, .val (.int (4 : Int32)), .val (.int ((((PO + (1 : Int32)) + (1 : Int32)) + (1 : Int32)) + (1 : Int32)))] [(.long PU), (.int (4 : Int32)), (.int PO), (.int (0 : Int32)), (.ref by1)]))
          refine Fin.step (fun _ => XS.iload Xy61.here hx rfl (hb hby at_186) rfl) ?_
          show Fin p e below s _ _ _ (Ty61.setTop (mkF m 188 #[.val (.int pf), .val (.int pv), .val (.int pl), .val (.int PO), .val (.int PS), .val (.ref by1), .val (.long PU), .second, .val (.int (4 : Int32)), .val (.int ((((PO + (1 : Int32)) + (1 : Int32)) + (1 : Int32)) + (1 : Int32)))] [(.int PS), (.long PU), (.int (4 : Int32)), (.int PO), (.int (0 : Int32)), (.ref by1)]))
          obtain ⟨_, _, ⟨Ty62, Ly62, ky62, ny62⟩, -, Xy62, ⟨Lcy62, hQy62, ly62, yy62, zy62⟩, sty62⟩ := Jvm.LawKit.callS Xy61 hx (y := (⟨"com/example/indexterity/indexterity/index/IndexFormatPutVarIntPinLaw", "at", "([BIIIJB)Z"⟩ : MethodName)) hown (mvT hZ (hw _ (List.mem_of_getElem? (i := 7) rfl))) (mvT hZ (hw _ (List.mem_of_getElem? (i := 8) rfl))) (mvT hZ (hw _ (List.mem_of_getElem? (i := 9) rfl))) (mvT hZ (hw _ (List.mem_of_getElem? (i := 10) rfl))) (by decide) (backOf (W := 0) (rma l Z a0 hw [] by1 (0 : Int32) PO (4 : Int32) PU PS ky1 (own_put 3 Ls PO.toNatClampNeg pv) Ty61.heap n0 Zy61 fy61_0 (own_pg 3 Ls _ pv M.2) ⟨by decide, by decide⟩) hZ (hw _ (List.mem_of_getElem? (i := 10) rfl)) (hw _ (List.mem_of_getElem? (i := 9) rfl)) (by decide) (by decide)) (g := (mkF m 188 #[.val (.int pf), .val (.int pv), .val (.int pl), .val (.int PO), .val (.int PS), .val (.ref by1), .val (.long PU), .second, .val (.int (4 : Int32)), .val (.int ((((PO + (1 : Int32)) + (1 : Int32)) + (1 : Int32)) + (1 : Int32)))] [(.int PS), (.long PU), (.int (4 : Int32)), (.int PO), (.int (0 : Int32)), (.ref by1)])) rfl (by rw [hml]; rfl) (argsL := [(.ref by1), (.int (0 : Int32)), (.int PO), (.int (4 : Int32)), (.long PU), (.int PS)]) (rest := []) (lenOf pd_1 rfl) rfl (by show 2 * 0 + _ ≤ _; exact Nat.le_of_eq rfl) (hb hby at_188) (fun _ _ => ⟨rfl, rfl, (by decide : 1 + 0 ≤ _), (by decide : 13 + 0 ≤ _)⟩)
          dsimp only [Pt.U, Pt.locs, Pt.cells, Pt.slots] at Xy62 ly62 yy62 zy62 sty62 hQy62
          have yy62 : ky62 = 1 := yy62
          have zy62 : ny62 = 13 := zy62
          replace Xy62 := recast Xy62 ly62 yy62 zy62
          clear ly62 yy62 zy62
          obtain ⟨rfl, Nqy62, eqy62⟩ := hQy62
          have Ny62 := Fr.app Ny61 Nqy62
          refine Fin.step (sty62) ?_
          show Fin p e below s _ _ _ (Ty62.setTop (mkF m 191 #[.val (.int pf), .val (.int pv), .val (.int pl), .val (.int PO), .val (.int PS), .val (.ref by1), .val (.long PU), .second, .val (.int (4 : Int32)), .val (.int ((((PO + (1 : Int32)) + (1 : Int32)) + (1 : Int32)) + (1 : Int32)))] [(.int (own_at (own_get (own_put 3 Ls PO.toNatClampNeg pv) (0 : Int32).toNatClampNeg) (0 : Int32) PO (4 : Int32) PU PS))]))
          refine Fin.step (fun _ => XS.ifNo Xy62.here hx rfl (hb hby at_191) rfl ((if0 _ _).trans (feq ((own_1 (own_fin 3 (by decide) (0 : Int32) (4 : Int32) PO (by decide) (by decide) hO pv PS Ls M PU hU CL)) : ¬ ((own_at (own_get (own_put 3 Ls PO.toNatClampNeg pv) (0 : Int32).toNatClampNeg) (0 : Int32) PO (4 : Int32) PU PS) = (0 : Int32)))).1)) ?_
          show Fin p e below s _ _ _ (Ty62.setTop (mkF m 194 #[.val (.int pf), .val (.int pv), .val (.int pl), .val (.int PO), .val (.int PS), .val (.ref by1), .val (.long PU), .second, .val (.int (4 : Int32)), .val (.int ((((PO + (1 : Int32)) + (1 : Int32)) + (1 : Int32)) + (1 : Int32)))] []))
          refine Fin.step (fun _ => XS.aload Xy62.here hx rfl (hb hby at_194) rfl rfl) ?_
          show Fin p e below s _ _ _ (Ty62.setTop (mkF m 196 #[.val (.int pf), .val (.int pv), .val (.int pl), .val (.int PO), .val (.int PS), .val (.ref by1), .val (.long PU), .second, .val (.int (4 : Int32)), .val (.int ((((PO + (1 : Int32)) + (1 : Int32)) + (1 : Int32)) + (1 : Int32)))] [(.ref by1)]))
          refine Fin.step (fun _ => XS.iconst Xy62.here hx rfl (hb hby at_196)) ?_
          show Fin p e below s _ _ _ (Ty62.setTop (mkF m 197 #[.val (.int pf), .val (.int pv), .val (.int pl), .val (.int PO), .val (.int PS), .val (.ref by1), .val (.long PU), .second, .val (.int (4 : Int32)), .val (.int ((((PO + (1 : Int32)) + (1 : Int32)) + (1 : Int32)) + (1 : Int32)))] [(.int (1 : Int32)), (.ref by1)]))
          refine Fin.step (fun _ => XS.iloadN Xy62.here hx rfl (hb hby at_197) rfl) ?_
          show Fin p e below s _ _ _ (Ty62.setTop (mkF m 198 #[.val (.int pf), .val (.int pv), .val (.int pl), .val (.int PO), .val (.int PS), .val (.ref by1), .val (.long PU), .second, .val (.int (4 : Int32)), .val (.int ((((PO + (1 : Int32)) + (1 : Int32)) + (1 : Int32)) + (1 : Int32)))] [(.int PO), (.int (1 : Int32)), (.ref by1)]))
          refine Fin.step (fun _ => XS.iload Xy62.here hx rfl (hb hby at_198) rfl) ?_
          show Fin p e below s _ _ _ (Ty62.setTop (mkF m 200 #[.val (.int pf), .val (.int pv), .val (.int pl), .val (.int PO), .val (.int PS), .val (.ref by1), .val (.long PU), .second, .val (.int (4 : Int32)), .val (.int ((((PO + (1 : Int32)) + (1 : Int32)) + (1 : Int32)) + (1 : Int32)))] [(.int (4 : Int32)), (.int PO), (.int (1 : Int32)), (.ref by1)]))
          refine Fin.step (fun _ => XS.lload Xy62.here hx rfl (hb hby at_200) rfl) ?_
          show Fin p e below s _ _ _ (Ty62.setTop (mkF m 202 #[.val (.int pf), .val (.int pv), .val (.int pl), .val (.int PO), .val (.int PS), .val (.ref by1), .val (.long PU), .second, .val (.int (4 : Int32)), .val (.int ((((PO + (1 : Int32)) + (1 : Int32)) + (1 : Int32)) + (1 : Int32)))] [(.long PU), (.int (4 : Int32)), (.int PO), (.int (1 : Int32)), (.ref by1)]))
          refine Fin.step (fun _ => XS.iload Xy62.here hx rfl (hb hby at_202) rfl) ?_
          show Fin p e below s _ _ _ (Ty62.setTop (mkF m 204 #[.val (.int pf), .val (.int pv), .val (.int pl), .val (.int PO), .val (.int PS), .val (.ref by1), .val (.long PU), .second, .val (.int (4 : Int32)), .val (.int ((((PO + (1 : Int32)) + (1 : Int32)) + (1 : Int32)) + (1 : Int32)))] [(.int PS), (.long PU), (.int (4 : Int32)), (.int PO), (.int (1 : Int32)), (.ref by1)]))
          obtain ⟨_, _, ⟨Ty63, Ly63, ky63, ny63⟩, -, Xy63, ⟨Lcy63, hQy63, ly63, yy63, zy63⟩, sty63⟩ := Jvm.LawKit.callS Xy62 hx (y := (⟨"com/example/indexterity/indexterity/index/IndexFormatPutVarIntPinLaw", "at", "([BIIIJB)Z"⟩ : MethodName)) hown (mvT hZ (hw _ (List.mem_of_getElem? (i := 7) rfl))) (mvT hZ (hw _ (List.mem_of_getElem? (i := 8) rfl))) (mvT hZ (hw _ (List.mem_of_getElem? (i := 9) rfl))) (mvT hZ (hw _ (List.mem_of_getElem? (i := 10) rfl))) (by decide) (backOf (W := 0) (rma l Z a0 hw [] by1 (1 : Int32) PO (4 : Int32) PU PS ky1 (own_put 3 Ls PO.toNatClampNeg pv) Ty61.heap n0 Zy61 fy61_0 (own_pg 3 Ls _ pv M.2) ⟨by decide, by decide⟩) hZ (hw _ (List.mem_of_getElem? (i := 10) rfl)) (hw _ (List.mem_of_getElem? (i := 9) rfl)) (by decide) (by decide)) (g := (mkF m 204 #[.val (.int pf), .val (.int pv), .val (.int pl), .val (.int PO), .val (.int PS), .val (.ref by1), .val (.long PU), .second, .val (.int (4 : Int32)), .val (.int ((((PO + (1 : Int32)) + (1 : Int32)) + (1 : Int32)) + (1 : Int32)))] [(.int PS), (.long PU), (.int (4 : Int32)), (.int PO), (.int (1 : Int32)), (.ref by1)])) rfl (by rw [hml]; rfl) (argsL := [(.ref by1), (.int (1 : Int32)), (.int PO), (.int (4 : Int32)), (.long PU), (.int PS)]) (rest := []) (lenOf pd_1 rfl) rfl (by show 2 * 0 + _ ≤ _; exact Nat.le_of_eq rfl) (hb hby at_204) (fun _ _ => ⟨rfl, eqy62, (by decide : 1 + 0 ≤ _), (by decide : 13 + 0 ≤ _)⟩)
          dsimp only [Pt.U, Pt.locs, Pt.cells, Pt.slots] at Xy63 ly63 yy63 zy63 sty63 hQy63
          have yy63 : ky63 = 1 := yy63
          have zy63 : ny63 = 13 := zy63
          replace Xy63 := recast Xy63 ly63 yy63 zy63
          clear ly63 yy63 zy63
          obtain ⟨rfl, Nqy63, eqy63⟩ := hQy63
          have Ny63 := Fr.app Ny62 Nqy63
          refine Fin.step (sty63) ?_
          show Fin p e below s _ _ _ (Ty63.setTop (mkF m 207 #[.val (.int pf), .val (.int pv), .val (.int pl), .val (.int PO), .val (.int PS), .val (.ref by1), .val (.long PU), .second, .val (.int (4 : Int32)), .val (.int ((((PO + (1 : Int32)) + (1 : Int32)) + (1 : Int32)) + (1 : Int32)))] [(.int (own_at (own_get (own_put 3 Ls PO.toNatClampNeg pv) (1 : Int32).toNatClampNeg) (1 : Int32) PO (4 : Int32) PU PS))]))
          refine Fin.step (fun _ => XS.ifNo Xy63.here hx rfl (hb hby at_207) rfl ((if0 _ _).trans (feq ((own_1 (own_fin 3 (by decide) (1 : Int32) (4 : Int32) PO (by decide) (by decide) hO pv PS Ls M PU hU CL)) : ¬ ((own_at (own_get (own_put 3 Ls PO.toNatClampNeg pv) (1 : Int32).toNatClampNeg) (1 : Int32) PO (4 : Int32) PU PS) = (0 : Int32)))).1)) ?_
          show Fin p e below s _ _ _ (Ty63.setTop (mkF m 210 #[.val (.int pf), .val (.int pv), .val (.int pl), .val (.int PO), .val (.int PS), .val (.ref by1), .val (.long PU), .second, .val (.int (4 : Int32)), .val (.int ((((PO + (1 : Int32)) + (1 : Int32)) + (1 : Int32)) + (1 : Int32)))] []))
          refine Fin.step (fun _ => XS.aload Xy63.here hx rfl (hb hby at_210) rfl rfl) ?_
          show Fin p e below s _ _ _ (Ty63.setTop (mkF m 212 #[.val (.int pf), .val (.int pv), .val (.int pl), .val (.int PO), .val (.int PS), .val (.ref by1), .val (.long PU), .second, .val (.int (4 : Int32)), .val (.int ((((PO + (1 : Int32)) + (1 : Int32)) + (1 : Int32)) + (1 : Int32)))] [(.ref by1)]))
          refine Fin.step (fun _ => XS.iconst Xy63.here hx rfl (hb hby at_212)) ?_
          show Fin p e below s _ _ _ (Ty63.setTop (mkF m 213 #[.val (.int pf), .val (.int pv), .val (.int pl), .val (.int PO), .val (.int PS), .val (.ref by1), .val (.long PU), .second, .val (.int (4 : Int32)), .val (.int ((((PO + (1 : Int32)) + (1 : Int32)) + (1 : Int32)) + (1 : Int32)))] [(.int (2 : Int32)), (.ref by1)]))
          refine Fin.step (fun _ => XS.iloadN Xy63.here hx rfl (hb hby at_213) rfl) ?_
          show Fin p e below s _ _ _ (Ty63.setTop (mkF m 214 #[.val (.int pf), .val (.int pv), .val (.int pl), .val (.int PO), .val (.int PS), .val (.ref by1), .val (.long PU), .second, .val (.int (4 : Int32)), .val (.int ((((PO + (1 : Int32)) + (1 : Int32)) + (1 : Int32)) + (1 : Int32)))] [(.int PO), (.int (2 : Int32)), (.ref by1)]))
          refine Fin.step (fun _ => XS.iload Xy63.here hx rfl (hb hby at_214) rfl) ?_
          show Fin p e below s _ _ _ (Ty63.setTop (mkF m 216 #[.val (.int pf), .val (.int pv), .val (.int pl), .val (.int PO), .val (.int PS), .val (.ref by1), .val (.long PU), .second, .val (.int (4 : Int32)), .val (.int ((((PO + (1 : Int32)) + (1 : Int32)) + (1 : Int32)) + (1 : Int32)))] [(.int (4 : Int32)), (.int PO), (.int (2 : Int32)), (.ref by1)]))
          refine Fin.step (fun _ => XS.lload Xy63.here hx rfl (hb hby at_216) rfl) ?_
          show Fin p e below s _ _ _ (Ty63.setTop (mkF m 218 #[.val (.int pf), .val (.int pv), .val (.int pl), .val (.int PO), .val (.int PS), .val (.ref by1), .val (.long PU), .second, .val (.int (4 : Int32)), .val (.int ((((PO + (1 : Int32)) + (1 : Int32)) + (1 : Int32)) + (1 : Int32)))] [(.long PU), (.int (4 : Int32)), (.int PO), (.int (2 : Int32)), (.ref by1)]))
          refine Fin.step (fun _ => XS.iload Xy63.here hx rfl (hb hby at_218) rfl) ?_
          show Fin p e below s _ _ _ (Ty63.setTop (mkF m 220 #[.val (.int pf), .val (.int pv), .val (.int pl), .val (.int PO), .val (.int PS), .val (.ref by1), .val (.long PU), .second, .val (.int (4 : Int32)), .val (.int ((((PO + (1 : Int32)) + (1 : Int32)) + (1 : Int32)) + (1 : Int32)))] [(.int PS), (.long PU), (.int (4 : Int32)), (.int PO), (.int (2 : Int32)), (.ref by1)]))
          obtain ⟨_, _, ⟨Ty64, Ly64, ky64, ny64⟩, -, Xy64, ⟨Lcy64, hQy64, ly64, yy64, zy64⟩, sty64⟩ := Jvm.LawKit.callS Xy63 hx (y := (⟨"com/example/indexterity/indexterity/index/IndexFormatPutVarIntPinLaw", "at", "([BIIIJB)Z"⟩ : MethodName)) hown (mvT hZ (hw _ (List.mem_of_getElem? (i := 7) rfl))) (mvT hZ (hw _ (List.mem_of_getElem? (i := 8) rfl))) (mvT hZ (hw _ (List.mem_of_getElem? (i := 9) rfl))) (mvT hZ (hw _ (List.mem_of_getElem? (i := 10) rfl))) (by decide) (backOf (W := 0) (rma l Z a0 hw [] by1 (2 : Int32) PO (4 : Int32) PU PS ky1 (own_put 3 Ls PO.toNatClampNeg pv) Ty61.heap n0 Zy61 fy61_0 (own_pg 3 Ls _ pv M.2) ⟨by decide, by decide⟩) hZ (hw _ (List.mem_of_getElem? (i := 10) rfl)) (hw _ (List.mem_of_getElem? (i := 9) rfl)) (by decide) (by decide)) (g := (mkF m 220 #[.val (.int pf), .val (.int pv), .val (.int pl), .val (.int PO), .val (.int PS), .val (.ref by1), .val (.long PU), .second, .val (.int (4 : Int32)), .val (.int ((((PO + (1 : Int32)) + (1 : Int32)) + (1 : Int32)) + (1 : Int32)))] [(.int PS), (.long PU), (.int (4 : Int32)), (.int PO), (.int (2 : Int32)), (.ref by1)])) rfl (by rw [hml]; rfl) (argsL := [(.ref by1), (.int (2 : Int32)), (.int PO), (.int (4 : Int32)), (.long PU), (.int PS)]) (rest := []) (lenOf pd_1 rfl) rfl (by show 2 * 0 + _ ≤ _; exact Nat.le_of_eq rfl) (hb hby at_220) (fun _ _ => ⟨rfl, eqy63, (by decide : 1 + 0 ≤ _), (by decide : 13 + 0 ≤ _)⟩)
          dsimp only [Pt.U, Pt.locs, Pt.cells, Pt.slots] at Xy64 ly64 yy64 zy64 sty64 hQy64
          have yy64 : ky64 = 1 := yy64
          have zy64 : ny64 = 13 := zy64
          replace Xy64 := recast Xy64 ly64 yy64 zy64
          clear ly64 yy64 zy64
          obtain ⟨rfl, Nqy64, eqy64⟩ := hQy64
          have Ny64 := Fr.app Ny63 Nqy64
          refine Fin.step (sty64) ?_
          show Fin p e below s _ _ _ (Ty64.setTop (mkF m 223 #[.val (.int pf), .val (.int pv), .val (.int pl), .val (.int PO), .val (.int PS), .val (.ref by1), .val (.long PU), .second, .val (.int (4 : Int32)), .val (.int ((((PO + (1 : Int32)) + (1 : Int32)) + (1 : Int32)) + (1 : Int32)))] [(.int (own_at (own_get (own_put 3 Ls PO.toNatClampNeg pv) (2 : Int32).toNatClampNeg) (2 : Int32) PO (4 : Int32) PU PS))]))
          refine Fin.step (fun _ => XS.ifNo Xy64.here hx rfl (hb hby at_223) rfl ((if0 _ _).trans (feq ((own_1 (own_fin 3 (by decide) (2 : Int32) (4 : Int32) PO (by decide) (by decide) hO pv PS Ls M PU hU CL)) : ¬ ((own_at (own_get (own_put 3 Ls PO.toNatClampNeg pv) (2 : Int32).toNatClampNeg) (2 : Int32) PO (4 : Int32) PU PS) = (0 : Int32)))).1)) ?_
          show Fin p e below s _ _ _ (Ty64.setTop (mkF m 226 #[.val (.int pf), .val (.int pv), .val (.int pl), .val (.int PO), .val (.int PS), .val (.ref by1), .val (.long PU), .second, .val (.int (4 : Int32)), .val (.int ((((PO + (1 : Int32)) + (1 : Int32)) + (1 : Int32)) + (1 : Int32)))] []))
          refine Fin.step (fun _ => XS.aload Xy64.here hx rfl (hb hby at_226) rfl rfl) ?_
          show Fin p e below s _ _ _ (Ty64.setTop (mkF m 228 #[.val (.int pf), .val (.int pv), .val (.int pl), .val (.int PO), .val (.int PS), .val (.ref by1), .val (.long PU), .second, .val (.int (4 : Int32)), .val (.int ((((PO + (1 : Int32)) + (1 : Int32)) + (1 : Int32)) + (1 : Int32)))] [(.ref by1)]))
          refine Fin.step (fun _ => XS.iconst Xy64.here hx rfl (hb hby at_228)) ?_
          show Fin p e below s _ _ _ (Ty64.setTop (mkF m 229 #[.val (.int pf), .val (.int pv), .val (.int pl), .val (.int PO), .val (.int PS), .val (.ref by1), .val (.long PU), .second, .val (.int (4 : Int32)), .val (.int ((((PO + (1 : Int32)) + (1 : Int32)) + (1 : Int32)) + (1 : Int32)))] [(.int (3 : Int32)), (.ref by1)]))
          refine Fin.step (fun _ => XS.iloadN Xy64.here hx rfl (hb hby at_229) rfl) ?_
          show Fin p e below s _ _ _ (Ty64.setTop (mkF m 230 #[.val (.int pf), .val (.int pv), .val (.int pl), .val (.int PO), .val (.int PS), .val (.ref by1), .val (.long PU), .second, .val (.int (4 : Int32)), .val (.int ((((PO + (1 : Int32)) + (1 : Int32)) + (1 : Int32)) + (1 : Int32)))] [(.int PO), (.int (3 : Int32)), (.ref by1)]))
          refine Fin.step (fun _ => XS.iload Xy64.here hx rfl (hb hby at_230) rfl) ?_
          show Fin p e below s _ _ _ (Ty64.setTop (mkF m 232 #[.val (.int pf), .val (.int pv), .val (.int pl), .val (.int PO), .val (.int PS), .val (.ref by1), .val (.long PU), .second, .val (.int (4 : Int32)), .val (.int ((((PO + (1 : Int32)) + (1 : Int32)) + (1 : Int32)) + (1 : Int32)))] [(.int (4 : Int32)), (.int PO), (.int (3 : Int32)), (.ref by1)]))
          refine Fin.step (fun _ => XS.lload Xy64.here hx rfl (hb hby at_232) rfl) ?_
          show Fin p e below s _ _ _ (Ty64.setTop (mkF m 234 #[.val (.int pf), .val (.int pv), .val (.int pl), .val (.int PO), .val (.int PS), .val (.ref by1), .val (.long PU), .second, .val (.int (4 : Int32)), .val (.int ((((PO + (1 : Int32)) + (1 : Int32)) + (1 : Int32)) + (1 : Int32)))] [(.long PU), (.int (4 : Int32)), (.int PO), (.int (3 : Int32)), (.ref by1)]))
          refine Fin.step (fun _ => XS.iload Xy64.here hx rfl (hb hby at_234) rfl) ?_
          show Fin p e below s _ _ _ (Ty64.setTop (mkF m 236 #[.val (.int pf), .val (.int pv), .val (.int pl), .val (.int PO), .val (.int PS), .val (.ref by1), .val (.long PU), .second, .val (.int (4 : Int32)), .val (.int ((((PO + (1 : Int32)) + (1 : Int32)) + (1 : Int32)) + (1 : Int32)))] [(.int PS), (.long PU), (.int (4 : Int32)), (.int PO), (.int (3 : Int32)), (.ref by1)]))
          obtain ⟨_, _, ⟨Ty65, Ly65, ky65, ny65⟩, -, Xy65, ⟨Lcy65, hQy65, ly65, yy65, zy65⟩, sty65⟩ := Jvm.LawKit.callS Xy64 hx (y := (⟨"com/example/indexterity/indexterity/index/IndexFormatPutVarIntPinLaw", "at", "([BIIIJB)Z"⟩ : MethodName)) hown (mvT hZ (hw _ (List.mem_of_getElem? (i := 7) rfl))) (mvT hZ (hw _ (List.mem_of_getElem? (i := 8) rfl))) (mvT hZ (hw _ (List.mem_of_getElem? (i := 9) rfl))) (mvT hZ (hw _ (List.mem_of_getElem? (i := 10) rfl))) (by decide) (backOf (W := 0) (rma l Z a0 hw [] by1 (3 : Int32) PO (4 : Int32) PU PS ky1 (own_put 3 Ls PO.toNatClampNeg pv) Ty61.heap n0 Zy61 fy61_0 (own_pg 3 Ls _ pv M.2) ⟨by decide, by decide⟩) hZ (hw _ (List.mem_of_getElem? (i := 10) rfl)) (hw _ (List.mem_of_getElem? (i := 9) rfl)) (by decide) (by decide)) (g := (mkF m 236 #[.val (.int pf), .val (.int pv), .val (.int pl), .val (.int PO), .val (.int PS), .val (.ref by1), .val (.long PU), .second, .val (.int (4 : Int32)), .val (.int ((((PO + (1 : Int32)) + (1 : Int32)) + (1 : Int32)) + (1 : Int32)))] [(.int PS), (.long PU), (.int (4 : Int32)), (.int PO), (.int (3 : Int32)), (.ref by1)])) rfl (by rw [hml]; rfl) (argsL := [(.ref by1), (.int (3 : Int32)), (.int PO), (.int (4 : Int32)), (.long PU), (.int PS)]) (rest := []) (lenOf pd_1 rfl) rfl (by show 2 * 0 + _ ≤ _; exact Nat.le_of_eq rfl) (hb hby at_236) (fun _ _ => ⟨rfl, eqy64, (by decide : 1 + 0 ≤ _), (by decide : 13 + 0 ≤ _)⟩)
          dsimp only [Pt.U, Pt.locs, Pt.cells, Pt.slots] at Xy65 ly65 yy65 zy65 sty65 hQy65
          have yy65 : ky65 = 1 := yy65
          have zy65 : ny65 = 13 := zy65
          replace Xy65 := recast Xy65 ly65 yy65 zy65
          clear ly65 yy65 zy65
          obtain ⟨rfl, Nqy65, eqy65⟩ := hQy65
          have Ny65 := Fr.app Ny64 Nqy65
          refine Fin.step (sty65) ?_
          show Fin p e below s _ _ _ (Ty65.setTop (mkF m 239 #[.val (.int pf), .val (.int pv), .val (.int pl), .val (.int PO), .val (.int PS), .val (.ref by1), .val (.long PU), .second, .val (.int (4 : Int32)), .val (.int ((((PO + (1 : Int32)) + (1 : Int32)) + (1 : Int32)) + (1 : Int32)))] [(.int (own_at (own_get (own_put 3 Ls PO.toNatClampNeg pv) (3 : Int32).toNatClampNeg) (3 : Int32) PO (4 : Int32) PU PS))]))
          refine Fin.step (fun _ => XS.ifNo Xy65.here hx rfl (hb hby at_239) rfl ((if0 _ _).trans (feq ((own_1 (own_fin 3 (by decide) (3 : Int32) (4 : Int32) PO (by decide) (by decide) hO pv PS Ls M PU hU CL)) : ¬ ((own_at (own_get (own_put 3 Ls PO.toNatClampNeg pv) (3 : Int32).toNatClampNeg) (3 : Int32) PO (4 : Int32) PU PS) = (0 : Int32)))).1)) ?_
          show Fin p e below s _ _ _ (Ty65.setTop (mkF m 242 #[.val (.int pf), .val (.int pv), .val (.int pl), .val (.int PO), .val (.int PS), .val (.ref by1), .val (.long PU), .second, .val (.int (4 : Int32)), .val (.int ((((PO + (1 : Int32)) + (1 : Int32)) + (1 : Int32)) + (1 : Int32)))] []))
          refine Fin.step (fun _ => XS.aload Xy65.here hx rfl (hb hby at_242) rfl rfl) ?_
          show Fin p e below s _ _ _ (Ty65.setTop (mkF m 244 #[.val (.int pf), .val (.int pv), .val (.int pl), .val (.int PO), .val (.int PS), .val (.ref by1), .val (.long PU), .second, .val (.int (4 : Int32)), .val (.int ((((PO + (1 : Int32)) + (1 : Int32)) + (1 : Int32)) + (1 : Int32)))] [(.ref by1)]))
          refine Fin.step (fun _ => XS.iconst Xy65.here hx rfl (hb hby at_244)) ?_
          show Fin p e below s _ _ _ (Ty65.setTop (mkF m 245 #[.val (.int pf), .val (.int pv), .val (.int pl), .val (.int PO), .val (.int PS), .val (.ref by1), .val (.long PU), .second, .val (.int (4 : Int32)), .val (.int ((((PO + (1 : Int32)) + (1 : Int32)) + (1 : Int32)) + (1 : Int32)))] [(.int (4 : Int32)), (.ref by1)]))
          refine Fin.step (fun _ => XS.iloadN Xy65.here hx rfl (hb hby at_245) rfl) ?_
          show Fin p e below s _ _ _ (Ty65.setTop (mkF m 246 #[.val (.int pf), .val (.int pv), .val (.int pl), .val (.int PO), .val (.int PS), .val (.ref by1), .val (.long PU), .second, .val (.int (4 : Int32)), .val (.int ((((PO + (1 : Int32)) + (1 : Int32)) + (1 : Int32)) + (1 : Int32)))] [(.int PO), (.int (4 : Int32)), (.ref by1)]))
          refine Fin.step (fun _ => XS.iload Xy65.here hx rfl (hb hby at_246) rfl) ?_
          show Fin p e below s _ _ _ (Ty65.setTop (mkF m 248 #[.val (.int pf), .val (.int pv), .val (.int pl), .val (.int PO), .val (.int PS), .val (.ref by1), .val (.long PU), .second, .val (.int (4 : Int32)), .val (.int ((((PO + (1 : Int32)) + (1 : Int32)) + (1 : Int32)) + (1 : Int32)))] [(.int (4 : Int32)), (.int PO), (.int (4 : Int32)), (.ref by1)]))
          refine Fin.step (fun _ => XS.lload Xy65.here hx rfl (hb hby at_248) rfl) ?_
          show Fin p e below s _ _ _ (Ty65.setTop (mkF m 250 #[.val (.int pf), .val (.int pv), .val (.int pl), .val (.int PO), .val (.int PS), .val (.ref by1), .val (.long PU), .second, .val (.int (4 : Int32)), .val (.int ((((PO + (1 : Int32)) + (1 : Int32)) + (1 : Int32)) + (1 : Int32)))] [(.long PU), (.int (4 : Int32)), (.int PO), (.int (4 : Int32)), (.ref by1)]))
          refine Fin.step (fun _ => XS.iload Xy65.here hx rfl (hb hby at_250) rfl) ?_
          show Fin p e below s _ _ _ (Ty65.setTop (mkF m 252 #[.val (.int pf), .val (.int pv), .val (.int pl), .val (.int PO), .val (.int PS), .val (.ref by1), .val (.long PU), .second, .val (.int (4 : Int32)), .val (.int ((((PO + (1 : Int32)) + (1 : Int32)) + (1 : Int32)) + (1 : Int32)))] [(.int PS), (.long PU), (.int (4 : Int32)), (.int PO), (.int (4 : Int32)), (.ref by1)]))
          obtain ⟨_, _, ⟨Ty66, Ly66, ky66, ny66⟩, -, Xy66, ⟨Lcy66, hQy66, ly66, yy66, zy66⟩, sty66⟩ := Jvm.LawKit.callS Xy65 hx (y := (⟨"com/example/indexterity/indexterity/index/IndexFormatPutVarIntPinLaw", "at", "([BIIIJB)Z"⟩ : MethodName)) hown (mvT hZ (hw _ (List.mem_of_getElem? (i := 7) rfl))) (mvT hZ (hw _ (List.mem_of_getElem? (i := 8) rfl))) (mvT hZ (hw _ (List.mem_of_getElem? (i := 9) rfl))) (mvT hZ (hw _ (List.mem_of_getElem? (i := 10) rfl))) (by decide) (backOf (W := 0) (rma l Z a0 hw [] by1 (4 : Int32) PO (4 : Int32) PU PS ky1 (own_put 3 Ls PO.toNatClampNeg pv) Ty61.heap n0 Zy61 fy61_0 (own_pg 3 Ls _ pv M.2) ⟨by decide, by decide⟩) hZ (hw _ (List.mem_of_getElem? (i := 10) rfl)) (hw _ (List.mem_of_getElem? (i := 9) rfl)) (by decide) (by decide)) (g := (mkF m 252 #[.val (.int pf), .val (.int pv), .val (.int pl), .val (.int PO), .val (.int PS), .val (.ref by1), .val (.long PU), .second, .val (.int (4 : Int32)), .val (.int ((((PO + (1 : Int32)) + (1 : Int32)) + (1 : Int32)) + (1 : Int32)))] [(.int PS), (.long PU), (.int (4 : Int32)), (.int PO), (.int (4 : Int32)), (.ref by1)])) rfl (by rw [hml]; rfl) (argsL := [(.ref by1), (.int (4 : Int32)), (.int PO), (.int (4 : Int32)), (.long PU), (.int PS)]) (rest := []) (lenOf pd_1 rfl) rfl (by show 2 * 0 + _ ≤ _; exact Nat.le_of_eq rfl) (hb hby at_252) (fun _ _ => ⟨rfl, eqy65, (by decide : 1 + 0 ≤ _), (by decide : 13 + 0 ≤ _)⟩)
          dsimp only [Pt.U, Pt.locs, Pt.cells, Pt.slots] at Xy66 ly66 yy66 zy66 sty66 hQy66
          have yy66 : ky66 = 1 := yy66
          have zy66 : ny66 = 13 := zy66
          replace Xy66 := recast Xy66 ly66 yy66 zy66
          clear ly66 yy66 zy66
          obtain ⟨rfl, Nqy66, eqy66⟩ := hQy66
          have Ny66 := Fr.app Ny65 Nqy66
          refine Fin.step (sty66) ?_
          show Fin p e below s _ _ _ (Ty66.setTop (mkF m 255 #[.val (.int pf), .val (.int pv), .val (.int pl), .val (.int PO), .val (.int PS), .val (.ref by1), .val (.long PU), .second, .val (.int (4 : Int32)), .val (.int ((((PO + (1 : Int32)) + (1 : Int32)) + (1 : Int32)) + (1 : Int32)))] [(.int (own_at (own_get (own_put 3 Ls PO.toNatClampNeg pv) (4 : Int32).toNatClampNeg) (4 : Int32) PO (4 : Int32) PU PS))]))
          refine Fin.step (fun _ => XS.ifNo Xy66.here hx rfl (hb hby at_255) rfl ((if0 _ _).trans (feq ((own_1 (own_fin 3 (by decide) (4 : Int32) (4 : Int32) PO (by decide) (by decide) hO pv PS Ls M PU hU CL)) : ¬ ((own_at (own_get (own_put 3 Ls PO.toNatClampNeg pv) (4 : Int32).toNatClampNeg) (4 : Int32) PO (4 : Int32) PU PS) = (0 : Int32)))).1)) ?_
          show Fin p e below s _ _ _ (Ty66.setTop (mkF m 258 #[.val (.int pf), .val (.int pv), .val (.int pl), .val (.int PO), .val (.int PS), .val (.ref by1), .val (.long PU), .second, .val (.int (4 : Int32)), .val (.int ((((PO + (1 : Int32)) + (1 : Int32)) + (1 : Int32)) + (1 : Int32)))] []))
          refine Fin.step (fun _ => XS.aload Xy66.here hx rfl (hb hby at_258) rfl rfl) ?_
          show Fin p e below s _ _ _ (Ty66.setTop (mkF m 260 #[.val (.int pf), .val (.int pv), .val (.int pl), .val (.int PO), .val (.int PS), .val (.ref by1), .val (.long PU), .second, .val (.int (4 : Int32)), .val (.int ((((PO + (1 : Int32)) + (1 : Int32)) + (1 : Int32)) + (1 : Int32)))] [(.ref by1)]))
          refine Fin.step (fun _ => XS.iconst Xy66.here hx rfl (hb hby at_260)) ?_
          show Fin p e below s _ _ _ (Ty66.setTop (mkF m 261 #[.val (.int pf), .val (.int pv), .val (.int pl), .val (.int PO), .val (.int PS), .val (.ref by1), .val (.long PU), .second, .val (.int (4 : Int32)), .val (.int ((((PO + (1 : Int32)) + (1 : Int32)) + (1 : Int32)) + (1 : Int32)))] [(.int (5 : Int32)), (.ref by1)]))
          refine Fin.step (fun _ => XS.iloadN Xy66.here hx rfl (hb hby at_261) rfl) ?_
          show Fin p e below s _ _ _ (Ty66.setTop (mkF m 262 #[.val (.int pf), .val (.int pv), .val (.int pl), .val (.int PO), .val (.int PS), .val (.ref by1), .val (.long PU), .second, .val (.int (4 : Int32)), .val (.int ((((PO + (1 : Int32)) + (1 : Int32)) + (1 : Int32)) + (1 : Int32)))] [(.int PO), (.int (5 : Int32)), (.ref by1)]))
          refine Fin.step (fun _ => XS.iload Xy66.here hx rfl (hb hby at_262) rfl) ?_
          show Fin p e below s _ _ _ (Ty66.setTop (mkF m 264 #[.val (.int pf), .val (.int pv), .val (.int pl), .val (.int PO), .val (.int PS), .val (.ref by1), .val (.long PU), .second, .val (.int (4 : Int32)), .val (.int ((((PO + (1 : Int32)) + (1 : Int32)) + (1 : Int32)) + (1 : Int32)))] [(.int (4 : Int32)), (.int PO), (.int (5 : Int32)), (.ref by1)]))
          refine Fin.step (fun _ => XS.lload Xy66.here hx rfl (hb hby at_264) rfl) ?_
          show Fin p e below s _ _ _ (Ty66.setTop (mkF m 266 #[.val (.int pf), .val (.int pv), .val (.int pl), .val (.int PO), .val (.int PS), .val (.ref by1), .val (.long PU), .second, .val (.int (4 : Int32)), .val (.int ((((PO + (1 : Int32)) + (1 : Int32)) + (1 : Int32)) + (1 : Int32)))] [(.long PU), (.int (4 : Int32)), (.int PO), (.int (5 : Int32)), (.ref by1)]))
          refine Fin.step (fun _ => XS.iload Xy66.here hx rfl (hb hby at_266) rfl) ?_
          show Fin p e below s _ _ _ (Ty66.setTop (mkF m 268 #[.val (.int pf), .val (.int pv), .val (.int pl), .val (.int PO), .val (.int PS), .val (.ref by1), .val (.long PU), .second, .val (.int (4 : Int32)), .val (.int ((((PO + (1 : Int32)) + (1 : Int32)) + (1 : Int32)) + (1 : Int32)))] [(.int PS), (.long PU), (.int (4 : Int32)), (.int PO), (.int (5 : Int32)), (.ref by1)]))
          obtain ⟨_, _, ⟨Ty67, Ly67, ky67, ny67⟩, -, Xy67, ⟨Lcy67, hQy67, ly67, yy67, zy67⟩, sty67⟩ := Jvm.LawKit.callS Xy66 hx (y := (⟨"com/example/indexterity/indexterity/index/IndexFormatPutVarIntPinLaw", "at", "([BIIIJB)Z"⟩ : MethodName)) hown (mvT hZ (hw _ (List.mem_of_getElem? (i := 7) rfl))) (mvT hZ (hw _ (List.mem_of_getElem? (i := 8) rfl))) (mvT hZ (hw _ (List.mem_of_getElem? (i := 9) rfl))) (mvT hZ (hw _ (List.mem_of_getElem? (i := 10) rfl))) (by decide) (backOf (W := 0) (rma l Z a0 hw [] by1 (5 : Int32) PO (4 : Int32) PU PS ky1 (own_put 3 Ls PO.toNatClampNeg pv) Ty61.heap n0 Zy61 fy61_0 (own_pg 3 Ls _ pv M.2) ⟨by decide, by decide⟩) hZ (hw _ (List.mem_of_getElem? (i := 10) rfl)) (hw _ (List.mem_of_getElem? (i := 9) rfl)) (by decide) (by decide)) (g := (mkF m 268 #[.val (.int pf), .val (.int pv), .val (.int pl), .val (.int PO), .val (.int PS), .val (.ref by1), .val (.long PU), .second, .val (.int (4 : Int32)), .val (.int ((((PO + (1 : Int32)) + (1 : Int32)) + (1 : Int32)) + (1 : Int32)))] [(.int PS), (.long PU), (.int (4 : Int32)), (.int PO), (.int (5 : Int32)), (.ref by1)])) rfl (by rw [hml]; rfl) (argsL := [(.ref by1), (.int (5 : Int32)), (.int PO), (.int (4 : Int32)), (.long PU), (.int PS)]) (rest := []) (lenOf pd_1 rfl) rfl (by show 2 * 0 + _ ≤ _; exact Nat.le_of_eq rfl) (hb hby at_268) (fun _ _ => ⟨rfl, eqy66, (by decide : 1 + 0 ≤ _), (by decide : 13 + 0 ≤ _)⟩)
          dsimp only [Pt.U, Pt.locs, Pt.cells, Pt.slots] at Xy67 ly67 yy67 zy67 sty67 hQy67
          have yy67 : ky67 = 1 := yy67
          have zy67 : ny67 = 13 := zy67
          replace Xy67 := recast Xy67 ly67 yy67 zy67
          clear ly67 yy67 zy67
          obtain ⟨rfl, Nqy67, eqy67⟩ := hQy67
          have Ny67 := Fr.app Ny66 Nqy67
          refine Fin.step (sty67) ?_
          show Fin p e below s _ _ _ (Ty67.setTop (mkF m 271 #[.val (.int pf), .val (.int pv), .val (.int pl), .val (.int PO), .val (.int PS), .val (.ref by1), .val (.long PU), .second, .val (.int (4 : Int32)), .val (.int ((((PO + (1 : Int32)) + (1 : Int32)) + (1 : Int32)) + (1 : Int32)))] [(.int (own_at (own_get (own_put 3 Ls PO.toNatClampNeg pv) (5 : Int32).toNatClampNeg) (5 : Int32) PO (4 : Int32) PU PS))]))
          refine Fin.step (fun _ => XS.ifNo Xy67.here hx rfl (hb hby at_271) rfl ((if0 _ _).trans (feq ((own_1 (own_fin 3 (by decide) (5 : Int32) (4 : Int32) PO (by decide) (by decide) hO pv PS Ls M PU hU CL)) : ¬ ((own_at (own_get (own_put 3 Ls PO.toNatClampNeg pv) (5 : Int32).toNatClampNeg) (5 : Int32) PO (4 : Int32) PU PS) = (0 : Int32)))).1)) ?_
          show Fin p e below s _ _ _ (Ty67.setTop (mkF m 274 #[.val (.int pf), .val (.int pv), .val (.int pl), .val (.int PO), .val (.int PS), .val (.ref by1), .val (.long PU), .second, .val (.int (4 : Int32)), .val (.int ((((PO + (1 : Int32)) + (1 : Int32)) + (1 : Int32)) + (1 : Int32)))] []))
          refine Fin.step (fun _ => XS.aload Xy67.here hx rfl (hb hby at_274) rfl rfl) ?_
          show Fin p e below s _ _ _ (Ty67.setTop (mkF m 276 #[.val (.int pf), .val (.int pv), .val (.int pl), .val (.int PO), .val (.int PS), .val (.ref by1), .val (.long PU), .second, .val (.int (4 : Int32)), .val (.int ((((PO + (1 : Int32)) + (1 : Int32)) + (1 : Int32)) + (1 : Int32)))] [(.ref by1)]))
          refine Fin.step (fun _ => XS.bipush Xy67.here hx rfl (hb hby at_276)) ?_
          show Fin p e below s _ _ _ (Ty67.setTop (mkF m 278 #[.val (.int pf), .val (.int pv), .val (.int pl), .val (.int PO), .val (.int PS), .val (.ref by1), .val (.long PU), .second, .val (.int (4 : Int32)), .val (.int ((((PO + (1 : Int32)) + (1 : Int32)) + (1 : Int32)) + (1 : Int32)))] [(.int (6 : Int32)), (.ref by1)]))
          refine Fin.step (fun _ => XS.iloadN Xy67.here hx rfl (hb hby at_278) rfl) ?_
          show Fin p e below s _ _ _ (Ty67.setTop (mkF m 279 #[.val (.int pf), .val (.int pv), .val (.int pl), .val (.int PO), .val (.int PS), .val (.ref by1), .val (.long PU), .second, .val (.int (4 : Int32)), .val (.int ((((PO + (1 : Int32)) + (1 : Int32)) + (1 : Int32)) + (1 : Int32)))] [(.int PO), (.int (6 : Int32)), (.ref by1)]))
          refine Fin.step (fun _ => XS.iload Xy67.here hx rfl (hb hby at_279) rfl) ?_
          show Fin p e below s _ _ _ (Ty67.setTop (mkF m 281 #[.val (.int pf), .val (.int pv), .val (.int pl), .val (.int PO), .val (.int PS), .val (.ref by1), .val (.long PU), .second, .val (.int (4 : Int32)), .val (.int ((((PO + (1 : Int32)) + (1 : Int32)) + (1 : Int32)) + (1 : Int32)))] [(.int (4 : Int32)), (.int PO), (.int (6 : Int32)), (.ref by1)]))
          refine Fin.step (fun _ => XS.lload Xy67.here hx rfl (hb hby at_281) rfl) ?_
          show Fin p e below s _ _ _ (Ty67.setTop (mkF m 283 #[.val (.int pf), .val (.int pv), .val (.int pl), .val (.int PO), .val (.int PS), .val (.ref by1), .val (.long PU), .second, .val (.int (4 : Int32)), .val (.int ((((PO + (1 : Int32)) + (1 : Int32)) + (1 : Int32)) + (1 : Int32)))] [(.long PU), (.int (4 : Int32)), (.int PO), (.int (6 : Int32)), (.ref by1)]))
          refine Fin.step (fun _ => XS.iload Xy67.here hx rfl (hb hby at_283) rfl) ?_
          show Fin p e below s _ _ _ (Ty67.setTop (mkF m 285 #[.val (.int pf), .val (.int pv), .val (.int pl), .val (.int PO), .val (.int PS), .val (.ref by1), .val (.long PU), .second, .val (.int (4 : Int32)), .val (.int ((((PO + (1 : Int32)) + (1 : Int32)) + (1 : Int32)) + (1 : Int32)))] [(.int PS), (.long PU), (.int (4 : Int32)), (.int PO), (.int (6 : Int32)), (.ref by1)]))
          obtain ⟨_, _, ⟨Ty68, Ly68, ky68, ny68⟩, -, Xy68, ⟨Lcy68, hQy68, ly68, yy68, zy68⟩, sty68⟩ := Jvm.LawKit.callS Xy67 hx (y := (⟨"com/example/indexterity/indexterity/index/IndexFormatPutVarIntPinLaw", "at", "([BIIIJB)Z"⟩ : MethodName)) hown (mvT hZ (hw _ (List.mem_of_getElem? (i := 7) rfl))) (mvT hZ (hw _ (List.mem_of_getElem? (i := 8) rfl))) (mvT hZ (hw _ (List.mem_of_getElem? (i := 9) rfl))) (mvT hZ (hw _ (List.mem_of_getElem? (i := 10) rfl))) (by decide) (backOf (W := 0) (rma l Z a0 hw [] by1 (6 : Int32) PO (4 : Int32) PU PS ky1 (own_put 3 Ls PO.toNatClampNeg pv) Ty61.heap n0 Zy61 fy61_0 (own_pg 3 Ls _ pv M.2) ⟨by decide, by decide⟩) hZ (hw _ (List.mem_of_getElem? (i := 10) rfl)) (hw _ (List.mem_of_getElem? (i := 9) rfl)) (by decide) (by decide)) (g := (mkF m 285 #[.val (.int pf), .val (.int pv), .val (.int pl), .val (.int PO), .val (.int PS), .val (.ref by1), .val (.long PU), .second, .val (.int (4 : Int32)), .val (.int ((((PO + (1 : Int32)) + (1 : Int32)) + (1 : Int32)) + (1 : Int32)))] [(.int PS), (.long PU), (.int (4 : Int32)), (.int PO), (.int (6 : Int32)), (.ref by1)])) rfl (by rw [hml]; rfl) (argsL := [(.ref by1), (.int (6 : Int32)), (.int PO), (.int (4 : Int32)), (.long PU), (.int PS)]) (rest := []) (lenOf pd_1 rfl) rfl (by show 2 * 0 + _ ≤ _; exact Nat.le_of_eq rfl) (hb hby at_285) (fun _ _ => ⟨rfl, eqy67, (by decide : 1 + 0 ≤ _), (by decide : 13 + 0 ≤ _)⟩)
          dsimp only [Pt.U, Pt.locs, Pt.cells, Pt.slots] at Xy68 ly68 yy68 zy68 sty68 hQy68
          have yy68 : ky68 = 1 := yy68
          have zy68 : ny68 = 13 := zy68
          replace Xy68 := recast Xy68 ly68 yy68 zy68
          clear ly68 yy68 zy68
          obtain ⟨rfl, Nqy68, eqy68⟩ := hQy68
          have Ny68 := Fr.app Ny67 Nqy68
          refine Fin.step (sty68) ?_
          show Fin p e below s _ _ _ (Ty68.setTop (mkF m 288 #[.val (.int pf), .val (.int pv), .val (.int pl), .val (.int PO), .val (.int PS), .val (.ref by1), .val (.long PU), .second, .val (.int (4 : Int32)), .val (.int ((((PO + (1 : Int32)) + (1 : Int32)) + (1 : Int32)) + (1 : Int32)))] [(.int (own_at (own_get (own_put 3 Ls PO.toNatClampNeg pv) (6 : Int32).toNatClampNeg) (6 : Int32) PO (4 : Int32) PU PS))]))
          refine Fin.step (fun _ => XS.ifNo Xy68.here hx rfl (hb hby at_288) rfl ((if0 _ _).trans (feq ((own_1 (own_fin 3 (by decide) (6 : Int32) (4 : Int32) PO (by decide) (by decide) hO pv PS Ls M PU hU CL)) : ¬ ((own_at (own_get (own_put 3 Ls PO.toNatClampNeg pv) (6 : Int32).toNatClampNeg) (6 : Int32) PO (4 : Int32) PU PS) = (0 : Int32)))).1)) ?_
          show Fin p e below s _ _ _ (Ty68.setTop (mkF m 291 #[.val (.int pf), .val (.int pv), .val (.int pl), .val (.int PO), .val (.int PS), .val (.ref by1), .val (.long PU), .second, .val (.int (4 : Int32)), .val (.int ((((PO + (1 : Int32)) + (1 : Int32)) + (1 : Int32)) + (1 : Int32)))] []))
          refine Fin.step (fun _ => XS.aload Xy68.here hx rfl (hb hby at_291) rfl rfl) ?_
          show Fin p e below s _ _ _ (Ty68.setTop (mkF m 293 #[.val (.int pf), .val (.int pv), .val (.int pl), .val (.int PO), .val (.int PS), .val (.ref by1), .val (.long PU), .second, .val (.int (4 : Int32)), .val (.int ((((PO + (1 : Int32)) + (1 : Int32)) + (1 : Int32)) + (1 : Int32)))] [(.ref by1)]))
          refine Fin.step (fun _ => XS.bipush Xy68.here hx rfl (hb hby at_293)) ?_
          show Fin p e below s _ _ _ (Ty68.setTop (mkF m 295 #[.val (.int pf), .val (.int pv), .val (.int pl), .val (.int PO), .val (.int PS), .val (.ref by1), .val (.long PU), .second, .val (.int (4 : Int32)), .val (.int ((((PO + (1 : Int32)) + (1 : Int32)) + (1 : Int32)) + (1 : Int32)))] [(.int (7 : Int32)), (.ref by1)]))
          refine Fin.step (fun _ => XS.iloadN Xy68.here hx rfl (hb hby at_295) rfl) ?_
          show Fin p e below s _ _ _ (Ty68.setTop (mkF m 296 #[.val (.int pf), .val (.int pv), .val (.int pl), .val (.int PO), .val (.int PS), .val (.ref by1), .val (.long PU), .second, .val (.int (4 : Int32)), .val (.int ((((PO + (1 : Int32)) + (1 : Int32)) + (1 : Int32)) + (1 : Int32)))] [(.int PO), (.int (7 : Int32)), (.ref by1)]))
          refine Fin.step (fun _ => XS.iload Xy68.here hx rfl (hb hby at_296) rfl) ?_
          show Fin p e below s _ _ _ (Ty68.setTop (mkF m 298 #[.val (.int pf), .val (.int pv), .val (.int pl), .val (.int PO), .val (.int PS), .val (.ref by1), .val (.long PU), .second, .val (.int (4 : Int32)), .val (.int ((((PO + (1 : Int32)) + (1 : Int32)) + (1 : Int32)) + (1 : Int32)))] [(.int (4 : Int32)), (.int PO), (.int (7 : Int32)), (.ref by1)]))
          refine Fin.step (fun _ => XS.lload Xy68.here hx rfl (hb hby at_298) rfl) ?_
          show Fin p e below s _ _ _ (Ty68.setTop (mkF m 300 #[.val (.int pf), .val (.int pv), .val (.int pl), .val (.int PO), .val (.int PS), .val (.ref by1), .val (.long PU), .second, .val (.int (4 : Int32)), .val (.int ((((PO + (1 : Int32)) + (1 : Int32)) + (1 : Int32)) + (1 : Int32)))] [(.long PU), (.int (4 : Int32)), (.int PO), (.int (7 : Int32)), (.ref by1)]))
          refine Fin.step (fun _ => XS.iload Xy68.here hx rfl (hb hby at_300) rfl) ?_
          show Fin p e below s _ _ _ (Ty68.setTop (mkF m 302 #[.val (.int pf), .val (.int pv), .val (.int pl), .val (.int PO), .val (.int PS), .val (.ref by1), .val (.long PU), .second, .val (.int (4 : Int32)), .val (.int ((((PO + (1 : Int32)) + (1 : Int32)) + (1 : Int32)) + (1 : Int32)))] [(.int PS), (.long PU), (.int (4 : Int32)), (.int PO), (.int (7 : Int32)), (.ref by1)]))
          obtain ⟨_, _, ⟨Ty69, Ly69, ky69, ny69⟩, -, Xy69, ⟨Lcy69, hQy69, ly69, yy69, zy69⟩, sty69⟩ := Jvm.LawKit.callS Xy68 hx (y := (⟨"com/example/indexterity/indexterity/index/IndexFormatPutVarIntPinLaw", "at", "([BIIIJB)Z"⟩ : MethodName)) hown (mvT hZ (hw _ (List.mem_of_getElem? (i := 7) rfl))) (mvT hZ (hw _ (List.mem_of_getElem? (i := 8) rfl))) (mvT hZ (hw _ (List.mem_of_getElem? (i := 9) rfl))) (mvT hZ (hw _ (List.mem_of_getElem? (i := 10) rfl))) (by decide) (backOf (W := 0) (rma l Z a0 hw [] by1 (7 : Int32) PO (4 : Int32) PU PS ky1 (own_put 3 Ls PO.toNatClampNeg pv) Ty61.heap n0 Zy61 fy61_0 (own_pg 3 Ls _ pv M.2) ⟨by decide, by decide⟩) hZ (hw _ (List.mem_of_getElem? (i := 10) rfl)) (hw _ (List.mem_of_getElem? (i := 9) rfl)) (by decide) (by decide)) (g := (mkF m 302 #[.val (.int pf), .val (.int pv), .val (.int pl), .val (.int PO), .val (.int PS), .val (.ref by1), .val (.long PU), .second, .val (.int (4 : Int32)), .val (.int ((((PO + (1 : Int32)) + (1 : Int32)) + (1 : Int32)) + (1 : Int32)))] [(.int PS), (.long PU), (.int (4 : Int32)), (.int PO), (.int (7 : Int32)), (.ref by1)])) rfl (by rw [hml]; rfl) (argsL := [(.ref by1), (.int (7 : Int32)), (.int PO), (.int (4 : Int32)), (.long PU), (.int PS)]) (rest := []) (lenOf pd_1 rfl) rfl (by show 2 * 0 + _ ≤ _; exact Nat.le_of_eq rfl) (hb hby at_302) (fun _ _ => ⟨rfl, eqy68, (by decide : 1 + 0 ≤ _), (by decide : 13 + 0 ≤ _)⟩)
          dsimp only [Pt.U, Pt.locs, Pt.cells, Pt.slots] at Xy69 ly69 yy69 zy69 sty69 hQy69
          have yy69 : ky69 = 1 := yy69
          have zy69 : ny69 = 13 := zy69
          replace Xy69 := recast Xy69 ly69 yy69 zy69
          clear ly69 yy69 zy69
          obtain ⟨rfl, Nqy69, eqy69⟩ := hQy69
          have Ny69 := Fr.app Ny68 Nqy69
          refine Fin.step (sty69) ?_
          show Fin p e below s _ _ _ (Ty69.setTop (mkF m 305 #[.val (.int pf), .val (.int pv), .val (.int pl), .val (.int PO), .val (.int PS), .val (.ref by1), .val (.long PU), .second, .val (.int (4 : Int32)), .val (.int ((((PO + (1 : Int32)) + (1 : Int32)) + (1 : Int32)) + (1 : Int32)))] [(.int (own_at (own_get (own_put 3 Ls PO.toNatClampNeg pv) (7 : Int32).toNatClampNeg) (7 : Int32) PO (4 : Int32) PU PS))]))
          refine Fin.step (fun _ => XS.ifNo Xy69.here hx rfl (hb hby at_305) rfl ((if0 _ _).trans (feq ((own_1 (own_fin 3 (by decide) (7 : Int32) (4 : Int32) PO (by decide) (by decide) hO pv PS Ls M PU hU CL)) : ¬ ((own_at (own_get (own_put 3 Ls PO.toNatClampNeg pv) (7 : Int32).toNatClampNeg) (7 : Int32) PO (4 : Int32) PU PS) = (0 : Int32)))).1)) ?_
          show Fin p e below s _ _ _ (Ty69.setTop (mkF m 308 #[.val (.int pf), .val (.int pv), .val (.int pl), .val (.int PO), .val (.int PS), .val (.ref by1), .val (.long PU), .second, .val (.int (4 : Int32)), .val (.int ((((PO + (1 : Int32)) + (1 : Int32)) + (1 : Int32)) + (1 : Int32)))] []))
          refine Fin.step (fun _ => XS.aload Xy69.here hx rfl (hb hby at_308) rfl rfl) ?_
          show Fin p e below s _ _ _ (Ty69.setTop (mkF m 310 #[.val (.int pf), .val (.int pv), .val (.int pl), .val (.int PO), .val (.int PS), .val (.ref by1), .val (.long PU), .second, .val (.int (4 : Int32)), .val (.int ((((PO + (1 : Int32)) + (1 : Int32)) + (1 : Int32)) + (1 : Int32)))] [(.ref by1)]))
          refine Fin.step (fun _ => XS.bipush Xy69.here hx rfl (hb hby at_310)) ?_
          show Fin p e below s _ _ _ (Ty69.setTop (mkF m 312 #[.val (.int pf), .val (.int pv), .val (.int pl), .val (.int PO), .val (.int PS), .val (.ref by1), .val (.long PU), .second, .val (.int (4 : Int32)), .val (.int ((((PO + (1 : Int32)) + (1 : Int32)) + (1 : Int32)) + (1 : Int32)))] [(.int (8 : Int32)), (.ref by1)]))
          refine Fin.step (fun _ => XS.iloadN Xy69.here hx rfl (hb hby at_312) rfl) ?_
          show Fin p e below s _ _ _ (Ty69.setTop (mkF m 313 #[.val (.int pf), .val (.int pv), .val (.int pl), .val (.int PO), .val (.int PS), .val (.ref by1), .val (.long PU), .second, .val (.int (4 : Int32)), .val (.int ((((PO + (1 : Int32)) + (1 : Int32)) + (1 : Int32)) + (1 : Int32)))] [(.int PO), (.int (8 : Int32)), (.ref by1)]))
          refine Fin.step (fun _ => XS.iload Xy69.here hx rfl (hb hby at_313) rfl) ?_
          show Fin p e below s _ _ _ (Ty69.setTop (mkF m 315 #[.val (.int pf), .val (.int pv), .val (.int pl), .val (.int PO), .val (.int PS), .val (.ref by1), .val (.long PU), .second, .val (.int (4 : Int32)), .val (.int ((((PO + (1 : Int32)) + (1 : Int32)) + (1 : Int32)) + (1 : Int32)))] [(.int (4 : Int32)), (.int PO), (.int (8 : Int32)), (.ref by1)]))
          refine Fin.step (fun _ => XS.lload Xy69.here hx rfl (hb hby at_315) rfl) ?_
          show Fin p e below s _ _ _ (Ty69.setTop (mkF m 317 #[.val (.int pf), .val (.int pv), .val (.int pl), .val (.int PO), .val (.int PS), .val (.ref by1), .val (.long PU), .second, .val (.int (4 : Int32)), .val (.int ((((PO + (1 : Int32)) + (1 : Int32)) + (1 : Int32)) + (1 : Int32)))] [(.long PU), (.int (4 : Int32)), (.int PO), (.int (8 : Int32)), (.ref by1)]))
          refine Fin.step (fun _ => XS.iload Xy69.here hx rfl (hb hby at_317) rfl) ?_
          show Fin p e below s _ _ _ (Ty69.setTop (mkF m 319 #[.val (.int pf), .val (.int pv), .val (.int pl), .val (.int PO), .val (.int PS), .val (.ref by1), .val (.long PU), .second, .val (.int (4 : Int32)), .val (.int ((((PO + (1 : Int32)) + (1 : Int32)) + (1 : Int32)) + (1 : Int32)))] [(.int PS), (.long PU), (.int (4 : Int32)), (.int PO), (.int (8 : Int32)), (.ref by1)]))
          obtain ⟨_, _, ⟨Ty70, Ly70, ky70, ny70⟩, -, Xy70, ⟨Lcy70, hQy70, ly70, yy70, zy70⟩, sty70⟩ := Jvm.LawKit.callS Xy69 hx (y := (⟨"com/example/indexterity/indexterity/index/IndexFormatPutVarIntPinLaw", "at", "([BIIIJB)Z"⟩ : MethodName)) hown (mvT hZ (hw _ (List.mem_of_getElem? (i := 7) rfl))) (mvT hZ (hw _ (List.mem_of_getElem? (i := 8) rfl))) (mvT hZ (hw _ (List.mem_of_getElem? (i := 9) rfl))) (mvT hZ (hw _ (List.mem_of_getElem? (i := 10) rfl))) (by decide) (backOf (W := 0) (rma l Z a0 hw [] by1 (8 : Int32) PO (4 : Int32) PU PS ky1 (own_put 3 Ls PO.toNatClampNeg pv) Ty61.heap n0 Zy61 fy61_0 (own_pg 3 Ls _ pv M.2) ⟨by decide, by decide⟩) hZ (hw _ (List.mem_of_getElem? (i := 10) rfl)) (hw _ (List.mem_of_getElem? (i := 9) rfl)) (by decide) (by decide)) (g := (mkF m 319 #[.val (.int pf), .val (.int pv), .val (.int pl), .val (.int PO), .val (.int PS), .val (.ref by1), .val (.long PU), .second, .val (.int (4 : Int32)), .val (.int ((((PO + (1 : Int32)) + (1 : Int32)) + (1 : Int32)) + (1 : Int32)))] [(.int PS), (.long PU), (.int (4 : Int32)), (.int PO), (.int (8 : Int32)), (.ref by1)])) rfl (by rw [hml]; rfl) (argsL := [(.ref by1), (.int (8 : Int32)), (.int PO), (.int (4 : Int32)), (.long PU), (.int PS)]) (rest := []) (lenOf pd_1 rfl) rfl (by show 2 * 0 + _ ≤ _; exact Nat.le_of_eq rfl) (hb hby at_319) (fun _ _ => ⟨rfl, eqy69, (by decide : 1 + 0 ≤ _), (by decide : 13 + 0 ≤ _)⟩)
          dsimp only [Pt.U, Pt.locs, Pt.cells, Pt.slots] at Xy70 ly70 yy70 zy70 sty70 hQy70
          have yy70 : ky70 = 1 := yy70
          have zy70 : ny70 = 13 := zy70
          replace Xy70 := recast Xy70 ly70 yy70 zy70
          clear ly70 yy70 zy70
          obtain ⟨rfl, Nqy70, eqy70⟩ := hQy70
          have Ny70 := Fr.app Ny69 Nqy70
          refine Fin.step (sty70) ?_
          show Fin p e below s _ _ _ (Ty70.setTop (mkF m 322 #[.val (.int pf), .val (.int pv), .val (.int pl), .val (.int PO), .val (.int PS), .val (.ref by1), .val (.long PU), .second, .val (.int (4 : Int32)), .val (.int ((((PO + (1 : Int32)) + (1 : Int32)) + (1 : Int32)) + (1 : Int32)))] [(.int (own_at (own_get (own_put 3 Ls PO.toNatClampNeg pv) (8 : Int32).toNatClampNeg) (8 : Int32) PO (4 : Int32) PU PS))]))
          refine Fin.step (fun _ => XS.ifNo Xy70.here hx rfl (hb hby at_322) rfl ((if0 _ _).trans (feq ((own_1 (own_fin 3 (by decide) (8 : Int32) (4 : Int32) PO (by decide) (by decide) hO pv PS Ls M PU hU CL)) : ¬ ((own_at (own_get (own_put 3 Ls PO.toNatClampNeg pv) (8 : Int32).toNatClampNeg) (8 : Int32) PO (4 : Int32) PU PS) = (0 : Int32)))).1)) ?_
          show Fin p e below s _ _ _ (Ty70.setTop (mkF m 325 #[.val (.int pf), .val (.int pv), .val (.int pl), .val (.int PO), .val (.int PS), .val (.ref by1), .val (.long PU), .second, .val (.int (4 : Int32)), .val (.int ((((PO + (1 : Int32)) + (1 : Int32)) + (1 : Int32)) + (1 : Int32)))] []))
          refine Fin.step (fun _ => XS.aload Xy70.here hx rfl (hb hby at_325) rfl rfl) ?_
          show Fin p e below s _ _ _ (Ty70.setTop (mkF m 327 #[.val (.int pf), .val (.int pv), .val (.int pl), .val (.int PO), .val (.int PS), .val (.ref by1), .val (.long PU), .second, .val (.int (4 : Int32)), .val (.int ((((PO + (1 : Int32)) + (1 : Int32)) + (1 : Int32)) + (1 : Int32)))] [(.ref by1)]))
          refine Fin.step (fun _ => XS.bipush Xy70.here hx rfl (hb hby at_327)) ?_
          show Fin p e below s _ _ _ (Ty70.setTop (mkF m 329 #[.val (.int pf), .val (.int pv), .val (.int pl), .val (.int PO), .val (.int PS), .val (.ref by1), .val (.long PU), .second, .val (.int (4 : Int32)), .val (.int ((((PO + (1 : Int32)) + (1 : Int32)) + (1 : Int32)) + (1 : Int32)))] [(.int (9 : Int32)), (.ref by1)]))
          refine Fin.step (fun _ => XS.iloadN Xy70.here hx rfl (hb hby at_329) rfl) ?_
          show Fin p e below s _ _ _ (Ty70.setTop (mkF m 330 #[.val (.int pf), .val (.int pv), .val (.int pl), .val (.int PO), .val (.int PS), .val (.ref by1), .val (.long PU), .second, .val (.int (4 : Int32)), .val (.int ((((PO + (1 : Int32)) + (1 : Int32)) + (1 : Int32)) + (1 : Int32)))] [(.int PO), (.int (9 : Int32)), (.ref by1)]))
          refine Fin.step (fun _ => XS.iload Xy70.here hx rfl (hb hby at_330) rfl) ?_
          show Fin p e below s _ _ _ (Ty70.setTop (mkF m 332 #[.val (.int pf), .val (.int pv), .val (.int pl), .val (.int PO), .val (.int PS), .val (.ref by1), .val (.long PU), .second, .val (.int (4 : Int32)), .val (.int ((((PO + (1 : Int32)) + (1 : Int32)) + (1 : Int32)) + (1 : Int32)))] [(.int (4 : Int32)), (.int PO), (.int (9 : Int32)), (.ref by1)]))
          refine Fin.step (fun _ => XS.lload Xy70.here hx rfl (hb hby at_332) rfl) ?_
          show Fin p e below s _ _ _ (Ty70.setTop (mkF m 334 #[.val (.int pf), .val (.int pv), .val (.int pl), .val (.int PO), .val (.int PS), .val (.ref by1), .val (.long PU), .second, .val (.int (4 : Int32)), .val (.int ((((PO + (1 : Int32)) + (1 : Int32)) + (1 : Int32)) + (1 : Int32)))] [(.long PU), (.int (4 : Int32)), (.int PO), (.int (9 : Int32)), (.ref by1)]))
          refine Fin.step (fun _ => XS.iload Xy70.here hx rfl (hb hby at_334) rfl) ?_
          show Fin p e below s _ _ _ (Ty70.setTop (mkF m 336 #[.val (.int pf), .val (.int pv), .val (.int pl), .val (.int PO), .val (.int PS), .val (.ref by1), .val (.long PU), .second, .val (.int (4 : Int32)), .val (.int ((((PO + (1 : Int32)) + (1 : Int32)) + (1 : Int32)) + (1 : Int32)))] [(.int PS), (.long PU), (.int (4 : Int32)), (.int PO), (.int (9 : Int32)), (.ref by1)]))
          obtain ⟨_, _, ⟨Ty71, Ly71, ky71, ny71⟩, -, Xy71, ⟨Lcy71, hQy71, ly71, yy71, zy71⟩, sty71⟩ := Jvm.LawKit.callS Xy70 hx (y := (⟨"com/example/indexterity/indexterity/index/IndexFormatPutVarIntPinLaw", "at", "([BIIIJB)Z"⟩ : MethodName)) hown (mvT hZ (hw _ (List.mem_of_getElem? (i := 7) rfl))) (mvT hZ (hw _ (List.mem_of_getElem? (i := 8) rfl))) (mvT hZ (hw _ (List.mem_of_getElem? (i := 9) rfl))) (mvT hZ (hw _ (List.mem_of_getElem? (i := 10) rfl))) (by decide) (backOf (W := 0) (rma l Z a0 hw [] by1 (9 : Int32) PO (4 : Int32) PU PS ky1 (own_put 3 Ls PO.toNatClampNeg pv) Ty61.heap n0 Zy61 fy61_0 (own_pg 3 Ls _ pv M.2) ⟨by decide, by decide⟩) hZ (hw _ (List.mem_of_getElem? (i := 10) rfl)) (hw _ (List.mem_of_getElem? (i := 9) rfl)) (by decide) (by decide)) (g := (mkF m 336 #[.val (.int pf), .val (.int pv), .val (.int pl), .val (.int PO), .val (.int PS), .val (.ref by1), .val (.long PU), .second, .val (.int (4 : Int32)), .val (.int ((((PO + (1 : Int32)) + (1 : Int32)) + (1 : Int32)) + (1 : Int32)))] [(.int PS), (.long PU), (.int (4 : Int32)), (.int PO), (.int (9 : Int32)), (.ref by1)])) rfl (by rw [hml]; rfl) (argsL := [(.ref by1), (.int (9 : Int32)), (.int PO), (.int (4 : Int32)), (.long PU), (.int PS)]) (rest := []) (lenOf pd_1 rfl) rfl (by show 2 * 0 + _ ≤ _; exact Nat.le_of_eq rfl) (hb hby at_336) (fun _ _ => ⟨rfl, eqy70, (by decide : 1 + 0 ≤ _), (by decide : 13 + 0 ≤ _)⟩)
          dsimp only [Pt.U, Pt.locs, Pt.cells, Pt.slots] at Xy71 ly71 yy71 zy71 sty71 hQy71
          have yy71 : ky71 = 1 := yy71
          have zy71 : ny71 = 13 := zy71
          replace Xy71 := recast Xy71 ly71 yy71 zy71
          clear ly71 yy71 zy71
          obtain ⟨rfl, Nqy71, eqy71⟩ := hQy71
          have Ny71 := Fr.app Ny70 Nqy71
          refine Fin.step (sty71) ?_
          show Fin p e below s _ _ _ (Ty71.setTop (mkF m 339 #[.val (.int pf), .val (.int pv), .val (.int pl), .val (.int PO), .val (.int PS), .val (.ref by1), .val (.long PU), .second, .val (.int (4 : Int32)), .val (.int ((((PO + (1 : Int32)) + (1 : Int32)) + (1 : Int32)) + (1 : Int32)))] [(.int (own_at (own_get (own_put 3 Ls PO.toNatClampNeg pv) (9 : Int32).toNatClampNeg) (9 : Int32) PO (4 : Int32) PU PS))]))
          refine Fin.step (fun _ => XS.ifNo Xy71.here hx rfl (hb hby at_339) rfl ((if0 _ _).trans (feq ((own_1 (own_fin 3 (by decide) (9 : Int32) (4 : Int32) PO (by decide) (by decide) hO pv PS Ls M PU hU CL)) : ¬ ((own_at (own_get (own_put 3 Ls PO.toNatClampNeg pv) (9 : Int32).toNatClampNeg) (9 : Int32) PO (4 : Int32) PU PS) = (0 : Int32)))).1)) ?_
          show Fin p e below s _ _ _ (Ty71.setTop (mkF m 342 #[.val (.int pf), .val (.int pv), .val (.int pl), .val (.int PO), .val (.int PS), .val (.ref by1), .val (.long PU), .second, .val (.int (4 : Int32)), .val (.int ((((PO + (1 : Int32)) + (1 : Int32)) + (1 : Int32)) + (1 : Int32)))] []))
          refine Fin.step (fun _ => XS.aload Xy71.here hx rfl (hb hby at_342) rfl rfl) ?_
          show Fin p e below s _ _ _ (Ty71.setTop (mkF m 344 #[.val (.int pf), .val (.int pv), .val (.int pl), .val (.int PO), .val (.int PS), .val (.ref by1), .val (.long PU), .second, .val (.int (4 : Int32)), .val (.int ((((PO + (1 : Int32)) + (1 : Int32)) + (1 : Int32)) + (1 : Int32)))] [(.ref by1)]))
          refine Fin.step (fun _ => XS.bipush Xy71.here hx rfl (hb hby at_344)) ?_
          show Fin p e below s _ _ _ (Ty71.setTop (mkF m 346 #[.val (.int pf), .val (.int pv), .val (.int pl), .val (.int PO), .val (.int PS), .val (.ref by1), .val (.long PU), .second, .val (.int (4 : Int32)), .val (.int ((((PO + (1 : Int32)) + (1 : Int32)) + (1 : Int32)) + (1 : Int32)))] [(.int (10 : Int32)), (.ref by1)]))
          refine Fin.step (fun _ => XS.iloadN Xy71.here hx rfl (hb hby at_346) rfl) ?_
          show Fin p e below s _ _ _ (Ty71.setTop (mkF m 347 #[.val (.int pf), .val (.int pv), .val (.int pl), .val (.int PO), .val (.int PS), .val (.ref by1), .val (.long PU), .second, .val (.int (4 : Int32)), .val (.int ((((PO + (1 : Int32)) + (1 : Int32)) + (1 : Int32)) + (1 : Int32)))] [(.int PO), (.int (10 : Int32)), (.ref by1)]))
          refine Fin.step (fun _ => XS.iload Xy71.here hx rfl (hb hby at_347) rfl) ?_
          show Fin p e below s _ _ _ (Ty71.setTop (mkF m 349 #[.val (.int pf), .val (.int pv), .val (.int pl), .val (.int PO), .val (.int PS), .val (.ref by1), .val (.long PU), .second, .val (.int (4 : Int32)), .val (.int ((((PO + (1 : Int32)) + (1 : Int32)) + (1 : Int32)) + (1 : Int32)))] [(.int (4 : Int32)), (.int PO), (.int (10 : Int32)), (.ref by1)]))
          refine Fin.step (fun _ => XS.lload Xy71.here hx rfl (hb hby at_349) rfl) ?_
          show Fin p e below s _ _ _ (Ty71.setTop (mkF m 351 #[.val (.int pf), .val (.int pv), .val (.int pl), .val (.int PO), .val (.int PS), .val (.ref by1), .val (.long PU), .second, .val (.int (4 : Int32)), .val (.int ((((PO + (1 : Int32)) + (1 : Int32)) + (1 : Int32)) + (1 : Int32)))] [(.long PU), (.int (4 : Int32)), (.int PO), (.int (10 : Int32)), (.ref by1)]))
          refine Fin.step (fun _ => XS.iload Xy71.here hx rfl (hb hby at_351) rfl) ?_
          show Fin p e below s _ _ _ (Ty71.setTop (mkF m 353 #[.val (.int pf), .val (.int pv), .val (.int pl), .val (.int PO), .val (.int PS), .val (.ref by1), .val (.long PU), .second, .val (.int (4 : Int32)), .val (.int ((((PO + (1 : Int32)) + (1 : Int32)) + (1 : Int32)) + (1 : Int32)))] [(.int PS), (.long PU), (.int (4 : Int32)), (.int PO), (.int (10 : Int32)), (.ref by1)]))
          obtain ⟨_, _, ⟨Ty72, Ly72, ky72, ny72⟩, -, Xy72, ⟨Lcy72, hQy72, ly72, yy72, zy72⟩, sty72⟩ := Jvm.LawKit.callS Xy71 hx (y := (⟨"com/example/indexterity/indexterity/index/IndexFormatPutVarIntPinLaw", "at", "([BIIIJB)Z"⟩ : MethodName)) hown (mvT hZ (hw _ (List.mem_of_getElem? (i := 7) rfl))) (mvT hZ (hw _ (List.mem_of_getElem? (i := 8) rfl))) (mvT hZ (hw _ (List.mem_of_getElem? (i := 9) rfl))) (mvT hZ (hw _ (List.mem_of_getElem? (i := 10) rfl))) (by decide) (backOf (W := 0) (rma l Z a0 hw [] by1 (10 : Int32) PO (4 : Int32) PU PS ky1 (own_put 3 Ls PO.toNatClampNeg pv) Ty61.heap n0 Zy61 fy61_0 (own_pg 3 Ls _ pv M.2) ⟨by decide, by decide⟩) hZ (hw _ (List.mem_of_getElem? (i := 10) rfl)) (hw _ (List.mem_of_getElem? (i := 9) rfl)) (by decide) (by decide)) (g := (mkF m 353 #[.val (.int pf), .val (.int pv), .val (.int pl), .val (.int PO), .val (.int PS), .val (.ref by1), .val (.long PU), .second, .val (.int (4 : Int32)), .val (.int ((((PO + (1 : Int32)) + (1 : Int32)) + (1 : Int32)) + (1 : Int32)))] [(.int PS), (.long PU), (.int (4 : Int32)), (.int PO), (.int (10 : Int32)), (.ref by1)])) rfl (by rw [hml]; rfl) (argsL := [(.ref by1), (.int (10 : Int32)), (.int PO), (.int (4 : Int32)), (.long PU), (.int PS)]) (rest := []) (lenOf pd_1 rfl) rfl (by show 2 * 0 + _ ≤ _; exact Nat.le_of_eq rfl) (hb hby at_353) (fun _ _ => ⟨rfl, eqy71, (by decide : 1 + 0 ≤ _), (by decide : 13 + 0 ≤ _)⟩)
          dsimp only [Pt.U, Pt.locs, Pt.cells, Pt.slots] at Xy72 ly72 yy72 zy72 sty72 hQy72
          have yy72 : ky72 = 1 := yy72
          have zy72 : ny72 = 13 := zy72
          replace Xy72 := recast Xy72 ly72 yy72 zy72
          clear ly72 yy72 zy72
          obtain ⟨rfl, Nqy72, eqy72⟩ := hQy72
          have Ny72 := Fr.app Ny71 Nqy72
          refine Fin.step (sty72) ?_
          show Fin p e below s _ _ _ (Ty72.setTop (mkF m 356 #[.val (.int pf), .val (.int pv), .val (.int pl), .val (.int PO), .val (.int PS), .val (.ref by1), .val (.long PU), .second, .val (.int (4 : Int32)), .val (.int ((((PO + (1 : Int32)) + (1 : Int32)) + (1 : Int32)) + (1 : Int32)))] [(.int (own_at (own_get (own_put 3 Ls PO.toNatClampNeg pv) (10 : Int32).toNatClampNeg) (10 : Int32) PO (4 : Int32) PU PS))]))
          refine Fin.step (fun _ => XS.ifNo Xy72.here hx rfl (hb hby at_356) rfl ((if0 _ _).trans (feq ((own_1 (own_fin 3 (by decide) (10 : Int32) (4 : Int32) PO (by decide) (by decide) hO pv PS Ls M PU hU CL)) : ¬ ((own_at (own_get (own_put 3 Ls PO.toNatClampNeg pv) (10 : Int32).toNatClampNeg) (10 : Int32) PO (4 : Int32) PU PS) = (0 : Int32)))).1)) ?_
          show Fin p e below s _ _ _ (Ty72.setTop (mkF m 359 #[.val (.int pf), .val (.int pv), .val (.int pl), .val (.int PO), .val (.int PS), .val (.ref by1), .val (.long PU), .second, .val (.int (4 : Int32)), .val (.int ((((PO + (1 : Int32)) + (1 : Int32)) + (1 : Int32)) + (1 : Int32)))] []))
          refine Fin.step (fun _ => XS.aload Xy72.here hx rfl (hb hby at_359) rfl rfl) ?_
          show Fin p e below s _ _ _ (Ty72.setTop (mkF m 361 #[.val (.int pf), .val (.int pv), .val (.int pl), .val (.int PO), .val (.int PS), .val (.ref by1), .val (.long PU), .second, .val (.int (4 : Int32)), .val (.int ((((PO + (1 : Int32)) + (1 : Int32)) + (1 : Int32)) + (1 : Int32)))] [(.ref by1)]))
          refine Fin.step (fun _ => XS.bipush Xy72.here hx rfl (hb hby at_361)) ?_
          show Fin p e below s _ _ _ (Ty72.setTop (mkF m 363 #[.val (.int pf), .val (.int pv), .val (.int pl), .val (.int PO), .val (.int PS), .val (.ref by1), .val (.long PU), .second, .val (.int (4 : Int32)), .val (.int ((((PO + (1 : Int32)) + (1 : Int32)) + (1 : Int32)) + (1 : Int32)))] [(.int (11 : Int32)), (.ref by1)]))
          refine Fin.step (fun _ => XS.iloadN Xy72.here hx rfl (hb hby at_363) rfl) ?_
          show Fin p e below s _ _ _ (Ty72.setTop (mkF m 364 #[.val (.int pf), .val (.int pv), .val (.int pl), .val (.int PO), .val (.int PS), .val (.ref by1), .val (.long PU), .second, .val (.int (4 : Int32)), .val (.int ((((PO + (1 : Int32)) + (1 : Int32)) + (1 : Int32)) + (1 : Int32)))] [(.int PO), (.int (11 : Int32)), (.ref by1)]))
          refine Fin.step (fun _ => XS.iload Xy72.here hx rfl (hb hby at_364) rfl) ?_
          show Fin p e below s _ _ _ (Ty72.setTop (mkF m 366 #[.val (.int pf), .val (.int pv), .val (.int pl), .val (.int PO), .val (.int PS), .val (.ref by1), .val (.long PU), .second, .val (.int (4 : Int32)), .val (.int ((((PO + (1 : Int32)) + (1 : Int32)) + (1 : Int32)) + (1 : Int32)))] [(.int (4 : Int32)), (.int PO), (.int (11 : Int32)), (.ref by1)]))
          refine Fin.step (fun _ => XS.lload Xy72.here hx rfl (hb hby at_366) rfl) ?_
          show Fin p e below s _ _ _ (Ty72.setTop (mkF m 368 #[.val (.int pf), .val (.int pv), .val (.int pl), .val (.int PO), .val (.int PS), .val (.ref by1), .val (.long PU), .second, .val (.int (4 : Int32)), .val (.int ((((PO + (1 : Int32)) + (1 : Int32)) + (1 : Int32)) + (1 : Int32)))] [(.long PU), (.int (4 : Int32)), (.int PO), (.int (11 : Int32)), (.ref by1)]))
          refine Fin.step (fun _ => XS.iload Xy72.here hx rfl (hb hby at_368) rfl) ?_
          show Fin p e below s _ _ _ (Ty72.setTop (mkF m 370 #[.val (.int pf), .val (.int pv), .val (.int pl), .val (.int PO), .val (.int PS), .val (.ref by1), .val (.long PU), .second, .val (.int (4 : Int32)), .val (.int ((((PO + (1 : Int32)) + (1 : Int32)) + (1 : Int32)) + (1 : Int32)))] [(.int PS), (.long PU), (.int (4 : Int32)), (.int PO), (.int (11 : Int32)), (.ref by1)]))
          obtain ⟨_, _, ⟨Ty73, Ly73, ky73, ny73⟩, -, Xy73, ⟨Lcy73, hQy73, ly73, yy73, zy73⟩, sty73⟩ := Jvm.LawKit.callS Xy72 hx (y := (⟨"com/example/indexterity/indexterity/index/IndexFormatPutVarIntPinLaw", "at", "([BIIIJB)Z"⟩ : MethodName)) hown (mvT hZ (hw _ (List.mem_of_getElem? (i := 7) rfl))) (mvT hZ (hw _ (List.mem_of_getElem? (i := 8) rfl))) (mvT hZ (hw _ (List.mem_of_getElem? (i := 9) rfl))) (mvT hZ (hw _ (List.mem_of_getElem? (i := 10) rfl))) (by decide) (backOf (W := 0) (rma l Z a0 hw [] by1 (11 : Int32) PO (4 : Int32) PU PS ky1 (own_put 3 Ls PO.toNatClampNeg pv) Ty61.heap n0 Zy61 fy61_0 (own_pg 3 Ls _ pv M.2) ⟨by decide, by decide⟩) hZ (hw _ (List.mem_of_getElem? (i := 10) rfl)) (hw _ (List.mem_of_getElem? (i := 9) rfl)) (by decide) (by decide)) (g := (mkF m 370 #[.val (.int pf), .val (.int pv), .val (.int pl), .val (.int PO), .val (.int PS), .val (.ref by1), .val (.long PU), .second, .val (.int (4 : Int32)), .val (.int ((((PO + (1 : Int32)) + (1 : Int32)) + (1 : Int32)) + (1 : Int32)))] [(.int PS), (.long PU), (.int (4 : Int32)), (.int PO), (.int (11 : Int32)), (.ref by1)])) rfl (by rw [hml]; rfl) (argsL := [(.ref by1), (.int (11 : Int32)), (.int PO), (.int (4 : Int32)), (.long PU), (.int PS)]) (rest := []) (lenOf pd_1 rfl) rfl (by show 2 * 0 + _ ≤ _; exact Nat.le_of_eq rfl) (hb hby at_370) (fun _ _ => ⟨rfl, eqy72, (by decide : 1 + 0 ≤ _), (by decide : 13 + 0 ≤ _)⟩)
          dsimp only [Pt.U, Pt.locs, Pt.cells, Pt.slots] at Xy73 ly73 yy73 zy73 sty73 hQy73
          have yy73 : ky73 = 1 := yy73
          have zy73 : ny73 = 13 := zy73
          replace Xy73 := recast Xy73 ly73 yy73 zy73
          clear ly73 yy73 zy73
          obtain ⟨rfl, Nqy73, eqy73⟩ := hQy73
          have Ny73 := Fr.app Ny72 Nqy73
          refine Fin.step (sty73) ?_
          show Fin p e below s _ _ _ (Ty73.setTop (mkF m 373 #[.val (.int pf), .val (.int pv), .val (.int pl), .val (.int PO), .val (.int PS), .val (.ref by1), .val (.long PU), .second, .val (.int (4 : Int32)), .val (.int ((((PO + (1 : Int32)) + (1 : Int32)) + (1 : Int32)) + (1 : Int32)))] [(.int (own_at (own_get (own_put 3 Ls PO.toNatClampNeg pv) (11 : Int32).toNatClampNeg) (11 : Int32) PO (4 : Int32) PU PS))]))
          refine Fin.step (fun _ => XS.ifNo Xy73.here hx rfl (hb hby at_373) rfl ((if0 _ _).trans (feq ((own_1 (own_fin 3 (by decide) (11 : Int32) (4 : Int32) PO (by decide) (by decide) hO pv PS Ls M PU hU CL)) : ¬ ((own_at (own_get (own_put 3 Ls PO.toNatClampNeg pv) (11 : Int32).toNatClampNeg) (11 : Int32) PO (4 : Int32) PU PS) = (0 : Int32)))).1)) ?_
          show Fin p e below s _ _ _ (Ty73.setTop (mkF m 376 #[.val (.int pf), .val (.int pv), .val (.int pl), .val (.int PO), .val (.int PS), .val (.ref by1), .val (.long PU), .second, .val (.int (4 : Int32)), .val (.int ((((PO + (1 : Int32)) + (1 : Int32)) + (1 : Int32)) + (1 : Int32)))] []))
          refine Fin.step (fun _ => XS.aload Xy73.here hx rfl (hb hby at_376) rfl rfl) ?_
          show Fin p e below s _ _ _ (Ty73.setTop (mkF m 378 #[.val (.int pf), .val (.int pv), .val (.int pl), .val (.int PO), .val (.int PS), .val (.ref by1), .val (.long PU), .second, .val (.int (4 : Int32)), .val (.int ((((PO + (1 : Int32)) + (1 : Int32)) + (1 : Int32)) + (1 : Int32)))] [(.ref by1)]))
          refine Fin.step (fun _ => XS.bipush Xy73.here hx rfl (hb hby at_378)) ?_
          show Fin p e below s _ _ _ (Ty73.setTop (mkF m 380 #[.val (.int pf), .val (.int pv), .val (.int pl), .val (.int PO), .val (.int PS), .val (.ref by1), .val (.long PU), .second, .val (.int (4 : Int32)), .val (.int ((((PO + (1 : Int32)) + (1 : Int32)) + (1 : Int32)) + (1 : Int32)))] [(.int (12 : Int32)), (.ref by1)]))
          refine Fin.step (fun _ => XS.iloadN Xy73.here hx rfl (hb hby at_380) rfl) ?_
          show Fin p e below s _ _ _ (Ty73.setTop (mkF m 381 #[.val (.int pf), .val (.int pv), .val (.int pl), .val (.int PO), .val (.int PS), .val (.ref by1), .val (.long PU), .second, .val (.int (4 : Int32)), .val (.int ((((PO + (1 : Int32)) + (1 : Int32)) + (1 : Int32)) + (1 : Int32)))] [(.int PO), (.int (12 : Int32)), (.ref by1)]))
          refine Fin.step (fun _ => XS.iload Xy73.here hx rfl (hb hby at_381) rfl) ?_
          show Fin p e below s _ _ _ (Ty73.setTop (mkF m 383 #[.val (.int pf), .val (.int pv), .val (.int pl), .val (.int PO), .val (.int PS), .val (.ref by1), .val (.long PU), .second, .val (.int (4 : Int32)), .val (.int ((((PO + (1 : Int32)) + (1 : Int32)) + (1 : Int32)) + (1 : Int32)))] [(.int (4 : Int32)), (.int PO), (.int (12 : Int32)), (.ref by1)]))
          refine Fin.step (fun _ => XS.lload Xy73.here hx rfl (hb hby at_383) rfl) ?_
          show Fin p e below s _ _ _ (Ty73.setTop (mkF m 385 #[.val (.int pf), .val (.int pv), .val (.int pl), .val (.int PO), .val (.int PS), .val (.ref by1), .val (.long PU), .second, .val (.int (4 : Int32)), .val (.int ((((PO + (1 : Int32)) + (1 : Int32)) + (1 : Int32)) + (1 : Int32)))] [(.long PU), (.int (4 : Int32)), (.int PO), (.int (12 : Int32)), (.ref by1)]))
          refine Fin.step (fun _ => XS.iload Xy73.here hx rfl (hb hby at_385) rfl) ?_
          show Fin p e below s _ _ _ (Ty73.setTop (mkF m 387 #[.val (.int pf), .val (.int pv), .val (.int pl), .val (.int PO), .val (.int PS), .val (.ref by1), .val (.long PU), .second, .val (.int (4 : Int32)), .val (.int ((((PO + (1 : Int32)) + (1 : Int32)) + (1 : Int32)) + (1 : Int32)))] [(.int PS), (.long PU), (.int (4 : Int32)), (.int PO), (.int (12 : Int32)), (.ref by1)]))
          obtain ⟨_, _, ⟨Ty74, Ly74, ky74, ny74⟩, -, Xy74, ⟨Lcy74, hQy74, ly74, yy74, zy74⟩, sty74⟩ := Jvm.LawKit.callS Xy73 hx (y := (⟨"com/example/indexterity/indexterity/index/IndexFormatPutVarIntPinLaw", "at", "([BIIIJB)Z"⟩ : MethodName)) hown (mvT hZ (hw _ (List.mem_of_getElem? (i := 7) rfl))) (mvT hZ (hw _ (List.mem_of_getElem? (i := 8) rfl))) (mvT hZ (hw _ (List.mem_of_getElem? (i := 9) rfl))) (mvT hZ (hw _ (List.mem_of_getElem? (i := 10) rfl))) (by decide) (backOf (W := 0) (rma l Z a0 hw [] by1 (12 : Int32) PO (4 : Int32) PU PS ky1 (own_put 3 Ls PO.toNatClampNeg pv) Ty61.heap n0 Zy61 fy61_0 (own_pg 3 Ls _ pv M.2) ⟨by decide, by decide⟩) hZ (hw _ (List.mem_of_getElem? (i := 10) rfl)) (hw _ (List.mem_of_getElem? (i := 9) rfl)) (by decide) (by decide)) (g := (mkF m 387 #[.val (.int pf), .val (.int pv), .val (.int pl), .val (.int PO), .val (.int PS), .val (.ref by1), .val (.long PU), .second, .val (.int (4 : Int32)), .val (.int ((((PO + (1 : Int32)) + (1 : Int32)) + (1 : Int32)) + (1 : Int32)))] [(.int PS), (.long PU), (.int (4 : Int32)), (.int PO), (.int (12 : Int32)), (.ref by1)])) rfl (by rw [hml]; rfl) (argsL := [(.ref by1), (.int (12 : Int32)), (.int PO), (.int (4 : Int32)), (.long PU), (.int PS)]) (rest := []) (lenOf pd_1 rfl) rfl (by show 2 * 0 + _ ≤ _; exact Nat.le_of_eq rfl) (hb hby at_387) (fun _ _ => ⟨rfl, eqy73, (by decide : 1 + 0 ≤ _), (by decide : 13 + 0 ≤ _)⟩)
          dsimp only [Pt.U, Pt.locs, Pt.cells, Pt.slots] at Xy74 ly74 yy74 zy74 sty74 hQy74
          have yy74 : ky74 = 1 := yy74
          have zy74 : ny74 = 13 := zy74
          replace Xy74 := recast Xy74 ly74 yy74 zy74
          clear ly74 yy74 zy74
          obtain ⟨rfl, Nqy74, eqy74⟩ := hQy74
          have Ny74 := Fr.app Ny73 Nqy74
          refine Fin.step (sty74) ?_
          show Fin p e below s _ _ _ (Ty74.setTop (mkF m 390 #[.val (.int pf), .val (.int pv), .val (.int pl), .val (.int PO), .val (.int PS), .val (.ref by1), .val (.long PU), .second, .val (.int (4 : Int32)), .val (.int ((((PO + (1 : Int32)) + (1 : Int32)) + (1 : Int32)) + (1 : Int32)))] [(.int (own_at (own_get (own_put 3 Ls PO.toNatClampNeg pv) (12 : Int32).toNatClampNeg) (12 : Int32) PO (4 : Int32) PU PS))]))
          refine Fin.step (fun _ => XS.ifNo Xy74.here hx rfl (hb hby at_390) rfl ((if0 _ _).trans (feq ((own_1 (own_fin 3 (by decide) (12 : Int32) (4 : Int32) PO (by decide) (by decide) hO pv PS Ls M PU hU CL)) : ¬ ((own_at (own_get (own_put 3 Ls PO.toNatClampNeg pv) (12 : Int32).toNatClampNeg) (12 : Int32) PO (4 : Int32) PU PS) = (0 : Int32)))).1)) ?_
          show Fin p e below s _ _ _ (Ty74.setTop (mkF m 393 #[.val (.int pf), .val (.int pv), .val (.int pl), .val (.int PO), .val (.int PS), .val (.ref by1), .val (.long PU), .second, .val (.int (4 : Int32)), .val (.int ((((PO + (1 : Int32)) + (1 : Int32)) + (1 : Int32)) + (1 : Int32)))] []))
          refine Fin.step (fun _ => XS.iconst Xy74.here hx rfl (hb hby at_393)) ?_
          show Fin p e below s _ _ _ (Ty74.setTop (mkF m 394 #[.val (.int pf), .val (.int pv), .val (.int pl), .val (.int PO), .val (.int PS), .val (.ref by1), .val (.long PU), .second, .val (.int (4 : Int32)), .val (.int ((((PO + (1 : Int32)) + (1 : Int32)) + (1 : Int32)) + (1 : Int32)))] [(.int (1 : Int32))]))
          refine Fin.step (fun _ => XS.goto Xy74.here hx rfl (pc0 := 394) (pc' := 398) rfl (hb hby at_394) (by decide) (by decide)) ?_
          show Fin p e below s _ _ _ (Ty74.setTop (mkF m 398 #[.val (.int pf), .val (.int pv), .val (.int pl), .val (.int PO), .val (.int PS), .val (.ref by1), .val (.long PU), .second, .val (.int (4 : Int32)), .val (.int ((((PO + (1 : Int32)) + (1 : Int32)) + (1 : Int32)) + (1 : Int32)))] [(.int (1 : Int32))]))
          refine Fin.retN Xy74 hx (t := .boolean) hret (by simp) hlk (hb hby at_398) (by decide) (by decide) ?_
          show Q0 Z pf pv pl h0 n0 _ Ty74.heap _
          rw [eqy74]
          exact ⟨rfl, Ny74, Ky61⟩
        · refine Fin.step (fun _ => XS.ifYes Xy14.here hx rfl (pc0 := 146) (pc' := 155) rfl (hb hby at_146) rfl ((if0 _ _).trans (flt ((lcNL hcy60) : ¬ ((lcmpW PU (268435456 : Int64)) < (0 : Int32)))).2.1) (by decide) (by decide)) ?_
          show Fin p e below s _ _ _ (Ty14.setTop (mkF m 155 #[.val (.int pf), .val (.int pv), .val (.int pl), .val (.int PO), .val (.int PS), .val (.ref by1), .val (.long PU), .second, .unset, .unset] []))
          refine Fin.step (fun _ => XS.iconst Xy14.here hx rfl (hb hby at_155)) ?_
          show Fin p e below s _ _ _ (Ty14.setTop (mkF m 156 #[.val (.int pf), .val (.int pv), .val (.int pl), .val (.int PO), .val (.int PS), .val (.ref by1), .val (.long PU), .second, .unset, .unset] [(.int (5 : Int32))]))
          refine Fin.step (fun _ => XS.istore Xy14.here hx rfl (hb hby at_156) rfl (l' := #[.val (.int pf), .val (.int pv), .val (.int pl), .val (.int PO), .val (.int PS), .val (.ref by1), .val (.long PU), .second, .val (.int (5 : Int32)), .unset]) rfl) ?_
          show Fin p e below s _ _ _ (Ty14.setTop (mkF m 158 #[.val (.int pf), .val (.int pv), .val (.int pl), .val (.int PO), .val (.int PS), .val (.ref by1), .val (.long PU), .second, .val (.int (5 : Int32)), .unset] []))
          have C := own_cnd5 pv PU hU hcy15 hcy30 hcy45 hcy60
          have CL : (own_sh 4 pv &&& (-128 : Int32)) = 0 := C.2.2.2.2
          have M := own_made PS hS
          obtain ⟨Ls, h_Ls⟩ : ∃ z : List Value, z = [(.int (nar .byte PS)), (.int (nar .byte PS)), (.int (nar .byte PS)), (.int (nar .byte PS)), (.int (nar .byte PS)), (.int (nar .byte PS)), (.int (nar .byte PS)), (.int (nar .byte PS)), (.int (nar .byte PS)), (.int (nar .byte PS)), (.int (nar .byte PS)), (.int (nar .byte PS)), (.int (nar .byte PS))] := ⟨_, rfl⟩
          rw [← h_Ls] at M
          have VL : Arv Z hy14 by1 ky1 .byte (13 : Int32) Ls (.int (0 : Int32)) := by rw [h_Ls]; exact Vy14
          refine Fin.step (fun _ => XS.aload Xy14.here hx rfl (hb hby at_158) rfl rfl) ?_
          show Fin p e below s _ _ _ (Ty14.setTop (mkF m 160 #[.val (.int pf), .val (.int pv), .val (.int pl), .val (.int PO), .val (.int PS), .val (.ref by1), .val (.long PU), .second, .val (.int (5 : Int32)), .unset] [(.ref by1)]))
          refine Fin.step (fun _ => XS.iloadN Xy14.here hx rfl (hb hby at_160) rfl) ?_
          show Fin p e below s _ _ _ (Ty14.setTop (mkF m 161 #[.val (.int pf), .val (.int pv), .val (.int pl), .val (.int PO), .val (.int PS), .val (.ref by1), .val (.long PU), .second, .val (.int (5 : Int32)), .unset] [(.int PO), (.ref by1)]))
          refine Fin.step (fun _ => XS.iloadN Xy14.here hx rfl (hb hby at_161) rfl) ?_
          show Fin p e below s _ _ _ (Ty14.setTop (mkF m 162 #[.val (.int pf), .val (.int pv), .val (.int pl), .val (.int PO), .val (.int PS), .val (.ref by1), .val (.long PU), .second, .val (.int (5 : Int32)), .unset] [(.int pv), (.int PO), (.ref by1)]))
          obtain ⟨_, _, ⟨Ty75, Ly75, ky75, ny75⟩, -, Xy75, ⟨Lcy75, hQy75, ly75, yy75, zy75⟩, sty75⟩ := Jvm.LawKit.callS Xy14 hx (y := (⟨"com/example/indexterity/indexterity/index/IndexFormat", "putVarInt", "([BII)I"⟩ : MethodName)) hown (mvT hZ (hw _ (List.mem_of_getElem? (i := 3) rfl))) (mvT hZ (hw _ (List.mem_of_getElem? (i := 4) rfl))) (mvT hZ (hw _ (List.mem_of_getElem? (i := 5) rfl))) (mvT hZ (hw _ (List.mem_of_getElem? (i := 6) rfl))) (by decide) (backOf (W := 0) (rmv5 l Z a0 hw [] by1 PO pv ky1 Ls hy14 n0 Zy14 VL gzy1 M.1 hO C.1 C.2.1 C.2.2.1 C.2.2.2.1 C.2.2.2.2) hZ (hw _ (List.mem_of_getElem? (i := 6) rfl)) (hw _ (List.mem_of_getElem? (i := 5) rfl)) (by decide) (by decide)) (g := (mkF m 162 #[.val (.int pf), .val (.int pv), .val (.int pl), .val (.int PO), .val (.int PS), .val (.ref by1), .val (.long PU), .second, .val (.int (5 : Int32)), .unset] [(.int pv), (.int PO), (.ref by1)])) rfl (by rw [hml]; rfl) (argsL := [(.ref by1), (.int PO), (.int pv)]) (rest := []) (lenOf pd_0 rfl) rfl (by show 2 * 0 + _ ≤ _; exact Nat.le_of_eq rfl) (hb hby at_162) (fun _ _ => ⟨rfl, ey14, (by decide : 1 + 0 ≤ _), (by decide : 13 + 0 ≤ _)⟩)
          dsimp only [Pt.U, Pt.locs, Pt.cells, Pt.slots] at Xy75 ly75 yy75 zy75 sty75 hQy75
          have yy75 : ky75 = 1 := yy75
          have zy75 : ny75 = 13 := zy75
          replace Xy75 := recast Xy75 ly75 yy75 zy75
          clear ly75 yy75 zy75
          obtain ⟨rfl, Nqy75, Kcy75, fy75_0⟩ := hQy75
          have Ny75 := Fr.app Ny14 Nqy75
          have Zy75 : n0 ≤ Ty75.heap.size := Nat.le_trans Zy14 Kcy75.1
          have Ky75 : Keep h0 Ty75.heap [] := Ky14.trans Kcy75 (allS (Or.inr szy1) all0)
          refine Fin.step (sty75) ?_
          show Fin p e below s _ _ _ (Ty75.setTop (mkF m 165 #[.val (.int pf), .val (.int pv), .val (.int pl), .val (.int PO), .val (.int PS), .val (.ref by1), .val (.long PU), .second, .val (.int (5 : Int32)), .unset] [(.int (((((PO + (1 : Int32)) + (1 : Int32)) + (1 : Int32)) + (1 : Int32)) + (1 : Int32)))]))
          refine Fin.step (fun _ => XS.istore Xy75.here hx rfl (hb hby at_165) rfl (l' := #[.val (.int pf), .val (.int pv), .val (.int pl), .val (.int PO), .val (.int PS), .val (.ref by1), .val (.long PU), .second, .val (.int (5 : Int32)), .val (.int (((((PO + (1 : Int32)) + (1 : Int32)) + (1 : Int32)) + (1 : Int32)) + (1 : Int32)))]) rfl) ?_
          show Fin p e below s _ _ _ (Ty75.setTop (mkF m 167 #[.val (.int pf), .val (.int pv), .val (.int pl), .val (.int PO), .val (.int PS), .val (.ref by1), .val (.long PU), .second, .val (.int (5 : Int32)), .val (.int (((((PO + (1 : Int32)) + (1 : Int32)) + (1 : Int32)) + (1 : Int32)) + (1 : Int32)))] []))
          refine Fin.step (fun _ => XS.iload Xy75.here hx rfl (hb hby at_167) rfl) ?_
          show Fin p e below s _ _ _ (Ty75.setTop (mkF m 169 #[.val (.int pf), .val (.int pv), .val (.int pl), .val (.int PO), .val (.int PS), .val (.ref by1), .val (.long PU), .second, .val (.int (5 : Int32)), .val (.int (((((PO + (1 : Int32)) + (1 : Int32)) + (1 : Int32)) + (1 : Int32)) + (1 : Int32)))] [(.int (((((PO + (1 : Int32)) + (1 : Int32)) + (1 : Int32)) + (1 : Int32)) + (1 : Int32)))]))
          refine Fin.step (fun _ => XS.iloadN Xy75.here hx rfl (hb hby at_169) rfl) ?_
          show Fin p e below s _ _ _ (Ty75.setTop (mkF m 170 #[.val (.int pf), .val (.int pv), .val (.int pl), .val (.int PO), .val (.int PS), .val (.ref by1), .val (.long PU), .second, .val (.int (5 : Int32)), .val (.int (((((PO + (1 : Int32)) + (1 : Int32)) + (1 : Int32)) + (1 : Int32)) + (1 : Int32)))] [(.int PO), (.int (((((PO + (1 : Int32)) + (1 : Int32)) + (1 : Int32)) + (1 : Int32)) + (1 : Int32)))]))
          refine Fin.step (fun _ => XS.iload Xy75.here hx rfl (hb hby at_170) rfl) ?_
          show Fin p e below s _ _ _ (Ty75.setTop (mkF m 172 #[.val (.int pf), .val (.int pv), .val (.int pl), .val (.int PO), .val (.int PS), .val (.ref by1), .val (.long PU), .second, .val (.int (5 : Int32)), .val (.int (((((PO + (1 : Int32)) + (1 : Int32)) + (1 : Int32)) + (1 : Int32)) + (1 : Int32)))] [(.int (5 : Int32)), (.int PO), (.int (((((PO + (1 : Int32)) + (1 : Int32)) + (1 : Int32)) + (1 : Int32)) + (1 : Int32)))]))
          refine Fin.step (fun _ => XS.iadd Xy75.here hx rfl (hb hby at_172) rfl) ?_
          show Fin p e below s _ _ _ (Ty75.setTop (mkF m 173 #[.val (.int pf), .val (.int pv), .val (.int pl), .val (.int PO), .val (.int PS), .val (.ref by1), .val (.long PU), .second, .val (.int (5 : Int32)), .val (.int (((((PO + (1 : Int32)) + (1 : Int32)) + (1 : Int32)) + (1 : Int32)) + (1 : Int32)))] [(.int (PO + (5 : Int32))), (.int (((((PO + (1 : Int32)) + (1 : Int32)) + (1 : Int32)) + (1 : Int32)) + (1 : Int32)))]))
          refine Fin.step (fun _ => XS.icmpYes Xy75.here hx rfl (pc0 := 173) (pc' := 178) rfl (hb hby at_173) rfl (teq ((own_r5 PO) : ((((((PO + (1 : Int32)) + (1 : Int32)) + (1 : Int32)) + (1 : Int32)) + (1 : Int32)) = (PO + (5 : Int32))))).1 (by decide) (by decide)) ?_
          show Fin p e below s _ _ _ (Ty75.setTop (mkF m 178 #[.val (.int pf), .val (.int pv), .val (.int pl), .val (.int PO), .val (.int PS), .val (.ref by1), .val (.long PU), .second, .val (.int (5 : Int32)), .val (.int (((((PO + (1 : Int32)) + (1 : Int32)) + (1 : Int32)) + (1 : Int32)) + (1 : Int32)))] []))
          refine Fin.step (fun _ => XS.aload Xy75.here hx rfl (hb hby at_178) rfl rfl) ?_
          show Fin p e below s _ _ _ (Ty75.setTop (mkF m 180 #[.val (.int pf), .val (.int pv), .val (.int pl), .val (.int PO), .val (.int PS), .val (.ref by1), .val (.long PU), .second, .val (.int (5 : Int32)), .val (.int (((((PO + (1 : Int32)) + (1 : Int32)) + (1 : Int32)) + (1 : Int32)) + (1 : Int32)))] [(.ref by1)]))
          refine Fin.step (fun _ => XS.iconst Xy75.here hx rfl (hb hby at_180)) ?_
          show Fin p e below s _ _ _ (Ty75.setTop (mkF m 181 #[.val (.int pf), .val (.int pv), .val (.int pl), .val (.int PO), .val (.int PS), .val (.ref by1), .val (.long PU), .second, .val (.int (5 : Int32)), .val (.int (((((PO + (1 : Int32)) + (1 : Int32)) + (1 : Int32)) + (1 : Int32)) + (1 : Int32)))] [(.int (0 : Int32)), (.ref by1)]))
          refine Fin.step (fun _ => XS.iloadN Xy75.here hx rfl (hb hby at_181) rfl) ?_
          show Fin p e below s _ _ _ (Ty75.setTop (mkF m 182 #[.val (.int pf), .val (.int pv), .val (.int pl), .val (.int PO), .val (.int PS), .val (.ref by1), .val (.long PU), .second, .val (.int (5 : Int32)), .val (.int (((((PO + (1 : Int32)) + (1 : Int32)) + (1 : Int32)) + (1 : Int32)) + (1 : Int32)))] [(.int PO), (.int (0 : Int32)), (.ref by1)]))
          refine Fin.step (fun _ => XS.iload Xy75.here hx rfl (hb hby at_182) rfl) ?_
          show Fin p e below s _ _ _ (Ty75.setTop (mkF m 184 #[.val (.int pf), .val (.int pv), .val (.int pl), .val (.int PO), .val (.int PS), .val (.ref by1), .val (.long PU), .second, .val (.int (5 : Int32)), .val (.int (((((PO + (1 : Int32)) + (1 : Int32)) + (1 : Int32)) + (1 : Int32)) + (1 : Int32)))] [(.int (5 : Int32)), (.int PO), (.int (0 : Int32)), (.ref by1)]))
          refine Fin.step (fun _ => XS.lload Xy75.here hx rfl (hb hby at_184) rfl) ?_
          show Fin p e below s _ _ _ (Ty75.setTop (mkF m 186 #[.val (.int pf), .val (.int pv), .val (.int pl), .val (.int PO), .val (.int PS), .val (.ref by1), .val (.long PU), .second, .val (.int (5 : Int32)), .val (.int (((((PO + (1 : Int32)) + (1 : Int32)) + (1 : Int32)) + (1 : Int32)) + (1 : Int32)))] [(.long PU), (.int (5 : Int32)), (.int PO), (.int (0 : Int32)), (.ref by1)]))
          refine Fin.step (fun _ => XS.iload Xy75.here hx rfl (hb hby at_186) rfl) ?_
          show Fin p e below s _ _ _ (Ty75.setTop (mkF m 188 #[.val (.int pf), .val (.int pv), .val (.int pl), .val (.int PO), .val (.int PS), .val (.ref by1), .val (.long PU), .second, .val (.int (5 : Int32)), .val (.int (((((PO + (1 : Int32)) + (1 : Int32)) + (1 : Int32)) + (1 : Int32)) + (1 : Int32)))] [(.int PS), (.long PU), (.int (5 : Int32)), (.int PO), (.int (0 : Int32)), (.ref by1)]))
          obtain ⟨_, _, ⟨Ty76, Ly76, ky76, ny76⟩, -, Xy76, ⟨Lcy76, hQy76, ly76, yy76, zy76⟩, sty76⟩ := Jvm.LawKit.callS Xy75 hx (y := (⟨"com/example/indexterity/indexterity/index/IndexFormatPutVarIntPinLaw", "at", "([BIIIJB)Z"⟩ : MethodName)) hown (mvT hZ (hw _ (List.mem_of_getElem? (i := 7) rfl))) (mvT hZ (hw _ (List.mem_of_getElem? (i := 8) rfl))) (mvT hZ (hw _ (List.mem_of_getElem? (i := 9) rfl))) (mvT hZ (hw _ (List.mem_of_getElem? (i := 10) rfl))) (by decide) (backOf (W := 0) (rma l Z a0 hw [] by1 (0 : Int32) PO (5 : Int32) PU PS ky1 (own_put 4 Ls PO.toNatClampNeg pv) Ty75.heap n0 Zy75 fy75_0 (own_pg 4 Ls _ pv M.2) ⟨by decide, by decide⟩) hZ (hw _ (List.mem_of_getElem? (i := 10) rfl)) (hw _ (List.mem_of_getElem? (i := 9) rfl)) (by decide) (by decide)) (g := (mkF m 188 #[.val (.int pf), .val (.int pv), .val (.int pl), .val (.int PO), .val (.int PS), .val (.ref by1), .val (.long PU), .second, .val (.int (5 : Int32)), .val (.int (((((PO + (1 : Int32)) + (1 : Int32)) + (1 : Int32)) + (1 : Int32)) + (1 : Int32)))] [(.int PS), (.long PU), (.int (5 : Int32)), (.int PO), (.int (0 : Int32)), (.ref by1)])) rfl (by rw [hml]; rfl) (argsL := [(.ref by1), (.int (0 : Int32)), (.int PO), (.int (5 : Int32)), (.long PU), (.int PS)]) (rest := []) (lenOf pd_1 rfl) rfl (by show 2 * 0 + _ ≤ _; exact Nat.le_of_eq rfl) (hb hby at_188) (fun _ _ => ⟨rfl, rfl, (by decide : 1 + 0 ≤ _), (by decide : 13 + 0 ≤ _)⟩)
          dsimp only [Pt.U, Pt.locs, Pt.cells, Pt.slots] at Xy76 ly76 yy76 zy76 sty76 hQy76
          have yy76 : ky76 = 1 := yy76
          have zy76 : ny76 = 13 := zy76
          replace Xy76 := recast Xy76 ly76 yy76 zy76
          clear ly76 yy76 zy76
          obtain ⟨rfl, Nqy76, eqy76⟩ := hQy76
          have Ny76 := Fr.app Ny75 Nqy76
          refine Fin.step (sty76) ?_
          show Fin p e below s _ _ _ (Ty76.setTop (mkF m 191 #[.val (.int pf), .val (.int pv), .val (.int pl), .val (.int PO), .val (.int PS), .val (.ref by1), .val (.long PU), .second, .val (.int (5 : Int32)), .val (.int (((((PO + (1 : Int32)) + (1 : Int32)) + (1 : Int32)) + (1 : Int32)) + (1 : Int32)))] [(.int (own_at (own_get (own_put 4 Ls PO.toNatClampNeg pv) (0 : Int32).toNatClampNeg) (0 : Int32) PO (5 : Int32) PU PS))]))
          refine Fin.step (fun _ => XS.ifNo Xy76.here hx rfl (hb hby at_191) rfl ((if0 _ _).trans (feq ((own_1 (own_fin 4 (by decide) (0 : Int32) (5 : Int32) PO (by decide) (by decide) hO pv PS Ls M PU hU CL)) : ¬ ((own_at (own_get (own_put 4 Ls PO.toNatClampNeg pv) (0 : Int32).toNatClampNeg) (0 : Int32) PO (5 : Int32) PU PS) = (0 : Int32)))).1)) ?_
          show Fin p e below s _ _ _ (Ty76.setTop (mkF m 194 #[.val (.int pf), .val (.int pv), .val (.int pl), .val (.int PO), .val (.int PS), .val (.ref by1), .val (.long PU), .second, .val (.int (5 : Int32)), .val (.int (((((PO + (1 : Int32)) + (1 : Int32)) + (1 : Int32)) + (1 : Int32)) + (1 : Int32)))] []))
          refine Fin.step (fun _ => XS.aload Xy76.here hx rfl (hb hby at_194) rfl rfl) ?_
          show Fin p e below s _ _ _ (Ty76.setTop (mkF m 196 #[.val (.int pf), .val (.int pv), .val (.int pl), .val (.int PO), .val (.int PS), .val (.ref by1), .val (.long PU), .second, .val (.int (5 : Int32)), .val (.int (((((PO + (1 : Int32)) + (1 : Int32)) + (1 : Int32)) + (1 : Int32)) + (1 : Int32)))] [(.ref by1)]))
          refine Fin.step (fun _ => XS.iconst Xy76.here hx rfl (hb hby at_196)) ?_
          show Fin p e below s _ _ _ (Ty76.setTop (mkF m 197 #[.val (.int pf), .val (.int pv), .val (.int pl), .val (.int PO), .val (.int PS), .val (.ref by1), .val (.long PU), .second, .val (.int (5 : Int32)), .val (.int (((((PO + (1 : Int32)) + (1 : Int32)) + (1 : Int32)) + (1 : Int32)) + (1 : Int32)))] [(.int (1 : Int32)), (.ref by1)]))
          refine Fin.step (fun _ => XS.iloadN Xy76.here hx rfl (hb hby at_197) rfl) ?_
          show Fin p e below s _ _ _ (Ty76.setTop (mkF m 198 #[.val (.int pf), .val (.int pv), .val (.int pl), .val (.int PO), .val (.int PS), .val (.ref by1), .val (.long PU), .second, .val (.int (5 : Int32)), .val (.int (((((PO + (1 : Int32)) + (1 : Int32)) + (1 : Int32)) + (1 : Int32)) + (1 : Int32)))] [(.int PO), (.int (1 : Int32)), (.ref by1)]))
          refine Fin.step (fun _ => XS.iload Xy76.here hx rfl (hb hby at_198) rfl) ?_
          show Fin p e below s _ _ _ (Ty76.setTop (mkF m 200 #[.val (.int pf), .val (.int pv), .val (.int pl), .val (.int PO), .val (.int PS), .val (.ref by1), .val (.long PU), .second, .val (.int (5 : Int32)), .val (.int (((((PO + (1 : Int32)) + (1 : Int32)) + (1 : Int32)) + (1 : Int32)) + (1 : Int32)))] [(.int (5 : Int32)), (.int PO), (.int (1 : Int32)), (.ref by1)]))
          refine Fin.step (fun _ => XS.lload Xy76.here hx rfl (hb hby at_200) rfl) ?_
          show Fin p e below s _ _ _ (Ty76.setTop (mkF m 202 #[.val (.int pf), .val (.int pv), .val (.int pl), .val (.int PO), .val (.int PS), .val (.ref by1), .val (.long PU), .second, .val (.int (5 : Int32)), .val (.int (((((PO + (1 : Int32)) + (1 : Int32)) + (1 : Int32)) + (1 : Int32)) + (1 : Int32)))] [(.long PU), (.int (5 : Int32)), (.int PO), (.int (1 : Int32)), (.ref by1)]))
          refine Fin.step (fun _ => XS.iload Xy76.here hx rfl (hb hby at_202) rfl) ?_
          show Fin p e below s _ _ _ (Ty76.setTop (mkF m 204 #[.val (.int pf), .val (.int pv), .val (.int pl), .val (.int PO), .val (.int PS), .val (.ref by1), .val (.long PU), .second, .val (.int (5 : Int32)), .val (.int (((((PO + (1 : Int32)) + (1 : Int32)) + (1 : Int32)) + (1 : Int32)) + (1 : Int32)))] [(.int PS), (.long PU), (.int (5 : Int32)), (.int PO), (.int (1 : Int32)), (.ref by1)]))
          obtain ⟨_, _, ⟨Ty77, Ly77, ky77, ny77⟩, -, Xy77, ⟨Lcy77, hQy77, ly77, yy77, zy77⟩, sty77⟩ := Jvm.LawKit.callS Xy76 hx (y := (⟨"com/example/indexterity/indexterity/index/IndexFormatPutVarIntPinLaw", "at", "([BIIIJB)Z"⟩ : MethodName)) hown (mvT hZ (hw _ (List.mem_of_getElem? (i := 7) rfl))) (mvT hZ (hw _ (List.mem_of_getElem? (i := 8) rfl))) (mvT hZ (hw _ (List.mem_of_getElem? (i := 9) rfl))) (mvT hZ (hw _ (List.mem_of_getElem? (i := 10) rfl))) (by decide) (backOf (W := 0) (rma l Z a0 hw [] by1 (1 : Int32) PO (5 : Int32) PU PS ky1 (own_put 4 Ls PO.toNatClampNeg pv) Ty75.heap n0 Zy75 fy75_0 (own_pg 4 Ls _ pv M.2) ⟨by decide, by decide⟩) hZ (hw _ (List.mem_of_getElem? (i := 10) rfl)) (hw _ (List.mem_of_getElem? (i := 9) rfl)) (by decide) (by decide)) (g := (mkF m 204 #[.val (.int pf), .val (.int pv), .val (.int pl), .val (.int PO), .val (.int PS), .val (.ref by1), .val (.long PU), .second, .val (.int (5 : Int32)), .val (.int (((((PO + (1 : Int32)) + (1 : Int32)) + (1 : Int32)) + (1 : Int32)) + (1 : Int32)))] [(.int PS), (.long PU), (.int (5 : Int32)), (.int PO), (.int (1 : Int32)), (.ref by1)])) rfl (by rw [hml]; rfl) (argsL := [(.ref by1), (.int (1 : Int32)), (.int PO), (.int (5 : Int32)), (.long PU), (.int PS)]) (rest := []) (lenOf pd_1 rfl) rfl (by show 2 * 0 + _ ≤ _; exact Nat.le_of_eq rfl) (hb hby at_204) (fun _ _ => ⟨rfl, eqy76, (by decide : 1 + 0 ≤ _), (by decide : 13 + 0 ≤ _)⟩)
          dsimp only [Pt.U, Pt.locs, Pt.cells, Pt.slots] at Xy77 ly77 yy77 zy77 sty77 hQy77
          have yy77 : ky77 = 1 := yy77
          have zy77 : ny77 = 13 := zy77
          replace Xy77 := recast Xy77 ly77 yy77 zy77
          clear ly77 yy77 zy77
          obtain ⟨rfl, Nqy77, eqy77⟩ := hQy77
          have Ny77 := Fr.app Ny76 Nqy77
          refine Fin.step (sty77) ?_
          show Fin p e below s _ _ _ (Ty77.setTop (mkF m 207 #[.val (.int pf), .val (.int pv), .val (.int pl), .val (.int PO), .val (.int PS), .val (.ref by1), .val (.long PU), .second, .val (.int (5 : Int32)), .val (.int (((((PO + (1 : Int32)) + (1 : Int32)) + (1 : Int32)) + (1 : Int32)) + (1 : Int32)))] [(.int (own_at (own_get (own_put 4 Ls PO.toNatClampNeg pv) (1 : Int32).toNatClampNeg) (1 : Int32) PO (5 : Int32) PU PS))]))
          refine Fin.step (fun _ => XS.ifNo Xy77.here hx rfl (hb hby at_207) rfl ((if0 _ _).trans (feq ((own_1 (own_fin 4 (by decide) (1 : Int32) (5 : Int32) PO (by decide) (by decide) hO pv PS Ls M PU hU CL)) : ¬ ((own_at (own_get (own_put 4 Ls PO.toNatClampNeg pv) (1 : Int32).toNatClampNeg) (1 : Int32) PO (5 : Int32) PU PS) = (0 : Int32)))).1)) ?_
          show Fin p e below s _ _ _ (Ty77.setTop (mkF m 210 #[.val (.int pf), .val (.int pv), .val (.int pl), .val (.int PO), .val (.int PS), .val (.ref by1), .val (.long PU), .second, .val (.int (5 : Int32)), .val (.int (((((PO + (1 : Int32)) + (1 : Int32)) + (1 : Int32)) + (1 : Int32)) + (1 : Int32)))] []))
          refine Fin.step (fun _ => XS.aload Xy77.here hx rfl (hb hby at_210) rfl rfl) ?_
          show Fin p e below s _ _ _ (Ty77.setTop (mkF m 212 #[.val (.int pf), .val (.int pv), .val (.int pl), .val (.int PO), .val (.int PS), .val (.ref by1), .val (.long PU), .second, .val (.int (5 : Int32)), .val (.int (((((PO + (1 : Int32)) + (1 : Int32)) + (1 : Int32)) + (1 : Int32)) + (1 : Int32)))] [(.ref by1)]))
          refine Fin.step (fun _ => XS.iconst Xy77.here hx rfl (hb hby at_212)) ?_
          show Fin p e below s _ _ _ (Ty77.setTop (mkF m 213 #[.val (.int pf), .val (.int pv), .val (.int pl), .val (.int PO), .val (.int PS), .val (.ref by1), .val (.long PU), .second, .val (.int (5 : Int32)), .val (.int (((((PO + (1 : Int32)) + (1 : Int32)) + (1 : Int32)) + (1 : Int32)) + (1 : Int32)))] [(.int (2 : Int32)), (.ref by1)]))
          refine Fin.step (fun _ => XS.iloadN Xy77.here hx rfl (hb hby at_213) rfl) ?_
          show Fin p e below s _ _ _ (Ty77.setTop (mkF m 214 #[.val (.int pf), .val (.int pv), .val (.int pl), .val (.int PO), .val (.int PS), .val (.ref by1), .val (.long PU), .second, .val (.int (5 : Int32)), .val (.int (((((PO + (1 : Int32)) + (1 : Int32)) + (1 : Int32)) + (1 : Int32)) + (1 : Int32)))] [(.int PO), (.int (2 : Int32)), (.ref by1)]))
          refine Fin.step (fun _ => XS.iload Xy77.here hx rfl (hb hby at_214) rfl) ?_
          show Fin p e below s _ _ _ (Ty77.setTop (mkF m 216 #[.val (.int pf), .val (.int pv), .val (.int pl), .val (.int PO), .val (.int PS), .val (.ref by1), .val (.long PU), .second, .val (.int (5 : Int32)), .val (.int (((((PO + (1 : Int32)) + (1 : Int32)) + (1 : Int32)) + (1 : Int32)) + (1 : Int32)))] [(.int (5 : Int32)), (.int PO), (.int (2 : Int32)), (.ref by1)]))
          refine Fin.step (fun _ => XS.lload Xy77.here hx rfl (hb hby at_216) rfl) ?_
          show Fin p e below s _ _ _ (Ty77.setTop (mkF m 218 #[.val (.int pf), .val (.int pv), .val (.int pl), .val (.int PO), .val (.int PS), .val (.ref by1), .val (.long PU), .second, .val (.int (5 : Int32)), .val (.int (((((PO + (1 : Int32)) + (1 : Int32)) + (1 : Int32)) + (1 : Int32)) + (1 : Int32)))] [(.long PU), (.int (5 : Int32)), (.int PO), (.int (2 : Int32)), (.ref by1)]))
          refine Fin.step (fun _ => XS.iload Xy77.here hx rfl (hb hby at_218) rfl) ?_
          show Fin p e below s _ _ _ (Ty77.setTop (mkF m 220 #[.val (.int pf), .val (.int pv), .val (.int pl), .val (.int PO), .val (.int PS), .val (.ref by1), .val (.long PU), .second, .val (.int (5 : Int32)), .val (.int (((((PO + (1 : Int32)) + (1 : Int32)) + (1 : Int32)) + (1 : Int32)) + (1 : Int32)))] [(.int PS), (.long PU), (.int (5 : Int32)), (.int PO), (.int (2 : Int32)), (.ref by1)]))
          obtain ⟨_, _, ⟨Ty78, Ly78, ky78, ny78⟩, -, Xy78, ⟨Lcy78, hQy78, ly78, yy78, zy78⟩, sty78⟩ := Jvm.LawKit.callS Xy77 hx (y := (⟨"com/example/indexterity/indexterity/index/IndexFormatPutVarIntPinLaw", "at", "([BIIIJB)Z"⟩ : MethodName)) hown (mvT hZ (hw _ (List.mem_of_getElem? (i := 7) rfl))) (mvT hZ (hw _ (List.mem_of_getElem? (i := 8) rfl))) (mvT hZ (hw _ (List.mem_of_getElem? (i := 9) rfl))) (mvT hZ (hw _ (List.mem_of_getElem? (i := 10) rfl))) (by decide) (backOf (W := 0) (rma l Z a0 hw [] by1 (2 : Int32) PO (5 : Int32) PU PS ky1 (own_put 4 Ls PO.toNatClampNeg pv) Ty75.heap n0 Zy75 fy75_0 (own_pg 4 Ls _ pv M.2) ⟨by decide, by decide⟩) hZ (hw _ (List.mem_of_getElem? (i := 10) rfl)) (hw _ (List.mem_of_getElem? (i := 9) rfl)) (by decide) (by decide)) (g := (mkF m 220 #[.val (.int pf), .val (.int pv), .val (.int pl), .val (.int PO), .val (.int PS), .val (.ref by1), .val (.long PU), .second, .val (.int (5 : Int32)), .val (.int (((((PO + (1 : Int32)) + (1 : Int32)) + (1 : Int32)) + (1 : Int32)) + (1 : Int32)))] [(.int PS), (.long PU), (.int (5 : Int32)), (.int PO), (.int (2 : Int32)), (.ref by1)])) rfl (by rw [hml]; rfl) (argsL := [(.ref by1), (.int (2 : Int32)), (.int PO), (.int (5 : Int32)), (.long PU), (.int PS)]) (rest := []) (lenOf pd_1 rfl) rfl (by show 2 * 0 + _ ≤ _; exact Nat.le_of_eq rfl) (hb hby at_220) (fun _ _ => ⟨rfl, eqy77, (by decide : 1 + 0 ≤ _), (by decide : 13 + 0 ≤ _)⟩)
          dsimp only [Pt.U, Pt.locs, Pt.cells, Pt.slots] at Xy78 ly78 yy78 zy78 sty78 hQy78
          have yy78 : ky78 = 1 := yy78
          have zy78 : ny78 = 13 := zy78
          replace Xy78 := recast Xy78 ly78 yy78 zy78
          clear ly78 yy78 zy78
          obtain ⟨rfl, Nqy78, eqy78⟩ := hQy78
          have Ny78 := Fr.app Ny77 Nqy78
          refine Fin.step (sty78) ?_
          show Fin p e below s _ _ _ (Ty78.setTop (mkF m 223 #[.val (.int pf), .val (.int pv), .val (.int pl), .val (.int PO), .val (.int PS), .val (.ref by1), .val (.long PU), .second, .val (.int (5 : Int32)), .val (.int (((((PO + (1 : Int32)) + (1 : Int32)) + (1 : Int32)) + (1 : Int32)) + (1 : Int32)))] [(.int (own_at (own_get (own_put 4 Ls PO.toNatClampNeg pv) (2 : Int32).toNatClampNeg) (2 : Int32) PO (5 : Int32) PU PS))]))
          refine Fin.step (fun _ => XS.ifNo Xy78.here hx rfl (hb hby at_223) rfl ((if0 _ _).trans (feq ((own_1 (own_fin 4 (by decide) (2 : Int32) (5 : Int32) PO (by decide) (by decide) hO pv PS Ls M PU hU CL)) : ¬ ((own_at (own_get (own_put 4 Ls PO.toNatClampNeg pv) (2 : Int32).toNatClampNeg) (2 : Int32) PO (5 : Int32) PU PS) = (0 : Int32)))).1)) ?_
          show Fin p e below s _ _ _ (Ty78.setTop (mkF m 226 #[.val (.int pf), .val (.int pv), .val (.int pl), .val (.int PO), .val (.int PS), .val (.ref by1), .val (.long PU), .second, .val (.int (5 : Int32)), .val (.int (((((PO + (1 : Int32)) + (1 : Int32)) + (1 : Int32)) + (1 : Int32)) + (1 : Int32)))] []))
          refine Fin.step (fun _ => XS.aload Xy78.here hx rfl (hb hby at_226) rfl rfl) ?_
          show Fin p e below s _ _ _ (Ty78.setTop (mkF m 228 #[.val (.int pf), .val (.int pv), .val (.int pl), .val (.int PO), .val (.int PS), .val (.ref by1), .val (.long PU), .second, .val (.int (5 : Int32)), .val (.int (((((PO + (1 : Int32)) + (1 : Int32)) + (1 : Int32)) + (1 : Int32)) + (1 : Int32)))] [(.ref by1)]))
          refine Fin.step (fun _ => XS.iconst Xy78.here hx rfl (hb hby at_228)) ?_
          show Fin p e below s _ _ _ (Ty78.setTop (mkF m 229 #[.val (.int pf), .val (.int pv), .val (.int pl), .val (.int PO), .val (.int PS), .val (.ref by1), .val (.long PU), .second, .val (.int (5 : Int32)), .val (.int (((((PO + (1 : Int32)) + (1 : Int32)) + (1 : Int32)) + (1 : Int32)) + (1 : Int32)))] [(.int (3 : Int32)), (.ref by1)]))
          refine Fin.step (fun _ => XS.iloadN Xy78.here hx rfl (hb hby at_229) rfl) ?_
          show Fin p e below s _ _ _ (Ty78.setTop (mkF m 230 #[.val (.int pf), .val (.int pv), .val (.int pl), .val (.int PO), .val (.int PS), .val (.ref by1), .val (.long PU), .second, .val (.int (5 : Int32)), .val (.int (((((PO + (1 : Int32)) + (1 : Int32)) + (1 : Int32)) + (1 : Int32)) + (1 : Int32)))] [(.int PO), (.int (3 : Int32)), (.ref by1)]))
          refine Fin.step (fun _ => XS.iload Xy78.here hx rfl (hb hby at_230) rfl) ?_
          show Fin p e below s _ _ _ (Ty78.setTop (mkF m 232 #[.val (.int pf), .val (.int pv), .val (.int pl), .val (.int PO), .val (.int PS), .val (.ref by1), .val (.long PU), .second, .val (.int (5 : Int32)), .val (.int (((((PO + (1 : Int32)) + (1 : Int32)) + (1 : Int32)) + (1 : Int32)) + (1 : Int32)))] [(.int (5 : Int32)), (.int PO), (.int (3 : Int32)), (.ref by1)]))
          refine Fin.step (fun _ => XS.lload Xy78.here hx rfl (hb hby at_232) rfl) ?_
          show Fin p e below s _ _ _ (Ty78.setTop (mkF m 234 #[.val (.int pf), .val (.int pv), .val (.int pl), .val (.int PO), .val (.int PS), .val (.ref by1), .val (.long PU), .second, .val (.int (5 : Int32)), .val (.int (((((PO + (1 : Int32)) + (1 : Int32)) + (1 : Int32)) + (1 : Int32)) + (1 : Int32)))] [(.long PU), (.int (5 : Int32)), (.int PO), (.int (3 : Int32)), (.ref by1)]))
          refine Fin.step (fun _ => XS.iload Xy78.here hx rfl (hb hby at_234) rfl) ?_
          show Fin p e below s _ _ _ (Ty78.setTop (mkF m 236 #[.val (.int pf), .val (.int pv), .val (.int pl), .val (.int PO), .val (.int PS), .val (.ref by1), .val (.long PU), .second, .val (.int (5 : Int32)), .val (.int (((((PO + (1 : Int32)) + (1 : Int32)) + (1 : Int32)) + (1 : Int32)) + (1 : Int32)))] [(.int PS), (.long PU), (.int (5 : Int32)), (.int PO), (.int (3 : Int32)), (.ref by1)]))
          obtain ⟨_, _, ⟨Ty79, Ly79, ky79, ny79⟩, -, Xy79, ⟨Lcy79, hQy79, ly79, yy79, zy79⟩, sty79⟩ := Jvm.LawKit.callS Xy78 hx (y := (⟨"com/example/indexterity/indexterity/index/IndexFormatPutVarIntPinLaw", "at", "([BIIIJB)Z"⟩ : MethodName)) hown (mvT hZ (hw _ (List.mem_of_getElem? (i := 7) rfl))) (mvT hZ (hw _ (List.mem_of_getElem? (i := 8) rfl))) (mvT hZ (hw _ (List.mem_of_getElem? (i := 9) rfl))) (mvT hZ (hw _ (List.mem_of_getElem? (i := 10) rfl))) (by decide) (backOf (W := 0) (rma l Z a0 hw [] by1 (3 : Int32) PO (5 : Int32) PU PS ky1 (own_put 4 Ls PO.toNatClampNeg pv) Ty75.heap n0 Zy75 fy75_0 (own_pg 4 Ls _ pv M.2) ⟨by decide, by decide⟩) hZ (hw _ (List.mem_of_getElem? (i := 10) rfl)) (hw _ (List.mem_of_getElem? (i := 9) rfl)) (by decide) (by decide)) (g := (mkF m 236 #[.val (.int pf), .val (.int pv), .val (.int pl), .val (.int PO), .val (.int PS), .val (.ref by1), .val (.long PU), .second, .val (.int (5 : Int32)), .val (.int (((((PO + (1 : Int32)) + (1 : Int32)) + (1 : Int32)) + (1 : Int32)) + (1 : Int32)))] [(.int PS), (.long PU), (.int (5 : Int32)), (.int PO), (.int (3 : Int32)), (.ref by1)])) rfl (by rw [hml]; rfl) (argsL := [(.ref by1), (.int (3 : Int32)), (.int PO), (.int (5 : Int32)), (.long PU), (.int PS)]) (rest := []) (lenOf pd_1 rfl) rfl (by show 2 * 0 + _ ≤ _; exact Nat.le_of_eq rfl) (hb hby at_236) (fun _ _ => ⟨rfl, eqy78, (by decide : 1 + 0 ≤ _), (by decide : 13 + 0 ≤ _)⟩)
          dsimp only [Pt.U, Pt.locs, Pt.cells, Pt.slots] at Xy79 ly79 yy79 zy79 sty79 hQy79
          have yy79 : ky79 = 1 := yy79
          have zy79 : ny79 = 13 := zy79
          replace Xy79 := recast Xy79 ly79 yy79 zy79
          clear ly79 yy79 zy79
          obtain ⟨rfl, Nqy79, eqy79⟩ := hQy79
          have Ny79 := Fr.app Ny78 Nqy79
          refine Fin.step (sty79) ?_
          show Fin p e below s _ _ _ (Ty79.setTop (mkF m 239 #[.val (.int pf), .val (.int pv), .val (.int pl), .val (.int PO), .val (.int PS), .val (.ref by1), .val (.long PU), .second, .val (.int (5 : Int32)), .val (.int (((((PO + (1 : Int32)) + (1 : Int32)) + (1 : Int32)) + (1 : Int32)) + (1 : Int32)))] [(.int (own_at (own_get (own_put 4 Ls PO.toNatClampNeg pv) (3 : Int32).toNatClampNeg) (3 : Int32) PO (5 : Int32) PU PS))]))
          refine Fin.step (fun _ => XS.ifNo Xy79.here hx rfl (hb hby at_239) rfl ((if0 _ _).trans (feq ((own_1 (own_fin 4 (by decide) (3 : Int32) (5 : Int32) PO (by decide) (by decide) hO pv PS Ls M PU hU CL)) : ¬ ((own_at (own_get (own_put 4 Ls PO.toNatClampNeg pv) (3 : Int32).toNatClampNeg) (3 : Int32) PO (5 : Int32) PU PS) = (0 : Int32)))).1)) ?_
          show Fin p e below s _ _ _ (Ty79.setTop (mkF m 242 #[.val (.int pf), .val (.int pv), .val (.int pl), .val (.int PO), .val (.int PS), .val (.ref by1), .val (.long PU), .second, .val (.int (5 : Int32)), .val (.int (((((PO + (1 : Int32)) + (1 : Int32)) + (1 : Int32)) + (1 : Int32)) + (1 : Int32)))] []))
          refine Fin.step (fun _ => XS.aload Xy79.here hx rfl (hb hby at_242) rfl rfl) ?_
          show Fin p e below s _ _ _ (Ty79.setTop (mkF m 244 #[.val (.int pf), .val (.int pv), .val (.int pl), .val (.int PO), .val (.int PS), .val (.ref by1), .val (.long PU), .second, .val (.int (5 : Int32)), .val (.int (((((PO + (1 : Int32)) + (1 : Int32)) + (1 : Int32)) + (1 : Int32)) + (1 : Int32)))] [(.ref by1)]))
          refine Fin.step (fun _ => XS.iconst Xy79.here hx rfl (hb hby at_244)) ?_
          show Fin p e below s _ _ _ (Ty79.setTop (mkF m 245 #[.val (.int pf), .val (.int pv), .val (.int pl), .val (.int PO), .val (.int PS), .val (.ref by1), .val (.long PU), .second, .val (.int (5 : Int32)), .val (.int (((((PO + (1 : Int32)) + (1 : Int32)) + (1 : Int32)) + (1 : Int32)) + (1 : Int32)))] [(.int (4 : Int32)), (.ref by1)]))
          refine Fin.step (fun _ => XS.iloadN Xy79.here hx rfl (hb hby at_245) rfl) ?_
          show Fin p e below s _ _ _ (Ty79.setTop (mkF m 246 #[.val (.int pf), .val (.int pv), .val (.int pl), .val (.int PO), .val (.int PS), .val (.ref by1), .val (.long PU), .second, .val (.int (5 : Int32)), .val (.int (((((PO + (1 : Int32)) + (1 : Int32)) + (1 : Int32)) + (1 : Int32)) + (1 : Int32)))] [(.int PO), (.int (4 : Int32)), (.ref by1)]))
          refine Fin.step (fun _ => XS.iload Xy79.here hx rfl (hb hby at_246) rfl) ?_
          show Fin p e below s _ _ _ (Ty79.setTop (mkF m 248 #[.val (.int pf), .val (.int pv), .val (.int pl), .val (.int PO), .val (.int PS), .val (.ref by1), .val (.long PU), .second, .val (.int (5 : Int32)), .val (.int (((((PO + (1 : Int32)) + (1 : Int32)) + (1 : Int32)) + (1 : Int32)) + (1 : Int32)))] [(.int (5 : Int32)), (.int PO), (.int (4 : Int32)), (.ref by1)]))
          refine Fin.step (fun _ => XS.lload Xy79.here hx rfl (hb hby at_248) rfl) ?_
          show Fin p e below s _ _ _ (Ty79.setTop (mkF m 250 #[.val (.int pf), .val (.int pv), .val (.int pl), .val (.int PO), .val (.int PS), .val (.ref by1), .val (.long PU), .second, .val (.int (5 : Int32)), .val (.int (((((PO + (1 : Int32)) + (1 : Int32)) + (1 : Int32)) + (1 : Int32)) + (1 : Int32)))] [(.long PU), (.int (5 : Int32)), (.int PO), (.int (4 : Int32)), (.ref by1)]))
          refine Fin.step (fun _ => XS.iload Xy79.here hx rfl (hb hby at_250) rfl) ?_
          show Fin p e below s _ _ _ (Ty79.setTop (mkF m 252 #[.val (.int pf), .val (.int pv), .val (.int pl), .val (.int PO), .val (.int PS), .val (.ref by1), .val (.long PU), .second, .val (.int (5 : Int32)), .val (.int (((((PO + (1 : Int32)) + (1 : Int32)) + (1 : Int32)) + (1 : Int32)) + (1 : Int32)))] [(.int PS), (.long PU), (.int (5 : Int32)), (.int PO), (.int (4 : Int32)), (.ref by1)]))
          obtain ⟨_, _, ⟨Ty80, Ly80, ky80, ny80⟩, -, Xy80, ⟨Lcy80, hQy80, ly80, yy80, zy80⟩, sty80⟩ := Jvm.LawKit.callS Xy79 hx (y := (⟨"com/example/indexterity/indexterity/index/IndexFormatPutVarIntPinLaw", "at", "([BIIIJB)Z"⟩ : MethodName)) hown (mvT hZ (hw _ (List.mem_of_getElem? (i := 7) rfl))) (mvT hZ (hw _ (List.mem_of_getElem? (i := 8) rfl))) (mvT hZ (hw _ (List.mem_of_getElem? (i := 9) rfl))) (mvT hZ (hw _ (List.mem_of_getElem? (i := 10) rfl))) (by decide) (backOf (W := 0) (rma l Z a0 hw [] by1 (4 : Int32) PO (5 : Int32) PU PS ky1 (own_put 4 Ls PO.toNatClampNeg pv) Ty75.heap n0 Zy75 fy75_0 (own_pg 4 Ls _ pv M.2) ⟨by decide, by decide⟩) hZ (hw _ (List.mem_of_getElem? (i := 10) rfl)) (hw _ (List.mem_of_getElem? (i := 9) rfl)) (by decide) (by decide)) (g := (mkF m 252 #[.val (.int pf), .val (.int pv), .val (.int pl), .val (.int PO), .val (.int PS), .val (.ref by1), .val (.long PU), .second, .val (.int (5 : Int32)), .val (.int (((((PO + (1 : Int32)) + (1 : Int32)) + (1 : Int32)) + (1 : Int32)) + (1 : Int32)))] [(.int PS), (.long PU), (.int (5 : Int32)), (.int PO), (.int (4 : Int32)), (.ref by1)])) rfl (by rw [hml]; rfl) (argsL := [(.ref by1), (.int (4 : Int32)), (.int PO), (.int (5 : Int32)), (.long PU), (.int PS)]) (rest := []) (lenOf pd_1 rfl) rfl (by show 2 * 0 + _ ≤ _; exact Nat.le_of_eq rfl) (hb hby at_252) (fun _ _ => ⟨rfl, eqy79, (by decide : 1 + 0 ≤ _), (by decide : 13 + 0 ≤ _)⟩)
          dsimp only [Pt.U, Pt.locs, Pt.cells, Pt.slots] at Xy80 ly80 yy80 zy80 sty80 hQy80
          have yy80 : ky80 = 1 := yy80
          have zy80 : ny80 = 13 := zy80
          replace Xy80 := recast Xy80 ly80 yy80 zy80
          clear ly80 yy80 zy80
          obtain ⟨rfl, Nqy80, eqy80⟩ := hQy80
          have Ny80 := Fr.app Ny79 Nqy80
          refine Fin.step (sty80) ?_
          show Fin p e below s _ _ _ (Ty80.setTop (mkF m 255 #[.val (.int pf), .val (.int pv), .val (.int pl), .val (.int PO), .val (.int PS), .val (.ref by1), .val (.long PU), .second, .val (.int (5 : Int32)), .val (.int (((((PO + (1 : Int32)) + (1 : Int32)) + (1 : Int32)) + (1 : Int32)) + (1 : Int32)))] [(.int (own_at (own_get (own_put 4 Ls PO.toNatClampNeg pv) (4 : Int32).toNatClampNeg) (4 : Int32) PO (5 : Int32) PU PS))]))
          refine Fin.step (fun _ => XS.ifNo Xy80.here hx rfl (hb hby at_255) rfl ((if0 _ _).trans (feq ((own_1 (own_fin 4 (by decide) (4 : Int32) (5 : Int32) PO (by decide) (by decide) hO pv PS Ls M PU hU CL)) : ¬ ((own_at (own_get (own_put 4 Ls PO.toNatClampNeg pv) (4 : Int32).toNatClampNeg) (4 : Int32) PO (5 : Int32) PU PS) = (0 : Int32)))).1)) ?_
          show Fin p e below s _ _ _ (Ty80.setTop (mkF m 258 #[.val (.int pf), .val (.int pv), .val (.int pl), .val (.int PO), .val (.int PS), .val (.ref by1), .val (.long PU), .second, .val (.int (5 : Int32)), .val (.int (((((PO + (1 : Int32)) + (1 : Int32)) + (1 : Int32)) + (1 : Int32)) + (1 : Int32)))] []))
          refine Fin.step (fun _ => XS.aload Xy80.here hx rfl (hb hby at_258) rfl rfl) ?_
          show Fin p e below s _ _ _ (Ty80.setTop (mkF m 260 #[.val (.int pf), .val (.int pv), .val (.int pl), .val (.int PO), .val (.int PS), .val (.ref by1), .val (.long PU), .second, .val (.int (5 : Int32)), .val (.int (((((PO + (1 : Int32)) + (1 : Int32)) + (1 : Int32)) + (1 : Int32)) + (1 : Int32)))] [(.ref by1)]))
          refine Fin.step (fun _ => XS.iconst Xy80.here hx rfl (hb hby at_260)) ?_
          show Fin p e below s _ _ _ (Ty80.setTop (mkF m 261 #[.val (.int pf), .val (.int pv), .val (.int pl), .val (.int PO), .val (.int PS), .val (.ref by1), .val (.long PU), .second, .val (.int (5 : Int32)), .val (.int (((((PO + (1 : Int32)) + (1 : Int32)) + (1 : Int32)) + (1 : Int32)) + (1 : Int32)))] [(.int (5 : Int32)), (.ref by1)]))
          refine Fin.step (fun _ => XS.iloadN Xy80.here hx rfl (hb hby at_261) rfl) ?_
          show Fin p e below s _ _ _ (Ty80.setTop (mkF m 262 #[.val (.int pf), .val (.int pv), .val (.int pl), .val (.int PO), .val (.int PS), .val (.ref by1), .val (.long PU), .second, .val (.int (5 : Int32)), .val (.int (((((PO + (1 : Int32)) + (1 : Int32)) + (1 : Int32)) + (1 : Int32)) + (1 : Int32)))] [(.int PO), (.int (5 : Int32)), (.ref by1)]))
          refine Fin.step (fun _ => XS.iload Xy80.here hx rfl (hb hby at_262) rfl) ?_
          show Fin p e below s _ _ _ (Ty80.setTop (mkF m 264 #[.val (.int pf), .val (.int pv), .val (.int pl), .val (.int PO), .val (.int PS), .val (.ref by1), .val (.long PU), .second, .val (.int (5 : Int32)), .val (.int (((((PO + (1 : Int32)) + (1 : Int32)) + (1 : Int32)) + (1 : Int32)) + (1 : Int32)))] [(.int (5 : Int32)), (.int PO), (.int (5 : Int32)), (.ref by1)]))
          refine Fin.step (fun _ => XS.lload Xy80.here hx rfl (hb hby at_264) rfl) ?_
          show Fin p e below s _ _ _ (Ty80.setTop (mkF m 266 #[.val (.int pf), .val (.int pv), .val (.int pl), .val (.int PO), .val (.int PS), .val (.ref by1), .val (.long PU), .second, .val (.int (5 : Int32)), .val (.int (((((PO + (1 : Int32)) + (1 : Int32)) + (1 : Int32)) + (1 : Int32)) + (1 : Int32)))] [(.long PU), (.int (5 : Int32)), (.int PO), (.int (5 : Int32)), (.ref by1)]))
          refine Fin.step (fun _ => XS.iload Xy80.here hx rfl (hb hby at_266) rfl) ?_
          show Fin p e below s _ _ _ (Ty80.setTop (mkF m 268 #[.val (.int pf), .val (.int pv), .val (.int pl), .val (.int PO), .val (.int PS), .val (.ref by1), .val (.long PU), .second, .val (.int (5 : Int32)), .val (.int (((((PO + (1 : Int32)) + (1 : Int32)) + (1 : Int32)) + (1 : Int32)) + (1 : Int32)))] [(.int PS), (.long PU), (.int (5 : Int32)), (.int PO), (.int (5 : Int32)), (.ref by1)]))
          obtain ⟨_, _, ⟨Ty81, Ly81, ky81, ny81⟩, -, Xy81, ⟨Lcy81, hQy81, ly81, yy81, zy81⟩, sty81⟩ := Jvm.LawKit.callS Xy80 hx (y := (⟨"com/example/indexterity/indexterity/index/IndexFormatPutVarIntPinLaw", "at", "([BIIIJB)Z"⟩ : MethodName)) hown (mvT hZ (hw _ (List.mem_of_getElem? (i := 7) rfl))) (mvT hZ (hw _ (List.mem_of_getElem? (i := 8) rfl))) (mvT hZ (hw _ (List.mem_of_getElem? (i := 9) rfl))) (mvT hZ (hw _ (List.mem_of_getElem? (i := 10) rfl))) (by decide) (backOf (W := 0) (rma l Z a0 hw [] by1 (5 : Int32) PO (5 : Int32) PU PS ky1 (own_put 4 Ls PO.toNatClampNeg pv) Ty75.heap n0 Zy75 fy75_0 (own_pg 4 Ls _ pv M.2) ⟨by decide, by decide⟩) hZ (hw _ (List.mem_of_getElem? (i := 10) rfl)) (hw _ (List.mem_of_getElem? (i := 9) rfl)) (by decide) (by decide)) (g := (mkF m 268 #[.val (.int pf), .val (.int pv), .val (.int pl), .val (.int PO), .val (.int PS), .val (.ref by1), .val (.long PU), .second, .val (.int (5 : Int32)), .val (.int (((((PO + (1 : Int32)) + (1 : Int32)) + (1 : Int32)) + (1 : Int32)) + (1 : Int32)))] [(.int PS), (.long PU), (.int (5 : Int32)), (.int PO), (.int (5 : Int32)), (.ref by1)])) rfl (by rw [hml]; rfl) (argsL := [(.ref by1), (.int (5 : Int32)), (.int PO), (.int (5 : Int32)), (.long PU), (.int PS)]) (rest := []) (lenOf pd_1 rfl) rfl (by show 2 * 0 + _ ≤ _; exact Nat.le_of_eq rfl) (hb hby at_268) (fun _ _ => ⟨rfl, eqy80, (by decide : 1 + 0 ≤ _), (by decide : 13 + 0 ≤ _)⟩)
          dsimp only [Pt.U, Pt.locs, Pt.cells, Pt.slots] at Xy81 ly81 yy81 zy81 sty81 hQy81
          have yy81 : ky81 = 1 := yy81
          have zy81 : ny81 = 13 := zy81
          replace Xy81 := recast Xy81 ly81 yy81 zy81
          clear ly81 yy81 zy81
          obtain ⟨rfl, Nqy81, eqy81⟩ := hQy81
          have Ny81 := Fr.app Ny80 Nqy81
          refine Fin.step (sty81) ?_
          show Fin p e below s _ _ _ (Ty81.setTop (mkF m 271 #[.val (.int pf), .val (.int pv), .val (.int pl), .val (.int PO), .val (.int PS), .val (.ref by1), .val (.long PU), .second, .val (.int (5 : Int32)), .val (.int (((((PO + (1 : Int32)) + (1 : Int32)) + (1 : Int32)) + (1 : Int32)) + (1 : Int32)))] [(.int (own_at (own_get (own_put 4 Ls PO.toNatClampNeg pv) (5 : Int32).toNatClampNeg) (5 : Int32) PO (5 : Int32) PU PS))]))
          refine Fin.step (fun _ => XS.ifNo Xy81.here hx rfl (hb hby at_271) rfl ((if0 _ _).trans (feq ((own_1 (own_fin 4 (by decide) (5 : Int32) (5 : Int32) PO (by decide) (by decide) hO pv PS Ls M PU hU CL)) : ¬ ((own_at (own_get (own_put 4 Ls PO.toNatClampNeg pv) (5 : Int32).toNatClampNeg) (5 : Int32) PO (5 : Int32) PU PS) = (0 : Int32)))).1)) ?_
          show Fin p e below s _ _ _ (Ty81.setTop (mkF m 274 #[.val (.int pf), .val (.int pv), .val (.int pl), .val (.int PO), .val (.int PS), .val (.ref by1), .val (.long PU), .second, .val (.int (5 : Int32)), .val (.int (((((PO + (1 : Int32)) + (1 : Int32)) + (1 : Int32)) + (1 : Int32)) + (1 : Int32)))] []))
          refine Fin.step (fun _ => XS.aload Xy81.here hx rfl (hb hby at_274) rfl rfl) ?_
          show Fin p e below s _ _ _ (Ty81.setTop (mkF m 276 #[.val (.int pf), .val (.int pv), .val (.int pl), .val (.int PO), .val (.int PS), .val (.ref by1), .val (.long PU), .second, .val (.int (5 : Int32)), .val (.int (((((PO + (1 : Int32)) + (1 : Int32)) + (1 : Int32)) + (1 : Int32)) + (1 : Int32)))] [(.ref by1)]))
          refine Fin.step (fun _ => XS.bipush Xy81.here hx rfl (hb hby at_276)) ?_
          show Fin p e below s _ _ _ (Ty81.setTop (mkF m 278 #[.val (.int pf), .val (.int pv), .val (.int pl), .val (.int PO), .val (.int PS), .val (.ref by1), .val (.long PU), .second, .val (.int (5 : Int32)), .val (.int (((((PO + (1 : Int32)) + (1 : Int32)) + (1 : Int32)) + (1 : Int32)) + (1 : Int32)))] [(.int (6 : Int32)), (.ref by1)]))
          refine Fin.step (fun _ => XS.iloadN Xy81.here hx rfl (hb hby at_278) rfl) ?_
          show Fin p e below s _ _ _ (Ty81.setTop (mkF m 279 #[.val (.int pf), .val (.int pv), .val (.int pl), .val (.int PO), .val (.int PS), .val (.ref by1), .val (.long PU), .second, .val (.int (5 : Int32)), .val (.int (((((PO + (1 : Int32)) + (1 : Int32)) + (1 : Int32)) + (1 : Int32)) + (1 : Int32)))] [(.int PO), (.int (6 : Int32)), (.ref by1)]))
          refine Fin.step (fun _ => XS.iload Xy81.here hx rfl (hb hby at_279) rfl) ?_
          show Fin p e below s _ _ _ (Ty81.setTop (mkF m 281 #[.val (.int pf), .val (.int pv), .val (.int pl), .val (.int PO), .val (.int PS), .val (.ref by1), .val (.long PU), .second, .val (.int (5 : Int32)), .val (.int (((((PO + (1 : Int32)) + (1 : Int32)) + (1 : Int32)) + (1 : Int32)) + (1 : Int32)))] [(.int (5 : Int32)), (.int PO), (.int (6 : Int32)), (.ref by1)]))
          refine Fin.step (fun _ => XS.lload Xy81.here hx rfl (hb hby at_281) rfl) ?_
          show Fin p e below s _ _ _ (Ty81.setTop (mkF m 283 #[.val (.int pf), .val (.int pv), .val (.int pl), .val (.int PO), .val (.int PS), .val (.ref by1), .val (.long PU), .second, .val (.int (5 : Int32)), .val (.int (((((PO + (1 : Int32)) + (1 : Int32)) + (1 : Int32)) + (1 : Int32)) + (1 : Int32)))] [(.long PU), (.int (5 : Int32)), (.int PO), (.int (6 : Int32)), (.ref by1)]))
          refine Fin.step (fun _ => XS.iload Xy81.here hx rfl (hb hby at_283) rfl) ?_
          show Fin p e below s _ _ _ (Ty81.setTop (mkF m 285 #[.val (.int pf), .val (.int pv), .val (.int pl), .val (.int PO), .val (.int PS), .val (.ref by1), .val (.long PU), .second, .val (.int (5 : Int32)), .val (.int (((((PO + (1 : Int32)) + (1 : Int32)) + (1 : Int32)) + (1 : Int32)) + (1 : Int32)))] [(.int PS), (.long PU), (.int (5 : Int32)), (.int PO), (.int (6 : Int32)), (.ref by1)]))
          obtain ⟨_, _, ⟨Ty82, Ly82, ky82, ny82⟩, -, Xy82, ⟨Lcy82, hQy82, ly82, yy82, zy82⟩, sty82⟩ := Jvm.LawKit.callS Xy81 hx (y := (⟨"com/example/indexterity/indexterity/index/IndexFormatPutVarIntPinLaw", "at", "([BIIIJB)Z"⟩ : MethodName)) hown (mvT hZ (hw _ (List.mem_of_getElem? (i := 7) rfl))) (mvT hZ (hw _ (List.mem_of_getElem? (i := 8) rfl))) (mvT hZ (hw _ (List.mem_of_getElem? (i := 9) rfl))) (mvT hZ (hw _ (List.mem_of_getElem? (i := 10) rfl))) (by decide) (backOf (W := 0) (rma l Z a0 hw [] by1 (6 : Int32) PO (5 : Int32) PU PS ky1 (own_put 4 Ls PO.toNatClampNeg pv) Ty75.heap n0 Zy75 fy75_0 (own_pg 4 Ls _ pv M.2) ⟨by decide, by decide⟩) hZ (hw _ (List.mem_of_getElem? (i := 10) rfl)) (hw _ (List.mem_of_getElem? (i := 9) rfl)) (by decide) (by decide)) (g := (mkF m 285 #[.val (.int pf), .val (.int pv), .val (.int pl), .val (.int PO), .val (.int PS), .val (.ref by1), .val (.long PU), .second, .val (.int (5 : Int32)), .val (.int (((((PO + (1 : Int32)) + (1 : Int32)) + (1 : Int32)) + (1 : Int32)) + (1 : Int32)))] [(.int PS), (.long PU), (.int (5 : Int32)), (.int PO), (.int (6 : Int32)), (.ref by1)])) rfl (by rw [hml]; rfl) (argsL := [(.ref by1), (.int (6 : Int32)), (.int PO), (.int (5 : Int32)), (.long PU), (.int PS)]) (rest := []) (lenOf pd_1 rfl) rfl (by show 2 * 0 + _ ≤ _; exact Nat.le_of_eq rfl) (hb hby at_285) (fun _ _ => ⟨rfl, eqy81, (by decide : 1 + 0 ≤ _), (by decide : 13 + 0 ≤ _)⟩)
          dsimp only [Pt.U, Pt.locs, Pt.cells, Pt.slots] at Xy82 ly82 yy82 zy82 sty82 hQy82
          have yy82 : ky82 = 1 := yy82
          have zy82 : ny82 = 13 := zy82
          replace Xy82 := recast Xy82 ly82 yy82 zy82
          clear ly82 yy82 zy82
          obtain ⟨rfl, Nqy82, eqy82⟩ := hQy82
          have Ny82 := Fr.app Ny81 Nqy82
          refine Fin.step (sty82) ?_
          show Fin p e below s _ _ _ (Ty82.setTop (mkF m 288 #[.val (.int pf), .val (.int pv), .val (.int pl), .val (.int PO), .val (.int PS), .val (.ref by1), .val (.long PU), .second, .val (.int (5 : Int32)), .val (.int (((((PO + (1 : Int32)) + (1 : Int32)) + (1 : Int32)) + (1 : Int32)) + (1 : Int32)))] [(.int (own_at (own_get (own_put 4 Ls PO.toNatClampNeg pv) (6 : Int32).toNatClampNeg) (6 : Int32) PO (5 : Int32) PU PS))]))
          refine Fin.step (fun _ => XS.ifNo Xy82.here hx rfl (hb hby at_288) rfl ((if0 _ _).trans (feq ((own_1 (own_fin 4 (by decide) (6 : Int32) (5 : Int32) PO (by decide) (by decide) hO pv PS Ls M PU hU CL)) : ¬ ((own_at (own_get (own_put 4 Ls PO.toNatClampNeg pv) (6 : Int32).toNatClampNeg) (6 : Int32) PO (5 : Int32) PU PS) = (0 : Int32)))).1)) ?_
          show Fin p e below s _ _ _ (Ty82.setTop (mkF m 291 #[.val (.int pf), .val (.int pv), .val (.int pl), .val (.int PO), .val (.int PS), .val (.ref by1), .val (.long PU), .second, .val (.int (5 : Int32)), .val (.int (((((PO + (1 : Int32)) + (1 : Int32)) + (1 : Int32)) + (1 : Int32)) + (1 : Int32)))] []))
          refine Fin.step (fun _ => XS.aload Xy82.here hx rfl (hb hby at_291) rfl rfl) ?_
          show Fin p e below s _ _ _ (Ty82.setTop (mkF m 293 #[.val (.int pf), .val (.int pv), .val (.int pl), .val (.int PO), .val (.int PS), .val (.ref by1), .val (.long PU), .second, .val (.int (5 : Int32)), .val (.int (((((PO + (1 : Int32)) + (1 : Int32)) + (1 : Int32)) + (1 : Int32)) + (1 : Int32)))] [(.ref by1)]))
          refine Fin.step (fun _ => XS.bipush Xy82.here hx rfl (hb hby at_293)) ?_
          show Fin p e below s _ _ _ (Ty82.setTop (mkF m 295 #[.val (.int pf), .val (.int pv), .val (.int pl), .val (.int PO), .val (.int PS), .val (.ref by1), .val (.long PU), .second, .val (.int (5 : Int32)), .val (.int (((((PO + (1 : Int32)) + (1 : Int32)) + (1 : Int32)) + (1 : Int32)) + (1 : Int32)))] [(.int (7 : Int32)), (.ref by1)]))
          refine Fin.step (fun _ => XS.iloadN Xy82.here hx rfl (hb hby at_295) rfl) ?_
          show Fin p e below s _ _ _ (Ty82.setTop (mkF m 296 #[.val (.int pf), .val (.int pv), .val (.int pl), .val (.int PO), .val (.int PS), .val (.ref by1), .val (.long PU), .second, .val (.int (5 : Int32)), .val (.int (((((PO + (1 : Int32)) + (1 : Int32)) + (1 : Int32)) + (1 : Int32)) + (1 : Int32)))] [(.int PO), (.int (7 : Int32)), (.ref by1)]))
          refine Fin.step (fun _ => XS.iload Xy82.here hx rfl (hb hby at_296) rfl) ?_
          show Fin p e below s _ _ _ (Ty82.setTop (mkF m 298 #[.val (.int pf), .val (.int pv), .val (.int pl), .val (.int PO), .val (.int PS), .val (.ref by1), .val (.long PU), .second, .val (.int (5 : Int32)), .val (.int (((((PO + (1 : Int32)) + (1 : Int32)) + (1 : Int32)) + (1 : Int32)) + (1 : Int32)))] [(.int (5 : Int32)), (.int PO), (.int (7 : Int32)), (.ref by1)]))
          refine Fin.step (fun _ => XS.lload Xy82.here hx rfl (hb hby at_298) rfl) ?_
          show Fin p e below s _ _ _ (Ty82.setTop (mkF m 300 #[.val (.int pf), .val (.int pv), .val (.int pl), .val (.int PO), .val (.int PS), .val (.ref by1), .val (.long PU), .second, .val (.int (5 : Int32)), .val (.int (((((PO + (1 : Int32)) + (1 : Int32)) + (1 : Int32)) + (1 : Int32)) + (1 : Int32)))] [(.long PU), (.int (5 : Int32)), (.int PO), (.int (7 : Int32)), (.ref by1)]))
          refine Fin.step (fun _ => XS.iload Xy82.here hx rfl (hb hby at_300) rfl) ?_
          show Fin p e below s _ _ _ (Ty82.setTop (mkF m 302 #[.val (.int pf), .val (.int pv), .val (.int pl), .val (.int PO), .val (.int PS), .val (.ref by1), .val (.long PU), .second, .val (.int (5 : Int32)), .val (.int (((((PO + (1 : Int32)) + (1 : Int32)) + (1 : Int32)) + (1 : Int32)) + (1 : Int32)))] [(.int PS), (.long PU), (.int (5 : Int32)), (.int PO), (.int (7 : Int32)), (.ref by1)]))
          obtain ⟨_, _, ⟨Ty83, Ly83, ky83, ny83⟩, -, Xy83, ⟨Lcy83, hQy83, ly83, yy83, zy83⟩, sty83⟩ := Jvm.LawKit.callS Xy82 hx (y := (⟨"com/example/indexterity/indexterity/index/IndexFormatPutVarIntPinLaw", "at", "([BIIIJB)Z"⟩ : MethodName)) hown (mvT hZ (hw _ (List.mem_of_getElem? (i := 7) rfl))) (mvT hZ (hw _ (List.mem_of_getElem? (i := 8) rfl))) (mvT hZ (hw _ (List.mem_of_getElem? (i := 9) rfl))) (mvT hZ (hw _ (List.mem_of_getElem? (i := 10) rfl))) (by decide) (backOf (W := 0) (rma l Z a0 hw [] by1 (7 : Int32) PO (5 : Int32) PU PS ky1 (own_put 4 Ls PO.toNatClampNeg pv) Ty75.heap n0 Zy75 fy75_0 (own_pg 4 Ls _ pv M.2) ⟨by decide, by decide⟩) hZ (hw _ (List.mem_of_getElem? (i := 10) rfl)) (hw _ (List.mem_of_getElem? (i := 9) rfl)) (by decide) (by decide)) (g := (mkF m 302 #[.val (.int pf), .val (.int pv), .val (.int pl), .val (.int PO), .val (.int PS), .val (.ref by1), .val (.long PU), .second, .val (.int (5 : Int32)), .val (.int (((((PO + (1 : Int32)) + (1 : Int32)) + (1 : Int32)) + (1 : Int32)) + (1 : Int32)))] [(.int PS), (.long PU), (.int (5 : Int32)), (.int PO), (.int (7 : Int32)), (.ref by1)])) rfl (by rw [hml]; rfl) (argsL := [(.ref by1), (.int (7 : Int32)), (.int PO), (.int (5 : Int32)), (.long PU), (.int PS)]) (rest := []) (lenOf pd_1 rfl) rfl (by show 2 * 0 + _ ≤ _; exact Nat.le_of_eq rfl) (hb hby at_302) (fun _ _ => ⟨rfl, eqy82, (by decide : 1 + 0 ≤ _), (by decide : 13 + 0 ≤ _)⟩)
          dsimp only [Pt.U, Pt.locs, Pt.cells, Pt.slots] at Xy83 ly83 yy83 zy83 sty83 hQy83
          have yy83 : ky83 = 1 := yy83
          have zy83 : ny83 = 13 := zy83
          replace Xy83 := recast Xy83 ly83 yy83 zy83
          clear ly83 yy83 zy83
          obtain ⟨rfl, Nqy83, eqy83⟩ := hQy83
          have Ny83 := Fr.app Ny82 Nqy83
          refine Fin.step (sty83) ?_
          show Fin p e below s _ _ _ (Ty83.setTop (mkF m 305 #[.val (.int pf), .val (.int pv), .val (.int pl), .val (.int PO), .val (.int PS), .val (.ref by1), .val (.long PU), .second, .val (.int (5 : Int32)), .val (.int (((((PO + (1 : Int32)) + (1 : Int32)) + (1 : Int32)) + (1 : Int32)) + (1 : Int32)))] [(.int (own_at (own_get (own_put 4 Ls PO.toNatClampNeg pv) (7 : Int32).toNatClampNeg) (7 : Int32) PO (5 : Int32) PU PS))]))
          refine Fin.step (fun _ => XS.ifNo Xy83.here hx rfl (hb hby at_305) rfl ((if0 _ _).trans (feq ((own_1 (own_fin 4 (by decide) (7 : Int32) (5 : Int32) PO (by decide) (by decide) hO pv PS Ls M PU hU CL)) : ¬ ((own_at (own_get (own_put 4 Ls PO.toNatClampNeg pv) (7 : Int32).toNatClampNeg) (7 : Int32) PO (5 : Int32) PU PS) = (0 : Int32)))).1)) ?_
          show Fin p e below s _ _ _ (Ty83.setTop (mkF m 308 #[.val (.int pf), .val (.int pv), .val (.int pl), .val (.int PO), .val (.int PS), .val (.ref by1), .val (.long PU), .second, .val (.int (5 : Int32)), .val (.int (((((PO + (1 : Int32)) + (1 : Int32)) + (1 : Int32)) + (1 : Int32)) + (1 : Int32)))] []))
          refine Fin.step (fun _ => XS.aload Xy83.here hx rfl (hb hby at_308) rfl rfl) ?_
          show Fin p e below s _ _ _ (Ty83.setTop (mkF m 310 #[.val (.int pf), .val (.int pv), .val (.int pl), .val (.int PO), .val (.int PS), .val (.ref by1), .val (.long PU), .second, .val (.int (5 : Int32)), .val (.int (((((PO + (1 : Int32)) + (1 : Int32)) + (1 : Int32)) + (1 : Int32)) + (1 : Int32)))] [(.ref by1)]))
          refine Fin.step (fun _ => XS.bipush Xy83.here hx rfl (hb hby at_310)) ?_
          show Fin p e below s _ _ _ (Ty83.setTop (mkF m 312 #[.val (.int pf), .val (.int pv), .val (.int pl), .val (.int PO), .val (.int PS), .val (.ref by1), .val (.long PU), .second, .val (.int (5 : Int32)), .val (.int (((((PO + (1 : Int32)) + (1 : Int32)) + (1 : Int32)) + (1 : Int32)) + (1 : Int32)))] [(.int (8 : Int32)), (.ref by1)]))
          refine Fin.step (fun _ => XS.iloadN Xy83.here hx rfl (hb hby at_312) rfl) ?_
          show Fin p e below s _ _ _ (Ty83.setTop (mkF m 313 #[.val (.int pf), .val (.int pv), .val (.int pl), .val (.int PO), .val (.int PS), .val (.ref by1), .val (.long PU), .second, .val (.int (5 : Int32)), .val (.int (((((PO + (1 : Int32)) + (1 : Int32)) + (1 : Int32)) + (1 : Int32)) + (1 : Int32)))] [(.int PO), (.int (8 : Int32)), (.ref by1)]))
          refine Fin.step (fun _ => XS.iload Xy83.here hx rfl (hb hby at_313) rfl) ?_
          show Fin p e below s _ _ _ (Ty83.setTop (mkF m 315 #[.val (.int pf), .val (.int pv), .val (.int pl), .val (.int PO), .val (.int PS), .val (.ref by1), .val (.long PU), .second, .val (.int (5 : Int32)), .val (.int (((((PO + (1 : Int32)) + (1 : Int32)) + (1 : Int32)) + (1 : Int32)) + (1 : Int32)))] [(.int (5 : Int32)), (.int PO), (.int (8 : Int32)), (.ref by1)]))
          refine Fin.step (fun _ => XS.lload Xy83.here hx rfl (hb hby at_315) rfl) ?_
          show Fin p e below s _ _ _ (Ty83.setTop (mkF m 317 #[.val (.int pf), .val (.int pv), .val (.int pl), .val (.int PO), .val (.int PS), .val (.ref by1), .val (.long PU), .second, .val (.int (5 : Int32)), .val (.int (((((PO + (1 : Int32)) + (1 : Int32)) + (1 : Int32)) + (1 : Int32)) + (1 : Int32)))] [(.long PU), (.int (5 : Int32)), (.int PO), (.int (8 : Int32)), (.ref by1)]))
          refine Fin.step (fun _ => XS.iload Xy83.here hx rfl (hb hby at_317) rfl) ?_
          show Fin p e below s _ _ _ (Ty83.setTop (mkF m 319 #[.val (.int pf), .val (.int pv), .val (.int pl), .val (.int PO), .val (.int PS), .val (.ref by1), .val (.long PU), .second, .val (.int (5 : Int32)), .val (.int (((((PO + (1 : Int32)) + (1 : Int32)) + (1 : Int32)) + (1 : Int32)) + (1 : Int32)))] [(.int PS), (.long PU), (.int (5 : Int32)), (.int PO), (.int (8 : Int32)), (.ref by1)]))
          obtain ⟨_, _, ⟨Ty84, Ly84, ky84, ny84⟩, -, Xy84, ⟨Lcy84, hQy84, ly84, yy84, zy84⟩, sty84⟩ := Jvm.LawKit.callS Xy83 hx (y := (⟨"com/example/indexterity/indexterity/index/IndexFormatPutVarIntPinLaw", "at", "([BIIIJB)Z"⟩ : MethodName)) hown (mvT hZ (hw _ (List.mem_of_getElem? (i := 7) rfl))) (mvT hZ (hw _ (List.mem_of_getElem? (i := 8) rfl))) (mvT hZ (hw _ (List.mem_of_getElem? (i := 9) rfl))) (mvT hZ (hw _ (List.mem_of_getElem? (i := 10) rfl))) (by decide) (backOf (W := 0) (rma l Z a0 hw [] by1 (8 : Int32) PO (5 : Int32) PU PS ky1 (own_put 4 Ls PO.toNatClampNeg pv) Ty75.heap n0 Zy75 fy75_0 (own_pg 4 Ls _ pv M.2) ⟨by decide, by decide⟩) hZ (hw _ (List.mem_of_getElem? (i := 10) rfl)) (hw _ (List.mem_of_getElem? (i := 9) rfl)) (by decide) (by decide)) (g := (mkF m 319 #[.val (.int pf), .val (.int pv), .val (.int pl), .val (.int PO), .val (.int PS), .val (.ref by1), .val (.long PU), .second, .val (.int (5 : Int32)), .val (.int (((((PO + (1 : Int32)) + (1 : Int32)) + (1 : Int32)) + (1 : Int32)) + (1 : Int32)))] [(.int PS), (.long PU), (.int (5 : Int32)), (.int PO), (.int (8 : Int32)), (.ref by1)])) rfl (by rw [hml]; rfl) (argsL := [(.ref by1), (.int (8 : Int32)), (.int PO), (.int (5 : Int32)), (.long PU), (.int PS)]) (rest := []) (lenOf pd_1 rfl) rfl (by show 2 * 0 + _ ≤ _; exact Nat.le_of_eq rfl) (hb hby at_319) (fun _ _ => ⟨rfl, eqy83, (by decide : 1 + 0 ≤ _), (by decide : 13 + 0 ≤ _)⟩)
          dsimp only [Pt.U, Pt.locs, Pt.cells, Pt.slots] at Xy84 ly84 yy84 zy84 sty84 hQy84
          have yy84 : ky84 = 1 := yy84
          have zy84 : ny84 = 13 := zy84
          replace Xy84 := recast Xy84 ly84 yy84 zy84
          clear ly84 yy84 zy84
          obtain ⟨rfl, Nqy84, eqy84⟩ := hQy84
          have Ny84 := Fr.app Ny83 Nqy84
          refine Fin.step (sty84) ?_
          show Fin p e below s _ _ _ (Ty84.setTop (mkF m 322 #[.val (.int pf), .val (.int pv), .val (.int pl), .val (.int PO), .val (.int PS), .val (.ref by1), .val (.long PU), .second, .val (.int (5 : Int32)), .val (.int (((((PO + (1 : Int32)) + (1 : Int32)) + (1 : Int32)) + (1 : Int32)) + (1 : Int32)))] [(.int (own_at (own_get (own_put 4 Ls PO.toNatClampNeg pv) (8 : Int32).toNatClampNeg) (8 : Int32) PO (5 : Int32) PU PS))]))
          refine Fin.step (fun _ => XS.ifNo Xy84.here hx rfl (hb hby at_322) rfl ((if0 _ _).trans (feq ((own_1 (own_fin 4 (by decide) (8 : Int32) (5 : Int32) PO (by decide) (by decide) hO pv PS Ls M PU hU CL)) : ¬ ((own_at (own_get (own_put 4 Ls PO.toNatClampNeg pv) (8 : Int32).toNatClampNeg) (8 : Int32) PO (5 : Int32) PU PS) = (0 : Int32)))).1)) ?_
          show Fin p e below s _ _ _ (Ty84.setTop (mkF m 325 #[.val (.int pf), .val (.int pv), .val (.int pl), .val (.int PO), .val (.int PS), .val (.ref by1), .val (.long PU), .second, .val (.int (5 : Int32)), .val (.int (((((PO + (1 : Int32)) + (1 : Int32)) + (1 : Int32)) + (1 : Int32)) + (1 : Int32)))] []))
          refine Fin.step (fun _ => XS.aload Xy84.here hx rfl (hb hby at_325) rfl rfl) ?_
          show Fin p e below s _ _ _ (Ty84.setTop (mkF m 327 #[.val (.int pf), .val (.int pv), .val (.int pl), .val (.int PO), .val (.int PS), .val (.ref by1), .val (.long PU), .second, .val (.int (5 : Int32)), .val (.int (((((PO + (1 : Int32)) + (1 : Int32)) + (1 : Int32)) + (1 : Int32)) + (1 : Int32)))] [(.ref by1)]))
          refine Fin.step (fun _ => XS.bipush Xy84.here hx rfl (hb hby at_327)) ?_
          show Fin p e below s _ _ _ (Ty84.setTop (mkF m 329 #[.val (.int pf), .val (.int pv), .val (.int pl), .val (.int PO), .val (.int PS), .val (.ref by1), .val (.long PU), .second, .val (.int (5 : Int32)), .val (.int (((((PO + (1 : Int32)) + (1 : Int32)) + (1 : Int32)) + (1 : Int32)) + (1 : Int32)))] [(.int (9 : Int32)), (.ref by1)]))
          refine Fin.step (fun _ => XS.iloadN Xy84.here hx rfl (hb hby at_329) rfl) ?_
          show Fin p e below s _ _ _ (Ty84.setTop (mkF m 330 #[.val (.int pf), .val (.int pv), .val (.int pl), .val (.int PO), .val (.int PS), .val (.ref by1), .val (.long PU), .second, .val (.int (5 : Int32)), .val (.int (((((PO + (1 : Int32)) + (1 : Int32)) + (1 : Int32)) + (1 : Int32)) + (1 : Int32)))] [(.int PO), (.int (9 : Int32)), (.ref by1)]))
          refine Fin.step (fun _ => XS.iload Xy84.here hx rfl (hb hby at_330) rfl) ?_
          show Fin p e below s _ _ _ (Ty84.setTop (mkF m 332 #[.val (.int pf), .val (.int pv), .val (.int pl), .val (.int PO), .val (.int PS), .val (.ref by1), .val (.long PU), .second, .val (.int (5 : Int32)), .val (.int (((((PO + (1 : Int32)) + (1 : Int32)) + (1 : Int32)) + (1 : Int32)) + (1 : Int32)))] [(.int (5 : Int32)), (.int PO), (.int (9 : Int32)), (.ref by1)]))
          refine Fin.step (fun _ => XS.lload Xy84.here hx rfl (hb hby at_332) rfl) ?_
          show Fin p e below s _ _ _ (Ty84.setTop (mkF m 334 #[.val (.int pf), .val (.int pv), .val (.int pl), .val (.int PO), .val (.int PS), .val (.ref by1), .val (.long PU), .second, .val (.int (5 : Int32)), .val (.int (((((PO + (1 : Int32)) + (1 : Int32)) + (1 : Int32)) + (1 : Int32)) + (1 : Int32)))] [(.long PU), (.int (5 : Int32)), (.int PO), (.int (9 : Int32)), (.ref by1)]))
          refine Fin.step (fun _ => XS.iload Xy84.here hx rfl (hb hby at_334) rfl) ?_
          show Fin p e below s _ _ _ (Ty84.setTop (mkF m 336 #[.val (.int pf), .val (.int pv), .val (.int pl), .val (.int PO), .val (.int PS), .val (.ref by1), .val (.long PU), .second, .val (.int (5 : Int32)), .val (.int (((((PO + (1 : Int32)) + (1 : Int32)) + (1 : Int32)) + (1 : Int32)) + (1 : Int32)))] [(.int PS), (.long PU), (.int (5 : Int32)), (.int PO), (.int (9 : Int32)), (.ref by1)]))
          obtain ⟨_, _, ⟨Ty85, Ly85, ky85, ny85⟩, -, Xy85, ⟨Lcy85, hQy85, ly85, yy85, zy85⟩, sty85⟩ := Jvm.LawKit.callS Xy84 hx (y := (⟨"com/example/indexterity/indexterity/index/IndexFormatPutVarIntPinLaw", "at", "([BIIIJB)Z"⟩ : MethodName)) hown (mvT hZ (hw _ (List.mem_of_getElem? (i := 7) rfl))) (mvT hZ (hw _ (List.mem_of_getElem? (i := 8) rfl))) (mvT hZ (hw _ (List.mem_of_getElem? (i := 9) rfl))) (mvT hZ (hw _ (List.mem_of_getElem? (i := 10) rfl))) (by decide) (backOf (W := 0) (rma l Z a0 hw [] by1 (9 : Int32) PO (5 : Int32) PU PS ky1 (own_put 4 Ls PO.toNatClampNeg pv) Ty75.heap n0 Zy75 fy75_0 (own_pg 4 Ls _ pv M.2) ⟨by decide, by decide⟩) hZ (hw _ (List.mem_of_getElem? (i := 10) rfl)) (hw _ (List.mem_of_getElem? (i := 9) rfl)) (by decide) (by decide)) (g := (mkF m 336 #[.val (.int pf), .val (.int pv), .val (.int pl), .val (.int PO), .val (.int PS), .val (.ref by1), .val (.long PU), .second, .val (.int (5 : Int32)), .val (.int (((((PO + (1 : Int32)) + (1 : Int32)) + (1 : Int32)) + (1 : Int32)) + (1 : Int32)))] [(.int PS), (.long PU), (.int (5 : Int32)), (.int PO), (.int (9 : Int32)), (.ref by1)])) rfl (by rw [hml]; rfl) (argsL := [(.ref by1), (.int (9 : Int32)), (.int PO), (.int (5 : Int32)), (.long PU), (.int PS)]) (rest := []) (lenOf pd_1 rfl) rfl (by show 2 * 0 + _ ≤ _; exact Nat.le_of_eq rfl) (hb hby at_336) (fun _ _ => ⟨rfl, eqy84, (by decide : 1 + 0 ≤ _), (by decide : 13 + 0 ≤ _)⟩)
          dsimp only [Pt.U, Pt.locs, Pt.cells, Pt.slots] at Xy85 ly85 yy85 zy85 sty85 hQy85
          have yy85 : ky85 = 1 := yy85
          have zy85 : ny85 = 13 := zy85
          replace Xy85 := recast Xy85 ly85 yy85 zy85
          clear ly85 yy85 zy85
          obtain ⟨rfl, Nqy85, eqy85⟩ := hQy85
          have Ny85 := Fr.app Ny84 Nqy85
          refine Fin.step (sty85) ?_
          show Fin p e below s _ _ _ (Ty85.setTop (mkF m 339 #[.val (.int pf), .val (.int pv), .val (.int pl), .val (.int PO), .val (.int PS), .val (.ref by1), .val (.long PU), .second, .val (.int (5 : Int32)), .val (.int (((((PO + (1 : Int32)) + (1 : Int32)) + (1 : Int32)) + (1 : Int32)) + (1 : Int32)))] [(.int (own_at (own_get (own_put 4 Ls PO.toNatClampNeg pv) (9 : Int32).toNatClampNeg) (9 : Int32) PO (5 : Int32) PU PS))]))
          refine Fin.step (fun _ => XS.ifNo Xy85.here hx rfl (hb hby at_339) rfl ((if0 _ _).trans (feq ((own_1 (own_fin 4 (by decide) (9 : Int32) (5 : Int32) PO (by decide) (by decide) hO pv PS Ls M PU hU CL)) : ¬ ((own_at (own_get (own_put 4 Ls PO.toNatClampNeg pv) (9 : Int32).toNatClampNeg) (9 : Int32) PO (5 : Int32) PU PS) = (0 : Int32)))).1)) ?_
          show Fin p e below s _ _ _ (Ty85.setTop (mkF m 342 #[.val (.int pf), .val (.int pv), .val (.int pl), .val (.int PO), .val (.int PS), .val (.ref by1), .val (.long PU), .second, .val (.int (5 : Int32)), .val (.int (((((PO + (1 : Int32)) + (1 : Int32)) + (1 : Int32)) + (1 : Int32)) + (1 : Int32)))] []))
          refine Fin.step (fun _ => XS.aload Xy85.here hx rfl (hb hby at_342) rfl rfl) ?_
          show Fin p e below s _ _ _ (Ty85.setTop (mkF m 344 #[.val (.int pf), .val (.int pv), .val (.int pl), .val (.int PO), .val (.int PS), .val (.ref by1), .val (.long PU), .second, .val (.int (5 : Int32)), .val (.int (((((PO + (1 : Int32)) + (1 : Int32)) + (1 : Int32)) + (1 : Int32)) + (1 : Int32)))] [(.ref by1)]))
          refine Fin.step (fun _ => XS.bipush Xy85.here hx rfl (hb hby at_344)) ?_
          show Fin p e below s _ _ _ (Ty85.setTop (mkF m 346 #[.val (.int pf), .val (.int pv), .val (.int pl), .val (.int PO), .val (.int PS), .val (.ref by1), .val (.long PU), .second, .val (.int (5 : Int32)), .val (.int (((((PO + (1 : Int32)) + (1 : Int32)) + (1 : Int32)) + (1 : Int32)) + (1 : Int32)))] [(.int (10 : Int32)), (.ref by1)]))
          refine Fin.step (fun _ => XS.iloadN Xy85.here hx rfl (hb hby at_346) rfl) ?_
          show Fin p e below s _ _ _ (Ty85.setTop (mkF m 347 #[.val (.int pf), .val (.int pv), .val (.int pl), .val (.int PO), .val (.int PS), .val (.ref by1), .val (.long PU), .second, .val (.int (5 : Int32)), .val (.int (((((PO + (1 : Int32)) + (1 : Int32)) + (1 : Int32)) + (1 : Int32)) + (1 : Int32)))] [(.int PO), (.int (10 : Int32)), (.ref by1)]))
          refine Fin.step (fun _ => XS.iload Xy85.here hx rfl (hb hby at_347) rfl) ?_
          show Fin p e below s _ _ _ (Ty85.setTop (mkF m 349 #[.val (.int pf), .val (.int pv), .val (.int pl), .val (.int PO), .val (.int PS), .val (.ref by1), .val (.long PU), .second, .val (.int (5 : Int32)), .val (.int (((((PO + (1 : Int32)) + (1 : Int32)) + (1 : Int32)) + (1 : Int32)) + (1 : Int32)))] [(.int (5 : Int32)), (.int PO), (.int (10 : Int32)), (.ref by1)]))
          refine Fin.step (fun _ => XS.lload Xy85.here hx rfl (hb hby at_349) rfl) ?_
          show Fin p e below s _ _ _ (Ty85.setTop (mkF m 351 #[.val (.int pf), .val (.int pv), .val (.int pl), .val (.int PO), .val (.int PS), .val (.ref by1), .val (.long PU), .second, .val (.int (5 : Int32)), .val (.int (((((PO + (1 : Int32)) + (1 : Int32)) + (1 : Int32)) + (1 : Int32)) + (1 : Int32)))] [(.long PU), (.int (5 : Int32)), (.int PO), (.int (10 : Int32)), (.ref by1)]))
          refine Fin.step (fun _ => XS.iload Xy85.here hx rfl (hb hby at_351) rfl) ?_
          show Fin p e below s _ _ _ (Ty85.setTop (mkF m 353 #[.val (.int pf), .val (.int pv), .val (.int pl), .val (.int PO), .val (.int PS), .val (.ref by1), .val (.long PU), .second, .val (.int (5 : Int32)), .val (.int (((((PO + (1 : Int32)) + (1 : Int32)) + (1 : Int32)) + (1 : Int32)) + (1 : Int32)))] [(.int PS), (.long PU), (.int (5 : Int32)), (.int PO), (.int (10 : Int32)), (.ref by1)]))
          obtain ⟨_, _, ⟨Ty86, Ly86, ky86, ny86⟩, -, Xy86, ⟨Lcy86, hQy86, ly86, yy86, zy86⟩, sty86⟩ := Jvm.LawKit.callS Xy85 hx (y := (⟨"com/example/indexterity/indexterity/index/IndexFormatPutVarIntPinLaw", "at", "([BIIIJB)Z"⟩ : MethodName)) hown (mvT hZ (hw _ (List.mem_of_getElem? (i := 7) rfl))) (mvT hZ (hw _ (List.mem_of_getElem? (i := 8) rfl))) (mvT hZ (hw _ (List.mem_of_getElem? (i := 9) rfl))) (mvT hZ (hw _ (List.mem_of_getElem? (i := 10) rfl))) (by decide) (backOf (W := 0) (rma l Z a0 hw [] by1 (10 : Int32) PO (5 : Int32) PU PS ky1 (own_put 4 Ls PO.toNatClampNeg pv) Ty75.heap n0 Zy75 fy75_0 (own_pg 4 Ls _ pv M.2) ⟨by decide, by decide⟩) hZ (hw _ (List.mem_of_getElem? (i := 10) rfl)) (hw _ (List.mem_of_getElem? (i := 9) rfl)) (by decide) (by decide)) (g := (mkF m 353 #[.val (.int pf), .val (.int pv), .val (.int pl), .val (.int PO), .val (.int PS), .val (.ref by1), .val (.long PU), .second, .val (.int (5 : Int32)), .val (.int (((((PO + (1 : Int32)) + (1 : Int32)) + (1 : Int32)) + (1 : Int32)) + (1 : Int32)))] [(.int PS), (.long PU), (.int (5 : Int32)), (.int PO), (.int (10 : Int32)), (.ref by1)])) rfl (by rw [hml]; rfl) (argsL := [(.ref by1), (.int (10 : Int32)), (.int PO), (.int (5 : Int32)), (.long PU), (.int PS)]) (rest := []) (lenOf pd_1 rfl) rfl (by show 2 * 0 + _ ≤ _; exact Nat.le_of_eq rfl) (hb hby at_353) (fun _ _ => ⟨rfl, eqy85, (by decide : 1 + 0 ≤ _), (by decide : 13 + 0 ≤ _)⟩)
          dsimp only [Pt.U, Pt.locs, Pt.cells, Pt.slots] at Xy86 ly86 yy86 zy86 sty86 hQy86
          have yy86 : ky86 = 1 := yy86
          have zy86 : ny86 = 13 := zy86
          replace Xy86 := recast Xy86 ly86 yy86 zy86
          clear ly86 yy86 zy86
          obtain ⟨rfl, Nqy86, eqy86⟩ := hQy86
          have Ny86 := Fr.app Ny85 Nqy86
          refine Fin.step (sty86) ?_
          show Fin p e below s _ _ _ (Ty86.setTop (mkF m 356 #[.val (.int pf), .val (.int pv), .val (.int pl), .val (.int PO), .val (.int PS), .val (.ref by1), .val (.long PU), .second, .val (.int (5 : Int32)), .val (.int (((((PO + (1 : Int32)) + (1 : Int32)) + (1 : Int32)) + (1 : Int32)) + (1 : Int32)))] [(.int (own_at (own_get (own_put 4 Ls PO.toNatClampNeg pv) (10 : Int32).toNatClampNeg) (10 : Int32) PO (5 : Int32) PU PS))]))
          refine Fin.step (fun _ => XS.ifNo Xy86.here hx rfl (hb hby at_356) rfl ((if0 _ _).trans (feq ((own_1 (own_fin 4 (by decide) (10 : Int32) (5 : Int32) PO (by decide) (by decide) hO pv PS Ls M PU hU CL)) : ¬ ((own_at (own_get (own_put 4 Ls PO.toNatClampNeg pv) (10 : Int32).toNatClampNeg) (10 : Int32) PO (5 : Int32) PU PS) = (0 : Int32)))).1)) ?_
          show Fin p e below s _ _ _ (Ty86.setTop (mkF m 359 #[.val (.int pf), .val (.int pv), .val (.int pl), .val (.int PO), .val (.int PS), .val (.ref by1), .val (.long PU), .second, .val (.int (5 : Int32)), .val (.int (((((PO + (1 : Int32)) + (1 : Int32)) + (1 : Int32)) + (1 : Int32)) + (1 : Int32)))] []))
          refine Fin.step (fun _ => XS.aload Xy86.here hx rfl (hb hby at_359) rfl rfl) ?_
          show Fin p e below s _ _ _ (Ty86.setTop (mkF m 361 #[.val (.int pf), .val (.int pv), .val (.int pl), .val (.int PO), .val (.int PS), .val (.ref by1), .val (.long PU), .second, .val (.int (5 : Int32)), .val (.int (((((PO + (1 : Int32)) + (1 : Int32)) + (1 : Int32)) + (1 : Int32)) + (1 : Int32)))] [(.ref by1)]))
          refine Fin.step (fun _ => XS.bipush Xy86.here hx rfl (hb hby at_361)) ?_
          show Fin p e below s _ _ _ (Ty86.setTop (mkF m 363 #[.val (.int pf), .val (.int pv), .val (.int pl), .val (.int PO), .val (.int PS), .val (.ref by1), .val (.long PU), .second, .val (.int (5 : Int32)), .val (.int (((((PO + (1 : Int32)) + (1 : Int32)) + (1 : Int32)) + (1 : Int32)) + (1 : Int32)))] [(.int (11 : Int32)), (.ref by1)]))
          refine Fin.step (fun _ => XS.iloadN Xy86.here hx rfl (hb hby at_363) rfl) ?_
          show Fin p e below s _ _ _ (Ty86.setTop (mkF m 364 #[.val (.int pf), .val (.int pv), .val (.int pl), .val (.int PO), .val (.int PS), .val (.ref by1), .val (.long PU), .second, .val (.int (5 : Int32)), .val (.int (((((PO + (1 : Int32)) + (1 : Int32)) + (1 : Int32)) + (1 : Int32)) + (1 : Int32)))] [(.int PO), (.int (11 : Int32)), (.ref by1)]))
          refine Fin.step (fun _ => XS.iload Xy86.here hx rfl (hb hby at_364) rfl) ?_
          show Fin p e below s _ _ _ (Ty86.setTop (mkF m 366 #[.val (.int pf), .val (.int pv), .val (.int pl), .val (.int PO), .val (.int PS), .val (.ref by1), .val (.long PU), .second, .val (.int (5 : Int32)), .val (.int (((((PO + (1 : Int32)) + (1 : Int32)) + (1 : Int32)) + (1 : Int32)) + (1 : Int32)))] [(.int (5 : Int32)), (.int PO), (.int (11 : Int32)), (.ref by1)]))
          refine Fin.step (fun _ => XS.lload Xy86.here hx rfl (hb hby at_366) rfl) ?_
          show Fin p e below s _ _ _ (Ty86.setTop (mkF m 368 #[.val (.int pf), .val (.int pv), .val (.int pl), .val (.int PO), .val (.int PS), .val (.ref by1), .val (.long PU), .second, .val (.int (5 : Int32)), .val (.int (((((PO + (1 : Int32)) + (1 : Int32)) + (1 : Int32)) + (1 : Int32)) + (1 : Int32)))] [(.long PU), (.int (5 : Int32)), (.int PO), (.int (11 : Int32)), (.ref by1)]))
          refine Fin.step (fun _ => XS.iload Xy86.here hx rfl (hb hby at_368) rfl) ?_
          show Fin p e below s _ _ _ (Ty86.setTop (mkF m 370 #[.val (.int pf), .val (.int pv), .val (.int pl), .val (.int PO), .val (.int PS), .val (.ref by1), .val (.long PU), .second, .val (.int (5 : Int32)), .val (.int (((((PO + (1 : Int32)) + (1 : Int32)) + (1 : Int32)) + (1 : Int32)) + (1 : Int32)))] [(.int PS), (.long PU), (.int (5 : Int32)), (.int PO), (.int (11 : Int32)), (.ref by1)]))
          obtain ⟨_, _, ⟨Ty87, Ly87, ky87, ny87⟩, -, Xy87, ⟨Lcy87, hQy87, ly87, yy87, zy87⟩, sty87⟩ := Jvm.LawKit.callS Xy86 hx (y := (⟨"com/example/indexterity/indexterity/index/IndexFormatPutVarIntPinLaw", "at", "([BIIIJB)Z"⟩ : MethodName)) hown (mvT hZ (hw _ (List.mem_of_getElem? (i := 7) rfl))) (mvT hZ (hw _ (List.mem_of_getElem? (i := 8) rfl))) (mvT hZ (hw _ (List.mem_of_getElem? (i := 9) rfl))) (mvT hZ (hw _ (List.mem_of_getElem? (i := 10) rfl))) (by decide) (backOf (W := 0) (rma l Z a0 hw [] by1 (11 : Int32) PO (5 : Int32) PU PS ky1 (own_put 4 Ls PO.toNatClampNeg pv) Ty75.heap n0 Zy75 fy75_0 (own_pg 4 Ls _ pv M.2) ⟨by decide, by decide⟩) hZ (hw _ (List.mem_of_getElem? (i := 10) rfl)) (hw _ (List.mem_of_getElem? (i := 9) rfl)) (by decide) (by decide)) (g := (mkF m 370 #[.val (.int pf), .val (.int pv), .val (.int pl), .val (.int PO), .val (.int PS), .val (.ref by1), .val (.long PU), .second, .val (.int (5 : Int32)), .val (.int (((((PO + (1 : Int32)) + (1 : Int32)) + (1 : Int32)) + (1 : Int32)) + (1 : Int32)))] [(.int PS), (.long PU), (.int (5 : Int32)), (.int PO), (.int (11 : Int32)), (.ref by1)])) rfl (by rw [hml]; rfl) (argsL := [(.ref by1), (.int (11 : Int32)), (.int PO), (.int (5 : Int32)), (.long PU), (.int PS)]) (rest := []) (lenOf pd_1 rfl) rfl (by show 2 * 0 + _ ≤ _; exact Nat.le_of_eq rfl) (hb hby at_370) (fun _ _ => ⟨rfl, eqy86, (by decide : 1 + 0 ≤ _), (by decide : 13 + 0 ≤ _)⟩)
          dsimp only [Pt.U, Pt.locs, Pt.cells, Pt.slots] at Xy87 ly87 yy87 zy87 sty87 hQy87
          have yy87 : ky87 = 1 := yy87
          have zy87 : ny87 = 13 := zy87
          replace Xy87 := recast Xy87 ly87 yy87 zy87
          clear ly87 yy87 zy87
          obtain ⟨rfl, Nqy87, eqy87⟩ := hQy87
          have Ny87 := Fr.app Ny86 Nqy87
          refine Fin.step (sty87) ?_
          show Fin p e below s _ _ _ (Ty87.setTop (mkF m 373 #[.val (.int pf), .val (.int pv), .val (.int pl), .val (.int PO), .val (.int PS), .val (.ref by1), .val (.long PU), .second, .val (.int (5 : Int32)), .val (.int (((((PO + (1 : Int32)) + (1 : Int32)) + (1 : Int32)) + (1 : Int32)) + (1 : Int32)))] [(.int (own_at (own_get (own_put 4 Ls PO.toNatClampNeg pv) (11 : Int32).toNatClampNeg) (11 : Int32) PO (5 : Int32) PU PS))]))
          refine Fin.step (fun _ => XS.ifNo Xy87.here hx rfl (hb hby at_373) rfl ((if0 _ _).trans (feq ((own_1 (own_fin 4 (by decide) (11 : Int32) (5 : Int32) PO (by decide) (by decide) hO pv PS Ls M PU hU CL)) : ¬ ((own_at (own_get (own_put 4 Ls PO.toNatClampNeg pv) (11 : Int32).toNatClampNeg) (11 : Int32) PO (5 : Int32) PU PS) = (0 : Int32)))).1)) ?_
          show Fin p e below s _ _ _ (Ty87.setTop (mkF m 376 #[.val (.int pf), .val (.int pv), .val (.int pl), .val (.int PO), .val (.int PS), .val (.ref by1), .val (.long PU), .second, .val (.int (5 : Int32)), .val (.int (((((PO + (1 : Int32)) + (1 : Int32)) + (1 : Int32)) + (1 : Int32)) + (1 : Int32)))] []))
          refine Fin.step (fun _ => XS.aload Xy87.here hx rfl (hb hby at_376) rfl rfl) ?_
          show Fin p e below s _ _ _ (Ty87.setTop (mkF m 378 #[.val (.int pf), .val (.int pv), .val (.int pl), .val (.int PO), .val (.int PS), .val (.ref by1), .val (.long PU), .second, .val (.int (5 : Int32)), .val (.int (((((PO + (1 : Int32)) + (1 : Int32)) + (1 : Int32)) + (1 : Int32)) + (1 : Int32)))] [(.ref by1)]))
          refine Fin.step (fun _ => XS.bipush Xy87.here hx rfl (hb hby at_378)) ?_
          show Fin p e below s _ _ _ (Ty87.setTop (mkF m 380 #[.val (.int pf), .val (.int pv), .val (.int pl), .val (.int PO), .val (.int PS), .val (.ref by1), .val (.long PU), .second, .val (.int (5 : Int32)), .val (.int (((((PO + (1 : Int32)) + (1 : Int32)) + (1 : Int32)) + (1 : Int32)) + (1 : Int32)))] [(.int (12 : Int32)), (.ref by1)]))
          refine Fin.step (fun _ => XS.iloadN Xy87.here hx rfl (hb hby at_380) rfl) ?_
          show Fin p e below s _ _ _ (Ty87.setTop (mkF m 381 #[.val (.int pf), .val (.int pv), .val (.int pl), .val (.int PO), .val (.int PS), .val (.ref by1), .val (.long PU), .second, .val (.int (5 : Int32)), .val (.int (((((PO + (1 : Int32)) + (1 : Int32)) + (1 : Int32)) + (1 : Int32)) + (1 : Int32)))] [(.int PO), (.int (12 : Int32)), (.ref by1)]))
          refine Fin.step (fun _ => XS.iload Xy87.here hx rfl (hb hby at_381) rfl) ?_
          show Fin p e below s _ _ _ (Ty87.setTop (mkF m 383 #[.val (.int pf), .val (.int pv), .val (.int pl), .val (.int PO), .val (.int PS), .val (.ref by1), .val (.long PU), .second, .val (.int (5 : Int32)), .val (.int (((((PO + (1 : Int32)) + (1 : Int32)) + (1 : Int32)) + (1 : Int32)) + (1 : Int32)))] [(.int (5 : Int32)), (.int PO), (.int (12 : Int32)), (.ref by1)]))
          refine Fin.step (fun _ => XS.lload Xy87.here hx rfl (hb hby at_383) rfl) ?_
          show Fin p e below s _ _ _ (Ty87.setTop (mkF m 385 #[.val (.int pf), .val (.int pv), .val (.int pl), .val (.int PO), .val (.int PS), .val (.ref by1), .val (.long PU), .second, .val (.int (5 : Int32)), .val (.int (((((PO + (1 : Int32)) + (1 : Int32)) + (1 : Int32)) + (1 : Int32)) + (1 : Int32)))] [(.long PU), (.int (5 : Int32)), (.int PO), (.int (12 : Int32)), (.ref by1)]))
          refine Fin.step (fun _ => XS.iload Xy87.here hx rfl (hb hby at_385) rfl) ?_
          show Fin p e below s _ _ _ (Ty87.setTop (mkF m 387 #[.val (.int pf), .val (.int pv), .val (.int pl), .val (.int PO), .val (.int PS), .val (.ref by1), .val (.long PU), .second, .val (.int (5 : Int32)), .val (.int (((((PO + (1 : Int32)) + (1 : Int32)) + (1 : Int32)) + (1 : Int32)) + (1 : Int32)))] [(.int PS), (.long PU), (.int (5 : Int32)), (.int PO), (.int (12 : Int32)), (.ref by1)]))
          obtain ⟨_, _, ⟨Ty88, Ly88, ky88, ny88⟩, -, Xy88, ⟨Lcy88, hQy88, ly88, yy88, zy88⟩, sty88⟩ := Jvm.LawKit.callS Xy87 hx (y := (⟨"com/example/indexterity/indexterity/index/IndexFormatPutVarIntPinLaw", "at", "([BIIIJB)Z"⟩ : MethodName)) hown (mvT hZ (hw _ (List.mem_of_getElem? (i := 7) rfl))) (mvT hZ (hw _ (List.mem_of_getElem? (i := 8) rfl))) (mvT hZ (hw _ (List.mem_of_getElem? (i := 9) rfl))) (mvT hZ (hw _ (List.mem_of_getElem? (i := 10) rfl))) (by decide) (backOf (W := 0) (rma l Z a0 hw [] by1 (12 : Int32) PO (5 : Int32) PU PS ky1 (own_put 4 Ls PO.toNatClampNeg pv) Ty75.heap n0 Zy75 fy75_0 (own_pg 4 Ls _ pv M.2) ⟨by decide, by decide⟩) hZ (hw _ (List.mem_of_getElem? (i := 10) rfl)) (hw _ (List.mem_of_getElem? (i := 9) rfl)) (by decide) (by decide)) (g := (mkF m 387 #[.val (.int pf), .val (.int pv), .val (.int pl), .val (.int PO), .val (.int PS), .val (.ref by1), .val (.long PU), .second, .val (.int (5 : Int32)), .val (.int (((((PO + (1 : Int32)) + (1 : Int32)) + (1 : Int32)) + (1 : Int32)) + (1 : Int32)))] [(.int PS), (.long PU), (.int (5 : Int32)), (.int PO), (.int (12 : Int32)), (.ref by1)])) rfl (by rw [hml]; rfl) (argsL := [(.ref by1), (.int (12 : Int32)), (.int PO), (.int (5 : Int32)), (.long PU), (.int PS)]) (rest := []) (lenOf pd_1 rfl) rfl (by show 2 * 0 + _ ≤ _; exact Nat.le_of_eq rfl) (hb hby at_387) (fun _ _ => ⟨rfl, eqy87, (by decide : 1 + 0 ≤ _), (by decide : 13 + 0 ≤ _)⟩)
          dsimp only [Pt.U, Pt.locs, Pt.cells, Pt.slots] at Xy88 ly88 yy88 zy88 sty88 hQy88
          have yy88 : ky88 = 1 := yy88
          have zy88 : ny88 = 13 := zy88
          replace Xy88 := recast Xy88 ly88 yy88 zy88
          clear ly88 yy88 zy88
          obtain ⟨rfl, Nqy88, eqy88⟩ := hQy88
          have Ny88 := Fr.app Ny87 Nqy88
          refine Fin.step (sty88) ?_
          show Fin p e below s _ _ _ (Ty88.setTop (mkF m 390 #[.val (.int pf), .val (.int pv), .val (.int pl), .val (.int PO), .val (.int PS), .val (.ref by1), .val (.long PU), .second, .val (.int (5 : Int32)), .val (.int (((((PO + (1 : Int32)) + (1 : Int32)) + (1 : Int32)) + (1 : Int32)) + (1 : Int32)))] [(.int (own_at (own_get (own_put 4 Ls PO.toNatClampNeg pv) (12 : Int32).toNatClampNeg) (12 : Int32) PO (5 : Int32) PU PS))]))
          refine Fin.step (fun _ => XS.ifNo Xy88.here hx rfl (hb hby at_390) rfl ((if0 _ _).trans (feq ((own_1 (own_fin 4 (by decide) (12 : Int32) (5 : Int32) PO (by decide) (by decide) hO pv PS Ls M PU hU CL)) : ¬ ((own_at (own_get (own_put 4 Ls PO.toNatClampNeg pv) (12 : Int32).toNatClampNeg) (12 : Int32) PO (5 : Int32) PU PS) = (0 : Int32)))).1)) ?_
          show Fin p e below s _ _ _ (Ty88.setTop (mkF m 393 #[.val (.int pf), .val (.int pv), .val (.int pl), .val (.int PO), .val (.int PS), .val (.ref by1), .val (.long PU), .second, .val (.int (5 : Int32)), .val (.int (((((PO + (1 : Int32)) + (1 : Int32)) + (1 : Int32)) + (1 : Int32)) + (1 : Int32)))] []))
          refine Fin.step (fun _ => XS.iconst Xy88.here hx rfl (hb hby at_393)) ?_
          show Fin p e below s _ _ _ (Ty88.setTop (mkF m 394 #[.val (.int pf), .val (.int pv), .val (.int pl), .val (.int PO), .val (.int PS), .val (.ref by1), .val (.long PU), .second, .val (.int (5 : Int32)), .val (.int (((((PO + (1 : Int32)) + (1 : Int32)) + (1 : Int32)) + (1 : Int32)) + (1 : Int32)))] [(.int (1 : Int32))]))
          refine Fin.step (fun _ => XS.goto Xy88.here hx rfl (pc0 := 394) (pc' := 398) rfl (hb hby at_394) (by decide) (by decide)) ?_
          show Fin p e below s _ _ _ (Ty88.setTop (mkF m 398 #[.val (.int pf), .val (.int pv), .val (.int pl), .val (.int PO), .val (.int PS), .val (.ref by1), .val (.long PU), .second, .val (.int (5 : Int32)), .val (.int (((((PO + (1 : Int32)) + (1 : Int32)) + (1 : Int32)) + (1 : Int32)) + (1 : Int32)))] [(.int (1 : Int32))]))
          refine Fin.retN Xy88 hx (t := .boolean) hret (by simp) hlk (hb hby at_398) (by decide) (by decide) ?_
          show Q0 Z pf pv pl h0 n0 _ Ty88.heap _
          rw [eqy88]
          exact ⟨rfl, Ny88, Ky75⟩
set_option maxRecDepth 65536 in
set_option maxHeartbeats 40000000 in
theorem comes_1 {Post : Tables → Env → Array Value → State → Outcome → State → Prop} (hpost : ∀ tb e args s v u, (limb_1_1.after args s (.returned v) u = true ∧ limb_1_2.after args s (.returned v) u = true ∧ True) → FrameEnd s (.returned v) u (Jvm.fieldLocs frame_1_writes args s ++ Jvm.arrayLocs frame_1_arrays args s ++ Jvm.staticLocs frame_1_statics s) 16 128 → Post tb e args s (.returned v) u) :
    ArmFor flags0 classFile x code maxLocals ret World_1 tables_1 room_1 Calls_1 rest_1 Pre_1 Post := by
  intro l hfl _ _ p e ha hc hk s m args below hf hA hF happ hP
  obtain ⟨hcalls, hrest, hpre⟩ := hP
  obtain ⟨-, -, -, hnamed, -, -, -, hat⟩ := (Spec.applies_iff hf).mp happ
  obtain ⟨hg, hn⟩ := and_e (Cond.before_iff.mp (show (Jvm.Cond.and given_1 narrow_1).before args s = true from hpre))
  obtain ⟨gc, gr0⟩ := and_e hg
  obtain ⟨ga0, gr1⟩ := and_e gr0
  obtain ⟨ga1, gr2⟩ := and_e gr1
  have ga2 := gr2
  obtain ⟨w0, w1, w2, rfl⟩ : ∃ w0 w1 w2 : Value, args = #[w0, w1, w2] := by
    have hs : args.size = 3 := by simpa [Cond.value, given_1] using gc
    obtain ⟨L⟩ := args
    match L, hs with
    | [w0, w1, w2], _ => exact ⟨w0, w1, w2, rfl⟩
  have hw := fun d (hd : d ∈ tables_1) => atoms_spec (ws := Jvm.Cond.code x code maxLocals ret :: tables_1) hat d (List.mem_cons_of_mem _ hd)
  have hfit : Fit s := fun {y c} hc i hi => by
    obtain ⟨ha, rfl⟩ := Array.getElem?_eq_some_iff.mp hc
    have q := List.all_eq_true.mp ((Array.all_eq_true_iff_forall_mem.mp hF) _ (Array.getElem_mem ha)) i (List.mem_range.mpr hi)
    simpa [Array.getElem?_eq_getElem hi] using q
  obtain ⟨i0, ei0⟩ := is_v ga0
  obtain rfl : w0 = (.int i0) := Option.some.inj ei0
  obtain ⟨i1, ei1⟩ := is_v ga1
  obtain rfl : w1 = (.int i1) := Option.some.inj ei1
  obtain ⟨i2, ei2⟩ := is_v ga2
  obtain rfl : w2 = (.int i2) := Option.some.inj ei2
  obtain ⟨n, o, h1, h2, h3, _, L, rfl, ⟨rfl, N, _⟩, hq⟩ := rm0 l s _ hw tables_1 i0 i1 i2  s.heap s.heap.size (Nat.le_refl _)  p e ha hc hk s m _ below hf ((Spec.applies_iff_loose hf).mp happ).1 ⟨rfl, State.Warmed39.refl s, rfl⟩ trivial
  refine ⟨n, _, h1, h2, h3, hpost _ _ _ _ _ _ ⟨Cond.after_iff.mpr rfl, Cond.after_iff.mpr (eq_i res_at (Term.int_eval (1)) rfl), trivial⟩ ⟨hq.1, hq.2.1, (hq.2.2.sift fun y hy => Or.inr (N y hy)).mono (by decide) (by decide)⟩⟩
theorem main_1_1 : Claimed_1_1 := comes_1 fun _ _ _ _ _ _ h hF => ⟨h.1, hF⟩
theorem main_1_2 : Claimed_1_2 := comes_1 fun _ _ _ _ _ _ h hF => ⟨h.2.1, hF⟩
end Jvm.Pilot.@@N@@
namespace Jvm.Pilot.@@N@@
open Jvm Jvm.ClassFile Sem Op Lib Jvm.Free Jvm.Stand Jvm.Pilot.@@N@@.Jvm.D
/-! MADE BY PROGRAM (witnessworld.py) out of the Statement's table words and the real class files: 9 classes; the members and pool entries that the words name. The judged class is class 1, her method 1. -/
namespace start1
open Jvm.ClassFile
def u (s : String) : CpInfo := .utf8 (stringToUtf16 s)
/-- a pool by its gaps: so many unusable entries, then the entry; so many at the end -/
def gap : Nat → List CpInfo → List CpInfo
  | 0, r => r
  | n + 1, r => .unusable :: gap n r
def poolList (es : List (Nat × CpInfo)) (last : Nat) : List CpInfo := es.foldr (fun e r => gap e.1 (e.2 :: r)) (gap last [])
def pool (es : List (Nat × CpInfo)) (last : Nat) : Array CpInfo := ⟨poolList es last⟩
def fileOf (pool : Array CpInfo) (this : Nat) (attrs : Array Attribute := #[]) (ms : Array MethodInfo := #[]) (fl : Nat := 33) (sup : Nat := 0) (ifs : Array Nat := #[]) (fds : Array FieldInfo := #[]) : ClassFile where
  minorVersion := 0
  majorVersion := 65
  constantPool := pool
  accessFlags := fl
  thisClass := this
  superClass := sup
  interfaces := ifs
  fields := fds
  methods := ms
  attributes := attrs
def plain (name : String) (sup : Option ClassId) : Class where
  name := name
  kind := .ordinary
  loader := none
  accessFlags := 33
  super := sup
  interfaces := #[]
  cf := none
  fields := #[]
  methods := #[]
  instanceTypes := #[]
  staticTypes := #[]
  resolved := #[]
  callSites := []
  init := .initialized
  statics := none
  mirror := none

def pool0 : Array CpInfo := pool [(5, u "<init>"), (0, u "()V"), (1, .class_ 10), (1, u "java/lang/Object")] 113

def k0m0 : Method := { name := "<init>", desc := "()V", sig := { parameters := [], returnType := none }, accessFlags := 1, code := none }
/-- java/lang/Object -/
def k0 : Class := { plain "java/lang/Object" none with
  accessFlags := 33
  interfaces := #[]
  cf := some (fileOf pool0 8 #[] #[{ accessFlags := 1, nameIndex := 5, descriptorIndex := 6, attributes := #[] }] 33 0 #[] #[])
  fields := #[]
  methods := #[k0m0]
  instanceTypes := #[]
  staticTypes := #[]
  resolved := Array.replicate 124 none
  statics := none }

def pool1 : Array CpInfo := pool [(2, .class_ 4), (1, u "java/lang/Object"), (0, u "<init>"), (0, u "()V"), (0, .long 4294967295), (1, .long 128), (1, .long 16384), (1, .long 2097152), (1, .long 268435456), (1, .methodref 18 19), (0, .class_ 20), (0, .nameAndType 21 22), (0, u "com/example/indexterity/indexterity/index/IndexFormat"), (0, u "putVarInt"), (0, u "([BII)I"), (0, .methodref 24 25), (0, .class_ 26), (0, .nameAndType 27 28), (0, u "com/example/indexterity/indexterity/index/IndexFormatPutVarIntPinLaw"), (0, u "at"), (0, u "([BIIIJB)Z"), (0, .long 127), (3, u "law"), (0, u "(III)Z")] 5

def k1m0 : Method := { name := "<init>", desc := "()V", sig := { parameters := [], returnType := none }, accessFlags := 2, code := none }
def k1c1 : Code := { maxStack := 7, maxLocals := 10, code := code, exceptionTable := #[], attributes := #[] }
def k1m1 : Method := { name := "law", desc := "(III)Z", sig := { parameters := [.int, .int, .int], returnType := some .boolean }, accessFlags := 9, code := some k1c1 }
def k1c2 : Code := { maxStack := 4, maxLocals := 10, code := method_3_code, exceptionTable := #[], attributes := #[] }
def k1m2 : Method := { name := "at", desc := "([BIIIJB)Z", sig := { parameters := [(.array .byte), .int, .int, .int, .long, .byte], returnType := some .boolean }, accessFlags := 10, code := some k1c2 }
/-- com/example/indexterity/indexterity/index/IndexFormatPutVarIntPinLaw -/
def k1 : Class := { plain "com/example/indexterity/indexterity/index/IndexFormatPutVarIntPinLaw" (some 0) with
  accessFlags := 49
  interfaces := #[]
  cf := some (fileOf pool1 24 #[] #[{ accessFlags := 2, nameIndex := 5, descriptorIndex := 6, attributes := #[] }, { accessFlags := 9, nameIndex := 33, descriptorIndex := 34, attributes := #[] }, { accessFlags := 10, nameIndex := 27, descriptorIndex := 28, attributes := #[] }] 49 2 #[] #[])
  fields := #[]
  methods := #[k1m0, k1m1, k1m2]
  instanceTypes := #[]
  staticTypes := #[]
  resolved := Array.replicate 40 none
  statics := none }

def pool2 : Array CpInfo := pool [(2, .class_ 4), (1, u "java/lang/Object"), (0, u "<init>"), (0, u "()V"), (19, .class_ 27), (0, u "com/example/indexterity/indexterity/index/IndexFormat"), (2, u "putVarInt"), (0, u "([BII)I"), (76, u "MAGIC"), (0, u "[B"), (0, u "FILE_NAME"), (0, u "Ljava/lang/String;"), (3, u "TEMPORARY_SUFFIX"), (2, u "MAX_VARINT_BYTES"), (0, u "I"), (1, u "VERSION"), (0, u "BLOCK_SIZE"), (1, u "WIDTH_BITS")] 39

def k2m0 : Method := { name := "<init>", desc := "()V", sig := { parameters := [], returnType := none }, accessFlags := 2, code := none }
def k2c1 : Code := { maxStack := 4, maxLocals := 5, code := prog_37_method_4_code, exceptionTable := #[], attributes := #[] }
def k2m1 : Method := { name := "putVarInt", desc := "([BII)I", sig := { parameters := [(.array .byte), .int, .int], returnType := some .int }, accessFlags := 8, code := some k2c1 }
/-- com/example/indexterity/indexterity/index/IndexFormat -/
def k2 : Class := { plain "com/example/indexterity/indexterity/index/IndexFormat" (some 0) with
  accessFlags := 48
  interfaces := #[]
  cf := some (fileOf pool2 26 #[] #[{ accessFlags := 2, nameIndex := 5, descriptorIndex := 6, attributes := #[] }, { accessFlags := 8, nameIndex := 30, descriptorIndex := 31, attributes := #[] }] 48 2 #[] #[{ accessFlags := 24, nameIndex := 110, descriptorIndex := 111, attributes := #[] }, { accessFlags := 24, nameIndex := 115, descriptorIndex := 111, attributes := #[] }, { accessFlags := 24, nameIndex := 118, descriptorIndex := 119, attributes := #[] }, { accessFlags := 24, nameIndex := 108, descriptorIndex := 109, attributes := #[] }, { accessFlags := 24, nameIndex := 121, descriptorIndex := 119, attributes := #[] }, { accessFlags := 24, nameIndex := 122, descriptorIndex := 119, attributes := #[] }, { accessFlags := 24, nameIndex := 124, descriptorIndex := 119, attributes := #[] }])
  fields := #[{ name := "FILE_NAME", type := (.object "java/lang/String"), accessFlags := 24, slot := 0, constantValue := 0 }, { name := "TEMPORARY_SUFFIX", type := (.object "java/lang/String"), accessFlags := 24, slot := 1, constantValue := 0 }, { name := "MAX_VARINT_BYTES", type := .int, accessFlags := 24, slot := 2, constantValue := 0 }, { name := "MAGIC", type := (.array .byte), accessFlags := 24, slot := 3, constantValue := 0 }, { name := "VERSION", type := .int, accessFlags := 24, slot := 4, constantValue := 0 }, { name := "BLOCK_SIZE", type := .int, accessFlags := 24, slot := 5, constantValue := 0 }, { name := "WIDTH_BITS", type := .int, accessFlags := 24, slot := 6, constantValue := 0 }]
  methods := #[k2m0, k2m1]
  instanceTypes := #[]
  staticTypes := #[(.object "java/lang/String"), (.object "java/lang/String"), .int, (.array .byte), .int, .int, .int]
  resolved := Array.replicate 164 none
  statics := none }

def pool3 : Array CpInfo := pool [(1, u "java/lang/Cloneable"), (0, .class_ 1), (0, u "java/lang/Object"), (0, .class_ 3)] 3

/-- java/lang/Cloneable -/
def k3 : Class := { plain "java/lang/Cloneable" (some 0) with
  accessFlags := 1537
  interfaces := #[]
  cf := some (fileOf pool3 2 #[] #[] 1537 4 #[] #[])
  fields := #[]
  methods := #[]
  instanceTypes := #[]
  staticTypes := #[]
  resolved := Array.replicate 8 none
  statics := none }

def pool4 : Array CpInfo := pool [(1, u "java/io/Serializable"), (0, .class_ 1), (0, u "java/lang/Object"), (0, .class_ 3)] 3

/-- java/io/Serializable -/
def k4 : Class := { plain "java/io/Serializable" (some 0) with
  accessFlags := 1537
  interfaces := #[]
  cf := some (fileOf pool4 2 #[] #[] 1537 4 #[] #[])
  fields := #[]
  methods := #[]
  instanceTypes := #[]
  staticTypes := #[]
  resolved := Array.replicate 8 none
  statics := none }

/-- the primitive byte -/
def k5 : Class := { plain "byte" none with kind := .primitive 'B', accessFlags := 0x411 }
/-- [B -/
def k6 : Class := { plain "[B" (some 0) with kind := .array 5 .byte, interfaces := #[3, 4], accessFlags := 1041 }

/-- the primitive int -/
def k7 : Class := { plain "int" none with kind := .primitive 'I', accessFlags := 0x411 }
/-- [I -/
def k8 : Class := { plain "[I" (some 0) with kind := .array 7 .int, interfaces := #[3, 4], accessFlags := 1041 }

def heap : Heap := #[]
def classes : Array Class := #[k0, k1, k2, k3, k4, k5, k6, k7, k8]
def interned : List (Array UInt16 × Addr) := []
def slotsUsed : Nat := 0
def theMethod : MethodId := ⟨1, 1⟩
def args0 : Array Value := #[.int 3, .int 70000, .int 9]
def aboutOver (below : List Frame) : State where
  vm := { classes := classes, interned := interned.toArray }
  heap := heap
  slotsUsed := slotsUsed
  threads := #[{ frames := .invoking theMethod args0 :: below }]
def below0 : List Frame := [.native { method := ⟨0, 0⟩, args := #[] }]
def about1 : State := aboutOver below0
def p0 : Program := .bare "" "" ""
def e0 : Env := launch0.env 0 0 0
theorem w_frames : about1.frames = Frame.invoking theMethod args0 :: below0 := rfl
set_option maxRecDepth 65536 in
theorem w_args : argsFit about1.vm theMethod args0 = true := by decide +kernel
set_option maxRecDepth 65536 in
theorem w_heap : heapFits about1 = true := by decide +kernel
set_option maxRecDepth 65536 in
theorem w_runnable : about1.curStatus? = some .runnable := by decide +kernel
set_option maxRecDepth 65536 in
theorem w_alone : about1.alone = true := by decide +kernel
set_option maxRecDepth 65536 in
theorem w_named : about1.methodNamed? x = some theMethod := by decide +kernel
set_option maxRecDepth 65536 in
theorem w_hears : about1.hears theMethod below0 = true := by decide +kernel
set_option maxRecDepth 65536 in
theorem w_ripe : about1.ripe theMethod args0 below0 = true := by decide +kernel
theorem w_running : about1.status = .running := rfl
set_option maxRecDepth 65536 in
theorem w_room : about1.hasRoom e0.platform room_1 = true :=
  launch0.hasRoom_least _ room_1 (by decide +kernel) (by decide +kernel) (by decide +kernel) (by decide +kernel) (by decide +kernel) (by decide +kernel)
theorem allAtoms_all (ts : List Jvm.Cond) (a : Array Jvm.Value) (st : Jvm.State) : (allAtoms ts).before a st = ts.all (fun c => c.before a st) := by
  induction ts with
  | nil => rfl
  | cons c t ih =>
    show (Jvm.Cond.and c (allAtoms t)).before a st = _
    rw [Jvm.Cond.before_and, ih, List.all_cons]
def words1 : List Jvm.Cond := Jvm.Cond.code x code maxLocals ret :: tables_1
/-- a 'code' word, met by the world's own term for the bytes: nothing is compared byte by byte -/
theorem code_word {y : MethodName} {bytes : ByteArray} {mx : Nat} {rt : Option FieldType} {a : Array Value} {s : State} {m : MethodId} {meth : Method} {c : Code} (h1 : s.methodNamed? y = some m) (h2 : s.vm.method? m = some meth) (h3 : meth.code = some c) (h4 : c.code = bytes)
    (h5 : (c.maxLocals == mx && c.exceptionTable.isEmpty && decide (c.maxStack ≤ mostOperands) && decide (meth.sig.returnType = rt) && !meth.locks && decide (parseMethodDescriptor y.desc = some meth.sig)) = true) : (Jvm.Cond.code y bytes mx rt).before a s = true := by
  simp only [Bool.and_eq_true, beq_iff_eq, Bool.not_eq_true', decide_eq_true_eq] at h5
  obtain ⟨⟨⟨⟨⟨g1, g2⟩, g3⟩, g4⟩, g5⟩, g6⟩ := h5
  simp [Cond.before, Cond.holds, Cond.value, h1, h2, h3, h4, g1, g2, g3, g4, g5, g6]
def isCode : Jvm.Cond → Bool
  | .code _ _ _ _ => true
  | _ => false
theorem all_split {L : List Jvm.Cond} {P : Jvm.Cond → Bool} (h1 : L.all (fun c => isCode c || P c) = true) (h2 : ∀ c ∈ L.filter isCode, P c = true) : L.all P = true := by
  refine List.all_eq_true.mpr fun c hc => ?_
  have h := List.all_eq_true.mp h1 c hc
  rcases Bool.eq_false_or_eq_true (isCode c) with hi | hi
  · exact h2 c (List.mem_filter.mpr ⟨hc, hi⟩)
  · simpa [hi] using h
set_option maxRecDepth 65536 in
theorem w_c0 : (Jvm.Cond.code x code maxLocals ret).before args0 about1 = true := code_word (m := ⟨1, 1⟩) (meth := k1m1) (c := k1c1) (by decide +kernel) rfl rfl rfl (by decide +kernel)
set_option maxRecDepth 65536 in
theorem w_c1 : (Jvm.Cond.code ({ cls := "com/example/indexterity/indexterity/index/IndexFormat", name := "putVarInt", desc := "([BII)I" } : Jvm.MethodName) prog_37_method_4_code (5 : Nat) (Option.some Jvm.ClassFile.FieldType.int)).before args0 about1 = true := code_word (m := ⟨2, 1⟩) (meth := k2m1) (c := k2c1) (by decide +kernel) rfl rfl rfl (by decide +kernel)
set_option maxRecDepth 65536 in
theorem w_c2 : (Jvm.Cond.code ({ cls := "com/example/indexterity/indexterity/index/IndexFormatPutVarIntPinLaw", name := "at", desc := "([BIIIJB)Z" } : Jvm.MethodName) method_3_code (10 : Nat) (Option.some Jvm.ClassFile.FieldType.boolean)).before args0 about1 = true := code_word (m := ⟨1, 2⟩) (meth := k1m2) (c := k1c2) (by decide +kernel) rfl rfl rfl (by decide +kernel)
def codes1 : List Jvm.Cond := [Jvm.Cond.code x code maxLocals ret, Jvm.Cond.code ({ cls := "com/example/indexterity/indexterity/index/IndexFormat", name := "putVarInt", desc := "([BII)I" } : Jvm.MethodName) prog_37_method_4_code (5 : Nat) (Option.some Jvm.ClassFile.FieldType.int), Jvm.Cond.code ({ cls := "com/example/indexterity/indexterity/index/IndexFormatPutVarIntPinLaw", name := "at", desc := "([BIIIJB)Z" } : Jvm.MethodName) method_3_code (10 : Nat) (Option.some Jvm.ClassFile.FieldType.boolean)]
set_option maxRecDepth 65536 in
theorem codes_eq : words1.filter isCode = codes1 := rfl
theorem w_codes : ∀ c ∈ words1.filter isCode, c.before args0 about1 = true := by
  rw [codes_eq]
  intro c hc
  simp only [codes1, List.mem_cons, List.not_mem_nil, or_false] at hc
  rcases hc with rfl | rfl | rfl
  · exact w_c0
  · exact w_c1
  · exact w_c2
set_option maxRecDepth 65536 in
theorem w_t1 : words1.all (fun c => isCode c || c.before args0 about1) = true := by decide +kernel
theorem w_tables : (allAtoms (Jvm.Cond.code x code maxLocals ret :: tables_1)).before args0 about1 = true := by
  rw [allAtoms_all]
  show words1.all (fun c => c.before args0 about1) = true
  refine all_split ?_ w_codes
  rw [w_t1]
set_option maxRecDepth 65536 in
theorem w_case : (Jvm.Cond.and given_1 narrow_1).before args0 about1 = true := by decide +kernel
theorem w_applies : (headSpec (Jvm.Cond.code x code maxLocals ret :: tables_1) room_1).applies x e0.platform about1 = true :=
  (Spec.applies_iff w_frames).mpr ⟨w_running, w_runnable, w_alone, w_named, w_hears, w_ripe, w_room, w_tables⟩
theorem atStart : AtStart classFile x code maxLocals ret World_1 tables_1 room_1 Calls_1 rest_1 Pre_1 launch0 p0 e0 about1 theMethod args0 below0 :=
  ⟨lists_1, trivial, launch0.admits_env _ _ _, launch0.least_env, fairChoices_fair.cas, fairChoices_fair.clock, w_frames, w_args, w_heap, w_applies, trivial, trivial, w_case⟩
end start1
theorem witness_1 : WitnessClaimed_1 := ⟨start1.p0, start1.e0, start1.about1, start1.theMethod, start1.args0, start1.below0, start1.atStart⟩
end Jvm.Pilot.@@N@@
