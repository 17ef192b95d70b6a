import JvmDerived
import JvmDerived.Pilot.@@N@@Statement
import JvmDerived.Pilot.@@N@@Code
set_option linter.unusedVariables false
set_option linter.unusedSimpArgs false
@@BLOCK:NumsL.lean.txt@@

namespace Jvm.OwnKit
open Sem ClassFile Op Lib Jvm.Stand Jvm.Free Jvm.LawKit Jvm.RoadKit
section Own
variable {p : Program} {l : Launch} {e : Env} {R : Room} {s : State} {m : MethodId} {args : Array Value} {below : List Frame} {meth : Method} {c : Code} {T : State} {locs : List Loc} {cells slots : Nat} {Q : Option Value → Heap → List Loc → Prop} {C S : Nat}
/-- what a body owes from a state on -/
def Fin (p : Program) (e : Env) (below : List Frame) (s : State) (Q : Option Value → Heap → List Loc → Prop) (C S : Nat) (st : State) : Prop :=
  ∃ s₂ o, Steps p.tables e below st s₂ ∧ s₂.status = .running ∧ Ended s₂ below o ∧ ∃ v L, o = .returned v ∧ Q v s₂.heap L ∧ FrameEnd s o s₂ L C S
theorem Fin.step {st st' : State} (h : ∀ t, Steps p.tables e below st' t → Steps p.tables e below st t) (k : Fin p e below s Q C S st') : Fin p e below s Q C S st := by
  obtain ⟨s₂, o, h1, h2⟩ := k
  exact ⟨s₂, o, h _ h1, h2⟩
theorem Fin.ret (X : Stand p l e R s m args below meth c T locs cells slots) {v : Option Value} {g : JFrame} (hv : meth.sig.returnType = none → v = none) (hlocks : meth.locks = false)
    (hst : ∀ fs, (∀ (f : JFrame) (acts : List Action), f.method = m → f.locked = none → f.entered = [] → (doReturn e (T.setTop f) acts v).1 = T.setFrames fs) → Steps p.tables e below (T.setTop g) (T.setFrames fs))
    (hC : cells ≤ C) (hS : slots ≤ S) (q : Q v T.heap locs) : Fin p e below s Q C S (T.setTop g) := by
  obtain ⟨fs, hr, hrun, hended, hW, hsame⟩ := X.leave (v := v) hv hlocks
  exact ⟨_, _, hst fs hr, hrun, hended, _, _, rfl, q, ⟨_, rfl⟩, hW, hsame.mono hC hS⟩
theorem Fin.retI (X : Stand p l e R s m args below meth c T locs cells slots) (hx : p.tables.exec = Jvm.exec) {pc : Nat} {Ls : Array Slot} {z : Int32} {rest : List Value} (hret : meth.sig.returnType = some .int) (hlocks : meth.locks = false) (hd : decode c.code pc = .ok (.ireturn, 1))
    (hC : cells ≤ C) (hS : slots ≤ S) (q : Q (some (.int z)) T.heap locs) : Fin p e below s Q C S (T.setTop (mkF m pc Ls (.int z :: rest))) :=
  Fin.ret X (fun h => by rw [hret] at h; cases h) hlocks (fun fs hl => retOut X hx hret rfl (Or.inl ⟨rfl, Or.inl rfl, z, rfl⟩) hd hl) hC hS q
theorem Fin.retJ (X : Stand p l e R s m args below meth c T locs cells slots) (hx : p.tables.exec = Jvm.exec) {pc : Nat} {Ls : Array Slot} {z : Int64} {rest : List Value} (hret : meth.sig.returnType = some .long) (hlocks : meth.locks = false) (hd : decode c.code pc = .ok (.lreturn, 1))
    (hC : cells ≤ C) (hS : slots ≤ S) (q : Q (some (.long z)) T.heap locs) : Fin p e below s Q C S (T.setTop (mkF m pc Ls (.long z :: rest))) :=
  Fin.ret X (fun h => by rw [hret] at h; cases h) hlocks (fun fs hl => retOut X hx hret rfl (Or.inr (Or.inl ⟨rfl, rfl, z, rfl⟩)) hd hl) hC hS q
theorem Fin.retD (X : Stand p l e R s m args below meth c T locs cells slots) (hx : p.tables.exec = Jvm.exec) {pc : Nat} {Ls : Array Slot} {z : UInt64} {rest : List Value} (hret : meth.sig.returnType = some .double) (hlocks : meth.locks = false) (hd : decode c.code pc = .ok (.dreturn, 1))
    (hC : cells ≤ C) (hS : slots ≤ S) (q : Q (some (.double z)) T.heap locs) : Fin p e below s Q C S (T.setTop (mkF m pc Ls (.double z :: rest))) :=
  Fin.ret X (fun h => by rw [hret] at h; cases h) hlocks (fun fs hl => retOut X hx hret rfl (Or.inr (Or.inr (Or.inl ⟨rfl, rfl, z, rfl⟩))) hd hl) hC hS q
theorem Fin.retR (X : Stand p l e R s m args below meth c T locs cells slots) (hx : p.tables.exec = Jvm.exec) {pc : Nat} {Ls : Array Slot} {w : Value} {t : FieldType} {rest : List Value} (hret : meth.sig.returnType = some t) (ht : t.isReference = true) (hw : w.isRef = true) (hlocks : meth.locks = false) (hd : decode c.code pc = .ok (.areturn, 1))
    (hC : cells ≤ C) (hS : slots ≤ S) (q : Q (some w) T.heap locs) : Fin p e below s Q C S (T.setTop (mkF m pc Ls (w :: rest))) :=
  Fin.ret X (fun h => by rw [hret] at h; cases h) hlocks (fun fs hl => retOut X hx hret (by cases t <;> simp [FieldType.isReference] at ht <;> cases w <;> simp [Value.isRef] at hw <;> rfl) (Or.inr (Or.inr (Or.inr (Or.inr ⟨rfl, ht, hw⟩)))) hd hl) hC hS q
theorem Fin.retN (X : Stand p l e R s m args below meth c T locs cells slots) (hx : p.tables.exec = Jvm.exec) {pc : Nat} {Ls : Array Slot} {z : Int32} {t : FieldType} {rest : List Value} (hret : meth.sig.returnType = some t) (ht : t = .boolean ∨ t = .byte ∨ t = .char ∨ t = .short) (hlocks : meth.locks = false) (hd : decode c.code pc = .ok (.ireturn, 1))
    (hC : cells ≤ C) (hS : slots ≤ S) (q : Q (some (.int (nar t z))) T.heap locs) : Fin p e below s Q C S (T.setTop (mkF m pc Ls (.int z :: rest))) :=
  Fin.ret X (fun h => by rw [hret] at h; cases h) hlocks (fun fs hl => RoadKit.retN X hx hret ht hd hl) hC hS q
theorem Fin.retV (X : Stand p l e R s m args below meth c T locs cells slots) (hx : p.tables.exec = Jvm.exec) {pc : Nat} {Ls : Array Slot} (hret : meth.sig.returnType = none) (hlocks : meth.locks = false) (hd : decode c.code pc = .ok (.return_, 1))
    (hC : cells ≤ C) (hS : slots ≤ S) (q : Q none T.heap locs) : Fin p e below s Q C S (T.setTop (mkF m pc Ls [])) :=
  Fin.ret X (fun _ => rfl) hlocks (fun fs hl => X.returnOut hx hret hd hl) hC hS q
/-- the same where the walk may intern: the end's frame is ReturnedEndW -/
def FinW (p : Program) (e : Env) (below : List Frame) (s : State) (Q : Option Value → Heap → List Loc → Prop) (C S : Nat) (st : State) : Prop :=
  ∃ s₂ o, Steps p.tables e below st s₂ ∧ s₂.status = .running ∧ Ended s₂ below o ∧ ∃ v L, o = .returned v ∧ Q v s₂.heap L ∧ ReturnedEndW s o s₂ L C S
theorem FinW.step {st st' : State} (h : ∀ t, Steps p.tables e below st' t → Steps p.tables e below st t) (k : FinW p e below s Q C S st') : FinW p e below s Q C S st := by
  obtain ⟨s₂, o, h1, h2⟩ := k
  exact ⟨s₂, o, h _ h1, h2⟩
theorem FinW.ret {vm₁ : Vm} (X : Stand p l e R (s.setVm vm₁) m args below meth c T locs cells slots) {n : Nat} (hS : s.Since vm₁ n) (hn : n ≤ T.heap.size) {v : Option Value} {g : JFrame} (hv : meth.sig.returnType = none → v = none) (hlocks : meth.locks = false)
    (hst : ∀ fs, (∀ (f : JFrame) (acts : List Action), f.method = m → f.locked = none → f.entered = [] → (doReturn e (T.setTop f) acts v).1 = T.setFrames fs) → Steps p.tables e below (T.setTop g) (T.setFrames fs))
    (hC : cells ≤ C) (hS' : slots ≤ S) (q : Q v T.heap locs) : FinW p e below s Q C S (T.setTop g) := by
  obtain ⟨fs, hr, hrun, hended, hW⟩ := X.leaveW hS hn (v := v) hv hlocks
  exact ⟨_, _, hst fs hr, hrun, hended, _, _, rfl, q, hW.1, hW.2.1, hW.2.2.1, hW.2.2.2.mono hC hS'⟩
theorem FinW.retN {vm₁ : Vm} (X : Stand p l e R (s.setVm vm₁) m args below meth c T locs cells slots) {n : Nat} (hS : s.Since vm₁ n) (hn : n ≤ T.heap.size) (hx : p.tables.exec = Jvm.exec) {pc : Nat} {Ls : Array Slot} {z : Int32} {t : FieldType} {rest : List Value} (hret : meth.sig.returnType = some t) (ht : t = .boolean ∨ t = .byte ∨ t = .char ∨ t = .short) (hlocks : meth.locks = false) (hd : decode c.code pc = .ok (.ireturn, 1))
    (hC : cells ≤ C) (hS' : slots ≤ S) (q : Q (some (.int (nar t z))) T.heap locs) : FinW p e below s Q C S (T.setTop (mkF m pc Ls (.int z :: rest))) :=
  FinW.ret X hS hn (fun h => by rw [hret] at h; cases h) hlocks (fun fs hl => RoadKit.retN X hx hret ht hd hl) hC hS' q
theorem FinW.retR {vm₁ : Vm} (X : Stand p l e R (s.setVm vm₁) m args below meth c T locs cells slots) {n : Nat} (hS : s.Since vm₁ n) (hn : n ≤ T.heap.size) (hx : p.tables.exec = Jvm.exec) {pc : Nat} {Ls : Array Slot} {w : Value} {t : FieldType} {rest : List Value} (hret : meth.sig.returnType = some t) (ht : t.isReference = true) (hw : w.isRef = true) (hlocks : meth.locks = false) (hd : decode c.code pc = .ok (.areturn, 1))
    (hC : cells ≤ C) (hS' : slots ≤ S) (q : Q (some w) T.heap locs) : FinW p e below s Q C S (T.setTop (mkF m pc Ls (w :: rest))) :=
  FinW.ret X hS hn (fun h => by rw [hret] at h; cases h) hlocks (fun fs hl => retOut X hx hret (by cases t <;> simp [FieldType.isReference] at ht <;> cases w <;> simp [Value.isRef] at hw <;> rfl) (Or.inr (Or.inr (Or.inr (Or.inr ⟨rfl, ht, hw⟩)))) hd hl) hC hS' q
theorem Fld.cast {Z : State} {h : Heap} {a : Addr} {C n d : String} {v w : Value} (F : Fld Z h a C n d v) (e : v = w) : Fld Z h a C n d w := e ▸ F
theorem Sta_keep {Z : State} {h h' : Heap} {C n d : String} {v : Value} (F : Sta Z h C n d v) (K : Keep h h' []) : Sta Z h' C n d v := by
  obtain ⟨cf, i, k, f, st, cell, h1, h2, h3, h4, h5, r⟩ := F
  exact ⟨cf, i, k, f, st, cell, h1, h2, h3, h4, K.2.1 _ _ h5 nin0, r⟩
theorem Arr_keep {Z : State} {h h' : Heap} {a : Addr} {c : Cell} {ty : FieldType} (F : Arr Z h a c ty) (K : Keep h h' []) : Arr Z h' a c ty := ⟨K.2.1 _ _ F.1 nin0, F.2⟩
/-- the shifts without sign -/
def ushL (x : Int64) (k : Int32) : Int64 := (x.toUInt64 >>> (k &&& 0x3f).toInt64.toUInt64).toInt64
def ushI (x k : Int32) : Int32 := (x.toUInt32 >>> (k &&& 31).toUInt32).toInt32
theorem lcE {x y : Int64} (h : x = y) : lcmpW x y = 0 := by rw [lcW]; exact (lc_eq x y).mpr h
theorem lcNE {x y : Int64} (h : ¬ x = y) : ¬ lcmpW x y = 0 := fun q => h ((lc_eq x y).mp (by rw [← lcW]; exact q))
theorem lcL {x y : Int64} (h : x < y) : lcmpW x y < 0 := by rw [lcW]; exact (lc_lt x y).mpr h
theorem lcNL {x y : Int64} (h : ¬ x < y) : ¬ lcmpW x y < 0 := fun q => h ((lc_lt x y).mp (by rw [← lcW]; exact q))
theorem lcG {x y : Int64} (h : y < x) : 0 < lcmpW x y := by rw [lcW]; exact (lc_gt x y).mpr h
theorem lcNG {x y : Int64} (h : ¬ y < x) : ¬ 0 < lcmpW x y := fun q => h ((lc_gt x y).mp (by rw [← lcW]; exact q))
end Own
end Jvm.OwnKit
namespace Jvm.Pilot.@@N@@
open Jvm Jvm.ClassFile Sem Op Lib Jvm.Free Jvm.Stand Jvm.LawKit Jvm.RoadKit Jvm.OwnKit Bundle Jvm.Pilot.@@N@@.Jvm.D
def own_sg (x : Int64) : Int32 := ((x >>> ((63 : Int32) &&& 0x3f).toInt64) ||| ushL (-x) 63).toInt32
def own_signum (hi lo : Int64) : Int32 := if hi = 0 then own_sg lo else own_sg hi
def own_hi (lo hi u : Int64) : Int64 := if ((lo ^^^ (lo + u)) &&& (u ^^^ (lo + u))) < 0 then hi + (if u < 0 then -1 else 1) else hi
def own_low (a b c d : Int64) : Int64 := (((a &&& 4294967295) + (b &&& 4294967295)) + (c &&& 4294967295)) + (d &&& 4294967295)
def own_hgh (a b c d : Int64) : Int64 := ((((a >>> ((32 : Int32) &&& 0x3f).toInt64) + (b >>> ((32 : Int32) &&& 0x3f).toInt64)) + (c >>> ((32 : Int32) &&& 0x3f).toInt64)) + (d >>> ((32 : Int32) &&& 0x3f).toInt64)) + ushL (own_low a b c d) 32
def own_sign (a b c d : Int64) : Int32 := if 0 < own_hgh a b c d then 1 else if own_hgh a b c d < 0 then -1 else if own_low a b c d &&& 4294967295 = 0 then 0 else 1
def own_z (S : Int) : Int32 := if 0 < S then 1 else if S < 0 then -1 else 0
theorem own_bd (x : Int64) : -2 ^ 63 ≤ x.toInt ∧ x.toInt < 2 ^ 63 := ⟨Int64.le_toInt x, Int64.toInt_lt x⟩
theorem own_ush (x : Int64) (k : Int32) (n : Nat) (hn : n < 64) (h : (k &&& 0x3f).toInt64.toUInt64 = UInt64.ofNat n) : (ushL x k).toBitVec = x.toBitVec >>> n := by
  unfold ushL
  rw [h]
  show (x.toUInt64 >>> UInt64.ofNat n).toBitVec = _
  rw [UInt64.toBitVec_shiftRight]
  show x.toBitVec >>> ((UInt64.ofNat n).toBitVec % 64#64) = _
  have e : ((UInt64.ofNat n).toBitVec % 64#64).toNat = n := by
    simp [BitVec.toNat_umod]
    omega
  rw [BitVec.ushiftRight_eq', e]
theorem own_sgv (x : Int64) : own_sg x = own_z x.toInt := by
  have hb := own_bd x
  by_cases h0 : x.toInt = 0
  · have : x = 0 := Int64.toInt_inj.mp (by rw [h0]; rfl)
    subst this
    decide
  · have hs : (x >>> ((63 : Int32) &&& 0x3f).toInt64).toInt = x.toInt / 2 ^ 63 := Jvm.Kit.i64_shr x _ (k := 63) (by decide)
    by_cases h1 : 0 < x.toInt
    · have e1 : x >>> ((63 : Int32) &&& 0x3f).toInt64 = 0 := Int64.toInt_inj.mp (by rw [hs]; show _ = (0 : Int); omega)
      have hn : (-x).toInt = -x.toInt := Jvm.Kit.i64_neg (by omega)
      have e2 : ushL (-x) 63 = 1 := by
        apply Int64.toBitVec_inj.mp
        rw [own_ush _ _ 63 (by decide) (by decide)]
        apply BitVec.eq_of_toNat_eq
        rw [BitVec.toNat_ushiftRight, Nat.shiftRight_eq_div_pow]
        have hc := BitVec.toInt_eq_toNat_cond (-x).toBitVec
        have hl := (-x).toBitVec.isLt
        have ht : (-x).toBitVec.toInt = -x.toInt := hn
        rw [ht] at hc
        show _ = 1
        split at hc <;> omega
      unfold own_sg
      rw [e1, e2]
      unfold own_z
      rw [if_pos h1]
      decide
    · have e1 : x >>> ((63 : Int32) &&& 0x3f).toInt64 = -1 := Int64.toInt_inj.mp (by rw [hs]; show _ = (-1 : Int); omega)
      unfold own_sg
      rw [e1]
      have e2 : ((-1 : Int64) ||| ushL (-x) 63) = -1 := by
        apply Int64.toBitVec_inj.mp
        rw [Int64.toBitVec_or]
        show BitVec.allOnes 64 ||| _ = BitVec.allOnes 64
        exact BitVec.allOnes_or
      rw [e2]
      unfold own_z
      rw [if_neg h1, if_pos (by omega)]
      decide
theorem own_eq0 (x : Int64) : x = 0 ↔ x.toInt = 0 := ⟨fun h => by rw [h]; rfl, fun h => Int64.toInt_inj.mp (by rw [h]; rfl)⟩
theorem own_lt0 (x : Int64) : x < 0 ↔ x.toInt < 0 := Int64.lt_iff_toInt_lt
theorem own_gt0 (x : Int64) : 0 < x ↔ 0 < x.toInt := Int64.lt_iff_toInt_lt
theorem own_signumv (hi lo : Int64) : own_signum hi lo = own_z (lo.toInt + 2 ^ 64 * hi.toInt) := by
  have hb := own_bd lo
  unfold own_signum
  by_cases h : hi = 0
  · rw [if_pos h, own_sgv]
    rw [own_eq0] at h
    rw [h]
    simp
  · rw [if_neg h, own_sgv]
    rw [own_eq0] at h
    unfold own_z
    by_cases h1 : 0 < hi.toInt
    · rw [if_pos h1, if_pos (by omega)]
    · rw [if_neg h1, if_pos (by omega), if_neg (by omega), if_pos (by omega)]
theorem own_msb (x : Int64) : x < 0 ↔ x.toBitVec.msb = true := by
  rw [own_lt0, BitVec.msb_eq_toInt]
  exact (decide_eq_true_iff (p := x.toBitVec.toInt < 0)).symm
theorem own_cond (x y r : Int64) : ((x ^^^ r) &&& (y ^^^ r)) < 0 ↔ ((x.toInt < 0 ↔ ¬ r.toInt < 0) ∧ (y.toInt < 0 ↔ ¬ r.toInt < 0)) := by
  rw [own_msb, Int64.toBitVec_and, Int64.toBitVec_xor, Int64.toBitVec_xor, BitVec.msb_and, BitVec.msb_xor, BitVec.msb_xor]
  rw [← own_lt0, ← own_lt0, ← own_lt0, own_msb, own_msb, own_msb]
  cases x.toBitVec.msb <;> cases y.toBitVec.msb <;> cases r.toBitVec.msb <;> simp
theorem own_add (lo hi u : Int64) (k : Int) (hk : k ≤ 100) (h1 : -k ≤ hi.toInt) (h2 : hi.toInt ≤ k) :
    (lo + u).toInt + 2 ^ 64 * (own_hi lo hi u).toInt = lo.toInt + u.toInt + 2 ^ 64 * hi.toInt ∧ -(k + 1) ≤ (own_hi lo hi u).toInt ∧ (own_hi lo hi u).toInt ≤ k + 1 := by
  have hr : (lo + u).toInt = (lo.toInt + u.toInt).bmod (2 ^ 64) := Int64.toInt_add lo u
  have hm : (lo + u).toInt % 2 ^ 64 = (lo.toInt + u.toInt) % 2 ^ 64 := by rw [hr]; exact Int.bmod_emod
  have b1 := own_bd lo
  have b2 := own_bd u
  have b3 := own_bd (lo + u)
  unfold own_hi
  by_cases hc : ((lo ^^^ (lo + u)) &&& (u ^^^ (lo + u))) < 0
  · rw [if_pos hc]
    rw [own_cond] at hc
    by_cases hu : u < 0
    · rw [if_pos hu]
      rw [own_lt0] at hu
      have e : (hi + -1).toInt = hi.toInt + -1 := Jvm.Kit.i64_add (y := -1) (by show _ ≤ hi.toInt + -1; omega) (by show hi.toInt + -1 < _; omega)
      rw [e]
      omega
    · rw [if_neg hu]
      rw [own_lt0] at hu
      have e : (hi + 1).toInt = hi.toInt + 1 := Jvm.Kit.i64_add (y := 1) (by show _ ≤ hi.toInt + 1; omega) (by show hi.toInt + 1 < _; omega)
      rw [e]
      omega
  · rw [if_neg hc]
    rw [own_cond] at hc
    omega
theorem own_m (x : Int64) : (x &&& 4294967295).toInt = x.toInt % 2 ^ 32 := Jvm.Kit.i64_mask x _ (k := 32) (by decide) (by decide)
theorem own_s32 (x : Int64) : (x >>> ((32 : Int32) &&& 0x3f).toInt64).toInt = x.toInt / 2 ^ 32 := Jvm.Kit.i64_shr x _ (k := 32) (by decide)
theorem own_lowv (a b c d : Int64) : (own_low a b c d).toInt = a.toInt % 2 ^ 32 + b.toInt % 2 ^ 32 + c.toInt % 2 ^ 32 + d.toInt % 2 ^ 32 := by
  have h1 := own_m a
  have h2 := own_m b
  have h3 := own_m c
  have h4 := own_m d
  unfold own_low
  have e1 : ((a &&& 4294967295) + (b &&& 4294967295)).toInt = _ := Jvm.Kit.i64_add (by omega) (by omega)
  have e2 : (((a &&& 4294967295) + (b &&& 4294967295)) + (c &&& 4294967295)).toInt = _ := Jvm.Kit.i64_add (by omega) (by omega)
  rw [Jvm.Kit.i64_add (by omega) (by omega)]
  omega
theorem own_hghv (a b c d : Int64) : (own_hgh a b c d).toInt = a.toInt / 2 ^ 32 + b.toInt / 2 ^ 32 + c.toInt / 2 ^ 32 + d.toInt / 2 ^ 32 + (own_low a b c d).toInt / 2 ^ 32 := by
  have h1 := own_s32 a
  have h2 := own_s32 b
  have h3 := own_s32 c
  have h4 := own_s32 d
  have b1 := own_bd a
  have b2 := own_bd b
  have b3 := own_bd c
  have b4 := own_bd d
  have hl := own_lowv a b c d
  have h5 : (ushL (own_low a b c d) 32).toInt = (own_low a b c d).toInt / 2 ^ 32 := Jvm.Kit.i64_lushr (k := 32) (Jvm.Kit.i64_nonneg.mpr (by omega)) (by decide) (by decide)
  unfold own_hgh
  have e1 : ((a >>> ((32 : Int32) &&& 0x3f).toInt64) + (b >>> ((32 : Int32) &&& 0x3f).toInt64)).toInt = _ := Jvm.Kit.i64_add (by omega) (by omega)
  have e2 : (((a >>> ((32 : Int32) &&& 0x3f).toInt64) + (b >>> ((32 : Int32) &&& 0x3f).toInt64)) + (c >>> ((32 : Int32) &&& 0x3f).toInt64)).toInt = _ := Jvm.Kit.i64_add (by omega) (by omega)
  have e3 : ((((a >>> ((32 : Int32) &&& 0x3f).toInt64) + (b >>> ((32 : Int32) &&& 0x3f).toInt64)) + (c >>> ((32 : Int32) &&& 0x3f).toInt64)) + (d >>> ((32 : Int32) &&& 0x3f).toInt64)).toInt = _ := Jvm.Kit.i64_add (by omega) (by omega)
  rw [Jvm.Kit.i64_add (by omega) (by omega)]
  omega
theorem own_signv (a b c d : Int64) : own_sign a b c d = own_z (a.toInt + b.toInt + c.toInt + d.toInt) := by
  have h1 := own_lowv a b c d
  have h2 := own_hghv a b c d
  have h3 := own_m (own_low a b c d)
  unfold own_sign own_z
  simp only [own_gt0, own_lt0, own_eq0]
  by_cases p1 : 0 < (own_hgh a b c d).toInt
  · rw [if_pos p1, if_pos (by omega)]
  · rw [if_neg p1]
    by_cases p2 : (own_hgh a b c d).toInt < 0
    · rw [if_pos p2, if_neg (by omega), if_pos (by omega)]
    · rw [if_neg p2]
      by_cases p3 : (own_low a b c d &&& 4294967295).toInt = 0
      · rw [if_pos p3, if_neg (by omega), if_neg (by omega)]
      · rw [if_neg p3, if_pos (by omega)]
theorem own_t0 : own_signum 0 0 = 0 := by decide
theorem own_z0 : (0 : Int64).toInt = 0 := rfl
theorem own_t1 (a : Int64) : own_signum (own_hi 0 0 a) (0 + a) = own_sign a 0 0 0 := by
  obtain ⟨h1, -⟩ := own_add 0 0 a 0 (by decide) (by decide) (by decide)
  rw [own_signumv, own_signv, h1, own_z0]
  congr 1
  omega
theorem own_t2 (a b : Int64) : own_signum (own_hi (0 + a) (own_hi 0 0 a) b) ((0 + a) + b) = own_sign a b 0 0 := by
  obtain ⟨h1, h2, h3⟩ := own_add 0 0 a 0 (by decide) (by decide) (by decide)
  obtain ⟨h4, -⟩ := own_add (0 + a) (own_hi 0 0 a) b 1 (by decide) (by omega) (by omega)
  rw [own_signumv, own_signv, h4, own_z0]
  rw [own_z0] at h1
  congr 1
  omega
theorem own_t3 (a b c : Int64) : own_signum (own_hi ((0 + a) + b) (own_hi (0 + a) (own_hi 0 0 a) b) c) (((0 + a) + b) + c) = own_sign a b c 0 := by
  obtain ⟨h1, h2, h3⟩ := own_add 0 0 a 0 (by decide) (by decide) (by decide)
  obtain ⟨h4, h5, h6⟩ := own_add (0 + a) (own_hi 0 0 a) b 1 (by decide) (by omega) (by omega)
  obtain ⟨h7, -⟩ := own_add ((0 + a) + b) (own_hi (0 + a) (own_hi 0 0 a) b) c 2 (by decide) (by omega) (by omega)
  rw [own_signumv, own_signv, h7, own_z0]
  rw [own_z0] at h1
  congr 1
  omega
theorem own_t4 (a b c d : Int64) : own_signum (own_hi (((0 + a) + b) + c) (own_hi ((0 + a) + b) (own_hi (0 + a) (own_hi 0 0 a) b) c) d) ((((0 + a) + b) + c) + d) = own_sign a b c d := by
  obtain ⟨h1, h2, h3⟩ := own_add 0 0 a 0 (by decide) (by decide) (by decide)
  obtain ⟨h4, h5, h6⟩ := own_add (0 + a) (own_hi 0 0 a) b 1 (by decide) (by omega) (by omega)
  obtain ⟨h7, h8, h9⟩ := own_add ((0 + a) + b) (own_hi (0 + a) (own_hi 0 0 a) b) c 2 (by decide) (by omega) (by omega)
  obtain ⟨h10, -⟩ := own_add (((0 + a) + b) + c) (own_hi ((0 + a) + b) (own_hi (0 + a) (own_hi 0 0 a) b) c) d 3 (by decide) (by omega) (by omega)
  rw [own_signumv, own_signv, h10]
  rw [own_z0] at h1
  congr 1
  omega
theorem d1_0 : decode prog_8_method_1_code 0 = .ok (.aload_n 0, 1) := by decide +kernel
theorem d1_1 : decode prog_8_method_1_code 1 = .ok (.invokespecial 1, 3) := by decide +kernel
theorem d1_4 : decode prog_8_method_1_code 4 = .ok (.return_, 1) := by decide +kernel
theorem pn_1 : plainName "com/example/multiparty/multiparty/ExactSum" = true := by first | (simp [plainName, overriddenIn]; done) | decide +kernel
theorem ef_rm1 (m : MethodId) (x0 : Addr) : entryFrame m #[(.ref x0)] 1 = mkF m 0 #[.val (.ref x0)] [] := by first | (simp [entryFrame, mkF, argsToLocals, Value.category]; done) | rfl
def Q1 (Z : State) (a1 : Addr) (h0 : Heap) (n0 : Nat) (v : Option Value) (h : Heap) (L : List Loc) : Prop := v = none ∧ Fr n0 L ∧ h = h0
set_option maxRecDepth 65536 in
set_option maxHeartbeats 40000000 in
theorem rm1 (l : Launch) (Z : State) (a0 : Array Value) (hw : ∀ d ∈ tables_1, d.before a0 Z = true) (ws : List Jvm.Cond) (a1 : Addr) (h0 : Heap) (n0 : Nat) (Z0 : n0 ≤ h0.size) :
    MetFree l (⟨"com/example/multiparty/multiparty/ExactSum", "<init>", "()V"⟩ : MethodName) (head1 (Jvm.Cond.code (⟨"com/example/multiparty/multiparty/ExactSum", "<init>", "()V"⟩ : MethodName) prog_8_method_1_code 1 none :: ws) ({ frames := 1, cells := 0, slots := 0, locals := 12 } : Room)) (fun a U => a = #[(.ref a1)] ∧ Z.Warmed39 U.vm ∧ U.heap = h0) (fun _ _ _ _ _ => True) (fun _ U o U' => ∃ v L, o = .returned v ∧ Q1 Z a1 h0 n0 v U'.heap L ∧ FrameEnd U o U' L ({ frames := 1, cells := 0, slots := 0, locals := 12 } : Room).cells ({ frames := 1, cells := 0, slots := 0, locals := 12 } : Room).slots) := by
  refine MetFree.of_bodySF (plainFor_of_name pn_1) hisR ?_
  intro p e s m args below meth c s₁ Bd hml0 hP hK
  obtain ⟨rfl, hZ, hh⟩ := hP
  have hx := Bd.exec
  have hby := Bd.bytes
  have hlk := BodyLoose.notSynchronized Bd
  have hret := Bd.returns
  have hml : c.maxLocals = 1 := hml0
  have hown : s.vm.findClass "com/example/multiparty/multiparty/ExactSum" = some m.cls := findClass_of_methodNamed Bd.named
  have hnm := (name_of_methodNamed Bd.named Bd.method).1
  have X0 : Stand p l e ({ frames := 1, cells := 0, slots := 0, locals := 12 } : Room) s m #[(.ref a1)] below meth c s₁ [] 0 0 := Stand.of_body Bd
  have e0 : s₁.heap = h0 := by rw [← hh, Bd.state]; rfl
  have N0 := Fr.nil n0
  have K0 : Keep h0 h0 [] := Keep.refl h0 _
  refine Fin.step (Q := fun v h L => Q1 Z a1 h0 n0 v h L) (st' := s₁.setTop (mkF m 0 #[.val (.ref a1)] [])) (fun t k => castTop (ef_rm1 m a1) k) ?_
  show Fin p e below s _ _ _ (s₁.setTop (mkF m 0 #[.val (.ref a1)] []))
  refine Fin.step (fun _ => XS.aloadN X0.here hx rfl (hb hby d1_0) rfl rfl) ?_
  show Fin p e below s _ _ _ (s₁.setTop (mkF m 1 #[.val (.ref a1)] [(.ref a1)]))
  obtain ⟨Ty1, Xy1, ey1, sty1⟩ := initO X0 hx hZ hown (hw _ (List.mem_of_getElem? (i := 6) rfl)) (hw _ (List.mem_of_getElem? (i := 7) rfl)) (hw _ (List.mem_of_getElem? (i := 8) rfl)) e0 (g := (mkF m 1 #[.val (.ref a1)] [(.ref a1)])) rfl (by rw [hml]; rfl) rfl (hb hby d1_1) (by decide) (W := 0) (by show 2 * 0 + _ ≤ _; exact Nat.le_of_eq rfl) (by decide)
  refine Fin.step (sty1) ?_
  show Fin p e below s _ _ _ (Ty1.setTop (mkF m 4 #[.val (.ref a1)] []))
  refine Fin.retV Xy1 hx hret hlk (hb hby d1_4) (by decide) (by decide) ?_
  show Q1 Z a1 h0 n0 _ Ty1.heap _
  rw [ey1]
  exact ⟨rfl, N0, rfl⟩
theorem d4_0 : decode jdk_35_method_57_code 0 = .ok (.lload_n 0, 1) := by decide +kernel
theorem d4_1 : decode jdk_35_method_57_code 1 = .ok (.bipush 63, 2) := by decide +kernel
theorem d4_3 : decode jdk_35_method_57_code 3 = .ok (.lshr, 1) := by decide +kernel
theorem d4_4 : decode jdk_35_method_57_code 4 = .ok (.lload_n 0, 1) := by decide +kernel
theorem d4_5 : decode jdk_35_method_57_code 5 = .ok (.lneg, 1) := by decide +kernel
theorem d4_6 : decode jdk_35_method_57_code 6 = .ok (.bipush 63, 2) := by decide +kernel
theorem d4_8 : decode jdk_35_method_57_code 8 = .ok (.lushr, 1) := by decide +kernel
theorem d4_9 : decode jdk_35_method_57_code 9 = .ok (.lor, 1) := by decide +kernel
theorem d4_10 : decode jdk_35_method_57_code 10 = .ok (.l2i, 1) := by decide +kernel
theorem d4_11 : decode jdk_35_method_57_code 11 = .ok (.ireturn, 1) := by decide +kernel
theorem pn_4 : plainName "java/lang/Long" = true := by first | (simp [plainName, overriddenIn]; done) | decide +kernel
theorem ef_rm4 (m : MethodId) (x0 : Int64) : entryFrame m #[(.long x0)] 2 = mkF m 0 #[.val (.long x0), .second] [] := by first | (simp [entryFrame, mkF, argsToLocals, Value.category]; done) | rfl
def Q4 (Z : State) (q1 : Int64) (h0 : Heap) (n0 : Nat) (v : Option Value) (h : Heap) (L : List Loc) : Prop := v = some (.int (own_sg q1)) ∧ Fr n0 L ∧ h = h0
set_option maxRecDepth 65536 in
set_option maxHeartbeats 40000000 in
theorem rm4 (l : Launch) (Z : State) (a0 : Array Value) (hw : ∀ d ∈ tables_1, d.before a0 Z = true) (ws : List Jvm.Cond) (q1 : Int64) (h0 : Heap) (n0 : Nat) (Z0 : n0 ≤ h0.size) :
    MetFree l (⟨"java/lang/Long", "signum", "(J)I"⟩ : MethodName) (head1 (Jvm.Cond.code (⟨"java/lang/Long", "signum", "(J)I"⟩ : MethodName) jdk_35_method_57_code 2 (some .int) :: ws) ({ frames := 0, cells := 0, slots := 0, locals := 0 } : Room)) (fun a U => a = #[(.long q1)] ∧ Z.Warmed39 U.vm ∧ U.heap = h0) (fun _ _ _ _ _ => True) (fun _ U o U' => ∃ v L, o = .returned v ∧ Q4 Z q1 h0 n0 v U'.heap L ∧ FrameEnd U o U' L ({ frames := 0, cells := 0, slots := 0, locals := 0 } : Room).cells ({ frames := 0, cells := 0, slots := 0, locals := 0 } : Room).slots) := by
  refine MetFree.of_bodySF (plainFor_of_name pn_4) hisR ?_
  intro p e s m args below meth c s₁ Bd hml0 hP hK
  obtain ⟨rfl, hZ, hh⟩ := hP
  have hx := Bd.exec
  have hby := Bd.bytes
  have hlk := BodyLoose.notSynchronized Bd
  have hret := Bd.returns
  have hml : c.maxLocals = 2 := hml0
  have hown : s.vm.findClass "java/lang/Long" = some m.cls := findClass_of_methodNamed Bd.named
  have hnm := (name_of_methodNamed Bd.named Bd.method).1
  have X0 : Stand p l e ({ frames := 0, cells := 0, slots := 0, locals := 0 } : Room) s m #[(.long q1)] below meth c s₁ [] 0 0 := Stand.of_body Bd
  have e0 : s₁.heap = h0 := by rw [← hh, Bd.state]; rfl
  have N0 := Fr.nil n0
  have K0 : Keep h0 h0 [] := Keep.refl h0 _
  refine Fin.step (Q := fun v h L => Q4 Z q1 h0 n0 v h L) (st' := s₁.setTop (mkF m 0 #[.val (.long q1), .second] [])) (fun t k => castTop (ef_rm4 m q1) k) ?_
  show Fin p e below s _ _ _ (s₁.setTop (mkF m 0 #[.val (.long q1), .second] []))
  refine Fin.step (fun _ => XS.lloadN X0.here hx rfl (hb hby d4_0) rfl) ?_
  show Fin p e below s _ _ _ (s₁.setTop (mkF m 1 #[.val (.long q1), .second] [(.long q1)]))
  refine Fin.step (fun _ => XS.bipush X0.here hx rfl (hb hby d4_1)) ?_
  show Fin p e below s _ _ _ (s₁.setTop (mkF m 3 #[.val (.long q1), .second] [(.int (63 : Int32)), (.long q1)]))
  refine Fin.step (fun _ => XS.lshr X0.here hx rfl (hb hby d4_3) rfl) ?_
  show Fin p e below s _ _ _ (s₁.setTop (mkF m 4 #[.val (.long q1), .second] [(.long (q1 >>> ((63 : Int32) &&& 0x3f).toInt64))]))
  refine Fin.step (fun _ => XS.lloadN X0.here hx rfl (hb hby d4_4) rfl) ?_
  show Fin p e below s _ _ _ (s₁.setTop (mkF m 5 #[.val (.long q1), .second] [(.long q1), (.long (q1 >>> ((63 : Int32) &&& 0x3f).toInt64))]))
  refine Fin.step (fun _ => XS.lneg X0.here hx rfl (hb hby d4_5) rfl) ?_
  show Fin p e below s _ _ _ (s₁.setTop (mkF m 6 #[.val (.long q1), .second] [(.long (-q1)), (.long (q1 >>> ((63 : Int32) &&& 0x3f).toInt64))]))
  refine Fin.step (fun _ => XS.bipush X0.here hx rfl (hb hby d4_6)) ?_
  show Fin p e below s _ _ _ (s₁.setTop (mkF m 8 #[.val (.long q1), .second] [(.int (63 : Int32)), (.long (-q1)), (.long (q1 >>> ((63 : Int32) &&& 0x3f).toInt64))]))
  refine Fin.step (fun _ => XS.lushr X0.here hx rfl (hb hby d4_8) rfl) ?_
  show Fin p e below s _ _ _ (s₁.setTop (mkF m 9 #[.val (.long q1), .second] [(.long (ushL (-q1) (63 : Int32))), (.long (q1 >>> ((63 : Int32) &&& 0x3f).toInt64))]))
  refine Fin.step (fun _ => XS.lor X0.here hx rfl (hb hby d4_9) rfl) ?_
  show Fin p e below s _ _ _ (s₁.setTop (mkF m 10 #[.val (.long q1), .second] [(.long ((q1 >>> ((63 : Int32) &&& 0x3f).toInt64) ||| (ushL (-q1) (63 : Int32))))]))
  refine Fin.step (fun _ => XS.l2i X0.here hx rfl (hb hby d4_10) rfl) ?_
  show Fin p e below s _ _ _ (s₁.setTop (mkF m 11 #[.val (.long q1), .second] [(.int ((q1 >>> ((63 : Int32) &&& 0x3f).toInt64) ||| (ushL (-q1) (63 : Int32))).toInt32)]))
  refine Fin.retI X0 hx hret hlk (hb hby d4_11) (by decide) (by decide) ?_
  show Q4 Z q1 h0 n0 _ s₁.heap _
  rw [e0]
  exact ⟨rfl, N0, rfl⟩
theorem d3_0 : decode prog_8_method_3_code 0 = .ok (.aload_n 0, 1) := by decide +kernel
theorem d3_1 : decode prog_8_method_3_code 1 = .ok (.getfield 13, 3) := by decide +kernel
theorem d3_4 : decode prog_8_method_3_code 4 = .ok (.lconst 0, 1) := by decide +kernel
theorem d3_5 : decode prog_8_method_3_code 5 = .ok (.lcmp, 1) := by decide +kernel
theorem d3_6 : decode prog_8_method_3_code 6 = .ok (.ifCond .eq 13, 3) := by decide +kernel
theorem d3_9 : decode prog_8_method_3_code 9 = .ok (.aload_n 0, 1) := by decide +kernel
theorem d3_10 : decode prog_8_method_3_code 10 = .ok (.getfield 13, 3) := by decide +kernel
theorem d3_13 : decode prog_8_method_3_code 13 = .ok (.invokestatic 18, 3) := by decide +kernel
theorem d3_16 : decode prog_8_method_3_code 16 = .ok (.goto 10, 3) := by decide +kernel
theorem d3_19 : decode prog_8_method_3_code 19 = .ok (.aload_n 0, 1) := by decide +kernel
theorem d3_20 : decode prog_8_method_3_code 20 = .ok (.getfield 7, 3) := by decide +kernel
theorem d3_23 : decode prog_8_method_3_code 23 = .ok (.invokestatic 18, 3) := by decide +kernel
theorem d3_26 : decode prog_8_method_3_code 26 = .ok (.ireturn, 1) := by decide +kernel
theorem pn_3 : plainName "com/example/multiparty/multiparty/ExactSum" = true := by first | (simp [plainName, overriddenIn]; done) | decide +kernel
theorem pd_0 : parseMethodDescriptor "(J)I" = some ⟨[.long], some .int⟩ := by decide +kernel
theorem ef_rm3 (m : MethodId) (x0 : Addr) : entryFrame m #[(.ref x0)] 1 = mkF m 0 #[.val (.ref x0)] [] := by first | (simp [entryFrame, mkF, argsToLocals, Value.category]; done) | rfl
def Q3 (Z : State) (a1 : Addr) (hi : Int64) (lo : Int64) (h0 : Heap) (n0 : Nat) (v : Option Value) (h : Heap) (L : List Loc) : Prop := v = some (.int (own_signum hi lo)) ∧ Fr n0 L ∧ h = h0
set_option maxRecDepth 65536 in
set_option maxHeartbeats 40000000 in
theorem rm3 (l : Launch) (Z : State) (a0 : Array Value) (hw : ∀ d ∈ tables_1, d.before a0 Z = true) (ws : List Jvm.Cond) (a1 : Addr) (hi : Int64) (lo : Int64) (h0 : Heap) (n0 : Nat) (Z0 : n0 ≤ h0.size) (HF_a1_high : Fld Z h0 a1 "com/example/multiparty/multiparty/ExactSum" "high" "J" (.long hi)) (HF_a1_low : Fld Z h0 a1 "com/example/multiparty/multiparty/ExactSum" "low" "J" (.long lo)) :
    MetFree l (⟨"com/example/multiparty/multiparty/ExactSum", "signum", "()I"⟩ : MethodName) (head1 (Jvm.Cond.code (⟨"com/example/multiparty/multiparty/ExactSum", "signum", "()I"⟩ : MethodName) prog_8_method_3_code 1 (some .int) :: ws) ({ frames := 1, cells := 0, slots := 0, locals := 13 } : Room)) (fun a U => a = #[(.ref a1)] ∧ Z.Warmed39 U.vm ∧ U.heap = h0) (fun _ _ _ _ _ => True) (fun _ U o U' => ∃ v L, o = .returned v ∧ Q3 Z a1 hi lo h0 n0 v U'.heap L ∧ FrameEnd U o U' L ({ frames := 1, cells := 0, slots := 0, locals := 13 } : Room).cells ({ frames := 1, cells := 0, slots := 0, locals := 13 } : Room).slots) := by
  refine MetFree.of_bodySF (plainFor_of_name pn_3) hisR ?_
  intro p e s m args below meth c s₁ Bd hml0 hP hK
  obtain ⟨rfl, hZ, hh⟩ := hP
  have hx := Bd.exec
  have hby := Bd.bytes
  have hlk := BodyLoose.notSynchronized Bd
  have hret := Bd.returns
  have hml : c.maxLocals = 1 := hml0
  have hown : s.vm.findClass "com/example/multiparty/multiparty/ExactSum" = some m.cls := findClass_of_methodNamed Bd.named
  have hnm := (name_of_methodNamed Bd.named Bd.method).1
  have X0 : Stand p l e ({ frames := 1, cells := 0, slots := 0, locals := 13 } : Room) s m #[(.ref a1)] below meth c s₁ [] 0 0 := Stand.of_body Bd
  have e0 : s₁.heap = h0 := by rw [← hh, Bd.state]; rfl
  have N0 := Fr.nil n0
  have K0 : Keep h0 h0 [] := Keep.refl h0 _
  refine Fin.step (Q := fun v h L => Q3 Z a1 hi lo h0 n0 v h L) (st' := s₁.setTop (mkF m 0 #[.val (.ref a1)] [])) (fun t k => castTop (ef_rm3 m a1) k) ?_
  show Fin p e below s _ _ _ (s₁.setTop (mkF m 0 #[.val (.ref a1)] []))
  refine Fin.step (fun _ => XS.aloadN X0.here hx rfl (hb hby d3_0) rfl rfl) ?_
  show Fin p e below s _ _ _ (s₁.setTop (mkF m 1 #[.val (.ref a1)] [(.ref a1)]))
  obtain ⟨Ty1, Xy1, ey1, sty1⟩ := getF X0 hx hZ hown (host := "") (Or.inl (hw _ (List.mem_of_getElem? (i := 14) rfl))) Via.refl e0 HF_a1_high (g := (mkF m 1 #[.val (.ref a1)] [(.ref a1)])) rfl rfl (hb hby d3_1)
  refine Fin.step (sty1) ?_
  show Fin p e below s _ _ _ (Ty1.setTop (mkF m 4 #[.val (.ref a1)] [(.long hi)]))
  refine Fin.step (fun _ => XS.lconst Xy1.here hx rfl (hb hby d3_4)) ?_
  show Fin p e below s _ _ _ (Ty1.setTop (mkF m 5 #[.val (.ref a1)] [(.long (0 : Int64)), (.long hi)]))
  refine Fin.step (fun _ => XS.lcmp Xy1.here hx rfl (hb hby d3_5) rfl) ?_
  show Fin p e below s _ _ _ (Ty1.setTop (mkF m 6 #[.val (.ref a1)] [(.int (lcmpW hi (0 : Int64)))]))
  by_cases hcy2 : hi = (0 : Int64)
  · refine Fin.step (fun _ => XS.ifYes Xy1.here hx rfl (pc0 := 6) (pc' := 19) rfl (hb hby d3_6) rfl ((if0 _ _).trans (teq ((lcE hcy2) : ((lcmpW hi (0 : Int64)) = (0 : Int32)))).1) (by decide) (by decide)) ?_
    show Fin p e below s _ _ _ (Ty1.setTop (mkF m 19 #[.val (.ref a1)] []))
    refine Fin.step (fun _ => XS.aloadN Xy1.here hx rfl (hb hby d3_19) rfl rfl) ?_
    show Fin p e below s _ _ _ (Ty1.setTop (mkF m 20 #[.val (.ref a1)] [(.ref a1)]))
    obtain ⟨Ty3, Xy3, ey3, sty3⟩ := getF Xy1 hx hZ hown (host := "") (Or.inl (hw _ (List.mem_of_getElem? (i := 16) rfl))) Via.refl ey1 HF_a1_low (g := (mkF m 20 #[.val (.ref a1)] [(.ref a1)])) rfl rfl (hb hby d3_20)
    refine Fin.step (sty3) ?_
    show Fin p e below s _ _ _ (Ty3.setTop (mkF m 23 #[.val (.ref a1)] [(.long lo)]))
    obtain ⟨_, _, ⟨Ty4, Ly4, ky4, ny4⟩, -, Xy4, ⟨Lcy4, hQy4, ly4, yy4, zy4⟩, sty4⟩ := Jvm.LawKit.callS Xy3 hx (y := (⟨"java/lang/Long", "signum", "(J)I"⟩ : MethodName)) hown (mvT hZ (hw _ (List.mem_of_getElem? (i := 18) rfl))) (mvT hZ (hw _ (List.mem_of_getElem? (i := 19) rfl))) (mvT hZ (hw _ (List.mem_of_getElem? (i := 20) rfl))) (mvT hZ (hw _ (List.mem_of_getElem? (i := 21) rfl))) (by decide) (backOf (W := 0) (rm4 l Z a0 hw [] lo h0 n0 Z0 ) hZ (hw _ (List.mem_of_getElem? (i := 21) rfl)) (hw _ (List.mem_of_getElem? (i := 20) rfl)) (by decide) (by decide)) (g := (mkF m 23 #[.val (.ref a1)] [(.long lo)])) rfl (by rw [hml]; rfl) (argsL := [(.long lo)]) (rest := []) (lenOf pd_0 rfl) rfl (by show 2 * 0 + _ ≤ _; exact Nat.le_of_eq rfl) (hb hby d3_23) (fun _ _ => ⟨rfl, ey3, (by decide : 0 + 0 ≤ _), (by decide : 0 + 0 ≤ _)⟩)
    dsimp only [Pt.U, Pt.locs, Pt.cells, Pt.slots] at Xy4 ly4 yy4 zy4 sty4 hQy4
    subst ly4 yy4 zy4
    obtain ⟨rfl, Nqy4, eqy4⟩ := hQy4
    have Ny4 := Fr.app N0 Nqy4
    refine Fin.step (sty4) ?_
    show Fin p e below s _ _ _ (Ty4.setTop (mkF m 26 #[.val (.ref a1)] [(.int (own_sg lo))]))
    refine Fin.retI Xy4 hx hret hlk (hb hby d3_26) (by decide) (by decide) ?_
    show Q3 Z a1 hi lo h0 n0 _ Ty4.heap _
    rw [eqy4]
    exact ⟨(congrArg (fun z => some (Value.int z)) (by simp [own_signum, hcy2]; try first | done | rfl | decide)), Ny4, rfl⟩
  · refine Fin.step (fun _ => XS.ifNo Xy1.here hx rfl (hb hby d3_6) rfl ((if0 _ _).trans (feq ((lcNE hcy2) : ¬ ((lcmpW hi (0 : Int64)) = (0 : Int32)))).1)) ?_
    show Fin p e below s _ _ _ (Ty1.setTop (mkF m 9 #[.val (.ref a1)] []))
    refine Fin.step (fun _ => XS.aloadN Xy1.here hx rfl (hb hby d3_9) rfl rfl) ?_
    show Fin p e below s _ _ _ (Ty1.setTop (mkF m 10 #[.val (.ref a1)] [(.ref a1)]))
    obtain ⟨Ty5, Xy5, ey5, sty5⟩ := getF Xy1 hx hZ hown (host := "") (Or.inl (hw _ (List.mem_of_getElem? (i := 14) rfl))) Via.refl ey1 HF_a1_high (g := (mkF m 10 #[.val (.ref a1)] [(.ref a1)])) rfl rfl (hb hby d3_10)
    refine Fin.step (sty5) ?_
    show Fin p e below s _ _ _ (Ty5.setTop (mkF m 13 #[.val (.ref a1)] [(.long hi)]))
    obtain ⟨_, _, ⟨Ty6, Ly6, ky6, ny6⟩, -, Xy6, ⟨Lcy6, hQy6, ly6, yy6, zy6⟩, sty6⟩ := Jvm.LawKit.callS Xy5 hx (y := (⟨"java/lang/Long", "signum", "(J)I"⟩ : MethodName)) hown (mvT hZ (hw _ (List.mem_of_getElem? (i := 18) rfl))) (mvT hZ (hw _ (List.mem_of_getElem? (i := 19) rfl))) (mvT hZ (hw _ (List.mem_of_getElem? (i := 20) rfl))) (mvT hZ (hw _ (List.mem_of_getElem? (i := 21) rfl))) (by decide) (backOf (W := 0) (rm4 l Z a0 hw [] hi h0 n0 Z0 ) hZ (hw _ (List.mem_of_getElem? (i := 21) rfl)) (hw _ (List.mem_of_getElem? (i := 20) rfl)) (by decide) (by decide)) (g := (mkF m 13 #[.val (.ref a1)] [(.long hi)])) rfl (by rw [hml]; rfl) (argsL := [(.long hi)]) (rest := []) (lenOf pd_0 rfl) rfl (by show 2 * 0 + _ ≤ _; exact Nat.le_of_eq rfl) (hb hby d3_13) (fun _ _ => ⟨rfl, ey5, (by decide : 0 + 0 ≤ _), (by decide : 0 + 0 ≤ _)⟩)
    dsimp only [Pt.U, Pt.locs, Pt.cells, Pt.slots] at Xy6 ly6 yy6 zy6 sty6 hQy6
    subst ly6 yy6 zy6
    obtain ⟨rfl, Nqy6, eqy6⟩ := hQy6
    have Ny6 := Fr.app N0 Nqy6
    refine Fin.step (sty6) ?_
    show Fin p e below s _ _ _ (Ty6.setTop (mkF m 16 #[.val (.ref a1)] [(.int (own_sg hi))]))
    refine Fin.step (fun _ => XS.goto Xy6.here hx rfl (pc0 := 16) (pc' := 26) rfl (hb hby d3_16) (by decide) (by decide)) ?_
    show Fin p e below s _ _ _ (Ty6.setTop (mkF m 26 #[.val (.ref a1)] [(.int (own_sg hi))]))
    refine Fin.retI Xy6 hx hret hlk (hb hby d3_26) (by decide) (by decide) ?_
    show Q3 Z a1 hi lo h0 n0 _ Ty6.heap _
    rw [eqy6]
    exact ⟨(congrArg (fun z => some (Value.int z)) (by simp [own_signum, hcy2]; try first | done | rfl | decide)), Ny6, rfl⟩
theorem d5_0 : decode prog_8_method_2_code 0 = .ok (.aload_n 0, 1) := by decide +kernel
theorem d5_1 : decode prog_8_method_2_code 1 = .ok (.getfield 7, 3) := by decide +kernel
theorem d5_4 : decode prog_8_method_2_code 4 = .ok (.lload_n 1, 1) := by decide +kernel
theorem d5_5 : decode prog_8_method_2_code 5 = .ok (.ladd, 1) := by decide +kernel
theorem d5_6 : decode prog_8_method_2_code 6 = .ok (.lstore_n 3, 1) := by decide +kernel
theorem d5_7 : decode prog_8_method_2_code 7 = .ok (.aload_n 0, 1) := by decide +kernel
theorem d5_8 : decode prog_8_method_2_code 8 = .ok (.getfield 7, 3) := by decide +kernel
theorem d5_11 : decode prog_8_method_2_code 11 = .ok (.lload_n 3, 1) := by decide +kernel
theorem d5_12 : decode prog_8_method_2_code 12 = .ok (.lxor, 1) := by decide +kernel
theorem d5_13 : decode prog_8_method_2_code 13 = .ok (.lload_n 1, 1) := by decide +kernel
theorem d5_14 : decode prog_8_method_2_code 14 = .ok (.lload_n 3, 1) := by decide +kernel
theorem d5_15 : decode prog_8_method_2_code 15 = .ok (.lxor, 1) := by decide +kernel
theorem d5_16 : decode prog_8_method_2_code 16 = .ok (.land, 1) := by decide +kernel
theorem d5_17 : decode prog_8_method_2_code 17 = .ok (.lconst 0, 1) := by decide +kernel
theorem d5_18 : decode prog_8_method_2_code 18 = .ok (.lcmp, 1) := by decide +kernel
theorem d5_19 : decode prog_8_method_2_code 19 = .ok (.ifCond .ge 25, 3) := by decide +kernel
theorem d5_22 : decode prog_8_method_2_code 22 = .ok (.aload_n 0, 1) := by decide +kernel
theorem d5_23 : decode prog_8_method_2_code 23 = .ok (.dup, 1) := by decide +kernel
theorem d5_24 : decode prog_8_method_2_code 24 = .ok (.getfield 13, 3) := by decide +kernel
theorem d5_27 : decode prog_8_method_2_code 27 = .ok (.lload_n 1, 1) := by decide +kernel
theorem d5_28 : decode prog_8_method_2_code 28 = .ok (.lconst 0, 1) := by decide +kernel
theorem d5_29 : decode prog_8_method_2_code 29 = .ok (.lcmp, 1) := by decide +kernel
theorem d5_30 : decode prog_8_method_2_code 30 = .ok (.ifCond .ge 9, 3) := by decide +kernel
theorem d5_33 : decode prog_8_method_2_code 33 = .ok (.ldc2_w 16, 3) := by decide +kernel
theorem d5_36 : decode prog_8_method_2_code 36 = .ok (.goto 4, 3) := by decide +kernel
theorem d5_39 : decode prog_8_method_2_code 39 = .ok (.lconst 1, 1) := by decide +kernel
theorem d5_40 : decode prog_8_method_2_code 40 = .ok (.ladd, 1) := by decide +kernel
theorem d5_41 : decode prog_8_method_2_code 41 = .ok (.putfield 13, 3) := by decide +kernel
theorem d5_44 : decode prog_8_method_2_code 44 = .ok (.aload_n 0, 1) := by decide +kernel
theorem d5_45 : decode prog_8_method_2_code 45 = .ok (.lload_n 3, 1) := by decide +kernel
theorem d5_46 : decode prog_8_method_2_code 46 = .ok (.putfield 7, 3) := by decide +kernel
theorem d5_49 : decode prog_8_method_2_code 49 = .ok (.return_, 1) := by decide +kernel
theorem pn_5 : plainName "com/example/multiparty/multiparty/ExactSum" = true := by first | (simp [plainName, overriddenIn]; done) | decide +kernel
theorem ef_rm5 (m : MethodId) (x0 : Addr) (x1 : Int64) : entryFrame m #[(.ref x0), (.long x1)] 5 = mkF m 0 #[.val (.ref x0), .val (.long x1), .second, .unset, .unset] [] := by first | (simp [entryFrame, mkF, argsToLocals, Value.category]; done) | rfl
def Q5 (Z : State) (a1 : Addr) (u : Int64) (hi : Int64) (lo : Int64) (h0 : Heap) (n0 : Nat) (v : Option Value) (h : Heap) (L : List Loc) : Prop := v = none ∧ Fr n0 L ∧ Keep h0 h [a1] ∧ Fld Z h a1 "com/example/multiparty/multiparty/ExactSum" "high" "J" (.long (own_hi lo hi u)) ∧ Fld Z h a1 "com/example/multiparty/multiparty/ExactSum" "low" "J" (.long (lo + u))
set_option maxRecDepth 65536 in
set_option maxHeartbeats 40000000 in
theorem rm5 (l : Launch) (Z : State) (a0 : Array Value) (hw : ∀ d ∈ tables_1, d.before a0 Z = true) (ws : List Jvm.Cond) (a1 : Addr) (u : Int64) (hi : Int64) (lo : Int64) (h0 : Heap) (n0 : Nat) (Z0 : n0 ≤ h0.size) (HE_a1 : Exa Z h0 a1 "com/example/multiparty/multiparty/ExactSum") (HF_a1_high : Fld Z h0 a1 "com/example/multiparty/multiparty/ExactSum" "high" "J" (.long hi)) (HF_a1_low : Fld Z h0 a1 "com/example/multiparty/multiparty/ExactSum" "low" "J" (.long lo)) (g_a1 : n0 ≤ a1) :
    MetFree l (⟨"com/example/multiparty/multiparty/ExactSum", "add", "(J)V"⟩ : MethodName) (head1 (Jvm.Cond.code (⟨"com/example/multiparty/multiparty/ExactSum", "add", "(J)V"⟩ : MethodName) prog_8_method_2_code 5 none :: ws) ({ frames := 0, cells := 0, slots := 0, locals := 0 } : Room)) (fun a U => a = #[(.ref a1), (.long u)] ∧ Z.Warmed39 U.vm ∧ U.heap = h0) (fun _ _ _ _ _ => True) (fun _ U o U' => ∃ v L, o = .returned v ∧ Q5 Z a1 u hi lo h0 n0 v U'.heap L ∧ FrameEnd U o U' L ({ frames := 0, cells := 0, slots := 0, locals := 0 } : Room).cells ({ frames := 0, cells := 0, slots := 0, locals := 0 } : Room).slots) := by
  refine MetFree.of_bodySF (plainFor_of_name pn_5) hisR ?_
  intro p e s m args below meth c s₁ Bd hml0 hP hK
  obtain ⟨rfl, hZ, hh⟩ := hP
  have hx := Bd.exec
  have hby := Bd.bytes
  have hlk := BodyLoose.notSynchronized Bd
  have hret := Bd.returns
  have hml : c.maxLocals = 5 := hml0
  have hown : s.vm.findClass "com/example/multiparty/multiparty/ExactSum" = some m.cls := findClass_of_methodNamed Bd.named
  have hnm := (name_of_methodNamed Bd.named Bd.method).1
  have X0 : Stand p l e ({ frames := 0, cells := 0, slots := 0, locals := 0 } : Room) s m #[(.ref a1), (.long u)] below meth c s₁ [] 0 0 := Stand.of_body Bd
  have e0 : s₁.heap = h0 := by rw [← hh, Bd.state]; rfl
  have N0 := Fr.nil n0
  have K0 : Keep h0 h0 [a1] := Keep.refl h0 _
  refine Fin.step (Q := fun v h L => Q5 Z a1 u hi lo h0 n0 v h L) (st' := s₁.setTop (mkF m 0 #[.val (.ref a1), .val (.long u), .second, .unset, .unset] [])) (fun t k => castTop (ef_rm5 m a1 u) k) ?_
  show Fin p e below s _ _ _ (s₁.setTop (mkF m 0 #[.val (.ref a1), .val (.long u), .second, .unset, .unset] []))
  refine Fin.step (fun _ => XS.aloadN X0.here hx rfl (hb hby d5_0) rfl rfl) ?_
  show Fin p e below s _ _ _ (s₁.setTop (mkF m 1 #[.val (.ref a1), .val (.long u), .second, .unset, .unset] [(.ref a1)]))
  obtain ⟨Ty1, Xy1, ey1, sty1⟩ := getF X0 hx hZ hown (host := "") (Or.inl (hw _ (List.mem_of_getElem? (i := 16) rfl))) Via.refl e0 HF_a1_low (g := (mkF m 1 #[.val (.ref a1), .val (.long u), .second, .unset, .unset] [(.ref a1)])) rfl rfl (hb hby d5_1)
  refine Fin.step (sty1) ?_
  show Fin p e below s _ _ _ (Ty1.setTop (mkF m 4 #[.val (.ref a1), .val (.long u), .second, .unset, .unset] [(.long lo)]))
  refine Fin.step (fun _ => XS.lloadN Xy1.here hx rfl (hb hby d5_4) rfl) ?_
  show Fin p e below s _ _ _ (Ty1.setTop (mkF m 5 #[.val (.ref a1), .val (.long u), .second, .unset, .unset] [(.long u), (.long lo)]))
  refine Fin.step (fun _ => XS.ladd Xy1.here hx rfl (hb hby d5_5) rfl) ?_
  show Fin p e below s _ _ _ (Ty1.setTop (mkF m 6 #[.val (.ref a1), .val (.long u), .second, .unset, .unset] [(.long (lo + u))]))
  refine Fin.step (fun _ => XS.lstoreN Xy1.here hx rfl (hb hby d5_6) rfl (l' := #[.val (.ref a1), .val (.long u), .second, .val (.long (lo + u)), .second]) rfl) ?_
  show Fin p e below s _ _ _ (Ty1.setTop (mkF m 7 #[.val (.ref a1), .val (.long u), .second, .val (.long (lo + u)), .second] []))
  refine Fin.step (fun _ => XS.aloadN Xy1.here hx rfl (hb hby d5_7) rfl rfl) ?_
  show Fin p e below s _ _ _ (Ty1.setTop (mkF m 8 #[.val (.ref a1), .val (.long u), .second, .val (.long (lo + u)), .second] [(.ref a1)]))
  obtain ⟨Ty2, Xy2, ey2, sty2⟩ := getF Xy1 hx hZ hown (host := "") (Or.inl (hw _ (List.mem_of_getElem? (i := 16) rfl))) Via.refl ey1 HF_a1_low (g := (mkF m 8 #[.val (.ref a1), .val (.long u), .second, .val (.long (lo + u)), .second] [(.ref a1)])) rfl rfl (hb hby d5_8)
  refine Fin.step (sty2) ?_
  show Fin p e below s _ _ _ (Ty2.setTop (mkF m 11 #[.val (.ref a1), .val (.long u), .second, .val (.long (lo + u)), .second] [(.long lo)]))
  refine Fin.step (fun _ => XS.lloadN Xy2.here hx rfl (hb hby d5_11) rfl) ?_
  show Fin p e below s _ _ _ (Ty2.setTop (mkF m 12 #[.val (.ref a1), .val (.long u), .second, .val (.long (lo + u)), .second] [(.long (lo + u)), (.long lo)]))
  refine Fin.step (fun _ => XS.lxor Xy2.here hx rfl (hb hby d5_12) rfl) ?_
  show Fin p e below s _ _ _ (Ty2.setTop (mkF m 13 #[.val (.ref a1), .val (.long u), .second, .val (.long (lo + u)), .second] [(.long (lo ^^^ (lo + u)))]))
  refine Fin.step (fun _ => XS.lloadN Xy2.here hx rfl (hb hby d5_13) rfl) ?_
  show Fin p e below s _ _ _ (Ty2.setTop (mkF m 14 #[.val (.ref a1), .val (.long u), .second, .val (.long (lo + u)), .second] [(.long u), (.long (lo ^^^ (lo + u)))]))
  refine Fin.step (fun _ => XS.lloadN Xy2.here hx rfl (hb hby d5_14) rfl) ?_
  show Fin p e below s _ _ _ (Ty2.setTop (mkF m 15 #[.val (.ref a1), .val (.long u), .second, .val (.long (lo + u)), .second] [(.long (lo + u)), (.long u), (.long (lo ^^^ (lo + u)))]))
  refine Fin.step (fun _ => XS.lxor Xy2.here hx rfl (hb hby d5_15) rfl) ?_
  show Fin p e below s _ _ _ (Ty2.setTop (mkF m 16 #[.val (.ref a1), .val (.long u), .second, .val (.long (lo + u)), .second] [(.long (u ^^^ (lo + u))), (.long (lo ^^^ (lo + u)))]))
  refine Fin.step (fun _ => XS.land Xy2.here hx rfl (hb hby d5_16) rfl) ?_
  show Fin p e below s _ _ _ (Ty2.setTop (mkF m 17 #[.val (.ref a1), .val (.long u), .second, .val (.long (lo + u)), .second] [(.long ((lo ^^^ (lo + u)) &&& (u ^^^ (lo + u))))]))
  refine Fin.step (fun _ => XS.lconst Xy2.here hx rfl (hb hby d5_17)) ?_
  show Fin p e below s _ _ _ (Ty2.setTop (mkF m 18 #[.val (.ref a1), .val (.long u), .second, .val (.long (lo + u)), .second] [(.long (0 : Int64)), (.long ((lo ^^^ (lo + u)) &&& (u ^^^ (lo + u))))]))
  refine Fin.step (fun _ => XS.lcmp Xy2.here hx rfl (hb hby d5_18) rfl) ?_
  show Fin p e below s _ _ _ (Ty2.setTop (mkF m 19 #[.val (.ref a1), .val (.long u), .second, .val (.long (lo + u)), .second] [(.int (lcmpW ((lo ^^^ (lo + u)) &&& (u ^^^ (lo + u))) (0 : Int64)))]))
  by_cases hcy3 : ((lo ^^^ (lo + u)) &&& (u ^^^ (lo + u))) < (0 : Int64)
  · refine Fin.step (fun _ => XS.ifNo Xy2.here hx rfl (hb hby d5_19) rfl ((if0 _ _).trans (tlt ((lcL hcy3) : ((lcmpW ((lo ^^^ (lo + u)) &&& (u ^^^ (lo + u))) (0 : Int64)) < (0 : Int32)))).2.1)) ?_
    show Fin p e below s _ _ _ (Ty2.setTop (mkF m 22 #[.val (.ref a1), .val (.long u), .second, .val (.long (lo + u)), .second] []))
    refine Fin.step (fun _ => XS.aloadN Xy2.here hx rfl (hb hby d5_22) rfl rfl) ?_
    show Fin p e below s _ _ _ (Ty2.setTop (mkF m 23 #[.val (.ref a1), .val (.long u), .second, .val (.long (lo + u)), .second] [(.ref a1)]))
    refine Fin.step (fun _ => XS.dup Xy2.here hx rfl (hb hby d5_23) rfl rfl) ?_
    show Fin p e below s _ _ _ (Ty2.setTop (mkF m 24 #[.val (.ref a1), .val (.long u), .second, .val (.long (lo + u)), .second] [(.ref a1), (.ref a1)]))
    obtain ⟨Ty4, Xy4, ey4, sty4⟩ := getF Xy2 hx hZ hown (host := "") (Or.inl (hw _ (List.mem_of_getElem? (i := 14) rfl))) Via.refl ey2 HF_a1_high (g := (mkF m 24 #[.val (.ref a1), .val (.long u), .second, .val (.long (lo + u)), .second] [(.ref a1), (.ref a1)])) rfl rfl (hb hby d5_24)
    refine Fin.step (sty4) ?_
    show Fin p e below s _ _ _ (Ty4.setTop (mkF m 27 #[.val (.ref a1), .val (.long u), .second, .val (.long (lo + u)), .second] [(.long hi), (.ref a1)]))
    refine Fin.step (fun _ => XS.lloadN Xy4.here hx rfl (hb hby d5_27) rfl) ?_
    show Fin p e below s _ _ _ (Ty4.setTop (mkF m 28 #[.val (.ref a1), .val (.long u), .second, .val (.long (lo + u)), .second] [(.long u), (.long hi), (.ref a1)]))
    refine Fin.step (fun _ => XS.lconst Xy4.here hx rfl (hb hby d5_28)) ?_
    show Fin p e below s _ _ _ (Ty4.setTop (mkF m 29 #[.val (.ref a1), .val (.long u), .second, .val (.long (lo + u)), .second] [(.long (0 : Int64)), (.long u), (.long hi), (.ref a1)]))
    refine Fin.step (fun _ => XS.lcmp Xy4.here hx rfl (hb hby d5_29) rfl) ?_
    show Fin p e below s _ _ _ (Ty4.setTop (mkF m 30 #[.val (.ref a1), .val (.long u), .second, .val (.long (lo + u)), .second] [(.int (lcmpW u (0 : Int64))), (.long hi), (.ref a1)]))
    by_cases hcy5 : u < (0 : Int64)
    · refine Fin.step (fun _ => XS.ifNo Xy4.here hx rfl (hb hby d5_30) rfl ((if0 _ _).trans (tlt ((lcL hcy5) : ((lcmpW u (0 : Int64)) < (0 : Int32)))).2.1)) ?_
      show Fin p e below s _ _ _ (Ty4.setTop (mkF m 33 #[.val (.ref a1), .val (.long u), .second, .val (.long (lo + u)), .second] [(.long hi), (.ref a1)]))
      refine Fin.step (Xy4.ldc2Long hx hown (mvT hZ (hw _ (List.mem_of_getElem? (i := 32) rfl))) (g := (mkF m 33 #[.val (.ref a1), .val (.long u), .second, .val (.long (lo + u)), .second] [(.long hi), (.ref a1)])) rfl (hb hby d5_33)) ?_
      show Fin p e below s _ _ _ (Ty4.setTop (mkF m 36 #[.val (.ref a1), .val (.long u), .second, .val (.long (lo + u)), .second] [(.long (-1 : Int64)), (.long hi), (.ref a1)]))
      refine Fin.step (fun _ => XS.goto Xy4.here hx rfl (pc0 := 36) (pc' := 40) rfl (hb hby d5_36) (by decide) (by decide)) ?_
      show Fin p e below s _ _ _ (Ty4.setTop (mkF m 40 #[.val (.ref a1), .val (.long u), .second, .val (.long (lo + u)), .second] [(.long (-1 : Int64)), (.long hi), (.ref a1)]))
      refine Fin.step (fun _ => XS.ladd Xy4.here hx rfl (hb hby d5_40) rfl) ?_
      show Fin p e below s _ _ _ (Ty4.setTop (mkF m 41 #[.val (.ref a1), .val (.long u), .second, .val (.long (lo + u)), .second] [(.long (hi + (-1 : Int64))), (.ref a1)]))
      obtain ⟨Ty6, hy6, Xy6, ey6, Wy6, sty6⟩ := putF Xy4 hx hZ hown (host := "") (Or.inl (hw _ (List.mem_of_getElem? (i := 14) rfl))) Via.refl ey4 HF_a1_high HE_a1 (Or.inl (hw _ (List.mem_of_getElem? (i := 15) rfl))) (hw _ (List.mem_of_getElem? (i := 1) rfl)) (ty := .long) (by decide) rfl rfl (g := (mkF m 41 #[.val (.ref a1), .val (.long u), .second, .val (.long (lo + u)), .second] [(.long (hi + (-1 : Int64))), (.ref a1)])) rfl rfl (hb hby d5_41)
      have Fwy6 : Fld Z hy6 a1 "com/example/multiparty/multiparty/ExactSum" "high" "J" (.long (hi + (-1 : Int64))) := HF_a1_high.same Wy6
      have Zy6 : n0 ≤ hy6.size := Nat.le_trans Z0 (Keep.of_wr Wy6).1
      have Ky6 : Keep h0 hy6 [a1] := K0.wr Wy6 (Or.inl (List.mem_of_getElem? (i := 0) rfl))
      have Ny6 := Fr.snoc Xy6 N0 g_a1
      refine Fin.step (sty6) ?_
      show Fin p e below s _ _ _ (Ty6.setTop (mkF m 44 #[.val (.ref a1), .val (.long u), .second, .val (.long (lo + u)), .second] []))
      refine Fin.step (fun _ => XS.aloadN Xy6.here hx rfl (hb hby d5_44) rfl rfl) ?_
      show Fin p e below s _ _ _ (Ty6.setTop (mkF m 45 #[.val (.ref a1), .val (.long u), .second, .val (.long (lo + u)), .second] [(.ref a1)]))
      refine Fin.step (fun _ => XS.lloadN Xy6.here hx rfl (hb hby d5_45) rfl) ?_
      show Fin p e below s _ _ _ (Ty6.setTop (mkF m 46 #[.val (.ref a1), .val (.long u), .second, .val (.long (lo + u)), .second] [(.long (lo + u)), (.ref a1)]))
      obtain ⟨Ty7, hy7, Xy7, ey7, Wy7, sty7⟩ := putF Xy6 hx hZ hown (host := "") (Or.inl (hw _ (List.mem_of_getElem? (i := 16) rfl))) Via.refl ey6 (HF_a1_low.other Wy6 (Or.inr (slot_ne (Or.inl (hw _ (List.mem_of_getElem? (i := 17) rfl))) (Or.inl (hw _ (List.mem_of_getElem? (i := 15) rfl))) (by decide) (t := .long) (t' := .long) (by decide) (by decide)))) (HE_a1.wr Wy6) (Or.inl (hw _ (List.mem_of_getElem? (i := 17) rfl))) (hw _ (List.mem_of_getElem? (i := 1) rfl)) (ty := .long) (by decide) rfl rfl (g := (mkF m 46 #[.val (.ref a1), .val (.long u), .second, .val (.long (lo + u)), .second] [(.long (lo + u)), (.ref a1)])) rfl rfl (hb hby d5_46)
      have Fwy7 : Fld Z hy7 a1 "com/example/multiparty/multiparty/ExactSum" "low" "J" (.long (lo + u)) := (HF_a1_low.other Wy6 (Or.inr (slot_ne (Or.inl (hw _ (List.mem_of_getElem? (i := 17) rfl))) (Or.inl (hw _ (List.mem_of_getElem? (i := 15) rfl))) (by decide) (t := .long) (t' := .long) (by decide) (by decide)))).same Wy7
      have Zy7 : n0 ≤ hy7.size := Nat.le_trans Zy6 (Keep.of_wr Wy7).1
      have Ky7 : Keep h0 hy7 [a1] := Ky6.wr Wy7 (Or.inl (List.mem_of_getElem? (i := 0) rfl))
      have Ny7 := Fr.snoc Xy7 Ny6 g_a1
      refine Fin.step (sty7) ?_
      show Fin p e below s _ _ _ (Ty7.setTop (mkF m 49 #[.val (.ref a1), .val (.long u), .second, .val (.long (lo + u)), .second] []))
      refine Fin.retV Xy7 hx hret hlk (hb hby d5_49) (by decide) (by decide) ?_
      show Q5 Z a1 u hi lo h0 n0 _ Ty7.heap _
      rw [ey7]
      exact ⟨rfl, Ny7, Ky7, (Fld.cast (Fwy6.other Wy7 (Or.inr (slot_ne (Or.inl (hw _ (List.mem_of_getElem? (i := 15) rfl))) (Or.inl (hw _ (List.mem_of_getElem? (i := 17) rfl))) (by decide) (t := .long) (t' := .long) (by decide) (by decide)))) (congrArg Value.long (by simp [own_hi, hcy3, hcy5]))), Fwy7⟩
    · refine Fin.step (fun _ => XS.ifYes Xy4.here hx rfl (pc0 := 30) (pc' := 39) rfl (hb hby d5_30) rfl ((if0 _ _).trans (flt ((lcNL hcy5) : ¬ ((lcmpW u (0 : Int64)) < (0 : Int32)))).2.1) (by decide) (by decide)) ?_
      show Fin p e below s _ _ _ (Ty4.setTop (mkF m 39 #[.val (.ref a1), .val (.long u), .second, .val (.long (lo + u)), .second] [(.long hi), (.ref a1)]))
      refine Fin.step (fun _ => XS.lconst Xy4.here hx rfl (hb hby d5_39)) ?_
      show Fin p e below s _ _ _ (Ty4.setTop (mkF m 40 #[.val (.ref a1), .val (.long u), .second, .val (.long (lo + u)), .second] [(.long (1 : Int64)), (.long hi), (.ref a1)]))
      refine Fin.step (fun _ => XS.ladd Xy4.here hx rfl (hb hby d5_40) rfl) ?_
      show Fin p e below s _ _ _ (Ty4.setTop (mkF m 41 #[.val (.ref a1), .val (.long u), .second, .val (.long (lo + u)), .second] [(.long (hi + (1 : Int64))), (.ref a1)]))
      obtain ⟨Ty8, hy8, Xy8, ey8, Wy8, sty8⟩ := putF Xy4 hx hZ hown (host := "") (Or.inl (hw _ (List.mem_of_getElem? (i := 14) rfl))) Via.refl ey4 HF_a1_high HE_a1 (Or.inl (hw _ (List.mem_of_getElem? (i := 15) rfl))) (hw _ (List.mem_of_getElem? (i := 1) rfl)) (ty := .long) (by decide) rfl rfl (g := (mkF m 41 #[.val (.ref a1), .val (.long u), .second, .val (.long (lo + u)), .second] [(.long (hi + (1 : Int64))), (.ref a1)])) rfl rfl (hb hby d5_41)
      have Fwy8 : Fld Z hy8 a1 "com/example/multiparty/multiparty/ExactSum" "high" "J" (.long (hi + (1 : Int64))) := HF_a1_high.same Wy8
      have Zy8 : n0 ≤ hy8.size := Nat.le_trans Z0 (Keep.of_wr Wy8).1
      have Ky8 : Keep h0 hy8 [a1] := K0.wr Wy8 (Or.inl (List.mem_of_getElem? (i := 0) rfl))
      have Ny8 := Fr.snoc Xy8 N0 g_a1
      refine Fin.step (sty8) ?_
      show Fin p e below s _ _ _ (Ty8.setTop (mkF m 44 #[.val (.ref a1), .val (.long u), .second, .val (.long (lo + u)), .second] []))
      refine Fin.step (fun _ => XS.aloadN Xy8.here hx rfl (hb hby d5_44) rfl rfl) ?_
      show Fin p e below s _ _ _ (Ty8.setTop (mkF m 45 #[.val (.ref a1), .val (.long u), .second, .val (.long (lo + u)), .second] [(.ref a1)]))
      refine Fin.step (fun _ => XS.lloadN Xy8.here hx rfl (hb hby d5_45) rfl) ?_
      show Fin p e below s _ _ _ (Ty8.setTop (mkF m 46 #[.val (.ref a1), .val (.long u), .second, .val (.long (lo + u)), .second] [(.long (lo + u)), (.ref a1)]))
      obtain ⟨Ty9, hy9, Xy9, ey9, Wy9, sty9⟩ := putF Xy8 hx hZ hown (host := "") (Or.inl (hw _ (List.mem_of_getElem? (i := 16) rfl))) Via.refl ey8 (HF_a1_low.other Wy8 (Or.inr (slot_ne (Or.inl (hw _ (List.mem_of_getElem? (i := 17) rfl))) (Or.inl (hw _ (List.mem_of_getElem? (i := 15) rfl))) (by decide) (t := .long) (t' := .long) (by decide) (by decide)))) (HE_a1.wr Wy8) (Or.inl (hw _ (List.mem_of_getElem? (i := 17) rfl))) (hw _ (List.mem_of_getElem? (i := 1) rfl)) (ty := .long) (by decide) rfl rfl (g := (mkF m 46 #[.val (.ref a1), .val (.long u), .second, .val (.long (lo + u)), .second] [(.long (lo + u)), (.ref a1)])) rfl rfl (hb hby d5_46)
      have Fwy9 : Fld Z hy9 a1 "com/example/multiparty/multiparty/ExactSum" "low" "J" (.long (lo + u)) := (HF_a1_low.other Wy8 (Or.inr (slot_ne (Or.inl (hw _ (List.mem_of_getElem? (i := 17) rfl))) (Or.inl (hw _ (List.mem_of_getElem? (i := 15) rfl))) (by decide) (t := .long) (t' := .long) (by decide) (by decide)))).same Wy9
      have Zy9 : n0 ≤ hy9.size := Nat.le_trans Zy8 (Keep.of_wr Wy9).1
      have Ky9 : Keep h0 hy9 [a1] := Ky8.wr Wy9 (Or.inl (List.mem_of_getElem? (i := 0) rfl))
      have Ny9 := Fr.snoc Xy9 Ny8 g_a1
      refine Fin.step (sty9) ?_
      show Fin p e below s _ _ _ (Ty9.setTop (mkF m 49 #[.val (.ref a1), .val (.long u), .second, .val (.long (lo + u)), .second] []))
      refine Fin.retV Xy9 hx hret hlk (hb hby d5_49) (by decide) (by decide) ?_
      show Q5 Z a1 u hi lo h0 n0 _ Ty9.heap _
      rw [ey9]
      exact ⟨rfl, Ny9, Ky9, (Fld.cast (Fwy8.other Wy9 (Or.inr (slot_ne (Or.inl (hw _ (List.mem_of_getElem? (i := 15) rfl))) (Or.inl (hw _ (List.mem_of_getElem? (i := 17) rfl))) (by decide) (t := .long) (t' := .long) (by decide) (by decide)))) (congrArg Value.long (by simp [own_hi, hcy3, hcy5]))), Fwy9⟩
  · refine Fin.step (fun _ => XS.ifYes Xy2.here hx rfl (pc0 := 19) (pc' := 44) rfl (hb hby d5_19) rfl ((if0 _ _).trans (flt ((lcNL hcy3) : ¬ ((lcmpW ((lo ^^^ (lo + u)) &&& (u ^^^ (lo + u))) (0 : Int64)) < (0 : Int32)))).2.1) (by decide) (by decide)) ?_
    show Fin p e below s _ _ _ (Ty2.setTop (mkF m 44 #[.val (.ref a1), .val (.long u), .second, .val (.long (lo + u)), .second] []))
    refine Fin.step (fun _ => XS.aloadN Xy2.here hx rfl (hb hby d5_44) rfl rfl) ?_
    show Fin p e below s _ _ _ (Ty2.setTop (mkF m 45 #[.val (.ref a1), .val (.long u), .second, .val (.long (lo + u)), .second] [(.ref a1)]))
    refine Fin.step (fun _ => XS.lloadN Xy2.here hx rfl (hb hby d5_45) rfl) ?_
    show Fin p e below s _ _ _ (Ty2.setTop (mkF m 46 #[.val (.ref a1), .val (.long u), .second, .val (.long (lo + u)), .second] [(.long (lo + u)), (.ref a1)]))
    obtain ⟨Ty10, hy10, Xy10, ey10, Wy10, sty10⟩ := putF Xy2 hx hZ hown (host := "") (Or.inl (hw _ (List.mem_of_getElem? (i := 16) rfl))) Via.refl ey2 HF_a1_low HE_a1 (Or.inl (hw _ (List.mem_of_getElem? (i := 17) rfl))) (hw _ (List.mem_of_getElem? (i := 1) rfl)) (ty := .long) (by decide) rfl rfl (g := (mkF m 46 #[.val (.ref a1), .val (.long u), .second, .val (.long (lo + u)), .second] [(.long (lo + u)), (.ref a1)])) rfl rfl (hb hby d5_46)
    have Fwy10 : Fld Z hy10 a1 "com/example/multiparty/multiparty/ExactSum" "low" "J" (.long (lo + u)) := HF_a1_low.same Wy10
    have Zy10 : n0 ≤ hy10.size := Nat.le_trans Z0 (Keep.of_wr Wy10).1
    have Ky10 : Keep h0 hy10 [a1] := K0.wr Wy10 (Or.inl (List.mem_of_getElem? (i := 0) rfl))
    have Ny10 := Fr.snoc Xy10 N0 g_a1
    refine Fin.step (sty10) ?_
    show Fin p e below s _ _ _ (Ty10.setTop (mkF m 49 #[.val (.ref a1), .val (.long u), .second, .val (.long (lo + u)), .second] []))
    refine Fin.retV Xy10 hx hret hlk (hb hby d5_49) (by decide) (by decide) ?_
    show Q5 Z a1 u hi lo h0 n0 _ Ty10.heap _
    rw [ey10]
    exact ⟨rfl, Ny10, Ky10, (Fld.cast (HF_a1_high.other Wy10 (Or.inr (slot_ne (Or.inl (hw _ (List.mem_of_getElem? (i := 15) rfl))) (Or.inl (hw _ (List.mem_of_getElem? (i := 17) rfl))) (by decide) (t := .long) (t' := .long) (by decide) (by decide)))) (congrArg Value.long (by simp [own_hi, hcy3]))), Fwy10⟩
theorem d6_0 : decode method_3_code 0 = .ok (.lload_n 0, 1) := by decide +kernel
theorem d6_1 : decode method_3_code 1 = .ok (.ldc2_w 24, 3) := by decide +kernel
theorem d6_4 : decode method_3_code 4 = .ok (.land, 1) := by decide +kernel
theorem d6_5 : decode method_3_code 5 = .ok (.lload_n 2, 1) := by decide +kernel
theorem d6_6 : decode method_3_code 6 = .ok (.ldc2_w 24, 3) := by decide +kernel
theorem d6_9 : decode method_3_code 9 = .ok (.land, 1) := by decide +kernel
theorem d6_10 : decode method_3_code 10 = .ok (.ladd, 1) := by decide +kernel
theorem d6_11 : decode method_3_code 11 = .ok (.lload 4, 2) := by decide +kernel
theorem d6_13 : decode method_3_code 13 = .ok (.ldc2_w 24, 3) := by decide +kernel
theorem d6_16 : decode method_3_code 16 = .ok (.land, 1) := by decide +kernel
theorem d6_17 : decode method_3_code 17 = .ok (.ladd, 1) := by decide +kernel
theorem d6_18 : decode method_3_code 18 = .ok (.lload 6, 2) := by decide +kernel
theorem d6_20 : decode method_3_code 20 = .ok (.ldc2_w 24, 3) := by decide +kernel
theorem d6_23 : decode method_3_code 23 = .ok (.land, 1) := by decide +kernel
theorem d6_24 : decode method_3_code 24 = .ok (.ladd, 1) := by decide +kernel
theorem d6_25 : decode method_3_code 25 = .ok (.lstore 8, 2) := by decide +kernel
theorem d6_27 : decode method_3_code 27 = .ok (.lload_n 0, 1) := by decide +kernel
theorem d6_28 : decode method_3_code 28 = .ok (.bipush 32, 2) := by decide +kernel
theorem d6_30 : decode method_3_code 30 = .ok (.lshr, 1) := by decide +kernel
theorem d6_31 : decode method_3_code 31 = .ok (.lload_n 2, 1) := by decide +kernel
theorem d6_32 : decode method_3_code 32 = .ok (.bipush 32, 2) := by decide +kernel
theorem d6_34 : decode method_3_code 34 = .ok (.lshr, 1) := by decide +kernel
theorem d6_35 : decode method_3_code 35 = .ok (.ladd, 1) := by decide +kernel
theorem d6_36 : decode method_3_code 36 = .ok (.lload 4, 2) := by decide +kernel
theorem d6_38 : decode method_3_code 38 = .ok (.bipush 32, 2) := by decide +kernel
theorem d6_40 : decode method_3_code 40 = .ok (.lshr, 1) := by decide +kernel
theorem d6_41 : decode method_3_code 41 = .ok (.ladd, 1) := by decide +kernel
theorem d6_42 : decode method_3_code 42 = .ok (.lload 6, 2) := by decide +kernel
theorem d6_44 : decode method_3_code 44 = .ok (.bipush 32, 2) := by decide +kernel
theorem d6_46 : decode method_3_code 46 = .ok (.lshr, 1) := by decide +kernel
theorem d6_47 : decode method_3_code 47 = .ok (.ladd, 1) := by decide +kernel
theorem d6_48 : decode method_3_code 48 = .ok (.lload 8, 2) := by decide +kernel
theorem d6_50 : decode method_3_code 50 = .ok (.bipush 32, 2) := by decide +kernel
theorem d6_52 : decode method_3_code 52 = .ok (.lushr, 1) := by decide +kernel
theorem d6_53 : decode method_3_code 53 = .ok (.ladd, 1) := by decide +kernel
theorem d6_54 : decode method_3_code 54 = .ok (.lstore 10, 2) := by decide +kernel
theorem d6_56 : decode method_3_code 56 = .ok (.lload 8, 2) := by decide +kernel
theorem d6_58 : decode method_3_code 58 = .ok (.ldc2_w 24, 3) := by decide +kernel
theorem d6_61 : decode method_3_code 61 = .ok (.land, 1) := by decide +kernel
theorem d6_62 : decode method_3_code 62 = .ok (.lstore 12, 2) := by decide +kernel
theorem d6_64 : decode method_3_code 64 = .ok (.lload 10, 2) := by decide +kernel
theorem d6_66 : decode method_3_code 66 = .ok (.lconst 0, 1) := by decide +kernel
theorem d6_67 : decode method_3_code 67 = .ok (.lcmp, 1) := by decide +kernel
theorem d6_68 : decode method_3_code 68 = .ok (.ifCond .le 9, 3) := by decide +kernel
theorem d6_71 : decode method_3_code 71 = .ok (.iconst 1, 1) := by decide +kernel
theorem d6_72 : decode method_3_code 72 = .ok (.istore 14, 2) := by decide +kernel
theorem d6_74 : decode method_3_code 74 = .ok (.goto 32, 3) := by decide +kernel
theorem d6_77 : decode method_3_code 77 = .ok (.lload 10, 2) := by decide +kernel
theorem d6_79 : decode method_3_code 79 = .ok (.lconst 0, 1) := by decide +kernel
theorem d6_80 : decode method_3_code 80 = .ok (.lcmp, 1) := by decide +kernel
theorem d6_81 : decode method_3_code 81 = .ok (.ifCond .ge 9, 3) := by decide +kernel
theorem d6_84 : decode method_3_code 84 = .ok (.iconst (-1), 1) := by decide +kernel
theorem d6_85 : decode method_3_code 85 = .ok (.istore 14, 2) := by decide +kernel
theorem d6_87 : decode method_3_code 87 = .ok (.goto 19, 3) := by decide +kernel
theorem d6_90 : decode method_3_code 90 = .ok (.lload 12, 2) := by decide +kernel
theorem d6_92 : decode method_3_code 92 = .ok (.lconst 0, 1) := by decide +kernel
theorem d6_93 : decode method_3_code 93 = .ok (.lcmp, 1) := by decide +kernel
theorem d6_94 : decode method_3_code 94 = .ok (.ifCond .eq 9, 3) := by decide +kernel
theorem d6_97 : decode method_3_code 97 = .ok (.iconst 1, 1) := by decide +kernel
theorem d6_98 : decode method_3_code 98 = .ok (.istore 14, 2) := by decide +kernel
theorem d6_100 : decode method_3_code 100 = .ok (.goto 6, 3) := by decide +kernel
theorem d6_103 : decode method_3_code 103 = .ok (.iconst 0, 1) := by decide +kernel
theorem d6_104 : decode method_3_code 104 = .ok (.istore 14, 2) := by decide +kernel
theorem d6_106 : decode method_3_code 106 = .ok (.iload 14, 2) := by decide +kernel
theorem d6_108 : decode method_3_code 108 = .ok (.ireturn, 1) := by decide +kernel
theorem pn_6 : plainName "com/example/multiparty/multiparty/ExactSumAddPinLaw" = true := by first | (simp [plainName, overriddenIn]; done) | decide +kernel
theorem ef_rm6 (m : MethodId) (x0 : Int64) (x1 : Int64) (x2 : Int64) (x3 : Int64) : entryFrame m #[(.long x0), (.long x1), (.long x2), (.long x3)] 15 = mkF m 0 #[.val (.long x0), .second, .val (.long x1), .second, .val (.long x2), .second, .val (.long x3), .second, .unset, .unset, .unset, .unset, .unset, .unset, .unset] [] := by first | (simp [entryFrame, mkF, argsToLocals, Value.category]; done) | rfl
def Q6 (Z : State) (qa : Int64) (qb : Int64) (qc : Int64) (qd : Int64) (h0 : Heap) (n0 : Nat) (v : Option Value) (h : Heap) (L : List Loc) : Prop := v = some (.int (own_sign qa qb qc qd)) ∧ Fr n0 L ∧ h = h0
set_option maxRecDepth 65536 in
set_option maxHeartbeats 40000000 in
theorem rm6 (l : Launch) (Z : State) (a0 : Array Value) (hw : ∀ d ∈ tables_1, d.before a0 Z = true) (ws : List Jvm.Cond) (qa : Int64) (qb : Int64) (qc : Int64) (qd : Int64) (h0 : Heap) (n0 : Nat) (Z0 : n0 ≤ h0.size) :
    MetFree l (⟨"com/example/multiparty/multiparty/ExactSumAddPinLaw", "sign", "(JJJJ)I"⟩ : MethodName) (head1 (Jvm.Cond.code (⟨"com/example/multiparty/multiparty/ExactSumAddPinLaw", "sign", "(JJJJ)I"⟩ : MethodName) method_3_code 15 (some .int) :: ws) ({ frames := 0, cells := 0, slots := 0, locals := 0 } : Room)) (fun a U => a = #[(.long qa), (.long qb), (.long qc), (.long qd)] ∧ Z.Warmed39 U.vm ∧ U.heap = h0) (fun _ _ _ _ _ => True) (fun _ U o U' => ∃ v L, o = .returned v ∧ Q6 Z qa qb qc qd h0 n0 v U'.heap L ∧ FrameEnd U o U' L ({ frames := 0, cells := 0, slots := 0, locals := 0 } : Room).cells ({ frames := 0, cells := 0, slots := 0, locals := 0 } : Room).slots) := by
  refine MetFree.of_bodySF (plainFor_of_name pn_6) hisR ?_
  intro p e s m args below meth c s₁ Bd hml0 hP hK
  obtain ⟨rfl, hZ, hh⟩ := hP
  have hx := Bd.exec
  have hby := Bd.bytes
  have hlk := BodyLoose.notSynchronized Bd
  have hret := Bd.returns
  have hml : c.maxLocals = 15 := hml0
  have hown : s.vm.findClass "com/example/multiparty/multiparty/ExactSumAddPinLaw" = some m.cls := findClass_of_methodNamed Bd.named
  have hnm := (name_of_methodNamed Bd.named Bd.method).1
  have X0 : Stand p l e ({ frames := 0, cells := 0, slots := 0, locals := 0 } : Room) s m #[(.long qa), (.long qb), (.long qc), (.long qd)] below meth c s₁ [] 0 0 := Stand.of_body Bd
  have e0 : s₁.heap = h0 := by rw [← hh, Bd.state]; rfl
  have N0 := Fr.nil n0
  have K0 : Keep h0 h0 [] := Keep.refl h0 _
  refine Fin.step (Q := fun v h L => Q6 Z qa qb qc qd h0 n0 v h L) (st' := s₁.setTop (mkF m 0 #[.val (.long qa), .second, .val (.long qb), .second, .val (.long qc), .second, .val (.long qd), .second, .unset, .unset, .unset, .unset, .unset, .unset, .unset] [])) (fun t k => castTop (ef_rm6 m qa qb qc qd) k) ?_
  show Fin p e below s _ _ _ (s₁.setTop (mkF m 0 #[.val (.long qa), .second, .val (.long qb), .second, .val (.long qc), .second, .val (.long qd), .second, .unset, .unset, .unset, .unset, .unset, .unset, .unset] []))
  refine Fin.step (fun _ => XS.lloadN X0.here hx rfl (hb hby d6_0) rfl) ?_
  show Fin p e below s _ _ _ (s₁.setTop (mkF m 1 #[.val (.long qa), .second, .val (.long qb), .second, .val (.long qc), .second, .val (.long qd), .second, .unset, .unset, .unset, .unset, .unset, .unset, .unset] [(.long qa)]))
  refine Fin.step (X0.ldc2Long hx hown (mvT hZ (hw _ (List.mem_of_getElem? (i := 31) rfl))) (g := (mkF m 1 #[.val (.long qa), .second, .val (.long qb), .second, .val (.long qc), .second, .val (.long qd), .second, .unset, .unset, .unset, .unset, .unset, .unset, .unset] [(.long qa)])) rfl (hb hby d6_1)) ?_
  show Fin p e below s _ _ _ (s₁.setTop (mkF m 4 #[.val (.long qa), .second, .val (.long qb), .second, .val (.long qc), .second, .val (.long qd), .second, .unset, .unset, .unset, .unset, .unset, .unset, .unset] [(.long (4294967295 : Int64)), (.long qa)]))
  refine Fin.step (fun _ => XS.land X0.here hx rfl (hb hby d6_4) rfl) ?_
  show Fin p e below s _ _ _ (s₁.setTop (mkF m 5 #[.val (.long qa), .second, .val (.long qb), .second, .val (.long qc), .second, .val (.long qd), .second, .unset, .unset, .unset, .unset, .unset, .unset, .unset] [(.long (qa &&& (4294967295 : Int64)))]))
  refine Fin.step (fun _ => XS.lloadN X0.here hx rfl (hb hby d6_5) rfl) ?_
  show Fin p e below s _ _ _ (s₁.setTop (mkF m 6 #[.val (.long qa), .second, .val (.long qb), .second, .val (.long qc), .second, .val (.long qd), .second, .unset, .unset, .unset, .unset, .unset, .unset, .unset] [(.long qb), (.long (qa &&& (4294967295 : Int64)))]))
  refine Fin.step (X0.ldc2Long hx hown (mvT hZ (hw _ (List.mem_of_getElem? (i := 31) rfl))) (g := (mkF m 6 #[.val (.long qa), .second, .val (.long qb), .second, .val (.long qc), .second, .val (.long qd), .second, .unset, .unset, .unset, .unset, .unset, .unset, .unset] [(.long qb), (.long (qa &&& (4294967295 : Int64)))])) rfl (hb hby d6_6)) ?_
  show Fin p e below s _ _ _ (s₁.setTop (mkF m 9 #[.val (.long qa), .second, .val (.long qb), .second, .val (.long qc), .second, .val (.long qd), .second, .unset, .unset, .unset, .unset, .unset, .unset, .unset] [(.long (4294967295 : Int64)), (.long qb), (.long (qa &&& (4294967295 : Int64)))]))
  refine Fin.step (fun _ => XS.land X0.here hx rfl (hb hby d6_9) rfl) ?_
  show Fin p e below s _ _ _ (s₁.setTop (mkF m 10 #[.val (.long qa), .second, .val (.long qb), .second, .val (.long qc), .second, .val (.long qd), .second, .unset, .unset, .unset, .unset, .unset, .unset, .unset] [(.long (qb &&& (4294967295 : Int64))), (.long (qa &&& (4294967295 : Int64)))]))
  refine Fin.step (fun _ => XS.ladd X0.here hx rfl (hb hby d6_10) rfl) ?_
  show Fin p e below s _ _ _ (s₁.setTop (mkF m 11 #[.val (.long qa), .second, .val (.long qb), .second, .val (.long qc), .second, .val (.long qd), .second, .unset, .unset, .unset, .unset, .unset, .unset, .unset] [(.long ((qa &&& (4294967295 : Int64)) + (qb &&& (4294967295 : Int64))))]))
  refine Fin.step (fun _ => XS.lload X0.here hx rfl (hb hby d6_11) rfl) ?_
  show Fin p e below s _ _ _ (s₁.setTop (mkF m 13 #[.val (.long qa), .second, .val (.long qb), .second, .val (.long qc), .second, .val (.long qd), .second, .unset, .unset, .unset, .unset, .unset, .unset, .unset] [(.long qc), (.long ((qa &&& (4294967295 : Int64)) + (qb &&& (4294967295 : Int64))))]))
  refine Fin.step (X0.ldc2Long hx hown (mvT hZ (hw _ (List.mem_of_getElem? (i := 31) rfl))) (g := (mkF m 13 #[.val (.long qa), .second, .val (.long qb), .second, .val (.long qc), .second, .val (.long qd), .second, .unset, .unset, .unset, .unset, .unset, .unset, .unset] [(.long qc), (.long ((qa &&& (4294967295 : Int64)) + (qb &&& (4294967295 : Int64))))])) rfl (hb hby d6_13)) ?_
  show Fin p e below s _ _ _ (s₁.setTop (mkF m 16 #[.val (.long qa), .second, .val (.long qb), .second, .val (.long qc), .second, .val (.long qd), .second, .unset, .unset, .unset, .unset, .unset, .unset, .unset] [(.long (4294967295 : Int64)), (.long qc), (.long ((qa &&& (4294967295 : Int64)) + (qb &&& (4294967295 : Int64))))]))
  refine Fin.step (fun _ => XS.land X0.here hx rfl (hb hby d6_16) rfl) ?_
  show Fin p e below s _ _ _ (s₁.setTop (mkF m 17 #[.val (.long qa), .second, .val (.long qb), .second, .val (.long qc), .second, .val (.long qd), .second, .unset, .unset, .unset, .unset, .unset, .unset, .unset] [(.long (qc &&& (4294967295 : Int64))), (.long ((qa &&& (4294967295 : Int64)) + (qb &&& (4294967295 : Int64))))]))
  refine Fin.step (fun _ => XS.ladd X0.here hx rfl (hb hby d6_17) rfl) ?_
  show Fin p e below s _ _ _ (s₁.setTop (mkF m 18 #[.val (.long qa), .second, .val (.long qb), .second, .val (.long qc), .second, .val (.long qd), .second, .unset, .unset, .unset, .unset, .unset, .unset, .unset] [(.long (((qa &&& (4294967295 : Int64)) + (qb &&& (4294967295 : Int64))) + (qc &&& (4294967295 : Int64))))]))
  refine Fin.step (fun _ => XS.lload X0.here hx rfl (hb hby d6_18) rfl) ?_
  show Fin p e below s _ _ _ (s₁.setTop (mkF m 20 #[.val (.long qa), .second, .val (.long qb), .second, .val (.long qc), .second, .val (.long qd), .second, .unset, .unset, .unset, .unset, .unset, .unset, .unset] [(.long qd), (.long (((qa &&& (4294967295 : Int64)) + (qb &&& (4294967295 : Int64))) + (qc &&& (4294967295 : Int64))))]))
  refine Fin.step (X0.ldc2Long hx hown (mvT hZ (hw _ (List.mem_of_getElem? (i := 31) rfl))) (g := (mkF m 20 #[.val (.long qa), .second, .val (.long qb), .second, .val (.long qc), .second, .val (.long qd), .second, .unset, .unset, .unset, .unset, .unset, .unset, .unset] [(.long qd), (.long (((qa &&& (4294967295 : Int64)) + (qb &&& (4294967295 : Int64))) + (qc &&& (4294967295 : Int64))))])) rfl (hb hby d6_20)) ?_
  show Fin p e below s _ _ _ (s₁.setTop (mkF m 23 #[.val (.long qa), .second, .val (.long qb), .second, .val (.long qc), .second, .val (.long qd), .second, .unset, .unset, .unset, .unset, .unset, .unset, .unset] [(.long (4294967295 : Int64)), (.long qd), (.long (((qa &&& (4294967295 : Int64)) + (qb &&& (4294967295 : Int64))) + (qc &&& (4294967295 : Int64))))]))
  refine Fin.step (fun _ => XS.land X0.here hx rfl (hb hby d6_23) rfl) ?_
  show Fin p e below s _ _ _ (s₁.setTop (mkF m 24 #[.val (.long qa), .second, .val (.long qb), .second, .val (.long qc), .second, .val (.long qd), .second, .unset, .unset, .unset, .unset, .unset, .unset, .unset] [(.long (qd &&& (4294967295 : Int64))), (.long (((qa &&& (4294967295 : Int64)) + (qb &&& (4294967295 : Int64))) + (qc &&& (4294967295 : Int64))))]))
  refine Fin.step (fun _ => XS.ladd X0.here hx rfl (hb hby d6_24) rfl) ?_
  show Fin p e below s _ _ _ (s₁.setTop (mkF m 25 #[.val (.long qa), .second, .val (.long qb), .second, .val (.long qc), .second, .val (.long qd), .second, .unset, .unset, .unset, .unset, .unset, .unset, .unset] [(.long ((((qa &&& (4294967295 : Int64)) + (qb &&& (4294967295 : Int64))) + (qc &&& (4294967295 : Int64))) + (qd &&& (4294967295 : Int64))))]))
  refine Fin.step (fun _ => XS.lstore X0.here hx rfl (hb hby d6_25) rfl (l' := #[.val (.long qa), .second, .val (.long qb), .second, .val (.long qc), .second, .val (.long qd), .second, .val (.long ((((qa &&& (4294967295 : Int64)) + (qb &&& (4294967295 : Int64))) + (qc &&& (4294967295 : Int64))) + (qd &&& (4294967295 : Int64)))), .second, .unset, .unset, .unset, .unset, .unset]) rfl) ?_
  show Fin p e below s _ _ _ (s₁.setTop (mkF m 27 #[.val (.long qa), .second, .val (.long qb), .second, .val (.long qc), .second, .val (.long qd), .second, .val (.long ((((qa &&& (4294967295 : Int64)) + (qb &&& (4294967295 : Int64))) + (qc &&& (4294967295 : Int64))) + (qd &&& (4294967295 : Int64)))), .second, .unset, .unset, .unset, .unset, .unset] []))
  show Fin p e below s _ _ _ (s₁.setTop (mkF m 27 #[.val (.long qa), .second, .val (.long qb), .second, .val (.long qc), .second, .val (.long qd), .second, .val (.long (own_low qa qb qc qd)), .second, .unset, .unset, .unset, .unset, .unset] []))
  refine Fin.step (fun _ => XS.lloadN X0.here hx rfl (hb hby d6_27) rfl) ?_
  show Fin p e below s _ _ _ (s₁.setTop (mkF m 28 #[.val (.long qa), .second, .val (.long qb), .second, .val (.long qc), .second, .val (.long qd), .second, .val (.long (own_low qa qb qc qd)), .second, .unset, .unset, .unset, .unset, .unset] [(.long qa)]))
  refine Fin.step (fun _ => XS.bipush X0.here hx rfl (hb hby d6_28)) ?_
  show Fin p e below s _ _ _ (s₁.setTop (mkF m 30 #[.val (.long qa), .second, .val (.long qb), .second, .val (.long qc), .second, .val (.long qd), .second, .val (.long (own_low qa qb qc qd)), .second, .unset, .unset, .unset, .unset, .unset] [(.int (32 : Int32)), (.long qa)]))
  refine Fin.step (fun _ => XS.lshr X0.here hx rfl (hb hby d6_30) rfl) ?_
  show Fin p e below s _ _ _ (s₁.setTop (mkF m 31 #[.val (.long qa), .second, .val (.long qb), .second, .val (.long qc), .second, .val (.long qd), .second, .val (.long (own_low qa qb qc qd)), .second, .unset, .unset, .unset, .unset, .unset] [(.long (qa >>> ((32 : Int32) &&& 0x3f).toInt64))]))
  refine Fin.step (fun _ => XS.lloadN X0.here hx rfl (hb hby d6_31) rfl) ?_
  show Fin p e below s _ _ _ (s₁.setTop (mkF m 32 #[.val (.long qa), .second, .val (.long qb), .second, .val (.long qc), .second, .val (.long qd), .second, .val (.long (own_low qa qb qc qd)), .second, .unset, .unset, .unset, .unset, .unset] [(.long qb), (.long (qa >>> ((32 : Int32) &&& 0x3f).toInt64))]))
  refine Fin.step (fun _ => XS.bipush X0.here hx rfl (hb hby d6_32)) ?_
  show Fin p e below s _ _ _ (s₁.setTop (mkF m 34 #[.val (.long qa), .second, .val (.long qb), .second, .val (.long qc), .second, .val (.long qd), .second, .val (.long (own_low qa qb qc qd)), .second, .unset, .unset, .unset, .unset, .unset] [(.int (32 : Int32)), (.long qb), (.long (qa >>> ((32 : Int32) &&& 0x3f).toInt64))]))
  refine Fin.step (fun _ => XS.lshr X0.here hx rfl (hb hby d6_34) rfl) ?_
  show Fin p e below s _ _ _ (s₁.setTop (mkF m 35 #[.val (.long qa), .second, .val (.long qb), .second, .val (.long qc), .second, .val (.long qd), .second, .val (.long (own_low qa qb qc qd)), .second, .unset, .unset, .unset, .unset, .unset] [(.long (qb >>> ((32 : Int32) &&& 0x3f).toInt64)), (.long (qa >>> ((32 : Int32) &&& 0x3f).toInt64))]))
  refine Fin.step (fun _ => XS.ladd X0.here hx rfl (hb hby d6_35) rfl) ?_
  show Fin p e below s _ _ _ (s₁.setTop (mkF m 36 #[.val (.long qa), .second, .val (.long qb), .second, .val (.long qc), .second, .val (.long qd), .second, .val (.long (own_low qa qb qc qd)), .second, .unset, .unset, .unset, .unset, .unset] [(.long ((qa >>> ((32 : Int32) &&& 0x3f).toInt64) + (qb >>> ((32 : Int32) &&& 0x3f).toInt64)))]))
  refine Fin.step (fun _ => XS.lload X0.here hx rfl (hb hby d6_36) rfl) ?_
  show Fin p e below s _ _ _ (s₁.setTop (mkF m 38 #[.val (.long qa), .second, .val (.long qb), .second, .val (.long qc), .second, .val (.long qd), .second, .val (.long (own_low qa qb qc qd)), .second, .unset, .unset, .unset, .unset, .unset] [(.long qc), (.long ((qa >>> ((32 : Int32) &&& 0x3f).toInt64) + (qb >>> ((32 : Int32) &&& 0x3f).toInt64)))]))
  refine Fin.step (fun _ => XS.bipush X0.here hx rfl (hb hby d6_38)) ?_
  show Fin p e below s _ _ _ (s₁.setTop (mkF m 40 #[.val (.long qa), .second, .val (.long qb), .second, .val (.long qc), .second, .val (.long qd), .second, .val (.long (own_low qa qb qc qd)), .second, .unset, .unset, .unset, .unset, .unset] [(.int (32 : Int32)), (.long qc), (.long ((qa >>> ((32 : Int32) &&& 0x3f).toInt64) + (qb >>> ((32 : Int32) &&& 0x3f).toInt64)))]))
  refine Fin.step (fun _ => XS.lshr X0.here hx rfl (hb hby d6_40) rfl) ?_
  show Fin p e below s _ _ _ (s₁.setTop (mkF m 41 #[.val (.long qa), .second, .val (.long qb), .second, .val (.long qc), .second, .val (.long qd), .second, .val (.long (own_low qa qb qc qd)), .second, .unset, .unset, .unset, .unset, .unset] [(.long (qc >>> ((32 : Int32) &&& 0x3f).toInt64)), (.long ((qa >>> ((32 : Int32) &&& 0x3f).toInt64) + (qb >>> ((32 : Int32) &&& 0x3f).toInt64)))]))
  refine Fin.step (fun _ => XS.ladd X0.here hx rfl (hb hby d6_41) rfl) ?_
  show Fin p e below s _ _ _ (s₁.setTop (mkF m 42 #[.val (.long qa), .second, .val (.long qb), .second, .val (.long qc), .second, .val (.long qd), .second, .val (.long (own_low qa qb qc qd)), .second, .unset, .unset, .unset, .unset, .unset] [(.long (((qa >>> ((32 : Int32) &&& 0x3f).toInt64) + (qb >>> ((32 : Int32) &&& 0x3f).toInt64)) + (qc >>> ((32 : Int32) &&& 0x3f).toInt64)))]))
  refine Fin.step (fun _ => XS.lload X0.here hx rfl (hb hby d6_42) rfl) ?_
  show Fin p e below s _ _ _ (s₁.setTop (mkF m 44 #[.val (.long qa), .second, .val (.long qb), .second, .val (.long qc), .second, .val (.long qd), .second, .val (.long (own_low qa qb qc qd)), .second, .unset, .unset, .unset, .unset, .unset] [(.long qd), (.long (((qa >>> ((32 : Int32) &&& 0x3f).toInt64) + (qb >>> ((32 : Int32) &&& 0x3f).toInt64)) + (qc >>> ((32 : Int32) &&& 0x3f).toInt64)))]))
  refine Fin.step (fun _ => XS.bipush X0.here hx rfl (hb hby d6_44)) ?_
  show Fin p e below s _ _ _ (s₁.setTop (mkF m 46 #[.val (.long qa), .second, .val (.long qb), .second, .val (.long qc), .second, .val (.long qd), .second, .val (.long (own_low qa qb qc qd)), .second, .unset, .unset, .unset, .unset, .unset] [(.int (32 : Int32)), (.long qd), (.long (((qa >>> ((32 : Int32) &&& 0x3f).toInt64) + (qb >>> ((32 : Int32) &&& 0x3f).toInt64)) + (qc >>> ((32 : Int32) &&& 0x3f).toInt64)))]))
  refine Fin.step (fun _ => XS.lshr X0.here hx rfl (hb hby d6_46) rfl) ?_
  show Fin p e below s _ _ _ (s₁.setTop (mkF m 47 #[.val (.long qa), .second, .val (.long qb), .second, .val (.long qc), .second, .val (.long qd), .second, .val (.long (own_low qa qb qc qd)), .second, .unset, .unset, .unset, .unset, .unset] [(.long (qd >>> ((32 : Int32) &&& 0x3f).toInt64)), (.long (((qa >>> ((32 : Int32) &&& 0x3f).toInt64) + (qb >>> ((32 : Int32) &&& 0x3f).toInt64)) + (qc >>> ((32 : Int32) &&& 0x3f).toInt64)))]))
  refine Fin.step (fun _ => XS.ladd X0.here hx rfl (hb hby d6_47) rfl) ?_
  show Fin p e below s _ _ _ (s₁.setTop (mkF m 48 #[.val (.long qa), .second, .val (.long qb), .second, .val (.long qc), .second, .val (.long qd), .second, .val (.long (own_low qa qb qc qd)), .second, .unset, .unset, .unset, .unset, .unset] [(.long ((((qa >>> ((32 : Int32) &&& 0x3f).toInt64) + (qb >>> ((32 : Int32) &&& 0x3f).toInt64)) + (qc >>> ((32 : Int32) &&& 0x3f).toInt64)) + (qd >>> ((32 : Int32) &&& 0x3f).toInt64)))]))
  refine Fin.step (fun _ => XS.lload X0.here hx rfl (hb hby d6_48) rfl) ?_
  show Fin p e below s _ _ _ (s₁.setTop (mkF m 50 #[.val (.long qa), .second, .val (.long qb), .second, .val (.long qc), .second, .val (.long qd), .second, .val (.long (own_low qa qb qc qd)), .second, .unset, .unset, .unset, .unset, .unset] [(.long (own_low qa qb qc qd)), (.long ((((qa >>> ((32 : Int32) &&& 0x3f).toInt64) + (qb >>> ((32 : Int32) &&& 0x3f).toInt64)) + (qc >>> ((32 : Int32) &&& 0x3f).toInt64)) + (qd >>> ((32 : Int32) &&& 0x3f).toInt64)))]))
  refine Fin.step (fun _ => XS.bipush X0.here hx rfl (hb hby d6_50)) ?_
  show Fin p e below s _ _ _ (s₁.setTop (mkF m 52 #[.val (.long qa), .second, .val (.long qb), .second, .val (.long qc), .second, .val (.long qd), .second, .val (.long (own_low qa qb qc qd)), .second, .unset, .unset, .unset, .unset, .unset] [(.int (32 : Int32)), (.long (own_low qa qb qc qd)), (.long ((((qa >>> ((32 : Int32) &&& 0x3f).toInt64) + (qb >>> ((32 : Int32) &&& 0x3f).toInt64)) + (qc >>> ((32 : Int32) &&& 0x3f).toInt64)) + (qd >>> ((32 : Int32) &&& 0x3f).toInt64)))]))
  refine Fin.step (fun _ => XS.lushr X0.here hx rfl (hb hby d6_52) rfl) ?_
  show Fin p e below s _ _ _ (s₁.setTop (mkF m 53 #[.val (.long qa), .second, .val (.long qb), .second, .val (.long qc), .second, .val (.long qd), .second, .val (.long (own_low qa qb qc qd)), .second, .unset, .unset, .unset, .unset, .unset] [(.long (ushL (own_low qa qb qc qd) (32 : Int32))), (.long ((((qa >>> ((32 : Int32) &&& 0x3f).toInt64) + (qb >>> ((32 : Int32) &&& 0x3f).toInt64)) + (qc >>> ((32 : Int32) &&& 0x3f).toInt64)) + (qd >>> ((32 : Int32) &&& 0x3f).toInt64)))]))
  refine Fin.step (fun _ => XS.ladd X0.here hx rfl (hb hby d6_53) rfl) ?_
  show Fin p e below s _ _ _ (s₁.setTop (mkF m 54 #[.val (.long qa), .second, .val (.long qb), .second, .val (.long qc), .second, .val (.long qd), .second, .val (.long (own_low qa qb qc qd)), .second, .unset, .unset, .unset, .unset, .unset] [(.long (((((qa >>> ((32 : Int32) &&& 0x3f).toInt64) + (qb >>> ((32 : Int32) &&& 0x3f).toInt64)) + (qc >>> ((32 : Int32) &&& 0x3f).toInt64)) + (qd >>> ((32 : Int32) &&& 0x3f).toInt64)) + (ushL (own_low qa qb qc qd) (32 : Int32))))]))
  refine Fin.step (fun _ => XS.lstore X0.here hx rfl (hb hby d6_54) rfl (l' := #[.val (.long qa), .second, .val (.long qb), .second, .val (.long qc), .second, .val (.long qd), .second, .val (.long (own_low qa qb qc qd)), .second, .val (.long (((((qa >>> ((32 : Int32) &&& 0x3f).toInt64) + (qb >>> ((32 : Int32) &&& 0x3f).toInt64)) + (qc >>> ((32 : Int32) &&& 0x3f).toInt64)) + (qd >>> ((32 : Int32) &&& 0x3f).toInt64)) + (ushL (own_low qa qb qc qd) (32 : Int32)))), .second, .unset, .unset, .unset]) rfl) ?_
  show Fin p e below s _ _ _ (s₁.setTop (mkF m 56 #[.val (.long qa), .second, .val (.long qb), .second, .val (.long qc), .second, .val (.long qd), .second, .val (.long (own_low qa qb qc qd)), .second, .val (.long (((((qa >>> ((32 : Int32) &&& 0x3f).toInt64) + (qb >>> ((32 : Int32) &&& 0x3f).toInt64)) + (qc >>> ((32 : Int32) &&& 0x3f).toInt64)) + (qd >>> ((32 : Int32) &&& 0x3f).toInt64)) + (ushL (own_low qa qb qc qd) (32 : Int32)))), .second, .unset, .unset, .unset] []))
  show Fin p e below s _ _ _ (s₁.setTop (mkF m 56 #[.val (.long qa), .second, .val (.long qb), .second, .val (.long qc), .second, .val (.long qd), .second, .val (.long (own_low qa qb qc qd)), .second, .val (.long (own_hgh qa qb qc qd)), .second, .unset, .unset, .unset] []))
  refine Fin.step (fun _ => XS.lload X0.here hx rfl (hb hby d6_56) rfl) ?_
  show Fin p e below s _ _ _ (s₁.setTop (mkF m 58 #[.val (.long qa), .second, .val (.long qb), .second, .val (.long qc), .second, .val (.long qd), .second, .val (.long (own_low qa qb qc qd)), .second, .val (.long (own_hgh qa qb qc qd)), .second, .unset, .unset, .unset] [(.long (own_low qa qb qc qd))]))
  refine Fin.step (X0.ldc2Long hx hown (mvT hZ (hw _ (List.mem_of_getElem? (i := 31) rfl))) (g := (mkF m 58 #[.val (.long qa), .second, .val (.long qb), .second, .val (.long qc), .second, .val (.long qd), .second, .val (.long (own_low qa qb qc qd)), .second, .val (.long (own_hgh qa qb qc qd)), .second, .unset, .unset, .unset] [(.long (own_low qa qb qc qd))])) rfl (hb hby d6_58)) ?_
  show Fin p e below s _ _ _ (s₁.setTop (mkF m 61 #[.val (.long qa), .second, .val (.long qb), .second, .val (.long qc), .second, .val (.long qd), .second, .val (.long (own_low qa qb qc qd)), .second, .val (.long (own_hgh qa qb qc qd)), .second, .unset, .unset, .unset] [(.long (4294967295 : Int64)), (.long (own_low qa qb qc qd))]))
  refine Fin.step (fun _ => XS.land X0.here hx rfl (hb hby d6_61) rfl) ?_
  show Fin p e below s _ _ _ (s₁.setTop (mkF m 62 #[.val (.long qa), .second, .val (.long qb), .second, .val (.long qc), .second, .val (.long qd), .second, .val (.long (own_low qa qb qc qd)), .second, .val (.long (own_hgh qa qb qc qd)), .second, .unset, .unset, .unset] [(.long ((own_low qa qb qc qd) &&& (4294967295 : Int64)))]))
  refine Fin.step (fun _ => XS.lstore X0.here hx rfl (hb hby d6_62) rfl (l' := #[.val (.long qa), .second, .val (.long qb), .second, .val (.long qc), .second, .val (.long qd), .second, .val (.long (own_low qa qb qc qd)), .second, .val (.long (own_hgh qa qb qc qd)), .second, .val (.long ((own_low qa qb qc qd) &&& (4294967295 : Int64))), .second, .unset]) rfl) ?_
  show Fin p e below s _ _ _ (s₁.setTop (mkF m 64 #[.val (.long qa), .second, .val (.long qb), .second, .val (.long qc), .second, .val (.long qd), .second, .val (.long (own_low qa qb qc qd)), .second, .val (.long (own_hgh qa qb qc qd)), .second, .val (.long ((own_low qa qb qc qd) &&& (4294967295 : Int64))), .second, .unset] []))
  refine Fin.step (fun _ => XS.lload X0.here hx rfl (hb hby d6_64) rfl) ?_
  show Fin p e below s _ _ _ (s₁.setTop (mkF m 66 #[.val (.long qa), .second, .val (.long qb), .second, .val (.long qc), .second, .val (.long qd), .second, .val (.long (own_low qa qb qc qd)), .second, .val (.long (own_hgh qa qb qc qd)), .second, .val (.long ((own_low qa qb qc qd) &&& (4294967295 : Int64))), .second, .unset] [(.long (own_hgh qa qb qc qd))]))
  refine Fin.step (fun _ => XS.lconst X0.here hx rfl (hb hby d6_66)) ?_
  show Fin p e below s _ _ _ (s₁.setTop (mkF m 67 #[.val (.long qa), .second, .val (.long qb), .second, .val (.long qc), .second, .val (.long qd), .second, .val (.long (own_low qa qb qc qd)), .second, .val (.long (own_hgh qa qb qc qd)), .second, .val (.long ((own_low qa qb qc qd) &&& (4294967295 : Int64))), .second, .unset] [(.long (0 : Int64)), (.long (own_hgh qa qb qc qd))]))
  refine Fin.step (fun _ => XS.lcmp X0.here hx rfl (hb hby d6_67) rfl) ?_
  show Fin p e below s _ _ _ (s₁.setTop (mkF m 68 #[.val (.long qa), .second, .val (.long qb), .second, .val (.long qc), .second, .val (.long qd), .second, .val (.long (own_low qa qb qc qd)), .second, .val (.long (own_hgh qa qb qc qd)), .second, .val (.long ((own_low qa qb qc qd) &&& (4294967295 : Int64))), .second, .unset] [(.int (lcmpW (own_hgh qa qb qc qd) (0 : Int64)))]))
  by_cases hcy1 : (0 : Int64) < (own_hgh qa qb qc qd)
  · refine Fin.step (fun _ => XS.ifNo X0.here hx rfl (hb hby d6_68) rfl ((if0 _ _).trans (tlt ((lcG hcy1) : ((0 : Int32) < (lcmpW (own_hgh qa qb qc qd) (0 : Int64))))).2.2.2)) ?_
    show Fin p e below s _ _ _ (s₁.setTop (mkF m 71 #[.val (.long qa), .second, .val (.long qb), .second, .val (.long qc), .second, .val (.long qd), .second, .val (.long (own_low qa qb qc qd)), .second, .val (.long (own_hgh qa qb qc qd)), .second, .val (.long ((own_low qa qb qc qd) &&& (4294967295 : Int64))), .second, .unset] []))
    refine Fin.step (fun _ => XS.iconst X0.here hx rfl (hb hby d6_71)) ?_
    show Fin p e below s _ _ _ (s₁.setTop (mkF m 72 #[.val (.long qa), .second, .val (.long qb), .second, .val (.long qc), .second, .val (.long qd), .second, .val (.long (own_low qa qb qc qd)), .second, .val (.long (own_hgh qa qb qc qd)), .second, .val (.long ((own_low qa qb qc qd) &&& (4294967295 : Int64))), .second, .unset] [(.int (1 : Int32))]))
    refine Fin.step (fun _ => XS.istore X0.here hx rfl (hb hby d6_72) rfl (l' := #[.val (.long qa), .second, .val (.long qb), .second, .val (.long qc), .second, .val (.long qd), .second, .val (.long (own_low qa qb qc qd)), .second, .val (.long (own_hgh qa qb qc qd)), .second, .val (.long ((own_low qa qb qc qd) &&& (4294967295 : Int64))), .second, .val (.int (1 : Int32))]) rfl) ?_
    show Fin p e below s _ _ _ (s₁.setTop (mkF m 74 #[.val (.long qa), .second, .val (.long qb), .second, .val (.long qc), .second, .val (.long qd), .second, .val (.long (own_low qa qb qc qd)), .second, .val (.long (own_hgh qa qb qc qd)), .second, .val (.long ((own_low qa qb qc qd) &&& (4294967295 : Int64))), .second, .val (.int (1 : Int32))] []))
    refine Fin.step (fun _ => XS.goto X0.here hx rfl (pc0 := 74) (pc' := 106) rfl (hb hby d6_74) (by decide) (by decide)) ?_
    show Fin p e below s _ _ _ (s₁.setTop (mkF m 106 #[.val (.long qa), .second, .val (.long qb), .second, .val (.long qc), .second, .val (.long qd), .second, .val (.long (own_low qa qb qc qd)), .second, .val (.long (own_hgh qa qb qc qd)), .second, .val (.long ((own_low qa qb qc qd) &&& (4294967295 : Int64))), .second, .val (.int (1 : Int32))] []))
    refine Fin.step (fun _ => XS.iload X0.here hx rfl (hb hby d6_106) rfl) ?_
    show Fin p e below s _ _ _ (s₁.setTop (mkF m 108 #[.val (.long qa), .second, .val (.long qb), .second, .val (.long qc), .second, .val (.long qd), .second, .val (.long (own_low qa qb qc qd)), .second, .val (.long (own_hgh qa qb qc qd)), .second, .val (.long ((own_low qa qb qc qd) &&& (4294967295 : Int64))), .second, .val (.int (1 : Int32))] [(.int (1 : Int32))]))
    refine Fin.retI X0 hx hret hlk (hb hby d6_108) (by decide) (by decide) ?_
    show Q6 Z qa qb qc qd h0 n0 _ s₁.heap _
    rw [e0]
    exact ⟨(congrArg (fun z => some (Value.int z)) (by simp [own_sign, hcy1]; try first | done | rfl | decide)), N0, rfl⟩
  · refine Fin.step (fun _ => XS.ifYes X0.here hx rfl (pc0 := 68) (pc' := 77) rfl (hb hby d6_68) rfl ((if0 _ _).trans (flt ((lcNG hcy1) : ¬ ((0 : Int32) < (lcmpW (own_hgh qa qb qc qd) (0 : Int64))))).2.2.2) (by decide) (by decide)) ?_
    show Fin p e below s _ _ _ (s₁.setTop (mkF m 77 #[.val (.long qa), .second, .val (.long qb), .second, .val (.long qc), .second, .val (.long qd), .second, .val (.long (own_low qa qb qc qd)), .second, .val (.long (own_hgh qa qb qc qd)), .second, .val (.long ((own_low qa qb qc qd) &&& (4294967295 : Int64))), .second, .unset] []))
    refine Fin.step (fun _ => XS.lload X0.here hx rfl (hb hby d6_77) rfl) ?_
    show Fin p e below s _ _ _ (s₁.setTop (mkF m 79 #[.val (.long qa), .second, .val (.long qb), .second, .val (.long qc), .second, .val (.long qd), .second, .val (.long (own_low qa qb qc qd)), .second, .val (.long (own_hgh qa qb qc qd)), .second, .val (.long ((own_low qa qb qc qd) &&& (4294967295 : Int64))), .second, .unset] [(.long (own_hgh qa qb qc qd))]))
    refine Fin.step (fun _ => XS.lconst X0.here hx rfl (hb hby d6_79)) ?_
    show Fin p e below s _ _ _ (s₁.setTop (mkF m 80 #[.val (.long qa), .second, .val (.long qb), .second, .val (.long qc), .second, .val (.long qd), .second, .val (.long (own_low qa qb qc qd)), .second, .val (.long (own_hgh qa qb qc qd)), .second, .val (.long ((own_low qa qb qc qd) &&& (4294967295 : Int64))), .second, .unset] [(.long (0 : Int64)), (.long (own_hgh qa qb qc qd))]))
    refine Fin.step (fun _ => XS.lcmp X0.here hx rfl (hb hby d6_80) rfl) ?_
    show Fin p e below s _ _ _ (s₁.setTop (mkF m 81 #[.val (.long qa), .second, .val (.long qb), .second, .val (.long qc), .second, .val (.long qd), .second, .val (.long (own_low qa qb qc qd)), .second, .val (.long (own_hgh qa qb qc qd)), .second, .val (.long ((own_low qa qb qc qd) &&& (4294967295 : Int64))), .second, .unset] [(.int (lcmpW (own_hgh qa qb qc qd) (0 : Int64)))]))
    by_cases hcy2 : (own_hgh qa qb qc qd) < (0 : Int64)
    · refine Fin.step (fun _ => XS.ifNo X0.here hx rfl (hb hby d6_81) rfl ((if0 _ _).trans (tlt ((lcL hcy2) : ((lcmpW (own_hgh qa qb qc qd) (0 : Int64)) < (0 : Int32)))).2.1)) ?_
      show Fin p e below s _ _ _ (s₁.setTop (mkF m 84 #[.val (.long qa), .second, .val (.long qb), .second, .val (.long qc), .second, .val (.long qd), .second, .val (.long (own_low qa qb qc qd)), .second, .val (.long (own_hgh qa qb qc qd)), .second, .val (.long ((own_low qa qb qc qd) &&& (4294967295 : Int64))), .second, .unset] []))
      refine Fin.step (fun _ => XS.iconst X0.here hx rfl (hb hby d6_84)) ?_
      show Fin p e below s _ _ _ (s₁.setTop (mkF m 85 #[.val (.long qa), .second, .val (.long qb), .second, .val (.long qc), .second, .val (.long qd), .second, .val (.long (own_low qa qb qc qd)), .second, .val (.long (own_hgh qa qb qc qd)), .second, .val (.long ((own_low qa qb qc qd) &&& (4294967295 : Int64))), .second, .unset] [(.int (-1 : Int32))]))
      refine Fin.step (fun _ => XS.istore X0.here hx rfl (hb hby d6_85) rfl (l' := #[.val (.long qa), .second, .val (.long qb), .second, .val (.long qc), .second, .val (.long qd), .second, .val (.long (own_low qa qb qc qd)), .second, .val (.long (own_hgh qa qb qc qd)), .second, .val (.long ((own_low qa qb qc qd) &&& (4294967295 : Int64))), .second, .val (.int (-1 : Int32))]) rfl) ?_
      show Fin p e below s _ _ _ (s₁.setTop (mkF m 87 #[.val (.long qa), .second, .val (.long qb), .second, .val (.long qc), .second, .val (.long qd), .second, .val (.long (own_low qa qb qc qd)), .second, .val (.long (own_hgh qa qb qc qd)), .second, .val (.long ((own_low qa qb qc qd) &&& (4294967295 : Int64))), .second, .val (.int (-1 : Int32))] []))
      refine Fin.step (fun _ => XS.goto X0.here hx rfl (pc0 := 87) (pc' := 106) rfl (hb hby d6_87) (by decide) (by decide)) ?_
      show Fin p e below s _ _ _ (s₁.setTop (mkF m 106 #[.val (.long qa), .second, .val (.long qb), .second, .val (.long qc), .second, .val (.long qd), .second, .val (.long (own_low qa qb qc qd)), .second, .val (.long (own_hgh qa qb qc qd)), .second, .val (.long ((own_low qa qb qc qd) &&& (4294967295 : Int64))), .second, .val (.int (-1 : Int32))] []))
      refine Fin.step (fun _ => XS.iload X0.here hx rfl (hb hby d6_106) rfl) ?_
      show Fin p e below s _ _ _ (s₁.setTop (mkF m 108 #[.val (.long qa), .second, .val (.long qb), .second, .val (.long qc), .second, .val (.long qd), .second, .val (.long (own_low qa qb qc qd)), .second, .val (.long (own_hgh qa qb qc qd)), .second, .val (.long ((own_low qa qb qc qd) &&& (4294967295 : Int64))), .second, .val (.int (-1 : Int32))] [(.int (-1 : Int32))]))
      refine Fin.retI X0 hx hret hlk (hb hby d6_108) (by decide) (by decide) ?_
      show Q6 Z qa qb qc qd h0 n0 _ s₁.heap _
      rw [e0]
      exact ⟨(congrArg (fun z => some (Value.int z)) (by simp [own_sign, hcy1, hcy2]; try first | done | rfl | decide)), N0, rfl⟩
    · refine Fin.step (fun _ => XS.ifYes X0.here hx rfl (pc0 := 81) (pc' := 90) rfl (hb hby d6_81) rfl ((if0 _ _).trans (flt ((lcNL hcy2) : ¬ ((lcmpW (own_hgh qa qb qc qd) (0 : Int64)) < (0 : Int32)))).2.1) (by decide) (by decide)) ?_
      show Fin p e below s _ _ _ (s₁.setTop (mkF m 90 #[.val (.long qa), .second, .val (.long qb), .second, .val (.long qc), .second, .val (.long qd), .second, .val (.long (own_low qa qb qc qd)), .second, .val (.long (own_hgh qa qb qc qd)), .second, .val (.long ((own_low qa qb qc qd) &&& (4294967295 : Int64))), .second, .unset] []))
      refine Fin.step (fun _ => XS.lload X0.here hx rfl (hb hby d6_90) rfl) ?_
      show Fin p e below s _ _ _ (s₁.setTop (mkF m 92 #[.val (.long qa), .second, .val (.long qb), .second, .val (.long qc), .second, .val (.long qd), .second, .val (.long (own_low qa qb qc qd)), .second, .val (.long (own_hgh qa qb qc qd)), .second, .val (.long ((own_low qa qb qc qd) &&& (4294967295 : Int64))), .second, .unset] [(.long ((own_low qa qb qc qd) &&& (4294967295 : Int64)))]))
      refine Fin.step (fun _ => XS.lconst X0.here hx rfl (hb hby d6_92)) ?_
      show Fin p e below s _ _ _ (s₁.setTop (mkF m 93 #[.val (.long qa), .second, .val (.long qb), .second, .val (.long qc), .second, .val (.long qd), .second, .val (.long (own_low qa qb qc qd)), .second, .val (.long (own_hgh qa qb qc qd)), .second, .val (.long ((own_low qa qb qc qd) &&& (4294967295 : Int64))), .second, .unset] [(.long (0 : Int64)), (.long ((own_low qa qb qc qd) &&& (4294967295 : Int64)))]))
      refine Fin.step (fun _ => XS.lcmp X0.here hx rfl (hb hby d6_93) rfl) ?_
      show Fin p e below s _ _ _ (s₁.setTop (mkF m 94 #[.val (.long qa), .second, .val (.long qb), .second, .val (.long qc), .second, .val (.long qd), .second, .val (.long (own_low qa qb qc qd)), .second, .val (.long (own_hgh qa qb qc qd)), .second, .val (.long ((own_low qa qb qc qd) &&& (4294967295 : Int64))), .second, .unset] [(.int (lcmpW ((own_low qa qb qc qd) &&& (4294967295 : Int64)) (0 : Int64)))]))
      by_cases hcy3 : ((own_low qa qb qc qd) &&& (4294967295 : Int64)) = (0 : Int64)
      · refine Fin.step (fun _ => XS.ifYes X0.here hx rfl (pc0 := 94) (pc' := 103) rfl (hb hby d6_94) rfl ((if0 _ _).trans (teq ((lcE hcy3) : ((lcmpW ((own_low qa qb qc qd) &&& (4294967295 : Int64)) (0 : Int64)) = (0 : Int32)))).1) (by decide) (by decide)) ?_
        show Fin p e below s _ _ _ (s₁.setTop (mkF m 103 #[.val (.long qa), .second, .val (.long qb), .second, .val (.long qc), .second, .val (.long qd), .second, .val (.long (own_low qa qb qc qd)), .second, .val (.long (own_hgh qa qb qc qd)), .second, .val (.long ((own_low qa qb qc qd) &&& (4294967295 : Int64))), .second, .unset] []))
        refine Fin.step (fun _ => XS.iconst X0.here hx rfl (hb hby d6_103)) ?_
        show Fin p e below s _ _ _ (s₁.setTop (mkF m 104 #[.val (.long qa), .second, .val (.long qb), .second, .val (.long qc), .second, .val (.long qd), .second, .val (.long (own_low qa qb qc qd)), .second, .val (.long (own_hgh qa qb qc qd)), .second, .val (.long ((own_low qa qb qc qd) &&& (4294967295 : Int64))), .second, .unset] [(.int (0 : Int32))]))
        refine Fin.step (fun _ => XS.istore X0.here hx rfl (hb hby d6_104) rfl (l' := #[.val (.long qa), .second, .val (.long qb), .second, .val (.long qc), .second, .val (.long qd), .second, .val (.long (own_low qa qb qc qd)), .second, .val (.long (own_hgh qa qb qc qd)), .second, .val (.long ((own_low qa qb qc qd) &&& (4294967295 : Int64))), .second, .val (.int (0 : Int32))]) rfl) ?_
        show Fin p e below s _ _ _ (s₁.setTop (mkF m 106 #[.val (.long qa), .second, .val (.long qb), .second, .val (.long qc), .second, .val (.long qd), .second, .val (.long (own_low qa qb qc qd)), .second, .val (.long (own_hgh qa qb qc qd)), .second, .val (.long ((own_low qa qb qc qd) &&& (4294967295 : Int64))), .second, .val (.int (0 : Int32))] []))
        refine Fin.step (fun _ => XS.iload X0.here hx rfl (hb hby d6_106) rfl) ?_
        show Fin p e below s _ _ _ (s₁.setTop (mkF m 108 #[.val (.long qa), .second, .val (.long qb), .second, .val (.long qc), .second, .val (.long qd), .second, .val (.long (own_low qa qb qc qd)), .second, .val (.long (own_hgh qa qb qc qd)), .second, .val (.long ((own_low qa qb qc qd) &&& (4294967295 : Int64))), .second, .val (.int (0 : Int32))] [(.int (0 : Int32))]))
        refine Fin.retI X0 hx hret hlk (hb hby d6_108) (by decide) (by decide) ?_
        show Q6 Z qa qb qc qd h0 n0 _ s₁.heap _
        rw [e0]
        exact ⟨(congrArg (fun z => some (Value.int z)) (by simp [own_sign, hcy1, hcy2, hcy3]; try first | done | rfl | decide)), N0, rfl⟩
      · refine Fin.step (fun _ => XS.ifNo X0.here hx rfl (hb hby d6_94) rfl ((if0 _ _).trans (feq ((lcNE hcy3) : ¬ ((lcmpW ((own_low qa qb qc qd) &&& (4294967295 : Int64)) (0 : Int64)) = (0 : Int32)))).1)) ?_
        show Fin p e below s _ _ _ (s₁.setTop (mkF m 97 #[.val (.long qa), .second, .val (.long qb), .second, .val (.long qc), .second, .val (.long qd), .second, .val (.long (own_low qa qb qc qd)), .second, .val (.long (own_hgh qa qb qc qd)), .second, .val (.long ((own_low qa qb qc qd) &&& (4294967295 : Int64))), .second, .unset] []))
        refine Fin.step (fun _ => XS.iconst X0.here hx rfl (hb hby d6_97)) ?_
        show Fin p e below s _ _ _ (s₁.setTop (mkF m 98 #[.val (.long qa), .second, .val (.long qb), .second, .val (.long qc), .second, .val (.long qd), .second, .val (.long (own_low qa qb qc qd)), .second, .val (.long (own_hgh qa qb qc qd)), .second, .val (.long ((own_low qa qb qc qd) &&& (4294967295 : Int64))), .second, .unset] [(.int (1 : Int32))]))
        refine Fin.step (fun _ => XS.istore X0.here hx rfl (hb hby d6_98) rfl (l' := #[.val (.long qa), .second, .val (.long qb), .second, .val (.long qc), .second, .val (.long qd), .second, .val (.long (own_low qa qb qc qd)), .second, .val (.long (own_hgh qa qb qc qd)), .second, .val (.long ((own_low qa qb qc qd) &&& (4294967295 : Int64))), .second, .val (.int (1 : Int32))]) rfl) ?_
        show Fin p e below s _ _ _ (s₁.setTop (mkF m 100 #[.val (.long qa), .second, .val (.long qb), .second, .val (.long qc), .second, .val (.long qd), .second, .val (.long (own_low qa qb qc qd)), .second, .val (.long (own_hgh qa qb qc qd)), .second, .val (.long ((own_low qa qb qc qd) &&& (4294967295 : Int64))), .second, .val (.int (1 : Int32))] []))
        refine Fin.step (fun _ => XS.goto X0.here hx rfl (pc0 := 100) (pc' := 106) rfl (hb hby d6_100) (by decide) (by decide)) ?_
        show Fin p e below s _ _ _ (s₁.setTop (mkF m 106 #[.val (.long qa), .second, .val (.long qb), .second, .val (.long qc), .second, .val (.long qd), .second, .val (.long (own_low qa qb qc qd)), .second, .val (.long (own_hgh qa qb qc qd)), .second, .val (.long ((own_low qa qb qc qd) &&& (4294967295 : Int64))), .second, .val (.int (1 : Int32))] []))
        refine Fin.step (fun _ => XS.iload X0.here hx rfl (hb hby d6_106) rfl) ?_
        show Fin p e below s _ _ _ (s₁.setTop (mkF m 108 #[.val (.long qa), .second, .val (.long qb), .second, .val (.long qc), .second, .val (.long qd), .second, .val (.long (own_low qa qb qc qd)), .second, .val (.long (own_hgh qa qb qc qd)), .second, .val (.long ((own_low qa qb qc qd) &&& (4294967295 : Int64))), .second, .val (.int (1 : Int32))] [(.int (1 : Int32))]))
        refine Fin.retI X0 hx hret hlk (hb hby d6_108) (by decide) (by decide) ?_
        show Q6 Z qa qb qc qd h0 n0 _ s₁.heap _
        rw [e0]
        exact ⟨(congrArg (fun z => some (Value.int z)) (by simp [own_sign, hcy1, hcy2, hcy3]; try first | done | rfl | decide)), N0, rfl⟩
theorem pn_0 : plainName "com/example/multiparty/multiparty/ExactSumAddPinLaw" = true := by first | (simp [plainName, overriddenIn]; done) | decide +kernel
theorem pd_1 : parseMethodDescriptor "()V" = some ⟨[], none⟩ := by decide +kernel
theorem pd_2 : parseMethodDescriptor "()I" = some ⟨[], some .int⟩ := by decide +kernel
theorem pd_3 : parseMethodDescriptor "(J)V" = some ⟨[.long], none⟩ := by decide +kernel
theorem pd_4 : parseMethodDescriptor "(JJJJ)I" = some ⟨[.long, .long, .long, .long], some .int⟩ := by decide +kernel
theorem ef_rm0 (m : MethodId) (x0 : Int64) (x1 : Int64) (x2 : Int64) (x3 : Int64) : entryFrame m #[(.long x0), (.long x1), (.long x2), (.long x3)] maxLocals = mkF m 0 #[.val (.long x0), .second, .val (.long x1), .second, .val (.long x2), .second, .val (.long x3), .second, .unset, .unset] [] := by first | (simp [entryFrame, mkF, argsToLocals, Value.category, maxLocals]; done) | rfl
def Q0 (Z : State) (qa : Int64) (qb : Int64) (qc : Int64) (qd : Int64) (h0 : Heap) (n0 : Nat) (v : Option Value) (h : Heap) (L : List Loc) : Prop := v = some (.int (1 : Int32)) ∧ Fr n0 L ∧ Keep h0 h []
set_option maxRecDepth 65536 in
set_option maxHeartbeats 40000000 in
theorem rm0 (l : Launch) (Z : State) (a0 : Array Value) (hw : ∀ d ∈ tables_1, d.before a0 Z = true) (ws : List Jvm.Cond) (qa : Int64) (qb : Int64) (qc : Int64) (qd : Int64) (h0 : Heap) (n0 : Nat) (Z0 : n0 ≤ h0.size) :
    MetFree l x (head1 (Jvm.Cond.code x code maxLocals ret :: ws) room_1) (fun a U => a = #[(.long qa), (.long qb), (.long qc), (.long qd)] ∧ Z.Warmed39 U.vm ∧ U.heap = h0) (fun _ _ _ _ _ => True) (fun _ U o U' => ∃ v L, o = .returned v ∧ Q0 Z qa qb qc qd h0 n0 v U'.heap L ∧ FrameEnd U o U' L room_1.cells room_1.slots) := by
  refine MetFree.of_bodySF (plainFor_of_name pn_0) hisR ?_
  intro p e s m args below meth c s₁ Bd hml0 hP hK
  obtain ⟨rfl, hZ, hh⟩ := hP
  have hx := Bd.exec
  have hby := Bd.bytes
  have hlk := BodyLoose.notSynchronized Bd
  have hret := Bd.returns
  have hml : c.maxLocals = 10 := hml0
  have hown : s.vm.findClass "com/example/multiparty/multiparty/ExactSumAddPinLaw" = some m.cls := findClass_of_methodNamed Bd.named
  have hnm := (name_of_methodNamed Bd.named Bd.method).1
  have X0 : Stand p l e room_1 s m #[(.long qa), (.long qb), (.long qc), (.long qd)] below meth c s₁ [] 0 0 := Stand.of_body Bd
  have e0 : s₁.heap = h0 := by rw [← hh, Bd.state]; rfl
  have N0 := Fr.nil n0
  have K0 : Keep h0 h0 [] := Keep.refl h0 _
  refine Fin.step (Q := fun v h L => Q0 Z qa qb qc qd h0 n0 v h L) (st' := s₁.setTop (mkF m 0 #[.val (.long qa), .second, .val (.long qb), .second, .val (.long qc), .second, .val (.long qd), .second, .unset, .unset] [])) (fun t k => castTop (ef_rm0 m qa qb qc qd) k) ?_
  show Fin p e below s _ _ _ (s₁.setTop (mkF m 0 #[.val (.long qa), .second, .val (.long qb), .second, .val (.long qc), .second, .val (.long qd), .second, .unset, .unset] []))
  obtain ⟨Ty1, hy1, Xy1, ey1, Ey1, Ay1, Dy1, -, sty1⟩ := newO X0 hx hZ hown (hw _ (List.mem_of_getElem? (i := 0) rfl)) (hw _ (List.mem_of_getElem? (i := 1) rfl)) (hw _ (List.mem_of_getElem? (i := 2) rfl)) e0 (g := (mkF m 0 #[.val (.long qa), .second, .val (.long qb), .second, .val (.long qc), .second, .val (.long qd), .second, .unset, .unset] [])) rfl (hb hby at_0) (by decide) (by decide)
  obtain ⟨by1, gy1⟩ : ∃ z, z = h0.size := ⟨_, rfl⟩
  rw [← gy1] at Ay1 Dy1 sty1
  have gzy1 : n0 ≤ by1 := Nat.le_trans Z0 (Nat.le_of_eq gy1.symm)
  have szy1 : h0.size ≤ by1 := Nat.le_trans K0.1 (Nat.le_of_eq gy1.symm)
  have Zy1 : n0 ≤ hy1.size := Nat.le_trans Z0 Ey1.1
  have Ky1 : Keep h0 hy1 [] := K0.ext Ey1
  have F_high_by1 : Fld Z hy1 by1 "com/example/multiparty/multiparty/ExactSum" "high" "J" (.long (0 : Int64)) := Dy1 (Or.inl (hw _ (List.mem_of_getElem? (i := 15) rfl))) (ty := .long) (by decide)
  have F_low_by1 : Fld Z hy1 by1 "com/example/multiparty/multiparty/ExactSum" "low" "J" (.long (0 : Int64)) := Dy1 (Or.inl (hw _ (List.mem_of_getElem? (i := 17) rfl))) (ty := .long) (by decide)
  refine Fin.step (sty1) ?_
  show Fin p e below s _ _ _ (Ty1.setTop (mkF m 3 #[.val (.long qa), .second, .val (.long qb), .second, .val (.long qc), .second, .val (.long qd), .second, .unset, .unset] [(.ref by1)]))
  refine Fin.step (fun _ => XS.dup Xy1.here hx rfl (hb hby at_3) rfl rfl) ?_
  show Fin p e below s _ _ _ (Ty1.setTop (mkF m 4 #[.val (.long qa), .second, .val (.long qb), .second, .val (.long qc), .second, .val (.long qd), .second, .unset, .unset] [(.ref by1), (.ref by1)]))
  obtain ⟨_, _, ⟨Ty2, Ly2, ky2, ny2⟩, -, Xy2, ⟨Lcy2, hQy2, ly2, yy2, zy2⟩, sty2⟩ := Xy1.specialBack hx (y := (⟨"com/example/multiparty/multiparty/ExactSum", "<init>", "()V"⟩ : MethodName)) rfl hown (mvT hZ (hw _ (List.mem_of_getElem? (i := 3) rfl))) (mvT hZ (hw _ (List.mem_of_getElem? (i := 4) rfl))) (mvT hZ (hw _ (List.mem_of_getElem? (i := 5) rfl))) (by decide) (backOf (W := 1) (rm1 l Z a0 hw [] by1 hy1 n0 Zy1 ) hZ (hw _ (List.mem_of_getElem? (i := 5) rfl)) (hw _ (List.mem_of_getElem? (i := 2) rfl)) (by decide) (by decide)) (g := (mkF m 4 #[.val (.long qa), .second, .val (.long qb), .second, .val (.long qc), .second, .val (.long qd), .second, .unset, .unset] [(.ref by1), (.ref by1)])) rfl (by rw [hml]; rfl) (Steps.refl _) (a := by1) (argsL := []) (rest := [(.ref by1)]) (lenOf pd_1 rfl) rfl (by show 2 * 0 + _ ≤ _; exact Nat.le_of_eq rfl) (hb hby at_4) (fun _ _ => ⟨rfl, ey1, (by decide : 1 + 0 ≤ _), (by decide : 2 + 0 ≤ _)⟩)
  dsimp only [Pt.U, Pt.locs, Pt.cells, Pt.slots] at Xy2 ly2 yy2 zy2 sty2 hQy2
  subst ly2 yy2 zy2
  obtain ⟨rfl, Nqy2, eqy2⟩ := hQy2
  have Ny2 := Fr.app N0 Nqy2
  refine Fin.step (fun _ k => sty2.trans k) ?_
  show Fin p e below s _ _ _ (Ty2.setTop (mkF m 7 #[.val (.long qa), .second, .val (.long qb), .second, .val (.long qc), .second, .val (.long qd), .second, .unset, .unset] [(.ref by1)]))
  refine Fin.step (fun _ => XS.astore Xy2.here hx rfl (hb hby at_7) rfl rfl (l' := #[.val (.long qa), .second, .val (.long qb), .second, .val (.long qc), .second, .val (.long qd), .second, .val (.ref by1), .unset]) rfl) ?_
  show Fin p e below s _ _ _ (Ty2.setTop (mkF m 9 #[.val (.long qa), .second, .val (.long qb), .second, .val (.long qc), .second, .val (.long qd), .second, .val (.ref by1), .unset] []))
  refine Fin.step (fun _ => XS.aload Xy2.here hx rfl (hb hby at_9) rfl rfl) ?_
  show Fin p e below s _ _ _ (Ty2.setTop (mkF m 11 #[.val (.long qa), .second, .val (.long qb), .second, .val (.long qc), .second, .val (.long qd), .second, .val (.ref by1), .unset] [(.ref by1)]))
  obtain ⟨cqy3, kqy3, qy3a, qy3b, qy3c⟩ := isOf hZ eqy2 Ay1
  obtain ⟨_, _, ⟨Ty3, Ly3, ky3, ny3⟩, -, Xy3, ⟨Lcy3, hQy3, ly3, yy3, zy3⟩, sty3⟩ := Xy2.virtualBack hx (y := (⟨"com/example/multiparty/multiparty/ExactSum", "signum", "()I"⟩ : MethodName)) (z := (⟨"com/example/multiparty/multiparty/ExactSum", "signum", "()I"⟩ : MethodName)) hown (mvT hZ (hw _ (List.mem_of_getElem? (i := 9) rfl))) (mvT hZ (hw _ (List.mem_of_getElem? (i := 10) rfl))) (notFace_of_selects (args := #[]) (mvT hZ (hw _ (List.mem_of_getElem? (i := 12) rfl)))) (mvT hZ (hw _ (List.mem_of_getElem? (i := 12) rfl))) (mvT hZ (hw _ (List.mem_of_getElem? (i := 11) rfl))) (by decide) (backOf (W := 0) (rm3 l Z a0 hw [] by1 (0 : Int64) (0 : Int64) hy1 n0 Zy1 F_high_by1 F_low_by1) hZ (hw _ (List.mem_of_getElem? (i := 13) rfl)) (hw _ (List.mem_of_getElem? (i := 2) rfl)) (by decide) (by decide)) qy3a qy3c (g := (mkF m 11 #[.val (.long qa), .second, .val (.long qb), .second, .val (.long qc), .second, .val (.long qd), .second, .val (.ref by1), .unset] [(.ref by1)])) rfl (by rw [hml]; rfl) (Steps.refl _) (argsL := []) (rest := []) (lenOf pd_2 rfl) rfl (by show 2 * 0 + _ ≤ _; exact Nat.le_of_eq rfl) (hb hby at_11) (fun _ _ => ⟨rfl, eqy2, (by decide : 1 + 0 ≤ _), (by decide : 2 + 0 ≤ _)⟩)
  dsimp only [Pt.U, Pt.locs, Pt.cells, Pt.slots] at Xy3 ly3 yy3 zy3 sty3 hQy3
  subst ly3 yy3 zy3
  obtain ⟨rfl, Nqy3, eqy3⟩ := hQy3
  have Ny3 := Fr.app Ny2 Nqy3
  refine Fin.step (fun _ k => sty3.trans k) ?_
  show Fin p e below s _ _ _ (Ty3.setTop (mkF m 14 #[.val (.long qa), .second, .val (.long qb), .second, .val (.long qc), .second, .val (.long qd), .second, .val (.ref by1), .unset] [(.int (own_signum (0 : Int64) (0 : Int64)))]))
  refine Fin.step (fun _ => XS.ifNo Xy3.here hx rfl (hb hby at_14) rfl ((if0 _ _).trans (teq (own_t0 : ((own_signum (0 : Int64) (0 : Int64)) = (0 : Int32)))).2)) ?_
  show Fin p e below s _ _ _ (Ty3.setTop (mkF m 17 #[.val (.long qa), .second, .val (.long qb), .second, .val (.long qc), .second, .val (.long qd), .second, .val (.ref by1), .unset] []))
  refine Fin.step (fun _ => XS.iconst Xy3.here hx rfl (hb hby at_17)) ?_
  show Fin p e below s _ _ _ (Ty3.setTop (mkF m 18 #[.val (.long qa), .second, .val (.long qb), .second, .val (.long qc), .second, .val (.long qd), .second, .val (.ref by1), .unset] [(.int (1 : Int32))]))
  refine Fin.step (fun _ => XS.goto Xy3.here hx rfl (pc0 := 18) (pc' := 22) rfl (hb hby at_18) (by decide) (by decide)) ?_
  show Fin p e below s _ _ _ (Ty3.setTop (mkF m 22 #[.val (.long qa), .second, .val (.long qb), .second, .val (.long qc), .second, .val (.long qd), .second, .val (.ref by1), .unset] [(.int (1 : Int32))]))
  refine Fin.step (fun _ => XS.istore Xy3.here hx rfl (hb hby at_22) rfl (l' := #[.val (.long qa), .second, .val (.long qb), .second, .val (.long qc), .second, .val (.long qd), .second, .val (.ref by1), .val (.int (1 : Int32))]) rfl) ?_
  show Fin p e below s _ _ _ (Ty3.setTop (mkF m 24 #[.val (.long qa), .second, .val (.long qb), .second, .val (.long qc), .second, .val (.long qd), .second, .val (.ref by1), .val (.int (1 : Int32))] []))
  refine Fin.step (fun _ => XS.aload Xy3.here hx rfl (hb hby at_24) rfl rfl) ?_
  show Fin p e below s _ _ _ (Ty3.setTop (mkF m 26 #[.val (.long qa), .second, .val (.long qb), .second, .val (.long qc), .second, .val (.long qd), .second, .val (.ref by1), .val (.int (1 : Int32))] [(.ref by1)]))
  refine Fin.step (fun _ => XS.lloadN Xy3.here hx rfl (hb hby at_26) rfl) ?_
  show Fin p e below s _ _ _ (Ty3.setTop (mkF m 27 #[.val (.long qa), .second, .val (.long qb), .second, .val (.long qc), .second, .val (.long qd), .second, .val (.ref by1), .val (.int (1 : Int32))] [(.long qa), (.ref by1)]))
  obtain ⟨cqy4, kqy4, qy4a, qy4b, qy4c⟩ := isOf hZ eqy3 Ay1
  obtain ⟨_, _, ⟨Ty4, Ly4, ky4, ny4⟩, -, Xy4, ⟨Lcy4, hQy4, ly4, yy4, zy4⟩, sty4⟩ := Xy3.virtualBack hx (y := (⟨"com/example/multiparty/multiparty/ExactSum", "add", "(J)V"⟩ : MethodName)) (z := (⟨"com/example/multiparty/multiparty/ExactSum", "add", "(J)V"⟩ : MethodName)) hown (mvT hZ (hw _ (List.mem_of_getElem? (i := 22) rfl))) (mvT hZ (hw _ (List.mem_of_getElem? (i := 23) rfl))) (notFace_of_selects (args := #[]) (mvT hZ (hw _ (List.mem_of_getElem? (i := 25) rfl)))) (mvT hZ (hw _ (List.mem_of_getElem? (i := 25) rfl))) (mvT hZ (hw _ (List.mem_of_getElem? (i := 24) rfl))) (by decide) (backOf (W := 0) (rm5 l Z a0 hw [] by1 qa (0 : Int64) (0 : Int64) hy1 n0 Zy1 Ay1 F_high_by1 F_low_by1 gzy1) hZ (hw _ (List.mem_of_getElem? (i := 26) rfl)) (hw _ (List.mem_of_getElem? (i := 2) rfl)) (by decide) (by decide)) qy4a qy4c (g := (mkF m 27 #[.val (.long qa), .second, .val (.long qb), .second, .val (.long qc), .second, .val (.long qd), .second, .val (.ref by1), .val (.int (1 : Int32))] [(.long qa), (.ref by1)])) rfl (by rw [hml]; rfl) (Steps.refl _) (argsL := [(.long qa)]) (rest := []) (lenOf pd_3 rfl) rfl (by show 2 * 0 + _ ≤ _; exact Nat.le_of_eq rfl) (hb hby at_27) (fun _ _ => ⟨rfl, eqy3, (by decide : 1 + 0 ≤ _), (by decide : 2 + 0 ≤ _)⟩)
  dsimp only [Pt.U, Pt.locs, Pt.cells, Pt.slots] at Xy4 ly4 yy4 zy4 sty4 hQy4
  subst ly4 yy4 zy4
  obtain ⟨rfl, Nqy4, Kcy4, fy4_0, fy4_1⟩ := hQy4
  have Ny4 := Fr.app Ny3 Nqy4
  have Zy4 : n0 ≤ Ty4.heap.size := Nat.le_trans Zy1 Kcy4.1
  have Ky4 : Keep h0 Ty4.heap [] := Ky1.trans Kcy4 (allS (Or.inr szy1) all0)
  refine Fin.step (fun _ k => sty4.trans k) ?_
  show Fin p e below s _ _ _ (Ty4.setTop (mkF m 30 #[.val (.long qa), .second, .val (.long qb), .second, .val (.long qc), .second, .val (.long qd), .second, .val (.ref by1), .val (.int (1 : Int32))] []))
  refine Fin.step (fun _ => XS.iload Xy4.here hx rfl (hb hby at_30) rfl) ?_
  show Fin p e below s _ _ _ (Ty4.setTop (mkF m 32 #[.val (.long qa), .second, .val (.long qb), .second, .val (.long qc), .second, .val (.long qd), .second, .val (.ref by1), .val (.int (1 : Int32))] [(.int (1 : Int32))]))
  refine Fin.step (fun _ => XS.ifNo Xy4.here hx rfl (hb hby at_32) rfl ((if0 _ _).trans (feq ((by decide) : ¬ ((1 : Int32) = (0 : Int32)))).1)) ?_
  show Fin p e below s _ _ _ (Ty4.setTop (mkF m 35 #[.val (.long qa), .second, .val (.long qb), .second, .val (.long qc), .second, .val (.long qd), .second, .val (.ref by1), .val (.int (1 : Int32))] []))
  refine Fin.step (fun _ => XS.aload Xy4.here hx rfl (hb hby at_35) rfl rfl) ?_
  show Fin p e below s _ _ _ (Ty4.setTop (mkF m 37 #[.val (.long qa), .second, .val (.long qb), .second, .val (.long qc), .second, .val (.long qd), .second, .val (.ref by1), .val (.int (1 : Int32))] [(.ref by1)]))
  obtain ⟨cqy5, kqy5, qy5a, qy5b, qy5c⟩ := isOf hZ rfl (Ay1.keep Kcy4)
  obtain ⟨_, _, ⟨Ty5, Ly5, ky5, ny5⟩, -, Xy5, ⟨Lcy5, hQy5, ly5, yy5, zy5⟩, sty5⟩ := Xy4.virtualBack hx (y := (⟨"com/example/multiparty/multiparty/ExactSum", "signum", "()I"⟩ : MethodName)) (z := (⟨"com/example/multiparty/multiparty/ExactSum", "signum", "()I"⟩ : MethodName)) hown (mvT hZ (hw _ (List.mem_of_getElem? (i := 9) rfl))) (mvT hZ (hw _ (List.mem_of_getElem? (i := 10) rfl))) (notFace_of_selects (args := #[]) (mvT hZ (hw _ (List.mem_of_getElem? (i := 12) rfl)))) (mvT hZ (hw _ (List.mem_of_getElem? (i := 12) rfl))) (mvT hZ (hw _ (List.mem_of_getElem? (i := 11) rfl))) (by decide) (backOf (W := 0) (rm3 l Z a0 hw [] by1 (own_hi (0 : Int64) (0 : Int64) qa) ((0 : Int64) + qa) Ty4.heap n0 Zy4 fy4_0 fy4_1) hZ (hw _ (List.mem_of_getElem? (i := 13) rfl)) (hw _ (List.mem_of_getElem? (i := 2) rfl)) (by decide) (by decide)) qy5a qy5c (g := (mkF m 37 #[.val (.long qa), .second, .val (.long qb), .second, .val (.long qc), .second, .val (.long qd), .second, .val (.ref by1), .val (.int (1 : Int32))] [(.ref by1)])) rfl (by rw [hml]; rfl) (Steps.refl _) (argsL := []) (rest := []) (lenOf pd_2 rfl) rfl (by show 2 * 0 + _ ≤ _; exact Nat.le_of_eq rfl) (hb hby at_37) (fun _ _ => ⟨rfl, rfl, (by decide : 1 + 0 ≤ _), (by decide : 2 + 0 ≤ _)⟩)
  dsimp only [Pt.U, Pt.locs, Pt.cells, Pt.slots] at Xy5 ly5 yy5 zy5 sty5 hQy5
  subst ly5 yy5 zy5
  obtain ⟨rfl, Nqy5, eqy5⟩ := hQy5
  have Ny5 := Fr.app Ny4 Nqy5
  refine Fin.step (fun _ k => sty5.trans k) ?_
  show Fin p e below s _ _ _ (Ty5.setTop (mkF m 40 #[.val (.long qa), .second, .val (.long qb), .second, .val (.long qc), .second, .val (.long qd), .second, .val (.ref by1), .val (.int (1 : Int32))] [(.int (own_signum (own_hi (0 : Int64) (0 : Int64) qa) ((0 : Int64) + qa)))]))
  refine Fin.step (fun _ => XS.lloadN Xy5.here hx rfl (hb hby at_40) rfl) ?_
  show Fin p e below s _ _ _ (Ty5.setTop (mkF m 41 #[.val (.long qa), .second, .val (.long qb), .second, .val (.long qc), .second, .val (.long qd), .second, .val (.ref by1), .val (.int (1 : Int32))] [(.long qa), (.int (own_signum (own_hi (0 : Int64) (0 : Int64) qa) ((0 : Int64) + qa)))]))
  refine Fin.step (fun _ => XS.lconst Xy5.here hx rfl (hb hby at_41)) ?_
  show Fin p e below s _ _ _ (Ty5.setTop (mkF m 42 #[.val (.long qa), .second, .val (.long qb), .second, .val (.long qc), .second, .val (.long qd), .second, .val (.ref by1), .val (.int (1 : Int32))] [(.long (0 : Int64)), (.long qa), (.int (own_signum (own_hi (0 : Int64) (0 : Int64) qa) ((0 : Int64) + qa)))]))
  refine Fin.step (fun _ => XS.lconst Xy5.here hx rfl (hb hby at_42)) ?_
  show Fin p e below s _ _ _ (Ty5.setTop (mkF m 43 #[.val (.long qa), .second, .val (.long qb), .second, .val (.long qc), .second, .val (.long qd), .second, .val (.ref by1), .val (.int (1 : Int32))] [(.long (0 : Int64)), (.long (0 : Int64)), (.long qa), (.int (own_signum (own_hi (0 : Int64) (0 : Int64) qa) ((0 : Int64) + qa)))]))
  refine Fin.step (fun _ => XS.lconst Xy5.here hx rfl (hb hby at_43)) ?_
  show Fin p e below s _ _ _ (Ty5.setTop (mkF m 44 #[.val (.long qa), .second, .val (.long qb), .second, .val (.long qc), .second, .val (.long qd), .second, .val (.ref by1), .val (.int (1 : Int32))] [(.long (0 : Int64)), (.long (0 : Int64)), (.long (0 : Int64)), (.long qa), (.int (own_signum (own_hi (0 : Int64) (0 : Int64) qa) ((0 : Int64) + qa)))]))
  obtain ⟨_, _, ⟨Ty6, Ly6, ky6, ny6⟩, -, Xy6, ⟨Lcy6, hQy6, ly6, yy6, zy6⟩, sty6⟩ := Jvm.LawKit.callS Xy5 hx (y := (⟨"com/example/multiparty/multiparty/ExactSumAddPinLaw", "sign", "(JJJJ)I"⟩ : MethodName)) hown (mvT hZ (hw _ (List.mem_of_getElem? (i := 27) rfl))) (mvT hZ (hw _ (List.mem_of_getElem? (i := 28) rfl))) (mvT hZ (hw _ (List.mem_of_getElem? (i := 29) rfl))) (mvT hZ (hw _ (List.mem_of_getElem? (i := 30) rfl))) (by decide) (backOf (W := 1) (rm6 l Z a0 hw [] qa (0 : Int64) (0 : Int64) (0 : Int64) Ty4.heap n0 Zy4 ) hZ (hw _ (List.mem_of_getElem? (i := 30) rfl)) (hw _ (List.mem_of_getElem? (i := 29) rfl)) (by decide) (by decide)) (g := (mkF m 44 #[.val (.long qa), .second, .val (.long qb), .second, .val (.long qc), .second, .val (.long qd), .second, .val (.ref by1), .val (.int (1 : Int32))] [(.long (0 : Int64)), (.long (0 : Int64)), (.long (0 : Int64)), (.long qa), (.int (own_signum (own_hi (0 : Int64) (0 : Int64) qa) ((0 : Int64) + qa)))])) rfl (by rw [hml]; rfl) (argsL := [(.long qa), (.long (0 : Int64)), (.long (0 : Int64)), (.long (0 : Int64))]) (rest := [(.int (own_signum (own_hi (0 : Int64) (0 : Int64) qa) ((0 : Int64) + qa)))]) (lenOf pd_4 rfl) rfl (by show 2 * 0 + _ ≤ _; exact Nat.le_of_eq rfl) (hb hby at_44) (fun _ _ => ⟨rfl, eqy5, (by decide : 1 + 0 ≤ _), (by decide : 2 + 0 ≤ _)⟩)
  dsimp only [Pt.U, Pt.locs, Pt.cells, Pt.slots] at Xy6 ly6 yy6 zy6 sty6 hQy6
  subst ly6 yy6 zy6
  obtain ⟨rfl, Nqy6, eqy6⟩ := hQy6
  have Ny6 := Fr.app Ny5 Nqy6
  refine Fin.step (sty6) ?_
  show Fin p e below s _ _ _ (Ty6.setTop (mkF m 47 #[.val (.long qa), .second, .val (.long qb), .second, .val (.long qc), .second, .val (.long qd), .second, .val (.ref by1), .val (.int (1 : Int32))] [(.int (own_sign qa (0 : Int64) (0 : Int64) (0 : Int64))), (.int (own_signum (own_hi (0 : Int64) (0 : Int64) qa) ((0 : Int64) + qa)))]))
  refine Fin.step (fun _ => XS.icmpNo Xy6.here hx rfl (hb hby at_47) rfl (teq ((own_t1 qa) : ((own_signum (own_hi (0 : Int64) (0 : Int64) qa) ((0 : Int64) + qa)) = (own_sign qa (0 : Int64) (0 : Int64) (0 : Int64))))).2) ?_
  show Fin p e below s _ _ _ (Ty6.setTop (mkF m 50 #[.val (.long qa), .second, .val (.long qb), .second, .val (.long qc), .second, .val (.long qd), .second, .val (.ref by1), .val (.int (1 : Int32))] []))
  refine Fin.step (fun _ => XS.iconst Xy6.here hx rfl (hb hby at_50)) ?_
  show Fin p e below s _ _ _ (Ty6.setTop (mkF m 51 #[.val (.long qa), .second, .val (.long qb), .second, .val (.long qc), .second, .val (.long qd), .second, .val (.ref by1), .val (.int (1 : Int32))] [(.int (1 : Int32))]))
  refine Fin.step (fun _ => XS.goto Xy6.here hx rfl (pc0 := 51) (pc' := 55) rfl (hb hby at_51) (by decide) (by decide)) ?_
  show Fin p e below s _ _ _ (Ty6.setTop (mkF m 55 #[.val (.long qa), .second, .val (.long qb), .second, .val (.long qc), .second, .val (.long qd), .second, .val (.ref by1), .val (.int (1 : Int32))] [(.int (1 : Int32))]))
  refine Fin.step (fun _ => XS.istore Xy6.here hx rfl (hb hby at_55) rfl (l' := #[.val (.long qa), .second, .val (.long qb), .second, .val (.long qc), .second, .val (.long qd), .second, .val (.ref by1), .val (.int (1 : Int32))]) rfl) ?_
  show Fin p e below s _ _ _ (Ty6.setTop (mkF m 57 #[.val (.long qa), .second, .val (.long qb), .second, .val (.long qc), .second, .val (.long qd), .second, .val (.ref by1), .val (.int (1 : Int32))] []))
  refine Fin.step (fun _ => XS.aload Xy6.here hx rfl (hb hby at_57) rfl rfl) ?_
  show Fin p e below s _ _ _ (Ty6.setTop (mkF m 59 #[.val (.long qa), .second, .val (.long qb), .second, .val (.long qc), .second, .val (.long qd), .second, .val (.ref by1), .val (.int (1 : Int32))] [(.ref by1)]))
  refine Fin.step (fun _ => XS.lloadN Xy6.here hx rfl (hb hby at_59) rfl) ?_
  show Fin p e below s _ _ _ (Ty6.setTop (mkF m 60 #[.val (.long qa), .second, .val (.long qb), .second, .val (.long qc), .second, .val (.long qd), .second, .val (.ref by1), .val (.int (1 : Int32))] [(.long qb), (.ref by1)]))
  obtain ⟨cqy7, kqy7, qy7a, qy7b, qy7c⟩ := isOf hZ eqy6 (Ay1.keep Kcy4)
  obtain ⟨_, _, ⟨Ty7, Ly7, ky7, ny7⟩, -, Xy7, ⟨Lcy7, hQy7, ly7, yy7, zy7⟩, sty7⟩ := Xy6.virtualBack hx (y := (⟨"com/example/multiparty/multiparty/ExactSum", "add", "(J)V"⟩ : MethodName)) (z := (⟨"com/example/multiparty/multiparty/ExactSum", "add", "(J)V"⟩ : MethodName)) hown (mvT hZ (hw _ (List.mem_of_getElem? (i := 22) rfl))) (mvT hZ (hw _ (List.mem_of_getElem? (i := 23) rfl))) (notFace_of_selects (args := #[]) (mvT hZ (hw _ (List.mem_of_getElem? (i := 25) rfl)))) (mvT hZ (hw _ (List.mem_of_getElem? (i := 25) rfl))) (mvT hZ (hw _ (List.mem_of_getElem? (i := 24) rfl))) (by decide) (backOf (W := 0) (rm5 l Z a0 hw [] by1 qb (own_hi (0 : Int64) (0 : Int64) qa) ((0 : Int64) + qa) Ty4.heap n0 Zy4 (Ay1.keep Kcy4) fy4_0 fy4_1 gzy1) hZ (hw _ (List.mem_of_getElem? (i := 26) rfl)) (hw _ (List.mem_of_getElem? (i := 2) rfl)) (by decide) (by decide)) qy7a qy7c (g := (mkF m 60 #[.val (.long qa), .second, .val (.long qb), .second, .val (.long qc), .second, .val (.long qd), .second, .val (.ref by1), .val (.int (1 : Int32))] [(.long qb), (.ref by1)])) rfl (by rw [hml]; rfl) (Steps.refl _) (argsL := [(.long qb)]) (rest := []) (lenOf pd_3 rfl) rfl (by show 2 * 0 + _ ≤ _; exact Nat.le_of_eq rfl) (hb hby at_60) (fun _ _ => ⟨rfl, eqy6, (by decide : 1 + 0 ≤ _), (by decide : 2 + 0 ≤ _)⟩)
  dsimp only [Pt.U, Pt.locs, Pt.cells, Pt.slots] at Xy7 ly7 yy7 zy7 sty7 hQy7
  subst ly7 yy7 zy7
  obtain ⟨rfl, Nqy7, Kcy7, fy7_0, fy7_1⟩ := hQy7
  have Ny7 := Fr.app Ny6 Nqy7
  have Zy7 : n0 ≤ Ty7.heap.size := Nat.le_trans Zy4 Kcy7.1
  have Ky7 : Keep h0 Ty7.heap [] := Ky4.trans Kcy7 (allS (Or.inr szy1) all0)
  refine Fin.step (fun _ k => sty7.trans k) ?_
  show Fin p e below s _ _ _ (Ty7.setTop (mkF m 63 #[.val (.long qa), .second, .val (.long qb), .second, .val (.long qc), .second, .val (.long qd), .second, .val (.ref by1), .val (.int (1 : Int32))] []))
  refine Fin.step (fun _ => XS.iload Xy7.here hx rfl (hb hby at_63) rfl) ?_
  show Fin p e below s _ _ _ (Ty7.setTop (mkF m 65 #[.val (.long qa), .second, .val (.long qb), .second, .val (.long qc), .second, .val (.long qd), .second, .val (.ref by1), .val (.int (1 : Int32))] [(.int (1 : Int32))]))
  refine Fin.step (fun _ => XS.ifNo Xy7.here hx rfl (hb hby at_65) rfl ((if0 _ _).trans (feq ((by decide) : ¬ ((1 : Int32) = (0 : Int32)))).1)) ?_
  show Fin p e below s _ _ _ (Ty7.setTop (mkF m 68 #[.val (.long qa), .second, .val (.long qb), .second, .val (.long qc), .second, .val (.long qd), .second, .val (.ref by1), .val (.int (1 : Int32))] []))
  refine Fin.step (fun _ => XS.aload Xy7.here hx rfl (hb hby at_68) rfl rfl) ?_
  show Fin p e below s _ _ _ (Ty7.setTop (mkF m 70 #[.val (.long qa), .second, .val (.long qb), .second, .val (.long qc), .second, .val (.long qd), .second, .val (.ref by1), .val (.int (1 : Int32))] [(.ref by1)]))
  obtain ⟨cqy8, kqy8, qy8a, qy8b, qy8c⟩ := isOf hZ rfl ((Ay1.keep Kcy4).keep Kcy7)
  obtain ⟨_, _, ⟨Ty8, Ly8, ky8, ny8⟩, -, Xy8, ⟨Lcy8, hQy8, ly8, yy8, zy8⟩, sty8⟩ := Xy7.virtualBack hx (y := (⟨"com/example/multiparty/multiparty/ExactSum", "signum", "()I"⟩ : MethodName)) (z := (⟨"com/example/multiparty/multiparty/ExactSum", "signum", "()I"⟩ : MethodName)) hown (mvT hZ (hw _ (List.mem_of_getElem? (i := 9) rfl))) (mvT hZ (hw _ (List.mem_of_getElem? (i := 10) rfl))) (notFace_of_selects (args := #[]) (mvT hZ (hw _ (List.mem_of_getElem? (i := 12) rfl)))) (mvT hZ (hw _ (List.mem_of_getElem? (i := 12) rfl))) (mvT hZ (hw _ (List.mem_of_getElem? (i := 11) rfl))) (by decide) (backOf (W := 0) (rm3 l Z a0 hw [] by1 (own_hi ((0 : Int64) + qa) (own_hi (0 : Int64) (0 : Int64) qa) qb) (((0 : Int64) + qa) + qb) Ty7.heap n0 Zy7 fy7_0 fy7_1) hZ (hw _ (List.mem_of_getElem? (i := 13) rfl)) (hw _ (List.mem_of_getElem? (i := 2) rfl)) (by decide) (by decide)) qy8a qy8c (g := (mkF m 70 #[.val (.long qa), .second, .val (.long qb), .second, .val (.long qc), .second, .val (.long qd), .second, .val (.ref by1), .val (.int (1 : Int32))] [(.ref by1)])) rfl (by rw [hml]; rfl) (Steps.refl _) (argsL := []) (rest := []) (lenOf pd_2 rfl) rfl (by show 2 * 0 + _ ≤ _; exact Nat.le_of_eq rfl) (hb hby at_70) (fun _ _ => ⟨rfl, rfl, (by decide : 1 + 0 ≤ _), (by decide : 2 + 0 ≤ _)⟩)
  dsimp only [Pt.U, Pt.locs, Pt.cells, Pt.slots] at Xy8 ly8 yy8 zy8 sty8 hQy8
  subst ly8 yy8 zy8
  obtain ⟨rfl, Nqy8, eqy8⟩ := hQy8
  have Ny8 := Fr.app Ny7 Nqy8
  refine Fin.step (fun _ k => sty8.trans k) ?_
  show Fin p e below s _ _ _ (Ty8.setTop (mkF m 73 #[.val (.long qa), .second, .val (.long qb), .second, .val (.long qc), .second, .val (.long qd), .second, .val (.ref by1), .val (.int (1 : Int32))] [(.int (own_signum (own_hi ((0 : Int64) + qa) (own_hi (0 : Int64) (0 : Int64) qa) qb) (((0 : Int64) + qa) + qb)))]))
  refine Fin.step (fun _ => XS.lloadN Xy8.here hx rfl (hb hby at_73) rfl) ?_
  show Fin p e below s _ _ _ (Ty8.setTop (mkF m 74 #[.val (.long qa), .second, .val (.long qb), .second, .val (.long qc), .second, .val (.long qd), .second, .val (.ref by1), .val (.int (1 : Int32))] [(.long qa), (.int (own_signum (own_hi ((0 : Int64) + qa) (own_hi (0 : Int64) (0 : Int64) qa) qb) (((0 : Int64) + qa) + qb)))]))
  refine Fin.step (fun _ => XS.lloadN Xy8.here hx rfl (hb hby at_74) rfl) ?_
  show Fin p e below s _ _ _ (Ty8.setTop (mkF m 75 #[.val (.long qa), .second, .val (.long qb), .second, .val (.long qc), .second, .val (.long qd), .second, .val (.ref by1), .val (.int (1 : Int32))] [(.long qb), (.long qa), (.int (own_signum (own_hi ((0 : Int64) + qa) (own_hi (0 : Int64) (0 : Int64) qa) qb) (((0 : Int64) + qa) + qb)))]))
  refine Fin.step (fun _ => XS.lconst Xy8.here hx rfl (hb hby at_75)) ?_
  show Fin p e below s _ _ _ (Ty8.setTop (mkF m 76 #[.val (.long qa), .second, .val (.long qb), .second, .val (.long qc), .second, .val (.long qd), .second, .val (.ref by1), .val (.int (1 : Int32))] [(.long (0 : Int64)), (.long qb), (.long qa), (.int (own_signum (own_hi ((0 : Int64) + qa) (own_hi (0 : Int64) (0 : Int64) qa) qb) (((0 : Int64) + qa) + qb)))]))
  refine Fin.step (fun _ => XS.lconst Xy8.here hx rfl (hb hby at_76)) ?_
  show Fin p e below s _ _ _ (Ty8.setTop (mkF m 77 #[.val (.long qa), .second, .val (.long qb), .second, .val (.long qc), .second, .val (.long qd), .second, .val (.ref by1), .val (.int (1 : Int32))] [(.long (0 : Int64)), (.long (0 : Int64)), (.long qb), (.long qa), (.int (own_signum (own_hi ((0 : Int64) + qa) (own_hi (0 : Int64) (0 : Int64) qa) qb) (((0 : Int64) + qa) + qb)))]))
  obtain ⟨_, _, ⟨Ty9, Ly9, ky9, ny9⟩, -, Xy9, ⟨Lcy9, hQy9, ly9, yy9, zy9⟩, sty9⟩ := Jvm.LawKit.callS Xy8 hx (y := (⟨"com/example/multiparty/multiparty/ExactSumAddPinLaw", "sign", "(JJJJ)I"⟩ : MethodName)) hown (mvT hZ (hw _ (List.mem_of_getElem? (i := 27) rfl))) (mvT hZ (hw _ (List.mem_of_getElem? (i := 28) rfl))) (mvT hZ (hw _ (List.mem_of_getElem? (i := 29) rfl))) (mvT hZ (hw _ (List.mem_of_getElem? (i := 30) rfl))) (by decide) (backOf (W := 1) (rm6 l Z a0 hw [] qa qb (0 : Int64) (0 : Int64) Ty7.heap n0 Zy7 ) hZ (hw _ (List.mem_of_getElem? (i := 30) rfl)) (hw _ (List.mem_of_getElem? (i := 29) rfl)) (by decide) (by decide)) (g := (mkF m 77 #[.val (.long qa), .second, .val (.long qb), .second, .val (.long qc), .second, .val (.long qd), .second, .val (.ref by1), .val (.int (1 : Int32))] [(.long (0 : Int64)), (.long (0 : Int64)), (.long qb), (.long qa), (.int (own_signum (own_hi ((0 : Int64) + qa) (own_hi (0 : Int64) (0 : Int64) qa) qb) (((0 : Int64) + qa) + qb)))])) rfl (by rw [hml]; rfl) (argsL := [(.long qa), (.long qb), (.long (0 : Int64)), (.long (0 : Int64))]) (rest := [(.int (own_signum (own_hi ((0 : Int64) + qa) (own_hi (0 : Int64) (0 : Int64) qa) qb) (((0 : Int64) + qa) + qb)))]) (lenOf pd_4 rfl) rfl (by show 2 * 0 + _ ≤ _; exact Nat.le_of_eq rfl) (hb hby at_77) (fun _ _ => ⟨rfl, eqy8, (by decide : 1 + 0 ≤ _), (by decide : 2 + 0 ≤ _)⟩)
  dsimp only [Pt.U, Pt.locs, Pt.cells, Pt.slots] at Xy9 ly9 yy9 zy9 sty9 hQy9
  subst ly9 yy9 zy9
  obtain ⟨rfl, Nqy9, eqy9⟩ := hQy9
  have Ny9 := Fr.app Ny8 Nqy9
  refine Fin.step (sty9) ?_
  show Fin p e below s _ _ _ (Ty9.setTop (mkF m 80 #[.val (.long qa), .second, .val (.long qb), .second, .val (.long qc), .second, .val (.long qd), .second, .val (.ref by1), .val (.int (1 : Int32))] [(.int (own_sign qa qb (0 : Int64) (0 : Int64))), (.int (own_signum (own_hi ((0 : Int64) + qa) (own_hi (0 : Int64) (0 : Int64) qa) qb) (((0 : Int64) + qa) + qb)))]))
  refine Fin.step (fun _ => XS.icmpNo Xy9.here hx rfl (hb hby at_80) rfl (teq ((own_t2 qa qb) : ((own_signum (own_hi ((0 : Int64) + qa) (own_hi (0 : Int64) (0 : Int64) qa) qb) (((0 : Int64) + qa) + qb)) = (own_sign qa qb (0 : Int64) (0 : Int64))))).2) ?_
  show Fin p e below s _ _ _ (Ty9.setTop (mkF m 83 #[.val (.long qa), .second, .val (.long qb), .second, .val (.long qc), .second, .val (.long qd), .second, .val (.ref by1), .val (.int (1 : Int32))] []))
  refine Fin.step (fun _ => XS.iconst Xy9.here hx rfl (hb hby at_83)) ?_
  show Fin p e below s _ _ _ (Ty9.setTop (mkF m 84 #[.val (.long qa), .second, .val (.long qb), .second, .val (.long qc), .second, .val (.long qd), .second, .val (.ref by1), .val (.int (1 : Int32))] [(.int (1 : Int32))]))
  refine Fin.step (fun _ => XS.goto Xy9.here hx rfl (pc0 := 84) (pc' := 88) rfl (hb hby at_84) (by decide) (by decide)) ?_
  show Fin p e below s _ _ _ (Ty9.setTop (mkF m 88 #[.val (.long qa), .second, .val (.long qb), .second, .val (.long qc), .second, .val (.long qd), .second, .val (.ref by1), .val (.int (1 : Int32))] [(.int (1 : Int32))]))
  refine Fin.step (fun _ => XS.istore Xy9.here hx rfl (hb hby at_88) rfl (l' := #[.val (.long qa), .second, .val (.long qb), .second, .val (.long qc), .second, .val (.long qd), .second, .val (.ref by1), .val (.int (1 : Int32))]) rfl) ?_
  show Fin p e below s _ _ _ (Ty9.setTop (mkF m 90 #[.val (.long qa), .second, .val (.long qb), .second, .val (.long qc), .second, .val (.long qd), .second, .val (.ref by1), .val (.int (1 : Int32))] []))
  refine Fin.step (fun _ => XS.aload Xy9.here hx rfl (hb hby at_90) rfl rfl) ?_
  show Fin p e below s _ _ _ (Ty9.setTop (mkF m 92 #[.val (.long qa), .second, .val (.long qb), .second, .val (.long qc), .second, .val (.long qd), .second, .val (.ref by1), .val (.int (1 : Int32))] [(.ref by1)]))
  refine Fin.step (fun _ => XS.lload Xy9.here hx rfl (hb hby at_92) rfl) ?_
  show Fin p e below s _ _ _ (Ty9.setTop (mkF m 94 #[.val (.long qa), .second, .val (.long qb), .second, .val (.long qc), .second, .val (.long qd), .second, .val (.ref by1), .val (.int (1 : Int32))] [(.long qc), (.ref by1)]))
  obtain ⟨cqy10, kqy10, qy10a, qy10b, qy10c⟩ := isOf hZ eqy9 ((Ay1.keep Kcy4).keep Kcy7)
  obtain ⟨_, _, ⟨Ty10, Ly10, ky10, ny10⟩, -, Xy10, ⟨Lcy10, hQy10, ly10, yy10, zy10⟩, sty10⟩ := Xy9.virtualBack hx (y := (⟨"com/example/multiparty/multiparty/ExactSum", "add", "(J)V"⟩ : MethodName)) (z := (⟨"com/example/multiparty/multiparty/ExactSum", "add", "(J)V"⟩ : MethodName)) hown (mvT hZ (hw _ (List.mem_of_getElem? (i := 22) rfl))) (mvT hZ (hw _ (List.mem_of_getElem? (i := 23) rfl))) (notFace_of_selects (args := #[]) (mvT hZ (hw _ (List.mem_of_getElem? (i := 25) rfl)))) (mvT hZ (hw _ (List.mem_of_getElem? (i := 25) rfl))) (mvT hZ (hw _ (List.mem_of_getElem? (i := 24) rfl))) (by decide) (backOf (W := 0) (rm5 l Z a0 hw [] by1 qc (own_hi ((0 : Int64) + qa) (own_hi (0 : Int64) (0 : Int64) qa) qb) (((0 : Int64) + qa) + qb) Ty7.heap n0 Zy7 ((Ay1.keep Kcy4).keep Kcy7) fy7_0 fy7_1 gzy1) hZ (hw _ (List.mem_of_getElem? (i := 26) rfl)) (hw _ (List.mem_of_getElem? (i := 2) rfl)) (by decide) (by decide)) qy10a qy10c (g := (mkF m 94 #[.val (.long qa), .second, .val (.long qb), .second, .val (.long qc), .second, .val (.long qd), .second, .val (.ref by1), .val (.int (1 : Int32))] [(.long qc), (.ref by1)])) rfl (by rw [hml]; rfl) (Steps.refl _) (argsL := [(.long qc)]) (rest := []) (lenOf pd_3 rfl) rfl (by show 2 * 0 + _ ≤ _; exact Nat.le_of_eq rfl) (hb hby at_94) (fun _ _ => ⟨rfl, eqy9, (by decide : 1 + 0 ≤ _), (by decide : 2 + 0 ≤ _)⟩)
  dsimp only [Pt.U, Pt.locs, Pt.cells, Pt.slots] at Xy10 ly10 yy10 zy10 sty10 hQy10
  subst ly10 yy10 zy10
  obtain ⟨rfl, Nqy10, Kcy10, fy10_0, fy10_1⟩ := hQy10
  have Ny10 := Fr.app Ny9 Nqy10
  have Zy10 : n0 ≤ Ty10.heap.size := Nat.le_trans Zy7 Kcy10.1
  have Ky10 : Keep h0 Ty10.heap [] := Ky7.trans Kcy10 (allS (Or.inr szy1) all0)
  refine Fin.step (fun _ k => sty10.trans k) ?_
  show Fin p e below s _ _ _ (Ty10.setTop (mkF m 97 #[.val (.long qa), .second, .val (.long qb), .second, .val (.long qc), .second, .val (.long qd), .second, .val (.ref by1), .val (.int (1 : Int32))] []))
  refine Fin.step (fun _ => XS.iload Xy10.here hx rfl (hb hby at_97) rfl) ?_
  show Fin p e below s _ _ _ (Ty10.setTop (mkF m 99 #[.val (.long qa), .second, .val (.long qb), .second, .val (.long qc), .second, .val (.long qd), .second, .val (.ref by1), .val (.int (1 : Int32))] [(.int (1 : Int32))]))
  refine Fin.step (fun _ => XS.ifNo Xy10.here hx rfl (hb hby at_99) rfl ((if0 _ _).trans (feq ((by decide) : ¬ ((1 : Int32) = (0 : Int32)))).1)) ?_
  show Fin p e below s _ _ _ (Ty10.setTop (mkF m 102 #[.val (.long qa), .second, .val (.long qb), .second, .val (.long qc), .second, .val (.long qd), .second, .val (.ref by1), .val (.int (1 : Int32))] []))
  refine Fin.step (fun _ => XS.aload Xy10.here hx rfl (hb hby at_102) rfl rfl) ?_
  show Fin p e below s _ _ _ (Ty10.setTop (mkF m 104 #[.val (.long qa), .second, .val (.long qb), .second, .val (.long qc), .second, .val (.long qd), .second, .val (.ref by1), .val (.int (1 : Int32))] [(.ref by1)]))
  obtain ⟨cqy11, kqy11, qy11a, qy11b, qy11c⟩ := isOf hZ rfl (((Ay1.keep Kcy4).keep Kcy7).keep Kcy10)
  obtain ⟨_, _, ⟨Ty11, Ly11, ky11, ny11⟩, -, Xy11, ⟨Lcy11, hQy11, ly11, yy11, zy11⟩, sty11⟩ := Xy10.virtualBack hx (y := (⟨"com/example/multiparty/multiparty/ExactSum", "signum", "()I"⟩ : MethodName)) (z := (⟨"com/example/multiparty/multiparty/ExactSum", "signum", "()I"⟩ : MethodName)) hown (mvT hZ (hw _ (List.mem_of_getElem? (i := 9) rfl))) (mvT hZ (hw _ (List.mem_of_getElem? (i := 10) rfl))) (notFace_of_selects (args := #[]) (mvT hZ (hw _ (List.mem_of_getElem? (i := 12) rfl)))) (mvT hZ (hw _ (List.mem_of_getElem? (i := 12) rfl))) (mvT hZ (hw _ (List.mem_of_getElem? (i := 11) rfl))) (by decide) (backOf (W := 0) (rm3 l Z a0 hw [] by1 (own_hi (((0 : Int64) + qa) + qb) (own_hi ((0 : Int64) + qa) (own_hi (0 : Int64) (0 : Int64) qa) qb) qc) ((((0 : Int64) + qa) + qb) + qc) Ty10.heap n0 Zy10 fy10_0 fy10_1) hZ (hw _ (List.mem_of_getElem? (i := 13) rfl)) (hw _ (List.mem_of_getElem? (i := 2) rfl)) (by decide) (by decide)) qy11a qy11c (g := (mkF m 104 #[.val (.long qa), .second, .val (.long qb), .second, .val (.long qc), .second, .val (.long qd), .second, .val (.ref by1), .val (.int (1 : Int32))] [(.ref by1)])) rfl (by rw [hml]; rfl) (Steps.refl _) (argsL := []) (rest := []) (lenOf pd_2 rfl) rfl (by show 2 * 0 + _ ≤ _; exact Nat.le_of_eq rfl) (hb hby at_104) (fun _ _ => ⟨rfl, rfl, (by decide : 1 + 0 ≤ _), (by decide : 2 + 0 ≤ _)⟩)
  dsimp only [Pt.U, Pt.locs, Pt.cells, Pt.slots] at Xy11 ly11 yy11 zy11 sty11 hQy11
  subst ly11 yy11 zy11
  obtain ⟨rfl, Nqy11, eqy11⟩ := hQy11
  have Ny11 := Fr.app Ny10 Nqy11
  refine Fin.step (fun _ k => sty11.trans k) ?_
  show Fin p e below s _ _ _ (Ty11.setTop (mkF m 107 #[.val (.long qa), .second, .val (.long qb), .second, .val (.long qc), .second, .val (.long qd), .second, .val (.ref by1), .val (.int (1 : Int32))] [(.int (own_signum (own_hi (((0 : Int64) + qa) + qb) (own_hi ((0 : Int64) + qa) (own_hi (0 : Int64) (0 : Int64) qa) qb) qc) ((((0 : Int64) + qa) + qb) + qc)))]))
  refine Fin.step (fun _ => XS.lloadN Xy11.here hx rfl (hb hby at_107) rfl) ?_
  show Fin p e below s _ _ _ (Ty11.setTop (mkF m 108 #[.val (.long qa), .second, .val (.long qb), .second, .val (.long qc), .second, .val (.long qd), .second, .val (.ref by1), .val (.int (1 : Int32))] [(.long qa), (.int (own_signum (own_hi (((0 : Int64) + qa) + qb) (own_hi ((0 : Int64) + qa) (own_hi (0 : Int64) (0 : Int64) qa) qb) qc) ((((0 : Int64) + qa) + qb) + qc)))]))
  refine Fin.step (fun _ => XS.lloadN Xy11.here hx rfl (hb hby at_108) rfl) ?_
  show Fin p e below s _ _ _ (Ty11.setTop (mkF m 109 #[.val (.long qa), .second, .val (.long qb), .second, .val (.long qc), .second, .val (.long qd), .second, .val (.ref by1), .val (.int (1 : Int32))] [(.long qb), (.long qa), (.int (own_signum (own_hi (((0 : Int64) + qa) + qb) (own_hi ((0 : Int64) + qa) (own_hi (0 : Int64) (0 : Int64) qa) qb) qc) ((((0 : Int64) + qa) + qb) + qc)))]))
  refine Fin.step (fun _ => XS.lload Xy11.here hx rfl (hb hby at_109) rfl) ?_
  show Fin p e below s _ _ _ (Ty11.setTop (mkF m 111 #[.val (.long qa), .second, .val (.long qb), .second, .val (.long qc), .second, .val (.long qd), .second, .val (.ref by1), .val (.int (1 : Int32))] [(.long qc), (.long qb), (.long qa), (.int (own_signum (own_hi (((0 : Int64) + qa) + qb) (own_hi ((0 : Int64) + qa) (own_hi (0 : Int64) (0 : Int64) qa) qb) qc) ((((0 : Int64) + qa) + qb) + qc)))]))
  refine Fin.step (fun _ => XS.lconst Xy11.here hx rfl (hb hby at_111)) ?_
  show Fin p e below s _ _ _ (Ty11.setTop (mkF m 112 #[.val (.long qa), .second, .val (.long qb), .second, .val (.long qc), .second, .val (.long qd), .second, .val (.ref by1), .val (.int (1 : Int32))] [(.long (0 : Int64)), (.long qc), (.long qb), (.long qa), (.int (own_signum (own_hi (((0 : Int64) + qa) + qb) (own_hi ((0 : Int64) + qa) (own_hi (0 : Int64) (0 : Int64) qa) qb) qc) ((((0 : Int64) + qa) + qb) + qc)))]))
  obtain ⟨_, _, ⟨Ty12, Ly12, ky12, ny12⟩, -, Xy12, ⟨Lcy12, hQy12, ly12, yy12, zy12⟩, sty12⟩ := Jvm.LawKit.callS Xy11 hx (y := (⟨"com/example/multiparty/multiparty/ExactSumAddPinLaw", "sign", "(JJJJ)I"⟩ : MethodName)) hown (mvT hZ (hw _ (List.mem_of_getElem? (i := 27) rfl))) (mvT hZ (hw _ (List.mem_of_getElem? (i := 28) rfl))) (mvT hZ (hw _ (List.mem_of_getElem? (i := 29) rfl))) (mvT hZ (hw _ (List.mem_of_getElem? (i := 30) rfl))) (by decide) (backOf (W := 1) (rm6 l Z a0 hw [] qa qb qc (0 : Int64) Ty10.heap n0 Zy10 ) hZ (hw _ (List.mem_of_getElem? (i := 30) rfl)) (hw _ (List.mem_of_getElem? (i := 29) rfl)) (by decide) (by decide)) (g := (mkF m 112 #[.val (.long qa), .second, .val (.long qb), .second, .val (.long qc), .second, .val (.long qd), .second, .val (.ref by1), .val (.int (1 : Int32))] [(.long (0 : Int64)), (.long qc), (.long qb), (.long qa), (.int (own_signum (own_hi (((0 : Int64) + qa) + qb) (own_hi ((0 : Int64) + qa) (own_hi (0 : Int64) (0 : Int64) qa) qb) qc) ((((0 : Int64) + qa) + qb) + qc)))])) rfl (by rw [hml]; rfl) (argsL := [(.long qa), (.long qb), (.long qc), (.long (0 : Int64))]) (rest := [(.int (own_signum (own_hi (((0 : Int64) + qa) + qb) (own_hi ((0 : Int64) + qa) (own_hi (0 : Int64) (0 : Int64) qa) qb) qc) ((((0 : Int64) + qa) + qb) + qc)))]) (lenOf pd_4 rfl) rfl (by show 2 * 0 + _ ≤ _; exact Nat.le_of_eq rfl) (hb hby at_112) (fun _ _ => ⟨rfl, eqy11, (by decide : 1 + 0 ≤ _), (by decide : 2 + 0 ≤ _)⟩)
  dsimp only [Pt.U, Pt.locs, Pt.cells, Pt.slots] at Xy12 ly12 yy12 zy12 sty12 hQy12
  subst ly12 yy12 zy12
  obtain ⟨rfl, Nqy12, eqy12⟩ := hQy12
  have Ny12 := Fr.app Ny11 Nqy12
  refine Fin.step (sty12) ?_
  show Fin p e below s _ _ _ (Ty12.setTop (mkF m 115 #[.val (.long qa), .second, .val (.long qb), .second, .val (.long qc), .second, .val (.long qd), .second, .val (.ref by1), .val (.int (1 : Int32))] [(.int (own_sign qa qb qc (0 : Int64))), (.int (own_signum (own_hi (((0 : Int64) + qa) + qb) (own_hi ((0 : Int64) + qa) (own_hi (0 : Int64) (0 : Int64) qa) qb) qc) ((((0 : Int64) + qa) + qb) + qc)))]))
  refine Fin.step (fun _ => XS.icmpNo Xy12.here hx rfl (hb hby at_115) rfl (teq ((own_t3 qa qb qc) : ((own_signum (own_hi (((0 : Int64) + qa) + qb) (own_hi ((0 : Int64) + qa) (own_hi (0 : Int64) (0 : Int64) qa) qb) qc) ((((0 : Int64) + qa) + qb) + qc)) = (own_sign qa qb qc (0 : Int64))))).2) ?_
  show Fin p e below s _ _ _ (Ty12.setTop (mkF m 118 #[.val (.long qa), .second, .val (.long qb), .second, .val (.long qc), .second, .val (.long qd), .second, .val (.ref by1), .val (.int (1 : Int32))] []))
  refine Fin.step (fun _ => XS.iconst Xy12.here hx rfl (hb hby at_118)) ?_
  show Fin p e below s _ _ _ (Ty12.setTop (mkF m 119 #[.val (.long qa), .second, .val (.long qb), .second, .val (.long qc), .second, .val (.long qd), .second, .val (.ref by1), .val (.int (1 : Int32))] [(.int (1 : Int32))]))
  refine Fin.step (fun _ => XS.goto Xy12.here hx rfl (pc0 := 119) (pc' := 123) rfl (hb hby at_119) (by decide) (by decide)) ?_
  show Fin p e below s _ _ _ (Ty12.setTop (mkF m 123 #[.val (.long qa), .second, .val (.long qb), .second, .val (.long qc), .second, .val (.long qd), .second, .val (.ref by1), .val (.int (1 : Int32))] [(.int (1 : Int32))]))
  refine Fin.step (fun _ => XS.istore Xy12.here hx rfl (hb hby at_123) rfl (l' := #[.val (.long qa), .second, .val (.long qb), .second, .val (.long qc), .second, .val (.long qd), .second, .val (.ref by1), .val (.int (1 : Int32))]) rfl) ?_
  show Fin p e below s _ _ _ (Ty12.setTop (mkF m 125 #[.val (.long qa), .second, .val (.long qb), .second, .val (.long qc), .second, .val (.long qd), .second, .val (.ref by1), .val (.int (1 : Int32))] []))
  refine Fin.step (fun _ => XS.aload Xy12.here hx rfl (hb hby at_125) rfl rfl) ?_
  show Fin p e below s _ _ _ (Ty12.setTop (mkF m 127 #[.val (.long qa), .second, .val (.long qb), .second, .val (.long qc), .second, .val (.long qd), .second, .val (.ref by1), .val (.int (1 : Int32))] [(.ref by1)]))
  refine Fin.step (fun _ => XS.lload Xy12.here hx rfl (hb hby at_127) rfl) ?_
  show Fin p e below s _ _ _ (Ty12.setTop (mkF m 129 #[.val (.long qa), .second, .val (.long qb), .second, .val (.long qc), .second, .val (.long qd), .second, .val (.ref by1), .val (.int (1 : Int32))] [(.long qd), (.ref by1)]))
  obtain ⟨cqy13, kqy13, qy13a, qy13b, qy13c⟩ := isOf hZ eqy12 (((Ay1.keep Kcy4).keep Kcy7).keep Kcy10)
  obtain ⟨_, _, ⟨Ty13, Ly13, ky13, ny13⟩, -, Xy13, ⟨Lcy13, hQy13, ly13, yy13, zy13⟩, sty13⟩ := Xy12.virtualBack hx (y := (⟨"com/example/multiparty/multiparty/ExactSum", "add", "(J)V"⟩ : MethodName)) (z := (⟨"com/example/multiparty/multiparty/ExactSum", "add", "(J)V"⟩ : MethodName)) hown (mvT hZ (hw _ (List.mem_of_getElem? (i := 22) rfl))) (mvT hZ (hw _ (List.mem_of_getElem? (i := 23) rfl))) (notFace_of_selects (args := #[]) (mvT hZ (hw _ (List.mem_of_getElem? (i := 25) rfl)))) (mvT hZ (hw _ (List.mem_of_getElem? (i := 25) rfl))) (mvT hZ (hw _ (List.mem_of_getElem? (i := 24) rfl))) (by decide) (backOf (W := 0) (rm5 l Z a0 hw [] by1 qd (own_hi (((0 : Int64) + qa) + qb) (own_hi ((0 : Int64) + qa) (own_hi (0 : Int64) (0 : Int64) qa) qb) qc) ((((0 : Int64) + qa) + qb) + qc) Ty10.heap n0 Zy10 (((Ay1.keep Kcy4).keep Kcy7).keep Kcy10) fy10_0 fy10_1 gzy1) hZ (hw _ (List.mem_of_getElem? (i := 26) rfl)) (hw _ (List.mem_of_getElem? (i := 2) rfl)) (by decide) (by decide)) qy13a qy13c (g := (mkF m 129 #[.val (.long qa), .second, .val (.long qb), .second, .val (.long qc), .second, .val (.long qd), .second, .val (.ref by1), .val (.int (1 : Int32))] [(.long qd), (.ref by1)])) rfl (by rw [hml]; rfl) (Steps.refl _) (argsL := [(.long qd)]) (rest := []) (lenOf pd_3 rfl) rfl (by show 2 * 0 + _ ≤ _; exact Nat.le_of_eq rfl) (hb hby at_129) (fun _ _ => ⟨rfl, eqy12, (by decide : 1 + 0 ≤ _), (by decide : 2 + 0 ≤ _)⟩)
  dsimp only [Pt.U, Pt.locs, Pt.cells, Pt.slots] at Xy13 ly13 yy13 zy13 sty13 hQy13
  subst ly13 yy13 zy13
  obtain ⟨rfl, Nqy13, Kcy13, fy13_0, fy13_1⟩ := hQy13
  have Ny13 := Fr.app Ny12 Nqy13
  have Zy13 : n0 ≤ Ty13.heap.size := Nat.le_trans Zy10 Kcy13.1
  have Ky13 : Keep h0 Ty13.heap [] := Ky10.trans Kcy13 (allS (Or.inr szy1) all0)
  refine Fin.step (fun _ k => sty13.trans k) ?_
  show Fin p e below s _ _ _ (Ty13.setTop (mkF m 132 #[.val (.long qa), .second, .val (.long qb), .second, .val (.long qc), .second, .val (.long qd), .second, .val (.ref by1), .val (.int (1 : Int32))] []))
  refine Fin.step (fun _ => XS.iload Xy13.here hx rfl (hb hby at_132) rfl) ?_
  show Fin p e below s _ _ _ (Ty13.setTop (mkF m 134 #[.val (.long qa), .second, .val (.long qb), .second, .val (.long qc), .second, .val (.long qd), .second, .val (.ref by1), .val (.int (1 : Int32))] [(.int (1 : Int32))]))
  refine Fin.step (fun _ => XS.ifNo Xy13.here hx rfl (hb hby at_134) rfl ((if0 _ _).trans (feq ((by decide) : ¬ ((1 : Int32) = (0 : Int32)))).1)) ?_
  show Fin p e below s _ _ _ (Ty13.setTop (mkF m 137 #[.val (.long qa), .second, .val (.long qb), .second, .val (.long qc), .second, .val (.long qd), .second, .val (.ref by1), .val (.int (1 : Int32))] []))
  refine Fin.step (fun _ => XS.aload Xy13.here hx rfl (hb hby at_137) rfl rfl) ?_
  show Fin p e below s _ _ _ (Ty13.setTop (mkF m 139 #[.val (.long qa), .second, .val (.long qb), .second, .val (.long qc), .second, .val (.long qd), .second, .val (.ref by1), .val (.int (1 : Int32))] [(.ref by1)]))
  obtain ⟨cqy14, kqy14, qy14a, qy14b, qy14c⟩ := isOf hZ rfl ((((Ay1.keep Kcy4).keep Kcy7).keep Kcy10).keep Kcy13)
  obtain ⟨_, _, ⟨Ty14, Ly14, ky14, ny14⟩, -, Xy14, ⟨Lcy14, hQy14, ly14, yy14, zy14⟩, sty14⟩ := Xy13.virtualBack hx (y := (⟨"com/example/multiparty/multiparty/ExactSum", "signum", "()I"⟩ : MethodName)) (z := (⟨"com/example/multiparty/multiparty/ExactSum", "signum", "()I"⟩ : MethodName)) hown (mvT hZ (hw _ (List.mem_of_getElem? (i := 9) rfl))) (mvT hZ (hw _ (List.mem_of_getElem? (i := 10) rfl))) (notFace_of_selects (args := #[]) (mvT hZ (hw _ (List.mem_of_getElem? (i := 12) rfl)))) (mvT hZ (hw _ (List.mem_of_getElem? (i := 12) rfl))) (mvT hZ (hw _ (List.mem_of_getElem? (i := 11) rfl))) (by decide) (backOf (W := 0) (rm3 l Z a0 hw [] by1 (own_hi ((((0 : Int64) + qa) + qb) + qc) (own_hi (((0 : Int64) + qa) + qb) (own_hi ((0 : Int64) + qa) (own_hi (0 : Int64) (0 : Int64) qa) qb) qc) qd) (((((0 : Int64) + qa) + qb) + qc) + qd) Ty13.heap n0 Zy13 fy13_0 fy13_1) hZ (hw _ (List.mem_of_getElem? (i := 13) rfl)) (hw _ (List.mem_of_getElem? (i := 2) rfl)) (by decide) (by decide)) qy14a qy14c (g := (mkF m 139 #[.val (.long qa), .second, .val (.long qb), .second, .val (.long qc), .second, .val (.long qd), .second, .val (.ref by1), .val (.int (1 : Int32))] [(.ref by1)])) rfl (by rw [hml]; rfl) (Steps.refl _) (argsL := []) (rest := []) (lenOf pd_2 rfl) rfl (by show 2 * 0 + _ ≤ _; exact Nat.le_of_eq rfl) (hb hby at_139) (fun _ _ => ⟨rfl, rfl, (by decide : 1 + 0 ≤ _), (by decide : 2 + 0 ≤ _)⟩)
  dsimp only [Pt.U, Pt.locs, Pt.cells, Pt.slots] at Xy14 ly14 yy14 zy14 sty14 hQy14
  subst ly14 yy14 zy14
  obtain ⟨rfl, Nqy14, eqy14⟩ := hQy14
  have Ny14 := Fr.app Ny13 Nqy14
  refine Fin.step (fun _ k => sty14.trans k) ?_
  show Fin p e below s _ _ _ (Ty14.setTop (mkF m 142 #[.val (.long qa), .second, .val (.long qb), .second, .val (.long qc), .second, .val (.long qd), .second, .val (.ref by1), .val (.int (1 : Int32))] [(.int (own_signum (own_hi ((((0 : Int64) + qa) + qb) + qc) (own_hi (((0 : Int64) + qa) + qb) (own_hi ((0 : Int64) + qa) (own_hi (0 : Int64) (0 : Int64) qa) qb) qc) qd) (((((0 : Int64) + qa) + qb) + qc) + qd)))]))
  refine Fin.step (fun _ => XS.lloadN Xy14.here hx rfl (hb hby at_142) rfl) ?_
  show Fin p e below s _ _ _ (Ty14.setTop (mkF m 143 #[.val (.long qa), .second, .val (.long qb), .second, .val (.long qc), .second, .val (.long qd), .second, .val (.ref by1), .val (.int (1 : Int32))] [(.long qa), (.int (own_signum (own_hi ((((0 : Int64) + qa) + qb) + qc) (own_hi (((0 : Int64) + qa) + qb) (own_hi ((0 : Int64) + qa) (own_hi (0 : Int64) (0 : Int64) qa) qb) qc) qd) (((((0 : Int64) + qa) + qb) + qc) + qd)))]))
  refine Fin.step (fun _ => XS.lloadN Xy14.here hx rfl (hb hby at_143) rfl) ?_
  show Fin p e below s _ _ _ (Ty14.setTop (mkF m 144 #[.val (.long qa), .second, .val (.long qb), .second, .val (.long qc), .second, .val (.long qd), .second, .val (.ref by1), .val (.int (1 : Int32))] [(.long qb), (.long qa), (.int (own_signum (own_hi ((((0 : Int64) + qa) + qb) + qc) (own_hi (((0 : Int64) + qa) + qb) (own_hi ((0 : Int64) + qa) (own_hi (0 : Int64) (0 : Int64) qa) qb) qc) qd) (((((0 : Int64) + qa) + qb) + qc) + qd)))]))
  refine Fin.step (fun _ => XS.lload Xy14.here hx rfl (hb hby at_144) rfl) ?_
  show Fin p e below s _ _ _ (Ty14.setTop (mkF m 146 #[.val (.long qa), .second, .val (.long qb), .second, .val (.long qc), .second, .val (.long qd), .second, .val (.ref by1), .val (.int (1 : Int32))] [(.long qc), (.long qb), (.long qa), (.int (own_signum (own_hi ((((0 : Int64) + qa) + qb) + qc) (own_hi (((0 : Int64) + qa) + qb) (own_hi ((0 : Int64) + qa) (own_hi (0 : Int64) (0 : Int64) qa) qb) qc) qd) (((((0 : Int64) + qa) + qb) + qc) + qd)))]))
  refine Fin.step (fun _ => XS.lload Xy14.here hx rfl (hb hby at_146) rfl) ?_
  show Fin p e below s _ _ _ (Ty14.setTop (mkF m 148 #[.val (.long qa), .second, .val (.long qb), .second, .val (.long qc), .second, .val (.long qd), .second, .val (.ref by1), .val (.int (1 : Int32))] [(.long qd), (.long qc), (.long qb), (.long qa), (.int (own_signum (own_hi ((((0 : Int64) + qa) + qb) + qc) (own_hi (((0 : Int64) + qa) + qb) (own_hi ((0 : Int64) + qa) (own_hi (0 : Int64) (0 : Int64) qa) qb) qc) qd) (((((0 : Int64) + qa) + qb) + qc) + qd)))]))
  obtain ⟨_, _, ⟨Ty15, Ly15, ky15, ny15⟩, -, Xy15, ⟨Lcy15, hQy15, ly15, yy15, zy15⟩, sty15⟩ := Jvm.LawKit.callS Xy14 hx (y := (⟨"com/example/multiparty/multiparty/ExactSumAddPinLaw", "sign", "(JJJJ)I"⟩ : MethodName)) hown (mvT hZ (hw _ (List.mem_of_getElem? (i := 27) rfl))) (mvT hZ (hw _ (List.mem_of_getElem? (i := 28) rfl))) (mvT hZ (hw _ (List.mem_of_getElem? (i := 29) rfl))) (mvT hZ (hw _ (List.mem_of_getElem? (i := 30) rfl))) (by decide) (backOf (W := 1) (rm6 l Z a0 hw [] qa qb qc qd Ty13.heap n0 Zy13 ) hZ (hw _ (List.mem_of_getElem? (i := 30) rfl)) (hw _ (List.mem_of_getElem? (i := 29) rfl)) (by decide) (by decide)) (g := (mkF m 148 #[.val (.long qa), .second, .val (.long qb), .second, .val (.long qc), .second, .val (.long qd), .second, .val (.ref by1), .val (.int (1 : Int32))] [(.long qd), (.long qc), (.long qb), (.long qa), (.int (own_signum (own_hi ((((0 : Int64) + qa) + qb) + qc) (own_hi (((0 : Int64) + qa) + qb) (own_hi ((0 : Int64) + qa) (own_hi (0 : Int64) (0 : Int64) qa) qb) qc) qd) (((((0 : Int64) + qa) + qb) + qc) + qd)))])) rfl (by rw [hml]; rfl) (argsL := [(.long qa), (.long qb), (.long qc), (.long qd)]) (rest := [(.int (own_signum (own_hi ((((0 : Int64) + qa) + qb) + qc) (own_hi (((0 : Int64) + qa) + qb) (own_hi ((0 : Int64) + qa) (own_hi (0 : Int64) (0 : Int64) qa) qb) qc) qd) (((((0 : Int64) + qa) + qb) + qc) + qd)))]) (lenOf pd_4 rfl) rfl (by show 2 * 0 + _ ≤ _; exact Nat.le_of_eq rfl) (hb hby at_148) (fun _ _ => ⟨rfl, eqy14, (by decide : 1 + 0 ≤ _), (by decide : 2 + 0 ≤ _)⟩)
  dsimp only [Pt.U, Pt.locs, Pt.cells, Pt.slots] at Xy15 ly15 yy15 zy15 sty15 hQy15
  subst ly15 yy15 zy15
  obtain ⟨rfl, Nqy15, eqy15⟩ := hQy15
  have Ny15 := Fr.app Ny14 Nqy15
  refine Fin.step (sty15) ?_
  show Fin p e below s _ _ _ (Ty15.setTop (mkF m 151 #[.val (.long qa), .second, .val (.long qb), .second, .val (.long qc), .second, .val (.long qd), .second, .val (.ref by1), .val (.int (1 : Int32))] [(.int (own_sign qa qb qc qd)), (.int (own_signum (own_hi ((((0 : Int64) + qa) + qb) + qc) (own_hi (((0 : Int64) + qa) + qb) (own_hi ((0 : Int64) + qa) (own_hi (0 : Int64) (0 : Int64) qa) qb) qc) qd) (((((0 : Int64) + qa) + qb) + qc) + qd)))]))
  refine Fin.step (fun _ => XS.icmpNo Xy15.here hx rfl (hb hby at_151) rfl (teq ((own_t4 qa qb qc qd) : ((own_signum (own_hi ((((0 : Int64) + qa) + qb) + qc) (own_hi (((0 : Int64) + qa) + qb) (own_hi ((0 : Int64) + qa) (own_hi (0 : Int64) (0 : Int64) qa) qb) qc) qd) (((((0 : Int64) + qa) + qb) + qc) + qd)) = (own_sign qa qb qc qd)))).2) ?_
  show Fin p e below s _ _ _ (Ty15.setTop (mkF m 154 #[.val (.long qa), .second, .val (.long qb), .second, .val (.long qc), .second, .val (.long qd), .second, .val (.ref by1), .val (.int (1 : Int32))] []))
  refine Fin.step (fun _ => XS.iconst Xy15.here hx rfl (hb hby at_154)) ?_
  show Fin p e below s _ _ _ (Ty15.setTop (mkF m 155 #[.val (.long qa), .second, .val (.long qb), .second, .val (.long qc), .second, .val (.long qd), .second, .val (.ref by1), .val (.int (1 : Int32))] [(.int (1 : Int32))]))
  refine Fin.step (fun _ => XS.goto Xy15.here hx rfl (pc0 := 155) (pc' := 159) rfl (hb hby at_155) (by decide) (by decide)) ?_
  show Fin p e below s _ _ _ (Ty15.setTop (mkF m 159 #[.val (.long qa), .second, .val (.long qb), .second, .val (.long qc), .second, .val (.long qd), .second, .val (.ref by1), .val (.int (1 : Int32))] [(.int (1 : Int32))]))
  refine Fin.step (fun _ => XS.istore Xy15.here hx rfl (hb hby at_159) rfl (l' := #[.val (.long qa), .second, .val (.long qb), .second, .val (.long qc), .second, .val (.long qd), .second, .val (.ref by1), .val (.int (1 : Int32))]) rfl) ?_
  show Fin p e below s _ _ _ (Ty15.setTop (mkF m 161 #[.val (.long qa), .second, .val (.long qb), .second, .val (.long qc), .second, .val (.long qd), .second, .val (.ref by1), .val (.int (1 : Int32))] []))
  refine Fin.step (fun _ => XS.iload Xy15.here hx rfl (hb hby at_161) rfl) ?_
  show Fin p e below s _ _ _ (Ty15.setTop (mkF m 163 #[.val (.long qa), .second, .val (.long qb), .second, .val (.long qc), .second, .val (.long qd), .second, .val (.ref by1), .val (.int (1 : Int32))] [(.int (1 : Int32))]))
  refine Fin.retN Xy15 hx (t := .boolean) hret (by simp) hlk (hb hby at_163) (by decide) (by decide) ?_
  show Q0 Z qa qb qc qd h0 n0 _ Ty15.heap _
  rw [eqy15]
  exact ⟨rfl, Ny15, Ky13⟩
set_option maxRecDepth 65536 in
set_option maxHeartbeats 40000000 in
theorem comes_1 {Post : Tables → Env → Array Value → State → Outcome → State → Prop} (hpost : ∀ tb e args s v u, (limb_1_1.after args s (.returned v) u = true ∧ limb_1_2.after args s (.returned v) u = true ∧ True) → FrameEnd s (.returned v) u (Jvm.fieldLocs frame_1_writes args s ++ Jvm.arrayLocs frame_1_arrays args s ++ Jvm.staticLocs frame_1_statics s) 16 128 → Post tb e args s (.returned v) u) :
    ArmFor flags0 classFile x code maxLocals ret World_1 tables_1 room_1 Calls_1 rest_1 Pre_1 Post := by
  intro l hfl _ _ p e ha hc hk s m args below hf hA hF happ hP
  obtain ⟨hcalls, hrest, hpre⟩ := hP
  obtain ⟨-, -, -, hnamed, -, -, -, hat⟩ := (Spec.applies_iff hf).mp happ
  obtain ⟨hg, hn⟩ := and_e (Cond.before_iff.mp (show (Jvm.Cond.and given_1 narrow_1).before args s = true from hpre))
  obtain ⟨gc, gr0⟩ := and_e hg
  obtain ⟨ga0, gr1⟩ := and_e gr0
  obtain ⟨ga1, gr2⟩ := and_e gr1
  obtain ⟨ga2, gr3⟩ := and_e gr2
  have ga3 := gr3
  obtain ⟨w0, w1, w2, w3, rfl⟩ : ∃ w0 w1 w2 w3 : Value, args = #[w0, w1, w2, w3] := by
    have hs : args.size = 4 := by simpa [Cond.value, given_1] using gc
    obtain ⟨L⟩ := args
    match L, hs with
    | [w0, w1, w2, w3], _ => exact ⟨w0, w1, w2, w3, rfl⟩
  have hw := fun d (hd : d ∈ tables_1) => atoms_spec (ws := Jvm.Cond.code x code maxLocals ret :: tables_1) hat d (List.mem_cons_of_mem _ hd)
  have hfit : Fit s := fun {y c} hc i hi => by
    obtain ⟨ha, rfl⟩ := Array.getElem?_eq_some_iff.mp hc
    have q := List.all_eq_true.mp ((Array.all_eq_true_iff_forall_mem.mp hF) _ (Array.getElem_mem ha)) i (List.mem_range.mpr hi)
    simpa [Array.getElem?_eq_getElem hi] using q
  obtain ⟨i0, ei0⟩ := isL_v ga0
  obtain rfl : w0 = (.long i0) := Option.some.inj ei0
  obtain ⟨i1, ei1⟩ := isL_v ga1
  obtain rfl : w1 = (.long i1) := Option.some.inj ei1
  obtain ⟨i2, ei2⟩ := isL_v ga2
  obtain rfl : w2 = (.long i2) := Option.some.inj ei2
  obtain ⟨i3, ei3⟩ := isL_v ga3
  obtain rfl : w3 = (.long i3) := Option.some.inj ei3
  obtain ⟨n, o, h1, h2, h3, _, L, rfl, ⟨rfl, N, _⟩, hq⟩ := rm0 l s _ hw tables_1 i0 i1 i2 i3  s.heap s.heap.size (Nat.le_refl _)  p e ha hc hk s m _ below hf ((Spec.applies_iff_loose hf).mp happ).1 ⟨rfl, State.Warmed39.refl s, rfl⟩ trivial
  refine ⟨n, _, h1, h2, h3, hpost _ _ _ _ _ _ ⟨Cond.after_iff.mpr rfl, Cond.after_iff.mpr (eq_i res_at (Term.int_eval (1)) rfl), trivial⟩ ⟨hq.1, hq.2.1, (hq.2.2.sift fun y hy => Or.inr (N y hy)).mono (by decide) (by decide)⟩⟩
theorem main_1_1 : Claimed_1_1 := comes_1 fun _ _ _ _ _ _ h hF => ⟨h.1, hF⟩
theorem main_1_2 : Claimed_1_2 := comes_1 fun _ _ _ _ _ _ h hF => ⟨h.2.1, hF⟩
end Jvm.Pilot.@@N@@
namespace Jvm.Pilot.@@N@@
open Jvm Jvm.ClassFile Sem Op Lib Jvm.Free Jvm.Stand Jvm.Pilot.@@N@@.Jvm.D
/-! MADE BY PROGRAM (witnessworld.py) out of the Statement's table words and the real class files: 14 classes; the members and pool entries that the words name. The judged class is class 1, her method 1. -/
namespace start1
open Jvm.ClassFile
def u (s : String) : CpInfo := .utf8 (stringToUtf16 s)
/-- a pool by its gaps: so many unusable entries, then the entry; so many at the end -/
def gap : Nat → List CpInfo → List CpInfo
  | 0, r => r
  | n + 1, r => .unusable :: gap n r
def poolList (es : List (Nat × CpInfo)) (last : Nat) : List CpInfo := es.foldr (fun e r => gap e.1 (e.2 :: r)) (gap last [])
def pool (es : List (Nat × CpInfo)) (last : Nat) : Array CpInfo := ⟨poolList es last⟩
def fileOf (pool : Array CpInfo) (this : Nat) (attrs : Array Attribute := #[]) (ms : Array MethodInfo := #[]) (fl : Nat := 33) (sup : Nat := 0) (ifs : Array Nat := #[]) (fds : Array FieldInfo := #[]) : ClassFile where
  minorVersion := 0
  majorVersion := 65
  constantPool := pool
  accessFlags := fl
  thisClass := this
  superClass := sup
  interfaces := ifs
  fields := fds
  methods := ms
  attributes := attrs
def plain (name : String) (sup : Option ClassId) : Class where
  name := name
  kind := .ordinary
  loader := none
  accessFlags := 33
  super := sup
  interfaces := #[]
  cf := none
  fields := #[]
  methods := #[]
  instanceTypes := #[]
  staticTypes := #[]
  resolved := #[]
  callSites := []
  init := .initialized
  statics := none
  mirror := none

def pool0 : Array CpInfo := pool [(5, u "<init>"), (0, u "()V"), (1, .class_ 10), (1, u "java/lang/Object")] 113

def k0c0 : Code := { maxStack := 0, maxLocals := 1, code := object_method_1_code, exceptionTable := #[], attributes := #[] }
def k0m0 : Method := { name := "<init>", desc := "()V", sig := { parameters := [], returnType := none }, accessFlags := 1, code := some k0c0 }
/-- java/lang/Object -/
def k0 : Class := { plain "java/lang/Object" none with
  accessFlags := 33
  interfaces := #[]
  cf := some (fileOf pool0 8 #[] #[{ accessFlags := 1, nameIndex := 5, descriptorIndex := 6, attributes := #[] }] 33 0 #[] #[])
  fields := #[]
  methods := #[k0m0]
  instanceTypes := #[]
  staticTypes := #[]
  resolved := Array.replicate 124 none
  statics := none }

def pool1 : Array CpInfo := pool [(2, .class_ 4), (0, .nameAndType 5 6), (0, u "java/lang/Object"), (0, u "<init>"), (0, u "()V"), (0, .class_ 8), (0, u "com/example/multiparty/multiparty/ExactSum"), (0, .methodref 7 3), (0, .methodref 7 11), (0, .nameAndType 12 13), (0, u "signum"), (0, u "()I"), (0, .methodref 7 15), (0, .nameAndType 16 17), (0, u "add"), (0, u "(J)V"), (0, .methodref 19 20), (0, .class_ 21), (0, .nameAndType 22 23), (0, u "com/example/multiparty/multiparty/ExactSumAddPinLaw"), (0, u "sign"), (0, u "(JJJJ)I"), (0, .long 4294967295), (3, u "law"), (0, u "(JJJJ)Z")] 3

def k1m0 : Method := { name := "<init>", desc := "()V", sig := { parameters := [], returnType := none }, accessFlags := 1, code := none }
def k1c1 : Code := { maxStack := 9, maxLocals := 10, code := code, exceptionTable := #[], attributes := #[] }
def k1m1 : Method := { name := "law", desc := "(JJJJ)Z", sig := { parameters := [.long, .long, .long, .long], returnType := some .boolean }, accessFlags := 9, code := some k1c1 }
def k1c2 : Code := { maxStack := 6, maxLocals := 15, code := method_3_code, exceptionTable := #[], attributes := #[] }
def k1m2 : Method := { name := "sign", desc := "(JJJJ)I", sig := { parameters := [.long, .long, .long, .long], returnType := some .int }, accessFlags := 10, code := some k1c2 }
/-- com/example/multiparty/multiparty/ExactSumAddPinLaw -/
def k1 : Class := { plain "com/example/multiparty/multiparty/ExactSumAddPinLaw" (some 0) with
  accessFlags := 49
  interfaces := #[]
  cf := some (fileOf pool1 19 #[] #[{ accessFlags := 1, nameIndex := 5, descriptorIndex := 6, attributes := #[] }, { accessFlags := 9, nameIndex := 28, descriptorIndex := 29, attributes := #[] }, { accessFlags := 10, nameIndex := 22, descriptorIndex := 23, attributes := #[] }] 49 2 #[] #[])
  fields := #[]
  methods := #[k1m0, k1m1, k1m2]
  instanceTypes := #[]
  staticTypes := #[]
  resolved := Array.replicate 33 none
  statics := none }

def pool2 : Array CpInfo := pool [(1, .methodref 2 3), (0, .class_ 4), (0, .nameAndType 5 6), (0, u "java/lang/Object"), (0, u "<init>"), (0, u "()V"), (0, .fieldref 8 9), (0, .class_ 10), (0, .nameAndType 11 12), (0, u "com/example/multiparty/multiparty/ExactSum"), (0, u "low"), (0, u "J"), (0, .fieldref 8 14), (0, .nameAndType 15 12), (0, u "high"), (0, .long 18446744073709551615), (1, .methodref 19 20), (0, .class_ 21), (0, .nameAndType 22 23), (0, u "java/lang/Long"), (0, u "signum"), (0, u "(J)I"), (18, u "add"), (6, u "(J)V"), (1, u "()I")] 5

def k2c0 : Code := { maxStack := 1, maxLocals := 1, code := prog_8_method_1_code, exceptionTable := #[], attributes := #[] }
def k2m0 : Method := { name := "<init>", desc := "()V", sig := { parameters := [], returnType := none }, accessFlags := 0, code := some k2c0 }
def k2c1 : Code := { maxStack := 7, maxLocals := 5, code := prog_8_method_2_code, exceptionTable := #[], attributes := #[] }
def k2m1 : Method := { name := "add", desc := "(J)V", sig := { parameters := [.long], returnType := none }, accessFlags := 0, code := some k2c1 }
def k2c2 : Code := { maxStack := 4, maxLocals := 1, code := prog_8_method_3_code, exceptionTable := #[], attributes := #[] }
def k2m2 : Method := { name := "signum", desc := "()I", sig := { parameters := [], returnType := some .int }, accessFlags := 0, code := some k2c2 }
/-- com/example/multiparty/multiparty/ExactSum -/
def k2 : Class := { plain "com/example/multiparty/multiparty/ExactSum" (some 0) with
  accessFlags := 32
  interfaces := #[]
  cf := some (fileOf pool2 8 #[] #[{ accessFlags := 0, nameIndex := 5, descriptorIndex := 6, attributes := #[] }, { accessFlags := 0, nameIndex := 42, descriptorIndex := 49, attributes := #[] }, { accessFlags := 0, nameIndex := 22, descriptorIndex := 51, attributes := #[] }] 32 2 #[] #[{ accessFlags := 2, nameIndex := 11, descriptorIndex := 12, attributes := #[] }, { accessFlags := 2, nameIndex := 15, descriptorIndex := 12, attributes := #[] }])
  fields := #[{ name := "low", type := .long, accessFlags := 2, slot := 0, constantValue := 0 }, { name := "high", type := .long, accessFlags := 2, slot := 1, constantValue := 0 }]
  methods := #[k2m0, k2m1, k2m2]
  instanceTypes := #[.long, .long]
  staticTypes := #[]
  resolved := Array.replicate 57 none
  statics := none }

def pool3 : Array CpInfo := pool [(1, .class_ 2), (0, u "java/io/Serializable"), (0, .class_ 4), (0, u "java/lang/Object")] 2

/-- java/io/Serializable -/
def k3 : Class := { plain "java/io/Serializable" (some 0) with
  accessFlags := 1537
  interfaces := #[]
  cf := some (fileOf pool3 1 #[] #[] 1537 3 #[] #[])
  fields := #[]
  methods := #[]
  instanceTypes := #[]
  staticTypes := #[]
  resolved := Array.replicate 7 none
  statics := none }

def pool4 : Array CpInfo := pool [(2, .class_ 4), (1, u "java/lang/Object"), (0, u "<init>"), (0, u "()V"), (1, .class_ 10), (1, u "java/lang/Number"), (2, .class_ 14), (0, u "java/io/Serializable"), (0, u "serialVersionUID"), (0, u "J")] 20

def k4m0 : Method := { name := "<init>", desc := "()V", sig := { parameters := [], returnType := none }, accessFlags := 1, code := none }
/-- java/lang/Number -/
def k4 : Class := { plain "java/lang/Number" (some 0) with
  accessFlags := 1057
  interfaces := #[3]
  cf := some (fileOf pool4 8 #[] #[{ accessFlags := 1, nameIndex := 5, descriptorIndex := 6, attributes := #[] }] 1057 2 #[13] #[{ accessFlags := 26, nameIndex := 15, descriptorIndex := 16, attributes := #[] }])
  fields := #[{ name := "serialVersionUID", type := .long, accessFlags := 26, slot := 0, constantValue := 0 }]
  methods := #[k4m0]
  instanceTypes := #[]
  staticTypes := #[.long]
  resolved := Array.replicate 37 none
  statics := none }

def pool5 : Array CpInfo := pool [(1, .class_ 2), (0, u "java/lang/Comparable"), (0, .class_ 4), (0, u "java/lang/Object")] 7

/-- java/lang/Comparable -/
def k5 : Class := { plain "java/lang/Comparable" (some 0) with
  accessFlags := 1537
  interfaces := #[]
  cf := some (fileOf pool5 1 #[] #[] 1537 3 #[] #[])
  fields := #[]
  methods := #[]
  instanceTypes := #[]
  staticTypes := #[]
  resolved := Array.replicate 12 none
  statics := none }

def pool6 : Array CpInfo := pool [(1, .class_ 2), (0, u "java/lang/constant/Constable"), (0, .class_ 4), (0, u "java/lang/Object")] 6

/-- java/lang/constant/Constable -/
def k6 : Class := { plain "java/lang/constant/Constable" (some 0) with
  accessFlags := 1537
  interfaces := #[]
  cf := some (fileOf pool6 1 #[] #[] 1537 3 #[] #[])
  fields := #[]
  methods := #[]
  instanceTypes := #[]
  staticTypes := #[]
  resolved := Array.replicate 11 none
  statics := none }

def pool7 : Array CpInfo := pool [(1, .class_ 2), (0, u "java/lang/constant/ConstantDesc"), (0, .class_ 4), (0, u "java/lang/Object")] 32

/-- java/lang/constant/ConstantDesc -/
def k7 : Class := { plain "java/lang/constant/ConstantDesc" (some 0) with
  accessFlags := 1537
  interfaces := #[]
  cf := some (fileOf pool7 1 #[] #[] 1537 3 #[] #[])
  fields := #[]
  methods := #[]
  instanceTypes := #[]
  staticTypes := #[]
  resolved := Array.replicate 37 none
  statics := none }

def pool8 : Array CpInfo := pool [(1, .class_ 2), (0, u "java/lang/Long"), (98, u "(J)I"), (133, .class_ 237), (1, u "java/lang/Long$LongCache"), (33, .class_ 272), (0, u "java/lang/Number"), (2, u "value"), (0, u "J"), (84, u "TYPE"), (0, u "Ljava/lang/Class;"), (0, .class_ 364), (0, u "java/lang/Comparable"), (0, .class_ 366), (0, u "java/lang/constant/Constable"), (0, .class_ 368), (0, u "java/lang/constant/ConstantDesc"), (0, u "MIN_VALUE"), (1, u "MAX_VALUE"), (4, u "SIZE"), (0, u "I"), (1, u "BYTES"), (1, u "serialVersionUID"), (115, u "signum")] 26

def k8c0 : Code := { maxStack := 5, maxLocals := 2, code := jdk_35_method_57_code, exceptionTable := #[], attributes := #[] }
def k8m0 : Method := { name := "signum", desc := "(J)I", sig := { parameters := [.long], returnType := some .int }, accessFlags := 9, code := some k8c0 }
/-- java/lang/Long -/
def k8 : Class := { plain "java/lang/Long" (some 4) with
  accessFlags := 49
  interfaces := #[5, 6, 7]
  cf := some (fileOf pool8 1 #[.nestMembers #[235]] #[{ accessFlags := 9, nameIndex := 497, descriptorIndex := 101, attributes := #[] }] 49 271 #[363, 365, 367] #[{ accessFlags := 25, nameIndex := 369, descriptorIndex := 276, attributes := #[] }, { accessFlags := 25, nameIndex := 371, descriptorIndex := 276, attributes := #[] }, { accessFlags := 25, nameIndex := 361, descriptorIndex := 362, attributes := #[] }, { accessFlags := 18, nameIndex := 275, descriptorIndex := 276, attributes := #[] }, { accessFlags := 25, nameIndex := 376, descriptorIndex := 377, attributes := #[] }, { accessFlags := 25, nameIndex := 379, descriptorIndex := 377, attributes := #[] }, { accessFlags := 26, nameIndex := 381, descriptorIndex := 276, attributes := #[] }])
  fields := #[{ name := "MIN_VALUE", type := .long, accessFlags := 25, slot := 0, constantValue := 0 }, { name := "MAX_VALUE", type := .long, accessFlags := 25, slot := 1, constantValue := 0 }, { name := "TYPE", type := (.object "java/lang/Class"), accessFlags := 25, slot := 2, constantValue := 0 }, { name := "value", type := .long, accessFlags := 18, slot := 0, constantValue := 0 }, { name := "SIZE", type := .int, accessFlags := 25, slot := 3, constantValue := 0 }, { name := "BYTES", type := .int, accessFlags := 25, slot := 4, constantValue := 0 }, { name := "serialVersionUID", type := .long, accessFlags := 26, slot := 5, constantValue := 0 }]
  methods := #[k8m0]
  instanceTypes := #[.long]
  staticTypes := #[.long, .long, (.object "java/lang/Class"), .int, .int, .long]
  resolved := Array.replicate 524 none
  statics := none }

def pool9 : Array CpInfo := pool [(1, u "java/lang/Cloneable"), (0, .class_ 1), (0, u "java/lang/Object"), (0, .class_ 3)] 3

/-- java/lang/Cloneable -/
def k9 : Class := { plain "java/lang/Cloneable" (some 0) with
  accessFlags := 1537
  interfaces := #[]
  cf := some (fileOf pool9 2 #[] #[] 1537 4 #[] #[])
  fields := #[]
  methods := #[]
  instanceTypes := #[]
  staticTypes := #[]
  resolved := Array.replicate 8 none
  statics := none }

/-- the primitive byte -/
def k10 : Class := { plain "byte" none with kind := .primitive 'B', accessFlags := 0x411 }
/-- [B -/
def k11 : Class := { plain "[B" (some 0) with kind := .array 10 .byte, interfaces := #[9, 3], accessFlags := 1041 }

/-- the primitive int -/
def k12 : Class := { plain "int" none with kind := .primitive 'I', accessFlags := 0x411 }
/-- [I -/
def k13 : Class := { plain "[I" (some 0) with kind := .array 12 .int, interfaces := #[9, 3], accessFlags := 1041 }

def heap : Heap := #[]
def classes : Array Class := #[k0, k1, k2, k3, k4, k5, k6, k7, k8, k9, k10, k11, k12, k13]
def interned : List (Array UInt16 × Addr) := []
def slotsUsed : Nat := 0
def theMethod : MethodId := ⟨1, 1⟩
def args0 : Array Value := #[.long 5, .long 7, .long (-3), .long 100]
def aboutOver (below : List Frame) : State where
  vm := { classes := classes, interned := interned.toArray }
  heap := heap
  slotsUsed := slotsUsed
  threads := #[{ frames := .invoking theMethod args0 :: below }]
def below0 : List Frame := [.native { method := ⟨0, 0⟩, args := #[] }]
def about1 : State := aboutOver below0
def p0 : Program := .bare "" "" ""
def e0 : Env := launch0.env 0 0 0
theorem w_frames : about1.frames = Frame.invoking theMethod args0 :: below0 := rfl
set_option maxRecDepth 65536 in
theorem w_args : argsFit about1.vm theMethod args0 = true := by decide +kernel
set_option maxRecDepth 65536 in
theorem w_heap : heapFits about1 = true := by decide +kernel
set_option maxRecDepth 65536 in
theorem w_runnable : about1.curStatus? = some .runnable := by decide +kernel
set_option maxRecDepth 65536 in
theorem w_alone : about1.alone = true := by decide +kernel
set_option maxRecDepth 65536 in
theorem w_named : about1.methodNamed? x = some theMethod := by decide +kernel
set_option maxRecDepth 65536 in
theorem w_hears : about1.hears theMethod below0 = true := by decide +kernel
set_option maxRecDepth 65536 in
theorem w_ripe : about1.ripe theMethod args0 below0 = true := by decide +kernel
theorem w_running : about1.status = .running := rfl
set_option maxRecDepth 65536 in
theorem w_room : about1.hasRoom e0.platform room_1 = true :=
  launch0.hasRoom_least _ room_1 (by decide +kernel) (by decide +kernel) (by decide +kernel) (by decide +kernel) (by decide +kernel) (by decide +kernel)
theorem allAtoms_all (ts : List Jvm.Cond) (a : Array Jvm.Value) (st : Jvm.State) : (allAtoms ts).before a st = ts.all (fun c => c.before a st) := by
  induction ts with
  | nil => rfl
  | cons c t ih =>
    show (Jvm.Cond.and c (allAtoms t)).before a st = _
    rw [Jvm.Cond.before_and, ih, List.all_cons]
def words1 : List Jvm.Cond := Jvm.Cond.code x code maxLocals ret :: tables_1
/-- a 'code' word, met by the world's own term for the bytes: nothing is compared byte by byte -/
theorem code_word {y : MethodName} {bytes : ByteArray} {mx : Nat} {rt : Option FieldType} {a : Array Value} {s : State} {m : MethodId} {meth : Method} {c : Code} (h1 : s.methodNamed? y = some m) (h2 : s.vm.method? m = some meth) (h3 : meth.code = some c) (h4 : c.code = bytes)
    (h5 : (c.maxLocals == mx && c.exceptionTable.isEmpty && decide (c.maxStack ≤ mostOperands) && decide (meth.sig.returnType = rt) && !meth.locks && decide (parseMethodDescriptor y.desc = some meth.sig)) = true) : (Jvm.Cond.code y bytes mx rt).before a s = true := by
  simp only [Bool.and_eq_true, beq_iff_eq, Bool.not_eq_true', decide_eq_true_eq] at h5
  obtain ⟨⟨⟨⟨⟨g1, g2⟩, g3⟩, g4⟩, g5⟩, g6⟩ := h5
  simp [Cond.before, Cond.holds, Cond.value, h1, h2, h3, h4, g1, g2, g3, g4, g5, g6]
def isCode : Jvm.Cond → Bool
  | .code _ _ _ _ => true
  | _ => false
theorem all_split {L : List Jvm.Cond} {P : Jvm.Cond → Bool} (h1 : L.all (fun c => isCode c || P c) = true) (h2 : ∀ c ∈ L.filter isCode, P c = true) : L.all P = true := by
  refine List.all_eq_true.mpr fun c hc => ?_
  have h := List.all_eq_true.mp h1 c hc
  rcases Bool.eq_false_or_eq_true (isCode c) with hi | hi
  · exact h2 c (List.mem_filter.mpr ⟨hc, hi⟩)
  · simpa [hi] using h
set_option maxRecDepth 65536 in
theorem w_c0 : (Jvm.Cond.code x code maxLocals ret).before args0 about1 = true := code_word (m := ⟨1, 1⟩) (meth := k1m1) (c := k1c1) (by decide +kernel) rfl rfl rfl (by decide +kernel)
set_option maxRecDepth 65536 in
theorem w_c1 : (Jvm.Cond.code ({ cls := "com/example/multiparty/multiparty/ExactSum", name := "<init>", desc := "()V" } : Jvm.MethodName) prog_8_method_1_code (1 : Nat) (Option.none : Option Jvm.ClassFile.FieldType)).before args0 about1 = true := code_word (m := ⟨2, 0⟩) (meth := k2m0) (c := k2c0) (by decide +kernel) rfl rfl rfl (by decide +kernel)
set_option maxRecDepth 65536 in
theorem w_c2 : (Jvm.Cond.code ({ cls := "java/lang/Object", name := "<init>", desc := "()V" } : Jvm.MethodName) object_method_1_code (1 : Nat) (Option.none : Option Jvm.ClassFile.FieldType)).before args0 about1 = true := code_word (m := ⟨0, 0⟩) (meth := k0m0) (c := k0c0) (by decide +kernel) rfl rfl rfl (by decide +kernel)
set_option maxRecDepth 65536 in
theorem w_c3 : (Jvm.Cond.code ({ cls := "com/example/multiparty/multiparty/ExactSum", name := "signum", desc := "()I" } : Jvm.MethodName) prog_8_method_3_code (1 : Nat) (Option.some Jvm.ClassFile.FieldType.int)).before args0 about1 = true := code_word (m := ⟨2, 2⟩) (meth := k2m2) (c := k2c2) (by decide +kernel) rfl rfl rfl (by decide +kernel)
set_option maxRecDepth 65536 in
theorem w_c4 : (Jvm.Cond.code ({ cls := "java/lang/Long", name := "signum", desc := "(J)I" } : Jvm.MethodName) jdk_35_method_57_code (2 : Nat) (Option.some Jvm.ClassFile.FieldType.int)).before args0 about1 = true := code_word (m := ⟨8, 0⟩) (meth := k8m0) (c := k8c0) (by decide +kernel) rfl rfl rfl (by decide +kernel)
set_option maxRecDepth 65536 in
theorem w_c5 : (Jvm.Cond.code ({ cls := "com/example/multiparty/multiparty/ExactSum", name := "add", desc := "(J)V" } : Jvm.MethodName) prog_8_method_2_code (5 : Nat) (Option.none : Option Jvm.ClassFile.FieldType)).before args0 about1 = true := code_word (m := ⟨2, 1⟩) (meth := k2m1) (c := k2c1) (by decide +kernel) rfl rfl rfl (by decide +kernel)
set_option maxRecDepth 65536 in
theorem w_c6 : (Jvm.Cond.code ({ cls := "com/example/multiparty/multiparty/ExactSumAddPinLaw", name := "sign", desc := "(JJJJ)I" } : Jvm.MethodName) method_3_code (15 : Nat) (Option.some Jvm.ClassFile.FieldType.int)).before args0 about1 = true := code_word (m := ⟨1, 2⟩) (meth := k1m2) (c := k1c2) (by decide +kernel) rfl rfl rfl (by decide +kernel)
def codes1 : List Jvm.Cond := [Jvm.Cond.code x code maxLocals ret, Jvm.Cond.code ({ cls := "com/example/multiparty/multiparty/ExactSum", name := "<init>", desc := "()V" } : Jvm.MethodName) prog_8_method_1_code (1 : Nat) (Option.none : Option Jvm.ClassFile.FieldType), Jvm.Cond.code ({ cls := "java/lang/Object", name := "<init>", desc := "()V" } : Jvm.MethodName) object_method_1_code (1 : Nat) (Option.none : Option Jvm.ClassFile.FieldType), Jvm.Cond.code ({ cls := "com/example/multiparty/multiparty/ExactSum", name := "signum", desc := "()I" } : Jvm.MethodName) prog_8_method_3_code (1 : Nat) (Option.some Jvm.ClassFile.FieldType.int), Jvm.Cond.code ({ cls := "java/lang/Long", name := "signum", desc := "(J)I" } : Jvm.MethodName) jdk_35_method_57_code (2 : Nat) (Option.some Jvm.ClassFile.FieldType.int), Jvm.Cond.code ({ cls := "com/example/multiparty/multiparty/ExactSum", name := "add", desc := "(J)V" } : Jvm.MethodName) prog_8_method_2_code (5 : Nat) (Option.none : Option Jvm.ClassFile.FieldType), Jvm.Cond.code ({ cls := "com/example/multiparty/multiparty/ExactSumAddPinLaw", name := "sign", desc := "(JJJJ)I" } : Jvm.MethodName) method_3_code (15 : Nat) (Option.some Jvm.ClassFile.FieldType.int)]
set_option maxRecDepth 65536 in
theorem codes_eq : words1.filter isCode = codes1 := rfl
theorem w_codes : ∀ c ∈ words1.filter isCode, c.before args0 about1 = true := by
  rw [codes_eq]
  intro c hc
  simp only [codes1, List.mem_cons, List.not_mem_nil, or_false] at hc
  rcases hc with rfl | rfl | rfl | rfl | rfl | rfl | rfl
  · exact w_c0
  · exact w_c1
  · exact w_c2
  · exact w_c3
  · exact w_c4
  · exact w_c5
  · exact w_c6
set_option maxRecDepth 65536 in
theorem w_t1 : (words1.take 24).all (fun c => isCode c || c.before args0 about1) = true := by decide +kernel
set_option maxRecDepth 65536 in
theorem w_t2 : (words1.drop 24).all (fun c => isCode c || c.before args0 about1) = true := by decide +kernel
theorem w_tables : (allAtoms (Jvm.Cond.code x code maxLocals ret :: tables_1)).before args0 about1 = true := by
  rw [allAtoms_all]
  show words1.all (fun c => c.before args0 about1) = true
  refine all_split ?_ w_codes
  rw [← List.take_append_drop 24 words1, List.all_append, w_t1, w_t2]
  rfl
set_option maxRecDepth 65536 in
theorem w_case : (Jvm.Cond.and given_1 narrow_1).before args0 about1 = true := by decide +kernel
theorem w_applies : (headSpec (Jvm.Cond.code x code maxLocals ret :: tables_1) room_1).applies x e0.platform about1 = true :=
  (Spec.applies_iff w_frames).mpr ⟨w_running, w_runnable, w_alone, w_named, w_hears, w_ripe, w_room, w_tables⟩
theorem atStart : AtStart classFile x code maxLocals ret World_1 tables_1 room_1 Calls_1 rest_1 Pre_1 launch0 p0 e0 about1 theMethod args0 below0 :=
  ⟨lists_1, trivial, launch0.admits_env _ _ _, launch0.least_env, fairChoices_fair.cas, fairChoices_fair.clock, w_frames, w_args, w_heap, w_applies, trivial, trivial, w_case⟩
end start1
theorem witness_1 : WitnessClaimed_1 := ⟨start1.p0, start1.e0, start1.about1, start1.theMethod, start1.args0, start1.below0, start1.atStart⟩
end Jvm.Pilot.@@N@@
