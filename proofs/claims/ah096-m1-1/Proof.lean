import JvmDerived
import JvmDerived.Pilot.@@N@@Statement
import JvmDerived.Pilot.@@N@@Code
set_option linter.unusedVariables false
set_option linter.unusedSimpArgs false

namespace Jvm.OwnKit
open Sem ClassFile Op Lib Jvm.Stand Jvm.Free Jvm.LawKit Jvm.RoadKit
section Own
variable {p : Program} {l : Launch} {e : Env} {R : Room} {s : State} {m : MethodId} {args : Array Value} {below : List Frame} {meth : Method} {c : Code} {T : State} {locs : List Loc} {cells slots : Nat} {Q : Option Value → Heap → List Loc → Prop} {C S : Nat}
/-- what a body owes from a state on -/
def Fin (p : Program) (e : Env) (below : List Frame) (s : State) (Q : Option Value → Heap → List Loc → Prop) (C S : Nat) (st : State) : Prop :=
  ∃ s₂ o, Steps p.tables e below st s₂ ∧ s₂.status = .running ∧ Ended s₂ below o ∧ ∃ v L, o = .returned v ∧ Q v s₂.heap L ∧ FrameEnd s o s₂ L C S
theorem Fin.step {st st' : State} (h : ∀ t, Steps p.tables e below st' t → Steps p.tables e below st t) (k : Fin p e below s Q C S st') : Fin p e below s Q C S st := by
  obtain ⟨s₂, o, h1, h2⟩ := k
  exact ⟨s₂, o, h _ h1, h2⟩
theorem Fin.ret (X : Stand p l e R s m args below meth c T locs cells slots) {v : Option Value} {g : JFrame} (hv : meth.sig.returnType = none → v = none) (hlocks : meth.locks = false)
    (hst : ∀ fs, (∀ (f : JFrame) (acts : List Action), f.method = m → f.locked = none → f.entered = [] → (doReturn e (T.setTop f) acts v).1 = T.setFrames fs) → Steps p.tables e below (T.setTop g) (T.setFrames fs))
    (hC : cells ≤ C) (hS : slots ≤ S) (q : Q v T.heap locs) : Fin p e below s Q C S (T.setTop g) := by
  obtain ⟨fs, hr, hrun, hended, hW, hsame⟩ := X.leave (v := v) hv hlocks
  exact ⟨_, _, hst fs hr, hrun, hended, _, _, rfl, q, ⟨_, rfl⟩, hW, hsame.mono hC hS⟩
theorem Fin.retI (X : Stand p l e R s m args below meth c T locs cells slots) (hx : p.tables.exec = Jvm.exec) {pc : Nat} {Ls : Array Slot} {z : Int32} {rest : List Value} (hret : meth.sig.returnType = some .int) (hlocks : meth.locks = false) (hd : decode c.code pc = .ok (.ireturn, 1))
    (hC : cells ≤ C) (hS : slots ≤ S) (q : Q (some (.int z)) T.heap locs) : Fin p e below s Q C S (T.setTop (mkF m pc Ls (.int z :: rest))) :=
  Fin.ret X (fun h => by rw [hret] at h; cases h) hlocks (fun fs hl => retOut X hx hret rfl (Or.inl ⟨rfl, Or.inl rfl, z, rfl⟩) hd hl) hC hS q
theorem Fin.retJ (X : Stand p l e R s m args below meth c T locs cells slots) (hx : p.tables.exec = Jvm.exec) {pc : Nat} {Ls : Array Slot} {z : Int64} {rest : List Value} (hret : meth.sig.returnType = some .long) (hlocks : meth.locks = false) (hd : decode c.code pc = .ok (.lreturn, 1))
    (hC : cells ≤ C) (hS : slots ≤ S) (q : Q (some (.long z)) T.heap locs) : Fin p e below s Q C S (T.setTop (mkF m pc Ls (.long z :: rest))) :=
  Fin.ret X (fun h => by rw [hret] at h; cases h) hlocks (fun fs hl => retOut X hx hret rfl (Or.inr (Or.inl ⟨rfl, rfl, z, rfl⟩)) hd hl) hC hS q
theorem Fin.retD (X : Stand p l e R s m args below meth c T locs cells slots) (hx : p.tables.exec = Jvm.exec) {pc : Nat} {Ls : Array Slot} {z : UInt64} {rest : List Value} (hret : meth.sig.returnType = some .double) (hlocks : meth.locks = false) (hd : decode c.code pc = .ok (.dreturn, 1))
    (hC : cells ≤ C) (hS : slots ≤ S) (q : Q (some (.double z)) T.heap locs) : Fin p e below s Q C S (T.setTop (mkF m pc Ls (.double z :: rest))) :=
  Fin.ret X (fun h => by rw [hret] at h; cases h) hlocks (fun fs hl => retOut X hx hret rfl (Or.inr (Or.inr (Or.inl ⟨rfl, rfl, z, rfl⟩))) hd hl) hC hS q
theorem Fin.retR (X : Stand p l e R s m args below meth c T locs cells slots) (hx : p.tables.exec = Jvm.exec) {pc : Nat} {Ls : Array Slot} {w : Value} {t : FieldType} {rest : List Value} (hret : meth.sig.returnType = some t) (ht : t.isReference = true) (hw : w.isRef = true) (hlocks : meth.locks = false) (hd : decode c.code pc = .ok (.areturn, 1))
    (hC : cells ≤ C) (hS : slots ≤ S) (q : Q (some w) T.heap locs) : Fin p e below s Q C S (T.setTop (mkF m pc Ls (w :: rest))) :=
  Fin.ret X (fun h => by rw [hret] at h; cases h) hlocks (fun fs hl => retOut X hx hret (by cases t <;> simp [FieldType.isReference] at ht <;> cases w <;> simp [Value.isRef] at hw <;> rfl) (Or.inr (Or.inr (Or.inr (Or.inr ⟨rfl, ht, hw⟩)))) hd hl) hC hS q
theorem Fin.retN (X : Stand p l e R s m args below meth c T locs cells slots) (hx : p.tables.exec = Jvm.exec) {pc : Nat} {Ls : Array Slot} {z : Int32} {t : FieldType} {rest : List Value} (hret : meth.sig.returnType = some t) (ht : t = .boolean ∨ t = .byte ∨ t = .char ∨ t = .short) (hlocks : meth.locks = false) (hd : decode c.code pc = .ok (.ireturn, 1))
    (hC : cells ≤ C) (hS : slots ≤ S) (q : Q (some (.int (nar t z))) T.heap locs) : Fin p e below s Q C S (T.setTop (mkF m pc Ls (.int z :: rest))) :=
  Fin.ret X (fun h => by rw [hret] at h; cases h) hlocks (fun fs hl => RoadKit.retN X hx hret ht hd hl) hC hS q
theorem Fin.retV (X : Stand p l e R s m args below meth c T locs cells slots) (hx : p.tables.exec = Jvm.exec) {pc : Nat} {Ls : Array Slot} (hret : meth.sig.returnType = none) (hlocks : meth.locks = false) (hd : decode c.code pc = .ok (.return_, 1))
    (hC : cells ≤ C) (hS : slots ≤ S) (q : Q none T.heap locs) : Fin p e below s Q C S (T.setTop (mkF m pc Ls [])) :=
  Fin.ret X (fun _ => rfl) hlocks (fun fs hl => X.returnOut hx hret hd hl) hC hS q
/-- the same where the walk may intern: the end's frame is ReturnedEndW -/
def FinW (p : Program) (e : Env) (below : List Frame) (s : State) (Q : Option Value → Heap → List Loc → Prop) (C S : Nat) (st : State) : Prop :=
  ∃ s₂ o, Steps p.tables e below st s₂ ∧ s₂.status = .running ∧ Ended s₂ below o ∧ ∃ v L, o = .returned v ∧ Q v s₂.heap L ∧ ReturnedEndW s o s₂ L C S
theorem FinW.step {st st' : State} (h : ∀ t, Steps p.tables e below st' t → Steps p.tables e below st t) (k : FinW p e below s Q C S st') : FinW p e below s Q C S st := by
  obtain ⟨s₂, o, h1, h2⟩ := k
  exact ⟨s₂, o, h _ h1, h2⟩
theorem FinW.ret {vm₁ : Vm} (X : Stand p l e R (s.setVm vm₁) m args below meth c T locs cells slots) {n : Nat} (hS : s.Since vm₁ n) (hn : n ≤ T.heap.size) {v : Option Value} {g : JFrame} (hv : meth.sig.returnType = none → v = none) (hlocks : meth.locks = false)
    (hst : ∀ fs, (∀ (f : JFrame) (acts : List Action), f.method = m → f.locked = none → f.entered = [] → (doReturn e (T.setTop f) acts v).1 = T.setFrames fs) → Steps p.tables e below (T.setTop g) (T.setFrames fs))
    (hC : cells ≤ C) (hS' : slots ≤ S) (q : Q v T.heap locs) : FinW p e below s Q C S (T.setTop g) := by
  obtain ⟨fs, hr, hrun, hended, hW⟩ := X.leaveW hS hn (v := v) hv hlocks
  exact ⟨_, _, hst fs hr, hrun, hended, _, _, rfl, q, hW.1, hW.2.1, hW.2.2.1, hW.2.2.2.mono hC hS'⟩
theorem FinW.retN {vm₁ : Vm} (X : Stand p l e R (s.setVm vm₁) m args below meth c T locs cells slots) {n : Nat} (hS : s.Since vm₁ n) (hn : n ≤ T.heap.size) (hx : p.tables.exec = Jvm.exec) {pc : Nat} {Ls : Array Slot} {z : Int32} {t : FieldType} {rest : List Value} (hret : meth.sig.returnType = some t) (ht : t = .boolean ∨ t = .byte ∨ t = .char ∨ t = .short) (hlocks : meth.locks = false) (hd : decode c.code pc = .ok (.ireturn, 1))
    (hC : cells ≤ C) (hS' : slots ≤ S) (q : Q (some (.int (nar t z))) T.heap locs) : FinW p e below s Q C S (T.setTop (mkF m pc Ls (.int z :: rest))) :=
  FinW.ret X hS hn (fun h => by rw [hret] at h; cases h) hlocks (fun fs hl => RoadKit.retN X hx hret ht hd hl) hC hS' q
theorem FinW.retR {vm₁ : Vm} (X : Stand p l e R (s.setVm vm₁) m args below meth c T locs cells slots) {n : Nat} (hS : s.Since vm₁ n) (hn : n ≤ T.heap.size) (hx : p.tables.exec = Jvm.exec) {pc : Nat} {Ls : Array Slot} {w : Value} {t : FieldType} {rest : List Value} (hret : meth.sig.returnType = some t) (ht : t.isReference = true) (hw : w.isRef = true) (hlocks : meth.locks = false) (hd : decode c.code pc = .ok (.areturn, 1))
    (hC : cells ≤ C) (hS' : slots ≤ S) (q : Q (some w) T.heap locs) : FinW p e below s Q C S (T.setTop (mkF m pc Ls (w :: rest))) :=
  FinW.ret X hS hn (fun h => by rw [hret] at h; cases h) hlocks (fun fs hl => retOut X hx hret (by cases t <;> simp [FieldType.isReference] at ht <;> cases w <;> simp [Value.isRef] at hw <;> rfl) (Or.inr (Or.inr (Or.inr (Or.inr ⟨rfl, ht, hw⟩)))) hd hl) hC hS' q
theorem Fld.cast {Z : State} {h : Heap} {a : Addr} {C n d : String} {v w : Value} (F : Fld Z h a C n d v) (e : v = w) : Fld Z h a C n d w := e ▸ F
theorem Sta_keep {Z : State} {h h' : Heap} {C n d : String} {v : Value} (F : Sta Z h C n d v) (K : Keep h h' []) : Sta Z h' C n d v := by
  obtain ⟨cf, i, k, f, st, cell, h1, h2, h3, h4, h5, r⟩ := F
  exact ⟨cf, i, k, f, st, cell, h1, h2, h3, h4, K.2.1 _ _ h5 nin0, r⟩
theorem Arr_keep {Z : State} {h h' : Heap} {a : Addr} {c : Cell} {ty : FieldType} (F : Arr Z h a c ty) (K : Keep h h' []) : Arr Z h' a c ty := ⟨K.2.1 _ _ F.1 nin0, F.2⟩
/-- the shifts without sign -/
def ushL (x : Int64) (k : Int32) : Int64 := (x.toUInt64 >>> (k &&& 0x3f).toInt64.toUInt64).toInt64
def ushI (x k : Int32) : Int32 := (x.toUInt32 >>> (k &&& 31).toUInt32).toInt32
theorem lcE {x y : Int64} (h : x = y) : lcmpW x y = 0 := by rw [lcW]; exact (lc_eq x y).mpr h
theorem lcNE {x y : Int64} (h : ¬ x = y) : ¬ lcmpW x y = 0 := fun q => h ((lc_eq x y).mp (by rw [← lcW]; exact q))
theorem lcL {x y : Int64} (h : x < y) : lcmpW x y < 0 := by rw [lcW]; exact (lc_lt x y).mpr h
theorem lcNL {x y : Int64} (h : ¬ x < y) : ¬ lcmpW x y < 0 := fun q => h ((lc_lt x y).mp (by rw [← lcW]; exact q))
theorem lcG {x y : Int64} (h : y < x) : 0 < lcmpW x y := by rw [lcW]; exact (lc_gt x y).mpr h
theorem lcNG {x y : Int64} (h : ¬ y < x) : ¬ 0 < lcmpW x y := fun q => h ((lc_gt x y).mp (by rw [← lcW]; exact q))
end Own
end Jvm.OwnKit
namespace Jvm.Pilot.@@N@@
open Jvm Jvm.ClassFile Sem Op Lib Jvm.Free Jvm.Stand Jvm.LawKit Jvm.RoadKit Jvm.OwnKit Bundle Jvm.Pilot.@@N@@.Jvm.D
def own_mx (z : Int64) (k : Int32) : Int64 := z ^^^ ushL z k
def own_mix (x : Int64) : Int64 := own_mx (own_mx (own_mx x 30 * (-4658895280553007687 : Int64)) 27 * (-7723592293110705685 : Int64)) 31
def own_iv (m x : Int64) : Int64 := x * (2 - m * x)
def own_inv (m : Int64) : Int64 := own_iv m (own_iv m (own_iv m (own_iv m (own_iv m (own_iv m m)))))
def own_un (z : Int64) (j k : Int32) : Int64 := (z ^^^ ushL z j) ^^^ ushL z k
def own_unmix (z : Int64) : Int64 := own_un (own_un (own_un z 31 62 * own_inv (-7723592293110705685 : Int64)) 27 54 * own_inv (-4658895280553007687 : Int64)) 30 60
theorem own_i64 {x y : Int64} (h : x.toBitVec = y.toBitVec) : x = y := Int64.toBitVec_inj.mp h
theorem own_ush (x : Int64) (k : Int32) (n : Nat) (hn : n < 64) (h : (k &&& 0x3f).toInt64.toUInt64 = UInt64.ofNat n) : (ushL x k).toBitVec = x.toBitVec >>> n := by
  unfold ushL
  rw [h]
  show (x.toUInt64 >>> UInt64.ofNat n).toBitVec = _
  rw [UInt64.toBitVec_shiftRight]
  show x.toBitVec >>> ((UInt64.ofNat n).toBitVec % 64#64) = _
  have e : ((UInt64.ofNat n).toBitVec % 64#64).toNat = n := by
    simp [BitVec.toNat_umod]
    omega
  rw [BitVec.ushiftRight_eq', e]
theorem own_bv (w : BitVec 64) (k : Nat) (h : 64 ≤ 3 * k) : ((w ^^^ w >>> k) ^^^ (w ^^^ w >>> k) >>> k) ^^^ (w ^^^ w >>> k) >>> (2 * k) = w := by
  apply BitVec.eq_of_getLsbD_eq
  intro i hi
  simp only [BitVec.getLsbD_xor, BitVec.getLsbD_ushiftRight]
  rw [show k + (k + i) = 2 * k + i by omega, show k + (2 * k + i) = 3 * k + i by omega]
  have : w.getLsbD (3 * k + i) = false := BitVec.getLsbD_of_ge _ _ (by omega)
  rw [this]
  cases w.getLsbD i <;> cases w.getLsbD (k + i) <;> cases w.getLsbD (2 * k + i) <;> rfl
theorem own_undo (w : Int64) (j k : Int32) (n : Nat) (hn : 2 * n < 64) (h3 : 64 ≤ 3 * n) (hj : (j &&& 0x3f).toInt64.toUInt64 = UInt64.ofNat n) (hk : (k &&& 0x3f).toInt64.toUInt64 = UInt64.ofNat (2 * n)) : own_un (own_mx w j) j k = w := by
  apply own_i64
  simp only [own_un, own_mx, Int64.toBitVec_xor, own_ush _ j n (by omega) hj, own_ush _ k (2 * n) hn hk]
  exact own_bv _ _ h3
theorem own_m1 (w : Int64) : w * (-4658895280553007687 : Int64) * own_inv (-4658895280553007687 : Int64) = w := by
  rw [Int64.mul_assoc, show (-4658895280553007687 : Int64) * own_inv (-4658895280553007687 : Int64) = 1 by decide +kernel, Int64.mul_one]
theorem own_m2 (w : Int64) : w * (-7723592293110705685 : Int64) * own_inv (-7723592293110705685 : Int64) = w := by
  rw [Int64.mul_assoc, show (-7723592293110705685 : Int64) * own_inv (-7723592293110705685 : Int64) = 1 by decide +kernel, Int64.mul_one]
theorem own_back (x : Int64) : own_unmix (own_mix x) = x := by
  unfold own_unmix own_mix
  rw [own_undo _ 31 62 31 (by decide) (by decide) (by decide) (by decide), own_m2, own_undo _ 27 54 27 (by decide) (by decide) (by decide) (by decide), own_m1, own_undo _ 30 60 30 (by decide) (by decide) (by decide) (by decide)]

theorem d1_0 : decode prog_9_method_1_code 0 = .ok (.aload_n 0, 1) := by decide +kernel
theorem d1_1 : decode prog_9_method_1_code 1 = .ok (.invokespecial 1, 3) := by decide +kernel
theorem d1_4 : decode prog_9_method_1_code 4 = .ok (.aload_n 0, 1) := by decide +kernel
theorem d1_5 : decode prog_9_method_1_code 5 = .ok (.lload_n 1, 1) := by decide +kernel
theorem d1_6 : decode prog_9_method_1_code 6 = .ok (.putfield 7, 3) := by decide +kernel
theorem d1_9 : decode prog_9_method_1_code 9 = .ok (.return_, 1) := by decide +kernel
theorem pn_1 : plainName "com/example/vali/vali/generate/SplitMix" = true := by first | (simp [plainName, overriddenIn]; done) | decide +kernel
theorem ef_rm1 (m : MethodId) (x0 : Addr) (x1 : Int64) : entryFrame m #[(.ref x0), (.long x1)] 3 = mkF m 0 #[.val (.ref x0), .val (.long x1), .second] [] := by first | (simp [entryFrame, mkF, argsToLocals, Value.category]; done) | rfl
def Q1 (Z : State) (a1 : Addr) (q2 : Int64) (u1 : Value) (h0 : Heap) (n0 : Nat) (v : Option Value) (h : Heap) (L : List Loc) : Prop := v = none ∧ Fr n0 L ∧ Keep h0 h [a1] ∧ Fld Z h a1 "com/example/vali/vali/generate/SplitMix" "state" "J" (.long q2)
set_option maxRecDepth 65536 in
set_option maxHeartbeats 40000000 in
theorem rm1 (l : Launch) (Z : State) (a0 : Array Value) (hw : ∀ d ∈ tables_1, d.before a0 Z = true) (ws : List Jvm.Cond) (a1 : Addr) (q2 : Int64) (u1 : Value) (h0 : Heap) (n0 : Nat) (Z0 : n0 ≤ h0.size) (HE_a1 : Exa Z h0 a1 "com/example/vali/vali/generate/SplitMix") (HF_a1_state : Fld Z h0 a1 "com/example/vali/vali/generate/SplitMix" "state" "J" u1) (g_a1 : n0 ≤ a1) :
    MetFree l (⟨"com/example/vali/vali/generate/SplitMix", "<init>", "(J)V"⟩ : MethodName) (head1 (Jvm.Cond.code (⟨"com/example/vali/vali/generate/SplitMix", "<init>", "(J)V"⟩ : MethodName) prog_9_method_1_code 3 none :: ws) ({ frames := 1, cells := 0, slots := 0, locals := 12 } : Room)) (fun a U => a = #[(.ref a1), (.long q2)] ∧ Z.Warmed39 U.vm ∧ U.heap = h0) (fun _ _ _ _ _ => True) (fun _ U o U' => ∃ v L, o = .returned v ∧ Q1 Z a1 q2 u1 h0 n0 v U'.heap L ∧ FrameEnd U o U' L ({ frames := 1, cells := 0, slots := 0, locals := 12 } : Room).cells ({ frames := 1, cells := 0, slots := 0, locals := 12 } : Room).slots) := by
  refine MetFree.of_bodySF (plainFor_of_name pn_1) hisR ?_
  intro p e s m args below meth c s₁ Bd hml0 hP hK
  obtain ⟨rfl, hZ, hh⟩ := hP
  have hx := Bd.exec
  have hby := Bd.bytes
  have hlk := BodyLoose.notSynchronized Bd
  have hret := Bd.returns
  have hml : c.maxLocals = 3 := hml0
  have hown : s.vm.findClass "com/example/vali/vali/generate/SplitMix" = some m.cls := findClass_of_methodNamed Bd.named
  have hnm := (name_of_methodNamed Bd.named Bd.method).1
  have X0 : Stand p l e ({ frames := 1, cells := 0, slots := 0, locals := 12 } : Room) s m #[(.ref a1), (.long q2)] below meth c s₁ [] 0 0 := Stand.of_body Bd
  have e0 : s₁.heap = h0 := by rw [← hh, Bd.state]; rfl
  have N0 := Fr.nil n0
  have K0 : Keep h0 h0 [a1] := Keep.refl h0 _
  refine Fin.step (Q := fun v h L => Q1 Z a1 q2 u1 h0 n0 v h L) (st' := s₁.setTop (mkF m 0 #[.val (.ref a1), .val (.long q2), .second] [])) (fun t k => castTop (ef_rm1 m a1 q2) k) ?_
  show Fin p e below s _ _ _ (s₁.setTop (mkF m 0 #[.val (.ref a1), .val (.long q2), .second] []))
  refine Fin.step (fun _ => XS.aloadN X0.here hx rfl (hb hby d1_0) rfl rfl) ?_
  show Fin p e below s _ _ _ (s₁.setTop (mkF m 1 #[.val (.ref a1), .val (.long q2), .second] [(.ref a1)]))
  obtain ⟨Ty1, Xy1, ey1, sty1⟩ := initO X0 hx hZ hown (hw _ (List.mem_of_getElem? (i := 6) rfl)) (hw _ (List.mem_of_getElem? (i := 7) rfl)) (hw _ (List.mem_of_getElem? (i := 8) rfl)) e0 (g := (mkF m 1 #[.val (.ref a1), .val (.long q2), .second] [(.ref a1)])) rfl (by rw [hml]; rfl) rfl (hb hby d1_1) (by decide) (W := 0) (by show 2 * 0 + _ ≤ _; exact Nat.le_of_eq rfl) (by decide)
  refine Fin.step (sty1) ?_
  show Fin p e below s _ _ _ (Ty1.setTop (mkF m 4 #[.val (.ref a1), .val (.long q2), .second] []))
  refine Fin.step (fun _ => XS.aloadN Xy1.here hx rfl (hb hby d1_4) rfl rfl) ?_
  show Fin p e below s _ _ _ (Ty1.setTop (mkF m 5 #[.val (.ref a1), .val (.long q2), .second] [(.ref a1)]))
  refine Fin.step (fun _ => XS.lloadN Xy1.here hx rfl (hb hby d1_5) rfl) ?_
  show Fin p e below s _ _ _ (Ty1.setTop (mkF m 6 #[.val (.ref a1), .val (.long q2), .second] [(.long q2), (.ref a1)]))
  obtain ⟨Ty2, hy2, Xy2, ey2, Wy2, sty2⟩ := putF Xy1 hx hZ hown (host := "") (Or.inl (hw _ (List.mem_of_getElem? (i := 9) rfl))) Via.refl ey1 HF_a1_state HE_a1 (Or.inl (hw _ (List.mem_of_getElem? (i := 10) rfl))) (hw _ (List.mem_of_getElem? (i := 1) rfl)) (ty := .long) (by decide) rfl rfl (g := (mkF m 6 #[.val (.ref a1), .val (.long q2), .second] [(.long q2), (.ref a1)])) rfl rfl (hb hby d1_6)
  have Fwy2 : Fld Z hy2 a1 "com/example/vali/vali/generate/SplitMix" "state" "J" (.long q2) := HF_a1_state.same Wy2
  have Zy2 : n0 ≤ hy2.size := Nat.le_trans Z0 (Keep.of_wr Wy2).1
  have Ky2 : Keep h0 hy2 [a1] := K0.wr Wy2 (Or.inl (List.mem_of_getElem? (i := 0) rfl))
  have Ny2 := Fr.snoc Xy2 N0 g_a1
  refine Fin.step (sty2) ?_
  show Fin p e below s _ _ _ (Ty2.setTop (mkF m 9 #[.val (.ref a1), .val (.long q2), .second] []))
  refine Fin.retV Xy2 hx hret hlk (hb hby d1_9) (by decide) (by decide) ?_
  show Q1 Z a1 q2 u1 h0 n0 _ Ty2.heap _
  rw [ey2]
  exact ⟨rfl, Ny2, Ky2, Fwy2⟩
theorem d3_0 : decode prog_9_method_2_code 0 = .ok (.aload_n 0, 1) := by decide +kernel
theorem d3_1 : decode prog_9_method_2_code 1 = .ok (.dup, 1) := by decide +kernel
theorem d3_2 : decode prog_9_method_2_code 2 = .ok (.getfield 7, 3) := by decide +kernel
theorem d3_5 : decode prog_9_method_2_code 5 = .ok (.ldc2_w 13, 3) := by decide +kernel
theorem d3_8 : decode prog_9_method_2_code 8 = .ok (.ladd, 1) := by decide +kernel
theorem d3_9 : decode prog_9_method_2_code 9 = .ok (.putfield 7, 3) := by decide +kernel
theorem d3_12 : decode prog_9_method_2_code 12 = .ok (.aload_n 0, 1) := by decide +kernel
theorem d3_13 : decode prog_9_method_2_code 13 = .ok (.getfield 7, 3) := by decide +kernel
theorem d3_16 : decode prog_9_method_2_code 16 = .ok (.lstore_n 1, 1) := by decide +kernel
theorem d3_17 : decode prog_9_method_2_code 17 = .ok (.lload_n 1, 1) := by decide +kernel
theorem d3_18 : decode prog_9_method_2_code 18 = .ok (.lload_n 1, 1) := by decide +kernel
theorem d3_19 : decode prog_9_method_2_code 19 = .ok (.bipush 30, 2) := by decide +kernel
theorem d3_21 : decode prog_9_method_2_code 21 = .ok (.lushr, 1) := by decide +kernel
theorem d3_22 : decode prog_9_method_2_code 22 = .ok (.lxor, 1) := by decide +kernel
theorem d3_23 : decode prog_9_method_2_code 23 = .ok (.ldc2_w 15, 3) := by decide +kernel
theorem d3_26 : decode prog_9_method_2_code 26 = .ok (.lmul, 1) := by decide +kernel
theorem d3_27 : decode prog_9_method_2_code 27 = .ok (.lstore_n 1, 1) := by decide +kernel
theorem d3_28 : decode prog_9_method_2_code 28 = .ok (.lload_n 1, 1) := by decide +kernel
theorem d3_29 : decode prog_9_method_2_code 29 = .ok (.lload_n 1, 1) := by decide +kernel
theorem d3_30 : decode prog_9_method_2_code 30 = .ok (.bipush 27, 2) := by decide +kernel
theorem d3_32 : decode prog_9_method_2_code 32 = .ok (.lushr, 1) := by decide +kernel
theorem d3_33 : decode prog_9_method_2_code 33 = .ok (.lxor, 1) := by decide +kernel
theorem d3_34 : decode prog_9_method_2_code 34 = .ok (.ldc2_w 17, 3) := by decide +kernel
theorem d3_37 : decode prog_9_method_2_code 37 = .ok (.lmul, 1) := by decide +kernel
theorem d3_38 : decode prog_9_method_2_code 38 = .ok (.lstore_n 1, 1) := by decide +kernel
theorem d3_39 : decode prog_9_method_2_code 39 = .ok (.lload_n 1, 1) := by decide +kernel
theorem d3_40 : decode prog_9_method_2_code 40 = .ok (.lload_n 1, 1) := by decide +kernel
theorem d3_41 : decode prog_9_method_2_code 41 = .ok (.bipush 31, 2) := by decide +kernel
theorem d3_43 : decode prog_9_method_2_code 43 = .ok (.lushr, 1) := by decide +kernel
theorem d3_44 : decode prog_9_method_2_code 44 = .ok (.lxor, 1) := by decide +kernel
theorem d3_45 : decode prog_9_method_2_code 45 = .ok (.lreturn, 1) := by decide +kernel
theorem pn_3 : plainName "com/example/vali/vali/generate/SplitMix" = true := by first | (simp [plainName, overriddenIn]; done) | decide +kernel
theorem ef_rm3 (m : MethodId) (x0 : Addr) : entryFrame m #[(.ref x0)] 3 = mkF m 0 #[.val (.ref x0), .unset, .unset] [] := by first | (simp [entryFrame, mkF, argsToLocals, Value.category]; done) | rfl
def Q3 (Z : State) (a1 : Addr) (w : Int64) (h0 : Heap) (n0 : Nat) (v : Option Value) (h : Heap) (L : List Loc) : Prop := v = some (.long (own_mix (w + (-7046029254386353131 : Int64)))) ∧ Fr n0 L ∧ Keep h0 h [a1] ∧ Fld Z h a1 "com/example/vali/vali/generate/SplitMix" "state" "J" (.long (w + (-7046029254386353131 : Int64)))
set_option maxRecDepth 65536 in
set_option maxHeartbeats 40000000 in
theorem rm3 (l : Launch) (Z : State) (a0 : Array Value) (hw : ∀ d ∈ tables_1, d.before a0 Z = true) (ws : List Jvm.Cond) (a1 : Addr) (w : Int64) (h0 : Heap) (n0 : Nat) (Z0 : n0 ≤ h0.size) (HE_a1 : Exa Z h0 a1 "com/example/vali/vali/generate/SplitMix") (HF_a1_state : Fld Z h0 a1 "com/example/vali/vali/generate/SplitMix" "state" "J" (.long w)) (g_a1 : n0 ≤ a1) :
    MetFree l (⟨"com/example/vali/vali/generate/SplitMix", "nextLong", "()J"⟩ : MethodName) (head1 (Jvm.Cond.code (⟨"com/example/vali/vali/generate/SplitMix", "nextLong", "()J"⟩ : MethodName) prog_9_method_2_code 3 (some .long) :: ws) ({ frames := 0, cells := 0, slots := 0, locals := 0 } : Room)) (fun a U => a = #[(.ref a1)] ∧ Z.Warmed39 U.vm ∧ U.heap = h0) (fun _ _ _ _ _ => True) (fun _ U o U' => ∃ v L, o = .returned v ∧ Q3 Z a1 w h0 n0 v U'.heap L ∧ FrameEnd U o U' L ({ frames := 0, cells := 0, slots := 0, locals := 0 } : Room).cells ({ frames := 0, cells := 0, slots := 0, locals := 0 } : Room).slots) := by
  refine MetFree.of_bodySF (plainFor_of_name pn_3) hisR ?_
  intro p e s m args below meth c s₁ Bd hml0 hP hK
  obtain ⟨rfl, hZ, hh⟩ := hP
  have hx := Bd.exec
  have hby := Bd.bytes
  have hlk := BodyLoose.notSynchronized Bd
  have hret := Bd.returns
  have hml : c.maxLocals = 3 := hml0
  have hown : s.vm.findClass "com/example/vali/vali/generate/SplitMix" = some m.cls := findClass_of_methodNamed Bd.named
  have hnm := (name_of_methodNamed Bd.named Bd.method).1
  have X0 : Stand p l e ({ frames := 0, cells := 0, slots := 0, locals := 0 } : Room) s m #[(.ref a1)] below meth c s₁ [] 0 0 := Stand.of_body Bd
  have e0 : s₁.heap = h0 := by rw [← hh, Bd.state]; rfl
  have N0 := Fr.nil n0
  have K0 : Keep h0 h0 [a1] := Keep.refl h0 _
  refine Fin.step (Q := fun v h L => Q3 Z a1 w h0 n0 v h L) (st' := s₁.setTop (mkF m 0 #[.val (.ref a1), .unset, .unset] [])) (fun t k => castTop (ef_rm3 m a1) k) ?_
  show Fin p e below s _ _ _ (s₁.setTop (mkF m 0 #[.val (.ref a1), .unset, .unset] []))
  refine Fin.step (fun _ => XS.aloadN X0.here hx rfl (hb hby d3_0) rfl rfl) ?_
  show Fin p e below s _ _ _ (s₁.setTop (mkF m 1 #[.val (.ref a1), .unset, .unset] [(.ref a1)]))
  refine Fin.step (fun _ => XS.dup X0.here hx rfl (hb hby d3_1) rfl rfl) ?_
  show Fin p e below s _ _ _ (s₁.setTop (mkF m 2 #[.val (.ref a1), .unset, .unset] [(.ref a1), (.ref a1)]))
  obtain ⟨Ty1, Xy1, ey1, sty1⟩ := getF X0 hx hZ hown (host := "") (Or.inl (hw _ (List.mem_of_getElem? (i := 9) rfl))) Via.refl e0 HF_a1_state (g := (mkF m 2 #[.val (.ref a1), .unset, .unset] [(.ref a1), (.ref a1)])) rfl rfl (hb hby d3_2)
  refine Fin.step (sty1) ?_
  show Fin p e below s _ _ _ (Ty1.setTop (mkF m 5 #[.val (.ref a1), .unset, .unset] [(.long w), (.ref a1)]))
  refine Fin.step (Xy1.ldc2Long hx hown (mvT hZ (hw _ (List.mem_of_getElem? (i := 16) rfl))) (g := (mkF m 5 #[.val (.ref a1), .unset, .unset] [(.long w), (.ref a1)])) rfl (hb hby d3_5)) ?_
  show Fin p e below s _ _ _ (Ty1.setTop (mkF m 8 #[.val (.ref a1), .unset, .unset] [(.long (-7046029254386353131 : Int64)), (.long w), (.ref a1)]))
  refine Fin.step (fun _ => XS.ladd Xy1.here hx rfl (hb hby d3_8) rfl) ?_
  show Fin p e below s _ _ _ (Ty1.setTop (mkF m 9 #[.val (.ref a1), .unset, .unset] [(.long (w + (-7046029254386353131 : Int64))), (.ref a1)]))
  obtain ⟨Ty2, hy2, Xy2, ey2, Wy2, sty2⟩ := putF Xy1 hx hZ hown (host := "") (Or.inl (hw _ (List.mem_of_getElem? (i := 9) rfl))) Via.refl ey1 HF_a1_state HE_a1 (Or.inl (hw _ (List.mem_of_getElem? (i := 10) rfl))) (hw _ (List.mem_of_getElem? (i := 1) rfl)) (ty := .long) (by decide) rfl rfl (g := (mkF m 9 #[.val (.ref a1), .unset, .unset] [(.long (w + (-7046029254386353131 : Int64))), (.ref a1)])) rfl rfl (hb hby d3_9)
  have Fwy2 : Fld Z hy2 a1 "com/example/vali/vali/generate/SplitMix" "state" "J" (.long (w + (-7046029254386353131 : Int64))) := HF_a1_state.same Wy2
  have Zy2 : n0 ≤ hy2.size := Nat.le_trans Z0 (Keep.of_wr Wy2).1
  have Ky2 : Keep h0 hy2 [a1] := K0.wr Wy2 (Or.inl (List.mem_of_getElem? (i := 0) rfl))
  have Ny2 := Fr.snoc Xy2 N0 g_a1
  refine Fin.step (sty2) ?_
  show Fin p e below s _ _ _ (Ty2.setTop (mkF m 12 #[.val (.ref a1), .unset, .unset] []))
  refine Fin.step (fun _ => XS.aloadN Xy2.here hx rfl (hb hby d3_12) rfl rfl) ?_
  show Fin p e below s _ _ _ (Ty2.setTop (mkF m 13 #[.val (.ref a1), .unset, .unset] [(.ref a1)]))
  obtain ⟨Ty3, Xy3, ey3, sty3⟩ := getF Xy2 hx hZ hown (host := "") (Or.inl (hw _ (List.mem_of_getElem? (i := 9) rfl))) Via.refl ey2 Fwy2 (g := (mkF m 13 #[.val (.ref a1), .unset, .unset] [(.ref a1)])) rfl rfl (hb hby d3_13)
  refine Fin.step (sty3) ?_
  show Fin p e below s _ _ _ (Ty3.setTop (mkF m 16 #[.val (.ref a1), .unset, .unset] [(.long (w + (-7046029254386353131 : Int64)))]))
  refine Fin.step (fun _ => XS.lstoreN Xy3.here hx rfl (hb hby d3_16) rfl (l' := #[.val (.ref a1), .val (.long (w + (-7046029254386353131 : Int64))), .second]) rfl) ?_
  show Fin p e below s _ _ _ (Ty3.setTop (mkF m 17 #[.val (.ref a1), .val (.long (w + (-7046029254386353131 : Int64))), .second] []))
  refine Fin.step (fun _ => XS.lloadN Xy3.here hx rfl (hb hby d3_17) rfl) ?_
  show Fin p e below s _ _ _ (Ty3.setTop (mkF m 18 #[.val (.ref a1), .val (.long (w + (-7046029254386353131 : Int64))), .second] [(.long (w + (-7046029254386353131 : Int64)))]))
  refine Fin.step (fun _ => XS.lloadN Xy3.here hx rfl (hb hby d3_18) rfl) ?_
  show Fin p e below s _ _ _ (Ty3.setTop (mkF m 19 #[.val (.ref a1), .val (.long (w + (-7046029254386353131 : Int64))), .second] [(.long (w + (-7046029254386353131 : Int64))), (.long (w + (-7046029254386353131 : Int64)))]))
  refine Fin.step (fun _ => XS.bipush Xy3.here hx rfl (hb hby d3_19)) ?_
  show Fin p e below s _ _ _ (Ty3.setTop (mkF m 21 #[.val (.ref a1), .val (.long (w + (-7046029254386353131 : Int64))), .second] [(.int (30 : Int32)), (.long (w + (-7046029254386353131 : Int64))), (.long (w + (-7046029254386353131 : Int64)))]))
  refine Fin.step (fun _ => XS.lushr Xy3.here hx rfl (hb hby d3_21) rfl) ?_
  show Fin p e below s _ _ _ (Ty3.setTop (mkF m 22 #[.val (.ref a1), .val (.long (w + (-7046029254386353131 : Int64))), .second] [(.long (ushL (w + (-7046029254386353131 : Int64)) (30 : Int32))), (.long (w + (-7046029254386353131 : Int64)))]))
  refine Fin.step (fun _ => XS.lxor Xy3.here hx rfl (hb hby d3_22) rfl) ?_
  show Fin p e below s _ _ _ (Ty3.setTop (mkF m 23 #[.val (.ref a1), .val (.long (w + (-7046029254386353131 : Int64))), .second] [(.long ((w + (-7046029254386353131 : Int64)) ^^^ (ushL (w + (-7046029254386353131 : Int64)) (30 : Int32))))]))
  refine Fin.step (Xy3.ldc2Long hx hown (mvT hZ (hw _ (List.mem_of_getElem? (i := 17) rfl))) (g := (mkF m 23 #[.val (.ref a1), .val (.long (w + (-7046029254386353131 : Int64))), .second] [(.long ((w + (-7046029254386353131 : Int64)) ^^^ (ushL (w + (-7046029254386353131 : Int64)) (30 : Int32))))])) rfl (hb hby d3_23)) ?_
  show Fin p e below s _ _ _ (Ty3.setTop (mkF m 26 #[.val (.ref a1), .val (.long (w + (-7046029254386353131 : Int64))), .second] [(.long (-4658895280553007687 : Int64)), (.long ((w + (-7046029254386353131 : Int64)) ^^^ (ushL (w + (-7046029254386353131 : Int64)) (30 : Int32))))]))
  refine Fin.step (fun _ => XS.lmul Xy3.here hx rfl (hb hby d3_26) rfl) ?_
  show Fin p e below s _ _ _ (Ty3.setTop (mkF m 27 #[.val (.ref a1), .val (.long (w + (-7046029254386353131 : Int64))), .second] [(.long (((w + (-7046029254386353131 : Int64)) ^^^ (ushL (w + (-7046029254386353131 : Int64)) (30 : Int32))) * (-4658895280553007687 : Int64)))]))
  refine Fin.step (fun _ => XS.lstoreN Xy3.here hx rfl (hb hby d3_27) rfl (l' := #[.val (.ref a1), .val (.long (((w + (-7046029254386353131 : Int64)) ^^^ (ushL (w + (-7046029254386353131 : Int64)) (30 : Int32))) * (-4658895280553007687 : Int64))), .second]) rfl) ?_
  show Fin p e below s _ _ _ (Ty3.setTop (mkF m 28 #[.val (.ref a1), .val (.long (((w + (-7046029254386353131 : Int64)) ^^^ (ushL (w + (-7046029254386353131 : Int64)) (30 : Int32))) * (-4658895280553007687 : Int64))), .second] []))
  show Fin p e below s _ _ _ (Ty3.setTop (mkF m 28 #[.val (.ref a1), .val (.long (own_mx (w + (-7046029254386353131 : Int64)) 30 * (-4658895280553007687 : Int64))), .second] []))
  refine Fin.step (fun _ => XS.lloadN Xy3.here hx rfl (hb hby d3_28) rfl) ?_
  show Fin p e below s _ _ _ (Ty3.setTop (mkF m 29 #[.val (.ref a1), .val (.long (own_mx (w + (-7046029254386353131 : Int64)) 30 * (-4658895280553007687 : Int64))), .second] [(.long (own_mx (w + (-7046029254386353131 : Int64)) 30 * (-4658895280553007687 : Int64)))]))
  refine Fin.step (fun _ => XS.lloadN Xy3.here hx rfl (hb hby d3_29) rfl) ?_
  show Fin p e below s _ _ _ (Ty3.setTop (mkF m 30 #[.val (.ref a1), .val (.long (own_mx (w + (-7046029254386353131 : Int64)) 30 * (-4658895280553007687 : Int64))), .second] [(.long (own_mx (w + (-7046029254386353131 : Int64)) 30 * (-4658895280553007687 : Int64))), (.long (own_mx (w + (-7046029254386353131 : Int64)) 30 * (-4658895280553007687 : Int64)))]))
  refine Fin.step (fun _ => XS.bipush Xy3.here hx rfl (hb hby d3_30)) ?_
  show Fin p e below s _ _ _ (Ty3.setTop (mkF m 32 #[.val (.ref a1), .val (.long (own_mx (w + (-7046029254386353131 : Int64)) 30 * (-4658895280553007687 : Int64))), .second] [(.int (27 : Int32)), (.long (own_mx (w + (-7046029254386353131 : Int64)) 30 * (-4658895280553007687 : Int64))), (.long (own_mx (w + (-7046029254386353131 : Int64)) 30 * (-4658895280553007687 : Int64)))]))
  refine Fin.step (fun _ => XS.lushr Xy3.here hx rfl (hb hby d3_32) rfl) ?_
  show Fin p e below s _ _ _ (Ty3.setTop (mkF m 33 #[.val (.ref a1), .val (.long (own_mx (w + (-7046029254386353131 : Int64)) 30 * (-4658895280553007687 : Int64))), .second] [(.long (ushL (own_mx (w + (-7046029254386353131 : Int64)) 30 * (-4658895280553007687 : Int64)) (27 : Int32))), (.long (own_mx (w + (-7046029254386353131 : Int64)) 30 * (-4658895280553007687 : Int64)))]))
  refine Fin.step (fun _ => XS.lxor Xy3.here hx rfl (hb hby d3_33) rfl) ?_
  show Fin p e below s _ _ _ (Ty3.setTop (mkF m 34 #[.val (.ref a1), .val (.long (own_mx (w + (-7046029254386353131 : Int64)) 30 * (-4658895280553007687 : Int64))), .second] [(.long ((own_mx (w + (-7046029254386353131 : Int64)) 30 * (-4658895280553007687 : Int64)) ^^^ (ushL (own_mx (w + (-7046029254386353131 : Int64)) 30 * (-4658895280553007687 : Int64)) (27 : Int32))))]))
  refine Fin.step (Xy3.ldc2Long hx hown (mvT hZ (hw _ (List.mem_of_getElem? (i := 18) rfl))) (g := (mkF m 34 #[.val (.ref a1), .val (.long (own_mx (w + (-7046029254386353131 : Int64)) 30 * (-4658895280553007687 : Int64))), .second] [(.long ((own_mx (w + (-7046029254386353131 : Int64)) 30 * (-4658895280553007687 : Int64)) ^^^ (ushL (own_mx (w + (-7046029254386353131 : Int64)) 30 * (-4658895280553007687 : Int64)) (27 : Int32))))])) rfl (hb hby d3_34)) ?_
  show Fin p e below s _ _ _ (Ty3.setTop (mkF m 37 #[.val (.ref a1), .val (.long (own_mx (w + (-7046029254386353131 : Int64)) 30 * (-4658895280553007687 : Int64))), .second] [(.long (-7723592293110705685 : Int64)), (.long ((own_mx (w + (-7046029254386353131 : Int64)) 30 * (-4658895280553007687 : Int64)) ^^^ (ushL (own_mx (w + (-7046029254386353131 : Int64)) 30 * (-4658895280553007687 : Int64)) (27 : Int32))))]))
  refine Fin.step (fun _ => XS.lmul Xy3.here hx rfl (hb hby d3_37) rfl) ?_
  show Fin p e below s _ _ _ (Ty3.setTop (mkF m 38 #[.val (.ref a1), .val (.long (own_mx (w + (-7046029254386353131 : Int64)) 30 * (-4658895280553007687 : Int64))), .second] [(.long (((own_mx (w + (-7046029254386353131 : Int64)) 30 * (-4658895280553007687 : Int64)) ^^^ (ushL (own_mx (w + (-7046029254386353131 : Int64)) 30 * (-4658895280553007687 : Int64)) (27 : Int32))) * (-7723592293110705685 : Int64)))]))
  refine Fin.step (fun _ => XS.lstoreN Xy3.here hx rfl (hb hby d3_38) rfl (l' := #[.val (.ref a1), .val (.long (((own_mx (w + (-7046029254386353131 : Int64)) 30 * (-4658895280553007687 : Int64)) ^^^ (ushL (own_mx (w + (-7046029254386353131 : Int64)) 30 * (-4658895280553007687 : Int64)) (27 : Int32))) * (-7723592293110705685 : Int64))), .second]) rfl) ?_
  show Fin p e below s _ _ _ (Ty3.setTop (mkF m 39 #[.val (.ref a1), .val (.long (((own_mx (w + (-7046029254386353131 : Int64)) 30 * (-4658895280553007687 : Int64)) ^^^ (ushL (own_mx (w + (-7046029254386353131 : Int64)) 30 * (-4658895280553007687 : Int64)) (27 : Int32))) * (-7723592293110705685 : Int64))), .second] []))
  show Fin p e below s _ _ _ (Ty3.setTop (mkF m 39 #[.val (.ref a1), .val (.long (own_mx (own_mx (w + (-7046029254386353131 : Int64)) 30 * (-4658895280553007687 : Int64)) 27 * (-7723592293110705685 : Int64))), .second] []))
  refine Fin.step (fun _ => XS.lloadN Xy3.here hx rfl (hb hby d3_39) rfl) ?_
  show Fin p e below s _ _ _ (Ty3.setTop (mkF m 40 #[.val (.ref a1), .val (.long (own_mx (own_mx (w + (-7046029254386353131 : Int64)) 30 * (-4658895280553007687 : Int64)) 27 * (-7723592293110705685 : Int64))), .second] [(.long (own_mx (own_mx (w + (-7046029254386353131 : Int64)) 30 * (-4658895280553007687 : Int64)) 27 * (-7723592293110705685 : Int64)))]))
  refine Fin.step (fun _ => XS.lloadN Xy3.here hx rfl (hb hby d3_40) rfl) ?_
  show Fin p e below s _ _ _ (Ty3.setTop (mkF m 41 #[.val (.ref a1), .val (.long (own_mx (own_mx (w + (-7046029254386353131 : Int64)) 30 * (-4658895280553007687 : Int64)) 27 * (-7723592293110705685 : Int64))), .second] [(.long (own_mx (own_mx (w + (-7046029254386353131 : Int64)) 30 * (-4658895280553007687 : Int64)) 27 * (-7723592293110705685 : Int64))), (.long (own_mx (own_mx (w + (-7046029254386353131 : Int64)) 30 * (-4658895280553007687 : Int64)) 27 * (-7723592293110705685 : Int64)))]))
  refine Fin.step (fun _ => XS.bipush Xy3.here hx rfl (hb hby d3_41)) ?_
  show Fin p e below s _ _ _ (Ty3.setTop (mkF m 43 #[.val (.ref a1), .val (.long (own_mx (own_mx (w + (-7046029254386353131 : Int64)) 30 * (-4658895280553007687 : Int64)) 27 * (-7723592293110705685 : Int64))), .second] [(.int (31 : Int32)), (.long (own_mx (own_mx (w + (-7046029254386353131 : Int64)) 30 * (-4658895280553007687 : Int64)) 27 * (-7723592293110705685 : Int64))), (.long (own_mx (own_mx (w + (-7046029254386353131 : Int64)) 30 * (-4658895280553007687 : Int64)) 27 * (-7723592293110705685 : Int64)))]))
  refine Fin.step (fun _ => XS.lushr Xy3.here hx rfl (hb hby d3_43) rfl) ?_
  show Fin p e below s _ _ _ (Ty3.setTop (mkF m 44 #[.val (.ref a1), .val (.long (own_mx (own_mx (w + (-7046029254386353131 : Int64)) 30 * (-4658895280553007687 : Int64)) 27 * (-7723592293110705685 : Int64))), .second] [(.long (ushL (own_mx (own_mx (w + (-7046029254386353131 : Int64)) 30 * (-4658895280553007687 : Int64)) 27 * (-7723592293110705685 : Int64)) (31 : Int32))), (.long (own_mx (own_mx (w + (-7046029254386353131 : Int64)) 30 * (-4658895280553007687 : Int64)) 27 * (-7723592293110705685 : Int64)))]))
  refine Fin.step (fun _ => XS.lxor Xy3.here hx rfl (hb hby d3_44) rfl) ?_
  show Fin p e below s _ _ _ (Ty3.setTop (mkF m 45 #[.val (.ref a1), .val (.long (own_mx (own_mx (w + (-7046029254386353131 : Int64)) 30 * (-4658895280553007687 : Int64)) 27 * (-7723592293110705685 : Int64))), .second] [(.long ((own_mx (own_mx (w + (-7046029254386353131 : Int64)) 30 * (-4658895280553007687 : Int64)) 27 * (-7723592293110705685 : Int64)) ^^^ (ushL (own_mx (own_mx (w + (-7046029254386353131 : Int64)) 30 * (-4658895280553007687 : Int64)) 27 * (-7723592293110705685 : Int64)) (31 : Int32))))]))
  refine Fin.retJ Xy3 hx hret hlk (hb hby d3_45) (by decide) (by decide) ?_
  show Q3 Z a1 w h0 n0 _ Ty3.heap _
  rw [ey3]
  exact ⟨rfl, Ny2, Ky2, Fwy2⟩
theorem d5_0 : decode method_3_code 0 = .ok (.lload_n 0, 1) := by decide +kernel
theorem d5_1 : decode method_3_code 1 = .ok (.lstore_n 2, 1) := by decide +kernel
theorem d5_2 : decode method_3_code 2 = .ok (.lload_n 2, 1) := by decide +kernel
theorem d5_3 : decode method_3_code 3 = .ok (.ldc2_w 24, 3) := by decide +kernel
theorem d5_6 : decode method_3_code 6 = .ok (.lload_n 0, 1) := by decide +kernel
theorem d5_7 : decode method_3_code 7 = .ok (.lload_n 2, 1) := by decide +kernel
theorem d5_8 : decode method_3_code 8 = .ok (.lmul, 1) := by decide +kernel
theorem d5_9 : decode method_3_code 9 = .ok (.lsub, 1) := by decide +kernel
theorem d5_10 : decode method_3_code 10 = .ok (.lmul, 1) := by decide +kernel
theorem d5_11 : decode method_3_code 11 = .ok (.lstore_n 2, 1) := by decide +kernel
theorem d5_12 : decode method_3_code 12 = .ok (.lload_n 2, 1) := by decide +kernel
theorem d5_13 : decode method_3_code 13 = .ok (.ldc2_w 24, 3) := by decide +kernel
theorem d5_16 : decode method_3_code 16 = .ok (.lload_n 0, 1) := by decide +kernel
theorem d5_17 : decode method_3_code 17 = .ok (.lload_n 2, 1) := by decide +kernel
theorem d5_18 : decode method_3_code 18 = .ok (.lmul, 1) := by decide +kernel
theorem d5_19 : decode method_3_code 19 = .ok (.lsub, 1) := by decide +kernel
theorem d5_20 : decode method_3_code 20 = .ok (.lmul, 1) := by decide +kernel
theorem d5_21 : decode method_3_code 21 = .ok (.lstore_n 2, 1) := by decide +kernel
theorem d5_22 : decode method_3_code 22 = .ok (.lload_n 2, 1) := by decide +kernel
theorem d5_23 : decode method_3_code 23 = .ok (.ldc2_w 24, 3) := by decide +kernel
theorem d5_26 : decode method_3_code 26 = .ok (.lload_n 0, 1) := by decide +kernel
theorem d5_27 : decode method_3_code 27 = .ok (.lload_n 2, 1) := by decide +kernel
theorem d5_28 : decode method_3_code 28 = .ok (.lmul, 1) := by decide +kernel
theorem d5_29 : decode method_3_code 29 = .ok (.lsub, 1) := by decide +kernel
theorem d5_30 : decode method_3_code 30 = .ok (.lmul, 1) := by decide +kernel
theorem d5_31 : decode method_3_code 31 = .ok (.lstore_n 2, 1) := by decide +kernel
theorem d5_32 : decode method_3_code 32 = .ok (.lload_n 2, 1) := by decide +kernel
theorem d5_33 : decode method_3_code 33 = .ok (.ldc2_w 24, 3) := by decide +kernel
theorem d5_36 : decode method_3_code 36 = .ok (.lload_n 0, 1) := by decide +kernel
theorem d5_37 : decode method_3_code 37 = .ok (.lload_n 2, 1) := by decide +kernel
theorem d5_38 : decode method_3_code 38 = .ok (.lmul, 1) := by decide +kernel
theorem d5_39 : decode method_3_code 39 = .ok (.lsub, 1) := by decide +kernel
theorem d5_40 : decode method_3_code 40 = .ok (.lmul, 1) := by decide +kernel
theorem d5_41 : decode method_3_code 41 = .ok (.lstore_n 2, 1) := by decide +kernel
theorem d5_42 : decode method_3_code 42 = .ok (.lload_n 2, 1) := by decide +kernel
theorem d5_43 : decode method_3_code 43 = .ok (.ldc2_w 24, 3) := by decide +kernel
theorem d5_46 : decode method_3_code 46 = .ok (.lload_n 0, 1) := by decide +kernel
theorem d5_47 : decode method_3_code 47 = .ok (.lload_n 2, 1) := by decide +kernel
theorem d5_48 : decode method_3_code 48 = .ok (.lmul, 1) := by decide +kernel
theorem d5_49 : decode method_3_code 49 = .ok (.lsub, 1) := by decide +kernel
theorem d5_50 : decode method_3_code 50 = .ok (.lmul, 1) := by decide +kernel
theorem d5_51 : decode method_3_code 51 = .ok (.lstore_n 2, 1) := by decide +kernel
theorem d5_52 : decode method_3_code 52 = .ok (.lload_n 2, 1) := by decide +kernel
theorem d5_53 : decode method_3_code 53 = .ok (.ldc2_w 24, 3) := by decide +kernel
theorem d5_56 : decode method_3_code 56 = .ok (.lload_n 0, 1) := by decide +kernel
theorem d5_57 : decode method_3_code 57 = .ok (.lload_n 2, 1) := by decide +kernel
theorem d5_58 : decode method_3_code 58 = .ok (.lmul, 1) := by decide +kernel
theorem d5_59 : decode method_3_code 59 = .ok (.lsub, 1) := by decide +kernel
theorem d5_60 : decode method_3_code 60 = .ok (.lmul, 1) := by decide +kernel
theorem d5_61 : decode method_3_code 61 = .ok (.lstore_n 2, 1) := by decide +kernel
theorem d5_62 : decode method_3_code 62 = .ok (.lload_n 2, 1) := by decide +kernel
theorem d5_63 : decode method_3_code 63 = .ok (.lreturn, 1) := by decide +kernel
theorem pn_5 : plainName "com/example/vali/vali/generate/SplitMixNextLongPinLaw" = true := by first | (simp [plainName, overriddenIn]; done) | decide +kernel
theorem ef_rm5 (m : MethodId) (x0 : Int64) : entryFrame m #[(.long x0)] 4 = mkF m 0 #[.val (.long x0), .second, .unset, .unset] [] := by first | (simp [entryFrame, mkF, argsToLocals, Value.category]; done) | rfl
def Q5 (Z : State) (q1 : Int64) (h0 : Heap) (n0 : Nat) (v : Option Value) (h : Heap) (L : List Loc) : Prop := v = some (.long (own_inv q1)) ∧ Fr n0 L ∧ h = h0
set_option maxRecDepth 65536 in
set_option maxHeartbeats 40000000 in
theorem rm5 (l : Launch) (Z : State) (a0 : Array Value) (hw : ∀ d ∈ tables_1, d.before a0 Z = true) (ws : List Jvm.Cond) (q1 : Int64) (h0 : Heap) (n0 : Nat) (Z0 : n0 ≤ h0.size) :
    MetFree l (⟨"com/example/vali/vali/generate/SplitMixNextLongPinLaw", "inverse", "(J)J"⟩ : MethodName) (head1 (Jvm.Cond.code (⟨"com/example/vali/vali/generate/SplitMixNextLongPinLaw", "inverse", "(J)J"⟩ : MethodName) method_3_code 4 (some .long) :: ws) ({ frames := 0, cells := 0, slots := 0, locals := 0 } : Room)) (fun a U => a = #[(.long q1)] ∧ Z.Warmed39 U.vm ∧ U.heap = h0) (fun _ _ _ _ _ => True) (fun _ U o U' => ∃ v L, o = .returned v ∧ Q5 Z q1 h0 n0 v U'.heap L ∧ FrameEnd U o U' L ({ frames := 0, cells := 0, slots := 0, locals := 0 } : Room).cells ({ frames := 0, cells := 0, slots := 0, locals := 0 } : Room).slots) := by
  refine MetFree.of_bodySF (plainFor_of_name pn_5) hisR ?_
  intro p e s m args below meth c s₁ Bd hml0 hP hK
  obtain ⟨rfl, hZ, hh⟩ := hP
  have hx := Bd.exec
  have hby := Bd.bytes
  have hlk := BodyLoose.notSynchronized Bd
  have hret := Bd.returns
  have hml : c.maxLocals = 4 := hml0
  have hown : s.vm.findClass "com/example/vali/vali/generate/SplitMixNextLongPinLaw" = some m.cls := findClass_of_methodNamed Bd.named
  have hnm := (name_of_methodNamed Bd.named Bd.method).1
  have X0 : Stand p l e ({ frames := 0, cells := 0, slots := 0, locals := 0 } : Room) s m #[(.long q1)] below meth c s₁ [] 0 0 := Stand.of_body Bd
  have e0 : s₁.heap = h0 := by rw [← hh, Bd.state]; rfl
  have N0 := Fr.nil n0
  have K0 : Keep h0 h0 [] := Keep.refl h0 _
  refine Fin.step (Q := fun v h L => Q5 Z q1 h0 n0 v h L) (st' := s₁.setTop (mkF m 0 #[.val (.long q1), .second, .unset, .unset] [])) (fun t k => castTop (ef_rm5 m q1) k) ?_
  show Fin p e below s _ _ _ (s₁.setTop (mkF m 0 #[.val (.long q1), .second, .unset, .unset] []))
  refine Fin.step (fun _ => XS.lloadN X0.here hx rfl (hb hby d5_0) rfl) ?_
  show Fin p e below s _ _ _ (s₁.setTop (mkF m 1 #[.val (.long q1), .second, .unset, .unset] [(.long q1)]))
  refine Fin.step (fun _ => XS.lstoreN X0.here hx rfl (hb hby d5_1) rfl (l' := #[.val (.long q1), .second, .val (.long q1), .second]) rfl) ?_
  show Fin p e below s _ _ _ (s₁.setTop (mkF m 2 #[.val (.long q1), .second, .val (.long q1), .second] []))
  refine Fin.step (fun _ => XS.lloadN X0.here hx rfl (hb hby d5_2) rfl) ?_
  show Fin p e below s _ _ _ (s₁.setTop (mkF m 3 #[.val (.long q1), .second, .val (.long q1), .second] [(.long q1)]))
  refine Fin.step (X0.ldc2Long hx hown (mvT hZ (hw _ (List.mem_of_getElem? (i := 28) rfl))) (g := (mkF m 3 #[.val (.long q1), .second, .val (.long q1), .second] [(.long q1)])) rfl (hb hby d5_3)) ?_
  show Fin p e below s _ _ _ (s₁.setTop (mkF m 6 #[.val (.long q1), .second, .val (.long q1), .second] [(.long (2 : Int64)), (.long q1)]))
  refine Fin.step (fun _ => XS.lloadN X0.here hx rfl (hb hby d5_6) rfl) ?_
  show Fin p e below s _ _ _ (s₁.setTop (mkF m 7 #[.val (.long q1), .second, .val (.long q1), .second] [(.long q1), (.long (2 : Int64)), (.long q1)]))
  refine Fin.step (fun _ => XS.lloadN X0.here hx rfl (hb hby d5_7) rfl) ?_
  show Fin p e below s _ _ _ (s₁.setTop (mkF m 8 #[.val (.long q1), .second, .val (.long q1), .second] [(.long q1), (.long q1), (.long (2 : Int64)), (.long q1)]))
  refine Fin.step (fun _ => XS.lmul X0.here hx rfl (hb hby d5_8) rfl) ?_
  show Fin p e below s _ _ _ (s₁.setTop (mkF m 9 #[.val (.long q1), .second, .val (.long q1), .second] [(.long (q1 * q1)), (.long (2 : Int64)), (.long q1)]))
  refine Fin.step (fun _ => XS.lsub X0.here hx rfl (hb hby d5_9) rfl) ?_
  show Fin p e below s _ _ _ (s₁.setTop (mkF m 10 #[.val (.long q1), .second, .val (.long q1), .second] [(.long ((2 : Int64) - (q1 * q1))), (.long q1)]))
  refine Fin.step (fun _ => XS.lmul X0.here hx rfl (hb hby d5_10) rfl) ?_
  show Fin p e below s _ _ _ (s₁.setTop (mkF m 11 #[.val (.long q1), .second, .val (.long q1), .second] [(.long (q1 * ((2 : Int64) - (q1 * q1))))]))
  refine Fin.step (fun _ => XS.lstoreN X0.here hx rfl (hb hby d5_11) rfl (l' := #[.val (.long q1), .second, .val (.long (q1 * ((2 : Int64) - (q1 * q1)))), .second]) rfl) ?_
  show Fin p e below s _ _ _ (s₁.setTop (mkF m 12 #[.val (.long q1), .second, .val (.long (q1 * ((2 : Int64) - (q1 * q1)))), .second] []))
  show Fin p e below s _ _ _ (s₁.setTop (mkF m 12 #[.val (.long q1), .second, .val (.long (own_iv q1 q1)), .second] []))
  refine Fin.step (fun _ => XS.lloadN X0.here hx rfl (hb hby d5_12) rfl) ?_
  show Fin p e below s _ _ _ (s₁.setTop (mkF m 13 #[.val (.long q1), .second, .val (.long (own_iv q1 q1)), .second] [(.long (own_iv q1 q1))]))
  refine Fin.step (X0.ldc2Long hx hown (mvT hZ (hw _ (List.mem_of_getElem? (i := 28) rfl))) (g := (mkF m 13 #[.val (.long q1), .second, .val (.long (own_iv q1 q1)), .second] [(.long (own_iv q1 q1))])) rfl (hb hby d5_13)) ?_
  show Fin p e below s _ _ _ (s₁.setTop (mkF m 16 #[.val (.long q1), .second, .val (.long (own_iv q1 q1)), .second] [(.long (2 : Int64)), (.long (own_iv q1 q1))]))
  refine Fin.step (fun _ => XS.lloadN X0.here hx rfl (hb hby d5_16) rfl) ?_
  show Fin p e below s _ _ _ (s₁.setTop (mkF m 17 #[.val (.long q1), .second, .val (.long (own_iv q1 q1)), .second] [(.long q1), (.long (2 : Int64)), (.long (own_iv q1 q1))]))
  refine Fin.step (fun _ => XS.lloadN X0.here hx rfl (hb hby d5_17) rfl) ?_
  show Fin p e below s _ _ _ (s₁.setTop (mkF m 18 #[.val (.long q1), .second, .val (.long (own_iv q1 q1)), .second] [(.long (own_iv q1 q1)), (.long q1), (.long (2 : Int64)), (.long (own_iv q1 q1))]))
  refine Fin.step (fun _ => XS.lmul X0.here hx rfl (hb hby d5_18) rfl) ?_
  show Fin p e below s _ _ _ (s₁.setTop (mkF m 19 #[.val (.long q1), .second, .val (.long (own_iv q1 q1)), .second] [(.long (q1 * (own_iv q1 q1))), (.long (2 : Int64)), (.long (own_iv q1 q1))]))
  refine Fin.step (fun _ => XS.lsub X0.here hx rfl (hb hby d5_19) rfl) ?_
  show Fin p e below s _ _ _ (s₁.setTop (mkF m 20 #[.val (.long q1), .second, .val (.long (own_iv q1 q1)), .second] [(.long ((2 : Int64) - (q1 * (own_iv q1 q1)))), (.long (own_iv q1 q1))]))
  refine Fin.step (fun _ => XS.lmul X0.here hx rfl (hb hby d5_20) rfl) ?_
  show Fin p e below s _ _ _ (s₁.setTop (mkF m 21 #[.val (.long q1), .second, .val (.long (own_iv q1 q1)), .second] [(.long ((own_iv q1 q1) * ((2 : Int64) - (q1 * (own_iv q1 q1)))))]))
  refine Fin.step (fun _ => XS.lstoreN X0.here hx rfl (hb hby d5_21) rfl (l' := #[.val (.long q1), .second, .val (.long ((own_iv q1 q1) * ((2 : Int64) - (q1 * (own_iv q1 q1))))), .second]) rfl) ?_
  show Fin p e below s _ _ _ (s₁.setTop (mkF m 22 #[.val (.long q1), .second, .val (.long ((own_iv q1 q1) * ((2 : Int64) - (q1 * (own_iv q1 q1))))), .second] []))
  show Fin p e below s _ _ _ (s₁.setTop (mkF m 22 #[.val (.long q1), .second, .val (.long (own_iv q1 (own_iv q1 q1))), .second] []))
  refine Fin.step (fun _ => XS.lloadN X0.here hx rfl (hb hby d5_22) rfl) ?_
  show Fin p e below s _ _ _ (s₁.setTop (mkF m 23 #[.val (.long q1), .second, .val (.long (own_iv q1 (own_iv q1 q1))), .second] [(.long (own_iv q1 (own_iv q1 q1)))]))
  refine Fin.step (X0.ldc2Long hx hown (mvT hZ (hw _ (List.mem_of_getElem? (i := 28) rfl))) (g := (mkF m 23 #[.val (.long q1), .second, .val (.long (own_iv q1 (own_iv q1 q1))), .second] [(.long (own_iv q1 (own_iv q1 q1)))])) rfl (hb hby d5_23)) ?_
  show Fin p e below s _ _ _ (s₁.setTop (mkF m 26 #[.val (.long q1), .second, .val (.long (own_iv q1 (own_iv q1 q1))), .second] [(.long (2 : Int64)), (.long (own_iv q1 (own_iv q1 q1)))]))
  refine Fin.step (fun _ => XS.lloadN X0.here hx rfl (hb hby d5_26) rfl) ?_
  show Fin p e below s _ _ _ (s₁.setTop (mkF m 27 #[.val (.long q1), .second, .val (.long (own_iv q1 (own_iv q1 q1))), .second] [(.long q1), (.long (2 : Int64)), (.long (own_iv q1 (own_iv q1 q1)))]))
  refine Fin.step (fun _ => XS.lloadN X0.here hx rfl (hb hby d5_27) rfl) ?_
  show Fin p e below s _ _ _ (s₁.setTop (mkF m 28 #[.val (.long q1), .second, .val (.long (own_iv q1 (own_iv q1 q1))), .second] [(.long (own_iv q1 (own_iv q1 q1))), (.long q1), (.long (2 : Int64)), (.long (own_iv q1 (own_iv q1 q1)))]))
  refine Fin.step (fun _ => XS.lmul X0.here hx rfl (hb hby d5_28) rfl) ?_
  show Fin p e below s _ _ _ (s₁.setTop (mkF m 29 #[.val (.long q1), .second, .val (.long (own_iv q1 (own_iv q1 q1))), .second] [(.long (q1 * (own_iv q1 (own_iv q1 q1)))), (.long (2 : Int64)), (.long (own_iv q1 (own_iv q1 q1)))]))
  refine Fin.step (fun _ => XS.lsub X0.here hx rfl (hb hby d5_29) rfl) ?_
  show Fin p e below s _ _ _ (s₁.setTop (mkF m 30 #[.val (.long q1), .second, .val (.long (own_iv q1 (own_iv q1 q1))), .second] [(.long ((2 : Int64) - (q1 * (own_iv q1 (own_iv q1 q1))))), (.long (own_iv q1 (own_iv q1 q1)))]))
  refine Fin.step (fun _ => XS.lmul X0.here hx rfl (hb hby d5_30) rfl) ?_
  show Fin p e below s _ _ _ (s₁.setTop (mkF m 31 #[.val (.long q1), .second, .val (.long (own_iv q1 (own_iv q1 q1))), .second] [(.long ((own_iv q1 (own_iv q1 q1)) * ((2 : Int64) - (q1 * (own_iv q1 (own_iv q1 q1))))))]))
  refine Fin.step (fun _ => XS.lstoreN X0.here hx rfl (hb hby d5_31) rfl (l' := #[.val (.long q1), .second, .val (.long ((own_iv q1 (own_iv q1 q1)) * ((2 : Int64) - (q1 * (own_iv q1 (own_iv q1 q1)))))), .second]) rfl) ?_
  show Fin p e below s _ _ _ (s₁.setTop (mkF m 32 #[.val (.long q1), .second, .val (.long ((own_iv q1 (own_iv q1 q1)) * ((2 : Int64) - (q1 * (own_iv q1 (own_iv q1 q1)))))), .second] []))
  show Fin p e below s _ _ _ (s₁.setTop (mkF m 32 #[.val (.long q1), .second, .val (.long (own_iv q1 (own_iv q1 (own_iv q1 q1)))), .second] []))
  refine Fin.step (fun _ => XS.lloadN X0.here hx rfl (hb hby d5_32) rfl) ?_
  show Fin p e below s _ _ _ (s₁.setTop (mkF m 33 #[.val (.long q1), .second, .val (.long (own_iv q1 (own_iv q1 (own_iv q1 q1)))), .second] [(.long (own_iv q1 (own_iv q1 (own_iv q1 q1))))]))
  refine Fin.step (X0.ldc2Long hx hown (mvT hZ (hw _ (List.mem_of_getElem? (i := 28) rfl))) (g := (mkF m 33 #[.val (.long q1), .second, .val (.long (own_iv q1 (own_iv q1 (own_iv q1 q1)))), .second] [(.long (own_iv q1 (own_iv q1 (own_iv q1 q1))))])) rfl (hb hby d5_33)) ?_
  show Fin p e below s _ _ _ (s₁.setTop (mkF m 36 #[.val (.long q1), .second, .val (.long (own_iv q1 (own_iv q1 (own_iv q1 q1)))), .second] [(.long (2 : Int64)), (.long (own_iv q1 (own_iv q1 (own_iv q1 q1))))]))
  refine Fin.step (fun _ => XS.lloadN X0.here hx rfl (hb hby d5_36) rfl) ?_
  show Fin p e below s _ _ _ (s₁.setTop (mkF m 37 #[.val (.long q1), .second, .val (.long (own_iv q1 (own_iv q1 (own_iv q1 q1)))), .second] [(.long q1), (.long (2 : Int64)), (.long (own_iv q1 (own_iv q1 (own_iv q1 q1))))]))
  refine Fin.step (fun _ => XS.lloadN X0.here hx rfl (hb hby d5_37) rfl) ?_
  show Fin p e below s _ _ _ (s₁.setTop (mkF m 38 #[.val (.long q1), .second, .val (.long (own_iv q1 (own_iv q1 (own_iv q1 q1)))), .second] [(.long (own_iv q1 (own_iv q1 (own_iv q1 q1)))), (.long q1), (.long (2 : Int64)), (.long (own_iv q1 (own_iv q1 (own_iv q1 q1))))]))
  refine Fin.step (fun _ => XS.lmul X0.here hx rfl (hb hby d5_38) rfl) ?_
  show Fin p e below s _ _ _ (s₁.setTop (mkF m 39 #[.val (.long q1), .second, .val (.long (own_iv q1 (own_iv q1 (own_iv q1 q1)))), .second] [(.long (q1 * (own_iv q1 (own_iv q1 (own_iv q1 q1))))), (.long (2 : Int64)), (.long (own_iv q1 (own_iv q1 (own_iv q1 q1))))]))
  refine Fin.step (fun _ => XS.lsub X0.here hx rfl (hb hby d5_39) rfl) ?_
  show Fin p e below s _ _ _ (s₁.setTop (mkF m 40 #[.val (.long q1), .second, .val (.long (own_iv q1 (own_iv q1 (own_iv q1 q1)))), .second] [(.long ((2 : Int64) - (q1 * (own_iv q1 (own_iv q1 (own_iv q1 q1)))))), (.long (own_iv q1 (own_iv q1 (own_iv q1 q1))))]))
  refine Fin.step (fun _ => XS.lmul X0.here hx rfl (hb hby d5_40) rfl) ?_
  show Fin p e below s _ _ _ (s₁.setTop (mkF m 41 #[.val (.long q1), .second, .val (.long (own_iv q1 (own_iv q1 (own_iv q1 q1)))), .second] [(.long ((own_iv q1 (own_iv q1 (own_iv q1 q1))) * ((2 : Int64) - (q1 * (own_iv q1 (own_iv q1 (own_iv q1 q1)))))))]))
  refine Fin.step (fun _ => XS.lstoreN X0.here hx rfl (hb hby d5_41) rfl (l' := #[.val (.long q1), .second, .val (.long ((own_iv q1 (own_iv q1 (own_iv q1 q1))) * ((2 : Int64) - (q1 * (own_iv q1 (own_iv q1 (own_iv q1 q1))))))), .second]) rfl) ?_
  show Fin p e below s _ _ _ (s₁.setTop (mkF m 42 #[.val (.long q1), .second, .val (.long ((own_iv q1 (own_iv q1 (own_iv q1 q1))) * ((2 : Int64) - (q1 * (own_iv q1 (own_iv q1 (own_iv q1 q1))))))), .second] []))
  show Fin p e below s _ _ _ (s₁.setTop (mkF m 42 #[.val (.long q1), .second, .val (.long (own_iv q1 (own_iv q1 (own_iv q1 (own_iv q1 q1))))), .second] []))
  refine Fin.step (fun _ => XS.lloadN X0.here hx rfl (hb hby d5_42) rfl) ?_
  show Fin p e below s _ _ _ (s₁.setTop (mkF m 43 #[.val (.long q1), .second, .val (.long (own_iv q1 (own_iv q1 (own_iv q1 (own_iv q1 q1))))), .second] [(.long (own_iv q1 (own_iv q1 (own_iv q1 (own_iv q1 q1)))))]))
  refine Fin.step (X0.ldc2Long hx hown (mvT hZ (hw _ (List.mem_of_getElem? (i := 28) rfl))) (g := (mkF m 43 #[.val (.long q1), .second, .val (.long (own_iv q1 (own_iv q1 (own_iv q1 (own_iv q1 q1))))), .second] [(.long (own_iv q1 (own_iv q1 (own_iv q1 (own_iv q1 q1)))))])) rfl (hb hby d5_43)) ?_
  show Fin p e below s _ _ _ (s₁.setTop (mkF m 46 #[.val (.long q1), .second, .val (.long (own_iv q1 (own_iv q1 (own_iv q1 (own_iv q1 q1))))), .second] [(.long (2 : Int64)), (.long (own_iv q1 (own_iv q1 (own_iv q1 (own_iv q1 q1)))))]))
  refine Fin.step (fun _ => XS.lloadN X0.here hx rfl (hb hby d5_46) rfl) ?_
  show Fin p e below s _ _ _ (s₁.setTop (mkF m 47 #[.val (.long q1), .second, .val (.long (own_iv q1 (own_iv q1 (own_iv q1 (own_iv q1 q1))))), .second] [(.long q1), (.long (2 : Int64)), (.long (own_iv q1 (own_iv q1 (own_iv q1 (own_iv q1 q1)))))]))
  refine Fin.step (fun _ => XS.lloadN X0.here hx rfl (hb hby d5_47) rfl) ?_
  show Fin p e below s _ _ _ (s₁.setTop (mkF m 48 #[.val (.long q1), .second, .val (.long (own_iv q1 (own_iv q1 (own_iv q1 (own_iv q1 q1))))), .second] [(.long (own_iv q1 (own_iv q1 (own_iv q1 (own_iv q1 q1))))), (.long q1), (.long (2 : Int64)), (.long (own_iv q1 (own_iv q1 (own_iv q1 (own_iv q1 q1)))))]))
  refine Fin.step (fun _ => XS.lmul X0.here hx rfl (hb hby d5_48) rfl) ?_
  show Fin p e below s _ _ _ (s₁.setTop (mkF m 49 #[.val (.long q1), .second, .val (.long (own_iv q1 (own_iv q1 (own_iv q1 (own_iv q1 q1))))), .second] [(.long (q1 * (own_iv q1 (own_iv q1 (own_iv q1 (own_iv q1 q1)))))), (.long (2 : Int64)), (.long (own_iv q1 (own_iv q1 (own_iv q1 (own_iv q1 q1)))))]))
  refine Fin.step (fun _ => XS.lsub X0.here hx rfl (hb hby d5_49) rfl) ?_
  show Fin p e below s _ _ _ (s₁.setTop (mkF m 50 #[.val (.long q1), .second, .val (.long (own_iv q1 (own_iv q1 (own_iv q1 (own_iv q1 q1))))), .second] [(.long ((2 : Int64) - (q1 * (own_iv q1 (own_iv q1 (own_iv q1 (own_iv q1 q1))))))), (.long (own_iv q1 (own_iv q1 (own_iv q1 (own_iv q1 q1)))))]))
  refine Fin.step (fun _ => XS.lmul X0.here hx rfl (hb hby d5_50) rfl) ?_
  show Fin p e below s _ _ _ (s₁.setTop (mkF m 51 #[.val (.long q1), .second, .val (.long (own_iv q1 (own_iv q1 (own_iv q1 (own_iv q1 q1))))), .second] [(.long ((own_iv q1 (own_iv q1 (own_iv q1 (own_iv q1 q1)))) * ((2 : Int64) - (q1 * (own_iv q1 (own_iv q1 (own_iv q1 (own_iv q1 q1))))))))]))
  refine Fin.step (fun _ => XS.lstoreN X0.here hx rfl (hb hby d5_51) rfl (l' := #[.val (.long q1), .second, .val (.long ((own_iv q1 (own_iv q1 (own_iv q1 (own_iv q1 q1)))) * ((2 : Int64) - (q1 * (own_iv q1 (own_iv q1 (own_iv q1 (own_iv q1 q1)))))))), .second]) rfl) ?_
  show Fin p e below s _ _ _ (s₁.setTop (mkF m 52 #[.val (.long q1), .second, .val (.long ((own_iv q1 (own_iv q1 (own_iv q1 (own_iv q1 q1)))) * ((2 : Int64) - (q1 * (own_iv q1 (own_iv q1 (own_iv q1 (own_iv q1 q1)))))))), .second] []))
  show Fin p e below s _ _ _ (s₁.setTop (mkF m 52 #[.val (.long q1), .second, .val (.long (own_iv q1 (own_iv q1 (own_iv q1 (own_iv q1 (own_iv q1 q1)))))), .second] []))
  refine Fin.step (fun _ => XS.lloadN X0.here hx rfl (hb hby d5_52) rfl) ?_
  show Fin p e below s _ _ _ (s₁.setTop (mkF m 53 #[.val (.long q1), .second, .val (.long (own_iv q1 (own_iv q1 (own_iv q1 (own_iv q1 (own_iv q1 q1)))))), .second] [(.long (own_iv q1 (own_iv q1 (own_iv q1 (own_iv q1 (own_iv q1 q1))))))]))
  refine Fin.step (X0.ldc2Long hx hown (mvT hZ (hw _ (List.mem_of_getElem? (i := 28) rfl))) (g := (mkF m 53 #[.val (.long q1), .second, .val (.long (own_iv q1 (own_iv q1 (own_iv q1 (own_iv q1 (own_iv q1 q1)))))), .second] [(.long (own_iv q1 (own_iv q1 (own_iv q1 (own_iv q1 (own_iv q1 q1))))))])) rfl (hb hby d5_53)) ?_
  show Fin p e below s _ _ _ (s₁.setTop (mkF m 56 #[.val (.long q1), .second, .val (.long (own_iv q1 (own_iv q1 (own_iv q1 (own_iv q1 (own_iv q1 q1)))))), .second] [(.long (2 : Int64)), (.long (own_iv q1 (own_iv q1 (own_iv q1 (own_iv q1 (own_iv q1 q1))))))]))
  refine Fin.step (fun _ => XS.lloadN X0.here hx rfl (hb hby d5_56) rfl) ?_
  show Fin p e below s _ _ _ (s₁.setTop (mkF m 57 #[.val (.long q1), .second, .val (.long (own_iv q1 (own_iv q1 (own_iv q1 (own_iv q1 (own_iv q1 q1)))))), .second] [(.long q1), (.long (2 : Int64)), (.long (own_iv q1 (own_iv q1 (own_iv q1 (own_iv q1 (own_iv q1 q1))))))]))
  refine Fin.step (fun _ => XS.lloadN X0.here hx rfl (hb hby d5_57) rfl) ?_
  show Fin p e below s _ _ _ (s₁.setTop (mkF m 58 #[.val (.long q1), .second, .val (.long (own_iv q1 (own_iv q1 (own_iv q1 (own_iv q1 (own_iv q1 q1)))))), .second] [(.long (own_iv q1 (own_iv q1 (own_iv q1 (own_iv q1 (own_iv q1 q1)))))), (.long q1), (.long (2 : Int64)), (.long (own_iv q1 (own_iv q1 (own_iv q1 (own_iv q1 (own_iv q1 q1))))))]))
  refine Fin.step (fun _ => XS.lmul X0.here hx rfl (hb hby d5_58) rfl) ?_
  show Fin p e below s _ _ _ (s₁.setTop (mkF m 59 #[.val (.long q1), .second, .val (.long (own_iv q1 (own_iv q1 (own_iv q1 (own_iv q1 (own_iv q1 q1)))))), .second] [(.long (q1 * (own_iv q1 (own_iv q1 (own_iv q1 (own_iv q1 (own_iv q1 q1))))))), (.long (2 : Int64)), (.long (own_iv q1 (own_iv q1 (own_iv q1 (own_iv q1 (own_iv q1 q1))))))]))
  refine Fin.step (fun _ => XS.lsub X0.here hx rfl (hb hby d5_59) rfl) ?_
  show Fin p e below s _ _ _ (s₁.setTop (mkF m 60 #[.val (.long q1), .second, .val (.long (own_iv q1 (own_iv q1 (own_iv q1 (own_iv q1 (own_iv q1 q1)))))), .second] [(.long ((2 : Int64) - (q1 * (own_iv q1 (own_iv q1 (own_iv q1 (own_iv q1 (own_iv q1 q1)))))))), (.long (own_iv q1 (own_iv q1 (own_iv q1 (own_iv q1 (own_iv q1 q1))))))]))
  refine Fin.step (fun _ => XS.lmul X0.here hx rfl (hb hby d5_60) rfl) ?_
  show Fin p e below s _ _ _ (s₁.setTop (mkF m 61 #[.val (.long q1), .second, .val (.long (own_iv q1 (own_iv q1 (own_iv q1 (own_iv q1 (own_iv q1 q1)))))), .second] [(.long ((own_iv q1 (own_iv q1 (own_iv q1 (own_iv q1 (own_iv q1 q1))))) * ((2 : Int64) - (q1 * (own_iv q1 (own_iv q1 (own_iv q1 (own_iv q1 (own_iv q1 q1)))))))))]))
  refine Fin.step (fun _ => XS.lstoreN X0.here hx rfl (hb hby d5_61) rfl (l' := #[.val (.long q1), .second, .val (.long ((own_iv q1 (own_iv q1 (own_iv q1 (own_iv q1 (own_iv q1 q1))))) * ((2 : Int64) - (q1 * (own_iv q1 (own_iv q1 (own_iv q1 (own_iv q1 (own_iv q1 q1))))))))), .second]) rfl) ?_
  show Fin p e below s _ _ _ (s₁.setTop (mkF m 62 #[.val (.long q1), .second, .val (.long ((own_iv q1 (own_iv q1 (own_iv q1 (own_iv q1 (own_iv q1 q1))))) * ((2 : Int64) - (q1 * (own_iv q1 (own_iv q1 (own_iv q1 (own_iv q1 (own_iv q1 q1))))))))), .second] []))
  show Fin p e below s _ _ _ (s₁.setTop (mkF m 62 #[.val (.long q1), .second, .val (.long (own_iv q1 (own_iv q1 (own_iv q1 (own_iv q1 (own_iv q1 (own_iv q1 q1))))))), .second] []))
  refine Fin.step (fun _ => XS.lloadN X0.here hx rfl (hb hby d5_62) rfl) ?_
  show Fin p e below s _ _ _ (s₁.setTop (mkF m 63 #[.val (.long q1), .second, .val (.long (own_iv q1 (own_iv q1 (own_iv q1 (own_iv q1 (own_iv q1 (own_iv q1 q1))))))), .second] [(.long (own_iv q1 (own_iv q1 (own_iv q1 (own_iv q1 (own_iv q1 (own_iv q1 q1)))))))]))
  refine Fin.retJ X0 hx hret hlk (hb hby d5_63) (by decide) (by decide) ?_
  show Q5 Z q1 h0 n0 _ s₁.heap _
  rw [e0]
  exact ⟨rfl, N0, rfl⟩
theorem d4_0 : decode method_4_code 0 = .ok (.lload_n 0, 1) := by decide +kernel
theorem d4_1 : decode method_4_code 1 = .ok (.lload_n 0, 1) := by decide +kernel
theorem d4_2 : decode method_4_code 2 = .ok (.bipush 31, 2) := by decide +kernel
theorem d4_4 : decode method_4_code 4 = .ok (.lushr, 1) := by decide +kernel
theorem d4_5 : decode method_4_code 5 = .ok (.lxor, 1) := by decide +kernel
theorem d4_6 : decode method_4_code 6 = .ok (.lload_n 0, 1) := by decide +kernel
theorem d4_7 : decode method_4_code 7 = .ok (.bipush 62, 2) := by decide +kernel
theorem d4_9 : decode method_4_code 9 = .ok (.lushr, 1) := by decide +kernel
theorem d4_10 : decode method_4_code 10 = .ok (.lxor, 1) := by decide +kernel
theorem d4_11 : decode method_4_code 11 = .ok (.lstore_n 2, 1) := by decide +kernel
theorem d4_12 : decode method_4_code 12 = .ok (.lload_n 2, 1) := by decide +kernel
theorem d4_13 : decode method_4_code 13 = .ok (.ldc2_w 26, 3) := by decide +kernel
theorem d4_16 : decode method_4_code 16 = .ok (.invokestatic 28, 3) := by decide +kernel
theorem d4_19 : decode method_4_code 19 = .ok (.lmul, 1) := by decide +kernel
theorem d4_20 : decode method_4_code 20 = .ok (.lstore_n 2, 1) := by decide +kernel
theorem d4_21 : decode method_4_code 21 = .ok (.lload_n 2, 1) := by decide +kernel
theorem d4_22 : decode method_4_code 22 = .ok (.lload_n 2, 1) := by decide +kernel
theorem d4_23 : decode method_4_code 23 = .ok (.bipush 27, 2) := by decide +kernel
theorem d4_25 : decode method_4_code 25 = .ok (.lushr, 1) := by decide +kernel
theorem d4_26 : decode method_4_code 26 = .ok (.lxor, 1) := by decide +kernel
theorem d4_27 : decode method_4_code 27 = .ok (.lload_n 2, 1) := by decide +kernel
theorem d4_28 : decode method_4_code 28 = .ok (.bipush 54, 2) := by decide +kernel
theorem d4_30 : decode method_4_code 30 = .ok (.lushr, 1) := by decide +kernel
theorem d4_31 : decode method_4_code 31 = .ok (.lxor, 1) := by decide +kernel
theorem d4_32 : decode method_4_code 32 = .ok (.lstore_n 2, 1) := by decide +kernel
theorem d4_33 : decode method_4_code 33 = .ok (.lload_n 2, 1) := by decide +kernel
theorem d4_34 : decode method_4_code 34 = .ok (.ldc2_w 31, 3) := by decide +kernel
theorem d4_37 : decode method_4_code 37 = .ok (.invokestatic 28, 3) := by decide +kernel
theorem d4_40 : decode method_4_code 40 = .ok (.lmul, 1) := by decide +kernel
theorem d4_41 : decode method_4_code 41 = .ok (.lstore_n 2, 1) := by decide +kernel
theorem d4_42 : decode method_4_code 42 = .ok (.lload_n 2, 1) := by decide +kernel
theorem d4_43 : decode method_4_code 43 = .ok (.lload_n 2, 1) := by decide +kernel
theorem d4_44 : decode method_4_code 44 = .ok (.bipush 30, 2) := by decide +kernel
theorem d4_46 : decode method_4_code 46 = .ok (.lushr, 1) := by decide +kernel
theorem d4_47 : decode method_4_code 47 = .ok (.lxor, 1) := by decide +kernel
theorem d4_48 : decode method_4_code 48 = .ok (.lload_n 2, 1) := by decide +kernel
theorem d4_49 : decode method_4_code 49 = .ok (.bipush 60, 2) := by decide +kernel
theorem d4_51 : decode method_4_code 51 = .ok (.lushr, 1) := by decide +kernel
theorem d4_52 : decode method_4_code 52 = .ok (.lxor, 1) := by decide +kernel
theorem d4_53 : decode method_4_code 53 = .ok (.lstore_n 2, 1) := by decide +kernel
theorem d4_54 : decode method_4_code 54 = .ok (.lload_n 2, 1) := by decide +kernel
theorem d4_55 : decode method_4_code 55 = .ok (.lreturn, 1) := by decide +kernel
theorem pn_4 : plainName "com/example/vali/vali/generate/SplitMixNextLongPinLaw" = true := by first | (simp [plainName, overriddenIn]; done) | decide +kernel
theorem pd_0 : parseMethodDescriptor "(J)J" = some ⟨[.long], some .long⟩ := by decide +kernel
theorem ef_rm4 (m : MethodId) (x0 : Int64) : entryFrame m #[(.long x0)] 4 = mkF m 0 #[.val (.long x0), .second, .unset, .unset] [] := by first | (simp [entryFrame, mkF, argsToLocals, Value.category]; done) | rfl
def Q4 (Z : State) (q1 : Int64) (h0 : Heap) (n0 : Nat) (v : Option Value) (h : Heap) (L : List Loc) : Prop := v = some (.long (own_unmix q1)) ∧ Fr n0 L ∧ h = h0
set_option maxRecDepth 65536 in
set_option maxHeartbeats 40000000 in
theorem rm4 (l : Launch) (Z : State) (a0 : Array Value) (hw : ∀ d ∈ tables_1, d.before a0 Z = true) (ws : List Jvm.Cond) (q1 : Int64) (h0 : Heap) (n0 : Nat) (Z0 : n0 ≤ h0.size) :
    MetFree l (⟨"com/example/vali/vali/generate/SplitMixNextLongPinLaw", "unmix", "(J)J"⟩ : MethodName) (head1 (Jvm.Cond.code (⟨"com/example/vali/vali/generate/SplitMixNextLongPinLaw", "unmix", "(J)J"⟩ : MethodName) method_4_code 4 (some .long) :: ws) ({ frames := 1, cells := 0, slots := 0, locals := 17 } : Room)) (fun a U => a = #[(.long q1)] ∧ Z.Warmed39 U.vm ∧ U.heap = h0) (fun _ _ _ _ _ => True) (fun _ U o U' => ∃ v L, o = .returned v ∧ Q4 Z q1 h0 n0 v U'.heap L ∧ FrameEnd U o U' L ({ frames := 1, cells := 0, slots := 0, locals := 17 } : Room).cells ({ frames := 1, cells := 0, slots := 0, locals := 17 } : Room).slots) := by
  refine MetFree.of_bodySF (plainFor_of_name pn_4) hisR ?_
  intro p e s m args below meth c s₁ Bd hml0 hP hK
  obtain ⟨rfl, hZ, hh⟩ := hP
  have hx := Bd.exec
  have hby := Bd.bytes
  have hlk := BodyLoose.notSynchronized Bd
  have hret := Bd.returns
  have hml : c.maxLocals = 4 := hml0
  have hown : s.vm.findClass "com/example/vali/vali/generate/SplitMixNextLongPinLaw" = some m.cls := findClass_of_methodNamed Bd.named
  have hnm := (name_of_methodNamed Bd.named Bd.method).1
  have X0 : Stand p l e ({ frames := 1, cells := 0, slots := 0, locals := 17 } : Room) s m #[(.long q1)] below meth c s₁ [] 0 0 := Stand.of_body Bd
  have e0 : s₁.heap = h0 := by rw [← hh, Bd.state]; rfl
  have N0 := Fr.nil n0
  have K0 : Keep h0 h0 [] := Keep.refl h0 _
  refine Fin.step (Q := fun v h L => Q4 Z q1 h0 n0 v h L) (st' := s₁.setTop (mkF m 0 #[.val (.long q1), .second, .unset, .unset] [])) (fun t k => castTop (ef_rm4 m q1) k) ?_
  show Fin p e below s _ _ _ (s₁.setTop (mkF m 0 #[.val (.long q1), .second, .unset, .unset] []))
  refine Fin.step (fun _ => XS.lloadN X0.here hx rfl (hb hby d4_0) rfl) ?_
  show Fin p e below s _ _ _ (s₁.setTop (mkF m 1 #[.val (.long q1), .second, .unset, .unset] [(.long q1)]))
  refine Fin.step (fun _ => XS.lloadN X0.here hx rfl (hb hby d4_1) rfl) ?_
  show Fin p e below s _ _ _ (s₁.setTop (mkF m 2 #[.val (.long q1), .second, .unset, .unset] [(.long q1), (.long q1)]))
  refine Fin.step (fun _ => XS.bipush X0.here hx rfl (hb hby d4_2)) ?_
  show Fin p e below s _ _ _ (s₁.setTop (mkF m 4 #[.val (.long q1), .second, .unset, .unset] [(.int (31 : Int32)), (.long q1), (.long q1)]))
  refine Fin.step (fun _ => XS.lushr X0.here hx rfl (hb hby d4_4) rfl) ?_
  show Fin p e below s _ _ _ (s₁.setTop (mkF m 5 #[.val (.long q1), .second, .unset, .unset] [(.long (ushL q1 (31 : Int32))), (.long q1)]))
  refine Fin.step (fun _ => XS.lxor X0.here hx rfl (hb hby d4_5) rfl) ?_
  show Fin p e below s _ _ _ (s₁.setTop (mkF m 6 #[.val (.long q1), .second, .unset, .unset] [(.long (q1 ^^^ (ushL q1 (31 : Int32))))]))
  refine Fin.step (fun _ => XS.lloadN X0.here hx rfl (hb hby d4_6) rfl) ?_
  show Fin p e below s _ _ _ (s₁.setTop (mkF m 7 #[.val (.long q1), .second, .unset, .unset] [(.long q1), (.long (q1 ^^^ (ushL q1 (31 : Int32))))]))
  refine Fin.step (fun _ => XS.bipush X0.here hx rfl (hb hby d4_7)) ?_
  show Fin p e below s _ _ _ (s₁.setTop (mkF m 9 #[.val (.long q1), .second, .unset, .unset] [(.int (62 : Int32)), (.long q1), (.long (q1 ^^^ (ushL q1 (31 : Int32))))]))
  refine Fin.step (fun _ => XS.lushr X0.here hx rfl (hb hby d4_9) rfl) ?_
  show Fin p e below s _ _ _ (s₁.setTop (mkF m 10 #[.val (.long q1), .second, .unset, .unset] [(.long (ushL q1 (62 : Int32))), (.long (q1 ^^^ (ushL q1 (31 : Int32))))]))
  refine Fin.step (fun _ => XS.lxor X0.here hx rfl (hb hby d4_10) rfl) ?_
  show Fin p e below s _ _ _ (s₁.setTop (mkF m 11 #[.val (.long q1), .second, .unset, .unset] [(.long ((q1 ^^^ (ushL q1 (31 : Int32))) ^^^ (ushL q1 (62 : Int32))))]))
  refine Fin.step (fun _ => XS.lstoreN X0.here hx rfl (hb hby d4_11) rfl (l' := #[.val (.long q1), .second, .val (.long ((q1 ^^^ (ushL q1 (31 : Int32))) ^^^ (ushL q1 (62 : Int32)))), .second]) rfl) ?_
  show Fin p e below s _ _ _ (s₁.setTop (mkF m 12 #[.val (.long q1), .second, .val (.long ((q1 ^^^ (ushL q1 (31 : Int32))) ^^^ (ushL q1 (62 : Int32)))), .second] []))
  show Fin p e below s _ _ _ (s₁.setTop (mkF m 12 #[.val (.long q1), .second, .val (.long (own_un q1 31 62)), .second] []))
  refine Fin.step (fun _ => XS.lloadN X0.here hx rfl (hb hby d4_12) rfl) ?_
  show Fin p e below s _ _ _ (s₁.setTop (mkF m 13 #[.val (.long q1), .second, .val (.long (own_un q1 31 62)), .second] [(.long (own_un q1 31 62))]))
  refine Fin.step (X0.ldc2Long hx hown (mvT hZ (hw _ (List.mem_of_getElem? (i := 24) rfl))) (g := (mkF m 13 #[.val (.long q1), .second, .val (.long (own_un q1 31 62)), .second] [(.long (own_un q1 31 62))])) rfl (hb hby d4_13)) ?_
  show Fin p e below s _ _ _ (s₁.setTop (mkF m 16 #[.val (.long q1), .second, .val (.long (own_un q1 31 62)), .second] [(.long (-7723592293110705685 : Int64)), (.long (own_un q1 31 62))]))
  obtain ⟨_, _, ⟨Ty1, Ly1, ky1, ny1⟩, -, Xy1, ⟨Lcy1, hQy1, ly1, yy1, zy1⟩, sty1⟩ := Jvm.LawKit.callS X0 hx (y := (⟨"com/example/vali/vali/generate/SplitMixNextLongPinLaw", "inverse", "(J)J"⟩ : MethodName)) hown (mvT hZ (hw _ (List.mem_of_getElem? (i := 25) rfl))) (mvT hZ (hw _ (List.mem_of_getElem? (i := 26) rfl))) (mvT hZ (hw _ (List.mem_of_getElem? (i := 22) rfl))) (mvT hZ (hw _ (List.mem_of_getElem? (i := 27) rfl))) (by decide) (backOf (W := 2) (rm5 l Z a0 hw [] (-7723592293110705685 : Int64) h0 n0 Z0 ) hZ (hw _ (List.mem_of_getElem? (i := 27) rfl)) (hw _ (List.mem_of_getElem? (i := 22) rfl)) (by decide) (by decide)) (g := (mkF m 16 #[.val (.long q1), .second, .val (.long (own_un q1 31 62)), .second] [(.long (-7723592293110705685 : Int64)), (.long (own_un q1 31 62))])) rfl (by rw [hml]; rfl) (argsL := [(.long (-7723592293110705685 : Int64))]) (rest := [(.long (own_un q1 31 62))]) (lenOf pd_0 rfl) rfl (by show 2 * 0 + _ ≤ _; exact Nat.le_of_eq rfl) (hb hby d4_16) (fun _ _ => ⟨rfl, e0, (by decide : 0 + 0 ≤ _), (by decide : 0 + 0 ≤ _)⟩)
  dsimp only [Pt.U, Pt.locs, Pt.cells, Pt.slots] at Xy1 ly1 yy1 zy1 sty1 hQy1
  subst ly1 yy1 zy1
  obtain ⟨rfl, Nqy1, eqy1⟩ := hQy1
  have Ny1 := Fr.app N0 Nqy1
  refine Fin.step (sty1) ?_
  show Fin p e below s _ _ _ (Ty1.setTop (mkF m 19 #[.val (.long q1), .second, .val (.long (own_un q1 31 62)), .second] [(.long (own_inv (-7723592293110705685 : Int64))), (.long (own_un q1 31 62))]))
  refine Fin.step (fun _ => XS.lmul Xy1.here hx rfl (hb hby d4_19) rfl) ?_
  show Fin p e below s _ _ _ (Ty1.setTop (mkF m 20 #[.val (.long q1), .second, .val (.long (own_un q1 31 62)), .second] [(.long ((own_un q1 31 62) * (own_inv (-7723592293110705685 : Int64))))]))
  refine Fin.step (fun _ => XS.lstoreN Xy1.here hx rfl (hb hby d4_20) rfl (l' := #[.val (.long q1), .second, .val (.long ((own_un q1 31 62) * (own_inv (-7723592293110705685 : Int64)))), .second]) rfl) ?_
  show Fin p e below s _ _ _ (Ty1.setTop (mkF m 21 #[.val (.long q1), .second, .val (.long ((own_un q1 31 62) * (own_inv (-7723592293110705685 : Int64)))), .second] []))
  refine Fin.step (fun _ => XS.lloadN Xy1.here hx rfl (hb hby d4_21) rfl) ?_
  show Fin p e below s _ _ _ (Ty1.setTop (mkF m 22 #[.val (.long q1), .second, .val (.long ((own_un q1 31 62) * (own_inv (-7723592293110705685 : Int64)))), .second] [(.long ((own_un q1 31 62) * (own_inv (-7723592293110705685 : Int64))))]))
  refine Fin.step (fun _ => XS.lloadN Xy1.here hx rfl (hb hby d4_22) rfl) ?_
  show Fin p e below s _ _ _ (Ty1.setTop (mkF m 23 #[.val (.long q1), .second, .val (.long ((own_un q1 31 62) * (own_inv (-7723592293110705685 : Int64)))), .second] [(.long ((own_un q1 31 62) * (own_inv (-7723592293110705685 : Int64)))), (.long ((own_un q1 31 62) * (own_inv (-7723592293110705685 : Int64))))]))
  refine Fin.step (fun _ => XS.bipush Xy1.here hx rfl (hb hby d4_23)) ?_
  show Fin p e below s _ _ _ (Ty1.setTop (mkF m 25 #[.val (.long q1), .second, .val (.long ((own_un q1 31 62) * (own_inv (-7723592293110705685 : Int64)))), .second] [(.int (27 : Int32)), (.long ((own_un q1 31 62) * (own_inv (-7723592293110705685 : Int64)))), (.long ((own_un q1 31 62) * (own_inv (-7723592293110705685 : Int64))))]))
  refine Fin.step (fun _ => XS.lushr Xy1.here hx rfl (hb hby d4_25) rfl) ?_
  show Fin p e below s _ _ _ (Ty1.setTop (mkF m 26 #[.val (.long q1), .second, .val (.long ((own_un q1 31 62) * (own_inv (-7723592293110705685 : Int64)))), .second] [(.long (ushL ((own_un q1 31 62) * (own_inv (-7723592293110705685 : Int64))) (27 : Int32))), (.long ((own_un q1 31 62) * (own_inv (-7723592293110705685 : Int64))))]))
  refine Fin.step (fun _ => XS.lxor Xy1.here hx rfl (hb hby d4_26) rfl) ?_
  show Fin p e below s _ _ _ (Ty1.setTop (mkF m 27 #[.val (.long q1), .second, .val (.long ((own_un q1 31 62) * (own_inv (-7723592293110705685 : Int64)))), .second] [(.long (((own_un q1 31 62) * (own_inv (-7723592293110705685 : Int64))) ^^^ (ushL ((own_un q1 31 62) * (own_inv (-7723592293110705685 : Int64))) (27 : Int32))))]))
  refine Fin.step (fun _ => XS.lloadN Xy1.here hx rfl (hb hby d4_27) rfl) ?_
  show Fin p e below s _ _ _ (Ty1.setTop (mkF m 28 #[.val (.long q1), .second, .val (.long ((own_un q1 31 62) * (own_inv (-7723592293110705685 : Int64)))), .second] [(.long ((own_un q1 31 62) * (own_inv (-7723592293110705685 : Int64)))), (.long (((own_un q1 31 62) * (own_inv (-7723592293110705685 : Int64))) ^^^ (ushL ((own_un q1 31 62) * (own_inv (-7723592293110705685 : Int64))) (27 : Int32))))]))
  refine Fin.step (fun _ => XS.bipush Xy1.here hx rfl (hb hby d4_28)) ?_
  show Fin p e below s _ _ _ (Ty1.setTop (mkF m 30 #[.val (.long q1), .second, .val (.long ((own_un q1 31 62) * (own_inv (-7723592293110705685 : Int64)))), .second] [(.int (54 : Int32)), (.long ((own_un q1 31 62) * (own_inv (-7723592293110705685 : Int64)))), (.long (((own_un q1 31 62) * (own_inv (-7723592293110705685 : Int64))) ^^^ (ushL ((own_un q1 31 62) * (own_inv (-7723592293110705685 : Int64))) (27 : Int32))))]))
  refine Fin.step (fun _ => XS.lushr Xy1.here hx rfl (hb hby d4_30) rfl) ?_
  show Fin p e below s _ _ _ (Ty1.setTop (mkF m 31 #[.val (.long q1), .second, .val (.long ((own_un q1 31 62) * (own_inv (-7723592293110705685 : Int64)))), .second] [(.long (ushL ((own_un q1 31 62) * (own_inv (-7723592293110705685 : Int64))) (54 : Int32))), (.long (((own_un q1 31 62) * (own_inv (-7723592293110705685 : Int64))) ^^^ (ushL ((own_un q1 31 62) * (own_inv (-7723592293110705685 : Int64))) (27 : Int32))))]))
  refine Fin.step (fun _ => XS.lxor Xy1.here hx rfl (hb hby d4_31) rfl) ?_
  show Fin p e below s _ _ _ (Ty1.setTop (mkF m 32 #[.val (.long q1), .second, .val (.long ((own_un q1 31 62) * (own_inv (-7723592293110705685 : Int64)))), .second] [(.long ((((own_un q1 31 62) * (own_inv (-7723592293110705685 : Int64))) ^^^ (ushL ((own_un q1 31 62) * (own_inv (-7723592293110705685 : Int64))) (27 : Int32))) ^^^ (ushL ((own_un q1 31 62) * (own_inv (-7723592293110705685 : Int64))) (54 : Int32))))]))
  refine Fin.step (fun _ => XS.lstoreN Xy1.here hx rfl (hb hby d4_32) rfl (l' := #[.val (.long q1), .second, .val (.long ((((own_un q1 31 62) * (own_inv (-7723592293110705685 : Int64))) ^^^ (ushL ((own_un q1 31 62) * (own_inv (-7723592293110705685 : Int64))) (27 : Int32))) ^^^ (ushL ((own_un q1 31 62) * (own_inv (-7723592293110705685 : Int64))) (54 : Int32)))), .second]) rfl) ?_
  show Fin p e below s _ _ _ (Ty1.setTop (mkF m 33 #[.val (.long q1), .second, .val (.long ((((own_un q1 31 62) * (own_inv (-7723592293110705685 : Int64))) ^^^ (ushL ((own_un q1 31 62) * (own_inv (-7723592293110705685 : Int64))) (27 : Int32))) ^^^ (ushL ((own_un q1 31 62) * (own_inv (-7723592293110705685 : Int64))) (54 : Int32)))), .second] []))
  show Fin p e below s _ _ _ (Ty1.setTop (mkF m 33 #[.val (.long q1), .second, .val (.long (own_un ((own_un q1 31 62) * (own_inv (-7723592293110705685 : Int64))) 27 54)), .second] []))
  refine Fin.step (fun _ => XS.lloadN Xy1.here hx rfl (hb hby d4_33) rfl) ?_
  show Fin p e below s _ _ _ (Ty1.setTop (mkF m 34 #[.val (.long q1), .second, .val (.long (own_un ((own_un q1 31 62) * (own_inv (-7723592293110705685 : Int64))) 27 54)), .second] [(.long (own_un ((own_un q1 31 62) * (own_inv (-7723592293110705685 : Int64))) 27 54))]))
  refine Fin.step (Xy1.ldc2Long hx hown (mvT hZ (hw _ (List.mem_of_getElem? (i := 29) rfl))) (g := (mkF m 34 #[.val (.long q1), .second, .val (.long (own_un ((own_un q1 31 62) * (own_inv (-7723592293110705685 : Int64))) 27 54)), .second] [(.long (own_un ((own_un q1 31 62) * (own_inv (-7723592293110705685 : Int64))) 27 54))])) rfl (hb hby d4_34)) ?_
  show Fin p e below s _ _ _ (Ty1.setTop (mkF m 37 #[.val (.long q1), .second, .val (.long (own_un ((own_un q1 31 62) * (own_inv (-7723592293110705685 : Int64))) 27 54)), .second] [(.long (-4658895280553007687 : Int64)), (.long (own_un ((own_un q1 31 62) * (own_inv (-7723592293110705685 : Int64))) 27 54))]))
  obtain ⟨_, _, ⟨Ty2, Ly2, ky2, ny2⟩, -, Xy2, ⟨Lcy2, hQy2, ly2, yy2, zy2⟩, sty2⟩ := Jvm.LawKit.callS Xy1 hx (y := (⟨"com/example/vali/vali/generate/SplitMixNextLongPinLaw", "inverse", "(J)J"⟩ : MethodName)) hown (mvT hZ (hw _ (List.mem_of_getElem? (i := 25) rfl))) (mvT hZ (hw _ (List.mem_of_getElem? (i := 26) rfl))) (mvT hZ (hw _ (List.mem_of_getElem? (i := 22) rfl))) (mvT hZ (hw _ (List.mem_of_getElem? (i := 27) rfl))) (by decide) (backOf (W := 2) (rm5 l Z a0 hw [] (-4658895280553007687 : Int64) h0 n0 Z0 ) hZ (hw _ (List.mem_of_getElem? (i := 27) rfl)) (hw _ (List.mem_of_getElem? (i := 22) rfl)) (by decide) (by decide)) (g := (mkF m 37 #[.val (.long q1), .second, .val (.long (own_un ((own_un q1 31 62) * (own_inv (-7723592293110705685 : Int64))) 27 54)), .second] [(.long (-4658895280553007687 : Int64)), (.long (own_un ((own_un q1 31 62) * (own_inv (-7723592293110705685 : Int64))) 27 54))])) rfl (by rw [hml]; rfl) (argsL := [(.long (-4658895280553007687 : Int64))]) (rest := [(.long (own_un ((own_un q1 31 62) * (own_inv (-7723592293110705685 : Int64))) 27 54))]) (lenOf pd_0 rfl) rfl (by show 2 * 0 + _ ≤ _; exact Nat.le_of_eq rfl) (hb hby d4_37) (fun _ _ => ⟨rfl, eqy1, (by decide : 0 + 0 ≤ _), (by decide : 0 + 0 ≤ _)⟩)
  dsimp only [Pt.U, Pt.locs, Pt.cells, Pt.slots] at Xy2 ly2 yy2 zy2 sty2 hQy2
  subst ly2 yy2 zy2
  obtain ⟨rfl, Nqy2, eqy2⟩ := hQy2
  have Ny2 := Fr.app Ny1 Nqy2
  refine Fin.step (sty2) ?_
  show Fin p e below s _ _ _ (Ty2.setTop (mkF m 40 #[.val (.long q1), .second, .val (.long (own_un ((own_un q1 31 62) * (own_inv (-7723592293110705685 : Int64))) 27 54)), .second] [(.long (own_inv (-4658895280553007687 : Int64))), (.long (own_un ((own_un q1 31 62) * (own_inv (-7723592293110705685 : Int64))) 27 54))]))
  refine Fin.step (fun _ => XS.lmul Xy2.here hx rfl (hb hby d4_40) rfl) ?_
  show Fin p e below s _ _ _ (Ty2.setTop (mkF m 41 #[.val (.long q1), .second, .val (.long (own_un ((own_un q1 31 62) * (own_inv (-7723592293110705685 : Int64))) 27 54)), .second] [(.long ((own_un ((own_un q1 31 62) * (own_inv (-7723592293110705685 : Int64))) 27 54) * (own_inv (-4658895280553007687 : Int64))))]))
  refine Fin.step (fun _ => XS.lstoreN Xy2.here hx rfl (hb hby d4_41) rfl (l' := #[.val (.long q1), .second, .val (.long ((own_un ((own_un q1 31 62) * (own_inv (-7723592293110705685 : Int64))) 27 54) * (own_inv (-4658895280553007687 : Int64)))), .second]) rfl) ?_
  show Fin p e below s _ _ _ (Ty2.setTop (mkF m 42 #[.val (.long q1), .second, .val (.long ((own_un ((own_un q1 31 62) * (own_inv (-7723592293110705685 : Int64))) 27 54) * (own_inv (-4658895280553007687 : Int64)))), .second] []))
  refine Fin.step (fun _ => XS.lloadN Xy2.here hx rfl (hb hby d4_42) rfl) ?_
  show Fin p e below s _ _ _ (Ty2.setTop (mkF m 43 #[.val (.long q1), .second, .val (.long ((own_un ((own_un q1 31 62) * (own_inv (-7723592293110705685 : Int64))) 27 54) * (own_inv (-4658895280553007687 : Int64)))), .second] [(.long ((own_un ((own_un q1 31 62) * (own_inv (-7723592293110705685 : Int64))) 27 54) * (own_inv (-4658895280553007687 : Int64))))]))
  refine Fin.step (fun _ => XS.lloadN Xy2.here hx rfl (hb hby d4_43) rfl) ?_
  show Fin p e below s _ _ _ (Ty2.setTop (mkF m 44 #[.val (.long q1), .second, .val (.long ((own_un ((own_un q1 31 62) * (own_inv (-7723592293110705685 : Int64))) 27 54) * (own_inv (-4658895280553007687 : Int64)))), .second] [(.long ((own_un ((own_un q1 31 62) * (own_inv (-7723592293110705685 : Int64))) 27 54) * (own_inv (-4658895280553007687 : Int64)))), (.long ((own_un ((own_un q1 31 62) * (own_inv (-7723592293110705685 : Int64))) 27 54) * (own_inv (-4658895280553007687 : Int64))))]))
  refine Fin.step (fun _ => XS.bipush Xy2.here hx rfl (hb hby d4_44)) ?_
  show Fin p e below s _ _ _ (Ty2.setTop (mkF m 46 #[.val (.long q1), .second, .val (.long ((own_un ((own_un q1 31 62) * (own_inv (-7723592293110705685 : Int64))) 27 54) * (own_inv (-4658895280553007687 : Int64)))), .second] [(.int (30 : Int32)), (.long ((own_un ((own_un q1 31 62) * (own_inv (-7723592293110705685 : Int64))) 27 54) * (own_inv (-4658895280553007687 : Int64)))), (.long ((own_un ((own_un q1 31 62) * (own_inv (-7723592293110705685 : Int64))) 27 54) * (own_inv (-4658895280553007687 : Int64))))]))
  refine Fin.step (fun _ => XS.lushr Xy2.here hx rfl (hb hby d4_46) rfl) ?_
  show Fin p e below s _ _ _ (Ty2.setTop (mkF m 47 #[.val (.long q1), .second, .val (.long ((own_un ((own_un q1 31 62) * (own_inv (-7723592293110705685 : Int64))) 27 54) * (own_inv (-4658895280553007687 : Int64)))), .second] [(.long (ushL ((own_un ((own_un q1 31 62) * (own_inv (-7723592293110705685 : Int64))) 27 54) * (own_inv (-4658895280553007687 : Int64))) (30 : Int32))), (.long ((own_un ((own_un q1 31 62) * (own_inv (-7723592293110705685 : Int64))) 27 54) * (own_inv (-4658895280553007687 : Int64))))]))
  refine Fin.step (fun _ => XS.lxor Xy2.here hx rfl (hb hby d4_47) rfl) ?_
  show Fin p e below s _ _ _ (Ty2.setTop (mkF m 48 #[.val (.long q1), .second, .val (.long ((own_un ((own_un q1 31 62) * (own_inv (-7723592293110705685 : Int64))) 27 54) * (own_inv (-4658895280553007687 : Int64)))), .second] [(.long (((own_un ((own_un q1 31 62) * (own_inv (-7723592293110705685 : Int64))) 27 54) * (own_inv (-4658895280553007687 : Int64))) ^^^ (ushL ((own_un ((own_un q1 31 62) * (own_inv (-7723592293110705685 : Int64))) 27 54) * (own_inv (-4658895280553007687 : Int64))) (30 : Int32))))]))
  refine Fin.step (fun _ => XS.lloadN Xy2.here hx rfl (hb hby d4_48) rfl) ?_
  show Fin p e below s _ _ _ (Ty2.setTop (mkF m 49 #[.val (.long q1), .second, .val (.long ((own_un ((own_un q1 31 62) * (own_inv (-7723592293110705685 : Int64))) 27 54) * (own_inv (-4658895280553007687 : Int64)))), .second] [(.long ((own_un ((own_un q1 31 62) * (own_inv (-7723592293110705685 : Int64))) 27 54) * (own_inv (-4658895280553007687 : Int64)))), (.long (((own_un ((own_un q1 31 62) * (own_inv (-7723592293110705685 : Int64))) 27 54) * (own_inv (-4658895280553007687 : Int64))) ^^^ (ushL ((own_un ((own_un q1 31 62) * (own_inv (-7723592293110705685 : Int64))) 27 54) * (own_inv (-4658895280553007687 : Int64))) (30 : Int32))))]))
  refine Fin.step (fun _ => XS.bipush Xy2.here hx rfl (hb hby d4_49)) ?_
  show Fin p e below s _ _ _ (Ty2.setTop (mkF m 51 #[.val (.long q1), .second, .val (.long ((own_un ((own_un q1 31 62) * (own_inv (-7723592293110705685 : Int64))) 27 54) * (own_inv (-4658895280553007687 : Int64)))), .second] [(.int (60 : Int32)), (.long ((own_un ((own_un q1 31 62) * (own_inv (-7723592293110705685 : Int64))) 27 54) * (own_inv (-4658895280553007687 : Int64)))), (.long (((own_un ((own_un q1 31 62) * (own_inv (-7723592293110705685 : Int64))) 27 54) * (own_inv (-4658895280553007687 : Int64))) ^^^ (ushL ((own_un ((own_un q1 31 62) * (own_inv (-7723592293110705685 : Int64))) 27 54) * (own_inv (-4658895280553007687 : Int64))) (30 : Int32))))]))
  refine Fin.step (fun _ => XS.lushr Xy2.here hx rfl (hb hby d4_51) rfl) ?_
  show Fin p e below s _ _ _ (Ty2.setTop (mkF m 52 #[.val (.long q1), .second, .val (.long ((own_un ((own_un q1 31 62) * (own_inv (-7723592293110705685 : Int64))) 27 54) * (own_inv (-4658895280553007687 : Int64)))), .second] [(.long (ushL ((own_un ((own_un q1 31 62) * (own_inv (-7723592293110705685 : Int64))) 27 54) * (own_inv (-4658895280553007687 : Int64))) (60 : Int32))), (.long (((own_un ((own_un q1 31 62) * (own_inv (-7723592293110705685 : Int64))) 27 54) * (own_inv (-4658895280553007687 : Int64))) ^^^ (ushL ((own_un ((own_un q1 31 62) * (own_inv (-7723592293110705685 : Int64))) 27 54) * (own_inv (-4658895280553007687 : Int64))) (30 : Int32))))]))
  refine Fin.step (fun _ => XS.lxor Xy2.here hx rfl (hb hby d4_52) rfl) ?_
  show Fin p e below s _ _ _ (Ty2.setTop (mkF m 53 #[.val (.long q1), .second, .val (.long ((own_un ((own_un q1 31 62) * (own_inv (-7723592293110705685 : Int64))) 27 54) * (own_inv (-4658895280553007687 : Int64)))), .second] [(.long ((((own_un ((own_un q1 31 62) * (own_inv (-7723592293110705685 : Int64))) 27 54) * (own_inv (-4658895280553007687 : Int64))) ^^^ (ushL ((own_un ((own_un q1 31 62) * (own_inv (-7723592293110705685 : Int64))) 27 54) * (own_inv (-4658895280553007687 : Int64))) (30 : Int32))) ^^^ (ushL ((own_un ((own_un q1 31 62) * (own_inv (-7723592293110705685 : Int64))) 27 54) * (own_inv (-4658895280553007687 : Int64))) (60 : Int32))))]))
  refine Fin.step (fun _ => XS.lstoreN Xy2.here hx rfl (hb hby d4_53) rfl (l' := #[.val (.long q1), .second, .val (.long ((((own_un ((own_un q1 31 62) * (own_inv (-7723592293110705685 : Int64))) 27 54) * (own_inv (-4658895280553007687 : Int64))) ^^^ (ushL ((own_un ((own_un q1 31 62) * (own_inv (-7723592293110705685 : Int64))) 27 54) * (own_inv (-4658895280553007687 : Int64))) (30 : Int32))) ^^^ (ushL ((own_un ((own_un q1 31 62) * (own_inv (-7723592293110705685 : Int64))) 27 54) * (own_inv (-4658895280553007687 : Int64))) (60 : Int32)))), .second]) rfl) ?_
  show Fin p e below s _ _ _ (Ty2.setTop (mkF m 54 #[.val (.long q1), .second, .val (.long ((((own_un ((own_un q1 31 62) * (own_inv (-7723592293110705685 : Int64))) 27 54) * (own_inv (-4658895280553007687 : Int64))) ^^^ (ushL ((own_un ((own_un q1 31 62) * (own_inv (-7723592293110705685 : Int64))) 27 54) * (own_inv (-4658895280553007687 : Int64))) (30 : Int32))) ^^^ (ushL ((own_un ((own_un q1 31 62) * (own_inv (-7723592293110705685 : Int64))) 27 54) * (own_inv (-4658895280553007687 : Int64))) (60 : Int32)))), .second] []))
  show Fin p e below s _ _ _ (Ty2.setTop (mkF m 54 #[.val (.long q1), .second, .val (.long (own_un ((own_un ((own_un q1 31 62) * (own_inv (-7723592293110705685 : Int64))) 27 54) * (own_inv (-4658895280553007687 : Int64))) 30 60)), .second] []))
  refine Fin.step (fun _ => XS.lloadN Xy2.here hx rfl (hb hby d4_54) rfl) ?_
  show Fin p e below s _ _ _ (Ty2.setTop (mkF m 55 #[.val (.long q1), .second, .val (.long (own_un ((own_un ((own_un q1 31 62) * (own_inv (-7723592293110705685 : Int64))) 27 54) * (own_inv (-4658895280553007687 : Int64))) 30 60)), .second] [(.long (own_un ((own_un ((own_un q1 31 62) * (own_inv (-7723592293110705685 : Int64))) 27 54) * (own_inv (-4658895280553007687 : Int64))) 30 60))]))
  refine Fin.retJ Xy2 hx hret hlk (hb hby d4_55) (by decide) (by decide) ?_
  show Q4 Z q1 h0 n0 _ Ty2.heap _
  rw [eqy2]
  exact ⟨rfl, Ny2, rfl⟩
theorem pn_0 : plainName "com/example/vali/vali/generate/SplitMixNextLongPinLaw" = true := by first | (simp [plainName, overriddenIn]; done) | decide +kernel
theorem pd_1 : parseMethodDescriptor "(J)V" = some ⟨[.long], none⟩ := by decide +kernel
theorem pd_2 : parseMethodDescriptor "()J" = some ⟨[], some .long⟩ := by decide +kernel
theorem ef_rm0 (m : MethodId) (x0 : Int64) : entryFrame m #[(.long x0)] maxLocals = mkF m 0 #[.val (.long x0), .second, .unset, .unset, .unset, .unset, .unset, .unset, .unset] [] := by first | (simp [entryFrame, mkF, argsToLocals, Value.category, maxLocals]; done) | rfl
def Q0 (Z : State) (q1 : Int64) (h0 : Heap) (n0 : Nat) (v : Option Value) (h : Heap) (L : List Loc) : Prop := v = some (.int (1 : Int32)) ∧ Fr n0 L ∧ Keep h0 h []
set_option maxRecDepth 65536 in
set_option maxHeartbeats 40000000 in
theorem rm0 (l : Launch) (Z : State) (a0 : Array Value) (hw : ∀ d ∈ tables_1, d.before a0 Z = true) (ws : List Jvm.Cond) (q1 : Int64) (h0 : Heap) (n0 : Nat) (Z0 : n0 ≤ h0.size) :
    MetFree l x (head1 (Jvm.Cond.code x code maxLocals ret :: ws) room_1) (fun a U => a = #[(.long q1)] ∧ Z.Warmed39 U.vm ∧ U.heap = h0) (fun _ _ _ _ _ => True) (fun _ U o U' => ∃ v L, o = .returned v ∧ Q0 Z q1 h0 n0 v U'.heap L ∧ FrameEnd U o U' L room_1.cells room_1.slots) := by
  refine MetFree.of_bodySF (plainFor_of_name pn_0) hisR ?_
  intro p e s m args below meth c s₁ Bd hml0 hP hK
  obtain ⟨rfl, hZ, hh⟩ := hP
  have hx := Bd.exec
  have hby := Bd.bytes
  have hlk := BodyLoose.notSynchronized Bd
  have hret := Bd.returns
  have hml : c.maxLocals = 9 := hml0
  have hown : s.vm.findClass "com/example/vali/vali/generate/SplitMixNextLongPinLaw" = some m.cls := findClass_of_methodNamed Bd.named
  have hnm := (name_of_methodNamed Bd.named Bd.method).1
  have X0 : Stand p l e room_1 s m #[(.long q1)] below meth c s₁ [] 0 0 := Stand.of_body Bd
  have e0 : s₁.heap = h0 := by rw [← hh, Bd.state]; rfl
  have N0 := Fr.nil n0
  have K0 : Keep h0 h0 [] := Keep.refl h0 _
  refine Fin.step (Q := fun v h L => Q0 Z q1 h0 n0 v h L) (st' := s₁.setTop (mkF m 0 #[.val (.long q1), .second, .unset, .unset, .unset, .unset, .unset, .unset, .unset] [])) (fun t k => castTop (ef_rm0 m q1) k) ?_
  show Fin p e below s _ _ _ (s₁.setTop (mkF m 0 #[.val (.long q1), .second, .unset, .unset, .unset, .unset, .unset, .unset, .unset] []))
  obtain ⟨Ty1, hy1, Xy1, ey1, Ey1, Ay1, Dy1, -, sty1⟩ := newO X0 hx hZ hown (hw _ (List.mem_of_getElem? (i := 0) rfl)) (hw _ (List.mem_of_getElem? (i := 1) rfl)) (hw _ (List.mem_of_getElem? (i := 2) rfl)) e0 (g := (mkF m 0 #[.val (.long q1), .second, .unset, .unset, .unset, .unset, .unset, .unset, .unset] [])) rfl (hb hby at_0) (by decide) (by decide)
  obtain ⟨by1, gy1⟩ : ∃ z, z = h0.size := ⟨_, rfl⟩
  rw [← gy1] at Ay1 Dy1 sty1
  have gzy1 : n0 ≤ by1 := Nat.le_trans Z0 (Nat.le_of_eq gy1.symm)
  have szy1 : h0.size ≤ by1 := Nat.le_trans K0.1 (Nat.le_of_eq gy1.symm)
  have Zy1 : n0 ≤ hy1.size := Nat.le_trans Z0 Ey1.1
  have Ky1 : Keep h0 hy1 [] := K0.ext Ey1
  have F_state_by1 : Fld Z hy1 by1 "com/example/vali/vali/generate/SplitMix" "state" "J" (.long (0 : Int64)) := Dy1 (Or.inl (hw _ (List.mem_of_getElem? (i := 10) rfl))) (ty := .long) (by decide)
  refine Fin.step (sty1) ?_
  show Fin p e below s _ _ _ (Ty1.setTop (mkF m 3 #[.val (.long q1), .second, .unset, .unset, .unset, .unset, .unset, .unset, .unset] [(.ref by1)]))
  refine Fin.step (fun _ => XS.dup Xy1.here hx rfl (hb hby at_3) rfl rfl) ?_
  show Fin p e below s _ _ _ (Ty1.setTop (mkF m 4 #[.val (.long q1), .second, .unset, .unset, .unset, .unset, .unset, .unset, .unset] [(.ref by1), (.ref by1)]))
  refine Fin.step (fun _ => XS.lloadN Xy1.here hx rfl (hb hby at_4) rfl) ?_
  show Fin p e below s _ _ _ (Ty1.setTop (mkF m 5 #[.val (.long q1), .second, .unset, .unset, .unset, .unset, .unset, .unset, .unset] [(.long q1), (.ref by1), (.ref by1)]))
  obtain ⟨_, _, ⟨Ty2, Ly2, ky2, ny2⟩, -, Xy2, ⟨Lcy2, hQy2, ly2, yy2, zy2⟩, sty2⟩ := Xy1.specialBack hx (y := (⟨"com/example/vali/vali/generate/SplitMix", "<init>", "(J)V"⟩ : MethodName)) rfl hown (mvT hZ (hw _ (List.mem_of_getElem? (i := 3) rfl))) (mvT hZ (hw _ (List.mem_of_getElem? (i := 4) rfl))) (mvT hZ (hw _ (List.mem_of_getElem? (i := 5) rfl))) (by decide) (backOf (W := 1) (rm1 l Z a0 hw [] by1 q1 (.long (0 : Int64)) hy1 n0 Zy1 Ay1 F_state_by1 gzy1) hZ (hw _ (List.mem_of_getElem? (i := 5) rfl)) (hw _ (List.mem_of_getElem? (i := 2) rfl)) (by decide) (by decide)) (g := (mkF m 5 #[.val (.long q1), .second, .unset, .unset, .unset, .unset, .unset, .unset, .unset] [(.long q1), (.ref by1), (.ref by1)])) rfl (by rw [hml]; rfl) (Steps.refl _) (a := by1) (argsL := [(.long q1)]) (rest := [(.ref by1)]) (lenOf pd_1 rfl) rfl (by show 2 * 0 + _ ≤ _; exact Nat.le_of_eq rfl) (hb hby at_5) (fun _ _ => ⟨rfl, ey1, (by decide : 1 + 0 ≤ _), (by decide : 1 + 0 ≤ _)⟩)
  dsimp only [Pt.U, Pt.locs, Pt.cells, Pt.slots] at Xy2 ly2 yy2 zy2 sty2 hQy2
  subst ly2 yy2 zy2
  obtain ⟨rfl, Nqy2, Kcy2, fy2_0⟩ := hQy2
  have Ny2 := Fr.app N0 Nqy2
  have Zy2 : n0 ≤ Ty2.heap.size := Nat.le_trans Zy1 Kcy2.1
  have Ky2 : Keep h0 Ty2.heap [] := Ky1.trans Kcy2 (allS (Or.inr szy1) all0)
  refine Fin.step (fun _ k => sty2.trans k) ?_
  show Fin p e below s _ _ _ (Ty2.setTop (mkF m 8 #[.val (.long q1), .second, .unset, .unset, .unset, .unset, .unset, .unset, .unset] [(.ref by1)]))
  refine Fin.step (fun _ => XS.astoreN Xy2.here hx rfl (hb hby at_8) rfl rfl (l' := #[.val (.long q1), .second, .val (.ref by1), .unset, .unset, .unset, .unset, .unset, .unset]) rfl) ?_
  show Fin p e below s _ _ _ (Ty2.setTop (mkF m 9 #[.val (.long q1), .second, .val (.ref by1), .unset, .unset, .unset, .unset, .unset, .unset] []))
  refine Fin.step (fun _ => XS.aloadN Xy2.here hx rfl (hb hby at_9) rfl rfl) ?_
  show Fin p e below s _ _ _ (Ty2.setTop (mkF m 10 #[.val (.long q1), .second, .val (.ref by1), .unset, .unset, .unset, .unset, .unset, .unset] [(.ref by1)]))
  obtain ⟨cqy3, kqy3, qy3a, qy3b, qy3c⟩ := isOf hZ rfl (Ay1.keep Kcy2)
  obtain ⟨_, _, ⟨Ty3, Ly3, ky3, ny3⟩, -, Xy3, ⟨Lcy3, hQy3, ly3, yy3, zy3⟩, sty3⟩ := Xy2.virtualBack hx (y := (⟨"com/example/vali/vali/generate/SplitMix", "nextLong", "()J"⟩ : MethodName)) (z := (⟨"com/example/vali/vali/generate/SplitMix", "nextLong", "()J"⟩ : MethodName)) hown (mvT hZ (hw _ (List.mem_of_getElem? (i := 11) rfl))) (mvT hZ (hw _ (List.mem_of_getElem? (i := 12) rfl))) (notFace_of_selects (args := #[]) (mvT hZ (hw _ (List.mem_of_getElem? (i := 14) rfl)))) (mvT hZ (hw _ (List.mem_of_getElem? (i := 14) rfl))) (mvT hZ (hw _ (List.mem_of_getElem? (i := 13) rfl))) (by decide) (backOf (W := 0) (rm3 l Z a0 hw [] by1 q1 Ty2.heap n0 Zy2 (Ay1.keep Kcy2) fy2_0 gzy1) hZ (hw _ (List.mem_of_getElem? (i := 15) rfl)) (hw _ (List.mem_of_getElem? (i := 2) rfl)) (by decide) (by decide)) qy3a qy3c (g := (mkF m 10 #[.val (.long q1), .second, .val (.ref by1), .unset, .unset, .unset, .unset, .unset, .unset] [(.ref by1)])) rfl (by rw [hml]; rfl) (Steps.refl _) (argsL := []) (rest := []) (lenOf pd_2 rfl) rfl (by show 2 * 0 + _ ≤ _; exact Nat.le_of_eq rfl) (hb hby at_10) (fun _ _ => ⟨rfl, rfl, (by decide : 1 + 0 ≤ _), (by decide : 1 + 0 ≤ _)⟩)
  dsimp only [Pt.U, Pt.locs, Pt.cells, Pt.slots] at Xy3 ly3 yy3 zy3 sty3 hQy3
  subst ly3 yy3 zy3
  obtain ⟨rfl, Nqy3, Kcy3, fy3_0⟩ := hQy3
  have Ny3 := Fr.app Ny2 Nqy3
  have Zy3 : n0 ≤ Ty3.heap.size := Nat.le_trans Zy2 Kcy3.1
  have Ky3 : Keep h0 Ty3.heap [] := Ky2.trans Kcy3 (allS (Or.inr szy1) all0)
  refine Fin.step (fun _ k => sty3.trans k) ?_
  show Fin p e below s _ _ _ (Ty3.setTop (mkF m 13 #[.val (.long q1), .second, .val (.ref by1), .unset, .unset, .unset, .unset, .unset, .unset] [(.long (own_mix (q1 + (-7046029254386353131 : Int64))))]))
  refine Fin.step (fun _ => XS.lstoreN Xy3.here hx rfl (hb hby at_13) rfl (l' := #[.val (.long q1), .second, .val (.ref by1), .val (.long (own_mix (q1 + (-7046029254386353131 : Int64)))), .second, .unset, .unset, .unset, .unset]) rfl) ?_
  show Fin p e below s _ _ _ (Ty3.setTop (mkF m 14 #[.val (.long q1), .second, .val (.ref by1), .val (.long (own_mix (q1 + (-7046029254386353131 : Int64)))), .second, .unset, .unset, .unset, .unset] []))
  refine Fin.step (fun _ => XS.aloadN Xy3.here hx rfl (hb hby at_14) rfl rfl) ?_
  show Fin p e below s _ _ _ (Ty3.setTop (mkF m 15 #[.val (.long q1), .second, .val (.ref by1), .val (.long (own_mix (q1 + (-7046029254386353131 : Int64)))), .second, .unset, .unset, .unset, .unset] [(.ref by1)]))
  obtain ⟨cqy4, kqy4, qy4a, qy4b, qy4c⟩ := isOf hZ rfl ((Ay1.keep Kcy2).keep Kcy3)
  obtain ⟨_, _, ⟨Ty4, Ly4, ky4, ny4⟩, -, Xy4, ⟨Lcy4, hQy4, ly4, yy4, zy4⟩, sty4⟩ := Xy3.virtualBack hx (y := (⟨"com/example/vali/vali/generate/SplitMix", "nextLong", "()J"⟩ : MethodName)) (z := (⟨"com/example/vali/vali/generate/SplitMix", "nextLong", "()J"⟩ : MethodName)) hown (mvT hZ (hw _ (List.mem_of_getElem? (i := 11) rfl))) (mvT hZ (hw _ (List.mem_of_getElem? (i := 12) rfl))) (notFace_of_selects (args := #[]) (mvT hZ (hw _ (List.mem_of_getElem? (i := 14) rfl)))) (mvT hZ (hw _ (List.mem_of_getElem? (i := 14) rfl))) (mvT hZ (hw _ (List.mem_of_getElem? (i := 13) rfl))) (by decide) (backOf (W := 0) (rm3 l Z a0 hw [] by1 (q1 + (-7046029254386353131 : Int64)) Ty3.heap n0 Zy3 ((Ay1.keep Kcy2).keep Kcy3) fy3_0 gzy1) hZ (hw _ (List.mem_of_getElem? (i := 15) rfl)) (hw _ (List.mem_of_getElem? (i := 2) rfl)) (by decide) (by decide)) qy4a qy4c (g := (mkF m 15 #[.val (.long q1), .second, .val (.ref by1), .val (.long (own_mix (q1 + (-7046029254386353131 : Int64)))), .second, .unset, .unset, .unset, .unset] [(.ref by1)])) rfl (by rw [hml]; rfl) (Steps.refl _) (argsL := []) (rest := []) (lenOf pd_2 rfl) rfl (by show 2 * 0 + _ ≤ _; exact Nat.le_of_eq rfl) (hb hby at_15) (fun _ _ => ⟨rfl, rfl, (by decide : 1 + 0 ≤ _), (by decide : 1 + 0 ≤ _)⟩)
  dsimp only [Pt.U, Pt.locs, Pt.cells, Pt.slots] at Xy4 ly4 yy4 zy4 sty4 hQy4
  subst ly4 yy4 zy4
  obtain ⟨rfl, Nqy4, Kcy4, fy4_0⟩ := hQy4
  have Ny4 := Fr.app Ny3 Nqy4
  have Zy4 : n0 ≤ Ty4.heap.size := Nat.le_trans Zy3 Kcy4.1
  have Ky4 : Keep h0 Ty4.heap [] := Ky3.trans Kcy4 (allS (Or.inr szy1) all0)
  refine Fin.step (fun _ k => sty4.trans k) ?_
  show Fin p e below s _ _ _ (Ty4.setTop (mkF m 18 #[.val (.long q1), .second, .val (.ref by1), .val (.long (own_mix (q1 + (-7046029254386353131 : Int64)))), .second, .unset, .unset, .unset, .unset] [(.long (own_mix ((q1 + (-7046029254386353131 : Int64)) + (-7046029254386353131 : Int64))))]))
  refine Fin.step (fun _ => XS.lstore Xy4.here hx rfl (hb hby at_18) rfl (l' := #[.val (.long q1), .second, .val (.ref by1), .val (.long (own_mix (q1 + (-7046029254386353131 : Int64)))), .second, .val (.long (own_mix ((q1 + (-7046029254386353131 : Int64)) + (-7046029254386353131 : Int64)))), .second, .unset, .unset]) rfl) ?_
  show Fin p e below s _ _ _ (Ty4.setTop (mkF m 20 #[.val (.long q1), .second, .val (.ref by1), .val (.long (own_mix (q1 + (-7046029254386353131 : Int64)))), .second, .val (.long (own_mix ((q1 + (-7046029254386353131 : Int64)) + (-7046029254386353131 : Int64)))), .second, .unset, .unset] []))
  refine Fin.step (Xy4.ldc2Long hx hown (mvT hZ (hw _ (List.mem_of_getElem? (i := 19) rfl))) (g := (mkF m 20 #[.val (.long q1), .second, .val (.ref by1), .val (.long (own_mix (q1 + (-7046029254386353131 : Int64)))), .second, .val (.long (own_mix ((q1 + (-7046029254386353131 : Int64)) + (-7046029254386353131 : Int64)))), .second, .unset, .unset] [])) rfl (hb hby at_20)) ?_
  show Fin p e below s _ _ _ (Ty4.setTop (mkF m 23 #[.val (.long q1), .second, .val (.ref by1), .val (.long (own_mix (q1 + (-7046029254386353131 : Int64)))), .second, .val (.long (own_mix ((q1 + (-7046029254386353131 : Int64)) + (-7046029254386353131 : Int64)))), .second, .unset, .unset] [(.long (-7046029254386353131 : Int64))]))
  refine Fin.step (fun _ => XS.lstore Xy4.here hx rfl (hb hby at_23) rfl (l' := #[.val (.long q1), .second, .val (.ref by1), .val (.long (own_mix (q1 + (-7046029254386353131 : Int64)))), .second, .val (.long (own_mix ((q1 + (-7046029254386353131 : Int64)) + (-7046029254386353131 : Int64)))), .second, .val (.long (-7046029254386353131 : Int64)), .second]) rfl) ?_
  show Fin p e below s _ _ _ (Ty4.setTop (mkF m 25 #[.val (.long q1), .second, .val (.ref by1), .val (.long (own_mix (q1 + (-7046029254386353131 : Int64)))), .second, .val (.long (own_mix ((q1 + (-7046029254386353131 : Int64)) + (-7046029254386353131 : Int64)))), .second, .val (.long (-7046029254386353131 : Int64)), .second] []))
  refine Fin.step (fun _ => XS.lloadN Xy4.here hx rfl (hb hby at_25) rfl) ?_
  show Fin p e below s _ _ _ (Ty4.setTop (mkF m 26 #[.val (.long q1), .second, .val (.ref by1), .val (.long (own_mix (q1 + (-7046029254386353131 : Int64)))), .second, .val (.long (own_mix ((q1 + (-7046029254386353131 : Int64)) + (-7046029254386353131 : Int64)))), .second, .val (.long (-7046029254386353131 : Int64)), .second] [(.long (own_mix (q1 + (-7046029254386353131 : Int64))))]))
  obtain ⟨_, _, ⟨Ty5, Ly5, ky5, ny5⟩, -, Xy5, ⟨Lcy5, hQy5, ly5, yy5, zy5⟩, sty5⟩ := Jvm.LawKit.callS Xy4 hx (y := (⟨"com/example/vali/vali/generate/SplitMixNextLongPinLaw", "unmix", "(J)J"⟩ : MethodName)) hown (mvT hZ (hw _ (List.mem_of_getElem? (i := 20) rfl))) (mvT hZ (hw _ (List.mem_of_getElem? (i := 21) rfl))) (mvT hZ (hw _ (List.mem_of_getElem? (i := 22) rfl))) (mvT hZ (hw _ (List.mem_of_getElem? (i := 23) rfl))) (by decide) (backOf (W := 0) (rm4 l Z a0 hw [] (own_mix (q1 + (-7046029254386353131 : Int64))) Ty4.heap n0 Zy4 ) hZ (hw _ (List.mem_of_getElem? (i := 23) rfl)) (hw _ (List.mem_of_getElem? (i := 22) rfl)) (by decide) (by decide)) (g := (mkF m 26 #[.val (.long q1), .second, .val (.ref by1), .val (.long (own_mix (q1 + (-7046029254386353131 : Int64)))), .second, .val (.long (own_mix ((q1 + (-7046029254386353131 : Int64)) + (-7046029254386353131 : Int64)))), .second, .val (.long (-7046029254386353131 : Int64)), .second] [(.long (own_mix (q1 + (-7046029254386353131 : Int64))))])) rfl (by rw [hml]; rfl) (argsL := [(.long (own_mix (q1 + (-7046029254386353131 : Int64))))]) (rest := []) (lenOf pd_0 rfl) rfl (by show 2 * 0 + _ ≤ _; exact Nat.le_of_eq rfl) (hb hby at_26) (fun _ _ => ⟨rfl, rfl, (by decide : 1 + 0 ≤ _), (by decide : 1 + 0 ≤ _)⟩)
  dsimp only [Pt.U, Pt.locs, Pt.cells, Pt.slots] at Xy5 ly5 yy5 zy5 sty5 hQy5
  subst ly5 yy5 zy5
  obtain ⟨rfl, Nqy5, eqy5⟩ := hQy5
  have Ny5 := Fr.app Ny4 Nqy5
  refine Fin.step (sty5) ?_
  show Fin p e below s _ _ _ (Ty5.setTop (mkF m 29 #[.val (.long q1), .second, .val (.ref by1), .val (.long (own_mix (q1 + (-7046029254386353131 : Int64)))), .second, .val (.long (own_mix ((q1 + (-7046029254386353131 : Int64)) + (-7046029254386353131 : Int64)))), .second, .val (.long (-7046029254386353131 : Int64)), .second] [(.long (own_unmix (own_mix (q1 + (-7046029254386353131 : Int64)))))]))
  refine Fin.step (fun _ => XS.lloadN Xy5.here hx rfl (hb hby at_29) rfl) ?_
  show Fin p e below s _ _ _ (Ty5.setTop (mkF m 30 #[.val (.long q1), .second, .val (.ref by1), .val (.long (own_mix (q1 + (-7046029254386353131 : Int64)))), .second, .val (.long (own_mix ((q1 + (-7046029254386353131 : Int64)) + (-7046029254386353131 : Int64)))), .second, .val (.long (-7046029254386353131 : Int64)), .second] [(.long q1), (.long (own_unmix (own_mix (q1 + (-7046029254386353131 : Int64)))))]))
  refine Fin.step (fun _ => XS.lload Xy5.here hx rfl (hb hby at_30) rfl) ?_
  show Fin p e below s _ _ _ (Ty5.setTop (mkF m 32 #[.val (.long q1), .second, .val (.ref by1), .val (.long (own_mix (q1 + (-7046029254386353131 : Int64)))), .second, .val (.long (own_mix ((q1 + (-7046029254386353131 : Int64)) + (-7046029254386353131 : Int64)))), .second, .val (.long (-7046029254386353131 : Int64)), .second] [(.long (-7046029254386353131 : Int64)), (.long q1), (.long (own_unmix (own_mix (q1 + (-7046029254386353131 : Int64)))))]))
  refine Fin.step (fun _ => XS.ladd Xy5.here hx rfl (hb hby at_32) rfl) ?_
  show Fin p e below s _ _ _ (Ty5.setTop (mkF m 33 #[.val (.long q1), .second, .val (.ref by1), .val (.long (own_mix (q1 + (-7046029254386353131 : Int64)))), .second, .val (.long (own_mix ((q1 + (-7046029254386353131 : Int64)) + (-7046029254386353131 : Int64)))), .second, .val (.long (-7046029254386353131 : Int64)), .second] [(.long (q1 + (-7046029254386353131 : Int64))), (.long (own_unmix (own_mix (q1 + (-7046029254386353131 : Int64)))))]))
  refine Fin.step (fun _ => XS.lcmp Xy5.here hx rfl (hb hby at_33) rfl) ?_
  show Fin p e below s _ _ _ (Ty5.setTop (mkF m 34 #[.val (.long q1), .second, .val (.ref by1), .val (.long (own_mix (q1 + (-7046029254386353131 : Int64)))), .second, .val (.long (own_mix ((q1 + (-7046029254386353131 : Int64)) + (-7046029254386353131 : Int64)))), .second, .val (.long (-7046029254386353131 : Int64)), .second] [(.int (lcmpW (own_unmix (own_mix (q1 + (-7046029254386353131 : Int64)))) (q1 + (-7046029254386353131 : Int64))))]))
  refine Fin.step (fun _ => XS.ifNo Xy5.here hx rfl (hb hby at_34) rfl ((if0 _ _).trans (teq ((lcE (own_back _)) : ((lcmpW (own_unmix (own_mix (q1 + (-7046029254386353131 : Int64)))) (q1 + (-7046029254386353131 : Int64))) = (0 : Int32)))).2)) ?_
  show Fin p e below s _ _ _ (Ty5.setTop (mkF m 37 #[.val (.long q1), .second, .val (.ref by1), .val (.long (own_mix (q1 + (-7046029254386353131 : Int64)))), .second, .val (.long (own_mix ((q1 + (-7046029254386353131 : Int64)) + (-7046029254386353131 : Int64)))), .second, .val (.long (-7046029254386353131 : Int64)), .second] []))
  refine Fin.step (fun _ => XS.lload Xy5.here hx rfl (hb hby at_37) rfl) ?_
  show Fin p e below s _ _ _ (Ty5.setTop (mkF m 39 #[.val (.long q1), .second, .val (.ref by1), .val (.long (own_mix (q1 + (-7046029254386353131 : Int64)))), .second, .val (.long (own_mix ((q1 + (-7046029254386353131 : Int64)) + (-7046029254386353131 : Int64)))), .second, .val (.long (-7046029254386353131 : Int64)), .second] [(.long (own_mix ((q1 + (-7046029254386353131 : Int64)) + (-7046029254386353131 : Int64))))]))
  obtain ⟨_, _, ⟨Ty6, Ly6, ky6, ny6⟩, -, Xy6, ⟨Lcy6, hQy6, ly6, yy6, zy6⟩, sty6⟩ := Jvm.LawKit.callS Xy5 hx (y := (⟨"com/example/vali/vali/generate/SplitMixNextLongPinLaw", "unmix", "(J)J"⟩ : MethodName)) hown (mvT hZ (hw _ (List.mem_of_getElem? (i := 20) rfl))) (mvT hZ (hw _ (List.mem_of_getElem? (i := 21) rfl))) (mvT hZ (hw _ (List.mem_of_getElem? (i := 22) rfl))) (mvT hZ (hw _ (List.mem_of_getElem? (i := 23) rfl))) (by decide) (backOf (W := 0) (rm4 l Z a0 hw [] (own_mix ((q1 + (-7046029254386353131 : Int64)) + (-7046029254386353131 : Int64))) Ty4.heap n0 Zy4 ) hZ (hw _ (List.mem_of_getElem? (i := 23) rfl)) (hw _ (List.mem_of_getElem? (i := 22) rfl)) (by decide) (by decide)) (g := (mkF m 39 #[.val (.long q1), .second, .val (.ref by1), .val (.long (own_mix (q1 + (-7046029254386353131 : Int64)))), .second, .val (.long (own_mix ((q1 + (-7046029254386353131 : Int64)) + (-7046029254386353131 : Int64)))), .second, .val (.long (-7046029254386353131 : Int64)), .second] [(.long (own_mix ((q1 + (-7046029254386353131 : Int64)) + (-7046029254386353131 : Int64))))])) rfl (by rw [hml]; rfl) (argsL := [(.long (own_mix ((q1 + (-7046029254386353131 : Int64)) + (-7046029254386353131 : Int64))))]) (rest := []) (lenOf pd_0 rfl) rfl (by show 2 * 0 + _ ≤ _; exact Nat.le_of_eq rfl) (hb hby at_39) (fun _ _ => ⟨rfl, eqy5, (by decide : 1 + 0 ≤ _), (by decide : 1 + 0 ≤ _)⟩)
  dsimp only [Pt.U, Pt.locs, Pt.cells, Pt.slots] at Xy6 ly6 yy6 zy6 sty6 hQy6
  subst ly6 yy6 zy6
  obtain ⟨rfl, Nqy6, eqy6⟩ := hQy6
  have Ny6 := Fr.app Ny5 Nqy6
  refine Fin.step (sty6) ?_
  show Fin p e below s _ _ _ (Ty6.setTop (mkF m 42 #[.val (.long q1), .second, .val (.ref by1), .val (.long (own_mix (q1 + (-7046029254386353131 : Int64)))), .second, .val (.long (own_mix ((q1 + (-7046029254386353131 : Int64)) + (-7046029254386353131 : Int64)))), .second, .val (.long (-7046029254386353131 : Int64)), .second] [(.long (own_unmix (own_mix ((q1 + (-7046029254386353131 : Int64)) + (-7046029254386353131 : Int64)))))]))
  refine Fin.step (fun _ => XS.lloadN Xy6.here hx rfl (hb hby at_42) rfl) ?_
  show Fin p e below s _ _ _ (Ty6.setTop (mkF m 43 #[.val (.long q1), .second, .val (.ref by1), .val (.long (own_mix (q1 + (-7046029254386353131 : Int64)))), .second, .val (.long (own_mix ((q1 + (-7046029254386353131 : Int64)) + (-7046029254386353131 : Int64)))), .second, .val (.long (-7046029254386353131 : Int64)), .second] [(.long q1), (.long (own_unmix (own_mix ((q1 + (-7046029254386353131 : Int64)) + (-7046029254386353131 : Int64)))))]))
  refine Fin.step (fun _ => XS.lload Xy6.here hx rfl (hb hby at_43) rfl) ?_
  show Fin p e below s _ _ _ (Ty6.setTop (mkF m 45 #[.val (.long q1), .second, .val (.ref by1), .val (.long (own_mix (q1 + (-7046029254386353131 : Int64)))), .second, .val (.long (own_mix ((q1 + (-7046029254386353131 : Int64)) + (-7046029254386353131 : Int64)))), .second, .val (.long (-7046029254386353131 : Int64)), .second] [(.long (-7046029254386353131 : Int64)), (.long q1), (.long (own_unmix (own_mix ((q1 + (-7046029254386353131 : Int64)) + (-7046029254386353131 : Int64)))))]))
  refine Fin.step (fun _ => XS.ladd Xy6.here hx rfl (hb hby at_45) rfl) ?_
  show Fin p e below s _ _ _ (Ty6.setTop (mkF m 46 #[.val (.long q1), .second, .val (.ref by1), .val (.long (own_mix (q1 + (-7046029254386353131 : Int64)))), .second, .val (.long (own_mix ((q1 + (-7046029254386353131 : Int64)) + (-7046029254386353131 : Int64)))), .second, .val (.long (-7046029254386353131 : Int64)), .second] [(.long (q1 + (-7046029254386353131 : Int64))), (.long (own_unmix (own_mix ((q1 + (-7046029254386353131 : Int64)) + (-7046029254386353131 : Int64)))))]))
  refine Fin.step (fun _ => XS.lload Xy6.here hx rfl (hb hby at_46) rfl) ?_
  show Fin p e below s _ _ _ (Ty6.setTop (mkF m 48 #[.val (.long q1), .second, .val (.ref by1), .val (.long (own_mix (q1 + (-7046029254386353131 : Int64)))), .second, .val (.long (own_mix ((q1 + (-7046029254386353131 : Int64)) + (-7046029254386353131 : Int64)))), .second, .val (.long (-7046029254386353131 : Int64)), .second] [(.long (-7046029254386353131 : Int64)), (.long (q1 + (-7046029254386353131 : Int64))), (.long (own_unmix (own_mix ((q1 + (-7046029254386353131 : Int64)) + (-7046029254386353131 : Int64)))))]))
  refine Fin.step (fun _ => XS.ladd Xy6.here hx rfl (hb hby at_48) rfl) ?_
  show Fin p e below s _ _ _ (Ty6.setTop (mkF m 49 #[.val (.long q1), .second, .val (.ref by1), .val (.long (own_mix (q1 + (-7046029254386353131 : Int64)))), .second, .val (.long (own_mix ((q1 + (-7046029254386353131 : Int64)) + (-7046029254386353131 : Int64)))), .second, .val (.long (-7046029254386353131 : Int64)), .second] [(.long ((q1 + (-7046029254386353131 : Int64)) + (-7046029254386353131 : Int64))), (.long (own_unmix (own_mix ((q1 + (-7046029254386353131 : Int64)) + (-7046029254386353131 : Int64)))))]))
  refine Fin.step (fun _ => XS.lcmp Xy6.here hx rfl (hb hby at_49) rfl) ?_
  show Fin p e below s _ _ _ (Ty6.setTop (mkF m 50 #[.val (.long q1), .second, .val (.ref by1), .val (.long (own_mix (q1 + (-7046029254386353131 : Int64)))), .second, .val (.long (own_mix ((q1 + (-7046029254386353131 : Int64)) + (-7046029254386353131 : Int64)))), .second, .val (.long (-7046029254386353131 : Int64)), .second] [(.int (lcmpW (own_unmix (own_mix ((q1 + (-7046029254386353131 : Int64)) + (-7046029254386353131 : Int64)))) ((q1 + (-7046029254386353131 : Int64)) + (-7046029254386353131 : Int64))))]))
  refine Fin.step (fun _ => XS.ifNo Xy6.here hx rfl (hb hby at_50) rfl ((if0 _ _).trans (teq ((lcE (own_back _)) : ((lcmpW (own_unmix (own_mix ((q1 + (-7046029254386353131 : Int64)) + (-7046029254386353131 : Int64)))) ((q1 + (-7046029254386353131 : Int64)) + (-7046029254386353131 : Int64))) = (0 : Int32)))).2)) ?_
  show Fin p e below s _ _ _ (Ty6.setTop (mkF m 53 #[.val (.long q1), .second, .val (.ref by1), .val (.long (own_mix (q1 + (-7046029254386353131 : Int64)))), .second, .val (.long (own_mix ((q1 + (-7046029254386353131 : Int64)) + (-7046029254386353131 : Int64)))), .second, .val (.long (-7046029254386353131 : Int64)), .second] []))
  refine Fin.step (fun _ => XS.iconst Xy6.here hx rfl (hb hby at_53)) ?_
  show Fin p e below s _ _ _ (Ty6.setTop (mkF m 54 #[.val (.long q1), .second, .val (.ref by1), .val (.long (own_mix (q1 + (-7046029254386353131 : Int64)))), .second, .val (.long (own_mix ((q1 + (-7046029254386353131 : Int64)) + (-7046029254386353131 : Int64)))), .second, .val (.long (-7046029254386353131 : Int64)), .second] [(.int (1 : Int32))]))
  refine Fin.step (fun _ => XS.goto Xy6.here hx rfl (pc0 := 54) (pc' := 58) rfl (hb hby at_54) (by decide) (by decide)) ?_
  show Fin p e below s _ _ _ (Ty6.setTop (mkF m 58 #[.val (.long q1), .second, .val (.ref by1), .val (.long (own_mix (q1 + (-7046029254386353131 : Int64)))), .second, .val (.long (own_mix ((q1 + (-7046029254386353131 : Int64)) + (-7046029254386353131 : Int64)))), .second, .val (.long (-7046029254386353131 : Int64)), .second] [(.int (1 : Int32))]))
  refine Fin.retN Xy6 hx (t := .boolean) hret (by simp) hlk (hb hby at_58) (by decide) (by decide) ?_
  show Q0 Z q1 h0 n0 _ Ty6.heap _
  rw [eqy6]
  exact ⟨rfl, Ny6, Ky4⟩
set_option maxRecDepth 65536 in
set_option maxHeartbeats 40000000 in
theorem comes_1 {Post : Tables → Env → Array Value → State → Outcome → State → Prop} (hpost : ∀ tb e args s v u, (limb_1_1.after args s (.returned v) u = true ∧ limb_1_2.after args s (.returned v) u = true ∧ True) → FrameEnd s (.returned v) u (Jvm.fieldLocs frame_1_writes args s ++ Jvm.arrayLocs frame_1_arrays args s ++ Jvm.staticLocs frame_1_statics s) 16 128 → Post tb e args s (.returned v) u) :
    ArmFor flags0 classFile x code maxLocals ret World_1 tables_1 room_1 Calls_1 rest_1 Pre_1 Post := by
  intro l hfl _ _ p e ha hc hk s m args below hf hA hF happ hP
  obtain ⟨hcalls, hrest, hpre⟩ := hP
  obtain ⟨-, -, -, hnamed, -, -, -, hat⟩ := (Spec.applies_iff hf).mp happ
  obtain ⟨hg, hn⟩ := and_e (Cond.before_iff.mp (show (Jvm.Cond.and given_1 narrow_1).before args s = true from hpre))
  obtain ⟨gc, gr0⟩ := and_e hg
  have ga0 := gr0
  obtain ⟨w0, rfl⟩ : ∃ w0 : Value, args = #[w0] := by
    have hs : args.size = 1 := by simpa [Cond.value, given_1] using gc
    obtain ⟨L⟩ := args
    match L, hs with
    | [w0], _ => exact ⟨w0, rfl⟩
  have hw := fun d (hd : d ∈ tables_1) => atoms_spec (ws := Jvm.Cond.code x code maxLocals ret :: tables_1) hat d (List.mem_cons_of_mem _ hd)
  have hfit : Fit s := fun {y c} hc i hi => by
    obtain ⟨ha, rfl⟩ := Array.getElem?_eq_some_iff.mp hc
    have q := List.all_eq_true.mp ((Array.all_eq_true_iff_forall_mem.mp hF) _ (Array.getElem_mem ha)) i (List.mem_range.mpr hi)
    simpa [Array.getElem?_eq_getElem hi] using q
  obtain ⟨i0, ei0⟩ := isL_v ga0
  obtain rfl : w0 = (.long i0) := Option.some.inj ei0
  obtain ⟨n, o, h1, h2, h3, _, L, rfl, ⟨rfl, N, _⟩, hq⟩ := rm0 l s _ hw tables_1 i0  s.heap s.heap.size (Nat.le_refl _)  p e ha hc hk s m _ below hf ((Spec.applies_iff_loose hf).mp happ).1 ⟨rfl, State.Warmed39.refl s, rfl⟩ trivial
  refine ⟨n, _, h1, h2, h3, hpost _ _ _ _ _ _ ⟨Cond.after_iff.mpr rfl, Cond.after_iff.mpr (eq_i res_at (Term.int_eval (1)) rfl), trivial⟩ ⟨hq.1, hq.2.1, (hq.2.2.sift fun y hy => Or.inr (N y hy)).mono (by decide) (by decide)⟩⟩
theorem main_1_1 : Claimed_1_1 := comes_1 fun _ _ _ _ _ _ h hF => ⟨h.1, hF⟩
theorem main_1_2 : Claimed_1_2 := comes_1 fun _ _ _ _ _ _ h hF => ⟨h.2.1, hF⟩
end Jvm.Pilot.@@N@@
namespace Jvm.Pilot.@@N@@
open Jvm Jvm.ClassFile Sem Op Lib Jvm.Free Jvm.Stand Jvm.Pilot.@@N@@.Jvm.D
/-! MADE BY PROGRAM (witnessworld.py) out of the Statement's table words and the real class files: 7 classes; the members and pool entries that the words name. The judged class is class 1, her method 1. -/
namespace start1
open Jvm.ClassFile
def u (s : String) : CpInfo := .utf8 (stringToUtf16 s)
/-- a pool by its gaps: so many unusable entries, then the entry; so many at the end -/
def gap : Nat → List CpInfo → List CpInfo
  | 0, r => r
  | n + 1, r => .unusable :: gap n r
def poolList (es : List (Nat × CpInfo)) (last : Nat) : List CpInfo := es.foldr (fun e r => gap e.1 (e.2 :: r)) (gap last [])
def pool (es : List (Nat × CpInfo)) (last : Nat) : Array CpInfo := ⟨poolList es last⟩
def fileOf (pool : Array CpInfo) (this : Nat) (attrs : Array Attribute := #[]) (ms : Array MethodInfo := #[]) (fl : Nat := 33) (sup : Nat := 0) (ifs : Array Nat := #[]) (fds : Array FieldInfo := #[]) : ClassFile where
  minorVersion := 0
  majorVersion := 65
  constantPool := pool
  accessFlags := fl
  thisClass := this
  superClass := sup
  interfaces := ifs
  fields := fds
  methods := ms
  attributes := attrs
def plain (name : String) (sup : Option ClassId) : Class where
  name := name
  kind := .ordinary
  loader := none
  accessFlags := 33
  super := sup
  interfaces := #[]
  cf := none
  fields := #[]
  methods := #[]
  instanceTypes := #[]
  staticTypes := #[]
  resolved := #[]
  callSites := []
  init := .initialized
  statics := none
  mirror := none

def pool0 : Array CpInfo := pool [(5, u "<init>"), (0, u "()V"), (1, .class_ 10), (1, u "java/lang/Object")] 113

def k0c0 : Code := { maxStack := 0, maxLocals := 1, code := object_method_1_code, exceptionTable := #[], attributes := #[] }
def k0m0 : Method := { name := "<init>", desc := "()V", sig := { parameters := [], returnType := none }, accessFlags := 1, code := some k0c0 }
/-- java/lang/Object -/
def k0 : Class := { plain "java/lang/Object" none with
  accessFlags := 33
  interfaces := #[]
  cf := some (fileOf pool0 8 #[] #[{ accessFlags := 1, nameIndex := 5, descriptorIndex := 6, attributes := #[] }] 33 0 #[] #[])
  fields := #[]
  methods := #[k0m0]
  instanceTypes := #[]
  staticTypes := #[]
  resolved := Array.replicate 124 none
  statics := none }

def pool1 : Array CpInfo := pool [(2, .class_ 4), (1, u "java/lang/Object"), (0, u "<init>"), (0, u "()V"), (0, .class_ 8), (0, u "com/example/vali/vali/generate/SplitMix"), (0, .methodref 7 10), (0, .nameAndType 5 11), (0, u "(J)V"), (0, .methodref 7 13), (0, .nameAndType 14 15), (0, u "nextLong"), (0, u "()J"), (0, .long 11400714819323198485), (1, .methodref 19 20), (0, .class_ 21), (0, .nameAndType 22 23), (0, u "com/example/vali/vali/generate/SplitMixNextLongPinLaw"), (0, u "unmix"), (0, u "(J)J"), (0, .long 2), (1, .long 10723151780598845931), (1, .methodref 19 29), (0, .nameAndType 30 23), (0, u "inverse"), (0, .long 13787848793156543929), (3, u "law"), (0, u "(J)Z")] 3

def k1m0 : Method := { name := "<init>", desc := "()V", sig := { parameters := [], returnType := none }, accessFlags := 1, code := none }
def k1c1 : Code := { maxStack := 6, maxLocals := 9, code := code, exceptionTable := #[], attributes := #[] }
def k1m1 : Method := { name := "law", desc := "(J)Z", sig := { parameters := [.long], returnType := some .boolean }, accessFlags := 9, code := some k1c1 }
def k1c2 : Code := { maxStack := 8, maxLocals := 4, code := method_3_code, exceptionTable := #[], attributes := #[] }
def k1m2 : Method := { name := "inverse", desc := "(J)J", sig := { parameters := [.long], returnType := some .long }, accessFlags := 10, code := some k1c2 }
def k1c3 : Code := { maxStack := 5, maxLocals := 4, code := method_4_code, exceptionTable := #[], attributes := #[] }
def k1m3 : Method := { name := "unmix", desc := "(J)J", sig := { parameters := [.long], returnType := some .long }, accessFlags := 10, code := some k1c3 }
/-- com/example/vali/vali/generate/SplitMixNextLongPinLaw -/
def k1 : Class := { plain "com/example/vali/vali/generate/SplitMixNextLongPinLaw" (some 0) with
  accessFlags := 49
  interfaces := #[]
  cf := some (fileOf pool1 19 #[] #[{ accessFlags := 1, nameIndex := 5, descriptorIndex := 6, attributes := #[] }, { accessFlags := 9, nameIndex := 35, descriptorIndex := 36, attributes := #[] }, { accessFlags := 10, nameIndex := 30, descriptorIndex := 23, attributes := #[] }, { accessFlags := 10, nameIndex := 22, descriptorIndex := 23, attributes := #[] }] 49 2 #[] #[])
  fields := #[]
  methods := #[k1m0, k1m1, k1m2, k1m3]
  instanceTypes := #[]
  staticTypes := #[]
  resolved := Array.replicate 40 none
  statics := none }

def pool2 : Array CpInfo := pool [(1, .methodref 2 3), (0, .class_ 4), (0, .nameAndType 5 6), (0, u "java/lang/Object"), (0, u "<init>"), (0, u "()V"), (0, .fieldref 8 9), (0, .class_ 10), (0, .nameAndType 11 12), (0, u "com/example/vali/vali/generate/SplitMix"), (0, u "state"), (0, u "J"), (0, .long 11400714819323198485), (1, .long 13787848793156543929), (1, .long 10723151780598845931), (3, u "nextLong"), (0, u "()J"), (22, u "GOLDEN_GAMMA"), (1, u "UNIT"), (0, u "D"), (0, u "(J)V")] 7

def k2c0 : Code := { maxStack := 3, maxLocals := 3, code := prog_9_method_1_code, exceptionTable := #[], attributes := #[] }
def k2m0 : Method := { name := "<init>", desc := "(J)V", sig := { parameters := [.long], returnType := none }, accessFlags := 0, code := some k2c0 }
def k2c1 : Code := { maxStack := 5, maxLocals := 3, code := prog_9_method_2_code, exceptionTable := #[], attributes := #[] }
def k2m1 : Method := { name := "nextLong", desc := "()J", sig := { parameters := [], returnType := some .long }, accessFlags := 0, code := some k2c1 }
/-- com/example/vali/vali/generate/SplitMix -/
def k2 : Class := { plain "com/example/vali/vali/generate/SplitMix" (some 0) with
  accessFlags := 48
  interfaces := #[]
  cf := some (fileOf pool2 8 #[] #[{ accessFlags := 0, nameIndex := 5, descriptorIndex := 49, attributes := #[] }, { accessFlags := 0, nameIndex := 21, descriptorIndex := 22, attributes := #[] }] 48 2 #[] #[{ accessFlags := 26, nameIndex := 45, descriptorIndex := 12, attributes := #[] }, { accessFlags := 26, nameIndex := 47, descriptorIndex := 48, attributes := #[] }, { accessFlags := 2, nameIndex := 11, descriptorIndex := 12, attributes := #[] }])
  fields := #[{ name := "GOLDEN_GAMMA", type := .long, accessFlags := 26, slot := 0, constantValue := 0 }, { name := "UNIT", type := .double, accessFlags := 26, slot := 1, constantValue := 0 }, { name := "state", type := .long, accessFlags := 2, slot := 0, constantValue := 0 }]
  methods := #[k2m0, k2m1]
  instanceTypes := #[.long]
  staticTypes := #[.long, .double]
  resolved := Array.replicate 57 none
  statics := none }

def pool3 : Array CpInfo := pool [(1, u "java/lang/Cloneable"), (0, .class_ 1), (0, u "java/lang/Object"), (0, .class_ 3)] 3

/-- java/lang/Cloneable -/
def k3 : Class := { plain "java/lang/Cloneable" (some 0) with
  accessFlags := 1537
  interfaces := #[]
  cf := some (fileOf pool3 2 #[] #[] 1537 4 #[] #[])
  fields := #[]
  methods := #[]
  instanceTypes := #[]
  staticTypes := #[]
  resolved := Array.replicate 8 none
  statics := none }

def pool4 : Array CpInfo := pool [(1, u "java/io/Serializable"), (0, .class_ 1), (0, u "java/lang/Object"), (0, .class_ 3)] 3

/-- java/io/Serializable -/
def k4 : Class := { plain "java/io/Serializable" (some 0) with
  accessFlags := 1537
  interfaces := #[]
  cf := some (fileOf pool4 2 #[] #[] 1537 4 #[] #[])
  fields := #[]
  methods := #[]
  instanceTypes := #[]
  staticTypes := #[]
  resolved := Array.replicate 8 none
  statics := none }

/-- the primitive byte -/
def k5 : Class := { plain "byte" none with kind := .primitive 'B', accessFlags := 0x411 }
/-- [B -/
def k6 : Class := { plain "[B" (some 0) with kind := .array 5 .byte, interfaces := #[3, 4], accessFlags := 1041 }

def heap : Heap := #[]
def classes : Array Class := #[k0, k1, k2, k3, k4, k5, k6]
def interned : List (Array UInt16 × Addr) := []
def slotsUsed : Nat := 0
def theMethod : MethodId := ⟨1, 1⟩
def args0 : Array Value := #[.long 5]
def aboutOver (below : List Frame) : State where
  vm := { classes := classes, interned := interned.toArray }
  heap := heap
  slotsUsed := slotsUsed
  threads := #[{ frames := .invoking theMethod args0 :: below }]
def below0 : List Frame := [.native { method := ⟨0, 0⟩, args := #[] }]
def about1 : State := aboutOver below0
def p0 : Program := .bare "" "" ""
def e0 : Env := launch0.env 0 0 0
theorem w_frames : about1.frames = Frame.invoking theMethod args0 :: below0 := rfl
set_option maxRecDepth 65536 in
theorem w_args : argsFit about1.vm theMethod args0 = true := by decide +kernel
set_option maxRecDepth 65536 in
theorem w_heap : heapFits about1 = true := by decide +kernel
set_option maxRecDepth 65536 in
theorem w_runnable : about1.curStatus? = some .runnable := by decide +kernel
set_option maxRecDepth 65536 in
theorem w_alone : about1.alone = true := by decide +kernel
set_option maxRecDepth 65536 in
theorem w_named : about1.methodNamed? x = some theMethod := by decide +kernel
set_option maxRecDepth 65536 in
theorem w_hears : about1.hears theMethod below0 = true := by decide +kernel
set_option maxRecDepth 65536 in
theorem w_ripe : about1.ripe theMethod args0 below0 = true := by decide +kernel
theorem w_running : about1.status = .running := rfl
set_option maxRecDepth 65536 in
theorem w_room : about1.hasRoom e0.platform room_1 = true :=
  launch0.hasRoom_least _ room_1 (by decide +kernel) (by decide +kernel) (by decide +kernel) (by decide +kernel) (by decide +kernel) (by decide +kernel)
theorem allAtoms_all (ts : List Jvm.Cond) (a : Array Jvm.Value) (st : Jvm.State) : (allAtoms ts).before a st = ts.all (fun c => c.before a st) := by
  induction ts with
  | nil => rfl
  | cons c t ih =>
    show (Jvm.Cond.and c (allAtoms t)).before a st = _
    rw [Jvm.Cond.before_and, ih, List.all_cons]
def words1 : List Jvm.Cond := Jvm.Cond.code x code maxLocals ret :: tables_1
/-- a 'code' word, met by the world's own term for the bytes: nothing is compared byte by byte -/
theorem code_word {y : MethodName} {bytes : ByteArray} {mx : Nat} {rt : Option FieldType} {a : Array Value} {s : State} {m : MethodId} {meth : Method} {c : Code} (h1 : s.methodNamed? y = some m) (h2 : s.vm.method? m = some meth) (h3 : meth.code = some c) (h4 : c.code = bytes)
    (h5 : (c.maxLocals == mx && c.exceptionTable.isEmpty && decide (c.maxStack ≤ mostOperands) && decide (meth.sig.returnType = rt) && !meth.locks && decide (parseMethodDescriptor y.desc = some meth.sig)) = true) : (Jvm.Cond.code y bytes mx rt).before a s = true := by
  simp only [Bool.and_eq_true, beq_iff_eq, Bool.not_eq_true', decide_eq_true_eq] at h5
  obtain ⟨⟨⟨⟨⟨g1, g2⟩, g3⟩, g4⟩, g5⟩, g6⟩ := h5
  simp [Cond.before, Cond.holds, Cond.value, h1, h2, h3, h4, g1, g2, g3, g4, g5, g6]
def isCode : Jvm.Cond → Bool
  | .code _ _ _ _ => true
  | _ => false
theorem all_split {L : List Jvm.Cond} {P : Jvm.Cond → Bool} (h1 : L.all (fun c => isCode c || P c) = true) (h2 : ∀ c ∈ L.filter isCode, P c = true) : L.all P = true := by
  refine List.all_eq_true.mpr fun c hc => ?_
  have h := List.all_eq_true.mp h1 c hc
  rcases Bool.eq_false_or_eq_true (isCode c) with hi | hi
  · exact h2 c (List.mem_filter.mpr ⟨hc, hi⟩)
  · simpa [hi] using h
set_option maxRecDepth 65536 in
theorem w_c0 : (Jvm.Cond.code x code maxLocals ret).before args0 about1 = true := code_word (m := ⟨1, 1⟩) (meth := k1m1) (c := k1c1) (by decide +kernel) rfl rfl rfl (by decide +kernel)
set_option maxRecDepth 65536 in
theorem w_c1 : (Jvm.Cond.code ({ cls := "com/example/vali/vali/generate/SplitMix", name := "<init>", desc := "(J)V" } : Jvm.MethodName) prog_9_method_1_code (3 : Nat) (Option.none : Option Jvm.ClassFile.FieldType)).before args0 about1 = true := code_word (m := ⟨2, 0⟩) (meth := k2m0) (c := k2c0) (by decide +kernel) rfl rfl rfl (by decide +kernel)
set_option maxRecDepth 65536 in
theorem w_c2 : (Jvm.Cond.code ({ cls := "java/lang/Object", name := "<init>", desc := "()V" } : Jvm.MethodName) object_method_1_code (1 : Nat) (Option.none : Option Jvm.ClassFile.FieldType)).before args0 about1 = true := code_word (m := ⟨0, 0⟩) (meth := k0m0) (c := k0c0) (by decide +kernel) rfl rfl rfl (by decide +kernel)
set_option maxRecDepth 65536 in
theorem w_c3 : (Jvm.Cond.code ({ cls := "com/example/vali/vali/generate/SplitMix", name := "nextLong", desc := "()J" } : Jvm.MethodName) prog_9_method_2_code (3 : Nat) (Option.some Jvm.ClassFile.FieldType.long)).before args0 about1 = true := code_word (m := ⟨2, 1⟩) (meth := k2m1) (c := k2c1) (by decide +kernel) rfl rfl rfl (by decide +kernel)
set_option maxRecDepth 65536 in
theorem w_c4 : (Jvm.Cond.code ({ cls := "com/example/vali/vali/generate/SplitMixNextLongPinLaw", name := "unmix", desc := "(J)J" } : Jvm.MethodName) method_4_code (4 : Nat) (Option.some Jvm.ClassFile.FieldType.long)).before args0 about1 = true := code_word (m := ⟨1, 3⟩) (meth := k1m3) (c := k1c3) (by decide +kernel) rfl rfl rfl (by decide +kernel)
set_option maxRecDepth 65536 in
theorem w_c5 : (Jvm.Cond.code ({ cls := "com/example/vali/vali/generate/SplitMixNextLongPinLaw", name := "inverse", desc := "(J)J" } : Jvm.MethodName) method_3_code (4 : Nat) (Option.some Jvm.ClassFile.FieldType.long)).before args0 about1 = true := code_word (m := ⟨1, 2⟩) (meth := k1m2) (c := k1c2) (by decide +kernel) rfl rfl rfl (by decide +kernel)
def codes1 : List Jvm.Cond := [Jvm.Cond.code x code maxLocals ret, Jvm.Cond.code ({ cls := "com/example/vali/vali/generate/SplitMix", name := "<init>", desc := "(J)V" } : Jvm.MethodName) prog_9_method_1_code (3 : Nat) (Option.none : Option Jvm.ClassFile.FieldType), Jvm.Cond.code ({ cls := "java/lang/Object", name := "<init>", desc := "()V" } : Jvm.MethodName) object_method_1_code (1 : Nat) (Option.none : Option Jvm.ClassFile.FieldType), Jvm.Cond.code ({ cls := "com/example/vali/vali/generate/SplitMix", name := "nextLong", desc := "()J" } : Jvm.MethodName) prog_9_method_2_code (3 : Nat) (Option.some Jvm.ClassFile.FieldType.long), Jvm.Cond.code ({ cls := "com/example/vali/vali/generate/SplitMixNextLongPinLaw", name := "unmix", desc := "(J)J" } : Jvm.MethodName) method_4_code (4 : Nat) (Option.some Jvm.ClassFile.FieldType.long), Jvm.Cond.code ({ cls := "com/example/vali/vali/generate/SplitMixNextLongPinLaw", name := "inverse", desc := "(J)J" } : Jvm.MethodName) method_3_code (4 : Nat) (Option.some Jvm.ClassFile.FieldType.long)]
set_option maxRecDepth 65536 in
theorem codes_eq : words1.filter isCode = codes1 := rfl
theorem w_codes : ∀ c ∈ words1.filter isCode, c.before args0 about1 = true := by
  rw [codes_eq]
  intro c hc
  simp only [codes1, List.mem_cons, List.not_mem_nil, or_false] at hc
  rcases hc with rfl | rfl | rfl | rfl | rfl | rfl
  · exact w_c0
  · exact w_c1
  · exact w_c2
  · exact w_c3
  · exact w_c4
  · exact w_c5
set_option maxRecDepth 65536 in
theorem w_t1 : (words1.take 24).all (fun c => isCode c || c.before args0 about1) = true := by decide +kernel
set_option maxRecDepth 65536 in
theorem w_t2 : (words1.drop 24).all (fun c => isCode c || c.before args0 about1) = true := by decide +kernel
theorem w_tables : (allAtoms (Jvm.Cond.code x code maxLocals ret :: tables_1)).before args0 about1 = true := by
  rw [allAtoms_all]
  show words1.all (fun c => c.before args0 about1) = true
  refine all_split ?_ w_codes
  rw [← List.take_append_drop 24 words1, List.all_append, w_t1, w_t2]
  rfl
set_option maxRecDepth 65536 in
theorem w_case : (Jvm.Cond.and given_1 narrow_1).before args0 about1 = true := by decide +kernel
theorem w_applies : (headSpec (Jvm.Cond.code x code maxLocals ret :: tables_1) room_1).applies x e0.platform about1 = true :=
  (Spec.applies_iff w_frames).mpr ⟨w_running, w_runnable, w_alone, w_named, w_hears, w_ripe, w_room, w_tables⟩
theorem atStart : AtStart classFile x code maxLocals ret World_1 tables_1 room_1 Calls_1 rest_1 Pre_1 launch0 p0 e0 about1 theMethod args0 below0 :=
  ⟨lists_1, trivial, launch0.admits_env _ _ _, launch0.least_env, fairChoices_fair.cas, fairChoices_fair.clock, w_frames, w_args, w_heap, w_applies, trivial, trivial, w_case⟩
end start1
theorem witness_1 : WitnessClaimed_1 := ⟨start1.p0, start1.e0, start1.about1, start1.theMethod, start1.args0, start1.below0, start1.atStart⟩
end Jvm.Pilot.@@N@@
