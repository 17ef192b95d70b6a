import JvmDerived
import JvmDerived.Pilot.@@N@@Statement
import JvmDerived.Pilot.@@N@@Code
set_option linter.unusedVariables false
set_option linter.unusedSimpArgs false
@@BLOCK:NumsL.lean.txt@@

namespace Jvm.OwnKit
open Sem ClassFile Op Lib Jvm.Stand Jvm.Free Jvm.LawKit Jvm.RoadKit
section Own
variable {p : Program} {l : Launch} {e : Env} {R : Room} {s : State} {m : MethodId} {args : Array Value} {below : List Frame} {meth : Method} {c : Code} {T : State} {locs : List Loc} {cells slots : Nat} {Q : Option Value → Heap → List Loc → Prop} {C S : Nat}
/-- what a body owes from a state on -/
def Fin (p : Program) (e : Env) (below : List Frame) (s : State) (Q : Option Value → Heap → List Loc → Prop) (C S : Nat) (st : State) : Prop :=
  ∃ s₂ o, Steps p.tables e below st s₂ ∧ s₂.status = .running ∧ Ended s₂ below o ∧ ∃ v L, o = .returned v ∧ Q v s₂.heap L ∧ FrameEnd s o s₂ L C S
theorem Fin.step {st st' : State} (h : ∀ t, Steps p.tables e below st' t → Steps p.tables e below st t) (k : Fin p e below s Q C S st') : Fin p e below s Q C S st := by
  obtain ⟨s₂, o, h1, h2⟩ := k
  exact ⟨s₂, o, h _ h1, h2⟩
theorem Fin.ret (X : Stand p l e R s m args below meth c T locs cells slots) {v : Option Value} {g : JFrame} (hv : meth.sig.returnType = none → v = none) (hlocks : meth.locks = false)
    (hst : ∀ fs, (∀ (f : JFrame) (acts : List Action), f.method = m → f.locked = none → f.entered = [] → (doReturn e (T.setTop f) acts v).1 = T.setFrames fs) → Steps p.tables e below (T.setTop g) (T.setFrames fs))
    (hC : cells ≤ C) (hS : slots ≤ S) (q : Q v T.heap locs) : Fin p e below s Q C S (T.setTop g) := by
  obtain ⟨fs, hr, hrun, hended, hW, hsame⟩ := X.leave (v := v) hv hlocks
  exact ⟨_, _, hst fs hr, hrun, hended, _, _, rfl, q, ⟨_, rfl⟩, hW, hsame.mono hC hS⟩
theorem Fin.retI (X : Stand p l e R s m args below meth c T locs cells slots) (hx : p.tables.exec = Jvm.exec) {pc : Nat} {Ls : Array Slot} {z : Int32} {rest : List Value} (hret : meth.sig.returnType = some .int) (hlocks : meth.locks = false) (hd : decode c.code pc = .ok (.ireturn, 1))
    (hC : cells ≤ C) (hS : slots ≤ S) (q : Q (some (.int z)) T.heap locs) : Fin p e below s Q C S (T.setTop (mkF m pc Ls (.int z :: rest))) :=
  Fin.ret X (fun h => by rw [hret] at h; cases h) hlocks (fun fs hl => retOut X hx hret rfl (Or.inl ⟨rfl, Or.inl rfl, z, rfl⟩) hd hl) hC hS q
theorem Fin.retJ (X : Stand p l e R s m args below meth c T locs cells slots) (hx : p.tables.exec = Jvm.exec) {pc : Nat} {Ls : Array Slot} {z : Int64} {rest : List Value} (hret : meth.sig.returnType = some .long) (hlocks : meth.locks = false) (hd : decode c.code pc = .ok (.lreturn, 1))
    (hC : cells ≤ C) (hS : slots ≤ S) (q : Q (some (.long z)) T.heap locs) : Fin p e below s Q C S (T.setTop (mkF m pc Ls (.long z :: rest))) :=
  Fin.ret X (fun h => by rw [hret] at h; cases h) hlocks (fun fs hl => retOut X hx hret rfl (Or.inr (Or.inl ⟨rfl, rfl, z, rfl⟩)) hd hl) hC hS q
theorem Fin.retD (X : Stand p l e R s m args below meth c T locs cells slots) (hx : p.tables.exec = Jvm.exec) {pc : Nat} {Ls : Array Slot} {z : UInt64} {rest : List Value} (hret : meth.sig.returnType = some .double) (hlocks : meth.locks = false) (hd : decode c.code pc = .ok (.dreturn, 1))
    (hC : cells ≤ C) (hS : slots ≤ S) (q : Q (some (.double z)) T.heap locs) : Fin p e below s Q C S (T.setTop (mkF m pc Ls (.double z :: rest))) :=
  Fin.ret X (fun h => by rw [hret] at h; cases h) hlocks (fun fs hl => retOut X hx hret rfl (Or.inr (Or.inr (Or.inl ⟨rfl, rfl, z, rfl⟩))) hd hl) hC hS q
theorem Fin.retR (X : Stand p l e R s m args below meth c T locs cells slots) (hx : p.tables.exec = Jvm.exec) {pc : Nat} {Ls : Array Slot} {w : Value} {t : FieldType} {rest : List Value} (hret : meth.sig.returnType = some t) (ht : t.isReference = true) (hw : w.isRef = true) (hlocks : meth.locks = false) (hd : decode c.code pc = .ok (.areturn, 1))
    (hC : cells ≤ C) (hS : slots ≤ S) (q : Q (some w) T.heap locs) : Fin p e below s Q C S (T.setTop (mkF m pc Ls (w :: rest))) :=
  Fin.ret X (fun h => by rw [hret] at h; cases h) hlocks (fun fs hl => retOut X hx hret (by cases t <;> simp [FieldType.isReference] at ht <;> cases w <;> simp [Value.isRef] at hw <;> rfl) (Or.inr (Or.inr (Or.inr (Or.inr ⟨rfl, ht, hw⟩)))) hd hl) hC hS q
theorem Fin.retN (X : Stand p l e R s m args below meth c T locs cells slots) (hx : p.tables.exec = Jvm.exec) {pc : Nat} {Ls : Array Slot} {z : Int32} {t : FieldType} {rest : List Value} (hret : meth.sig.returnType = some t) (ht : t = .boolean ∨ t = .byte ∨ t = .char ∨ t = .short) (hlocks : meth.locks = false) (hd : decode c.code pc = .ok (.ireturn, 1))
    (hC : cells ≤ C) (hS : slots ≤ S) (q : Q (some (.int (nar t z))) T.heap locs) : Fin p e below s Q C S (T.setTop (mkF m pc Ls (.int z :: rest))) :=
  Fin.ret X (fun h => by rw [hret] at h; cases h) hlocks (fun fs hl => RoadKit.retN X hx hret ht hd hl) hC hS q
theorem Fin.retV (X : Stand p l e R s m args below meth c T locs cells slots) (hx : p.tables.exec = Jvm.exec) {pc : Nat} {Ls : Array Slot} (hret : meth.sig.returnType = none) (hlocks : meth.locks = false) (hd : decode c.code pc = .ok (.return_, 1))
    (hC : cells ≤ C) (hS : slots ≤ S) (q : Q none T.heap locs) : Fin p e below s Q C S (T.setTop (mkF m pc Ls [])) :=
  Fin.ret X (fun _ => rfl) hlocks (fun fs hl => X.returnOut hx hret hd hl) hC hS q
/-- the same where the walk may intern: the end's frame is ReturnedEndW -/
def FinW (p : Program) (e : Env) (below : List Frame) (s : State) (Q : Option Value → Heap → List Loc → Prop) (C S : Nat) (st : State) : Prop :=
  ∃ s₂ o, Steps p.tables e below st s₂ ∧ s₂.status = .running ∧ Ended s₂ below o ∧ ∃ v L, o = .returned v ∧ Q v s₂.heap L ∧ ReturnedEndW s o s₂ L C S
theorem FinW.step {st st' : State} (h : ∀ t, Steps p.tables e below st' t → Steps p.tables e below st t) (k : FinW p e below s Q C S st') : FinW p e below s Q C S st := by
  obtain ⟨s₂, o, h1, h2⟩ := k
  exact ⟨s₂, o, h _ h1, h2⟩
theorem FinW.ret {vm₁ : Vm} (X : Stand p l e R (s.setVm vm₁) m args below meth c T locs cells slots) {n : Nat} (hS : s.Since vm₁ n) (hn : n ≤ T.heap.size) {v : Option Value} {g : JFrame} (hv : meth.sig.returnType = none → v = none) (hlocks : meth.locks = false)
    (hst : ∀ fs, (∀ (f : JFrame) (acts : List Action), f.method = m → f.locked = none → f.entered = [] → (doReturn e (T.setTop f) acts v).1 = T.setFrames fs) → Steps p.tables e below (T.setTop g) (T.setFrames fs))
    (hC : cells ≤ C) (hS' : slots ≤ S) (q : Q v T.heap locs) : FinW p e below s Q C S (T.setTop g) := by
  obtain ⟨fs, hr, hrun, hended, hW⟩ := X.leaveW hS hn (v := v) hv hlocks
  exact ⟨_, _, hst fs hr, hrun, hended, _, _, rfl, q, hW.1, hW.2.1, hW.2.2.1, hW.2.2.2.mono hC hS'⟩
theorem FinW.retN {vm₁ : Vm} (X : Stand p l e R (s.setVm vm₁) m args below meth c T locs cells slots) {n : Nat} (hS : s.Since vm₁ n) (hn : n ≤ T.heap.size) (hx : p.tables.exec = Jvm.exec) {pc : Nat} {Ls : Array Slot} {z : Int32} {t : FieldType} {rest : List Value} (hret : meth.sig.returnType = some t) (ht : t = .boolean ∨ t = .byte ∨ t = .char ∨ t = .short) (hlocks : meth.locks = false) (hd : decode c.code pc = .ok (.ireturn, 1))
    (hC : cells ≤ C) (hS' : slots ≤ S) (q : Q (some (.int (nar t z))) T.heap locs) : FinW p e below s Q C S (T.setTop (mkF m pc Ls (.int z :: rest))) :=
  FinW.ret X hS hn (fun h => by rw [hret] at h; cases h) hlocks (fun fs hl => RoadKit.retN X hx hret ht hd hl) hC hS' q
theorem FinW.retR {vm₁ : Vm} (X : Stand p l e R (s.setVm vm₁) m args below meth c T locs cells slots) {n : Nat} (hS : s.Since vm₁ n) (hn : n ≤ T.heap.size) (hx : p.tables.exec = Jvm.exec) {pc : Nat} {Ls : Array Slot} {w : Value} {t : FieldType} {rest : List Value} (hret : meth.sig.returnType = some t) (ht : t.isReference = true) (hw : w.isRef = true) (hlocks : meth.locks = false) (hd : decode c.code pc = .ok (.areturn, 1))
    (hC : cells ≤ C) (hS' : slots ≤ S) (q : Q (some w) T.heap locs) : FinW p e below s Q C S (T.setTop (mkF m pc Ls (w :: rest))) :=
  FinW.ret X hS hn (fun h => by rw [hret] at h; cases h) hlocks (fun fs hl => retOut X hx hret (by cases t <;> simp [FieldType.isReference] at ht <;> cases w <;> simp [Value.isRef] at hw <;> rfl) (Or.inr (Or.inr (Or.inr (Or.inr ⟨rfl, ht, hw⟩)))) hd hl) hC hS' q
theorem Fld.cast {Z : State} {h : Heap} {a : Addr} {C n d : String} {v w : Value} (F : Fld Z h a C n d v) (e : v = w) : Fld Z h a C n d w := e ▸ F
theorem Sta_keep {Z : State} {h h' : Heap} {C n d : String} {v : Value} (F : Sta Z h C n d v) (K : Keep h h' []) : Sta Z h' C n d v := by
  obtain ⟨cf, i, k, f, st, cell, h1, h2, h3, h4, h5, r⟩ := F
  exact ⟨cf, i, k, f, st, cell, h1, h2, h3, h4, K.2.1 _ _ h5 nin0, r⟩
theorem Arr_keep {Z : State} {h h' : Heap} {a : Addr} {c : Cell} {ty : FieldType} (F : Arr Z h a c ty) (K : Keep h h' []) : Arr Z h' a c ty := ⟨K.2.1 _ _ F.1 nin0, F.2⟩
/-- the shifts without sign -/
def ushL (x : Int64) (k : Int32) : Int64 := (x.toUInt64 >>> (k &&& 0x3f).toInt64.toUInt64).toInt64
def ushI (x k : Int32) : Int32 := (x.toUInt32 >>> (k &&& 31).toUInt32).toInt32
theorem lcE {x y : Int64} (h : x = y) : lcmpW x y = 0 := by rw [lcW]; exact (lc_eq x y).mpr h
theorem lcNE {x y : Int64} (h : ¬ x = y) : ¬ lcmpW x y = 0 := fun q => h ((lc_eq x y).mp (by rw [← lcW]; exact q))
theorem lcL {x y : Int64} (h : x < y) : lcmpW x y < 0 := by rw [lcW]; exact (lc_lt x y).mpr h
theorem lcNL {x y : Int64} (h : ¬ x < y) : ¬ lcmpW x y < 0 := fun q => h ((lc_lt x y).mp (by rw [← lcW]; exact q))
theorem lcG {x y : Int64} (h : y < x) : 0 < lcmpW x y := by rw [lcW]; exact (lc_gt x y).mpr h
theorem lcNG {x y : Int64} (h : ¬ y < x) : ¬ 0 < lcmpW x y := fun q => h ((lc_gt x y).mp (by rw [← lcW]; exact q))
end Own
end Jvm.OwnKit
namespace Jvm.Pilot.@@N@@
open Jvm Jvm.ClassFile Sem Op Lib Jvm.Free Jvm.Stand Jvm.LawKit Jvm.RoadKit Jvm.OwnKit Bundle Jvm.Pilot.@@N@@.Jvm.D
open Jvm.Free.Fl in
theorem own_div (a b : Int64) (h : Nz64 (FP.l2d b)) : NoNaN64 (FP.ddiv (FP.l2d a) (FP.l2d b)) := ddiv_out (l2d_fin a).noNaN (l2d_fin b) h
open Jvm.Free.Fl in
theorem own_nn (a : Int64) : NoNaN64 (FP.l2d a) := (l2d_fin a).noNaN
def own_B (k : Nat) (x : Int64) : Prop := -((k : Int) * 2147483648) ≤ x.toInt ∧ x.toInt ≤ (k : Int) * 2147483648
theorem own_b0 : own_B 0 0 := by unfold own_B; decide
theorem own_b1 (p : Int32) : own_B 1 p.toInt64 := by
  unfold own_B
  have h1 := Int32.toInt_lt p
  have h2 := Int32.le_toInt p
  rw [Jvm.Kit.i64_of_i32]
  omega
theorem own_bs {k : Nat} {x : Int64} (hk : k ≤ 100) (h : own_B k x) (p : Int32) : own_B (k + 1) (x + p.toInt64) := by
  have h1 := own_b1 p
  unfold own_B at *
  rw [Jvm.Kit.i64_add (by omega) (by omega)]
  omega
theorem own_53 {k : Nat} {x : Int64} (hk : k ≤ 100) (h : own_B k x) : B53 x := by
  unfold own_B at h
  exact ⟨by omega, by omega⟩
theorem own_n5 (x : Int32) : (x &&& 2147483647) % 5 = 0 ∨ (x &&& 2147483647) % 5 = 1 ∨ (x &&& 2147483647) % 5 = 2 ∨ (x &&& 2147483647) % 5 = 3 ∨ (x &&& 2147483647) % 5 = 4 := by
  have h : (x &&& 2147483647).toInt = x.toInt % 2 ^ 31 := Jvm.Kit.i32_mask x 2147483647 (k := 31) (by decide) (by decide)
  have h2 : ((x &&& 2147483647) % 5).toInt = (x &&& 2147483647).toInt % 5 := Jvm.Kit.i32_rem_nonneg (y := 5) (by omega)
  generalize (x &&& 2147483647) % 5 = y at *
  have e : y.toInt = 0 ∨ y.toInt = 1 ∨ y.toInt = 2 ∨ y.toInt = 3 ∨ y.toInt = 4 := by omega
  rcases e with e | e | e | e | e
  · exact Or.inl (Int32.toInt_inj.mp (by rw [e]; rfl))
  · exact Or.inr (Or.inl (Int32.toInt_inj.mp (by rw [e]; rfl)))
  · exact Or.inr (Or.inr (Or.inl (Int32.toInt_inj.mp (by rw [e]; rfl))))
  · exact Or.inr (Or.inr (Or.inr (Or.inl (Int32.toInt_inj.mp (by rw [e]; rfl)))))
  · exact Or.inr (Or.inr (Or.inr (Or.inr (Int32.toInt_inj.mp (by rw [e]; rfl)))))
theorem d1_0 : decode prog_21_method_6_code 0 = .ok (.dconst 0, 1) := by decide +kernel
theorem d1_1 : decode prog_21_method_6_code 1 = .ok (.dstore_n 1, 1) := by decide +kernel
theorem d1_2 : decode prog_21_method_6_code 2 = .ok (.aload_n 0, 1) := by decide +kernel
theorem d1_3 : decode prog_21_method_6_code 3 = .ok (.astore_n 3, 1) := by decide +kernel
theorem d1_4 : decode prog_21_method_6_code 4 = .ok (.aload_n 3, 1) := by decide +kernel
theorem d1_5 : decode prog_21_method_6_code 5 = .ok (.arraylength, 1) := by decide +kernel
theorem d1_6 : decode prog_21_method_6_code 6 = .ok (.istore 4, 2) := by decide +kernel
theorem d1_8 : decode prog_21_method_6_code 8 = .ok (.iconst 0, 1) := by decide +kernel
theorem d1_9 : decode prog_21_method_6_code 9 = .ok (.istore 5, 2) := by decide +kernel
theorem d1_11 : decode prog_21_method_6_code 11 = .ok (.iload 5, 2) := by decide +kernel
theorem d1_13 : decode prog_21_method_6_code 13 = .ok (.iload 4, 2) := by decide +kernel
theorem d1_15 : decode prog_21_method_6_code 15 = .ok (.if_icmp .ge 20, 3) := by decide +kernel
theorem d1_18 : decode prog_21_method_6_code 18 = .ok (.aload_n 3, 1) := by decide +kernel
theorem d1_19 : decode prog_21_method_6_code 19 = .ok (.iload 5, 2) := by decide +kernel
theorem d1_21 : decode prog_21_method_6_code 21 = .ok (.daload, 1) := by decide +kernel
theorem d1_22 : decode prog_21_method_6_code 22 = .ok (.dstore 6, 2) := by decide +kernel
theorem d1_24 : decode prog_21_method_6_code 24 = .ok (.dload_n 1, 1) := by decide +kernel
theorem d1_25 : decode prog_21_method_6_code 25 = .ok (.dload 6, 2) := by decide +kernel
theorem d1_27 : decode prog_21_method_6_code 27 = .ok (.dadd, 1) := by decide +kernel
theorem d1_28 : decode prog_21_method_6_code 28 = .ok (.dstore_n 1, 1) := by decide +kernel
theorem d1_29 : decode prog_21_method_6_code 29 = .ok (.iinc 5 1, 3) := by decide +kernel
theorem d1_32 : decode prog_21_method_6_code 32 = .ok (.goto (-21), 3) := by decide +kernel
theorem d1_35 : decode prog_21_method_6_code 35 = .ok (.aload_n 0, 1) := by decide +kernel
theorem d1_36 : decode prog_21_method_6_code 36 = .ok (.arraylength, 1) := by decide +kernel
theorem d1_37 : decode prog_21_method_6_code 37 = .ok (.ifCond .ne 7, 3) := by decide +kernel
theorem d1_40 : decode prog_21_method_6_code 40 = .ok (.dconst 0, 1) := by decide +kernel
theorem d1_41 : decode prog_21_method_6_code 41 = .ok (.goto 8, 3) := by decide +kernel
theorem d1_44 : decode prog_21_method_6_code 44 = .ok (.dload_n 1, 1) := by decide +kernel
theorem d1_45 : decode prog_21_method_6_code 45 = .ok (.aload_n 0, 1) := by decide +kernel
theorem d1_46 : decode prog_21_method_6_code 46 = .ok (.arraylength, 1) := by decide +kernel
theorem d1_47 : decode prog_21_method_6_code 47 = .ok (.i2d, 1) := by decide +kernel
theorem d1_48 : decode prog_21_method_6_code 48 = .ok (.ddiv, 1) := by decide +kernel
theorem d1_49 : decode prog_21_method_6_code 49 = .ok (.dreturn, 1) := by decide +kernel
theorem pn_1 : plainName "com/example/indexterity/indexterity/comparison/PairedTests" = true := by first | (simp [plainName, overriddenIn]; done) | decide +kernel
theorem ef_rmm0 (m : MethodId) (x0 : Addr) : entryFrame m #[(.ref x0)] 8 = mkF m 0 #[.val (.ref x0), .unset, .unset, .unset, .unset, .unset, .unset, .unset] [] := by first | (simp [entryFrame, mkF, argsToLocals, Value.category]; done) | rfl
def Qm0 (Z : State) (a1 : Addr) (k1 : ClassId) (h0 : Heap) (n0 : Nat) (v : Option Value) (h : Heap) (L : List Loc) : Prop := v = some (.double (FP.l2d (0 : Int64))) ∧ Fr n0 L ∧ h = h0
set_option maxRecDepth 65536 in
set_option maxHeartbeats 40000000 in
theorem rmm0 (l : Launch) (Z : State) (a0 : Array Value) (hw : ∀ d ∈ tables_1, d.before a0 Z = true) (ws : List Jvm.Cond) (a1 : Addr) (k1 : ClassId) (h0 : Heap) (n0 : Nat) (Z0 : n0 ≤ h0.size) (HV_a1 : Arv Z h0 a1 k1 .double (0 : Int32) [] (.double (FP.l2d (0 : Int64)))) :
    MetFree l (⟨"com/example/indexterity/indexterity/comparison/PairedTests", "mean", "([D)D"⟩ : MethodName) (head1 (Jvm.Cond.code (⟨"com/example/indexterity/indexterity/comparison/PairedTests", "mean", "([D)D"⟩ : MethodName) prog_21_method_6_code 8 (some .double) :: ws) ({ frames := 0, cells := 0, slots := 0, locals := 0 } : Room)) (fun a U => a = #[(.ref a1)] ∧ Z.Warmed39 U.vm ∧ U.heap = h0) (fun _ _ _ _ _ => True) (fun _ U o U' => ∃ v L, o = .returned v ∧ Qm0 Z a1 k1 h0 n0 v U'.heap L ∧ FrameEnd U o U' L ({ frames := 0, cells := 0, slots := 0, locals := 0 } : Room).cells ({ frames := 0, cells := 0, slots := 0, locals := 0 } : Room).slots) := by
  refine MetFree.of_bodySF (plainFor_of_name pn_1) hisR ?_
  intro p e s m args below meth c s₁ Bd hml0 hP hK
  obtain ⟨rfl, hZ, hh⟩ := hP
  have hx := Bd.exec
  have hby := Bd.bytes
  have hlk := BodyLoose.notSynchronized Bd
  have hret := Bd.returns
  have hml : c.maxLocals = 8 := hml0
  have hown : s.vm.findClass "com/example/indexterity/indexterity/comparison/PairedTests" = some m.cls := findClass_of_methodNamed Bd.named
  have hnm := (name_of_methodNamed Bd.named Bd.method).1
  have X0 : Stand p l e ({ frames := 0, cells := 0, slots := 0, locals := 0 } : Room) s m #[(.ref a1)] below meth c s₁ [] 0 0 := Stand.of_body Bd
  have e0 : s₁.heap = h0 := by rw [← hh, Bd.state]; rfl
  have N0 := Fr.nil n0
  have K0 : Keep h0 h0 [] := Keep.refl h0 _
  refine Fin.step (Q := fun v h L => Qm0 Z a1 k1 h0 n0 v h L) (st' := s₁.setTop (mkF m 0 #[.val (.ref a1), .unset, .unset, .unset, .unset, .unset, .unset, .unset] [])) (fun t k => castTop (ef_rmm0 m a1) k) ?_
  show Fin p e below s _ _ _ (s₁.setTop (mkF m 0 #[.val (.ref a1), .unset, .unset, .unset, .unset, .unset, .unset, .unset] []))
  refine Fin.step (fun _ => XS.dconst0 X0.here hx rfl (hb hby d1_0) (show FP.dconst0 = FP.l2d (0 : Int64) by decide +kernel)) ?_
  show Fin p e below s _ _ _ (s₁.setTop (mkF m 1 #[.val (.ref a1), .unset, .unset, .unset, .unset, .unset, .unset, .unset] [(.double (FP.l2d (0 : Int64)))]))
  refine Fin.step (fun _ => XS.dstoreN X0.here hx rfl (hb hby d1_1) rfl (l' := #[.val (.ref a1), .val (.double (FP.l2d (0 : Int64))), .second, .unset, .unset, .unset, .unset, .unset]) rfl) ?_
  show Fin p e below s _ _ _ (s₁.setTop (mkF m 2 #[.val (.ref a1), .val (.double (FP.l2d (0 : Int64))), .second, .unset, .unset, .unset, .unset, .unset] []))
  refine Fin.step (fun _ => XS.aloadN X0.here hx rfl (hb hby d1_2) rfl rfl) ?_
  show Fin p e below s _ _ _ (s₁.setTop (mkF m 3 #[.val (.ref a1), .val (.double (FP.l2d (0 : Int64))), .second, .unset, .unset, .unset, .unset, .unset] [(.ref a1)]))
  refine Fin.step (fun _ => XS.astoreN X0.here hx rfl (hb hby d1_3) rfl rfl (l' := #[.val (.ref a1), .val (.double (FP.l2d (0 : Int64))), .second, .val (.ref a1), .unset, .unset, .unset, .unset]) rfl) ?_
  show Fin p e below s _ _ _ (s₁.setTop (mkF m 4 #[.val (.ref a1), .val (.double (FP.l2d (0 : Int64))), .second, .val (.ref a1), .unset, .unset, .unset, .unset] []))
  refine Fin.step (fun _ => XS.aloadN X0.here hx rfl (hb hby d1_4) rfl rfl) ?_
  show Fin p e below s _ _ _ (s₁.setTop (mkF m 5 #[.val (.ref a1), .val (.double (FP.l2d (0 : Int64))), .second, .val (.ref a1), .unset, .unset, .unset, .unset] [(.ref a1)]))
  have voy1 := HV_a1
  obtain ⟨cly1, Ary1, qay1, say1, nay1, hay1, gay1⟩ := voy1
  refine Fin.step (X0.arraylength hx (by rw [e0]; exact Ary1.1) (State.isArrayOf_alike hZ.alike Ary1.2.1) (g := (mkF m 5 #[.val (.ref a1), .val (.double (FP.l2d (0 : Int64))), .second, .val (.ref a1), .unset, .unset, .unset, .unset] [(.ref a1)])) rfl rfl (hb hby d1_5)) ?_
  rw [len_of say1 nay1]
  show Fin p e below s _ _ _ (s₁.setTop (mkF m 6 #[.val (.ref a1), .val (.double (FP.l2d (0 : Int64))), .second, .val (.ref a1), .unset, .unset, .unset, .unset] [(.int (0 : Int32))]))
  refine Fin.step (fun _ => XS.istore X0.here hx rfl (hb hby d1_6) rfl (l' := #[.val (.ref a1), .val (.double (FP.l2d (0 : Int64))), .second, .val (.ref a1), .val (.int (0 : Int32)), .unset, .unset, .unset]) rfl) ?_
  show Fin p e below s _ _ _ (s₁.setTop (mkF m 8 #[.val (.ref a1), .val (.double (FP.l2d (0 : Int64))), .second, .val (.ref a1), .val (.int (0 : Int32)), .unset, .unset, .unset] []))
  refine Fin.step (fun _ => XS.iconst X0.here hx rfl (hb hby d1_8)) ?_
  show Fin p e below s _ _ _ (s₁.setTop (mkF m 9 #[.val (.ref a1), .val (.double (FP.l2d (0 : Int64))), .second, .val (.ref a1), .val (.int (0 : Int32)), .unset, .unset, .unset] [(.int (0 : Int32))]))
  refine Fin.step (fun _ => XS.istore X0.here hx rfl (hb hby d1_9) rfl (l' := #[.val (.ref a1), .val (.double (FP.l2d (0 : Int64))), .second, .val (.ref a1), .val (.int (0 : Int32)), .val (.int (0 : Int32)), .unset, .unset]) rfl) ?_
  show Fin p e below s _ _ _ (s₁.setTop (mkF m 11 #[.val (.ref a1), .val (.double (FP.l2d (0 : Int64))), .second, .val (.ref a1), .val (.int (0 : Int32)), .val (.int (0 : Int32)), .unset, .unset] []))
  refine Fin.step (fun _ => XS.iload X0.here hx rfl (hb hby d1_11) rfl) ?_
  show Fin p e below s _ _ _ (s₁.setTop (mkF m 13 #[.val (.ref a1), .val (.double (FP.l2d (0 : Int64))), .second, .val (.ref a1), .val (.int (0 : Int32)), .val (.int (0 : Int32)), .unset, .unset] [(.int (0 : Int32))]))
  refine Fin.step (fun _ => XS.iload X0.here hx rfl (hb hby d1_13) rfl) ?_
  show Fin p e below s _ _ _ (s₁.setTop (mkF m 15 #[.val (.ref a1), .val (.double (FP.l2d (0 : Int64))), .second, .val (.ref a1), .val (.int (0 : Int32)), .val (.int (0 : Int32)), .unset, .unset] [(.int (0 : Int32)), (.int (0 : Int32))]))
  refine Fin.step (fun _ => XS.icmpYes X0.here hx rfl (pc0 := 15) (pc' := 35) rfl (hb hby d1_15) rfl (flt ((by decide) : ¬ ((0 : Int32) < (0 : Int32)))).2.1 (by decide) (by decide)) ?_
  show Fin p e below s _ _ _ (s₁.setTop (mkF m 35 #[.val (.ref a1), .val (.double (FP.l2d (0 : Int64))), .second, .val (.ref a1), .val (.int (0 : Int32)), .val (.int (0 : Int32)), .unset, .unset] []))
  refine Fin.step (fun _ => XS.aloadN X0.here hx rfl (hb hby d1_35) rfl rfl) ?_
  show Fin p e below s _ _ _ (s₁.setTop (mkF m 36 #[.val (.ref a1), .val (.double (FP.l2d (0 : Int64))), .second, .val (.ref a1), .val (.int (0 : Int32)), .val (.int (0 : Int32)), .unset, .unset] [(.ref a1)]))
  have voy2 := HV_a1
  obtain ⟨cly2, Ary2, qay2, say2, nay2, hay2, gay2⟩ := voy2
  refine Fin.step (X0.arraylength hx (by rw [e0]; exact Ary2.1) (State.isArrayOf_alike hZ.alike Ary2.2.1) (g := (mkF m 36 #[.val (.ref a1), .val (.double (FP.l2d (0 : Int64))), .second, .val (.ref a1), .val (.int (0 : Int32)), .val (.int (0 : Int32)), .unset, .unset] [(.ref a1)])) rfl rfl (hb hby d1_36)) ?_
  rw [len_of say2 nay2]
  show Fin p e below s _ _ _ (s₁.setTop (mkF m 37 #[.val (.ref a1), .val (.double (FP.l2d (0 : Int64))), .second, .val (.ref a1), .val (.int (0 : Int32)), .val (.int (0 : Int32)), .unset, .unset] [(.int (0 : Int32))]))
  refine Fin.step (fun _ => XS.ifNo X0.here hx rfl (hb hby d1_37) rfl ((if0 _ _).trans (teq ((by decide) : ((0 : Int32) = (0 : Int32)))).2)) ?_
  show Fin p e below s _ _ _ (s₁.setTop (mkF m 40 #[.val (.ref a1), .val (.double (FP.l2d (0 : Int64))), .second, .val (.ref a1), .val (.int (0 : Int32)), .val (.int (0 : Int32)), .unset, .unset] []))
  refine Fin.step (fun _ => XS.dconst0 X0.here hx rfl (hb hby d1_40) (show FP.dconst0 = FP.l2d (0 : Int64) by decide +kernel)) ?_
  show Fin p e below s _ _ _ (s₁.setTop (mkF m 41 #[.val (.ref a1), .val (.double (FP.l2d (0 : Int64))), .second, .val (.ref a1), .val (.int (0 : Int32)), .val (.int (0 : Int32)), .unset, .unset] [(.double (FP.l2d (0 : Int64)))]))
  refine Fin.step (fun _ => XS.goto X0.here hx rfl (pc0 := 41) (pc' := 49) rfl (hb hby d1_41) (by decide) (by decide)) ?_
  show Fin p e below s _ _ _ (s₁.setTop (mkF m 49 #[.val (.ref a1), .val (.double (FP.l2d (0 : Int64))), .second, .val (.ref a1), .val (.int (0 : Int32)), .val (.int (0 : Int32)), .unset, .unset] [(.double (FP.l2d (0 : Int64)))]))
  refine Fin.retD X0 hx hret hlk (hb hby d1_49) (by decide) (by decide) ?_
  show Qm0 Z a1 k1 h0 n0 _ s₁.heap _
  rw [e0]
  exact ⟨rfl, N0, rfl⟩
theorem ef_rmm1 (m : MethodId) (x0 : Addr) : entryFrame m #[(.ref x0)] 8 = mkF m 0 #[.val (.ref x0), .unset, .unset, .unset, .unset, .unset, .unset, .unset] [] := by first | (simp [entryFrame, mkF, argsToLocals, Value.category]; done) | rfl
def Qm1 (Z : State) (a1 : Addr) (k1 : ClassId) (P0 : Int32) (h0 : Heap) (n0 : Nat) (v : Option Value) (h : Heap) (L : List Loc) : Prop := v = some (.double (FP.ddiv (FP.l2d ((0 : Int64) + P0.toInt64)) (FP.l2d (1 : Int32).toInt64))) ∧ Fr n0 L ∧ h = h0
set_option maxRecDepth 65536 in
set_option maxHeartbeats 40000000 in
theorem rmm1 (l : Launch) (Z : State) (a0 : Array Value) (hw : ∀ d ∈ tables_1, d.before a0 Z = true) (ws : List Jvm.Cond) (a1 : Addr) (k1 : ClassId) (P0 : Int32) (h0 : Heap) (n0 : Nat) (Z0 : n0 ≤ h0.size) (HV_a1 : Arv Z h0 a1 k1 .double (1 : Int32) [(.double (FP.l2d P0.toInt64))] (.double (FP.l2d (0 : Int64)))) :
    MetFree l (⟨"com/example/indexterity/indexterity/comparison/PairedTests", "mean", "([D)D"⟩ : MethodName) (head1 (Jvm.Cond.code (⟨"com/example/indexterity/indexterity/comparison/PairedTests", "mean", "([D)D"⟩ : MethodName) prog_21_method_6_code 8 (some .double) :: ws) ({ frames := 0, cells := 0, slots := 0, locals := 0 } : Room)) (fun a U => a = #[(.ref a1)] ∧ Z.Warmed39 U.vm ∧ U.heap = h0) (fun _ _ _ _ _ => True) (fun _ U o U' => ∃ v L, o = .returned v ∧ Qm1 Z a1 k1 P0 h0 n0 v U'.heap L ∧ FrameEnd U o U' L ({ frames := 0, cells := 0, slots := 0, locals := 0 } : Room).cells ({ frames := 0, cells := 0, slots := 0, locals := 0 } : Room).slots) := by
  refine MetFree.of_bodySF (plainFor_of_name pn_1) hisR ?_
  intro p e s m args below meth c s₁ Bd hml0 hP hK
  obtain ⟨rfl, hZ, hh⟩ := hP
  have hx := Bd.exec
  have hby := Bd.bytes
  have hlk := BodyLoose.notSynchronized Bd
  have hret := Bd.returns
  have hml : c.maxLocals = 8 := hml0
  have hown : s.vm.findClass "com/example/indexterity/indexterity/comparison/PairedTests" = some m.cls := findClass_of_methodNamed Bd.named
  have hnm := (name_of_methodNamed Bd.named Bd.method).1
  have X0 : Stand p l e ({ frames := 0, cells := 0, slots := 0, locals := 0 } : Room) s m #[(.ref a1)] below meth c s₁ [] 0 0 := Stand.of_body Bd
  have e0 : s₁.heap = h0 := by rw [← hh, Bd.state]; rfl
  have N0 := Fr.nil n0
  have K0 : Keep h0 h0 [] := Keep.refl h0 _
  refine Fin.step (Q := fun v h L => Qm1 Z a1 k1 P0 h0 n0 v h L) (st' := s₁.setTop (mkF m 0 #[.val (.ref a1), .unset, .unset, .unset, .unset, .unset, .unset, .unset] [])) (fun t k => castTop (ef_rmm1 m a1) k) ?_
  show Fin p e below s _ _ _ (s₁.setTop (mkF m 0 #[.val (.ref a1), .unset, .unset, .unset, .unset, .unset, .unset, .unset] []))
  refine Fin.step (fun _ => XS.dconst0 X0.here hx rfl (hb hby d1_0) (show FP.dconst0 = FP.l2d (0 : Int64) by decide +kernel)) ?_
  show Fin p e below s _ _ _ (s₁.setTop (mkF m 1 #[.val (.ref a1), .unset, .unset, .unset, .unset, .unset, .unset, .unset] [(.double (FP.l2d (0 : Int64)))]))
  refine Fin.step (fun _ => XS.dstoreN X0.here hx rfl (hb hby d1_1) rfl (l' := #[.val (.ref a1), .val (.double (FP.l2d (0 : Int64))), .second, .unset, .unset, .unset, .unset, .unset]) rfl) ?_
  show Fin p e below s _ _ _ (s₁.setTop (mkF m 2 #[.val (.ref a1), .val (.double (FP.l2d (0 : Int64))), .second, .unset, .unset, .unset, .unset, .unset] []))
  refine Fin.step (fun _ => XS.aloadN X0.here hx rfl (hb hby d1_2) rfl rfl) ?_
  show Fin p e below s _ _ _ (s₁.setTop (mkF m 3 #[.val (.ref a1), .val (.double (FP.l2d (0 : Int64))), .second, .unset, .unset, .unset, .unset, .unset] [(.ref a1)]))
  refine Fin.step (fun _ => XS.astoreN X0.here hx rfl (hb hby d1_3) rfl rfl (l' := #[.val (.ref a1), .val (.double (FP.l2d (0 : Int64))), .second, .val (.ref a1), .unset, .unset, .unset, .unset]) rfl) ?_
  show Fin p e below s _ _ _ (s₁.setTop (mkF m 4 #[.val (.ref a1), .val (.double (FP.l2d (0 : Int64))), .second, .val (.ref a1), .unset, .unset, .unset, .unset] []))
  refine Fin.step (fun _ => XS.aloadN X0.here hx rfl (hb hby d1_4) rfl rfl) ?_
  show Fin p e below s _ _ _ (s₁.setTop (mkF m 5 #[.val (.ref a1), .val (.double (FP.l2d (0 : Int64))), .second, .val (.ref a1), .unset, .unset, .unset, .unset] [(.ref a1)]))
  have voy1 := HV_a1
  obtain ⟨cly1, Ary1, qay1, say1, nay1, hay1, gay1⟩ := voy1
  refine Fin.step (X0.arraylength hx (by rw [e0]; exact Ary1.1) (State.isArrayOf_alike hZ.alike Ary1.2.1) (g := (mkF m 5 #[.val (.ref a1), .val (.double (FP.l2d (0 : Int64))), .second, .val (.ref a1), .unset, .unset, .unset, .unset] [(.ref a1)])) rfl rfl (hb hby d1_5)) ?_
  rw [len_of say1 nay1]
  show Fin p e below s _ _ _ (s₁.setTop (mkF m 6 #[.val (.ref a1), .val (.double (FP.l2d (0 : Int64))), .second, .val (.ref a1), .unset, .unset, .unset, .unset] [(.int (1 : Int32))]))
  refine Fin.step (fun _ => XS.istore X0.here hx rfl (hb hby d1_6) rfl (l' := #[.val (.ref a1), .val (.double (FP.l2d (0 : Int64))), .second, .val (.ref a1), .val (.int (1 : Int32)), .unset, .unset, .unset]) rfl) ?_
  show Fin p e below s _ _ _ (s₁.setTop (mkF m 8 #[.val (.ref a1), .val (.double (FP.l2d (0 : Int64))), .second, .val (.ref a1), .val (.int (1 : Int32)), .unset, .unset, .unset] []))
  refine Fin.step (fun _ => XS.iconst X0.here hx rfl (hb hby d1_8)) ?_
  show Fin p e below s _ _ _ (s₁.setTop (mkF m 9 #[.val (.ref a1), .val (.double (FP.l2d (0 : Int64))), .second, .val (.ref a1), .val (.int (1 : Int32)), .unset, .unset, .unset] [(.int (0 : Int32))]))
  refine Fin.step (fun _ => XS.istore X0.here hx rfl (hb hby d1_9) rfl (l' := #[.val (.ref a1), .val (.double (FP.l2d (0 : Int64))), .second, .val (.ref a1), .val (.int (1 : Int32)), .val (.int (0 : Int32)), .unset, .unset]) rfl) ?_
  show Fin p e below s _ _ _ (s₁.setTop (mkF m 11 #[.val (.ref a1), .val (.double (FP.l2d (0 : Int64))), .second, .val (.ref a1), .val (.int (1 : Int32)), .val (.int (0 : Int32)), .unset, .unset] []))
  refine Fin.step (fun _ => XS.iload X0.here hx rfl (hb hby d1_11) rfl) ?_
  show Fin p e below s _ _ _ (s₁.setTop (mkF m 13 #[.val (.ref a1), .val (.double (FP.l2d (0 : Int64))), .second, .val (.ref a1), .val (.int (1 : Int32)), .val (.int (0 : Int32)), .unset, .unset] [(.int (0 : Int32))]))
  refine Fin.step (fun _ => XS.iload X0.here hx rfl (hb hby d1_13) rfl) ?_
  show Fin p e below s _ _ _ (s₁.setTop (mkF m 15 #[.val (.ref a1), .val (.double (FP.l2d (0 : Int64))), .second, .val (.ref a1), .val (.int (1 : Int32)), .val (.int (0 : Int32)), .unset, .unset] [(.int (1 : Int32)), (.int (0 : Int32))]))
  refine Fin.step (fun _ => XS.icmpNo X0.here hx rfl (hb hby d1_15) rfl (tlt ((by decide) : ((0 : Int32) < (1 : Int32)))).2.1) ?_
  show Fin p e below s _ _ _ (s₁.setTop (mkF m 18 #[.val (.ref a1), .val (.double (FP.l2d (0 : Int64))), .second, .val (.ref a1), .val (.int (1 : Int32)), .val (.int (0 : Int32)), .unset, .unset] []))
  refine Fin.step (fun _ => XS.aloadN X0.here hx rfl (hb hby d1_18) rfl rfl) ?_
  show Fin p e below s _ _ _ (s₁.setTop (mkF m 19 #[.val (.ref a1), .val (.double (FP.l2d (0 : Int64))), .second, .val (.ref a1), .val (.int (1 : Int32)), .val (.int (0 : Int32)), .unset, .unset] [(.ref a1)]))
  refine Fin.step (fun _ => XS.iload X0.here hx rfl (hb hby d1_19) rfl) ?_
  show Fin p e below s _ _ _ (s₁.setTop (mkF m 21 #[.val (.ref a1), .val (.double (FP.l2d (0 : Int64))), .second, .val (.ref a1), .val (.int (1 : Int32)), .val (.int (0 : Int32)), .unset, .unset] [(.int (0 : Int32)), (.ref a1)]))
  have voy2 := HV_a1
  obtain ⟨cly2, Ary2, qay2, say2, nay2, hay2, gay2⟩ := voy2
  have iny2 := inb_of (j := (0 : Int32)) say2 ⟨by decide, by decide⟩
  refine Fin.step (X0.daload hx (j := (0 : Int32)) (v := (.double (FP.l2d P0.toInt64))) (by rw [e0]; exact Ary2.1) (State.isArrayOf_alike hZ.alike Ary2.2.1) Ary2.2.2 iny2 (hay2.at iny2 rfl) (g := (mkF m 21 #[.val (.ref a1), .val (.double (FP.l2d (0 : Int64))), .second, .val (.ref a1), .val (.int (1 : Int32)), .val (.int (0 : Int32)), .unset, .unset] [(.int (0 : Int32)), (.ref a1)])) rfl rfl (hb hby d1_21)) ?_
  show Fin p e below s _ _ _ (s₁.setTop (mkF m 22 #[.val (.ref a1), .val (.double (FP.l2d (0 : Int64))), .second, .val (.ref a1), .val (.int (1 : Int32)), .val (.int (0 : Int32)), .unset, .unset] [(.double (FP.l2d P0.toInt64))]))
  refine Fin.step (fun _ => XS.dstore X0.here hx rfl (hb hby d1_22) rfl (l' := #[.val (.ref a1), .val (.double (FP.l2d (0 : Int64))), .second, .val (.ref a1), .val (.int (1 : Int32)), .val (.int (0 : Int32)), .val (.double (FP.l2d P0.toInt64)), .second]) rfl) ?_
  show Fin p e below s _ _ _ (s₁.setTop (mkF m 24 #[.val (.ref a1), .val (.double (FP.l2d (0 : Int64))), .second, .val (.ref a1), .val (.int (1 : Int32)), .val (.int (0 : Int32)), .val (.double (FP.l2d P0.toInt64)), .second] []))
  refine Fin.step (fun _ => XS.dloadN X0.here hx rfl (hb hby d1_24) rfl) ?_
  show Fin p e below s _ _ _ (s₁.setTop (mkF m 25 #[.val (.ref a1), .val (.double (FP.l2d (0 : Int64))), .second, .val (.ref a1), .val (.int (1 : Int32)), .val (.int (0 : Int32)), .val (.double (FP.l2d P0.toInt64)), .second] [(.double (FP.l2d (0 : Int64)))]))
  refine Fin.step (fun _ => XS.dload X0.here hx rfl (hb hby d1_25) rfl) ?_
  show Fin p e below s _ _ _ (s₁.setTop (mkF m 27 #[.val (.ref a1), .val (.double (FP.l2d (0 : Int64))), .second, .val (.ref a1), .val (.int (1 : Int32)), .val (.int (0 : Int32)), .val (.double (FP.l2d P0.toInt64)), .second] [(.double (FP.l2d P0.toInt64)), (.double (FP.l2d (0 : Int64)))]))
  refine Fin.step (fun _ => XS.daddS X0.here hx rfl (hb hby d1_27) rfl (nn_w (dadd_w (a := (0 : Int64)) (b := P0.toInt64) (own_53 (by decide) own_b0) (own_53 (by decide) (own_b1 _)))) (dadd_w (a := (0 : Int64)) (b := P0.toInt64) (own_53 (by decide) own_b0) (own_53 (by decide) (own_b1 _)))) ?_
  show Fin p e below s _ _ _ (s₁.setTop (mkF m 28 #[.val (.ref a1), .val (.double (FP.l2d (0 : Int64))), .second, .val (.ref a1), .val (.int (1 : Int32)), .val (.int (0 : Int32)), .val (.double (FP.l2d P0.toInt64)), .second] [(.double (FP.l2d ((0 : Int64) + P0.toInt64)))]))
  refine Fin.step (fun _ => XS.dstoreN X0.here hx rfl (hb hby d1_28) rfl (l' := #[.val (.ref a1), .val (.double (FP.l2d ((0 : Int64) + P0.toInt64))), .second, .val (.ref a1), .val (.int (1 : Int32)), .val (.int (0 : Int32)), .val (.double (FP.l2d P0.toInt64)), .second]) rfl) ?_
  show Fin p e below s _ _ _ (s₁.setTop (mkF m 29 #[.val (.ref a1), .val (.double (FP.l2d ((0 : Int64) + P0.toInt64))), .second, .val (.ref a1), .val (.int (1 : Int32)), .val (.int (0 : Int32)), .val (.double (FP.l2d P0.toInt64)), .second] []))
  refine Fin.step (fun _ => XS.iinc X0.here hx rfl (hb hby d1_29) rfl (l' := #[.val (.ref a1), .val (.double (FP.l2d ((0 : Int64) + P0.toInt64))), .second, .val (.ref a1), .val (.int (1 : Int32)), .val (.int (1 : Int32)), .val (.double (FP.l2d P0.toInt64)), .second]) rfl) ?_
  show Fin p e below s _ _ _ (s₁.setTop (mkF m 32 #[.val (.ref a1), .val (.double (FP.l2d ((0 : Int64) + P0.toInt64))), .second, .val (.ref a1), .val (.int (1 : Int32)), .val (.int (1 : Int32)), .val (.double (FP.l2d P0.toInt64)), .second] []))
  refine Fin.step (fun _ => XS.goto X0.here hx rfl (pc0 := 32) (pc' := 11) rfl (hb hby d1_32) (by decide) (by decide)) ?_
  show Fin p e below s _ _ _ (s₁.setTop (mkF m 11 #[.val (.ref a1), .val (.double (FP.l2d ((0 : Int64) + P0.toInt64))), .second, .val (.ref a1), .val (.int (1 : Int32)), .val (.int (1 : Int32)), .val (.double (FP.l2d P0.toInt64)), .second] []))
  refine Fin.step (fun _ => XS.iload X0.here hx rfl (hb hby d1_11) rfl) ?_
  show Fin p e below s _ _ _ (s₁.setTop (mkF m 13 #[.val (.ref a1), .val (.double (FP.l2d ((0 : Int64) + P0.toInt64))), .second, .val (.ref a1), .val (.int (1 : Int32)), .val (.int (1 : Int32)), .val (.double (FP.l2d P0.toInt64)), .second] [(.int (1 : Int32))]))
  refine Fin.step (fun _ => XS.iload X0.here hx rfl (hb hby d1_13) rfl) ?_
  show Fin p e below s _ _ _ (s₁.setTop (mkF m 15 #[.val (.ref a1), .val (.double (FP.l2d ((0 : Int64) + P0.toInt64))), .second, .val (.ref a1), .val (.int (1 : Int32)), .val (.int (1 : Int32)), .val (.double (FP.l2d P0.toInt64)), .second] [(.int (1 : Int32)), (.int (1 : Int32))]))
  refine Fin.step (fun _ => XS.icmpYes X0.here hx rfl (pc0 := 15) (pc' := 35) rfl (hb hby d1_15) rfl (flt ((by decide) : ¬ ((1 : Int32) < (1 : Int32)))).2.1 (by decide) (by decide)) ?_
  show Fin p e below s _ _ _ (s₁.setTop (mkF m 35 #[.val (.ref a1), .val (.double (FP.l2d ((0 : Int64) + P0.toInt64))), .second, .val (.ref a1), .val (.int (1 : Int32)), .val (.int (1 : Int32)), .val (.double (FP.l2d P0.toInt64)), .second] []))
  refine Fin.step (fun _ => XS.aloadN X0.here hx rfl (hb hby d1_35) rfl rfl) ?_
  show Fin p e below s _ _ _ (s₁.setTop (mkF m 36 #[.val (.ref a1), .val (.double (FP.l2d ((0 : Int64) + P0.toInt64))), .second, .val (.ref a1), .val (.int (1 : Int32)), .val (.int (1 : Int32)), .val (.double (FP.l2d P0.toInt64)), .second] [(.ref a1)]))
  have voy3 := HV_a1
  obtain ⟨cly3, Ary3, qay3, say3, nay3, hay3, gay3⟩ := voy3
  refine Fin.step (X0.arraylength hx (by rw [e0]; exact Ary3.1) (State.isArrayOf_alike hZ.alike Ary3.2.1) (g := (mkF m 36 #[.val (.ref a1), .val (.double (FP.l2d ((0 : Int64) + P0.toInt64))), .second, .val (.ref a1), .val (.int (1 : Int32)), .val (.int (1 : Int32)), .val (.double (FP.l2d P0.toInt64)), .second] [(.ref a1)])) rfl rfl (hb hby d1_36)) ?_
  rw [len_of say3 nay3]
  show Fin p e below s _ _ _ (s₁.setTop (mkF m 37 #[.val (.ref a1), .val (.double (FP.l2d ((0 : Int64) + P0.toInt64))), .second, .val (.ref a1), .val (.int (1 : Int32)), .val (.int (1 : Int32)), .val (.double (FP.l2d P0.toInt64)), .second] [(.int (1 : Int32))]))
  refine Fin.step (fun _ => XS.ifYes X0.here hx rfl (pc0 := 37) (pc' := 44) rfl (hb hby d1_37) rfl ((if0 _ _).trans (feq ((by decide) : ¬ ((1 : Int32) = (0 : Int32)))).2) (by decide) (by decide)) ?_
  show Fin p e below s _ _ _ (s₁.setTop (mkF m 44 #[.val (.ref a1), .val (.double (FP.l2d ((0 : Int64) + P0.toInt64))), .second, .val (.ref a1), .val (.int (1 : Int32)), .val (.int (1 : Int32)), .val (.double (FP.l2d P0.toInt64)), .second] []))
  refine Fin.step (fun _ => XS.dloadN X0.here hx rfl (hb hby d1_44) rfl) ?_
  show Fin p e below s _ _ _ (s₁.setTop (mkF m 45 #[.val (.ref a1), .val (.double (FP.l2d ((0 : Int64) + P0.toInt64))), .second, .val (.ref a1), .val (.int (1 : Int32)), .val (.int (1 : Int32)), .val (.double (FP.l2d P0.toInt64)), .second] [(.double (FP.l2d ((0 : Int64) + P0.toInt64)))]))
  refine Fin.step (fun _ => XS.aloadN X0.here hx rfl (hb hby d1_45) rfl rfl) ?_
  show Fin p e below s _ _ _ (s₁.setTop (mkF m 46 #[.val (.ref a1), .val (.double (FP.l2d ((0 : Int64) + P0.toInt64))), .second, .val (.ref a1), .val (.int (1 : Int32)), .val (.int (1 : Int32)), .val (.double (FP.l2d P0.toInt64)), .second] [(.ref a1), (.double (FP.l2d ((0 : Int64) + P0.toInt64)))]))
  have voy4 := HV_a1
  obtain ⟨cly4, Ary4, qay4, say4, nay4, hay4, gay4⟩ := voy4
  refine Fin.step (X0.arraylength hx (by rw [e0]; exact Ary4.1) (State.isArrayOf_alike hZ.alike Ary4.2.1) (g := (mkF m 46 #[.val (.ref a1), .val (.double (FP.l2d ((0 : Int64) + P0.toInt64))), .second, .val (.ref a1), .val (.int (1 : Int32)), .val (.int (1 : Int32)), .val (.double (FP.l2d P0.toInt64)), .second] [(.ref a1), (.double (FP.l2d ((0 : Int64) + P0.toInt64)))])) rfl rfl (hb hby d1_46)) ?_
  rw [len_of say4 nay4]
  show Fin p e below s _ _ _ (s₁.setTop (mkF m 47 #[.val (.ref a1), .val (.double (FP.l2d ((0 : Int64) + P0.toInt64))), .second, .val (.ref a1), .val (.int (1 : Int32)), .val (.int (1 : Int32)), .val (.double (FP.l2d P0.toInt64)), .second] [(.int (1 : Int32)), (.double (FP.l2d ((0 : Int64) + P0.toInt64)))]))
  refine Fin.step (fun _ => XS.i2dS X0.here hx rfl (hb hby d1_47) rfl (i2d_w (1 : Int32))) ?_
  show Fin p e below s _ _ _ (s₁.setTop (mkF m 48 #[.val (.ref a1), .val (.double (FP.l2d ((0 : Int64) + P0.toInt64))), .second, .val (.ref a1), .val (.int (1 : Int32)), .val (.int (1 : Int32)), .val (.double (FP.l2d P0.toInt64)), .second] [(.double (FP.l2d (1 : Int32).toInt64)), (.double (FP.l2d ((0 : Int64) + P0.toInt64)))]))
  refine Fin.step (fun _ => XS.ddivS X0.here hx rfl (hb hby d1_48) rfl (own_div _ _ (by unfold Jvm.Free.Fl.Nz64; decide +kernel)) rfl) ?_
  show Fin p e below s _ _ _ (s₁.setTop (mkF m 49 #[.val (.ref a1), .val (.double (FP.l2d ((0 : Int64) + P0.toInt64))), .second, .val (.ref a1), .val (.int (1 : Int32)), .val (.int (1 : Int32)), .val (.double (FP.l2d P0.toInt64)), .second] [(.double (FP.ddiv (FP.l2d ((0 : Int64) + P0.toInt64)) (FP.l2d (1 : Int32).toInt64)))]))
  refine Fin.retD X0 hx hret hlk (hb hby d1_49) (by decide) (by decide) ?_
  show Qm1 Z a1 k1 P0 h0 n0 _ s₁.heap _
  rw [e0]
  exact ⟨rfl, N0, rfl⟩
theorem ef_rmm2 (m : MethodId) (x0 : Addr) : entryFrame m #[(.ref x0)] 8 = mkF m 0 #[.val (.ref x0), .unset, .unset, .unset, .unset, .unset, .unset, .unset] [] := by first | (simp [entryFrame, mkF, argsToLocals, Value.category]; done) | rfl
def Qm2 (Z : State) (a1 : Addr) (k1 : ClassId) (P0 : Int32) (P1 : Int32) (h0 : Heap) (n0 : Nat) (v : Option Value) (h : Heap) (L : List Loc) : Prop := v = some (.double (FP.ddiv (FP.l2d (((0 : Int64) + P0.toInt64) + P1.toInt64)) (FP.l2d (2 : Int32).toInt64))) ∧ Fr n0 L ∧ h = h0
set_option maxRecDepth 65536 in
set_option maxHeartbeats 40000000 in
theorem rmm2 (l : Launch) (Z : State) (a0 : Array Value) (hw : ∀ d ∈ tables_1, d.before a0 Z = true) (ws : List Jvm.Cond) (a1 : Addr) (k1 : ClassId) (P0 : Int32) (P1 : Int32) (h0 : Heap) (n0 : Nat) (Z0 : n0 ≤ h0.size) (HV_a1 : Arv Z h0 a1 k1 .double (2 : Int32) [(.double (FP.l2d P0.toInt64)), (.double (FP.l2d P1.toInt64))] (.double (FP.l2d (0 : Int64)))) :
    MetFree l (⟨"com/example/indexterity/indexterity/comparison/PairedTests", "mean", "([D)D"⟩ : MethodName) (head1 (Jvm.Cond.code (⟨"com/example/indexterity/indexterity/comparison/PairedTests", "mean", "([D)D"⟩ : MethodName) prog_21_method_6_code 8 (some .double) :: ws) ({ frames := 0, cells := 0, slots := 0, locals := 0 } : Room)) (fun a U => a = #[(.ref a1)] ∧ Z.Warmed39 U.vm ∧ U.heap = h0) (fun _ _ _ _ _ => True) (fun _ U o U' => ∃ v L, o = .returned v ∧ Qm2 Z a1 k1 P0 P1 h0 n0 v U'.heap L ∧ FrameEnd U o U' L ({ frames := 0, cells := 0, slots := 0, locals := 0 } : Room).cells ({ frames := 0, cells := 0, slots := 0, locals := 0 } : Room).slots) := by
  refine MetFree.of_bodySF (plainFor_of_name pn_1) hisR ?_
  intro p e s m args below meth c s₁ Bd hml0 hP hK
  obtain ⟨rfl, hZ, hh⟩ := hP
  have hx := Bd.exec
  have hby := Bd.bytes
  have hlk := BodyLoose.notSynchronized Bd
  have hret := Bd.returns
  have hml : c.maxLocals = 8 := hml0
  have hown : s.vm.findClass "com/example/indexterity/indexterity/comparison/PairedTests" = some m.cls := findClass_of_methodNamed Bd.named
  have hnm := (name_of_methodNamed Bd.named Bd.method).1
  have X0 : Stand p l e ({ frames := 0, cells := 0, slots := 0, locals := 0 } : Room) s m #[(.ref a1)] below meth c s₁ [] 0 0 := Stand.of_body Bd
  have e0 : s₁.heap = h0 := by rw [← hh, Bd.state]; rfl
  have N0 := Fr.nil n0
  have K0 : Keep h0 h0 [] := Keep.refl h0 _
  refine Fin.step (Q := fun v h L => Qm2 Z a1 k1 P0 P1 h0 n0 v h L) (st' := s₁.setTop (mkF m 0 #[.val (.ref a1), .unset, .unset, .unset, .unset, .unset, .unset, .unset] [])) (fun t k => castTop (ef_rmm2 m a1) k) ?_
  show Fin p e below s _ _ _ (s₁.setTop (mkF m 0 #[.val (.ref a1), .unset, .unset, .unset, .unset, .unset, .unset, .unset] []))
  refine Fin.step (fun _ => XS.dconst0 X0.here hx rfl (hb hby d1_0) (show FP.dconst0 = FP.l2d (0 : Int64) by decide +kernel)) ?_
  show Fin p e below s _ _ _ (s₁.setTop (mkF m 1 #[.val (.ref a1), .unset, .unset, .unset, .unset, .unset, .unset, .unset] [(.double (FP.l2d (0 : Int64)))]))
  refine Fin.step (fun _ => XS.dstoreN X0.here hx rfl (hb hby d1_1) rfl (l' := #[.val (.ref a1), .val (.double (FP.l2d (0 : Int64))), .second, .unset, .unset, .unset, .unset, .unset]) rfl) ?_
  show Fin p e below s _ _ _ (s₁.setTop (mkF m 2 #[.val (.ref a1), .val (.double (FP.l2d (0 : Int64))), .second, .unset, .unset, .unset, .unset, .unset] []))
  refine Fin.step (fun _ => XS.aloadN X0.here hx rfl (hb hby d1_2) rfl rfl) ?_
  show Fin p e below s _ _ _ (s₁.setTop (mkF m 3 #[.val (.ref a1), .val (.double (FP.l2d (0 : Int64))), .second, .unset, .unset, .unset, .unset, .unset] [(.ref a1)]))
  refine Fin.step (fun _ => XS.astoreN X0.here hx rfl (hb hby d1_3) rfl rfl (l' := #[.val (.ref a1), .val (.double (FP.l2d (0 : Int64))), .second, .val (.ref a1), .unset, .unset, .unset, .unset]) rfl) ?_
  show Fin p e below s _ _ _ (s₁.setTop (mkF m 4 #[.val (.ref a1), .val (.double (FP.l2d (0 : Int64))), .second, .val (.ref a1), .unset, .unset, .unset, .unset] []))
  refine Fin.step (fun _ => XS.aloadN X0.here hx rfl (hb hby d1_4) rfl rfl) ?_
  show Fin p e below s _ _ _ (s₁.setTop (mkF m 5 #[.val (.ref a1), .val (.double (FP.l2d (0 : Int64))), .second, .val (.ref a1), .unset, .unset, .unset, .unset] [(.ref a1)]))
  have voy1 := HV_a1
  obtain ⟨cly1, Ary1, qay1, say1, nay1, hay1, gay1⟩ := voy1
  refine Fin.step (X0.arraylength hx (by rw [e0]; exact Ary1.1) (State.isArrayOf_alike hZ.alike Ary1.2.1) (g := (mkF m 5 #[.val (.ref a1), .val (.double (FP.l2d (0 : Int64))), .second, .val (.ref a1), .unset, .unset, .unset, .unset] [(.ref a1)])) rfl rfl (hb hby d1_5)) ?_
  rw [len_of say1 nay1]
  show Fin p e below s _ _ _ (s₁.setTop (mkF m 6 #[.val (.ref a1), .val (.double (FP.l2d (0 : Int64))), .second, .val (.ref a1), .unset, .unset, .unset, .unset] [(.int (2 : Int32))]))
  refine Fin.step (fun _ => XS.istore X0.here hx rfl (hb hby d1_6) rfl (l' := #[.val (.ref a1), .val (.double (FP.l2d (0 : Int64))), .second, .val (.ref a1), .val (.int (2 : Int32)), .unset, .unset, .unset]) rfl) ?_
  show Fin p e below s _ _ _ (s₁.setTop (mkF m 8 #[.val (.ref a1), .val (.double (FP.l2d (0 : Int64))), .second, .val (.ref a1), .val (.int (2 : Int32)), .unset, .unset, .unset] []))
  refine Fin.step (fun _ => XS.iconst X0.here hx rfl (hb hby d1_8)) ?_
  show Fin p e below s _ _ _ (s₁.setTop (mkF m 9 #[.val (.ref a1), .val (.double (FP.l2d (0 : Int64))), .second, .val (.ref a1), .val (.int (2 : Int32)), .unset, .unset, .unset] [(.int (0 : Int32))]))
  refine Fin.step (fun _ => XS.istore X0.here hx rfl (hb hby d1_9) rfl (l' := #[.val (.ref a1), .val (.double (FP.l2d (0 : Int64))), .second, .val (.ref a1), .val (.int (2 : Int32)), .val (.int (0 : Int32)), .unset, .unset]) rfl) ?_
  show Fin p e below s _ _ _ (s₁.setTop (mkF m 11 #[.val (.ref a1), .val (.double (FP.l2d (0 : Int64))), .second, .val (.ref a1), .val (.int (2 : Int32)), .val (.int (0 : Int32)), .unset, .unset] []))
  refine Fin.step (fun _ => XS.iload X0.here hx rfl (hb hby d1_11) rfl) ?_
  show Fin p e below s _ _ _ (s₁.setTop (mkF m 13 #[.val (.ref a1), .val (.double (FP.l2d (0 : Int64))), .second, .val (.ref a1), .val (.int (2 : Int32)), .val (.int (0 : Int32)), .unset, .unset] [(.int (0 : Int32))]))
  refine Fin.step (fun _ => XS.iload X0.here hx rfl (hb hby d1_13) rfl) ?_
  show Fin p e below s _ _ _ (s₁.setTop (mkF m 15 #[.val (.ref a1), .val (.double (FP.l2d (0 : Int64))), .second, .val (.ref a1), .val (.int (2 : Int32)), .val (.int (0 : Int32)), .unset, .unset] [(.int (2 : Int32)), (.int (0 : Int32))]))
  refine Fin.step (fun _ => XS.icmpNo X0.here hx rfl (hb hby d1_15) rfl (tlt ((by decide) : ((0 : Int32) < (2 : Int32)))).2.1) ?_
  show Fin p e below s _ _ _ (s₁.setTop (mkF m 18 #[.val (.ref a1), .val (.double (FP.l2d (0 : Int64))), .second, .val (.ref a1), .val (.int (2 : Int32)), .val (.int (0 : Int32)), .unset, .unset] []))
  refine Fin.step (fun _ => XS.aloadN X0.here hx rfl (hb hby d1_18) rfl rfl) ?_
  show Fin p e below s _ _ _ (s₁.setTop (mkF m 19 #[.val (.ref a1), .val (.double (FP.l2d (0 : Int64))), .second, .val (.ref a1), .val (.int (2 : Int32)), .val (.int (0 : Int32)), .unset, .unset] [(.ref a1)]))
  refine Fin.step (fun _ => XS.iload X0.here hx rfl (hb hby d1_19) rfl) ?_
  show Fin p e below s _ _ _ (s₁.setTop (mkF m 21 #[.val (.ref a1), .val (.double (FP.l2d (0 : Int64))), .second, .val (.ref a1), .val (.int (2 : Int32)), .val (.int (0 : Int32)), .unset, .unset] [(.int (0 : Int32)), (.ref a1)]))
  have voy2 := HV_a1
  obtain ⟨cly2, Ary2, qay2, say2, nay2, hay2, gay2⟩ := voy2
  have iny2 := inb_of (j := (0 : Int32)) say2 ⟨by decide, by decide⟩
  refine Fin.step (X0.daload hx (j := (0 : Int32)) (v := (.double (FP.l2d P0.toInt64))) (by rw [e0]; exact Ary2.1) (State.isArrayOf_alike hZ.alike Ary2.2.1) Ary2.2.2 iny2 (hay2.at iny2 rfl) (g := (mkF m 21 #[.val (.ref a1), .val (.double (FP.l2d (0 : Int64))), .second, .val (.ref a1), .val (.int (2 : Int32)), .val (.int (0 : Int32)), .unset, .unset] [(.int (0 : Int32)), (.ref a1)])) rfl rfl (hb hby d1_21)) ?_
  show Fin p e below s _ _ _ (s₁.setTop (mkF m 22 #[.val (.ref a1), .val (.double (FP.l2d (0 : Int64))), .second, .val (.ref a1), .val (.int (2 : Int32)), .val (.int (0 : Int32)), .unset, .unset] [(.double (FP.l2d P0.toInt64))]))
  refine Fin.step (fun _ => XS.dstore X0.here hx rfl (hb hby d1_22) rfl (l' := #[.val (.ref a1), .val (.double (FP.l2d (0 : Int64))), .second, .val (.ref a1), .val (.int (2 : Int32)), .val (.int (0 : Int32)), .val (.double (FP.l2d P0.toInt64)), .second]) rfl) ?_
  show Fin p e below s _ _ _ (s₁.setTop (mkF m 24 #[.val (.ref a1), .val (.double (FP.l2d (0 : Int64))), .second, .val (.ref a1), .val (.int (2 : Int32)), .val (.int (0 : Int32)), .val (.double (FP.l2d P0.toInt64)), .second] []))
  refine Fin.step (fun _ => XS.dloadN X0.here hx rfl (hb hby d1_24) rfl) ?_
  show Fin p e below s _ _ _ (s₁.setTop (mkF m 25 #[.val (.ref a1), .val (.double (FP.l2d (0 : Int64))), .second, .val (.ref a1), .val (.int (2 : Int32)), .val (.int (0 : Int32)), .val (.double (FP.l2d P0.toInt64)), .second] [(.double (FP.l2d (0 : Int64)))]))
  refine Fin.step (fun _ => XS.dload X0.here hx rfl (hb hby d1_25) rfl) ?_
  show Fin p e below s _ _ _ (s₁.setTop (mkF m 27 #[.val (.ref a1), .val (.double (FP.l2d (0 : Int64))), .second, .val (.ref a1), .val (.int (2 : Int32)), .val (.int (0 : Int32)), .val (.double (FP.l2d P0.toInt64)), .second] [(.double (FP.l2d P0.toInt64)), (.double (FP.l2d (0 : Int64)))]))
  refine Fin.step (fun _ => XS.daddS X0.here hx rfl (hb hby d1_27) rfl (nn_w (dadd_w (a := (0 : Int64)) (b := P0.toInt64) (own_53 (by decide) own_b0) (own_53 (by decide) (own_b1 _)))) (dadd_w (a := (0 : Int64)) (b := P0.toInt64) (own_53 (by decide) own_b0) (own_53 (by decide) (own_b1 _)))) ?_
  show Fin p e below s _ _ _ (s₁.setTop (mkF m 28 #[.val (.ref a1), .val (.double (FP.l2d (0 : Int64))), .second, .val (.ref a1), .val (.int (2 : Int32)), .val (.int (0 : Int32)), .val (.double (FP.l2d P0.toInt64)), .second] [(.double (FP.l2d ((0 : Int64) + P0.toInt64)))]))
  refine Fin.step (fun _ => XS.dstoreN X0.here hx rfl (hb hby d1_28) rfl (l' := #[.val (.ref a1), .val (.double (FP.l2d ((0 : Int64) + P0.toInt64))), .second, .val (.ref a1), .val (.int (2 : Int32)), .val (.int (0 : Int32)), .val (.double (FP.l2d P0.toInt64)), .second]) rfl) ?_
  show Fin p e below s _ _ _ (s₁.setTop (mkF m 29 #[.val (.ref a1), .val (.double (FP.l2d ((0 : Int64) + P0.toInt64))), .second, .val (.ref a1), .val (.int (2 : Int32)), .val (.int (0 : Int32)), .val (.double (FP.l2d P0.toInt64)), .second] []))
  refine Fin.step (fun _ => XS.iinc X0.here hx rfl (hb hby d1_29) rfl (l' := #[.val (.ref a1), .val (.double (FP.l2d ((0 : Int64) + P0.toInt64))), .second, .val (.ref a1), .val (.int (2 : Int32)), .val (.int (1 : Int32)), .val (.double (FP.l2d P0.toInt64)), .second]) rfl) ?_
  show Fin p e below s _ _ _ (s₁.setTop (mkF m 32 #[.val (.ref a1), .val (.double (FP.l2d ((0 : Int64) + P0.toInt64))), .second, .val (.ref a1), .val (.int (2 : Int32)), .val (.int (1 : Int32)), .val (.double (FP.l2d P0.toInt64)), .second] []))
  refine Fin.step (fun _ => XS.goto X0.here hx rfl (pc0 := 32) (pc' := 11) rfl (hb hby d1_32) (by decide) (by decide)) ?_
  show Fin p e below s _ _ _ (s₁.setTop (mkF m 11 #[.val (.ref a1), .val (.double (FP.l2d ((0 : Int64) + P0.toInt64))), .second, .val (.ref a1), .val (.int (2 : Int32)), .val (.int (1 : Int32)), .val (.double (FP.l2d P0.toInt64)), .second] []))
  refine Fin.step (fun _ => XS.iload X0.here hx rfl (hb hby d1_11) rfl) ?_
  show Fin p e below s _ _ _ (s₁.setTop (mkF m 13 #[.val (.ref a1), .val (.double (FP.l2d ((0 : Int64) + P0.toInt64))), .second, .val (.ref a1), .val (.int (2 : Int32)), .val (.int (1 : Int32)), .val (.double (FP.l2d P0.toInt64)), .second] [(.int (1 : Int32))]))
  refine Fin.step (fun _ => XS.iload X0.here hx rfl (hb hby d1_13) rfl) ?_
  show Fin p e below s _ _ _ (s₁.setTop (mkF m 15 #[.val (.ref a1), .val (.double (FP.l2d ((0 : Int64) + P0.toInt64))), .second, .val (.ref a1), .val (.int (2 : Int32)), .val (.int (1 : Int32)), .val (.double (FP.l2d P0.toInt64)), .second] [(.int (2 : Int32)), (.int (1 : Int32))]))
  refine Fin.step (fun _ => XS.icmpNo X0.here hx rfl (hb hby d1_15) rfl (tlt ((by decide) : ((1 : Int32) < (2 : Int32)))).2.1) ?_
  show Fin p e below s _ _ _ (s₁.setTop (mkF m 18 #[.val (.ref a1), .val (.double (FP.l2d ((0 : Int64) + P0.toInt64))), .second, .val (.ref a1), .val (.int (2 : Int32)), .val (.int (1 : Int32)), .val (.double (FP.l2d P0.toInt64)), .second] []))
  refine Fin.step (fun _ => XS.aloadN X0.here hx rfl (hb hby d1_18) rfl rfl) ?_
  show Fin p e below s _ _ _ (s₁.setTop (mkF m 19 #[.val (.ref a1), .val (.double (FP.l2d ((0 : Int64) + P0.toInt64))), .second, .val (.ref a1), .val (.int (2 : Int32)), .val (.int (1 : Int32)), .val (.double (FP.l2d P0.toInt64)), .second] [(.ref a1)]))
  refine Fin.step (fun _ => XS.iload X0.here hx rfl (hb hby d1_19) rfl) ?_
  show Fin p e below s _ _ _ (s₁.setTop (mkF m 21 #[.val (.ref a1), .val (.double (FP.l2d ((0 : Int64) + P0.toInt64))), .second, .val (.ref a1), .val (.int (2 : Int32)), .val (.int (1 : Int32)), .val (.double (FP.l2d P0.toInt64)), .second] [(.int (1 : Int32)), (.ref a1)]))
  have voy3 := HV_a1
  obtain ⟨cly3, Ary3, qay3, say3, nay3, hay3, gay3⟩ := voy3
  have iny3 := inb_of (j := (1 : Int32)) say3 ⟨by decide, by decide⟩
  refine Fin.step (X0.daload hx (j := (1 : Int32)) (v := (.double (FP.l2d P1.toInt64))) (by rw [e0]; exact Ary3.1) (State.isArrayOf_alike hZ.alike Ary3.2.1) Ary3.2.2 iny3 (hay3.at iny3 rfl) (g := (mkF m 21 #[.val (.ref a1), .val (.double (FP.l2d ((0 : Int64) + P0.toInt64))), .second, .val (.ref a1), .val (.int (2 : Int32)), .val (.int (1 : Int32)), .val (.double (FP.l2d P0.toInt64)), .second] [(.int (1 : Int32)), (.ref a1)])) rfl rfl (hb hby d1_21)) ?_
  show Fin p e below s _ _ _ (s₁.setTop (mkF m 22 #[.val (.ref a1), .val (.double (FP.l2d ((0 : Int64) + P0.toInt64))), .second, .val (.ref a1), .val (.int (2 : Int32)), .val (.int (1 : Int32)), .val (.double (FP.l2d P0.toInt64)), .second] [(.double (FP.l2d P1.toInt64))]))
  refine Fin.step (fun _ => XS.dstore X0.here hx rfl (hb hby d1_22) rfl (l' := #[.val (.ref a1), .val (.double (FP.l2d ((0 : Int64) + P0.toInt64))), .second, .val (.ref a1), .val (.int (2 : Int32)), .val (.int (1 : Int32)), .val (.double (FP.l2d P1.toInt64)), .second]) rfl) ?_
  show Fin p e below s _ _ _ (s₁.setTop (mkF m 24 #[.val (.ref a1), .val (.double (FP.l2d ((0 : Int64) + P0.toInt64))), .second, .val (.ref a1), .val (.int (2 : Int32)), .val (.int (1 : Int32)), .val (.double (FP.l2d P1.toInt64)), .second] []))
  refine Fin.step (fun _ => XS.dloadN X0.here hx rfl (hb hby d1_24) rfl) ?_
  show Fin p e below s _ _ _ (s₁.setTop (mkF m 25 #[.val (.ref a1), .val (.double (FP.l2d ((0 : Int64) + P0.toInt64))), .second, .val (.ref a1), .val (.int (2 : Int32)), .val (.int (1 : Int32)), .val (.double (FP.l2d P1.toInt64)), .second] [(.double (FP.l2d ((0 : Int64) + P0.toInt64)))]))
  refine Fin.step (fun _ => XS.dload X0.here hx rfl (hb hby d1_25) rfl) ?_
  show Fin p e below s _ _ _ (s₁.setTop (mkF m 27 #[.val (.ref a1), .val (.double (FP.l2d ((0 : Int64) + P0.toInt64))), .second, .val (.ref a1), .val (.int (2 : Int32)), .val (.int (1 : Int32)), .val (.double (FP.l2d P1.toInt64)), .second] [(.double (FP.l2d P1.toInt64)), (.double (FP.l2d ((0 : Int64) + P0.toInt64)))]))
  refine Fin.step (fun _ => XS.daddS X0.here hx rfl (hb hby d1_27) rfl (nn_w (dadd_w (a := ((0 : Int64) + P0.toInt64)) (b := P1.toInt64) (own_53 (by decide) (own_bs (by decide) own_b0 _)) (own_53 (by decide) (own_b1 _)))) (dadd_w (a := ((0 : Int64) + P0.toInt64)) (b := P1.toInt64) (own_53 (by decide) (own_bs (by decide) own_b0 _)) (own_53 (by decide) (own_b1 _)))) ?_
  show Fin p e below s _ _ _ (s₁.setTop (mkF m 28 #[.val (.ref a1), .val (.double (FP.l2d ((0 : Int64) + P0.toInt64))), .second, .val (.ref a1), .val (.int (2 : Int32)), .val (.int (1 : Int32)), .val (.double (FP.l2d P1.toInt64)), .second] [(.double (FP.l2d (((0 : Int64) + P0.toInt64) + P1.toInt64)))]))
  refine Fin.step (fun _ => XS.dstoreN X0.here hx rfl (hb hby d1_28) rfl (l' := #[.val (.ref a1), .val (.double (FP.l2d (((0 : Int64) + P0.toInt64) + P1.toInt64))), .second, .val (.ref a1), .val (.int (2 : Int32)), .val (.int (1 : Int32)), .val (.double (FP.l2d P1.toInt64)), .second]) rfl) ?_
  show Fin p e below s _ _ _ (s₁.setTop (mkF m 29 #[.val (.ref a1), .val (.double (FP.l2d (((0 : Int64) + P0.toInt64) + P1.toInt64))), .second, .val (.ref a1), .val (.int (2 : Int32)), .val (.int (1 : Int32)), .val (.double (FP.l2d P1.toInt64)), .second] []))
  refine Fin.step (fun _ => XS.iinc X0.here hx rfl (hb hby d1_29) rfl (l' := #[.val (.ref a1), .val (.double (FP.l2d (((0 : Int64) + P0.toInt64) + P1.toInt64))), .second, .val (.ref a1), .val (.int (2 : Int32)), .val (.int (2 : Int32)), .val (.double (FP.l2d P1.toInt64)), .second]) rfl) ?_
  show Fin p e below s _ _ _ (s₁.setTop (mkF m 32 #[.val (.ref a1), .val (.double (FP.l2d (((0 : Int64) + P0.toInt64) + P1.toInt64))), .second, .val (.ref a1), .val (.int (2 : Int32)), .val (.int (2 : Int32)), .val (.double (FP.l2d P1.toInt64)), .second] []))
  refine Fin.step (fun _ => XS.goto X0.here hx rfl (pc0 := 32) (pc' := 11) rfl (hb hby d1_32) (by decide) (by decide)) ?_
  show Fin p e below s _ _ _ (s₁.setTop (mkF m 11 #[.val (.ref a1), .val (.double (FP.l2d (((0 : Int64) + P0.toInt64) + P1.toInt64))), .second, .val (.ref a1), .val (.int (2 : Int32)), .val (.int (2 : Int32)), .val (.double (FP.l2d P1.toInt64)), .second] []))
  refine Fin.step (fun _ => XS.iload X0.here hx rfl (hb hby d1_11) rfl) ?_
  show Fin p e below s _ _ _ (s₁.setTop (mkF m 13 #[.val (.ref a1), .val (.double (FP.l2d (((0 : Int64) + P0.toInt64) + P1.toInt64))), .second, .val (.ref a1), .val (.int (2 : Int32)), .val (.int (2 : Int32)), .val (.double (FP.l2d P1.toInt64)), .second] [(.int (2 : Int32))]))
  refine Fin.step (fun _ => XS.iload X0.here hx rfl (hb hby d1_13) rfl) ?_
  show Fin p e below s _ _ _ (s₁.setTop (mkF m 15 #[.val (.ref a1), .val (.double (FP.l2d (((0 : Int64) + P0.toInt64) + P1.toInt64))), .second, .val (.ref a1), .val (.int (2 : Int32)), .val (.int (2 : Int32)), .val (.double (FP.l2d P1.toInt64)), .second] [(.int (2 : Int32)), (.int (2 : Int32))]))
  refine Fin.step (fun _ => XS.icmpYes X0.here hx rfl (pc0 := 15) (pc' := 35) rfl (hb hby d1_15) rfl (flt ((by decide) : ¬ ((2 : Int32) < (2 : Int32)))).2.1 (by decide) (by decide)) ?_
  show Fin p e below s _ _ _ (s₁.setTop (mkF m 35 #[.val (.ref a1), .val (.double (FP.l2d (((0 : Int64) + P0.toInt64) + P1.toInt64))), .second, .val (.ref a1), .val (.int (2 : Int32)), .val (.int (2 : Int32)), .val (.double (FP.l2d P1.toInt64)), .second] []))
  refine Fin.step (fun _ => XS.aloadN X0.here hx rfl (hb hby d1_35) rfl rfl) ?_
  show Fin p e below s _ _ _ (s₁.setTop (mkF m 36 #[.val (.ref a1), .val (.double (FP.l2d (((0 : Int64) + P0.toInt64) + P1.toInt64))), .second, .val (.ref a1), .val (.int (2 : Int32)), .val (.int (2 : Int32)), .val (.double (FP.l2d P1.toInt64)), .second] [(.ref a1)]))
  have voy4 := HV_a1
  obtain ⟨cly4, Ary4, qay4, say4, nay4, hay4, gay4⟩ := voy4
  refine Fin.step (X0.arraylength hx (by rw [e0]; exact Ary4.1) (State.isArrayOf_alike hZ.alike Ary4.2.1) (g := (mkF m 36 #[.val (.ref a1), .val (.double (FP.l2d (((0 : Int64) + P0.toInt64) + P1.toInt64))), .second, .val (.ref a1), .val (.int (2 : Int32)), .val (.int (2 : Int32)), .val (.double (FP.l2d P1.toInt64)), .second] [(.ref a1)])) rfl rfl (hb hby d1_36)) ?_
  rw [len_of say4 nay4]
  show Fin p e below s _ _ _ (s₁.setTop (mkF m 37 #[.val (.ref a1), .val (.double (FP.l2d (((0 : Int64) + P0.toInt64) + P1.toInt64))), .second, .val (.ref a1), .val (.int (2 : Int32)), .val (.int (2 : Int32)), .val (.double (FP.l2d P1.toInt64)), .second] [(.int (2 : Int32))]))
  refine Fin.step (fun _ => XS.ifYes X0.here hx rfl (pc0 := 37) (pc' := 44) rfl (hb hby d1_37) rfl ((if0 _ _).trans (feq ((by decide) : ¬ ((2 : Int32) = (0 : Int32)))).2) (by decide) (by decide)) ?_
  show Fin p e below s _ _ _ (s₁.setTop (mkF m 44 #[.val (.ref a1), .val (.double (FP.l2d (((0 : Int64) + P0.toInt64) + P1.toInt64))), .second, .val (.ref a1), .val (.int (2 : Int32)), .val (.int (2 : Int32)), .val (.double (FP.l2d P1.toInt64)), .second] []))
  refine Fin.step (fun _ => XS.dloadN X0.here hx rfl (hb hby d1_44) rfl) ?_
  show Fin p e below s _ _ _ (s₁.setTop (mkF m 45 #[.val (.ref a1), .val (.double (FP.l2d (((0 : Int64) + P0.toInt64) + P1.toInt64))), .second, .val (.ref a1), .val (.int (2 : Int32)), .val (.int (2 : Int32)), .val (.double (FP.l2d P1.toInt64)), .second] [(.double (FP.l2d (((0 : Int64) + P0.toInt64) + P1.toInt64)))]))
  refine Fin.step (fun _ => XS.aloadN X0.here hx rfl (hb hby d1_45) rfl rfl) ?_
  show Fin p e below s _ _ _ (s₁.setTop (mkF m 46 #[.val (.ref a1), .val (.double (FP.l2d (((0 : Int64) + P0.toInt64) + P1.toInt64))), .second, .val (.ref a1), .val (.int (2 : Int32)), .val (.int (2 : Int32)), .val (.double (FP.l2d P1.toInt64)), .second] [(.ref a1), (.double (FP.l2d (((0 : Int64) + P0.toInt64) + P1.toInt64)))]))
  have voy5 := HV_a1
  obtain ⟨cly5, Ary5, qay5, say5, nay5, hay5, gay5⟩ := voy5
  refine Fin.step (X0.arraylength hx (by rw [e0]; exact Ary5.1) (State.isArrayOf_alike hZ.alike Ary5.2.1) (g := (mkF m 46 #[.val (.ref a1), .val (.double (FP.l2d (((0 : Int64) + P0.toInt64) + P1.toInt64))), .second, .val (.ref a1), .val (.int (2 : Int32)), .val (.int (2 : Int32)), .val (.double (FP.l2d P1.toInt64)), .second] [(.ref a1), (.double (FP.l2d (((0 : Int64) + P0.toInt64) + P1.toInt64)))])) rfl rfl (hb hby d1_46)) ?_
  rw [len_of say5 nay5]
  show Fin p e below s _ _ _ (s₁.setTop (mkF m 47 #[.val (.ref a1), .val (.double (FP.l2d (((0 : Int64) + P0.toInt64) + P1.toInt64))), .second, .val (.ref a1), .val (.int (2 : Int32)), .val (.int (2 : Int32)), .val (.double (FP.l2d P1.toInt64)), .second] [(.int (2 : Int32)), (.double (FP.l2d (((0 : Int64) + P0.toInt64) + P1.toInt64)))]))
  refine Fin.step (fun _ => XS.i2dS X0.here hx rfl (hb hby d1_47) rfl (i2d_w (2 : Int32))) ?_
  show Fin p e below s _ _ _ (s₁.setTop (mkF m 48 #[.val (.ref a1), .val (.double (FP.l2d (((0 : Int64) + P0.toInt64) + P1.toInt64))), .second, .val (.ref a1), .val (.int (2 : Int32)), .val (.int (2 : Int32)), .val (.double (FP.l2d P1.toInt64)), .second] [(.double (FP.l2d (2 : Int32).toInt64)), (.double (FP.l2d (((0 : Int64) + P0.toInt64) + P1.toInt64)))]))
  refine Fin.step (fun _ => XS.ddivS X0.here hx rfl (hb hby d1_48) rfl (own_div _ _ (by unfold Jvm.Free.Fl.Nz64; decide +kernel)) rfl) ?_
  show Fin p e below s _ _ _ (s₁.setTop (mkF m 49 #[.val (.ref a1), .val (.double (FP.l2d (((0 : Int64) + P0.toInt64) + P1.toInt64))), .second, .val (.ref a1), .val (.int (2 : Int32)), .val (.int (2 : Int32)), .val (.double (FP.l2d P1.toInt64)), .second] [(.double (FP.ddiv (FP.l2d (((0 : Int64) + P0.toInt64) + P1.toInt64)) (FP.l2d (2 : Int32).toInt64)))]))
  refine Fin.retD X0 hx hret hlk (hb hby d1_49) (by decide) (by decide) ?_
  show Qm2 Z a1 k1 P0 P1 h0 n0 _ s₁.heap _
  rw [e0]
  exact ⟨rfl, N0, rfl⟩
theorem ef_rmm3 (m : MethodId) (x0 : Addr) : entryFrame m #[(.ref x0)] 8 = mkF m 0 #[.val (.ref x0), .unset, .unset, .unset, .unset, .unset, .unset, .unset] [] := by first | (simp [entryFrame, mkF, argsToLocals, Value.category]; done) | rfl
def Qm3 (Z : State) (a1 : Addr) (k1 : ClassId) (P0 : Int32) (P1 : Int32) (P2 : Int32) (h0 : Heap) (n0 : Nat) (v : Option Value) (h : Heap) (L : List Loc) : Prop := v = some (.double (FP.ddiv (FP.l2d ((((0 : Int64) + P0.toInt64) + P1.toInt64) + P2.toInt64)) (FP.l2d (3 : Int32).toInt64))) ∧ Fr n0 L ∧ h = h0
set_option maxRecDepth 65536 in
set_option maxHeartbeats 40000000 in
theorem rmm3 (l : Launch) (Z : State) (a0 : Array Value) (hw : ∀ d ∈ tables_1, d.before a0 Z = true) (ws : List Jvm.Cond) (a1 : Addr) (k1 : ClassId) (P0 : Int32) (P1 : Int32) (P2 : Int32) (h0 : Heap) (n0 : Nat) (Z0 : n0 ≤ h0.size) (HV_a1 : Arv Z h0 a1 k1 .double (3 : Int32) [(.double (FP.l2d P0.toInt64)), (.double (FP.l2d P1.toInt64)), (.double (FP.l2d P2.toInt64))] (.double (FP.l2d (0 : Int64)))) :
    MetFree l (⟨"com/example/indexterity/indexterity/comparison/PairedTests", "mean", "([D)D"⟩ : MethodName) (head1 (Jvm.Cond.code (⟨"com/example/indexterity/indexterity/comparison/PairedTests", "mean", "([D)D"⟩ : MethodName) prog_21_method_6_code 8 (some .double) :: ws) ({ frames := 0, cells := 0, slots := 0, locals := 0 } : Room)) (fun a U => a = #[(.ref a1)] ∧ Z.Warmed39 U.vm ∧ U.heap = h0) (fun _ _ _ _ _ => True) (fun _ U o U' => ∃ v L, o = .returned v ∧ Qm3 Z a1 k1 P0 P1 P2 h0 n0 v U'.heap L ∧ FrameEnd U o U' L ({ frames := 0, cells := 0, slots := 0, locals := 0 } : Room).cells ({ frames := 0, cells := 0, slots := 0, locals := 0 } : Room).slots) := by
  refine MetFree.of_bodySF (plainFor_of_name pn_1) hisR ?_
  intro p e s m args below meth c s₁ Bd hml0 hP hK
  obtain ⟨rfl, hZ, hh⟩ := hP
  have hx := Bd.exec
  have hby := Bd.bytes
  have hlk := BodyLoose.notSynchronized Bd
  have hret := Bd.returns
  have hml : c.maxLocals = 8 := hml0
  have hown : s.vm.findClass "com/example/indexterity/indexterity/comparison/PairedTests" = some m.cls := findClass_of_methodNamed Bd.named
  have hnm := (name_of_methodNamed Bd.named Bd.method).1
  have X0 : Stand p l e ({ frames := 0, cells := 0, slots := 0, locals := 0 } : Room) s m #[(.ref a1)] below meth c s₁ [] 0 0 := Stand.of_body Bd
  have e0 : s₁.heap = h0 := by rw [← hh, Bd.state]; rfl
  have N0 := Fr.nil n0
  have K0 : Keep h0 h0 [] := Keep.refl h0 _
  refine Fin.step (Q := fun v h L => Qm3 Z a1 k1 P0 P1 P2 h0 n0 v h L) (st' := s₁.setTop (mkF m 0 #[.val (.ref a1), .unset, .unset, .unset, .unset, .unset, .unset, .unset] [])) (fun t k => castTop (ef_rmm3 m a1) k) ?_
  show Fin p e below s _ _ _ (s₁.setTop (mkF m 0 #[.val (.ref a1), .unset, .unset, .unset, .unset, .unset, .unset, .unset] []))
  refine Fin.step (fun _ => XS.dconst0 X0.here hx rfl (hb hby d1_0) (show FP.dconst0 = FP.l2d (0 : Int64) by decide +kernel)) ?_
  show Fin p e below s _ _ _ (s₁.setTop (mkF m 1 #[.val (.ref a1), .unset, .unset, .unset, .unset, .unset, .unset, .unset] [(.double (FP.l2d (0 : Int64)))]))
  refine Fin.step (fun _ => XS.dstoreN X0.here hx rfl (hb hby d1_1) rfl (l' := #[.val (.ref a1), .val (.double (FP.l2d (0 : Int64))), .second, .unset, .unset, .unset, .unset, .unset]) rfl) ?_
  show Fin p e below s _ _ _ (s₁.setTop (mkF m 2 #[.val (.ref a1), .val (.double (FP.l2d (0 : Int64))), .second, .unset, .unset, .unset, .unset, .unset] []))
  refine Fin.step (fun _ => XS.aloadN X0.here hx rfl (hb hby d1_2) rfl rfl) ?_
  show Fin p e below s _ _ _ (s₁.setTop (mkF m 3 #[.val (.ref a1), .val (.double (FP.l2d (0 : Int64))), .second, .unset, .unset, .unset, .unset, .unset] [(.ref a1)]))
  refine Fin.step (fun _ => XS.astoreN X0.here hx rfl (hb hby d1_3) rfl rfl (l' := #[.val (.ref a1), .val (.double (FP.l2d (0 : Int64))), .second, .val (.ref a1), .unset, .unset, .unset, .unset]) rfl) ?_
  show Fin p e below s _ _ _ (s₁.setTop (mkF m 4 #[.val (.ref a1), .val (.double (FP.l2d (0 : Int64))), .second, .val (.ref a1), .unset, .unset, .unset, .unset] []))
  refine Fin.step (fun _ => XS.aloadN X0.here hx rfl (hb hby d1_4) rfl rfl) ?_
  show Fin p e below s _ _ _ (s₁.setTop (mkF m 5 #[.val (.ref a1), .val (.double (FP.l2d (0 : Int64))), .second, .val (.ref a1), .unset, .unset, .unset, .unset] [(.ref a1)]))
  have voy1 := HV_a1
  obtain ⟨cly1, Ary1, qay1, say1, nay1, hay1, gay1⟩ := voy1
  refine Fin.step (X0.arraylength hx (by rw [e0]; exact Ary1.1) (State.isArrayOf_alike hZ.alike Ary1.2.1) (g := (mkF m 5 #[.val (.ref a1), .val (.double (FP.l2d (0 : Int64))), .second, .val (.ref a1), .unset, .unset, .unset, .unset] [(.ref a1)])) rfl rfl (hb hby d1_5)) ?_
  rw [len_of say1 nay1]
  show Fin p e below s _ _ _ (s₁.setTop (mkF m 6 #[.val (.ref a1), .val (.double (FP.l2d (0 : Int64))), .second, .val (.ref a1), .unset, .unset, .unset, .unset] [(.int (3 : Int32))]))
  refine Fin.step (fun _ => XS.istore X0.here hx rfl (hb hby d1_6) rfl (l' := #[.val (.ref a1), .val (.double (FP.l2d (0 : Int64))), .second, .val (.ref a1), .val (.int (3 : Int32)), .unset, .unset, .unset]) rfl) ?_
  show Fin p e below s _ _ _ (s₁.setTop (mkF m 8 #[.val (.ref a1), .val (.double (FP.l2d (0 : Int64))), .second, .val (.ref a1), .val (.int (3 : Int32)), .unset, .unset, .unset] []))
  refine Fin.step (fun _ => XS.iconst X0.here hx rfl (hb hby d1_8)) ?_
  show Fin p e below s _ _ _ (s₁.setTop (mkF m 9 #[.val (.ref a1), .val (.double (FP.l2d (0 : Int64))), .second, .val (.ref a1), .val (.int (3 : Int32)), .unset, .unset, .unset] [(.int (0 : Int32))]))
  refine Fin.step (fun _ => XS.istore X0.here hx rfl (hb hby d1_9) rfl (l' := #[.val (.ref a1), .val (.double (FP.l2d (0 : Int64))), .second, .val (.ref a1), .val (.int (3 : Int32)), .val (.int (0 : Int32)), .unset, .unset]) rfl) ?_
  show Fin p e below s _ _ _ (s₁.setTop (mkF m 11 #[.val (.ref a1), .val (.double (FP.l2d (0 : Int64))), .second, .val (.ref a1), .val (.int (3 : Int32)), .val (.int (0 : Int32)), .unset, .unset] []))
  refine Fin.step (fun _ => XS.iload X0.here hx rfl (hb hby d1_11) rfl) ?_
  show Fin p e below s _ _ _ (s₁.setTop (mkF m 13 #[.val (.ref a1), .val (.double (FP.l2d (0 : Int64))), .second, .val (.ref a1), .val (.int (3 : Int32)), .val (.int (0 : Int32)), .unset, .unset] [(.int (0 : Int32))]))
  refine Fin.step (fun _ => XS.iload X0.here hx rfl (hb hby d1_13) rfl) ?_
  show Fin p e below s _ _ _ (s₁.setTop (mkF m 15 #[.val (.ref a1), .val (.double (FP.l2d (0 : Int64))), .second, .val (.ref a1), .val (.int (3 : Int32)), .val (.int (0 : Int32)), .unset, .unset] [(.int (3 : Int32)), (.int (0 : Int32))]))
  refine Fin.step (fun _ => XS.icmpNo X0.here hx rfl (hb hby d1_15) rfl (tlt ((by decide) : ((0 : Int32) < (3 : Int32)))).2.1) ?_
  show Fin p e below s _ _ _ (s₁.setTop (mkF m 18 #[.val (.ref a1), .val (.double (FP.l2d (0 : Int64))), .second, .val (.ref a1), .val (.int (3 : Int32)), .val (.int (0 : Int32)), .unset, .unset] []))
  refine Fin.step (fun _ => XS.aloadN X0.here hx rfl (hb hby d1_18) rfl rfl) ?_
  show Fin p e below s _ _ _ (s₁.setTop (mkF m 19 #[.val (.ref a1), .val (.double (FP.l2d (0 : Int64))), .second, .val (.ref a1), .val (.int (3 : Int32)), .val (.int (0 : Int32)), .unset, .unset] [(.ref a1)]))
  refine Fin.step (fun _ => XS.iload X0.here hx rfl (hb hby d1_19) rfl) ?_
  show Fin p e below s _ _ _ (s₁.setTop (mkF m 21 #[.val (.ref a1), .val (.double (FP.l2d (0 : Int64))), .second, .val (.ref a1), .val (.int (3 : Int32)), .val (.int (0 : Int32)), .unset, .unset] [(.int (0 : Int32)), (.ref a1)]))
  have voy2 := HV_a1
  obtain ⟨cly2, Ary2, qay2, say2, nay2, hay2, gay2⟩ := voy2
  have iny2 := inb_of (j := (0 : Int32)) say2 ⟨by decide, by decide⟩
  refine Fin.step (X0.daload hx (j := (0 : Int32)) (v := (.double (FP.l2d P0.toInt64))) (by rw [e0]; exact Ary2.1) (State.isArrayOf_alike hZ.alike Ary2.2.1) Ary2.2.2 iny2 (hay2.at iny2 rfl) (g := (mkF m 21 #[.val (.ref a1), .val (.double (FP.l2d (0 : Int64))), .second, .val (.ref a1), .val (.int (3 : Int32)), .val (.int (0 : Int32)), .unset, .unset] [(.int (0 : Int32)), (.ref a1)])) rfl rfl (hb hby d1_21)) ?_
  show Fin p e below s _ _ _ (s₁.setTop (mkF m 22 #[.val (.ref a1), .val (.double (FP.l2d (0 : Int64))), .second, .val (.ref a1), .val (.int (3 : Int32)), .val (.int (0 : Int32)), .unset, .unset] [(.double (FP.l2d P0.toInt64))]))
  refine Fin.step (fun _ => XS.dstore X0.here hx rfl (hb hby d1_22) rfl (l' := #[.val (.ref a1), .val (.double (FP.l2d (0 : Int64))), .second, .val (.ref a1), .val (.int (3 : Int32)), .val (.int (0 : Int32)), .val (.double (FP.l2d P0.toInt64)), .second]) rfl) ?_
  show Fin p e below s _ _ _ (s₁.setTop (mkF m 24 #[.val (.ref a1), .val (.double (FP.l2d (0 : Int64))), .second, .val (.ref a1), .val (.int (3 : Int32)), .val (.int (0 : Int32)), .val (.double (FP.l2d P0.toInt64)), .second] []))
  refine Fin.step (fun _ => XS.dloadN X0.here hx rfl (hb hby d1_24) rfl) ?_
  show Fin p e below s _ _ _ (s₁.setTop (mkF m 25 #[.val (.ref a1), .val (.double (FP.l2d (0 : Int64))), .second, .val (.ref a1), .val (.int (3 : Int32)), .val (.int (0 : Int32)), .val (.double (FP.l2d P0.toInt64)), .second] [(.double (FP.l2d (0 : Int64)))]))
  refine Fin.step (fun _ => XS.dload X0.here hx rfl (hb hby d1_25) rfl) ?_
  show Fin p e below s _ _ _ (s₁.setTop (mkF m 27 #[.val (.ref a1), .val (.double (FP.l2d (0 : Int64))), .second, .val (.ref a1), .val (.int (3 : Int32)), .val (.int (0 : Int32)), .val (.double (FP.l2d P0.toInt64)), .second] [(.double (FP.l2d P0.toInt64)), (.double (FP.l2d (0 : Int64)))]))
  refine Fin.step (fun _ => XS.daddS X0.here hx rfl (hb hby d1_27) rfl (nn_w (dadd_w (a := (0 : Int64)) (b := P0.toInt64) (own_53 (by decide) own_b0) (own_53 (by decide) (own_b1 _)))) (dadd_w (a := (0 : Int64)) (b := P0.toInt64) (own_53 (by decide) own_b0) (own_53 (by decide) (own_b1 _)))) ?_
  show Fin p e below s _ _ _ (s₁.setTop (mkF m 28 #[.val (.ref a1), .val (.double (FP.l2d (0 : Int64))), .second, .val (.ref a1), .val (.int (3 : Int32)), .val (.int (0 : Int32)), .val (.double (FP.l2d P0.toInt64)), .second] [(.double (FP.l2d ((0 : Int64) + P0.toInt64)))]))
  refine Fin.step (fun _ => XS.dstoreN X0.here hx rfl (hb hby d1_28) rfl (l' := #[.val (.ref a1), .val (.double (FP.l2d ((0 : Int64) + P0.toInt64))), .second, .val (.ref a1), .val (.int (3 : Int32)), .val (.int (0 : Int32)), .val (.double (FP.l2d P0.toInt64)), .second]) rfl) ?_
  show Fin p e below s _ _ _ (s₁.setTop (mkF m 29 #[.val (.ref a1), .val (.double (FP.l2d ((0 : Int64) + P0.toInt64))), .second, .val (.ref a1), .val (.int (3 : Int32)), .val (.int (0 : Int32)), .val (.double (FP.l2d P0.toInt64)), .second] []))
  refine Fin.step (fun _ => XS.iinc X0.here hx rfl (hb hby d1_29) rfl (l' := #[.val (.ref a1), .val (.double (FP.l2d ((0 : Int64) + P0.toInt64))), .second, .val (.ref a1), .val (.int (3 : Int32)), .val (.int (1 : Int32)), .val (.double (FP.l2d P0.toInt64)), .second]) rfl) ?_
  show Fin p e below s _ _ _ (s₁.setTop (mkF m 32 #[.val (.ref a1), .val (.double (FP.l2d ((0 : Int64) + P0.toInt64))), .second, .val (.ref a1), .val (.int (3 : Int32)), .val (.int (1 : Int32)), .val (.double (FP.l2d P0.toInt64)), .second] []))
  refine Fin.step (fun _ => XS.goto X0.here hx rfl (pc0 := 32) (pc' := 11) rfl (hb hby d1_32) (by decide) (by decide)) ?_
  show Fin p e below s _ _ _ (s₁.setTop (mkF m 11 #[.val (.ref a1), .val (.double (FP.l2d ((0 : Int64) + P0.toInt64))), .second, .val (.ref a1), .val (.int (3 : Int32)), .val (.int (1 : Int32)), .val (.double (FP.l2d P0.toInt64)), .second] []))
  refine Fin.step (fun _ => XS.iload X0.here hx rfl (hb hby d1_11) rfl) ?_
  show Fin p e below s _ _ _ (s₁.setTop (mkF m 13 #[.val (.ref a1), .val (.double (FP.l2d ((0 : Int64) + P0.toInt64))), .second, .val (.ref a1), .val (.int (3 : Int32)), .val (.int (1 : Int32)), .val (.double (FP.l2d P0.toInt64)), .second] [(.int (1 : Int32))]))
  refine Fin.step (fun _ => XS.iload X0.here hx rfl (hb hby d1_13) rfl) ?_
  show Fin p e below s _ _ _ (s₁.setTop (mkF m 15 #[.val (.ref a1), .val (.double (FP.l2d ((0 : Int64) + P0.toInt64))), .second, .val (.ref a1), .val (.int (3 : Int32)), .val (.int (1 : Int32)), .val (.double (FP.l2d P0.toInt64)), .second] [(.int (3 : Int32)), (.int (1 : Int32))]))
  refine Fin.step (fun _ => XS.icmpNo X0.here hx rfl (hb hby d1_15) rfl (tlt ((by decide) : ((1 : Int32) < (3 : Int32)))).2.1) ?_
  show Fin p e below s _ _ _ (s₁.setTop (mkF m 18 #[.val (.ref a1), .val (.double (FP.l2d ((0 : Int64) + P0.toInt64))), .second, .val (.ref a1), .val (.int (3 : Int32)), .val (.int (1 : Int32)), .val (.double (FP.l2d P0.toInt64)), .second] []))
  refine Fin.step (fun _ => XS.aloadN X0.here hx rfl (hb hby d1_18) rfl rfl) ?_
  show Fin p e below s _ _ _ (s₁.setTop (mkF m 19 #[.val (.ref a1), .val (.double (FP.l2d ((0 : Int64) + P0.toInt64))), .second, .val (.ref a1), .val (.int (3 : Int32)), .val (.int (1 : Int32)), .val (.double (FP.l2d P0.toInt64)), .second] [(.ref a1)]))
  refine Fin.step (fun _ => XS.iload X0.here hx rfl (hb hby d1_19) rfl) ?_
  show Fin p e below s _ _ _ (s₁.setTop (mkF m 21 #[.val (.ref a1), .val (.double (FP.l2d ((0 : Int64) + P0.toInt64))), .second, .val (.ref a1), .val (.int (3 : Int32)), .val (.int (1 : Int32)), .val (.double (FP.l2d P0.toInt64)), .second] [(.int (1 : Int32)), (.ref a1)]))
  have voy3 := HV_a1
  obtain ⟨cly3, Ary3, qay3, say3, nay3, hay3, gay3⟩ := voy3
  have iny3 := inb_of (j := (1 : Int32)) say3 ⟨by decide, by decide⟩
  refine Fin.step (X0.daload hx (j := (1 : Int32)) (v := (.double (FP.l2d P1.toInt64))) (by rw [e0]; exact Ary3.1) (State.isArrayOf_alike hZ.alike Ary3.2.1) Ary3.2.2 iny3 (hay3.at iny3 rfl) (g := (mkF m 21 #[.val (.ref a1), .val (.double (FP.l2d ((0 : Int64) + P0.toInt64))), .second, .val (.ref a1), .val (.int (3 : Int32)), .val (.int (1 : Int32)), .val (.double (FP.l2d P0.toInt64)), .second] [(.int (1 : Int32)), (.ref a1)])) rfl rfl (hb hby d1_21)) ?_
  show Fin p e below s _ _ _ (s₁.setTop (mkF m 22 #[.val (.ref a1), .val (.double (FP.l2d ((0 : Int64) + P0.toInt64))), .second, .val (.ref a1), .val (.int (3 : Int32)), .val (.int (1 : Int32)), .val (.double (FP.l2d P0.toInt64)), .second] [(.double (FP.l2d P1.toInt64))]))
  refine Fin.step (fun _ => XS.dstore X0.here hx rfl (hb hby d1_22) rfl (l' := #[.val (.ref a1), .val (.double (FP.l2d ((0 : Int64) + P0.toInt64))), .second, .val (.ref a1), .val (.int (3 : Int32)), .val (.int (1 : Int32)), .val (.double (FP.l2d P1.toInt64)), .second]) rfl) ?_
  show Fin p e below s _ _ _ (s₁.setTop (mkF m 24 #[.val (.ref a1), .val (.double (FP.l2d ((0 : Int64) + P0.toInt64))), .second, .val (.ref a1), .val (.int (3 : Int32)), .val (.int (1 : Int32)), .val (.double (FP.l2d P1.toInt64)), .second] []))
  refine Fin.step (fun _ => XS.dloadN X0.here hx rfl (hb hby d1_24) rfl) ?_
  show Fin p e below s _ _ _ (s₁.setTop (mkF m 25 #[.val (.ref a1), .val (.double (FP.l2d ((0 : Int64) + P0.toInt64))), .second, .val (.ref a1), .val (.int (3 : Int32)), .val (.int (1 : Int32)), .val (.double (FP.l2d P1.toInt64)), .second] [(.double (FP.l2d ((0 : Int64) + P0.toInt64)))]))
  refine Fin.step (fun _ => XS.dload X0.here hx rfl (hb hby d1_25) rfl) ?_
  show Fin p e below s _ _ _ (s₁.setTop (mkF m 27 #[.val (.ref a1), .val (.double (FP.l2d ((0 : Int64) + P0.toInt64))), .second, .val (.ref a1), .val (.int (3 : Int32)), .val (.int (1 : Int32)), .val (.double (FP.l2d P1.toInt64)), .second] [(.double (FP.l2d P1.toInt64)), (.double (FP.l2d ((0 : Int64) + P0.toInt64)))]))
  refine Fin.step (fun _ => XS.daddS X0.here hx rfl (hb hby d1_27) rfl (nn_w (dadd_w (a := ((0 : Int64) + P0.toInt64)) (b := P1.toInt64) (own_53 (by decide) (own_bs (by decide) own_b0 _)) (own_53 (by decide) (own_b1 _)))) (dadd_w (a := ((0 : Int64) + P0.toInt64)) (b := P1.toInt64) (own_53 (by decide) (own_bs (by decide) own_b0 _)) (own_53 (by decide) (own_b1 _)))) ?_
  show Fin p e below s _ _ _ (s₁.setTop (mkF m 28 #[.val (.ref a1), .val (.double (FP.l2d ((0 : Int64) + P0.toInt64))), .second, .val (.ref a1), .val (.int (3 : Int32)), .val (.int (1 : Int32)), .val (.double (FP.l2d P1.toInt64)), .second] [(.double (FP.l2d (((0 : Int64) + P0.toInt64) + P1.toInt64)))]))
  refine Fin.step (fun _ => XS.dstoreN X0.here hx rfl (hb hby d1_28) rfl (l' := #[.val (.ref a1), .val (.double (FP.l2d (((0 : Int64) + P0.toInt64) + P1.toInt64))), .second, .val (.ref a1), .val (.int (3 : Int32)), .val (.int (1 : Int32)), .val (.double (FP.l2d P1.toInt64)), .second]) rfl) ?_
  show Fin p e below s _ _ _ (s₁.setTop (mkF m 29 #[.val (.ref a1), .val (.double (FP.l2d (((0 : Int64) + P0.toInt64) + P1.toInt64))), .second, .val (.ref a1), .val (.int (3 : Int32)), .val (.int (1 : Int32)), .val (.double (FP.l2d P1.toInt64)), .second] []))
  refine Fin.step (fun _ => XS.iinc X0.here hx rfl (hb hby d1_29) rfl (l' := #[.val (.ref a1), .val (.double (FP.l2d (((0 : Int64) + P0.toInt64) + P1.toInt64))), .second, .val (.ref a1), .val (.int (3 : Int32)), .val (.int (2 : Int32)), .val (.double (FP.l2d P1.toInt64)), .second]) rfl) ?_
  show Fin p e below s _ _ _ (s₁.setTop (mkF m 32 #[.val (.ref a1), .val (.double (FP.l2d (((0 : Int64) + P0.toInt64) + P1.toInt64))), .second, .val (.ref a1), .val (.int (3 : Int32)), .val (.int (2 : Int32)), .val (.double (FP.l2d P1.toInt64)), .second] []))
  refine Fin.step (fun _ => XS.goto X0.here hx rfl (pc0 := 32) (pc' := 11) rfl (hb hby d1_32) (by decide) (by decide)) ?_
  show Fin p e below s _ _ _ (s₁.setTop (mkF m 11 #[.val (.ref a1), .val (.double (FP.l2d (((0 : Int64) + P0.toInt64) + P1.toInt64))), .second, .val (.ref a1), .val (.int (3 : Int32)), .val (.int (2 : Int32)), .val (.double (FP.l2d P1.toInt64)), .second] []))
  refine Fin.step (fun _ => XS.iload X0.here hx rfl (hb hby d1_11) rfl) ?_
  show Fin p e below s _ _ _ (s₁.setTop (mkF m 13 #[.val (.ref a1), .val (.double (FP.l2d (((0 : Int64) + P0.toInt64) + P1.toInt64))), .second, .val (.ref a1), .val (.int (3 : Int32)), .val (.int (2 : Int32)), .val (.double (FP.l2d P1.toInt64)), .second] [(.int (2 : Int32))]))
  refine Fin.step (fun _ => XS.iload X0.here hx rfl (hb hby d1_13) rfl) ?_
  show Fin p e below s _ _ _ (s₁.setTop (mkF m 15 #[.val (.ref a1), .val (.double (FP.l2d (((0 : Int64) + P0.toInt64) + P1.toInt64))), .second, .val (.ref a1), .val (.int (3 : Int32)), .val (.int (2 : Int32)), .val (.double (FP.l2d P1.toInt64)), .second] [(.int (3 : Int32)), (.int (2 : Int32))]))
  refine Fin.step (fun _ => XS.icmpNo X0.here hx rfl (hb hby d1_15) rfl (tlt ((by decide) : ((2 : Int32) < (3 : Int32)))).2.1) ?_
  show Fin p e below s _ _ _ (s₁.setTop (mkF m 18 #[.val (.ref a1), .val (.double (FP.l2d (((0 : Int64) + P0.toInt64) + P1.toInt64))), .second, .val (.ref a1), .val (.int (3 : Int32)), .val (.int (2 : Int32)), .val (.double (FP.l2d P1.toInt64)), .second] []))
  refine Fin.step (fun _ => XS.aloadN X0.here hx rfl (hb hby d1_18) rfl rfl) ?_
  show Fin p e below s _ _ _ (s₁.setTop (mkF m 19 #[.val (.ref a1), .val (.double (FP.l2d (((0 : Int64) + P0.toInt64) + P1.toInt64))), .second, .val (.ref a1), .val (.int (3 : Int32)), .val (.int (2 : Int32)), .val (.double (FP.l2d P1.toInt64)), .second] [(.ref a1)]))
  refine Fin.step (fun _ => XS.iload X0.here hx rfl (hb hby d1_19) rfl) ?_
  show Fin p e below s _ _ _ (s₁.setTop (mkF m 21 #[.val (.ref a1), .val (.double (FP.l2d (((0 : Int64) + P0.toInt64) + P1.toInt64))), .second, .val (.ref a1), .val (.int (3 : Int32)), .val (.int (2 : Int32)), .val (.double (FP.l2d P1.toInt64)), .second] [(.int (2 : Int32)), (.ref a1)]))
  have voy4 := HV_a1
  obtain ⟨cly4, Ary4, qay4, say4, nay4, hay4, gay4⟩ := voy4
  have iny4 := inb_of (j := (2 : Int32)) say4 ⟨by decide, by decide⟩
  refine Fin.step (X0.daload hx (j := (2 : Int32)) (v := (.double (FP.l2d P2.toInt64))) (by rw [e0]; exact Ary4.1) (State.isArrayOf_alike hZ.alike Ary4.2.1) Ary4.2.2 iny4 (hay4.at iny4 rfl) (g := (mkF m 21 #[.val (.ref a1), .val (.double (FP.l2d (((0 : Int64) + P0.toInt64) + P1.toInt64))), .second, .val (.ref a1), .val (.int (3 : Int32)), .val (.int (2 : Int32)), .val (.double (FP.l2d P1.toInt64)), .second] [(.int (2 : Int32)), (.ref a1)])) rfl rfl (hb hby d1_21)) ?_
  show Fin p e below s _ _ _ (s₁.setTop (mkF m 22 #[.val (.ref a1), .val (.double (FP.l2d (((0 : Int64) + P0.toInt64) + P1.toInt64))), .second, .val (.ref a1), .val (.int (3 : Int32)), .val (.int (2 : Int32)), .val (.double (FP.l2d P1.toInt64)), .second] [(.double (FP.l2d P2.toInt64))]))
  refine Fin.step (fun _ => XS.dstore X0.here hx rfl (hb hby d1_22) rfl (l' := #[.val (.ref a1), .val (.double (FP.l2d (((0 : Int64) + P0.toInt64) + P1.toInt64))), .second, .val (.ref a1), .val (.int (3 : Int32)), .val (.int (2 : Int32)), .val (.double (FP.l2d P2.toInt64)), .second]) rfl) ?_
  show Fin p e below s _ _ _ (s₁.setTop (mkF m 24 #[.val (.ref a1), .val (.double (FP.l2d (((0 : Int64) + P0.toInt64) + P1.toInt64))), .second, .val (.ref a1), .val (.int (3 : Int32)), .val (.int (2 : Int32)), .val (.double (FP.l2d P2.toInt64)), .second] []))
  refine Fin.step (fun _ => XS.dloadN X0.here hx rfl (hb hby d1_24) rfl) ?_
  show Fin p e below s _ _ _ (s₁.setTop (mkF m 25 #[.val (.ref a1), .val (.double (FP.l2d (((0 : Int64) + P0.toInt64) + P1.toInt64))), .second, .val (.ref a1), .val (.int (3 : Int32)), .val (.int (2 : Int32)), .val (.double (FP.l2d P2.toInt64)), .second] [(.double (FP.l2d (((0 : Int64) + P0.toInt64) + P1.toInt64)))]))
  refine Fin.step (fun _ => XS.dload X0.here hx rfl (hb hby d1_25) rfl) ?_
  show Fin p e below s _ _ _ (s₁.setTop (mkF m 27 #[.val (.ref a1), .val (.double (FP.l2d (((0 : Int64) + P0.toInt64) + P1.toInt64))), .second, .val (.ref a1), .val (.int (3 : Int32)), .val (.int (2 : Int32)), .val (.double (FP.l2d P2.toInt64)), .second] [(.double (FP.l2d P2.toInt64)), (.double (FP.l2d (((0 : Int64) + P0.toInt64) + P1.toInt64)))]))
  refine Fin.step (fun _ => XS.daddS X0.here hx rfl (hb hby d1_27) rfl (nn_w (dadd_w (a := (((0 : Int64) + P0.toInt64) + P1.toInt64)) (b := P2.toInt64) (own_53 (by decide) (own_bs (by decide) (own_bs (by decide) own_b0 _) _)) (own_53 (by decide) (own_b1 _)))) (dadd_w (a := (((0 : Int64) + P0.toInt64) + P1.toInt64)) (b := P2.toInt64) (own_53 (by decide) (own_bs (by decide) (own_bs (by decide) own_b0 _) _)) (own_53 (by decide) (own_b1 _)))) ?_
  show Fin p e below s _ _ _ (s₁.setTop (mkF m 28 #[.val (.ref a1), .val (.double (FP.l2d (((0 : Int64) + P0.toInt64) + P1.toInt64))), .second, .val (.ref a1), .val (.int (3 : Int32)), .val (.int (2 : Int32)), .val (.double (FP.l2d P2.toInt64)), .second] [(.double (FP.l2d ((((0 : Int64) + P0.toInt64) + P1.toInt64) + P2.toInt64)))]))
  refine Fin.step (fun _ => XS.dstoreN X0.here hx rfl (hb hby d1_28) rfl (l' := #[.val (.ref a1), .val (.double (FP.l2d ((((0 : Int64) + P0.toInt64) + P1.toInt64) + P2.toInt64))), .second, .val (.ref a1), .val (.int (3 : Int32)), .val (.int (2 : Int32)), .val (.double (FP.l2d P2.toInt64)), .second]) rfl) ?_
  show Fin p e below s _ _ _ (s₁.setTop (mkF m 29 #[.val (.ref a1), .val (.double (FP.l2d ((((0 : Int64) + P0.toInt64) + P1.toInt64) + P2.toInt64))), .second, .val (.ref a1), .val (.int (3 : Int32)), .val (.int (2 : Int32)), .val (.double (FP.l2d P2.toInt64)), .second] []))
  refine Fin.step (fun _ => XS.iinc X0.here hx rfl (hb hby d1_29) rfl (l' := #[.val (.ref a1), .val (.double (FP.l2d ((((0 : Int64) + P0.toInt64) + P1.toInt64) + P2.toInt64))), .second, .val (.ref a1), .val (.int (3 : Int32)), .val (.int (3 : Int32)), .val (.double (FP.l2d P2.toInt64)), .second]) rfl) ?_
  show Fin p e below s _ _ _ (s₁.setTop (mkF m 32 #[.val (.ref a1), .val (.double (FP.l2d ((((0 : Int64) + P0.toInt64) + P1.toInt64) + P2.toInt64))), .second, .val (.ref a1), .val (.int (3 : Int32)), .val (.int (3 : Int32)), .val (.double (FP.l2d P2.toInt64)), .second] []))
  refine Fin.step (fun _ => XS.goto X0.here hx rfl (pc0 := 32) (pc' := 11) rfl (hb hby d1_32) (by decide) (by decide)) ?_
  show Fin p e below s _ _ _ (s₁.setTop (mkF m 11 #[.val (.ref a1), .val (.double (FP.l2d ((((0 : Int64) + P0.toInt64) + P1.toInt64) + P2.toInt64))), .second, .val (.ref a1), .val (.int (3 : Int32)), .val (.int (3 : Int32)), .val (.double (FP.l2d P2.toInt64)), .second] []))
  refine Fin.step (fun _ => XS.iload X0.here hx rfl (hb hby d1_11) rfl) ?_
  show Fin p e below s _ _ _ (s₁.setTop (mkF m 13 #[.val (.ref a1), .val (.double (FP.l2d ((((0 : Int64) + P0.toInt64) + P1.toInt64) + P2.toInt64))), .second, .val (.ref a1), .val (.int (3 : Int32)), .val (.int (3 : Int32)), .val (.double (FP.l2d P2.toInt64)), .second] [(.int (3 : Int32))]))
  refine Fin.step (fun _ => XS.iload X0.here hx rfl (hb hby d1_13) rfl) ?_
  show Fin p e below s _ _ _ (s₁.setTop (mkF m 15 #[.val (.ref a1), .val (.double (FP.l2d ((((0 : Int64) + P0.toInt64) + P1.toInt64) + P2.toInt64))), .second, .val (.ref a1), .val (.int (3 : Int32)), .val (.int (3 : Int32)), .val (.double (FP.l2d P2.toInt64)), .second] [(.int (3 : Int32)), (.int (3 : Int32))]))
  refine Fin.step (fun _ => XS.icmpYes X0.here hx rfl (pc0 := 15) (pc' := 35) rfl (hb hby d1_15) rfl (flt ((by decide) : ¬ ((3 : Int32) < (3 : Int32)))).2.1 (by decide) (by decide)) ?_
  show Fin p e below s _ _ _ (s₁.setTop (mkF m 35 #[.val (.ref a1), .val (.double (FP.l2d ((((0 : Int64) + P0.toInt64) + P1.toInt64) + P2.toInt64))), .second, .val (.ref a1), .val (.int (3 : Int32)), .val (.int (3 : Int32)), .val (.double (FP.l2d P2.toInt64)), .second] []))
  refine Fin.step (fun _ => XS.aloadN X0.here hx rfl (hb hby d1_35) rfl rfl) ?_
  show Fin p e below s _ _ _ (s₁.setTop (mkF m 36 #[.val (.ref a1), .val (.double (FP.l2d ((((0 : Int64) + P0.toInt64) + P1.toInt64) + P2.toInt64))), .second, .val (.ref a1), .val (.int (3 : Int32)), .val (.int (3 : Int32)), .val (.double (FP.l2d P2.toInt64)), .second] [(.ref a1)]))
  have voy5 := HV_a1
  obtain ⟨cly5, Ary5, qay5, say5, nay5, hay5, gay5⟩ := voy5
  refine Fin.step (X0.arraylength hx (by rw [e0]; exact Ary5.1) (State.isArrayOf_alike hZ.alike Ary5.2.1) (g := (mkF m 36 #[.val (.ref a1), .val (.double (FP.l2d ((((0 : Int64) + P0.toInt64) + P1.toInt64) + P2.toInt64))), .second, .val (.ref a1), .val (.int (3 : Int32)), .val (.int (3 : Int32)), .val (.double (FP.l2d P2.toInt64)), .second] [(.ref a1)])) rfl rfl (hb hby d1_36)) ?_
  rw [len_of say5 nay5]
  show Fin p e below s _ _ _ (s₁.setTop (mkF m 37 #[.val (.ref a1), .val (.double (FP.l2d ((((0 : Int64) + P0.toInt64) + P1.toInt64) + P2.toInt64))), .second, .val (.ref a1), .val (.int (3 : Int32)), .val (.int (3 : Int32)), .val (.double (FP.l2d P2.toInt64)), .second] [(.int (3 : Int32))]))
  refine Fin.step (fun _ => XS.ifYes X0.here hx rfl (pc0 := 37) (pc' := 44) rfl (hb hby d1_37) rfl ((if0 _ _).trans (feq ((by decide) : ¬ ((3 : Int32) = (0 : Int32)))).2) (by decide) (by decide)) ?_
  show Fin p e below s _ _ _ (s₁.setTop (mkF m 44 #[.val (.ref a1), .val (.double (FP.l2d ((((0 : Int64) + P0.toInt64) + P1.toInt64) + P2.toInt64))), .second, .val (.ref a1), .val (.int (3 : Int32)), .val (.int (3 : Int32)), .val (.double (FP.l2d P2.toInt64)), .second] []))
  refine Fin.step (fun _ => XS.dloadN X0.here hx rfl (hb hby d1_44) rfl) ?_
  show Fin p e below s _ _ _ (s₁.setTop (mkF m 45 #[.val (.ref a1), .val (.double (FP.l2d ((((0 : Int64) + P0.toInt64) + P1.toInt64) + P2.toInt64))), .second, .val (.ref a1), .val (.int (3 : Int32)), .val (.int (3 : Int32)), .val (.double (FP.l2d P2.toInt64)), .second] [(.double (FP.l2d ((((0 : Int64) + P0.toInt64) + P1.toInt64) + P2.toInt64)))]))
  refine Fin.step (fun _ => XS.aloadN X0.here hx rfl (hb hby d1_45) rfl rfl) ?_
  show Fin p e below s _ _ _ (s₁.setTop (mkF m 46 #[.val (.ref a1), .val (.double (FP.l2d ((((0 : Int64) + P0.toInt64) + P1.toInt64) + P2.toInt64))), .second, .val (.ref a1), .val (.int (3 : Int32)), .val (.int (3 : Int32)), .val (.double (FP.l2d P2.toInt64)), .second] [(.ref a1), (.double (FP.l2d ((((0 : Int64) + P0.toInt64) + P1.toInt64) + P2.toInt64)))]))
  have voy6 := HV_a1
  obtain ⟨cly6, Ary6, qay6, say6, nay6, hay6, gay6⟩ := voy6
  refine Fin.step (X0.arraylength hx (by rw [e0]; exact Ary6.1) (State.isArrayOf_alike hZ.alike Ary6.2.1) (g := (mkF m 46 #[.val (.ref a1), .val (.double (FP.l2d ((((0 : Int64) + P0.toInt64) + P1.toInt64) + P2.toInt64))), .second, .val (.ref a1), .val (.int (3 : Int32)), .val (.int (3 : Int32)), .val (.double (FP.l2d P2.toInt64)), .second] [(.ref a1), (.double (FP.l2d ((((0 : Int64) + P0.toInt64) + P1.toInt64) + P2.toInt64)))])) rfl rfl (hb hby d1_46)) ?_
  rw [len_of say6 nay6]
  show Fin p e below s _ _ _ (s₁.setTop (mkF m 47 #[.val (.ref a1), .val (.double (FP.l2d ((((0 : Int64) + P0.toInt64) + P1.toInt64) + P2.toInt64))), .second, .val (.ref a1), .val (.int (3 : Int32)), .val (.int (3 : Int32)), .val (.double (FP.l2d P2.toInt64)), .second] [(.int (3 : Int32)), (.double (FP.l2d ((((0 : Int64) + P0.toInt64) + P1.toInt64) + P2.toInt64)))]))
  refine Fin.step (fun _ => XS.i2dS X0.here hx rfl (hb hby d1_47) rfl (i2d_w (3 : Int32))) ?_
  show Fin p e below s _ _ _ (s₁.setTop (mkF m 48 #[.val (.ref a1), .val (.double (FP.l2d ((((0 : Int64) + P0.toInt64) + P1.toInt64) + P2.toInt64))), .second, .val (.ref a1), .val (.int (3 : Int32)), .val (.int (3 : Int32)), .val (.double (FP.l2d P2.toInt64)), .second] [(.double (FP.l2d (3 : Int32).toInt64)), (.double (FP.l2d ((((0 : Int64) + P0.toInt64) + P1.toInt64) + P2.toInt64)))]))
  refine Fin.step (fun _ => XS.ddivS X0.here hx rfl (hb hby d1_48) rfl (own_div _ _ (by unfold Jvm.Free.Fl.Nz64; decide +kernel)) rfl) ?_
  show Fin p e below s _ _ _ (s₁.setTop (mkF m 49 #[.val (.ref a1), .val (.double (FP.l2d ((((0 : Int64) + P0.toInt64) + P1.toInt64) + P2.toInt64))), .second, .val (.ref a1), .val (.int (3 : Int32)), .val (.int (3 : Int32)), .val (.double (FP.l2d P2.toInt64)), .second] [(.double (FP.ddiv (FP.l2d ((((0 : Int64) + P0.toInt64) + P1.toInt64) + P2.toInt64)) (FP.l2d (3 : Int32).toInt64)))]))
  refine Fin.retD X0 hx hret hlk (hb hby d1_49) (by decide) (by decide) ?_
  show Qm3 Z a1 k1 P0 P1 P2 h0 n0 _ s₁.heap _
  rw [e0]
  exact ⟨rfl, N0, rfl⟩
theorem ef_rmm4 (m : MethodId) (x0 : Addr) : entryFrame m #[(.ref x0)] 8 = mkF m 0 #[.val (.ref x0), .unset, .unset, .unset, .unset, .unset, .unset, .unset] [] := by first | (simp [entryFrame, mkF, argsToLocals, Value.category]; done) | rfl
def Qm4 (Z : State) (a1 : Addr) (k1 : ClassId) (P0 : Int32) (P1 : Int32) (P2 : Int32) (P3 : Int32) (h0 : Heap) (n0 : Nat) (v : Option Value) (h : Heap) (L : List Loc) : Prop := v = some (.double (FP.ddiv (FP.l2d (((((0 : Int64) + P0.toInt64) + P1.toInt64) + P2.toInt64) + P3.toInt64)) (FP.l2d (4 : Int32).toInt64))) ∧ Fr n0 L ∧ h = h0
set_option maxRecDepth 65536 in
set_option maxHeartbeats 40000000 in
theorem rmm4 (l : Launch) (Z : State) (a0 : Array Value) (hw : ∀ d ∈ tables_1, d.before a0 Z = true) (ws : List Jvm.Cond) (a1 : Addr) (k1 : ClassId) (P0 : Int32) (P1 : Int32) (P2 : Int32) (P3 : Int32) (h0 : Heap) (n0 : Nat) (Z0 : n0 ≤ h0.size) (HV_a1 : Arv Z h0 a1 k1 .double (4 : Int32) [(.double (FP.l2d P0.toInt64)), (.double (FP.l2d P1.toInt64)), (.double (FP.l2d P2.toInt64)), (.double (FP.l2d P3.toInt64))] (.double (FP.l2d (0 : Int64)))) :
    MetFree l (⟨"com/example/indexterity/indexterity/comparison/PairedTests", "mean", "([D)D"⟩ : MethodName) (head1 (Jvm.Cond.code (⟨"com/example/indexterity/indexterity/comparison/PairedTests", "mean", "([D)D"⟩ : MethodName) prog_21_method_6_code 8 (some .double) :: ws) ({ frames := 0, cells := 0, slots := 0, locals := 0 } : Room)) (fun a U => a = #[(.ref a1)] ∧ Z.Warmed39 U.vm ∧ U.heap = h0) (fun _ _ _ _ _ => True) (fun _ U o U' => ∃ v L, o = .returned v ∧ Qm4 Z a1 k1 P0 P1 P2 P3 h0 n0 v U'.heap L ∧ FrameEnd U o U' L ({ frames := 0, cells := 0, slots := 0, locals := 0 } : Room).cells ({ frames := 0, cells := 0, slots := 0, locals := 0 } : Room).slots) := by
  refine MetFree.of_bodySF (plainFor_of_name pn_1) hisR ?_
  intro p e s m args below meth c s₁ Bd hml0 hP hK
  obtain ⟨rfl, hZ, hh⟩ := hP
  have hx := Bd.exec
  have hby := Bd.bytes
  have hlk := BodyLoose.notSynchronized Bd
  have hret := Bd.returns
  have hml : c.maxLocals = 8 := hml0
  have hown : s.vm.findClass "com/example/indexterity/indexterity/comparison/PairedTests" = some m.cls := findClass_of_methodNamed Bd.named
  have hnm := (name_of_methodNamed Bd.named Bd.method).1
  have X0 : Stand p l e ({ frames := 0, cells := 0, slots := 0, locals := 0 } : Room) s m #[(.ref a1)] below meth c s₁ [] 0 0 := Stand.of_body Bd
  have e0 : s₁.heap = h0 := by rw [← hh, Bd.state]; rfl
  have N0 := Fr.nil n0
  have K0 : Keep h0 h0 [] := Keep.refl h0 _
  refine Fin.step (Q := fun v h L => Qm4 Z a1 k1 P0 P1 P2 P3 h0 n0 v h L) (st' := s₁.setTop (mkF m 0 #[.val (.ref a1), .unset, .unset, .unset, .unset, .unset, .unset, .unset] [])) (fun t k => castTop (ef_rmm4 m a1) k) ?_
  show Fin p e below s _ _ _ (s₁.setTop (mkF m 0 #[.val (.ref a1), .unset, .unset, .unset, .unset, .unset, .unset, .unset] []))
  refine Fin.step (fun _ => XS.dconst0 X0.here hx rfl (hb hby d1_0) (show FP.dconst0 = FP.l2d (0 : Int64) by decide +kernel)) ?_
  show Fin p e below s _ _ _ (s₁.setTop (mkF m 1 #[.val (.ref a1), .unset, .unset, .unset, .unset, .unset, .unset, .unset] [(.double (FP.l2d (0 : Int64)))]))
  refine Fin.step (fun _ => XS.dstoreN X0.here hx rfl (hb hby d1_1) rfl (l' := #[.val (.ref a1), .val (.double (FP.l2d (0 : Int64))), .second, .unset, .unset, .unset, .unset, .unset]) rfl) ?_
  show Fin p e below s _ _ _ (s₁.setTop (mkF m 2 #[.val (.ref a1), .val (.double (FP.l2d (0 : Int64))), .second, .unset, .unset, .unset, .unset, .unset] []))
  refine Fin.step (fun _ => XS.aloadN X0.here hx rfl (hb hby d1_2) rfl rfl) ?_
  show Fin p e below s _ _ _ (s₁.setTop (mkF m 3 #[.val (.ref a1), .val (.double (FP.l2d (0 : Int64))), .second, .unset, .unset, .unset, .unset, .unset] [(.ref a1)]))
  refine Fin.step (fun _ => XS.astoreN X0.here hx rfl (hb hby d1_3) rfl rfl (l' := #[.val (.ref a1), .val (.double (FP.l2d (0 : Int64))), .second, .val (.ref a1), .unset, .unset, .unset, .unset]) rfl) ?_
  show Fin p e below s _ _ _ (s₁.setTop (mkF m 4 #[.val (.ref a1), .val (.double (FP.l2d (0 : Int64))), .second, .val (.ref a1), .unset, .unset, .unset, .unset] []))
  refine Fin.step (fun _ => XS.aloadN X0.here hx rfl (hb hby d1_4) rfl rfl) ?_
  show Fin p e below s _ _ _ (s₁.setTop (mkF m 5 #[.val (.ref a1), .val (.double (FP.l2d (0 : Int64))), .second, .val (.ref a1), .unset, .unset, .unset, .unset] [(.ref a1)]))
  have voy1 := HV_a1
  obtain ⟨cly1, Ary1, qay1, say1, nay1, hay1, gay1⟩ := voy1
  refine Fin.step (X0.arraylength hx (by rw [e0]; exact Ary1.1) (State.isArrayOf_alike hZ.alike Ary1.2.1) (g := (mkF m 5 #[.val (.ref a1), .val (.double (FP.l2d (0 : Int64))), .second, .val (.ref a1), .unset, .unset, .unset, .unset] [(.ref a1)])) rfl rfl (hb hby d1_5)) ?_
  rw [len_of say1 nay1]
  show Fin p e below s _ _ _ (s₁.setTop (mkF m 6 #[.val (.ref a1), .val (.double (FP.l2d (0 : Int64))), .second, .val (.ref a1), .unset, .unset, .unset, .unset] [(.int (4 : Int32))]))
  refine Fin.step (fun _ => XS.istore X0.here hx rfl (hb hby d1_6) rfl (l' := #[.val (.ref a1), .val (.double (FP.l2d (0 : Int64))), .second, .val (.ref a1), .val (.int (4 : Int32)), .unset, .unset, .unset]) rfl) ?_
  show Fin p e below s _ _ _ (s₁.setTop (mkF m 8 #[.val (.ref a1), .val (.double (FP.l2d (0 : Int64))), .second, .val (.ref a1), .val (.int (4 : Int32)), .unset, .unset, .unset] []))
  refine Fin.step (fun _ => XS.iconst X0.here hx rfl (hb hby d1_8)) ?_
  show Fin p e below s _ _ _ (s₁.setTop (mkF m 9 #[.val (.ref a1), .val (.double (FP.l2d (0 : Int64))), .second, .val (.ref a1), .val (.int (4 : Int32)), .unset, .unset, .unset] [(.int (0 : Int32))]))
  refine Fin.step (fun _ => XS.istore X0.here hx rfl (hb hby d1_9) rfl (l' := #[.val (.ref a1), .val (.double (FP.l2d (0 : Int64))), .second, .val (.ref a1), .val (.int (4 : Int32)), .val (.int (0 : Int32)), .unset, .unset]) rfl) ?_
  show Fin p e below s _ _ _ (s₁.setTop (mkF m 11 #[.val (.ref a1), .val (.double (FP.l2d (0 : Int64))), .second, .val (.ref a1), .val (.int (4 : Int32)), .val (.int (0 : Int32)), .unset, .unset] []))
  refine Fin.step (fun _ => XS.iload X0.here hx rfl (hb hby d1_11) rfl) ?_
  show Fin p e below s _ _ _ (s₁.setTop (mkF m 13 #[.val (.ref a1), .val (.double (FP.l2d (0 : Int64))), .second, .val (.ref a1), .val (.int (4 : Int32)), .val (.int (0 : Int32)), .unset, .unset] [(.int (0 : Int32))]))
  refine Fin.step (fun _ => XS.iload X0.here hx rfl (hb hby d1_13) rfl) ?_
  show Fin p e below s _ _ _ (s₁.setTop (mkF m 15 #[.val (.ref a1), .val (.double (FP.l2d (0 : Int64))), .second, .val (.ref a1), .val (.int (4 : Int32)), .val (.int (0 : Int32)), .unset, .unset] [(.int (4 : Int32)), (.int (0 : Int32))]))
  refine Fin.step (fun _ => XS.icmpNo X0.here hx rfl (hb hby d1_15) rfl (tlt ((by decide) : ((0 : Int32) < (4 : Int32)))).2.1) ?_
  show Fin p e below s _ _ _ (s₁.setTop (mkF m 18 #[.val (.ref a1), .val (.double (FP.l2d (0 : Int64))), .second, .val (.ref a1), .val (.int (4 : Int32)), .val (.int (0 : Int32)), .unset, .unset] []))
  refine Fin.step (fun _ => XS.aloadN X0.here hx rfl (hb hby d1_18) rfl rfl) ?_
  show Fin p e below s _ _ _ (s₁.setTop (mkF m 19 #[.val (.ref a1), .val (.double (FP.l2d (0 : Int64))), .second, .val (.ref a1), .val (.int (4 : Int32)), .val (.int (0 : Int32)), .unset, .unset] [(.ref a1)]))
  refine Fin.step (fun _ => XS.iload X0.here hx rfl (hb hby d1_19) rfl) ?_
  show Fin p e below s _ _ _ (s₁.setTop (mkF m 21 #[.val (.ref a1), .val (.double (FP.l2d (0 : Int64))), .second, .val (.ref a1), .val (.int (4 : Int32)), .val (.int (0 : Int32)), .unset, .unset] [(.int (0 : Int32)), (.ref a1)]))
  have voy2 := HV_a1
  obtain ⟨cly2, Ary2, qay2, say2, nay2, hay2, gay2⟩ := voy2
  have iny2 := inb_of (j := (0 : Int32)) say2 ⟨by decide, by decide⟩
  refine Fin.step (X0.daload hx (j := (0 : Int32)) (v := (.double (FP.l2d P0.toInt64))) (by rw [e0]; exact Ary2.1) (State.isArrayOf_alike hZ.alike Ary2.2.1) Ary2.2.2 iny2 (hay2.at iny2 rfl) (g := (mkF m 21 #[.val (.ref a1), .val (.double (FP.l2d (0 : Int64))), .second, .val (.ref a1), .val (.int (4 : Int32)), .val (.int (0 : Int32)), .unset, .unset] [(.int (0 : Int32)), (.ref a1)])) rfl rfl (hb hby d1_21)) ?_
  show Fin p e below s _ _ _ (s₁.setTop (mkF m 22 #[.val (.ref a1), .val (.double (FP.l2d (0 : Int64))), .second, .val (.ref a1), .val (.int (4 : Int32)), .val (.int (0 : Int32)), .unset, .unset] [(.double (FP.l2d P0.toInt64))]))
  refine Fin.step (fun _ => XS.dstore X0.here hx rfl (hb hby d1_22) rfl (l' := #[.val (.ref a1), .val (.double (FP.l2d (0 : Int64))), .second, .val (.ref a1), .val (.int (4 : Int32)), .val (.int (0 : Int32)), .val (.double (FP.l2d P0.toInt64)), .second]) rfl) ?_
  show Fin p e below s _ _ _ (s₁.setTop (mkF m 24 #[.val (.ref a1), .val (.double (FP.l2d (0 : Int64))), .second, .val (.ref a1), .val (.int (4 : Int32)), .val (.int (0 : Int32)), .val (.double (FP.l2d P0.toInt64)), .second] []))
  refine Fin.step (fun _ => XS.dloadN X0.here hx rfl (hb hby d1_24) rfl) ?_
  show Fin p e below s _ _ _ (s₁.setTop (mkF m 25 #[.val (.ref a1), .val (.double (FP.l2d (0 : Int64))), .second, .val (.ref a1), .val (.int (4 : Int32)), .val (.int (0 : Int32)), .val (.double (FP.l2d P0.toInt64)), .second] [(.double (FP.l2d (0 : Int64)))]))
  refine Fin.step (fun _ => XS.dload X0.here hx rfl (hb hby d1_25) rfl) ?_
  show Fin p e below s _ _ _ (s₁.setTop (mkF m 27 #[.val (.ref a1), .val (.double (FP.l2d (0 : Int64))), .second, .val (.ref a1), .val (.int (4 : Int32)), .val (.int (0 : Int32)), .val (.double (FP.l2d P0.toInt64)), .second] [(.double (FP.l2d P0.toInt64)), (.double (FP.l2d (0 : Int64)))]))
  refine Fin.step (fun _ => XS.daddS X0.here hx rfl (hb hby d1_27) rfl (nn_w (dadd_w (a := (0 : Int64)) (b := P0.toInt64) (own_53 (by decide) own_b0) (own_53 (by decide) (own_b1 _)))) (dadd_w (a := (0 : Int64)) (b := P0.toInt64) (own_53 (by decide) own_b0) (own_53 (by decide) (own_b1 _)))) ?_
  show Fin p e below s _ _ _ (s₁.setTop (mkF m 28 #[.val (.ref a1), .val (.double (FP.l2d (0 : Int64))), .second, .val (.ref a1), .val (.int (4 : Int32)), .val (.int (0 : Int32)), .val (.double (FP.l2d P0.toInt64)), .second] [(.double (FP.l2d ((0 : Int64) + P0.toInt64)))]))
  refine Fin.step (fun _ => XS.dstoreN X0.here hx rfl (hb hby d1_28) rfl (l' := #[.val (.ref a1), .val (.double (FP.l2d ((0 : Int64) + P0.toInt64))), .second, .val (.ref a1), .val (.int (4 : Int32)), .val (.int (0 : Int32)), .val (.double (FP.l2d P0.toInt64)), .second]) rfl) ?_
  show Fin p e below s _ _ _ (s₁.setTop (mkF m 29 #[.val (.ref a1), .val (.double (FP.l2d ((0 : Int64) + P0.toInt64))), .second, .val (.ref a1), .val (.int (4 : Int32)), .val (.int (0 : Int32)), .val (.double (FP.l2d P0.toInt64)), .second] []))
  refine Fin.step (fun _ => XS.iinc X0.here hx rfl (hb hby d1_29) rfl (l' := #[.val (.ref a1), .val (.double (FP.l2d ((0 : Int64) + P0.toInt64))), .second, .val (.ref a1), .val (.int (4 : Int32)), .val (.int (1 : Int32)), .val (.double (FP.l2d P0.toInt64)), .second]) rfl) ?_
  show Fin p e below s _ _ _ (s₁.setTop (mkF m 32 #[.val (.ref a1), .val (.double (FP.l2d ((0 : Int64) + P0.toInt64))), .second, .val (.ref a1), .val (.int (4 : Int32)), .val (.int (1 : Int32)), .val (.double (FP.l2d P0.toInt64)), .second] []))
  refine Fin.step (fun _ => XS.goto X0.here hx rfl (pc0 := 32) (pc' := 11) rfl (hb hby d1_32) (by decide) (by decide)) ?_
  show Fin p e below s _ _ _ (s₁.setTop (mkF m 11 #[.val (.ref a1), .val (.double (FP.l2d ((0 : Int64) + P0.toInt64))), .second, .val (.ref a1), .val (.int (4 : Int32)), .val (.int (1 : Int32)), .val (.double (FP.l2d P0.toInt64)), .second] []))
  refine Fin.step (fun _ => XS.iload X0.here hx rfl (hb hby d1_11) rfl) ?_
  show Fin p e below s _ _ _ (s₁.setTop (mkF m 13 #[.val (.ref a1), .val (.double (FP.l2d ((0 : Int64) + P0.toInt64))), .second, .val (.ref a1), .val (.int (4 : Int32)), .val (.int (1 : Int32)), .val (.double (FP.l2d P0.toInt64)), .second] [(.int (1 : Int32))]))
  refine Fin.step (fun _ => XS.iload X0.here hx rfl (hb hby d1_13) rfl) ?_
  show Fin p e below s _ _ _ (s₁.setTop (mkF m 15 #[.val (.ref a1), .val (.double (FP.l2d ((0 : Int64) + P0.toInt64))), .second, .val (.ref a1), .val (.int (4 : Int32)), .val (.int (1 : Int32)), .val (.double (FP.l2d P0.toInt64)), .second] [(.int (4 : Int32)), (.int (1 : Int32))]))
  refine Fin.step (fun _ => XS.icmpNo X0.here hx rfl (hb hby d1_15) rfl (tlt ((by decide) : ((1 : Int32) < (4 : Int32)))).2.1) ?_
  show Fin p e below s _ _ _ (s₁.setTop (mkF m 18 #[.val (.ref a1), .val (.double (FP.l2d ((0 : Int64) + P0.toInt64))), .second, .val (.ref a1), .val (.int (4 : Int32)), .val (.int (1 : Int32)), .val (.double (FP.l2d P0.toInt64)), .second] []))
  refine Fin.step (fun _ => XS.aloadN X0.here hx rfl (hb hby d1_18) rfl rfl) ?_
  show Fin p e below s _ _ _ (s₁.setTop (mkF m 19 #[.val (.ref a1), .val (.double (FP.l2d ((0 : Int64) + P0.toInt64))), .second, .val (.ref a1), .val (.int (4 : Int32)), .val (.int (1 : Int32)), .val (.double (FP.l2d P0.toInt64)), .second] [(.ref a1)]))
  refine Fin.step (fun _ => XS.iload X0.here hx rfl (hb hby d1_19) rfl) ?_
  show Fin p e below s _ _ _ (s₁.setTop (mkF m 21 #[.val (.ref a1), .val (.double (FP.l2d ((0 : Int64) + P0.toInt64))), .second, .val (.ref a1), .val (.int (4 : Int32)), .val (.int (1 : Int32)), .val (.double (FP.l2d P0.toInt64)), .second] [(.int (1 : Int32)), (.ref a1)]))
  have voy3 := HV_a1
  obtain ⟨cly3, Ary3, qay3, say3, nay3, hay3, gay3⟩ := voy3
  have iny3 := inb_of (j := (1 : Int32)) say3 ⟨by decide, by decide⟩
  refine Fin.step (X0.daload hx (j := (1 : Int32)) (v := (.double (FP.l2d P1.toInt64))) (by rw [e0]; exact Ary3.1) (State.isArrayOf_alike hZ.alike Ary3.2.1) Ary3.2.2 iny3 (hay3.at iny3 rfl) (g := (mkF m 21 #[.val (.ref a1), .val (.double (FP.l2d ((0 : Int64) + P0.toInt64))), .second, .val (.ref a1), .val (.int (4 : Int32)), .val (.int (1 : Int32)), .val (.double (FP.l2d P0.toInt64)), .second] [(.int (1 : Int32)), (.ref a1)])) rfl rfl (hb hby d1_21)) ?_
  show Fin p e below s _ _ _ (s₁.setTop (mkF m 22 #[.val (.ref a1), .val (.double (FP.l2d ((0 : Int64) + P0.toInt64))), .second, .val (.ref a1), .val (.int (4 : Int32)), .val (.int (1 : Int32)), .val (.double (FP.l2d P0.toInt64)), .second] [(.double (FP.l2d P1.toInt64))]))
  refine Fin.step (fun _ => XS.dstore X0.here hx rfl (hb hby d1_22) rfl (l' := #[.val (.ref a1), .val (.double (FP.l2d ((0 : Int64) + P0.toInt64))), .second, .val (.ref a1), .val (.int (4 : Int32)), .val (.int (1 : Int32)), .val (.double (FP.l2d P1.toInt64)), .second]) rfl) ?_
  show Fin p e below s _ _ _ (s₁.setTop (mkF m 24 #[.val (.ref a1), .val (.double (FP.l2d ((0 : Int64) + P0.toInt64))), .second, .val (.ref a1), .val (.int (4 : Int32)), .val (.int (1 : Int32)), .val (.double (FP.l2d P1.toInt64)), .second] []))
  refine Fin.step (fun _ => XS.dloadN X0.here hx rfl (hb hby d1_24) rfl) ?_
  show Fin p e below s _ _ _ (s₁.setTop (mkF m 25 #[.val (.ref a1), .val (.double (FP.l2d ((0 : Int64) + P0.toInt64))), .second, .val (.ref a1), .val (.int (4 : Int32)), .val (.int (1 : Int32)), .val (.double (FP.l2d P1.toInt64)), .second] [(.double (FP.l2d ((0 : Int64) + P0.toInt64)))]))
  refine Fin.step (fun _ => XS.dload X0.here hx rfl (hb hby d1_25) rfl) ?_
  show Fin p e below s _ _ _ (s₁.setTop (mkF m 27 #[.val (.ref a1), .val (.double (FP.l2d ((0 : Int64) + P0.toInt64))), .second, .val (.ref a1), .val (.int (4 : Int32)), .val (.int (1 : Int32)), .val (.double (FP.l2d P1.toInt64)), .second] [(.double (FP.l2d P1.toInt64)), (.double (FP.l2d ((0 : Int64) + P0.toInt64)))]))
  refine Fin.step (fun _ => XS.daddS X0.here hx rfl (hb hby d1_27) rfl (nn_w (dadd_w (a := ((0 : Int64) + P0.toInt64)) (b := P1.toInt64) (own_53 (by decide) (own_bs (by decide) own_b0 _)) (own_53 (by decide) (own_b1 _)))) (dadd_w (a := ((0 : Int64) + P0.toInt64)) (b := P1.toInt64) (own_53 (by decide) (own_bs (by decide) own_b0 _)) (own_53 (by decide) (own_b1 _)))) ?_
  show Fin p e below s _ _ _ (s₁.setTop (mkF m 28 #[.val (.ref a1), .val (.double (FP.l2d ((0 : Int64) + P0.toInt64))), .second, .val (.ref a1), .val (.int (4 : Int32)), .val (.int (1 : Int32)), .val (.double (FP.l2d P1.toInt64)), .second] [(.double (FP.l2d (((0 : Int64) + P0.toInt64) + P1.toInt64)))]))
  refine Fin.step (fun _ => XS.dstoreN X0.here hx rfl (hb hby d1_28) rfl (l' := #[.val (.ref a1), .val (.double (FP.l2d (((0 : Int64) + P0.toInt64) + P1.toInt64))), .second, .val (.ref a1), .val (.int (4 : Int32)), .val (.int (1 : Int32)), .val (.double (FP.l2d P1.toInt64)), .second]) rfl) ?_
  show Fin p e below s _ _ _ (s₁.setTop (mkF m 29 #[.val (.ref a1), .val (.double (FP.l2d (((0 : Int64) + P0.toInt64) + P1.toInt64))), .second, .val (.ref a1), .val (.int (4 : Int32)), .val (.int (1 : Int32)), .val (.double (FP.l2d P1.toInt64)), .second] []))
  refine Fin.step (fun _ => XS.iinc X0.here hx rfl (hb hby d1_29) rfl (l' := #[.val (.ref a1), .val (.double (FP.l2d (((0 : Int64) + P0.toInt64) + P1.toInt64))), .second, .val (.ref a1), .val (.int (4 : Int32)), .val (.int (2 : Int32)), .val (.double (FP.l2d P1.toInt64)), .second]) rfl) ?_
  show Fin p e below s _ _ _ (s₁.setTop (mkF m 32 #[.val (.ref a1), .val (.double (FP.l2d (((0 : Int64) + P0.toInt64) + P1.toInt64))), .second, .val (.ref a1), .val (.int (4 : Int32)), .val (.int (2 : Int32)), .val (.double (FP.l2d P1.toInt64)), .second] []))
  refine Fin.step (fun _ => XS.goto X0.here hx rfl (pc0 := 32) (pc' := 11) rfl (hb hby d1_32) (by decide) (by decide)) ?_
  show Fin p e below s _ _ _ (s₁.setTop (mkF m 11 #[.val (.ref a1), .val (.double (FP.l2d (((0 : Int64) + P0.toInt64) + P1.toInt64))), .second, .val (.ref a1), .val (.int (4 : Int32)), .val (.int (2 : Int32)), .val (.double (FP.l2d P1.toInt64)), .second] []))
  refine Fin.step (fun _ => XS.iload X0.here hx rfl (hb hby d1_11) rfl) ?_
  show Fin p e below s _ _ _ (s₁.setTop (mkF m 13 #[.val (.ref a1), .val (.double (FP.l2d (((0 : Int64) + P0.toInt64) + P1.toInt64))), .second, .val (.ref a1), .val (.int (4 : Int32)), .val (.int (2 : Int32)), .val (.double (FP.l2d P1.toInt64)), .second] [(.int (2 : Int32))]))
  refine Fin.step (fun _ => XS.iload X0.here hx rfl (hb hby d1_13) rfl) ?_
  show Fin p e below s _ _ _ (s₁.setTop (mkF m 15 #[.val (.ref a1), .val (.double (FP.l2d (((0 : Int64) + P0.toInt64) + P1.toInt64))), .second, .val (.ref a1), .val (.int (4 : Int32)), .val (.int (2 : Int32)), .val (.double (FP.l2d P1.toInt64)), .second] [(.int (4 : Int32)), (.int (2 : Int32))]))
  refine Fin.step (fun _ => XS.icmpNo X0.here hx rfl (hb hby d1_15) rfl (tlt ((by decide) : ((2 : Int32) < (4 : Int32)))).2.1) ?_
  show Fin p e below s _ _ _ (s₁.setTop (mkF m 18 #[.val (.ref a1), .val (.double (FP.l2d (((0 : Int64) + P0.toInt64) + P1.toInt64))), .second, .val (.ref a1), .val (.int (4 : Int32)), .val (.int (2 : Int32)), .val (.double (FP.l2d P1.toInt64)), .second] []))
  refine Fin.step (fun _ => XS.aloadN X0.here hx rfl (hb hby d1_18) rfl rfl) ?_
  show Fin p e below s _ _ _ (s₁.setTop (mkF m 19 #[.val (.ref a1), .val (.double (FP.l2d (((0 : Int64) + P0.toInt64) + P1.toInt64))), .second, .val (.ref a1), .val (.int (4 : Int32)), .val (.int (2 : Int32)), .val (.double (FP.l2d P1.toInt64)), .second] [(.ref a1)]))
  refine Fin.step (fun _ => XS.iload X0.here hx rfl (hb hby d1_19) rfl) ?_
  show Fin p e below s _ _ _ (s₁.setTop (mkF m 21 #[.val (.ref a1), .val (.double (FP.l2d (((0 : Int64) + P0.toInt64) + P1.toInt64))), .second, .val (.ref a1), .val (.int (4 : Int32)), .val (.int (2 : Int32)), .val (.double (FP.l2d P1.toInt64)), .second] [(.int (2 : Int32)), (.ref a1)]))
  have voy4 := HV_a1
  obtain ⟨cly4, Ary4, qay4, say4, nay4, hay4, gay4⟩ := voy4
  have iny4 := inb_of (j := (2 : Int32)) say4 ⟨by decide, by decide⟩
  refine Fin.step (X0.daload hx (j := (2 : Int32)) (v := (.double (FP.l2d P2.toInt64))) (by rw [e0]; exact Ary4.1) (State.isArrayOf_alike hZ.alike Ary4.2.1) Ary4.2.2 iny4 (hay4.at iny4 rfl) (g := (mkF m 21 #[.val (.ref a1), .val (.double (FP.l2d (((0 : Int64) + P0.toInt64) + P1.toInt64))), .second, .val (.ref a1), .val (.int (4 : Int32)), .val (.int (2 : Int32)), .val (.double (FP.l2d P1.toInt64)), .second] [(.int (2 : Int32)), (.ref a1)])) rfl rfl (hb hby d1_21)) ?_
  show Fin p e below s _ _ _ (s₁.setTop (mkF m 22 #[.val (.ref a1), .val (.double (FP.l2d (((0 : Int64) + P0.toInt64) + P1.toInt64))), .second, .val (.ref a1), .val (.int (4 : Int32)), .val (.int (2 : Int32)), .val (.double (FP.l2d P1.toInt64)), .second] [(.double (FP.l2d P2.toInt64))]))
  refine Fin.step (fun _ => XS.dstore X0.here hx rfl (hb hby d1_22) rfl (l' := #[.val (.ref a1), .val (.double (FP.l2d (((0 : Int64) + P0.toInt64) + P1.toInt64))), .second, .val (.ref a1), .val (.int (4 : Int32)), .val (.int (2 : Int32)), .val (.double (FP.l2d P2.toInt64)), .second]) rfl) ?_
  show Fin p e below s _ _ _ (s₁.setTop (mkF m 24 #[.val (.ref a1), .val (.double (FP.l2d (((0 : Int64) + P0.toInt64) + P1.toInt64))), .second, .val (.ref a1), .val (.int (4 : Int32)), .val (.int (2 : Int32)), .val (.double (FP.l2d P2.toInt64)), .second] []))
  refine Fin.step (fun _ => XS.dloadN X0.here hx rfl (hb hby d1_24) rfl) ?_
  show Fin p e below s _ _ _ (s₁.setTop (mkF m 25 #[.val (.ref a1), .val (.double (FP.l2d (((0 : Int64) + P0.toInt64) + P1.toInt64))), .second, .val (.ref a1), .val (.int (4 : Int32)), .val (.int (2 : Int32)), .val (.double (FP.l2d P2.toInt64)), .second] [(.double (FP.l2d (((0 : Int64) + P0.toInt64) + P1.toInt64)))]))
  refine Fin.step (fun _ => XS.dload X0.here hx rfl (hb hby d1_25) rfl) ?_
  show Fin p e below s _ _ _ (s₁.setTop (mkF m 27 #[.val (.ref a1), .val (.double (FP.l2d (((0 : Int64) + P0.toInt64) + P1.toInt64))), .second, .val (.ref a1), .val (.int (4 : Int32)), .val (.int (2 : Int32)), .val (.double (FP.l2d P2.toInt64)), .second] [(.double (FP.l2d P2.toInt64)), (.double (FP.l2d (((0 : Int64) + P0.toInt64) + P1.toInt64)))]))
  refine Fin.step (fun _ => XS.daddS X0.here hx rfl (hb hby d1_27) rfl (nn_w (dadd_w (a := (((0 : Int64) + P0.toInt64) + P1.toInt64)) (b := P2.toInt64) (own_53 (by decide) (own_bs (by decide) (own_bs (by decide) own_b0 _) _)) (own_53 (by decide) (own_b1 _)))) (dadd_w (a := (((0 : Int64) + P0.toInt64) + P1.toInt64)) (b := P2.toInt64) (own_53 (by decide) (own_bs (by decide) (own_bs (by decide) own_b0 _) _)) (own_53 (by decide) (own_b1 _)))) ?_
  show Fin p e below s _ _ _ (s₁.setTop (mkF m 28 #[.val (.ref a1), .val (.double (FP.l2d (((0 : Int64) + P0.toInt64) + P1.toInt64))), .second, .val (.ref a1), .val (.int (4 : Int32)), .val (.int (2 : Int32)), .val (.double (FP.l2d P2.toInt64)), .second] [(.double (FP.l2d ((((0 : Int64) + P0.toInt64) + P1.toInt64) + P2.toInt64)))]))
  refine Fin.step (fun _ => XS.dstoreN X0.here hx rfl (hb hby d1_28) rfl (l' := #[.val (.ref a1), .val (.double (FP.l2d ((((0 : Int64) + P0.toInt64) + P1.toInt64) + P2.toInt64))), .second, .val (.ref a1), .val (.int (4 : Int32)), .val (.int (2 : Int32)), .val (.double (FP.l2d P2.toInt64)), .second]) rfl) ?_
  show Fin p e below s _ _ _ (s₁.setTop (mkF m 29 #[.val (.ref a1), .val (.double (FP.l2d ((((0 : Int64) + P0.toInt64) + P1.toInt64) + P2.toInt64))), .second, .val (.ref a1), .val (.int (4 : Int32)), .val (.int (2 : Int32)), .val (.double (FP.l2d P2.toInt64)), .second] []))
  refine Fin.step (fun _ => XS.iinc X0.here hx rfl (hb hby d1_29) rfl (l' := #[.val (.ref a1), .val (.double (FP.l2d ((((0 : Int64) + P0.toInt64) + P1.toInt64) + P2.toInt64))), .second, .val (.ref a1), .val (.int (4 : Int32)), .val (.int (3 : Int32)), .val (.double (FP.l2d P2.toInt64)), .second]) rfl) ?_
  show Fin p e below s _ _ _ (s₁.setTop (mkF m 32 #[.val (.ref a1), .val (.double (FP.l2d ((((0 : Int64) + P0.toInt64) + P1.toInt64) + P2.toInt64))), .second, .val (.ref a1), .val (.int (4 : Int32)), .val (.int (3 : Int32)), .val (.double (FP.l2d P2.toInt64)), .second] []))
  refine Fin.step (fun _ => XS.goto X0.here hx rfl (pc0 := 32) (pc' := 11) rfl (hb hby d1_32) (by decide) (by decide)) ?_
  show Fin p e below s _ _ _ (s₁.setTop (mkF m 11 #[.val (.ref a1), .val (.double (FP.l2d ((((0 : Int64) + P0.toInt64) + P1.toInt64) + P2.toInt64))), .second, .val (.ref a1), .val (.int (4 : Int32)), .val (.int (3 : Int32)), .val (.double (FP.l2d P2.toInt64)), .second] []))
  refine Fin.step (fun _ => XS.iload X0.here hx rfl (hb hby d1_11) rfl) ?_
  show Fin p e below s _ _ _ (s₁.setTop (mkF m 13 #[.val (.ref a1), .val (.double (FP.l2d ((((0 : Int64) + P0.toInt64) + P1.toInt64) + P2.toInt64))), .second, .val (.ref a1), .val (.int (4 : Int32)), .val (.int (3 : Int32)), .val (.double (FP.l2d P2.toInt64)), .second] [(.int (3 : Int32))]))
  refine Fin.step (fun _ => XS.iload X0.here hx rfl (hb hby d1_13) rfl) ?_
  show Fin p e below s _ _ _ (s₁.setTop (mkF m 15 #[.val (.ref a1), .val (.double (FP.l2d ((((0 : Int64) + P0.toInt64) + P1.toInt64) + P2.toInt64))), .second, .val (.ref a1), .val (.int (4 : Int32)), .val (.int (3 : Int32)), .val (.double (FP.l2d P2.toInt64)), .second] [(.int (4 : Int32)), (.int (3 : Int32))]))
  refine Fin.step (fun _ => XS.icmpNo X0.here hx rfl (hb hby d1_15) rfl (tlt ((by decide) : ((3 : Int32) < (4 : Int32)))).2.1) ?_
  show Fin p e below s _ _ _ (s₁.setTop (mkF m 18 #[.val (.ref a1), .val (.double (FP.l2d ((((0 : Int64) + P0.toInt64) + P1.toInt64) + P2.toInt64))), .second, .val (.ref a1), .val (.int (4 : Int32)), .val (.int (3 : Int32)), .val (.double (FP.l2d P2.toInt64)), .second] []))
  refine Fin.step (fun _ => XS.aloadN X0.here hx rfl (hb hby d1_18) rfl rfl) ?_
  show Fin p e below s _ _ _ (s₁.setTop (mkF m 19 #[.val (.ref a1), .val (.double (FP.l2d ((((0 : Int64) + P0.toInt64) + P1.toInt64) + P2.toInt64))), .second, .val (.ref a1), .val (.int (4 : Int32)), .val (.int (3 : Int32)), .val (.double (FP.l2d P2.toInt64)), .second] [(.ref a1)]))
  refine Fin.step (fun _ => XS.iload X0.here hx rfl (hb hby d1_19) rfl) ?_
  show Fin p e below s _ _ _ (s₁.setTop (mkF m 21 #[.val (.ref a1), .val (.double (FP.l2d ((((0 : Int64) + P0.toInt64) + P1.toInt64) + P2.toInt64))), .second, .val (.ref a1), .val (.int (4 : Int32)), .val (.int (3 : Int32)), .val (.double (FP.l2d P2.toInt64)), .second] [(.int (3 : Int32)), (.ref a1)]))
  have voy5 := HV_a1
  obtain ⟨cly5, Ary5, qay5, say5, nay5, hay5, gay5⟩ := voy5
  have iny5 := inb_of (j := (3 : Int32)) say5 ⟨by decide, by decide⟩
  refine Fin.step (X0.daload hx (j := (3 : Int32)) (v := (.double (FP.l2d P3.toInt64))) (by rw [e0]; exact Ary5.1) (State.isArrayOf_alike hZ.alike Ary5.2.1) Ary5.2.2 iny5 (hay5.at iny5 rfl) (g := (mkF m 21 #[.val (.ref a1), .val (.double (FP.l2d ((((0 : Int64) + P0.toInt64) + P1.toInt64) + P2.toInt64))), .second, .val (.ref a1), .val (.int (4 : Int32)), .val (.int (3 : Int32)), .val (.double (FP.l2d P2.toInt64)), .second] [(.int (3 : Int32)), (.ref a1)])) rfl rfl (hb hby d1_21)) ?_
  show Fin p e below s _ _ _ (s₁.setTop (mkF m 22 #[.val (.ref a1), .val (.double (FP.l2d ((((0 : Int64) + P0.toInt64) + P1.toInt64) + P2.toInt64))), .second, .val (.ref a1), .val (.int (4 : Int32)), .val (.int (3 : Int32)), .val (.double (FP.l2d P2.toInt64)), .second] [(.double (FP.l2d P3.toInt64))]))
  refine Fin.step (fun _ => XS.dstore X0.here hx rfl (hb hby d1_22) rfl (l' := #[.val (.ref a1), .val (.double (FP.l2d ((((0 : Int64) + P0.toInt64) + P1.toInt64) + P2.toInt64))), .second, .val (.ref a1), .val (.int (4 : Int32)), .val (.int (3 : Int32)), .val (.double (FP.l2d P3.toInt64)), .second]) rfl) ?_
  show Fin p e below s _ _ _ (s₁.setTop (mkF m 24 #[.val (.ref a1), .val (.double (FP.l2d ((((0 : Int64) + P0.toInt64) + P1.toInt64) + P2.toInt64))), .second, .val (.ref a1), .val (.int (4 : Int32)), .val (.int (3 : Int32)), .val (.double (FP.l2d P3.toInt64)), .second] []))
  refine Fin.step (fun _ => XS.dloadN X0.here hx rfl (hb hby d1_24) rfl) ?_
  show Fin p e below s _ _ _ (s₁.setTop (mkF m 25 #[.val (.ref a1), .val (.double (FP.l2d ((((0 : Int64) + P0.toInt64) + P1.toInt64) + P2.toInt64))), .second, .val (.ref a1), .val (.int (4 : Int32)), .val (.int (3 : Int32)), .val (.double (FP.l2d P3.toInt64)), .second] [(.double (FP.l2d ((((0 : Int64) + P0.toInt64) + P1.toInt64) + P2.toInt64)))]))
  refine Fin.step (fun _ => XS.dload X0.here hx rfl (hb hby d1_25) rfl) ?_
  show Fin p e below s _ _ _ (s₁.setTop (mkF m 27 #[.val (.ref a1), .val (.double (FP.l2d ((((0 : Int64) + P0.toInt64) + P1.toInt64) + P2.toInt64))), .second, .val (.ref a1), .val (.int (4 : Int32)), .val (.int (3 : Int32)), .val (.double (FP.l2d P3.toInt64)), .second] [(.double (FP.l2d P3.toInt64)), (.double (FP.l2d ((((0 : Int64) + P0.toInt64) + P1.toInt64) + P2.toInt64)))]))
  refine Fin.step (fun _ => XS.daddS X0.here hx rfl (hb hby d1_27) rfl (nn_w (dadd_w (a := ((((0 : Int64) + P0.toInt64) + P1.toInt64) + P2.toInt64)) (b := P3.toInt64) (own_53 (by decide) (own_bs (by decide) (own_bs (by decide) (own_bs (by decide) own_b0 _) _) _)) (own_53 (by decide) (own_b1 _)))) (dadd_w (a := ((((0 : Int64) + P0.toInt64) + P1.toInt64) + P2.toInt64)) (b := P3.toInt64) (own_53 (by decide) (own_bs (by decide) (own_bs (by decide) (own_bs (by decide) own_b0 _) _) _)) (own_53 (by decide) (own_b1 _)))) ?_
  show Fin p e below s _ _ _ (s₁.setTop (mkF m 28 #[.val (.ref a1), .val (.double (FP.l2d ((((0 : Int64) + P0.toInt64) + P1.toInt64) + P2.toInt64))), .second, .val (.ref a1), .val (.int (4 : Int32)), .val (.int (3 : Int32)), .val (.double (FP.l2d P3.toInt64)), .second] [(.double (FP.l2d (((((0 : Int64) + P0.toInt64) + P1.toInt64) + P2.toInt64) + P3.toInt64)))]))
  refine Fin.step (fun _ => XS.dstoreN X0.here hx rfl (hb hby d1_28) rfl (l' := #[.val (.ref a1), .val (.double (FP.l2d (((((0 : Int64) + P0.toInt64) + P1.toInt64) + P2.toInt64) + P3.toInt64))), .second, .val (.ref a1), .val (.int (4 : Int32)), .val (.int (3 : Int32)), .val (.double (FP.l2d P3.toInt64)), .second]) rfl) ?_
  show Fin p e below s _ _ _ (s₁.setTop (mkF m 29 #[.val (.ref a1), .val (.double (FP.l2d (((((0 : Int64) + P0.toInt64) + P1.toInt64) + P2.toInt64) + P3.toInt64))), .second, .val (.ref a1), .val (.int (4 : Int32)), .val (.int (3 : Int32)), .val (.double (FP.l2d P3.toInt64)), .second] []))
  refine Fin.step (fun _ => XS.iinc X0.here hx rfl (hb hby d1_29) rfl (l' := #[.val (.ref a1), .val (.double (FP.l2d (((((0 : Int64) + P0.toInt64) + P1.toInt64) + P2.toInt64) + P3.toInt64))), .second, .val (.ref a1), .val (.int (4 : Int32)), .val (.int (4 : Int32)), .val (.double (FP.l2d P3.toInt64)), .second]) rfl) ?_
  show Fin p e below s _ _ _ (s₁.setTop (mkF m 32 #[.val (.ref a1), .val (.double (FP.l2d (((((0 : Int64) + P0.toInt64) + P1.toInt64) + P2.toInt64) + P3.toInt64))), .second, .val (.ref a1), .val (.int (4 : Int32)), .val (.int (4 : Int32)), .val (.double (FP.l2d P3.toInt64)), .second] []))
  refine Fin.step (fun _ => XS.goto X0.here hx rfl (pc0 := 32) (pc' := 11) rfl (hb hby d1_32) (by decide) (by decide)) ?_
  show Fin p e below s _ _ _ (s₁.setTop (mkF m 11 #[.val (.ref a1), .val (.double (FP.l2d (((((0 : Int64) + P0.toInt64) + P1.toInt64) + P2.toInt64) + P3.toInt64))), .second, .val (.ref a1), .val (.int (4 : Int32)), .val (.int (4 : Int32)), .val (.double (FP.l2d P3.toInt64)), .second] []))
  refine Fin.step (fun _ => XS.iload X0.here hx rfl (hb hby d1_11) rfl) ?_
  show Fin p e below s _ _ _ (s₁.setTop (mkF m 13 #[.val (.ref a1), .val (.double (FP.l2d (((((0 : Int64) + P0.toInt64) + P1.toInt64) + P2.toInt64) + P3.toInt64))), .second, .val (.ref a1), .val (.int (4 : Int32)), .val (.int (4 : Int32)), .val (.double (FP.l2d P3.toInt64)), .second] [(.int (4 : Int32))]))
  refine Fin.step (fun _ => XS.iload X0.here hx rfl (hb hby d1_13) rfl) ?_
  show Fin p e below s _ _ _ (s₁.setTop (mkF m 15 #[.val (.ref a1), .val (.double (FP.l2d (((((0 : Int64) + P0.toInt64) + P1.toInt64) + P2.toInt64) + P3.toInt64))), .second, .val (.ref a1), .val (.int (4 : Int32)), .val (.int (4 : Int32)), .val (.double (FP.l2d P3.toInt64)), .second] [(.int (4 : Int32)), (.int (4 : Int32))]))
  refine Fin.step (fun _ => XS.icmpYes X0.here hx rfl (pc0 := 15) (pc' := 35) rfl (hb hby d1_15) rfl (flt ((by decide) : ¬ ((4 : Int32) < (4 : Int32)))).2.1 (by decide) (by decide)) ?_
  show Fin p e below s _ _ _ (s₁.setTop (mkF m 35 #[.val (.ref a1), .val (.double (FP.l2d (((((0 : Int64) + P0.toInt64) + P1.toInt64) + P2.toInt64) + P3.toInt64))), .second, .val (.ref a1), .val (.int (4 : Int32)), .val (.int (4 : Int32)), .val (.double (FP.l2d P3.toInt64)), .second] []))
  refine Fin.step (fun _ => XS.aloadN X0.here hx rfl (hb hby d1_35) rfl rfl) ?_
  show Fin p e below s _ _ _ (s₁.setTop (mkF m 36 #[.val (.ref a1), .val (.double (FP.l2d (((((0 : Int64) + P0.toInt64) + P1.toInt64) + P2.toInt64) + P3.toInt64))), .second, .val (.ref a1), .val (.int (4 : Int32)), .val (.int (4 : Int32)), .val (.double (FP.l2d P3.toInt64)), .second] [(.ref a1)]))
  have voy6 := HV_a1
  obtain ⟨cly6, Ary6, qay6, say6, nay6, hay6, gay6⟩ := voy6
  refine Fin.step (X0.arraylength hx (by rw [e0]; exact Ary6.1) (State.isArrayOf_alike hZ.alike Ary6.2.1) (g := (mkF m 36 #[.val (.ref a1), .val (.double (FP.l2d (((((0 : Int64) + P0.toInt64) + P1.toInt64) + P2.toInt64) + P3.toInt64))), .second, .val (.ref a1), .val (.int (4 : Int32)), .val (.int (4 : Int32)), .val (.double (FP.l2d P3.toInt64)), .second] [(.ref a1)])) rfl rfl (hb hby d1_36)) ?_
  rw [len_of say6 nay6]
  show Fin p e below s _ _ _ (s₁.setTop (mkF m 37 #[.val (.ref a1), .val (.double (FP.l2d (((((0 : Int64) + P0.toInt64) + P1.toInt64) + P2.toInt64) + P3.toInt64))), .second, .val (.ref a1), .val (.int (4 : Int32)), .val (.int (4 : Int32)), .val (.double (FP.l2d P3.toInt64)), .second] [(.int (4 : Int32))]))
  refine Fin.step (fun _ => XS.ifYes X0.here hx rfl (pc0 := 37) (pc' := 44) rfl (hb hby d1_37) rfl ((if0 _ _).trans (feq ((by decide) : ¬ ((4 : Int32) = (0 : Int32)))).2) (by decide) (by decide)) ?_
  show Fin p e below s _ _ _ (s₁.setTop (mkF m 44 #[.val (.ref a1), .val (.double (FP.l2d (((((0 : Int64) + P0.toInt64) + P1.toInt64) + P2.toInt64) + P3.toInt64))), .second, .val (.ref a1), .val (.int (4 : Int32)), .val (.int (4 : Int32)), .val (.double (FP.l2d P3.toInt64)), .second] []))
  refine Fin.step (fun _ => XS.dloadN X0.here hx rfl (hb hby d1_44) rfl) ?_
  show Fin p e below s _ _ _ (s₁.setTop (mkF m 45 #[.val (.ref a1), .val (.double (FP.l2d (((((0 : Int64) + P0.toInt64) + P1.toInt64) + P2.toInt64) + P3.toInt64))), .second, .val (.ref a1), .val (.int (4 : Int32)), .val (.int (4 : Int32)), .val (.double (FP.l2d P3.toInt64)), .second] [(.double (FP.l2d (((((0 : Int64) + P0.toInt64) + P1.toInt64) + P2.toInt64) + P3.toInt64)))]))
  refine Fin.step (fun _ => XS.aloadN X0.here hx rfl (hb hby d1_45) rfl rfl) ?_
  show Fin p e below s _ _ _ (s₁.setTop (mkF m 46 #[.val (.ref a1), .val (.double (FP.l2d (((((0 : Int64) + P0.toInt64) + P1.toInt64) + P2.toInt64) + P3.toInt64))), .second, .val (.ref a1), .val (.int (4 : Int32)), .val (.int (4 : Int32)), .val (.double (FP.l2d P3.toInt64)), .second] [(.ref a1), (.double (FP.l2d (((((0 : Int64) + P0.toInt64) + P1.toInt64) + P2.toInt64) + P3.toInt64)))]))
  have voy7 := HV_a1
  obtain ⟨cly7, Ary7, qay7, say7, nay7, hay7, gay7⟩ := voy7
  refine Fin.step (X0.arraylength hx (by rw [e0]; exact Ary7.1) (State.isArrayOf_alike hZ.alike Ary7.2.1) (g := (mkF m 46 #[.val (.ref a1), .val (.double (FP.l2d (((((0 : Int64) + P0.toInt64) + P1.toInt64) + P2.toInt64) + P3.toInt64))), .second, .val (.ref a1), .val (.int (4 : Int32)), .val (.int (4 : Int32)), .val (.double (FP.l2d P3.toInt64)), .second] [(.ref a1), (.double (FP.l2d (((((0 : Int64) + P0.toInt64) + P1.toInt64) + P2.toInt64) + P3.toInt64)))])) rfl rfl (hb hby d1_46)) ?_
  rw [len_of say7 nay7]
  show Fin p e below s _ _ _ (s₁.setTop (mkF m 47 #[.val (.ref a1), .val (.double (FP.l2d (((((0 : Int64) + P0.toInt64) + P1.toInt64) + P2.toInt64) + P3.toInt64))), .second, .val (.ref a1), .val (.int (4 : Int32)), .val (.int (4 : Int32)), .val (.double (FP.l2d P3.toInt64)), .second] [(.int (4 : Int32)), (.double (FP.l2d (((((0 : Int64) + P0.toInt64) + P1.toInt64) + P2.toInt64) + P3.toInt64)))]))
  refine Fin.step (fun _ => XS.i2dS X0.here hx rfl (hb hby d1_47) rfl (i2d_w (4 : Int32))) ?_
  show Fin p e below s _ _ _ (s₁.setTop (mkF m 48 #[.val (.ref a1), .val (.double (FP.l2d (((((0 : Int64) + P0.toInt64) + P1.toInt64) + P2.toInt64) + P3.toInt64))), .second, .val (.ref a1), .val (.int (4 : Int32)), .val (.int (4 : Int32)), .val (.double (FP.l2d P3.toInt64)), .second] [(.double (FP.l2d (4 : Int32).toInt64)), (.double (FP.l2d (((((0 : Int64) + P0.toInt64) + P1.toInt64) + P2.toInt64) + P3.toInt64)))]))
  refine Fin.step (fun _ => XS.ddivS X0.here hx rfl (hb hby d1_48) rfl (own_div _ _ (by unfold Jvm.Free.Fl.Nz64; decide +kernel)) rfl) ?_
  show Fin p e below s _ _ _ (s₁.setTop (mkF m 49 #[.val (.ref a1), .val (.double (FP.l2d (((((0 : Int64) + P0.toInt64) + P1.toInt64) + P2.toInt64) + P3.toInt64))), .second, .val (.ref a1), .val (.int (4 : Int32)), .val (.int (4 : Int32)), .val (.double (FP.l2d P3.toInt64)), .second] [(.double (FP.ddiv (FP.l2d (((((0 : Int64) + P0.toInt64) + P1.toInt64) + P2.toInt64) + P3.toInt64)) (FP.l2d (4 : Int32).toInt64)))]))
  refine Fin.retD X0 hx hret hlk (hb hby d1_49) (by decide) (by decide) ?_
  show Qm4 Z a1 k1 P0 P1 P2 P3 h0 n0 _ s₁.heap _
  rw [e0]
  exact ⟨rfl, N0, rfl⟩
theorem pn_0 : plainName "com/example/indexterity/indexterity/comparison/PairedTestsMeanPinLaw" = true := by first | (simp [plainName, overriddenIn]; done) | decide +kernel
theorem pd_0 : parseMethodDescriptor "([D)D" = some ⟨[(.array .double)], some .double⟩ := by decide +kernel
theorem ef_rm0 (m : MethodId) (x0 : Int32) (x1 : Int32) (x2 : Int32) (x3 : Int32) (x4 : Int32) : entryFrame m #[(.int x0), (.int x1), (.int x2), (.int x3), (.int x4)] maxLocals = mkF m 0 #[.val (.int x0), .val (.int x1), .val (.int x2), .val (.int x3), .val (.int x4), .unset, .unset, .unset, .unset, .unset, .unset, .unset, .unset] [] := by first | (simp [entryFrame, mkF, argsToLocals, Value.category, maxLocals]; done) | rfl
def Q0 (Z : State) (pa : Int32) (pb : Int32) (pc : Int32) (pd : Int32) (pk : Int32) (h0 : Heap) (n0 : Nat) (v : Option Value) (h : Heap) (L : List Loc) : Prop := v = some (.int (1 : Int32)) ∧ Fr n0 L ∧ Keep h0 h []
set_option maxRecDepth 65536 in
set_option maxHeartbeats 40000000 in
theorem rm0 (l : Launch) (Z : State) (a0 : Array Value) (hw : ∀ d ∈ tables_1, d.before a0 Z = true) (ws : List Jvm.Cond) (pa : Int32) (pb : Int32) (pc : Int32) (pd : Int32) (pk : Int32) (h0 : Heap) (n0 : Nat) (Z0 : n0 ≤ h0.size) :
    MetFree l x (head1 (Jvm.Cond.code x code maxLocals ret :: ws) room_1) (fun a U => a = #[(.int pa), (.int pb), (.int pc), (.int pd), (.int pk)] ∧ Z.Warmed39 U.vm ∧ U.heap = h0) (fun _ _ _ _ _ => True) (fun _ U o U' => ∃ v L, o = .returned v ∧ Q0 Z pa pb pc pd pk h0 n0 v U'.heap L ∧ FrameEnd U o U' L room_1.cells room_1.slots) := by
  refine MetFree.of_bodySF (plainFor_of_name pn_0) hisR ?_
  intro p e s m args below meth c s₁ Bd hml0 hP hK
  obtain ⟨rfl, hZ, hh⟩ := hP
  have hx := Bd.exec
  have hby := Bd.bytes
  have hlk := BodyLoose.notSynchronized Bd
  have hret := Bd.returns
  have hml : c.maxLocals = 13 := hml0
  have hown : s.vm.findClass "com/example/indexterity/indexterity/comparison/PairedTestsMeanPinLaw" = some m.cls := findClass_of_methodNamed Bd.named
  have hnm := (name_of_methodNamed Bd.named Bd.method).1
  have X0 : Stand p l e room_1 s m #[(.int pa), (.int pb), (.int pc), (.int pd), (.int pk)] below meth c s₁ [] 0 0 := Stand.of_body Bd
  have e0 : s₁.heap = h0 := by rw [← hh, Bd.state]; rfl
  have N0 := Fr.nil n0
  have K0 : Keep h0 h0 [] := Keep.refl h0 _
  refine Fin.step (Q := fun v h L => Q0 Z pa pb pc pd pk h0 n0 v h L) (st' := s₁.setTop (mkF m 0 #[.val (.int pa), .val (.int pb), .val (.int pc), .val (.int pd), .val (.int pk), .unset, .unset, .unset, .unset, .unset, .unset, .unset, .unset] [])) (fun t k => castTop (ef_rm0 m pa pb pc pd pk) k) ?_
  show Fin p e below s _ _ _ (s₁.setTop (mkF m 0 #[.val (.int pa), .val (.int pb), .val (.int pc), .val (.int pd), .val (.int pk), .unset, .unset, .unset, .unset, .unset, .unset, .unset, .unset] []))
  refine Fin.step (fun _ => XS.iload X0.here hx rfl (hb hby at_0) rfl) ?_
  show Fin p e below s _ _ _ (s₁.setTop (mkF m 2 #[.val (.int pa), .val (.int pb), .val (.int pc), .val (.int pd), .val (.int pk), .unset, .unset, .unset, .unset, .unset, .unset, .unset, .unset] [(.int pk)]))
  refine Fin.step (X0.ldcInt hx hown (mvT hZ (hw _ (List.mem_of_getElem? (i := 0) rfl))) (g := (mkF m 2 #[.val (.int pa), .val (.int pb), .val (.int pc), .val (.int pd), .val (.int pk), .unset, .unset, .unset, .unset, .unset, .unset, .unset, .unset] [(.int pk)])) rfl (hb hby at_2)) ?_
  show Fin p e below s _ _ _ (s₁.setTop (mkF m 4 #[.val (.int pa), .val (.int pb), .val (.int pc), .val (.int pd), .val (.int pk), .unset, .unset, .unset, .unset, .unset, .unset, .unset, .unset] [(.int (2147483647 : Int32)), (.int pk)]))
  refine Fin.step (fun _ => XS.iand X0.here hx rfl (hb hby at_4) rfl) ?_
  show Fin p e below s _ _ _ (s₁.setTop (mkF m 5 #[.val (.int pa), .val (.int pb), .val (.int pc), .val (.int pd), .val (.int pk), .unset, .unset, .unset, .unset, .unset, .unset, .unset, .unset] [(.int (pk &&& (2147483647 : Int32)))]))
  refine Fin.step (fun _ => XS.iconst X0.here hx rfl (hb hby at_5)) ?_
  show Fin p e below s _ _ _ (s₁.setTop (mkF m 6 #[.val (.int pa), .val (.int pb), .val (.int pc), .val (.int pd), .val (.int pk), .unset, .unset, .unset, .unset, .unset, .unset, .unset, .unset] [(.int (5 : Int32)), (.int (pk &&& (2147483647 : Int32)))]))
  refine Fin.step (fun _ => iremM X0 hx (g := (mkF m 6 #[.val (.int pa), .val (.int pb), .val (.int pc), .val (.int pd), .val (.int pk), .unset, .unset, .unset, .unset, .unset, .unset, .unset, .unset] [(.int (5 : Int32)), (.int (pk &&& (2147483647 : Int32)))])) rfl (hb hby at_6) rfl (by decide)) ?_
  show Fin p e below s _ _ _ (s₁.setTop (mkF m 7 #[.val (.int pa), .val (.int pb), .val (.int pc), .val (.int pd), .val (.int pk), .unset, .unset, .unset, .unset, .unset, .unset, .unset, .unset] [(.int ((pk &&& (2147483647 : Int32)) % (5 : Int32)))]))
  refine Fin.step (fun _ => XS.istore X0.here hx rfl (hb hby at_7) rfl (l' := #[.val (.int pa), .val (.int pb), .val (.int pc), .val (.int pd), .val (.int pk), .val (.int ((pk &&& (2147483647 : Int32)) % (5 : Int32))), .unset, .unset, .unset, .unset, .unset, .unset, .unset]) rfl) ?_
  show Fin p e below s _ _ _ (s₁.setTop (mkF m 9 #[.val (.int pa), .val (.int pb), .val (.int pc), .val (.int pd), .val (.int pk), .val (.int ((pk &&& (2147483647 : Int32)) % (5 : Int32))), .unset, .unset, .unset, .unset, .unset, .unset, .unset] []))
  rcases own_n5 pk with qn | qn | qn | qn | qn
  · rw [qn]
    show Fin p e below s _ _ _ (s₁.setTop (mkF m 9 #[.val (.int pa), .val (.int pb), .val (.int pc), .val (.int pd), .val (.int pk), .val (.int (0 : Int32)), .unset, .unset, .unset, .unset, .unset, .unset, .unset] []))
    refine Fin.step (fun _ => XS.iload X0.here hx rfl (hb hby at_9) rfl) ?_
    show Fin p e below s _ _ _ (s₁.setTop (mkF m 11 #[.val (.int pa), .val (.int pb), .val (.int pc), .val (.int pd), .val (.int pk), .val (.int (0 : Int32)), .unset, .unset, .unset, .unset, .unset, .unset, .unset] [(.int (0 : Int32))]))
    obtain ⟨Ty1, hy1, ky1, Xy1, ey1, Ey1, Ay1, sty1⟩ := newP X0 hx hZ (hw _ (List.mem_of_getElem? (i := 1) rfl)) e0 (g := (mkF m 11 #[.val (.int pa), .val (.int pb), .val (.int pc), .val (.int pd), .val (.int pk), .val (.int (0 : Int32)), .unset, .unset, .unset, .unset, .unset, .unset, .unset] [(.int (0 : Int32))])) rfl (hb hby at_11) rfl (by decide) (cap := 0) (by decide) (by decide) (by decide) (by decide)
    obtain ⟨by1, gy1⟩ : ∃ z, z = h0.size := ⟨_, rfl⟩
    rw [← gy1] at Ay1 sty1
    have gzy1 : n0 ≤ by1 := Nat.le_trans Z0 (Nat.le_of_eq gy1.symm)
    have szy1 : h0.size ≤ by1 := Nat.le_trans K0.1 (Nat.le_of_eq gy1.symm)
    have Zy1 : n0 ≤ hy1.size := Nat.le_trans Z0 Ey1.1
    have Ky1 : Keep h0 hy1 [] := K0.ext Ey1
    have Vy1 : Arv Z hy1 by1 ky1 .double (0 : Int32) [] (.double (FP.l2d (0 : Int64))) := (Arv.newD Ay1 (by decide)).pad (pad_rep [] (.double (FP.l2d (0 : Int64))) 0)
    refine Fin.step (sty1) ?_
    show Fin p e below s _ _ _ (Ty1.setTop (mkF m 13 #[.val (.int pa), .val (.int pb), .val (.int pc), .val (.int pd), .val (.int pk), .val (.int (0 : Int32)), .unset, .unset, .unset, .unset, .unset, .unset, .unset] [(.ref by1)]))
    refine Fin.step (fun _ => XS.astore Xy1.here hx rfl (hb hby at_13) rfl rfl (l' := #[.val (.int pa), .val (.int pb), .val (.int pc), .val (.int pd), .val (.int pk), .val (.int (0 : Int32)), .val (.ref by1), .unset, .unset, .unset, .unset, .unset, .unset]) rfl) ?_
    show Fin p e below s _ _ _ (Ty1.setTop (mkF m 15 #[.val (.int pa), .val (.int pb), .val (.int pc), .val (.int pd), .val (.int pk), .val (.int (0 : Int32)), .val (.ref by1), .unset, .unset, .unset, .unset, .unset, .unset] []))
    refine Fin.step (fun _ => XS.lconst Xy1.here hx rfl (hb hby at_15)) ?_
    show Fin p e below s _ _ _ (Ty1.setTop (mkF m 16 #[.val (.int pa), .val (.int pb), .val (.int pc), .val (.int pd), .val (.int pk), .val (.int (0 : Int32)), .val (.ref by1), .unset, .unset, .unset, .unset, .unset, .unset] [(.long (0 : Int64))]))
    refine Fin.step (fun _ => XS.lstore Xy1.here hx rfl (hb hby at_16) rfl (l' := #[.val (.int pa), .val (.int pb), .val (.int pc), .val (.int pd), .val (.int pk), .val (.int (0 : Int32)), .val (.ref by1), .val (.long (0 : Int64)), .second, .unset, .unset, .unset, .unset]) rfl) ?_
    show Fin p e below s _ _ _ (Ty1.setTop (mkF m 18 #[.val (.int pa), .val (.int pb), .val (.int pc), .val (.int pd), .val (.int pk), .val (.int (0 : Int32)), .val (.ref by1), .val (.long (0 : Int64)), .second, .unset, .unset, .unset, .unset] []))
    refine Fin.step (fun _ => XS.iload Xy1.here hx rfl (hb hby at_18) rfl) ?_
    show Fin p e below s _ _ _ (Ty1.setTop (mkF m 20 #[.val (.int pa), .val (.int pb), .val (.int pc), .val (.int pd), .val (.int pk), .val (.int (0 : Int32)), .val (.ref by1), .val (.long (0 : Int64)), .second, .unset, .unset, .unset, .unset] [(.int (0 : Int32))]))
    refine Fin.step (fun _ => XS.ifYes Xy1.here hx rfl (pc0 := 20) (pc' := 36) rfl (hb hby at_20) rfl ((if0 _ _).trans (flt ((by decide) : ¬ ((0 : Int32) < (0 : Int32)))).2.2.2) (by decide) (by decide)) ?_
    show Fin p e below s _ _ _ (Ty1.setTop (mkF m 36 #[.val (.int pa), .val (.int pb), .val (.int pc), .val (.int pd), .val (.int pk), .val (.int (0 : Int32)), .val (.ref by1), .val (.long (0 : Int64)), .second, .unset, .unset, .unset, .unset] []))
    refine Fin.step (fun _ => XS.iload Xy1.here hx rfl (hb hby at_36) rfl) ?_
    show Fin p e below s _ _ _ (Ty1.setTop (mkF m 38 #[.val (.int pa), .val (.int pb), .val (.int pc), .val (.int pd), .val (.int pk), .val (.int (0 : Int32)), .val (.ref by1), .val (.long (0 : Int64)), .second, .unset, .unset, .unset, .unset] [(.int (0 : Int32))]))
    refine Fin.step (fun _ => XS.iconst Xy1.here hx rfl (hb hby at_38)) ?_
    show Fin p e below s _ _ _ (Ty1.setTop (mkF m 39 #[.val (.int pa), .val (.int pb), .val (.int pc), .val (.int pd), .val (.int pk), .val (.int (0 : Int32)), .val (.ref by1), .val (.long (0 : Int64)), .second, .unset, .unset, .unset, .unset] [(.int (1 : Int32)), (.int (0 : Int32))]))
    refine Fin.step (fun _ => XS.icmpYes Xy1.here hx rfl (pc0 := 39) (pc' := 55) rfl (hb hby at_39) rfl (flt ((by decide) : ¬ ((1 : Int32) < (0 : Int32)))).2.2.2 (by decide) (by decide)) ?_
    show Fin p e below s _ _ _ (Ty1.setTop (mkF m 55 #[.val (.int pa), .val (.int pb), .val (.int pc), .val (.int pd), .val (.int pk), .val (.int (0 : Int32)), .val (.ref by1), .val (.long (0 : Int64)), .second, .unset, .unset, .unset, .unset] []))
    refine Fin.step (fun _ => XS.iload Xy1.here hx rfl (hb hby at_55) rfl) ?_
    show Fin p e below s _ _ _ (Ty1.setTop (mkF m 57 #[.val (.int pa), .val (.int pb), .val (.int pc), .val (.int pd), .val (.int pk), .val (.int (0 : Int32)), .val (.ref by1), .val (.long (0 : Int64)), .second, .unset, .unset, .unset, .unset] [(.int (0 : Int32))]))
    refine Fin.step (fun _ => XS.iconst Xy1.here hx rfl (hb hby at_57)) ?_
    show Fin p e below s _ _ _ (Ty1.setTop (mkF m 58 #[.val (.int pa), .val (.int pb), .val (.int pc), .val (.int pd), .val (.int pk), .val (.int (0 : Int32)), .val (.ref by1), .val (.long (0 : Int64)), .second, .unset, .unset, .unset, .unset] [(.int (2 : Int32)), (.int (0 : Int32))]))
    refine Fin.step (fun _ => XS.icmpYes Xy1.here hx rfl (pc0 := 58) (pc' := 74) rfl (hb hby at_58) rfl (flt ((by decide) : ¬ ((2 : Int32) < (0 : Int32)))).2.2.2 (by decide) (by decide)) ?_
    show Fin p e below s _ _ _ (Ty1.setTop (mkF m 74 #[.val (.int pa), .val (.int pb), .val (.int pc), .val (.int pd), .val (.int pk), .val (.int (0 : Int32)), .val (.ref by1), .val (.long (0 : Int64)), .second, .unset, .unset, .unset, .unset] []))
    refine Fin.step (fun _ => XS.iload Xy1.here hx rfl (hb hby at_74) rfl) ?_
    show Fin p e below s _ _ _ (Ty1.setTop (mkF m 76 #[.val (.int pa), .val (.int pb), .val (.int pc), .val (.int pd), .val (.int pk), .val (.int (0 : Int32)), .val (.ref by1), .val (.long (0 : Int64)), .second, .unset, .unset, .unset, .unset] [(.int (0 : Int32))]))
    refine Fin.step (fun _ => XS.iconst Xy1.here hx rfl (hb hby at_76)) ?_
    show Fin p e below s _ _ _ (Ty1.setTop (mkF m 77 #[.val (.int pa), .val (.int pb), .val (.int pc), .val (.int pd), .val (.int pk), .val (.int (0 : Int32)), .val (.ref by1), .val (.long (0 : Int64)), .second, .unset, .unset, .unset, .unset] [(.int (3 : Int32)), (.int (0 : Int32))]))
    refine Fin.step (fun _ => XS.icmpYes Xy1.here hx rfl (pc0 := 77) (pc' := 93) rfl (hb hby at_77) rfl (flt ((by decide) : ¬ ((3 : Int32) < (0 : Int32)))).2.2.2 (by decide) (by decide)) ?_
    show Fin p e below s _ _ _ (Ty1.setTop (mkF m 93 #[.val (.int pa), .val (.int pb), .val (.int pc), .val (.int pd), .val (.int pk), .val (.int (0 : Int32)), .val (.ref by1), .val (.long (0 : Int64)), .second, .unset, .unset, .unset, .unset] []))
    refine Fin.step (fun _ => XS.iload Xy1.here hx rfl (hb hby at_93) rfl) ?_
    show Fin p e below s _ _ _ (Ty1.setTop (mkF m 95 #[.val (.int pa), .val (.int pb), .val (.int pc), .val (.int pd), .val (.int pk), .val (.int (0 : Int32)), .val (.ref by1), .val (.long (0 : Int64)), .second, .unset, .unset, .unset, .unset] [(.int (0 : Int32))]))
    refine Fin.step (fun _ => XS.ifNo Xy1.here hx rfl (hb hby at_95) rfl ((if0 _ _).trans (teq ((by decide) : ((0 : Int32) = (0 : Int32)))).2)) ?_
    show Fin p e below s _ _ _ (Ty1.setTop (mkF m 98 #[.val (.int pa), .val (.int pb), .val (.int pc), .val (.int pd), .val (.int pk), .val (.int (0 : Int32)), .val (.ref by1), .val (.long (0 : Int64)), .second, .unset, .unset, .unset, .unset] []))
    refine Fin.step (fun _ => XS.dconst0 Xy1.here hx rfl (hb hby at_98) (show FP.dconst0 = FP.l2d (0 : Int64) by decide +kernel)) ?_
    show Fin p e below s _ _ _ (Ty1.setTop (mkF m 99 #[.val (.int pa), .val (.int pb), .val (.int pc), .val (.int pd), .val (.int pk), .val (.int (0 : Int32)), .val (.ref by1), .val (.long (0 : Int64)), .second, .unset, .unset, .unset, .unset] [(.double (FP.l2d (0 : Int64)))]))
    refine Fin.step (fun _ => XS.goto Xy1.here hx rfl (pc0 := 99) (pc' := 109) rfl (hb hby at_99) (by decide) (by decide)) ?_
    show Fin p e below s _ _ _ (Ty1.setTop (mkF m 109 #[.val (.int pa), .val (.int pb), .val (.int pc), .val (.int pd), .val (.int pk), .val (.int (0 : Int32)), .val (.ref by1), .val (.long (0 : Int64)), .second, .unset, .unset, .unset, .unset] [(.double (FP.l2d (0 : Int64)))]))
    refine Fin.step (fun _ => XS.dstore Xy1.here hx rfl (hb hby at_109) rfl (l' := #[.val (.int pa), .val (.int pb), .val (.int pc), .val (.int pd), .val (.int pk), .val (.int (0 : Int32)), .val (.ref by1), .val (.long (0 : Int64)), .second, .val (.double (FP.l2d (0 : Int64))), .second, .unset, .unset]) rfl) ?_
    show Fin p e below s _ _ _ (Ty1.setTop (mkF m 111 #[.val (.int pa), .val (.int pb), .val (.int pc), .val (.int pd), .val (.int pk), .val (.int (0 : Int32)), .val (.ref by1), .val (.long (0 : Int64)), .second, .val (.double (FP.l2d (0 : Int64))), .second, .unset, .unset] []))
    refine Fin.step (fun _ => XS.aload Xy1.here hx rfl (hb hby at_111) rfl rfl) ?_
    show Fin p e below s _ _ _ (Ty1.setTop (mkF m 113 #[.val (.int pa), .val (.int pb), .val (.int pc), .val (.int pd), .val (.int pk), .val (.int (0 : Int32)), .val (.ref by1), .val (.long (0 : Int64)), .second, .val (.double (FP.l2d (0 : Int64))), .second, .unset, .unset] [(.ref by1)]))
    obtain ⟨_, _, ⟨Ty2, Ly2, ky2, ny2⟩, -, Xy2, ⟨Lcy2, hQy2, ly2, yy2, zy2⟩, sty2⟩ := Jvm.LawKit.callS Xy1 hx (y := (⟨"com/example/indexterity/indexterity/comparison/PairedTests", "mean", "([D)D"⟩ : MethodName)) hown (mvT hZ (hw _ (List.mem_of_getElem? (i := 2) rfl))) (mvT hZ (hw _ (List.mem_of_getElem? (i := 3) rfl))) (mvT hZ (hw _ (List.mem_of_getElem? (i := 4) rfl))) (mvT hZ (hw _ (List.mem_of_getElem? (i := 5) rfl))) (by decide) (backOf (W := 0) (rmm0 l Z a0 hw [] by1 ky1 hy1 n0 Zy1 Vy1) hZ (hw _ (List.mem_of_getElem? (i := 5) rfl)) (hw _ (List.mem_of_getElem? (i := 4) rfl)) (by decide) (by decide)) (g := (mkF m 113 #[.val (.int pa), .val (.int pb), .val (.int pc), .val (.int pd), .val (.int pk), .val (.int (0 : Int32)), .val (.ref by1), .val (.long (0 : Int64)), .second, .val (.double (FP.l2d (0 : Int64))), .second, .unset, .unset] [(.ref by1)])) rfl (by rw [hml]; rfl) (argsL := [(.ref by1)]) (rest := []) (lenOf pd_0 rfl) rfl (by show 2 * 0 + _ ≤ _; exact Nat.le_of_eq rfl) (hb hby at_113) (fun _ _ => ⟨rfl, ey1, (by decide : 1 + 0 ≤ _), (by decide : 0 + 0 ≤ _)⟩)
    dsimp only [Pt.U, Pt.locs, Pt.cells, Pt.slots] at Xy2 ly2 yy2 zy2 sty2 hQy2
    subst ly2 yy2 zy2
    obtain ⟨rfl, Nqy2, eqy2⟩ := hQy2
    have Ny2 := Fr.app N0 Nqy2
    refine Fin.step (sty2) ?_
    show Fin p e below s _ _ _ (Ty2.setTop (mkF m 116 #[.val (.int pa), .val (.int pb), .val (.int pc), .val (.int pd), .val (.int pk), .val (.int (0 : Int32)), .val (.ref by1), .val (.long (0 : Int64)), .second, .val (.double (FP.l2d (0 : Int64))), .second, .unset, .unset] [(.double (FP.l2d (0 : Int64)))]))
    refine Fin.step (fun _ => XS.dstore Xy2.here hx rfl (hb hby at_116) rfl (l' := #[.val (.int pa), .val (.int pb), .val (.int pc), .val (.int pd), .val (.int pk), .val (.int (0 : Int32)), .val (.ref by1), .val (.long (0 : Int64)), .second, .val (.double (FP.l2d (0 : Int64))), .second, .val (.double (FP.l2d (0 : Int64))), .second]) rfl) ?_
    show Fin p e below s _ _ _ (Ty2.setTop (mkF m 118 #[.val (.int pa), .val (.int pb), .val (.int pc), .val (.int pd), .val (.int pk), .val (.int (0 : Int32)), .val (.ref by1), .val (.long (0 : Int64)), .second, .val (.double (FP.l2d (0 : Int64))), .second, .val (.double (FP.l2d (0 : Int64))), .second] []))
    refine Fin.step (fun _ => XS.dload Xy2.here hx rfl (hb hby at_118) rfl) ?_
    show Fin p e below s _ _ _ (Ty2.setTop (mkF m 120 #[.val (.int pa), .val (.int pb), .val (.int pc), .val (.int pd), .val (.int pk), .val (.int (0 : Int32)), .val (.ref by1), .val (.long (0 : Int64)), .second, .val (.double (FP.l2d (0 : Int64))), .second, .val (.double (FP.l2d (0 : Int64))), .second] [(.double (FP.l2d (0 : Int64)))]))
    refine Fin.step (fun _ => XS.dload Xy2.here hx rfl (hb hby at_120) rfl) ?_
    show Fin p e below s _ _ _ (Ty2.setTop (mkF m 122 #[.val (.int pa), .val (.int pb), .val (.int pc), .val (.int pd), .val (.int pk), .val (.int (0 : Int32)), .val (.ref by1), .val (.long (0 : Int64)), .second, .val (.double (FP.l2d (0 : Int64))), .second, .val (.double (FP.l2d (0 : Int64))), .second] [(.double (FP.l2d (0 : Int64))), (.double (FP.l2d (0 : Int64)))]))
    refine Fin.step (fun _ => XS.dcmpS Xy2.here hx rfl (hb hby at_122) rfl (dcmpV_self (own_nn _) .l)) ?_
    show Fin p e below s _ _ _ (Ty2.setTop (mkF m 123 #[.val (.int pa), .val (.int pb), .val (.int pc), .val (.int pd), .val (.int pk), .val (.int (0 : Int32)), .val (.ref by1), .val (.long (0 : Int64)), .second, .val (.double (FP.l2d (0 : Int64))), .second, .val (.double (FP.l2d (0 : Int64))), .second] [(.int (0 : Int32))]))
    refine Fin.step (fun _ => XS.ifNo Xy2.here hx rfl (hb hby at_123) rfl ((if0 _ _).trans (teq ((by decide) : ((0 : Int32) = (0 : Int32)))).2)) ?_
    show Fin p e below s _ _ _ (Ty2.setTop (mkF m 126 #[.val (.int pa), .val (.int pb), .val (.int pc), .val (.int pd), .val (.int pk), .val (.int (0 : Int32)), .val (.ref by1), .val (.long (0 : Int64)), .second, .val (.double (FP.l2d (0 : Int64))), .second, .val (.double (FP.l2d (0 : Int64))), .second] []))
    refine Fin.step (fun _ => XS.iconst Xy2.here hx rfl (hb hby at_126)) ?_
    show Fin p e below s _ _ _ (Ty2.setTop (mkF m 127 #[.val (.int pa), .val (.int pb), .val (.int pc), .val (.int pd), .val (.int pk), .val (.int (0 : Int32)), .val (.ref by1), .val (.long (0 : Int64)), .second, .val (.double (FP.l2d (0 : Int64))), .second, .val (.double (FP.l2d (0 : Int64))), .second] [(.int (1 : Int32))]))
    refine Fin.step (fun _ => XS.goto Xy2.here hx rfl (pc0 := 127) (pc' := 131) rfl (hb hby at_127) (by decide) (by decide)) ?_
    show Fin p e below s _ _ _ (Ty2.setTop (mkF m 131 #[.val (.int pa), .val (.int pb), .val (.int pc), .val (.int pd), .val (.int pk), .val (.int (0 : Int32)), .val (.ref by1), .val (.long (0 : Int64)), .second, .val (.double (FP.l2d (0 : Int64))), .second, .val (.double (FP.l2d (0 : Int64))), .second] [(.int (1 : Int32))]))
    refine Fin.retN Xy2 hx (t := .boolean) hret (by simp) hlk (hb hby at_131) (by decide) (by decide) ?_
    show Q0 Z pa pb pc pd pk h0 n0 _ Ty2.heap _
    rw [eqy2]
    exact ⟨rfl, Ny2, Ky1⟩
  · rw [qn]
    show Fin p e below s _ _ _ (s₁.setTop (mkF m 9 #[.val (.int pa), .val (.int pb), .val (.int pc), .val (.int pd), .val (.int pk), .val (.int (1 : Int32)), .unset, .unset, .unset, .unset, .unset, .unset, .unset] []))
    refine Fin.step (fun _ => XS.iload X0.here hx rfl (hb hby at_9) rfl) ?_
    show Fin p e below s _ _ _ (s₁.setTop (mkF m 11 #[.val (.int pa), .val (.int pb), .val (.int pc), .val (.int pd), .val (.int pk), .val (.int (1 : Int32)), .unset, .unset, .unset, .unset, .unset, .unset, .unset] [(.int (1 : Int32))]))
    obtain ⟨Ty3, hy3, ky3, Xy3, ey3, Ey3, Ay3, sty3⟩ := newP X0 hx hZ (hw _ (List.mem_of_getElem? (i := 1) rfl)) e0 (g := (mkF m 11 #[.val (.int pa), .val (.int pb), .val (.int pc), .val (.int pd), .val (.int pk), .val (.int (1 : Int32)), .unset, .unset, .unset, .unset, .unset, .unset, .unset] [(.int (1 : Int32))])) rfl (hb hby at_11) rfl (by decide) (cap := 1) (by decide) (by decide) (by decide) (by decide)
    obtain ⟨by3, gy3⟩ : ∃ z, z = h0.size := ⟨_, rfl⟩
    rw [← gy3] at Ay3 sty3
    have gzy3 : n0 ≤ by3 := Nat.le_trans Z0 (Nat.le_of_eq gy3.symm)
    have szy3 : h0.size ≤ by3 := Nat.le_trans K0.1 (Nat.le_of_eq gy3.symm)
    have Zy3 : n0 ≤ hy3.size := Nat.le_trans Z0 Ey3.1
    have Ky3 : Keep h0 hy3 [] := K0.ext Ey3
    have Vy3 : Arv Z hy3 by3 ky3 .double (1 : Int32) [(.double (FP.l2d (0 : Int64)))] (.double (FP.l2d (0 : Int64))) := (Arv.newD Ay3 (by decide)).pad (pad_rep [] (.double (FP.l2d (0 : Int64))) 1)
    refine Fin.step (sty3) ?_
    show Fin p e below s _ _ _ (Ty3.setTop (mkF m 13 #[.val (.int pa), .val (.int pb), .val (.int pc), .val (.int pd), .val (.int pk), .val (.int (1 : Int32)), .unset, .unset, .unset, .unset, .unset, .unset, .unset] [(.ref by3)]))
    refine Fin.step (fun _ => XS.astore Xy3.here hx rfl (hb hby at_13) rfl rfl (l' := #[.val (.int pa), .val (.int pb), .val (.int pc), .val (.int pd), .val (.int pk), .val (.int (1 : Int32)), .val (.ref by3), .unset, .unset, .unset, .unset, .unset, .unset]) rfl) ?_
    show Fin p e below s _ _ _ (Ty3.setTop (mkF m 15 #[.val (.int pa), .val (.int pb), .val (.int pc), .val (.int pd), .val (.int pk), .val (.int (1 : Int32)), .val (.ref by3), .unset, .unset, .unset, .unset, .unset, .unset] []))
    refine Fin.step (fun _ => XS.lconst Xy3.here hx rfl (hb hby at_15)) ?_
    show Fin p e below s _ _ _ (Ty3.setTop (mkF m 16 #[.val (.int pa), .val (.int pb), .val (.int pc), .val (.int pd), .val (.int pk), .val (.int (1 : Int32)), .val (.ref by3), .unset, .unset, .unset, .unset, .unset, .unset] [(.long (0 : Int64))]))
    refine Fin.step (fun _ => XS.lstore Xy3.here hx rfl (hb hby at_16) rfl (l' := #[.val (.int pa), .val (.int pb), .val (.int pc), .val (.int pd), .val (.int pk), .val (.int (1 : Int32)), .val (.ref by3), .val (.long (0 : Int64)), .second, .unset, .unset, .unset, .unset]) rfl) ?_
    show Fin p e below s _ _ _ (Ty3.setTop (mkF m 18 #[.val (.int pa), .val (.int pb), .val (.int pc), .val (.int pd), .val (.int pk), .val (.int (1 : Int32)), .val (.ref by3), .val (.long (0 : Int64)), .second, .unset, .unset, .unset, .unset] []))
    refine Fin.step (fun _ => XS.iload Xy3.here hx rfl (hb hby at_18) rfl) ?_
    show Fin p e below s _ _ _ (Ty3.setTop (mkF m 20 #[.val (.int pa), .val (.int pb), .val (.int pc), .val (.int pd), .val (.int pk), .val (.int (1 : Int32)), .val (.ref by3), .val (.long (0 : Int64)), .second, .unset, .unset, .unset, .unset] [(.int (1 : Int32))]))
    refine Fin.step (fun _ => XS.ifNo Xy3.here hx rfl (hb hby at_20) rfl ((if0 _ _).trans (tlt ((by decide) : ((0 : Int32) < (1 : Int32)))).2.2.2)) ?_
    show Fin p e below s _ _ _ (Ty3.setTop (mkF m 23 #[.val (.int pa), .val (.int pb), .val (.int pc), .val (.int pd), .val (.int pk), .val (.int (1 : Int32)), .val (.ref by3), .val (.long (0 : Int64)), .second, .unset, .unset, .unset, .unset] []))
    refine Fin.step (fun _ => XS.aload Xy3.here hx rfl (hb hby at_23) rfl rfl) ?_
    show Fin p e below s _ _ _ (Ty3.setTop (mkF m 25 #[.val (.int pa), .val (.int pb), .val (.int pc), .val (.int pd), .val (.int pk), .val (.int (1 : Int32)), .val (.ref by3), .val (.long (0 : Int64)), .second, .unset, .unset, .unset, .unset] [(.ref by3)]))
    refine Fin.step (fun _ => XS.iconst Xy3.here hx rfl (hb hby at_25)) ?_
    show Fin p e below s _ _ _ (Ty3.setTop (mkF m 26 #[.val (.int pa), .val (.int pb), .val (.int pc), .val (.int pd), .val (.int pk), .val (.int (1 : Int32)), .val (.ref by3), .val (.long (0 : Int64)), .second, .unset, .unset, .unset, .unset] [(.int (0 : Int32)), (.ref by3)]))
    refine Fin.step (fun _ => XS.iloadN Xy3.here hx rfl (hb hby at_26) rfl) ?_
    show Fin p e below s _ _ _ (Ty3.setTop (mkF m 27 #[.val (.int pa), .val (.int pb), .val (.int pc), .val (.int pd), .val (.int pk), .val (.int (1 : Int32)), .val (.ref by3), .val (.long (0 : Int64)), .second, .unset, .unset, .unset, .unset] [(.int pa), (.int (0 : Int32)), (.ref by3)]))
    refine Fin.step (fun _ => XS.i2dS Xy3.here hx rfl (hb hby at_27) rfl (i2d_w pa)) ?_
    show Fin p e below s _ _ _ (Ty3.setTop (mkF m 28 #[.val (.int pa), .val (.int pb), .val (.int pc), .val (.int pd), .val (.int pk), .val (.int (1 : Int32)), .val (.ref by3), .val (.long (0 : Int64)), .second, .unset, .unset, .unset, .unset] [(.double (FP.l2d pa.toInt64)), (.int (0 : Int32)), (.ref by3)]))
    have voy4 := Vy3
    obtain ⟨cly4, Ary4, qay4, say4, nay4, hay4, gay4⟩ := voy4
    obtain ⟨Ty4, hy4, Xy4, ey4, Wy4, sty4⟩ := stD Xy3 hx hZ ey3 Ary4 (j := (0 : Int32)) (inb_of say4 ⟨by decide, by decide⟩) (g := (mkF m 28 #[.val (.int pa), .val (.int pb), .val (.int pc), .val (.int pd), .val (.int pk), .val (.int (1 : Int32)), .val (.ref by3), .val (.long (0 : Int64)), .second, .unset, .unset, .unset, .unset] [(.double (FP.l2d pa.toInt64)), (.int (0 : Int32)), (.ref by3)])) rfl rfl (hb hby at_28)
    have Vy4 : Arv Z hy4 by3 ky3 .double (1 : Int32) [(.double (FP.l2d pa.toInt64))] (.double (FP.l2d (0 : Int64))) := Arv.set Ary4 qay4 say4 nay4 hay4 gay4 rfl Wy4 0 rfl (Nat.le_of_ble_eq_true rfl)
    have Zy4 : n0 ≤ hy4.size := Nat.le_trans Zy3 (Keep.of_wr Wy4).1
    have Ky4 : Keep h0 hy4 [] := Ky3.wr Wy4 (Or.inr szy3)
    have Ny4 := Fr.snoc Xy4 N0 gzy3
    refine Fin.step (sty4) ?_
    show Fin p e below s _ _ _ (Ty4.setTop (mkF m 29 #[.val (.int pa), .val (.int pb), .val (.int pc), .val (.int pd), .val (.int pk), .val (.int (1 : Int32)), .val (.ref by3), .val (.long (0 : Int64)), .second, .unset, .unset, .unset, .unset] []))
    refine Fin.step (fun _ => XS.lload Xy4.here hx rfl (hb hby at_29) rfl) ?_
    show Fin p e below s _ _ _ (Ty4.setTop (mkF m 31 #[.val (.int pa), .val (.int pb), .val (.int pc), .val (.int pd), .val (.int pk), .val (.int (1 : Int32)), .val (.ref by3), .val (.long (0 : Int64)), .second, .unset, .unset, .unset, .unset] [(.long (0 : Int64))]))
    refine Fin.step (fun _ => XS.iloadN Xy4.here hx rfl (hb hby at_31) rfl) ?_
    show Fin p e below s _ _ _ (Ty4.setTop (mkF m 32 #[.val (.int pa), .val (.int pb), .val (.int pc), .val (.int pd), .val (.int pk), .val (.int (1 : Int32)), .val (.ref by3), .val (.long (0 : Int64)), .second, .unset, .unset, .unset, .unset] [(.int pa), (.long (0 : Int64))]))
    refine Fin.step (fun _ => XS.i2l Xy4.here hx rfl (hb hby at_32) rfl) ?_
    show Fin p e below s _ _ _ (Ty4.setTop (mkF m 33 #[.val (.int pa), .val (.int pb), .val (.int pc), .val (.int pd), .val (.int pk), .val (.int (1 : Int32)), .val (.ref by3), .val (.long (0 : Int64)), .second, .unset, .unset, .unset, .unset] [(.long pa.toInt64), (.long (0 : Int64))]))
    refine Fin.step (fun _ => XS.ladd Xy4.here hx rfl (hb hby at_33) rfl) ?_
    show Fin p e below s _ _ _ (Ty4.setTop (mkF m 34 #[.val (.int pa), .val (.int pb), .val (.int pc), .val (.int pd), .val (.int pk), .val (.int (1 : Int32)), .val (.ref by3), .val (.long (0 : Int64)), .second, .unset, .unset, .unset, .unset] [(.long ((0 : Int64) + pa.toInt64))]))
    refine Fin.step (fun _ => XS.lstore Xy4.here hx rfl (hb hby at_34) rfl (l' := #[.val (.int pa), .val (.int pb), .val (.int pc), .val (.int pd), .val (.int pk), .val (.int (1 : Int32)), .val (.ref by3), .val (.long ((0 : Int64) + pa.toInt64)), .second, .unset, .unset, .unset, .unset]) rfl) ?_
    show Fin p e below s _ _ _ (Ty4.setTop (mkF m 36 #[.val (.int pa), .val (.int pb), .val (.int pc), .val (.int pd), .val (.int pk), .val (.int (1 : Int32)), .val (.ref by3), .val (.long ((0 : Int64) + pa.toInt64)), .second, .unset, .unset, .unset, .unset] []))
    refine Fin.step (fun _ => XS.iload Xy4.here hx rfl (hb hby at_36) rfl) ?_
    show Fin p e below s _ _ _ (Ty4.setTop (mkF m 38 #[.val (.int pa), .val (.int pb), .val (.int pc), .val (.int pd), .val (.int pk), .val (.int (1 : Int32)), .val (.ref by3), .val (.long ((0 : Int64) + pa.toInt64)), .second, .unset, .unset, .unset, .unset] [(.int (1 : Int32))]))
    refine Fin.step (fun _ => XS.iconst Xy4.here hx rfl (hb hby at_38)) ?_
    show Fin p e below s _ _ _ (Ty4.setTop (mkF m 39 #[.val (.int pa), .val (.int pb), .val (.int pc), .val (.int pd), .val (.int pk), .val (.int (1 : Int32)), .val (.ref by3), .val (.long ((0 : Int64) + pa.toInt64)), .second, .unset, .unset, .unset, .unset] [(.int (1 : Int32)), (.int (1 : Int32))]))
    refine Fin.step (fun _ => XS.icmpYes Xy4.here hx rfl (pc0 := 39) (pc' := 55) rfl (hb hby at_39) rfl (flt ((by decide) : ¬ ((1 : Int32) < (1 : Int32)))).2.2.2 (by decide) (by decide)) ?_
    show Fin p e below s _ _ _ (Ty4.setTop (mkF m 55 #[.val (.int pa), .val (.int pb), .val (.int pc), .val (.int pd), .val (.int pk), .val (.int (1 : Int32)), .val (.ref by3), .val (.long ((0 : Int64) + pa.toInt64)), .second, .unset, .unset, .unset, .unset] []))
    refine Fin.step (fun _ => XS.iload Xy4.here hx rfl (hb hby at_55) rfl) ?_
    show Fin p e below s _ _ _ (Ty4.setTop (mkF m 57 #[.val (.int pa), .val (.int pb), .val (.int pc), .val (.int pd), .val (.int pk), .val (.int (1 : Int32)), .val (.ref by3), .val (.long ((0 : Int64) + pa.toInt64)), .second, .unset, .unset, .unset, .unset] [(.int (1 : Int32))]))
    refine Fin.step (fun _ => XS.iconst Xy4.here hx rfl (hb hby at_57)) ?_
    show Fin p e below s _ _ _ (Ty4.setTop (mkF m 58 #[.val (.int pa), .val (.int pb), .val (.int pc), .val (.int pd), .val (.int pk), .val (.int (1 : Int32)), .val (.ref by3), .val (.long ((0 : Int64) + pa.toInt64)), .second, .unset, .unset, .unset, .unset] [(.int (2 : Int32)), (.int (1 : Int32))]))
    refine Fin.step (fun _ => XS.icmpYes Xy4.here hx rfl (pc0 := 58) (pc' := 74) rfl (hb hby at_58) rfl (flt ((by decide) : ¬ ((2 : Int32) < (1 : Int32)))).2.2.2 (by decide) (by decide)) ?_
    show Fin p e below s _ _ _ (Ty4.setTop (mkF m 74 #[.val (.int pa), .val (.int pb), .val (.int pc), .val (.int pd), .val (.int pk), .val (.int (1 : Int32)), .val (.ref by3), .val (.long ((0 : Int64) + pa.toInt64)), .second, .unset, .unset, .unset, .unset] []))
    refine Fin.step (fun _ => XS.iload Xy4.here hx rfl (hb hby at_74) rfl) ?_
    show Fin p e below s _ _ _ (Ty4.setTop (mkF m 76 #[.val (.int pa), .val (.int pb), .val (.int pc), .val (.int pd), .val (.int pk), .val (.int (1 : Int32)), .val (.ref by3), .val (.long ((0 : Int64) + pa.toInt64)), .second, .unset, .unset, .unset, .unset] [(.int (1 : Int32))]))
    refine Fin.step (fun _ => XS.iconst Xy4.here hx rfl (hb hby at_76)) ?_
    show Fin p e below s _ _ _ (Ty4.setTop (mkF m 77 #[.val (.int pa), .val (.int pb), .val (.int pc), .val (.int pd), .val (.int pk), .val (.int (1 : Int32)), .val (.ref by3), .val (.long ((0 : Int64) + pa.toInt64)), .second, .unset, .unset, .unset, .unset] [(.int (3 : Int32)), (.int (1 : Int32))]))
    refine Fin.step (fun _ => XS.icmpYes Xy4.here hx rfl (pc0 := 77) (pc' := 93) rfl (hb hby at_77) rfl (flt ((by decide) : ¬ ((3 : Int32) < (1 : Int32)))).2.2.2 (by decide) (by decide)) ?_
    show Fin p e below s _ _ _ (Ty4.setTop (mkF m 93 #[.val (.int pa), .val (.int pb), .val (.int pc), .val (.int pd), .val (.int pk), .val (.int (1 : Int32)), .val (.ref by3), .val (.long ((0 : Int64) + pa.toInt64)), .second, .unset, .unset, .unset, .unset] []))
    refine Fin.step (fun _ => XS.iload Xy4.here hx rfl (hb hby at_93) rfl) ?_
    show Fin p e below s _ _ _ (Ty4.setTop (mkF m 95 #[.val (.int pa), .val (.int pb), .val (.int pc), .val (.int pd), .val (.int pk), .val (.int (1 : Int32)), .val (.ref by3), .val (.long ((0 : Int64) + pa.toInt64)), .second, .unset, .unset, .unset, .unset] [(.int (1 : Int32))]))
    refine Fin.step (fun _ => XS.ifYes Xy4.here hx rfl (pc0 := 95) (pc' := 102) rfl (hb hby at_95) rfl ((if0 _ _).trans (feq ((by decide) : ¬ ((1 : Int32) = (0 : Int32)))).2) (by decide) (by decide)) ?_
    show Fin p e below s _ _ _ (Ty4.setTop (mkF m 102 #[.val (.int pa), .val (.int pb), .val (.int pc), .val (.int pd), .val (.int pk), .val (.int (1 : Int32)), .val (.ref by3), .val (.long ((0 : Int64) + pa.toInt64)), .second, .unset, .unset, .unset, .unset] []))
    refine Fin.step (fun _ => XS.lload Xy4.here hx rfl (hb hby at_102) rfl) ?_
    show Fin p e below s _ _ _ (Ty4.setTop (mkF m 104 #[.val (.int pa), .val (.int pb), .val (.int pc), .val (.int pd), .val (.int pk), .val (.int (1 : Int32)), .val (.ref by3), .val (.long ((0 : Int64) + pa.toInt64)), .second, .unset, .unset, .unset, .unset] [(.long ((0 : Int64) + pa.toInt64))]))
    refine Fin.step (fun _ => XS.l2dS Xy4.here hx rfl (hb hby at_104) rfl rfl) ?_
    show Fin p e below s _ _ _ (Ty4.setTop (mkF m 105 #[.val (.int pa), .val (.int pb), .val (.int pc), .val (.int pd), .val (.int pk), .val (.int (1 : Int32)), .val (.ref by3), .val (.long ((0 : Int64) + pa.toInt64)), .second, .unset, .unset, .unset, .unset] [(.double (FP.l2d ((0 : Int64) + pa.toInt64)))]))
    refine Fin.step (fun _ => XS.iload Xy4.here hx rfl (hb hby at_105) rfl) ?_
    show Fin p e below s _ _ _ (Ty4.setTop (mkF m 107 #[.val (.int pa), .val (.int pb), .val (.int pc), .val (.int pd), .val (.int pk), .val (.int (1 : Int32)), .val (.ref by3), .val (.long ((0 : Int64) + pa.toInt64)), .second, .unset, .unset, .unset, .unset] [(.int (1 : Int32)), (.double (FP.l2d ((0 : Int64) + pa.toInt64)))]))
    refine Fin.step (fun _ => XS.i2dS Xy4.here hx rfl (hb hby at_107) rfl (i2d_w (1 : Int32))) ?_
    show Fin p e below s _ _ _ (Ty4.setTop (mkF m 108 #[.val (.int pa), .val (.int pb), .val (.int pc), .val (.int pd), .val (.int pk), .val (.int (1 : Int32)), .val (.ref by3), .val (.long ((0 : Int64) + pa.toInt64)), .second, .unset, .unset, .unset, .unset] [(.double (FP.l2d (1 : Int32).toInt64)), (.double (FP.l2d ((0 : Int64) + pa.toInt64)))]))
    refine Fin.step (fun _ => XS.ddivS Xy4.here hx rfl (hb hby at_108) rfl (own_div _ _ (by unfold Jvm.Free.Fl.Nz64; decide +kernel)) rfl) ?_
    show Fin p e below s _ _ _ (Ty4.setTop (mkF m 109 #[.val (.int pa), .val (.int pb), .val (.int pc), .val (.int pd), .val (.int pk), .val (.int (1 : Int32)), .val (.ref by3), .val (.long ((0 : Int64) + pa.toInt64)), .second, .unset, .unset, .unset, .unset] [(.double (FP.ddiv (FP.l2d ((0 : Int64) + pa.toInt64)) (FP.l2d (1 : Int32).toInt64)))]))
    refine Fin.step (fun _ => XS.dstore Xy4.here hx rfl (hb hby at_109) rfl (l' := #[.val (.int pa), .val (.int pb), .val (.int pc), .val (.int pd), .val (.int pk), .val (.int (1 : Int32)), .val (.ref by3), .val (.long ((0 : Int64) + pa.toInt64)), .second, .val (.double (FP.ddiv (FP.l2d ((0 : Int64) + pa.toInt64)) (FP.l2d (1 : Int32).toInt64))), .second, .unset, .unset]) rfl) ?_
    show Fin p e below s _ _ _ (Ty4.setTop (mkF m 111 #[.val (.int pa), .val (.int pb), .val (.int pc), .val (.int pd), .val (.int pk), .val (.int (1 : Int32)), .val (.ref by3), .val (.long ((0 : Int64) + pa.toInt64)), .second, .val (.double (FP.ddiv (FP.l2d ((0 : Int64) + pa.toInt64)) (FP.l2d (1 : Int32).toInt64))), .second, .unset, .unset] []))
    refine Fin.step (fun _ => XS.aload Xy4.here hx rfl (hb hby at_111) rfl rfl) ?_
    show Fin p e below s _ _ _ (Ty4.setTop (mkF m 113 #[.val (.int pa), .val (.int pb), .val (.int pc), .val (.int pd), .val (.int pk), .val (.int (1 : Int32)), .val (.ref by3), .val (.long ((0 : Int64) + pa.toInt64)), .second, .val (.double (FP.ddiv (FP.l2d ((0 : Int64) + pa.toInt64)) (FP.l2d (1 : Int32).toInt64))), .second, .unset, .unset] [(.ref by3)]))
    obtain ⟨_, _, ⟨Ty5, Ly5, ky5, ny5⟩, -, Xy5, ⟨Lcy5, hQy5, ly5, yy5, zy5⟩, sty5⟩ := Jvm.LawKit.callS Xy4 hx (y := (⟨"com/example/indexterity/indexterity/comparison/PairedTests", "mean", "([D)D"⟩ : MethodName)) hown (mvT hZ (hw _ (List.mem_of_getElem? (i := 2) rfl))) (mvT hZ (hw _ (List.mem_of_getElem? (i := 3) rfl))) (mvT hZ (hw _ (List.mem_of_getElem? (i := 4) rfl))) (mvT hZ (hw _ (List.mem_of_getElem? (i := 5) rfl))) (by decide) (backOf (W := 0) (rmm1 l Z a0 hw [] by3 ky3 pa hy4 n0 Zy4 Vy4) hZ (hw _ (List.mem_of_getElem? (i := 5) rfl)) (hw _ (List.mem_of_getElem? (i := 4) rfl)) (by decide) (by decide)) (g := (mkF m 113 #[.val (.int pa), .val (.int pb), .val (.int pc), .val (.int pd), .val (.int pk), .val (.int (1 : Int32)), .val (.ref by3), .val (.long ((0 : Int64) + pa.toInt64)), .second, .val (.double (FP.ddiv (FP.l2d ((0 : Int64) + pa.toInt64)) (FP.l2d (1 : Int32).toInt64))), .second, .unset, .unset] [(.ref by3)])) rfl (by rw [hml]; rfl) (argsL := [(.ref by3)]) (rest := []) (lenOf pd_0 rfl) rfl (by show 2 * 0 + _ ≤ _; exact Nat.le_of_eq rfl) (hb hby at_113) (fun _ _ => ⟨rfl, ey4, (by decide : 1 + 0 ≤ _), (by decide : 1 + 0 ≤ _)⟩)
    dsimp only [Pt.U, Pt.locs, Pt.cells, Pt.slots] at Xy5 ly5 yy5 zy5 sty5 hQy5
    subst ly5 yy5 zy5
    obtain ⟨rfl, Nqy5, eqy5⟩ := hQy5
    have Ny5 := Fr.app Ny4 Nqy5
    refine Fin.step (sty5) ?_
    show Fin p e below s _ _ _ (Ty5.setTop (mkF m 116 #[.val (.int pa), .val (.int pb), .val (.int pc), .val (.int pd), .val (.int pk), .val (.int (1 : Int32)), .val (.ref by3), .val (.long ((0 : Int64) + pa.toInt64)), .second, .val (.double (FP.ddiv (FP.l2d ((0 : Int64) + pa.toInt64)) (FP.l2d (1 : Int32).toInt64))), .second, .unset, .unset] [(.double (FP.ddiv (FP.l2d ((0 : Int64) + pa.toInt64)) (FP.l2d (1 : Int32).toInt64)))]))
    refine Fin.step (fun _ => XS.dstore Xy5.here hx rfl (hb hby at_116) rfl (l' := #[.val (.int pa), .val (.int pb), .val (.int pc), .val (.int pd), .val (.int pk), .val (.int (1 : Int32)), .val (.ref by3), .val (.long ((0 : Int64) + pa.toInt64)), .second, .val (.double (FP.ddiv (FP.l2d ((0 : Int64) + pa.toInt64)) (FP.l2d (1 : Int32).toInt64))), .second, .val (.double (FP.ddiv (FP.l2d ((0 : Int64) + pa.toInt64)) (FP.l2d (1 : Int32).toInt64))), .second]) rfl) ?_
    show Fin p e below s _ _ _ (Ty5.setTop (mkF m 118 #[.val (.int pa), .val (.int pb), .val (.int pc), .val (.int pd), .val (.int pk), .val (.int (1 : Int32)), .val (.ref by3), .val (.long ((0 : Int64) + pa.toInt64)), .second, .val (.double (FP.ddiv (FP.l2d ((0 : Int64) + pa.toInt64)) (FP.l2d (1 : Int32).toInt64))), .second, .val (.double (FP.ddiv (FP.l2d ((0 : Int64) + pa.toInt64)) (FP.l2d (1 : Int32).toInt64))), .second] []))
    refine Fin.step (fun _ => XS.dload Xy5.here hx rfl (hb hby at_118) rfl) ?_
    show Fin p e below s _ _ _ (Ty5.setTop (mkF m 120 #[.val (.int pa), .val (.int pb), .val (.int pc), .val (.int pd), .val (.int pk), .val (.int (1 : Int32)), .val (.ref by3), .val (.long ((0 : Int64) + pa.toInt64)), .second, .val (.double (FP.ddiv (FP.l2d ((0 : Int64) + pa.toInt64)) (FP.l2d (1 : Int32).toInt64))), .second, .val (.double (FP.ddiv (FP.l2d ((0 : Int64) + pa.toInt64)) (FP.l2d (1 : Int32).toInt64))), .second] [(.double (FP.ddiv (FP.l2d ((0 : Int64) + pa.toInt64)) (FP.l2d (1 : Int32).toInt64)))]))
    refine Fin.step (fun _ => XS.dload Xy5.here hx rfl (hb hby at_120) rfl) ?_
    show Fin p e below s _ _ _ (Ty5.setTop (mkF m 122 #[.val (.int pa), .val (.int pb), .val (.int pc), .val (.int pd), .val (.int pk), .val (.int (1 : Int32)), .val (.ref by3), .val (.long ((0 : Int64) + pa.toInt64)), .second, .val (.double (FP.ddiv (FP.l2d ((0 : Int64) + pa.toInt64)) (FP.l2d (1 : Int32).toInt64))), .second, .val (.double (FP.ddiv (FP.l2d ((0 : Int64) + pa.toInt64)) (FP.l2d (1 : Int32).toInt64))), .second] [(.double (FP.ddiv (FP.l2d ((0 : Int64) + pa.toInt64)) (FP.l2d (1 : Int32).toInt64))), (.double (FP.ddiv (FP.l2d ((0 : Int64) + pa.toInt64)) (FP.l2d (1 : Int32).toInt64)))]))
    refine Fin.step (fun _ => XS.dcmpS Xy5.here hx rfl (hb hby at_122) rfl (dcmpV_self (own_div _ _ (by unfold Jvm.Free.Fl.Nz64; decide +kernel)) .l)) ?_
    show Fin p e below s _ _ _ (Ty5.setTop (mkF m 123 #[.val (.int pa), .val (.int pb), .val (.int pc), .val (.int pd), .val (.int pk), .val (.int (1 : Int32)), .val (.ref by3), .val (.long ((0 : Int64) + pa.toInt64)), .second, .val (.double (FP.ddiv (FP.l2d ((0 : Int64) + pa.toInt64)) (FP.l2d (1 : Int32).toInt64))), .second, .val (.double (FP.ddiv (FP.l2d ((0 : Int64) + pa.toInt64)) (FP.l2d (1 : Int32).toInt64))), .second] [(.int (0 : Int32))]))
    refine Fin.step (fun _ => XS.ifNo Xy5.here hx rfl (hb hby at_123) rfl ((if0 _ _).trans (teq ((by decide) : ((0 : Int32) = (0 : Int32)))).2)) ?_
    show Fin p e below s _ _ _ (Ty5.setTop (mkF m 126 #[.val (.int pa), .val (.int pb), .val (.int pc), .val (.int pd), .val (.int pk), .val (.int (1 : Int32)), .val (.ref by3), .val (.long ((0 : Int64) + pa.toInt64)), .second, .val (.double (FP.ddiv (FP.l2d ((0 : Int64) + pa.toInt64)) (FP.l2d (1 : Int32).toInt64))), .second, .val (.double (FP.ddiv (FP.l2d ((0 : Int64) + pa.toInt64)) (FP.l2d (1 : Int32).toInt64))), .second] []))
    refine Fin.step (fun _ => XS.iconst Xy5.here hx rfl (hb hby at_126)) ?_
    show Fin p e below s _ _ _ (Ty5.setTop (mkF m 127 #[.val (.int pa), .val (.int pb), .val (.int pc), .val (.int pd), .val (.int pk), .val (.int (1 : Int32)), .val (.ref by3), .val (.long ((0 : Int64) + pa.toInt64)), .second, .val (.double (FP.ddiv (FP.l2d ((0 : Int64) + pa.toInt64)) (FP.l2d (1 : Int32).toInt64))), .second, .val (.double (FP.ddiv (FP.l2d ((0 : Int64) + pa.toInt64)) (FP.l2d (1 : Int32).toInt64))), .second] [(.int (1 : Int32))]))
    refine Fin.step (fun _ => XS.goto Xy5.here hx rfl (pc0 := 127) (pc' := 131) rfl (hb hby at_127) (by decide) (by decide)) ?_
    show Fin p e below s _ _ _ (Ty5.setTop (mkF m 131 #[.val (.int pa), .val (.int pb), .val (.int pc), .val (.int pd), .val (.int pk), .val (.int (1 : Int32)), .val (.ref by3), .val (.long ((0 : Int64) + pa.toInt64)), .second, .val (.double (FP.ddiv (FP.l2d ((0 : Int64) + pa.toInt64)) (FP.l2d (1 : Int32).toInt64))), .second, .val (.double (FP.ddiv (FP.l2d ((0 : Int64) + pa.toInt64)) (FP.l2d (1 : Int32).toInt64))), .second] [(.int (1 : Int32))]))
    refine Fin.retN Xy5 hx (t := .boolean) hret (by simp) hlk (hb hby at_131) (by decide) (by decide) ?_
    show Q0 Z pa pb pc pd pk h0 n0 _ Ty5.heap _
    rw [eqy5]
    exact ⟨rfl, Ny5, Ky4⟩
  · rw [qn]
    show Fin p e below s _ _ _ (s₁.setTop (mkF m 9 #[.val (.int pa), .val (.int pb), .val (.int pc), .val (.int pd), .val (.int pk), .val (.int (2 : Int32)), .unset, .unset, .unset, .unset, .unset, .unset, .unset] []))
    refine Fin.step (fun _ => XS.iload X0.here hx rfl (hb hby at_9) rfl) ?_
    show Fin p e below s _ _ _ (s₁.setTop (mkF m 11 #[.val (.int pa), .val (.int pb), .val (.int pc), .val (.int pd), .val (.int pk), .val (.int (2 : Int32)), .unset, .unset, .unset, .unset, .unset, .unset, .unset] [(.int (2 : Int32))]))
    obtain ⟨Ty6, hy6, ky6, Xy6, ey6, Ey6, Ay6, sty6⟩ := newP X0 hx hZ (hw _ (List.mem_of_getElem? (i := 1) rfl)) e0 (g := (mkF m 11 #[.val (.int pa), .val (.int pb), .val (.int pc), .val (.int pd), .val (.int pk), .val (.int (2 : Int32)), .unset, .unset, .unset, .unset, .unset, .unset, .unset] [(.int (2 : Int32))])) rfl (hb hby at_11) rfl (by decide) (cap := 2) (by decide) (by decide) (by decide) (by decide)
    obtain ⟨by6, gy6⟩ : ∃ z, z = h0.size := ⟨_, rfl⟩
    rw [← gy6] at Ay6 sty6
    have gzy6 : n0 ≤ by6 := Nat.le_trans Z0 (Nat.le_of_eq gy6.symm)
    have szy6 : h0.size ≤ by6 := Nat.le_trans K0.1 (Nat.le_of_eq gy6.symm)
    have Zy6 : n0 ≤ hy6.size := Nat.le_trans Z0 Ey6.1
    have Ky6 : Keep h0 hy6 [] := K0.ext Ey6
    have Vy6 : Arv Z hy6 by6 ky6 .double (2 : Int32) [(.double (FP.l2d (0 : Int64))), (.double (FP.l2d (0 : Int64)))] (.double (FP.l2d (0 : Int64))) := (Arv.newD Ay6 (by decide)).pad (pad_rep [] (.double (FP.l2d (0 : Int64))) 2)
    refine Fin.step (sty6) ?_
    show Fin p e below s _ _ _ (Ty6.setTop (mkF m 13 #[.val (.int pa), .val (.int pb), .val (.int pc), .val (.int pd), .val (.int pk), .val (.int (2 : Int32)), .unset, .unset, .unset, .unset, .unset, .unset, .unset] [(.ref by6)]))
    refine Fin.step (fun _ => XS.astore Xy6.here hx rfl (hb hby at_13) rfl rfl (l' := #[.val (.int pa), .val (.int pb), .val (.int pc), .val (.int pd), .val (.int pk), .val (.int (2 : Int32)), .val (.ref by6), .unset, .unset, .unset, .unset, .unset, .unset]) rfl) ?_
    show Fin p e below s _ _ _ (Ty6.setTop (mkF m 15 #[.val (.int pa), .val (.int pb), .val (.int pc), .val (.int pd), .val (.int pk), .val (.int (2 : Int32)), .val (.ref by6), .unset, .unset, .unset, .unset, .unset, .unset] []))
    refine Fin.step (fun _ => XS.lconst Xy6.here hx rfl (hb hby at_15)) ?_
    show Fin p e below s _ _ _ (Ty6.setTop (mkF m 16 #[.val (.int pa), .val (.int pb), .val (.int pc), .val (.int pd), .val (.int pk), .val (.int (2 : Int32)), .val (.ref by6), .unset, .unset, .unset, .unset, .unset, .unset] [(.long (0 : Int64))]))
    refine Fin.step (fun _ => XS.lstore Xy6.here hx rfl (hb hby at_16) rfl (l' := #[.val (.int pa), .val (.int pb), .val (.int pc), .val (.int pd), .val (.int pk), .val (.int (2 : Int32)), .val (.ref by6), .val (.long (0 : Int64)), .second, .unset, .unset, .unset, .unset]) rfl) ?_
    show Fin p e below s _ _ _ (Ty6.setTop (mkF m 18 #[.val (.int pa), .val (.int pb), .val (.int pc), .val (.int pd), .val (.int pk), .val (.int (2 : Int32)), .val (.ref by6), .val (.long (0 : Int64)), .second, .unset, .unset, .unset, .unset] []))
    refine Fin.step (fun _ => XS.iload Xy6.here hx rfl (hb hby at_18) rfl) ?_
    show Fin p e below s _ _ _ (Ty6.setTop (mkF m 20 #[.val (.int pa), .val (.int pb), .val (.int pc), .val (.int pd), .val (.int pk), .val (.int (2 : Int32)), .val (.ref by6), .val (.long (0 : Int64)), .second, .unset, .unset, .unset, .unset] [(.int (2 : Int32))]))
    refine Fin.step (fun _ => XS.ifNo Xy6.here hx rfl (hb hby at_20) rfl ((if0 _ _).trans (tlt ((by decide) : ((0 : Int32) < (2 : Int32)))).2.2.2)) ?_
    show Fin p e below s _ _ _ (Ty6.setTop (mkF m 23 #[.val (.int pa), .val (.int pb), .val (.int pc), .val (.int pd), .val (.int pk), .val (.int (2 : Int32)), .val (.ref by6), .val (.long (0 : Int64)), .second, .unset, .unset, .unset, .unset] []))
    refine Fin.step (fun _ => XS.aload Xy6.here hx rfl (hb hby at_23) rfl rfl) ?_
    show Fin p e below s _ _ _ (Ty6.setTop (mkF m 25 #[.val (.int pa), .val (.int pb), .val (.int pc), .val (.int pd), .val (.int pk), .val (.int (2 : Int32)), .val (.ref by6), .val (.long (0 : Int64)), .second, .unset, .unset, .unset, .unset] [(.ref by6)]))
    refine Fin.step (fun _ => XS.iconst Xy6.here hx rfl (hb hby at_25)) ?_
    show Fin p e below s _ _ _ (Ty6.setTop (mkF m 26 #[.val (.int pa), .val (.int pb), .val (.int pc), .val (.int pd), .val (.int pk), .val (.int (2 : Int32)), .val (.ref by6), .val (.long (0 : Int64)), .second, .unset, .unset, .unset, .unset] [(.int (0 : Int32)), (.ref by6)]))
    refine Fin.step (fun _ => XS.iloadN Xy6.here hx rfl (hb hby at_26) rfl) ?_
    show Fin p e below s _ _ _ (Ty6.setTop (mkF m 27 #[.val (.int pa), .val (.int pb), .val (.int pc), .val (.int pd), .val (.int pk), .val (.int (2 : Int32)), .val (.ref by6), .val (.long (0 : Int64)), .second, .unset, .unset, .unset, .unset] [(.int pa), (.int (0 : Int32)), (.ref by6)]))
    refine Fin.step (fun _ => XS.i2dS Xy6.here hx rfl (hb hby at_27) rfl (i2d_w pa)) ?_
    show Fin p e below s _ _ _ (Ty6.setTop (mkF m 28 #[.val (.int pa), .val (.int pb), .val (.int pc), .val (.int pd), .val (.int pk), .val (.int (2 : Int32)), .val (.ref by6), .val (.long (0 : Int64)), .second, .unset, .unset, .unset, .unset] [(.double (FP.l2d pa.toInt64)), (.int (0 : Int32)), (.ref by6)]))
    have voy7 := Vy6
    obtain ⟨cly7, Ary7, qay7, say7, nay7, hay7, gay7⟩ := voy7
    obtain ⟨Ty7, hy7, Xy7, ey7, Wy7, sty7⟩ := stD Xy6 hx hZ ey6 Ary7 (j := (0 : Int32)) (inb_of say7 ⟨by decide, by decide⟩) (g := (mkF m 28 #[.val (.int pa), .val (.int pb), .val (.int pc), .val (.int pd), .val (.int pk), .val (.int (2 : Int32)), .val (.ref by6), .val (.long (0 : Int64)), .second, .unset, .unset, .unset, .unset] [(.double (FP.l2d pa.toInt64)), (.int (0 : Int32)), (.ref by6)])) rfl rfl (hb hby at_28)
    have Vy7 : Arv Z hy7 by6 ky6 .double (2 : Int32) [(.double (FP.l2d pa.toInt64)), (.double (FP.l2d (0 : Int64)))] (.double (FP.l2d (0 : Int64))) := Arv.set Ary7 qay7 say7 nay7 hay7 gay7 rfl Wy7 0 rfl (Nat.le_of_ble_eq_true rfl)
    have Zy7 : n0 ≤ hy7.size := Nat.le_trans Zy6 (Keep.of_wr Wy7).1
    have Ky7 : Keep h0 hy7 [] := Ky6.wr Wy7 (Or.inr szy6)
    have Ny7 := Fr.snoc Xy7 N0 gzy6
    refine Fin.step (sty7) ?_
    show Fin p e below s _ _ _ (Ty7.setTop (mkF m 29 #[.val (.int pa), .val (.int pb), .val (.int pc), .val (.int pd), .val (.int pk), .val (.int (2 : Int32)), .val (.ref by6), .val (.long (0 : Int64)), .second, .unset, .unset, .unset, .unset] []))
    refine Fin.step (fun _ => XS.lload Xy7.here hx rfl (hb hby at_29) rfl) ?_
    show Fin p e below s _ _ _ (Ty7.setTop (mkF m 31 #[.val (.int pa), .val (.int pb), .val (.int pc), .val (.int pd), .val (.int pk), .val (.int (2 : Int32)), .val (.ref by6), .val (.long (0 : Int64)), .second, .unset, .unset, .unset, .unset] [(.long (0 : Int64))]))
    refine Fin.step (fun _ => XS.iloadN Xy7.here hx rfl (hb hby at_31) rfl) ?_
    show Fin p e below s _ _ _ (Ty7.setTop (mkF m 32 #[.val (.int pa), .val (.int pb), .val (.int pc), .val (.int pd), .val (.int pk), .val (.int (2 : Int32)), .val (.ref by6), .val (.long (0 : Int64)), .second, .unset, .unset, .unset, .unset] [(.int pa), (.long (0 : Int64))]))
    refine Fin.step (fun _ => XS.i2l Xy7.here hx rfl (hb hby at_32) rfl) ?_
    show Fin p e below s _ _ _ (Ty7.setTop (mkF m 33 #[.val (.int pa), .val (.int pb), .val (.int pc), .val (.int pd), .val (.int pk), .val (.int (2 : Int32)), .val (.ref by6), .val (.long (0 : Int64)), .second, .unset, .unset, .unset, .unset] [(.long pa.toInt64), (.long (0 : Int64))]))
    refine Fin.step (fun _ => XS.ladd Xy7.here hx rfl (hb hby at_33) rfl) ?_
    show Fin p e below s _ _ _ (Ty7.setTop (mkF m 34 #[.val (.int pa), .val (.int pb), .val (.int pc), .val (.int pd), .val (.int pk), .val (.int (2 : Int32)), .val (.ref by6), .val (.long (0 : Int64)), .second, .unset, .unset, .unset, .unset] [(.long ((0 : Int64) + pa.toInt64))]))
    refine Fin.step (fun _ => XS.lstore Xy7.here hx rfl (hb hby at_34) rfl (l' := #[.val (.int pa), .val (.int pb), .val (.int pc), .val (.int pd), .val (.int pk), .val (.int (2 : Int32)), .val (.ref by6), .val (.long ((0 : Int64) + pa.toInt64)), .second, .unset, .unset, .unset, .unset]) rfl) ?_
    show Fin p e below s _ _ _ (Ty7.setTop (mkF m 36 #[.val (.int pa), .val (.int pb), .val (.int pc), .val (.int pd), .val (.int pk), .val (.int (2 : Int32)), .val (.ref by6), .val (.long ((0 : Int64) + pa.toInt64)), .second, .unset, .unset, .unset, .unset] []))
    refine Fin.step (fun _ => XS.iload Xy7.here hx rfl (hb hby at_36) rfl) ?_
    show Fin p e below s _ _ _ (Ty7.setTop (mkF m 38 #[.val (.int pa), .val (.int pb), .val (.int pc), .val (.int pd), .val (.int pk), .val (.int (2 : Int32)), .val (.ref by6), .val (.long ((0 : Int64) + pa.toInt64)), .second, .unset, .unset, .unset, .unset] [(.int (2 : Int32))]))
    refine Fin.step (fun _ => XS.iconst Xy7.here hx rfl (hb hby at_38)) ?_
    show Fin p e below s _ _ _ (Ty7.setTop (mkF m 39 #[.val (.int pa), .val (.int pb), .val (.int pc), .val (.int pd), .val (.int pk), .val (.int (2 : Int32)), .val (.ref by6), .val (.long ((0 : Int64) + pa.toInt64)), .second, .unset, .unset, .unset, .unset] [(.int (1 : Int32)), (.int (2 : Int32))]))
    refine Fin.step (fun _ => XS.icmpNo Xy7.here hx rfl (hb hby at_39) rfl (tlt ((by decide) : ((1 : Int32) < (2 : Int32)))).2.2.2) ?_
    show Fin p e below s _ _ _ (Ty7.setTop (mkF m 42 #[.val (.int pa), .val (.int pb), .val (.int pc), .val (.int pd), .val (.int pk), .val (.int (2 : Int32)), .val (.ref by6), .val (.long ((0 : Int64) + pa.toInt64)), .second, .unset, .unset, .unset, .unset] []))
    refine Fin.step (fun _ => XS.aload Xy7.here hx rfl (hb hby at_42) rfl rfl) ?_
    show Fin p e below s _ _ _ (Ty7.setTop (mkF m 44 #[.val (.int pa), .val (.int pb), .val (.int pc), .val (.int pd), .val (.int pk), .val (.int (2 : Int32)), .val (.ref by6), .val (.long ((0 : Int64) + pa.toInt64)), .second, .unset, .unset, .unset, .unset] [(.ref by6)]))
    refine Fin.step (fun _ => XS.iconst Xy7.here hx rfl (hb hby at_44)) ?_
    show Fin p e below s _ _ _ (Ty7.setTop (mkF m 45 #[.val (.int pa), .val (.int pb), .val (.int pc), .val (.int pd), .val (.int pk), .val (.int (2 : Int32)), .val (.ref by6), .val (.long ((0 : Int64) + pa.toInt64)), .second, .unset, .unset, .unset, .unset] [(.int (1 : Int32)), (.ref by6)]))
    refine Fin.step (fun _ => XS.iloadN Xy7.here hx rfl (hb hby at_45) rfl) ?_
    show Fin p e below s _ _ _ (Ty7.setTop (mkF m 46 #[.val (.int pa), .val (.int pb), .val (.int pc), .val (.int pd), .val (.int pk), .val (.int (2 : Int32)), .val (.ref by6), .val (.long ((0 : Int64) + pa.toInt64)), .second, .unset, .unset, .unset, .unset] [(.int pb), (.int (1 : Int32)), (.ref by6)]))
    refine Fin.step (fun _ => XS.i2dS Xy7.here hx rfl (hb hby at_46) rfl (i2d_w pb)) ?_
    show Fin p e below s _ _ _ (Ty7.setTop (mkF m 47 #[.val (.int pa), .val (.int pb), .val (.int pc), .val (.int pd), .val (.int pk), .val (.int (2 : Int32)), .val (.ref by6), .val (.long ((0 : Int64) + pa.toInt64)), .second, .unset, .unset, .unset, .unset] [(.double (FP.l2d pb.toInt64)), (.int (1 : Int32)), (.ref by6)]))
    have voy8 := Vy7
    obtain ⟨cly8, Ary8, qay8, say8, nay8, hay8, gay8⟩ := voy8
    obtain ⟨Ty8, hy8, Xy8, ey8, Wy8, sty8⟩ := stD Xy7 hx hZ ey7 Ary8 (j := (1 : Int32)) (inb_of say8 ⟨by decide, by decide⟩) (g := (mkF m 47 #[.val (.int pa), .val (.int pb), .val (.int pc), .val (.int pd), .val (.int pk), .val (.int (2 : Int32)), .val (.ref by6), .val (.long ((0 : Int64) + pa.toInt64)), .second, .unset, .unset, .unset, .unset] [(.double (FP.l2d pb.toInt64)), (.int (1 : Int32)), (.ref by6)])) rfl rfl (hb hby at_47)
    have Vy8 : Arv Z hy8 by6 ky6 .double (2 : Int32) [(.double (FP.l2d pa.toInt64)), (.double (FP.l2d pb.toInt64))] (.double (FP.l2d (0 : Int64))) := Arv.set Ary8 qay8 say8 nay8 hay8 gay8 rfl Wy8 1 rfl (Nat.le_of_ble_eq_true rfl)
    have Zy8 : n0 ≤ hy8.size := Nat.le_trans Zy7 (Keep.of_wr Wy8).1
    have Ky8 : Keep h0 hy8 [] := Ky7.wr Wy8 (Or.inr szy6)
    have Ny8 := Fr.snoc Xy8 Ny7 gzy6
    refine Fin.step (sty8) ?_
    show Fin p e below s _ _ _ (Ty8.setTop (mkF m 48 #[.val (.int pa), .val (.int pb), .val (.int pc), .val (.int pd), .val (.int pk), .val (.int (2 : Int32)), .val (.ref by6), .val (.long ((0 : Int64) + pa.toInt64)), .second, .unset, .unset, .unset, .unset] []))
    refine Fin.step (fun _ => XS.lload Xy8.here hx rfl (hb hby at_48) rfl) ?_
    show Fin p e below s _ _ _ (Ty8.setTop (mkF m 50 #[.val (.int pa), .val (.int pb), .val (.int pc), .val (.int pd), .val (.int pk), .val (.int (2 : Int32)), .val (.ref by6), .val (.long ((0 : Int64) + pa.toInt64)), .second, .unset, .unset, .unset, .unset] [(.long ((0 : Int64) + pa.toInt64))]))
    refine Fin.step (fun _ => XS.iloadN Xy8.here hx rfl (hb hby at_50) rfl) ?_
    show Fin p e below s _ _ _ (Ty8.setTop (mkF m 51 #[.val (.int pa), .val (.int pb), .val (.int pc), .val (.int pd), .val (.int pk), .val (.int (2 : Int32)), .val (.ref by6), .val (.long ((0 : Int64) + pa.toInt64)), .second, .unset, .unset, .unset, .unset] [(.int pb), (.long ((0 : Int64) + pa.toInt64))]))
    refine Fin.step (fun _ => XS.i2l Xy8.here hx rfl (hb hby at_51) rfl) ?_
    show Fin p e below s _ _ _ (Ty8.setTop (mkF m 52 #[.val (.int pa), .val (.int pb), .val (.int pc), .val (.int pd), .val (.int pk), .val (.int (2 : Int32)), .val (.ref by6), .val (.long ((0 : Int64) + pa.toInt64)), .second, .unset, .unset, .unset, .unset] [(.long pb.toInt64), (.long ((0 : Int64) + pa.toInt64))]))
    refine Fin.step (fun _ => XS.ladd Xy8.here hx rfl (hb hby at_52) rfl) ?_
    show Fin p e below s _ _ _ (Ty8.setTop (mkF m 53 #[.val (.int pa), .val (.int pb), .val (.int pc), .val (.int pd), .val (.int pk), .val (.int (2 : Int32)), .val (.ref by6), .val (.long ((0 : Int64) + pa.toInt64)), .second, .unset, .unset, .unset, .unset] [(.long (((0 : Int64) + pa.toInt64) + pb.toInt64))]))
    refine Fin.step (fun _ => XS.lstore Xy8.here hx rfl (hb hby at_53) rfl (l' := #[.val (.int pa), .val (.int pb), .val (.int pc), .val (.int pd), .val (.int pk), .val (.int (2 : Int32)), .val (.ref by6), .val (.long (((0 : Int64) + pa.toInt64) + pb.toInt64)), .second, .unset, .unset, .unset, .unset]) rfl) ?_
    show Fin p e below s _ _ _ (Ty8.setTop (mkF m 55 #[.val (.int pa), .val (.int pb), .val (.int pc), .val (.int pd), .val (.int pk), .val (.int (2 : Int32)), .val (.ref by6), .val (.long (((0 : Int64) + pa.toInt64) + pb.toInt64)), .second, .unset, .unset, .unset, .unset] []))
    refine Fin.step (fun _ => XS.iload Xy8.here hx rfl (hb hby at_55) rfl) ?_
    show Fin p e below s _ _ _ (Ty8.setTop (mkF m 57 #[.val (.int pa), .val (.int pb), .val (.int pc), .val (.int pd), .val (.int pk), .val (.int (2 : Int32)), .val (.ref by6), .val (.long (((0 : Int64) + pa.toInt64) + pb.toInt64)), .second, .unset, .unset, .unset, .unset] [(.int (2 : Int32))]))
    refine Fin.step (fun _ => XS.iconst Xy8.here hx rfl (hb hby at_57)) ?_
    show Fin p e below s _ _ _ (Ty8.setTop (mkF m 58 #[.val (.int pa), .val (.int pb), .val (.int pc), .val (.int pd), .val (.int pk), .val (.int (2 : Int32)), .val (.ref by6), .val (.long (((0 : Int64) + pa.toInt64) + pb.toInt64)), .second, .unset, .unset, .unset, .unset] [(.int (2 : Int32)), (.int (2 : Int32))]))
    refine Fin.step (fun _ => XS.icmpYes Xy8.here hx rfl (pc0 := 58) (pc' := 74) rfl (hb hby at_58) rfl (flt ((by decide) : ¬ ((2 : Int32) < (2 : Int32)))).2.2.2 (by decide) (by decide)) ?_
    show Fin p e below s _ _ _ (Ty8.setTop (mkF m 74 #[.val (.int pa), .val (.int pb), .val (.int pc), .val (.int pd), .val (.int pk), .val (.int (2 : Int32)), .val (.ref by6), .val (.long (((0 : Int64) + pa.toInt64) + pb.toInt64)), .second, .unset, .unset, .unset, .unset] []))
    refine Fin.step (fun _ => XS.iload Xy8.here hx rfl (hb hby at_74) rfl) ?_
    show Fin p e below s _ _ _ (Ty8.setTop (mkF m 76 #[.val (.int pa), .val (.int pb), .val (.int pc), .val (.int pd), .val (.int pk), .val (.int (2 : Int32)), .val (.ref by6), .val (.long (((0 : Int64) + pa.toInt64) + pb.toInt64)), .second, .unset, .unset, .unset, .unset] [(.int (2 : Int32))]))
    refine Fin.step (fun _ => XS.iconst Xy8.here hx rfl (hb hby at_76)) ?_
    show Fin p e below s _ _ _ (Ty8.setTop (mkF m 77 #[.val (.int pa), .val (.int pb), .val (.int pc), .val (.int pd), .val (.int pk), .val (.int (2 : Int32)), .val (.ref by6), .val (.long (((0 : Int64) + pa.toInt64) + pb.toInt64)), .second, .unset, .unset, .unset, .unset] [(.int (3 : Int32)), (.int (2 : Int32))]))
    refine Fin.step (fun _ => XS.icmpYes Xy8.here hx rfl (pc0 := 77) (pc' := 93) rfl (hb hby at_77) rfl (flt ((by decide) : ¬ ((3 : Int32) < (2 : Int32)))).2.2.2 (by decide) (by decide)) ?_
    show Fin p e below s _ _ _ (Ty8.setTop (mkF m 93 #[.val (.int pa), .val (.int pb), .val (.int pc), .val (.int pd), .val (.int pk), .val (.int (2 : Int32)), .val (.ref by6), .val (.long (((0 : Int64) + pa.toInt64) + pb.toInt64)), .second, .unset, .unset, .unset, .unset] []))
    refine Fin.step (fun _ => XS.iload Xy8.here hx rfl (hb hby at_93) rfl) ?_
    show Fin p e below s _ _ _ (Ty8.setTop (mkF m 95 #[.val (.int pa), .val (.int pb), .val (.int pc), .val (.int pd), .val (.int pk), .val (.int (2 : Int32)), .val (.ref by6), .val (.long (((0 : Int64) + pa.toInt64) + pb.toInt64)), .second, .unset, .unset, .unset, .unset] [(.int (2 : Int32))]))
    refine Fin.step (fun _ => XS.ifYes Xy8.here hx rfl (pc0 := 95) (pc' := 102) rfl (hb hby at_95) rfl ((if0 _ _).trans (feq ((by decide) : ¬ ((2 : Int32) = (0 : Int32)))).2) (by decide) (by decide)) ?_
    show Fin p e below s _ _ _ (Ty8.setTop (mkF m 102 #[.val (.int pa), .val (.int pb), .val (.int pc), .val (.int pd), .val (.int pk), .val (.int (2 : Int32)), .val (.ref by6), .val (.long (((0 : Int64) + pa.toInt64) + pb.toInt64)), .second, .unset, .unset, .unset, .unset] []))
    refine Fin.step (fun _ => XS.lload Xy8.here hx rfl (hb hby at_102) rfl) ?_
    show Fin p e below s _ _ _ (Ty8.setTop (mkF m 104 #[.val (.int pa), .val (.int pb), .val (.int pc), .val (.int pd), .val (.int pk), .val (.int (2 : Int32)), .val (.ref by6), .val (.long (((0 : Int64) + pa.toInt64) + pb.toInt64)), .second, .unset, .unset, .unset, .unset] [(.long (((0 : Int64) + pa.toInt64) + pb.toInt64))]))
    refine Fin.step (fun _ => XS.l2dS Xy8.here hx rfl (hb hby at_104) rfl rfl) ?_
    show Fin p e below s _ _ _ (Ty8.setTop (mkF m 105 #[.val (.int pa), .val (.int pb), .val (.int pc), .val (.int pd), .val (.int pk), .val (.int (2 : Int32)), .val (.ref by6), .val (.long (((0 : Int64) + pa.toInt64) + pb.toInt64)), .second, .unset, .unset, .unset, .unset] [(.double (FP.l2d (((0 : Int64) + pa.toInt64) + pb.toInt64)))]))
    refine Fin.step (fun _ => XS.iload Xy8.here hx rfl (hb hby at_105) rfl) ?_
    show Fin p e below s _ _ _ (Ty8.setTop (mkF m 107 #[.val (.int pa), .val (.int pb), .val (.int pc), .val (.int pd), .val (.int pk), .val (.int (2 : Int32)), .val (.ref by6), .val (.long (((0 : Int64) + pa.toInt64) + pb.toInt64)), .second, .unset, .unset, .unset, .unset] [(.int (2 : Int32)), (.double (FP.l2d (((0 : Int64) + pa.toInt64) + pb.toInt64)))]))
    refine Fin.step (fun _ => XS.i2dS Xy8.here hx rfl (hb hby at_107) rfl (i2d_w (2 : Int32))) ?_
    show Fin p e below s _ _ _ (Ty8.setTop (mkF m 108 #[.val (.int pa), .val (.int pb), .val (.int pc), .val (.int pd), .val (.int pk), .val (.int (2 : Int32)), .val (.ref by6), .val (.long (((0 : Int64) + pa.toInt64) + pb.toInt64)), .second, .unset, .unset, .unset, .unset] [(.double (FP.l2d (2 : Int32).toInt64)), (.double (FP.l2d (((0 : Int64) + pa.toInt64) + pb.toInt64)))]))
    refine Fin.step (fun _ => XS.ddivS Xy8.here hx rfl (hb hby at_108) rfl (own_div _ _ (by unfold Jvm.Free.Fl.Nz64; decide +kernel)) rfl) ?_
    show Fin p e below s _ _ _ (Ty8.setTop (mkF m 109 #[.val (.int pa), .val (.int pb), .val (.int pc), .val (.int pd), .val (.int pk), .val (.int (2 : Int32)), .val (.ref by6), .val (.long (((0 : Int64) + pa.toInt64) + pb.toInt64)), .second, .unset, .unset, .unset, .unset] [(.double (FP.ddiv (FP.l2d (((0 : Int64) + pa.toInt64) + pb.toInt64)) (FP.l2d (2 : Int32).toInt64)))]))
    refine Fin.step (fun _ => XS.dstore Xy8.here hx rfl (hb hby at_109) rfl (l' := #[.val (.int pa), .val (.int pb), .val (.int pc), .val (.int pd), .val (.int pk), .val (.int (2 : Int32)), .val (.ref by6), .val (.long (((0 : Int64) + pa.toInt64) + pb.toInt64)), .second, .val (.double (FP.ddiv (FP.l2d (((0 : Int64) + pa.toInt64) + pb.toInt64)) (FP.l2d (2 : Int32).toInt64))), .second, .unset, .unset]) rfl) ?_
    show Fin p e below s _ _ _ (Ty8.setTop (mkF m 111 #[.val (.int pa), .val (.int pb), .val (.int pc), .val (.int pd), .val (.int pk), .val (.int (2 : Int32)), .val (.ref by6), .val (.long (((0 : Int64) + pa.toInt64) + pb.toInt64)), .second, .val (.double (FP.ddiv (FP.l2d (((0 : Int64) + pa.toInt64) + pb.toInt64)) (FP.l2d (2 : Int32).toInt64))), .second, .unset, .unset] []))
    refine Fin.step (fun _ => XS.aload Xy8.here hx rfl (hb hby at_111) rfl rfl) ?_
    show Fin p e below s _ _ _ (Ty8.setTop (mkF m 113 #[.val (.int pa), .val (.int pb), .val (.int pc), .val (.int pd), .val (.int pk), .val (.int (2 : Int32)), .val (.ref by6), .val (.long (((0 : Int64) + pa.toInt64) + pb.toInt64)), .second, .val (.double (FP.ddiv (FP.l2d (((0 : Int64) + pa.toInt64) + pb.toInt64)) (FP.l2d (2 : Int32).toInt64))), .second, .unset, .unset] [(.ref by6)]))
    obtain ⟨_, _, ⟨Ty9, Ly9, ky9, ny9⟩, -, Xy9, ⟨Lcy9, hQy9, ly9, yy9, zy9⟩, sty9⟩ := Jvm.LawKit.callS Xy8 hx (y := (⟨"com/example/indexterity/indexterity/comparison/PairedTests", "mean", "([D)D"⟩ : MethodName)) hown (mvT hZ (hw _ (List.mem_of_getElem? (i := 2) rfl))) (mvT hZ (hw _ (List.mem_of_getElem? (i := 3) rfl))) (mvT hZ (hw _ (List.mem_of_getElem? (i := 4) rfl))) (mvT hZ (hw _ (List.mem_of_getElem? (i := 5) rfl))) (by decide) (backOf (W := 0) (rmm2 l Z a0 hw [] by6 ky6 pa pb hy8 n0 Zy8 Vy8) hZ (hw _ (List.mem_of_getElem? (i := 5) rfl)) (hw _ (List.mem_of_getElem? (i := 4) rfl)) (by decide) (by decide)) (g := (mkF m 113 #[.val (.int pa), .val (.int pb), .val (.int pc), .val (.int pd), .val (.int pk), .val (.int (2 : Int32)), .val (.ref by6), .val (.long (((0 : Int64) + pa.toInt64) + pb.toInt64)), .second, .val (.double (FP.ddiv (FP.l2d (((0 : Int64) + pa.toInt64) + pb.toInt64)) (FP.l2d (2 : Int32).toInt64))), .second, .unset, .unset] [(.ref by6)])) rfl (by rw [hml]; rfl) (argsL := [(.ref by6)]) (rest := []) (lenOf pd_0 rfl) rfl (by show 2 * 0 + _ ≤ _; exact Nat.le_of_eq rfl) (hb hby at_113) (fun _ _ => ⟨rfl, ey8, (by decide : 1 + 0 ≤ _), (by decide : 2 + 0 ≤ _)⟩)
    dsimp only [Pt.U, Pt.locs, Pt.cells, Pt.slots] at Xy9 ly9 yy9 zy9 sty9 hQy9
    subst ly9 yy9 zy9
    obtain ⟨rfl, Nqy9, eqy9⟩ := hQy9
    have Ny9 := Fr.app Ny8 Nqy9
    refine Fin.step (sty9) ?_
    show Fin p e below s _ _ _ (Ty9.setTop (mkF m 116 #[.val (.int pa), .val (.int pb), .val (.int pc), .val (.int pd), .val (.int pk), .val (.int (2 : Int32)), .val (.ref by6), .val (.long (((0 : Int64) + pa.toInt64) + pb.toInt64)), .second, .val (.double (FP.ddiv (FP.l2d (((0 : Int64) + pa.toInt64) + pb.toInt64)) (FP.l2d (2 : Int32).toInt64))), .second, .unset, .unset] [(.double (FP.ddiv (FP.l2d (((0 : Int64) + pa.toInt64) + pb.toInt64)) (FP.l2d (2 : Int32).toInt64)))]))
    refine Fin.step (fun _ => XS.dstore Xy9.here hx rfl (hb hby at_116) rfl (l' := #[.val (.int pa), .val (.int pb), .val (.int pc), .val (.int pd), .val (.int pk), .val (.int (2 : Int32)), .val (.ref by6), .val (.long (((0 : Int64) + pa.toInt64) + pb.toInt64)), .second, .val (.double (FP.ddiv (FP.l2d (((0 : Int64) + pa.toInt64) + pb.toInt64)) (FP.l2d (2 : Int32).toInt64))), .second, .val (.double (FP.ddiv (FP.l2d (((0 : Int64) + pa.toInt64) + pb.toInt64)) (FP.l2d (2 : Int32).toInt64))), .second]) rfl) ?_
    show Fin p e below s _ _ _ (Ty9.setTop (mkF m 118 #[.val (.int pa), .val (.int pb), .val (.int pc), .val (.int pd), .val (.int pk), .val (.int (2 : Int32)), .val (.ref by6), .val (.long (((0 : Int64) + pa.toInt64) + pb.toInt64)), .second, .val (.double (FP.ddiv (FP.l2d (((0 : Int64) + pa.toInt64) + pb.toInt64)) (FP.l2d (2 : Int32).toInt64))), .second, .val (.double (FP.ddiv (FP.l2d (((0 : Int64) + pa.toInt64) + pb.toInt64)) (FP.l2d (2 : Int32).toInt64))), .second] []))
    refine Fin.step (fun _ => XS.dload Xy9.here hx rfl (hb hby at_118) rfl) ?_
    show Fin p e below s _ _ _ (Ty9.setTop (mkF m 120 #[.val (.int pa), .val (.int pb), .val (.int pc), .val (.int pd), .val (.int pk), .val (.int (2 : Int32)), .val (.ref by6), .val (.long (((0 : Int64) + pa.toInt64) + pb.toInt64)), .second, .val (.double (FP.ddiv (FP.l2d (((0 : Int64) + pa.toInt64) + pb.toInt64)) (FP.l2d (2 : Int32).toInt64))), .second, .val (.double (FP.ddiv (FP.l2d (((0 : Int64) + pa.toInt64) + pb.toInt64)) (FP.l2d (2 : Int32).toInt64))), .second] [(.double (FP.ddiv (FP.l2d (((0 : Int64) + pa.toInt64) + pb.toInt64)) (FP.l2d (2 : Int32).toInt64)))]))
    refine Fin.step (fun _ => XS.dload Xy9.here hx rfl (hb hby at_120) rfl) ?_
    show Fin p e below s _ _ _ (Ty9.setTop (mkF m 122 #[.val (.int pa), .val (.int pb), .val (.int pc), .val (.int pd), .val (.int pk), .val (.int (2 : Int32)), .val (.ref by6), .val (.long (((0 : Int64) + pa.toInt64) + pb.toInt64)), .second, .val (.double (FP.ddiv (FP.l2d (((0 : Int64) + pa.toInt64) + pb.toInt64)) (FP.l2d (2 : Int32).toInt64))), .second, .val (.double (FP.ddiv (FP.l2d (((0 : Int64) + pa.toInt64) + pb.toInt64)) (FP.l2d (2 : Int32).toInt64))), .second] [(.double (FP.ddiv (FP.l2d (((0 : Int64) + pa.toInt64) + pb.toInt64)) (FP.l2d (2 : Int32).toInt64))), (.double (FP.ddiv (FP.l2d (((0 : Int64) + pa.toInt64) + pb.toInt64)) (FP.l2d (2 : Int32).toInt64)))]))
    refine Fin.step (fun _ => XS.dcmpS Xy9.here hx rfl (hb hby at_122) rfl (dcmpV_self (own_div _ _ (by unfold Jvm.Free.Fl.Nz64; decide +kernel)) .l)) ?_
    show Fin p e below s _ _ _ (Ty9.setTop (mkF m 123 #[.val (.int pa), .val (.int pb), .val (.int pc), .val (.int pd), .val (.int pk), .val (.int (2 : Int32)), .val (.ref by6), .val (.long (((0 : Int64) + pa.toInt64) + pb.toInt64)), .second, .val (.double (FP.ddiv (FP.l2d (((0 : Int64) + pa.toInt64) + pb.toInt64)) (FP.l2d (2 : Int32).toInt64))), .second, .val (.double (FP.ddiv (FP.l2d (((0 : Int64) + pa.toInt64) + pb.toInt64)) (FP.l2d (2 : Int32).toInt64))), .second] [(.int (0 : Int32))]))
    refine Fin.step (fun _ => XS.ifNo Xy9.here hx rfl (hb hby at_123) rfl ((if0 _ _).trans (teq ((by decide) : ((0 : Int32) = (0 : Int32)))).2)) ?_
    show Fin p e below s _ _ _ (Ty9.setTop (mkF m 126 #[.val (.int pa), .val (.int pb), .val (.int pc), .val (.int pd), .val (.int pk), .val (.int (2 : Int32)), .val (.ref by6), .val (.long (((0 : Int64) + pa.toInt64) + pb.toInt64)), .second, .val (.double (FP.ddiv (FP.l2d (((0 : Int64) + pa.toInt64) + pb.toInt64)) (FP.l2d (2 : Int32).toInt64))), .second, .val (.double (FP.ddiv (FP.l2d (((0 : Int64) + pa.toInt64) + pb.toInt64)) (FP.l2d (2 : Int32).toInt64))), .second] []))
    refine Fin.step (fun _ => XS.iconst Xy9.here hx rfl (hb hby at_126)) ?_
    show Fin p e below s _ _ _ (Ty9.setTop (mkF m 127 #[.val (.int pa), .val (.int pb), .val (.int pc), .val (.int pd), .val (.int pk), .val (.int (2 : Int32)), .val (.ref by6), .val (.long (((0 : Int64) + pa.toInt64) + pb.toInt64)), .second, .val (.double (FP.ddiv (FP.l2d (((0 : Int64) + pa.toInt64) + pb.toInt64)) (FP.l2d (2 : Int32).toInt64))), .second, .val (.double (FP.ddiv (FP.l2d (((0 : Int64) + pa.toInt64) + pb.toInt64)) (FP.l2d (2 : Int32).toInt64))), .second] [(.int (1 : Int32))]))
    refine Fin.step (fun _ => XS.goto Xy9.here hx rfl (pc0 := 127) (pc' := 131) rfl (hb hby at_127) (by decide) (by decide)) ?_
    show Fin p e below s _ _ _ (Ty9.setTop (mkF m 131 #[.val (.int pa), .val (.int pb), .val (.int pc), .val (.int pd), .val (.int pk), .val (.int (2 : Int32)), .val (.ref by6), .val (.long (((0 : Int64) + pa.toInt64) + pb.toInt64)), .second, .val (.double (FP.ddiv (FP.l2d (((0 : Int64) + pa.toInt64) + pb.toInt64)) (FP.l2d (2 : Int32).toInt64))), .second, .val (.double (FP.ddiv (FP.l2d (((0 : Int64) + pa.toInt64) + pb.toInt64)) (FP.l2d (2 : Int32).toInt64))), .second] [(.int (1 : Int32))]))
    refine Fin.retN Xy9 hx (t := .boolean) hret (by simp) hlk (hb hby at_131) (by decide) (by decide) ?_
    show Q0 Z pa pb pc pd pk h0 n0 _ Ty9.heap _
    rw [eqy9]
    exact ⟨rfl, Ny9, Ky8⟩
  · rw [qn]
    show Fin p e below s _ _ _ (s₁.setTop (mkF m 9 #[.val (.int pa), .val (.int pb), .val (.int pc), .val (.int pd), .val (.int pk), .val (.int (3 : Int32)), .unset, .unset, .unset, .unset, .unset, .unset, .unset] []))
    refine Fin.step (fun _ => XS.iload X0.here hx rfl (hb hby at_9) rfl) ?_
    show Fin p e below s _ _ _ (s₁.setTop (mkF m 11 #[.val (.int pa), .val (.int pb), .val (.int pc), .val (.int pd), .val (.int pk), .val (.int (3 : Int32)), .unset, .unset, .unset, .unset, .unset, .unset, .unset] [(.int (3 : Int32))]))
    obtain ⟨Ty10, hy10, ky10, Xy10, ey10, Ey10, Ay10, sty10⟩ := newP X0 hx hZ (hw _ (List.mem_of_getElem? (i := 1) rfl)) e0 (g := (mkF m 11 #[.val (.int pa), .val (.int pb), .val (.int pc), .val (.int pd), .val (.int pk), .val (.int (3 : Int32)), .unset, .unset, .unset, .unset, .unset, .unset, .unset] [(.int (3 : Int32))])) rfl (hb hby at_11) rfl (by decide) (cap := 3) (by decide) (by decide) (by decide) (by decide)
    obtain ⟨by10, gy10⟩ : ∃ z, z = h0.size := ⟨_, rfl⟩
    rw [← gy10] at Ay10 sty10
    have gzy10 : n0 ≤ by10 := Nat.le_trans Z0 (Nat.le_of_eq gy10.symm)
    have szy10 : h0.size ≤ by10 := Nat.le_trans K0.1 (Nat.le_of_eq gy10.symm)
    have Zy10 : n0 ≤ hy10.size := Nat.le_trans Z0 Ey10.1
    have Ky10 : Keep h0 hy10 [] := K0.ext Ey10
    have Vy10 : Arv Z hy10 by10 ky10 .double (3 : Int32) [(.double (FP.l2d (0 : Int64))), (.double (FP.l2d (0 : Int64))), (.double (FP.l2d (0 : Int64)))] (.double (FP.l2d (0 : Int64))) := (Arv.newD Ay10 (by decide)).pad (pad_rep [] (.double (FP.l2d (0 : Int64))) 3)
    refine Fin.step (sty10) ?_
    show Fin p e below s _ _ _ (Ty10.setTop (mkF m 13 #[.val (.int pa), .val (.int pb), .val (.int pc), .val (.int pd), .val (.int pk), .val (.int (3 : Int32)), .unset, .unset, .unset, .unset, .unset, .unset, .unset] [(.ref by10)]))
    refine Fin.step (fun _ => XS.astore Xy10.here hx rfl (hb hby at_13) rfl rfl (l' := #[.val (.int pa), .val (.int pb), .val (.int pc), .val (.int pd), .val (.int pk), .val (.int (3 : Int32)), .val (.ref by10), .unset, .unset, .unset, .unset, .unset, .unset]) rfl) ?_
    show Fin p e below s _ _ _ (Ty10.setTop (mkF m 15 #[.val (.int pa), .val (.int pb), .val (.int pc), .val (.int pd), .val (.int pk), .val (.int (3 : Int32)), .val (.ref by10), .unset, .unset, .unset, .unset, .unset, .unset] []))
    refine Fin.step (fun _ => XS.lconst Xy10.here hx rfl (hb hby at_15)) ?_
    show Fin p e below s _ _ _ (Ty10.setTop (mkF m 16 #[.val (.int pa), .val (.int pb), .val (.int pc), .val (.int pd), .val (.int pk), .val (.int (3 : Int32)), .val (.ref by10), .unset, .unset, .unset, .unset, .unset, .unset] [(.long (0 : Int64))]))
    refine Fin.step (fun _ => XS.lstore Xy10.here hx rfl (hb hby at_16) rfl (l' := #[.val (.int pa), .val (.int pb), .val (.int pc), .val (.int pd), .val (.int pk), .val (.int (3 : Int32)), .val (.ref by10), .val (.long (0 : Int64)), .second, .unset, .unset, .unset, .unset]) rfl) ?_
    show Fin p e below s _ _ _ (Ty10.setTop (mkF m 18 #[.val (.int pa), .val (.int pb), .val (.int pc), .val (.int pd), .val (.int pk), .val (.int (3 : Int32)), .val (.ref by10), .val (.long (0 : Int64)), .second, .unset, .unset, .unset, .unset] []))
    refine Fin.step (fun _ => XS.iload Xy10.here hx rfl (hb hby at_18) rfl) ?_
    show Fin p e below s _ _ _ (Ty10.setTop (mkF m 20 #[.val (.int pa), .val (.int pb), .val (.int pc), .val (.int pd), .val (.int pk), .val (.int (3 : Int32)), .val (.ref by10), .val (.long (0 : Int64)), .second, .unset, .unset, .unset, .unset] [(.int (3 : Int32))]))
    refine Fin.step (fun _ => XS.ifNo Xy10.here hx rfl (hb hby at_20) rfl ((if0 _ _).trans (tlt ((by decide) : ((0 : Int32) < (3 : Int32)))).2.2.2)) ?_
    show Fin p e below s _ _ _ (Ty10.setTop (mkF m 23 #[.val (.int pa), .val (.int pb), .val (.int pc), .val (.int pd), .val (.int pk), .val (.int (3 : Int32)), .val (.ref by10), .val (.long (0 : Int64)), .second, .unset, .unset, .unset, .unset] []))
    refine Fin.step (fun _ => XS.aload Xy10.here hx rfl (hb hby at_23) rfl rfl) ?_
    show Fin p e below s _ _ _ (Ty10.setTop (mkF m 25 #[.val (.int pa), .val (.int pb), .val (.int pc), .val (.int pd), .val (.int pk), .val (.int (3 : Int32)), .val (.ref by10), .val (.long (0 : Int64)), .second, .unset, .unset, .unset, .unset] [(.ref by10)]))
    refine Fin.step (fun _ => XS.iconst Xy10.here hx rfl (hb hby at_25)) ?_
    show Fin p e below s _ _ _ (Ty10.setTop (mkF m 26 #[.val (.int pa), .val (.int pb), .val (.int pc), .val (.int pd), .val (.int pk), .val (.int (3 : Int32)), .val (.ref by10), .val (.long (0 : Int64)), .second, .unset, .unset, .unset, .unset] [(.int (0 : Int32)), (.ref by10)]))
    refine Fin.step (fun _ => XS.iloadN Xy10.here hx rfl (hb hby at_26) rfl) ?_
    show Fin p e below s _ _ _ (Ty10.setTop (mkF m 27 #[.val (.int pa), .val (.int pb), .val (.int pc), .val (.int pd), .val (.int pk), .val (.int (3 : Int32)), .val (.ref by10), .val (.long (0 : Int64)), .second, .unset, .unset, .unset, .unset] [(.int pa), (.int (0 : Int32)), (.ref by10)]))
    refine Fin.step (fun _ => XS.i2dS Xy10.here hx rfl (hb hby at_27) rfl (i2d_w pa)) ?_
    show Fin p e below s _ _ _ (Ty10.setTop (mkF m 28 #[.val (.int pa), .val (.int pb), .val (.int pc), .val (.int pd), .val (.int pk), .val (.int (3 : Int32)), .val (.ref by10), .val (.long (0 : Int64)), .second, .unset, .unset, .unset, .unset] [(.double (FP.l2d pa.toInt64)), (.int (0 : Int32)), (.ref by10)]))
    have voy11 := Vy10
    obtain ⟨cly11, Ary11, qay11, say11, nay11, hay11, gay11⟩ := voy11
    obtain ⟨Ty11, hy11, Xy11, ey11, Wy11, sty11⟩ := stD Xy10 hx hZ ey10 Ary11 (j := (0 : Int32)) (inb_of say11 ⟨by decide, by decide⟩) (g := (mkF m 28 #[.val (.int pa), .val (.int pb), .val (.int pc), .val (.int pd), .val (.int pk), .val (.int (3 : Int32)), .val (.ref by10), .val (.long (0 : Int64)), .second, .unset, .unset, .unset, .unset] [(.double (FP.l2d pa.toInt64)), (.int (0 : Int32)), (.ref by10)])) rfl rfl (hb hby at_28)
    have Vy11 : Arv Z hy11 by10 ky10 .double (3 : Int32) [(.double (FP.l2d pa.toInt64)), (.double (FP.l2d (0 : Int64))), (.double (FP.l2d (0 : Int64)))] (.double (FP.l2d (0 : Int64))) := Arv.set Ary11 qay11 say11 nay11 hay11 gay11 rfl Wy11 0 rfl (Nat.le_of_ble_eq_true rfl)
    have Zy11 : n0 ≤ hy11.size := Nat.le_trans Zy10 (Keep.of_wr Wy11).1
    have Ky11 : Keep h0 hy11 [] := Ky10.wr Wy11 (Or.inr szy10)
    have Ny11 := Fr.snoc Xy11 N0 gzy10
    refine Fin.step (sty11) ?_
    show Fin p e below s _ _ _ (Ty11.setTop (mkF m 29 #[.val (.int pa), .val (.int pb), .val (.int pc), .val (.int pd), .val (.int pk), .val (.int (3 : Int32)), .val (.ref by10), .val (.long (0 : Int64)), .second, .unset, .unset, .unset, .unset] []))
    refine Fin.step (fun _ => XS.lload Xy11.here hx rfl (hb hby at_29) rfl) ?_
    show Fin p e below s _ _ _ (Ty11.setTop (mkF m 31 #[.val (.int pa), .val (.int pb), .val (.int pc), .val (.int pd), .val (.int pk), .val (.int (3 : Int32)), .val (.ref by10), .val (.long (0 : Int64)), .second, .unset, .unset, .unset, .unset] [(.long (0 : Int64))]))
    refine Fin.step (fun _ => XS.iloadN Xy11.here hx rfl (hb hby at_31) rfl) ?_
    show Fin p e below s _ _ _ (Ty11.setTop (mkF m 32 #[.val (.int pa), .val (.int pb), .val (.int pc), .val (.int pd), .val (.int pk), .val (.int (3 : Int32)), .val (.ref by10), .val (.long (0 : Int64)), .second, .unset, .unset, .unset, .unset] [(.int pa), (.long (0 : Int64))]))
    refine Fin.step (fun _ => XS.i2l Xy11.here hx rfl (hb hby at_32) rfl) ?_
    show Fin p e below s _ _ _ (Ty11.setTop (mkF m 33 #[.val (.int pa), .val (.int pb), .val (.int pc), .val (.int pd), .val (.int pk), .val (.int (3 : Int32)), .val (.ref by10), .val (.long (0 : Int64)), .second, .unset, .unset, .unset, .unset] [(.long pa.toInt64), (.long (0 : Int64))]))
    refine Fin.step (fun _ => XS.ladd Xy11.here hx rfl (hb hby at_33) rfl) ?_
    show Fin p e below s _ _ _ (Ty11.setTop (mkF m 34 #[.val (.int pa), .val (.int pb), .val (.int pc), .val (.int pd), .val (.int pk), .val (.int (3 : Int32)), .val (.ref by10), .val (.long (0 : Int64)), .second, .unset, .unset, .unset, .unset] [(.long ((0 : Int64) + pa.toInt64))]))
    refine Fin.step (fun _ => XS.lstore Xy11.here hx rfl (hb hby at_34) rfl (l' := #[.val (.int pa), .val (.int pb), .val (.int pc), .val (.int pd), .val (.int pk), .val (.int (3 : Int32)), .val (.ref by10), .val (.long ((0 : Int64) + pa.toInt64)), .second, .unset, .unset, .unset, .unset]) rfl) ?_
    show Fin p e below s _ _ _ (Ty11.setTop (mkF m 36 #[.val (.int pa), .val (.int pb), .val (.int pc), .val (.int pd), .val (.int pk), .val (.int (3 : Int32)), .val (.ref by10), .val (.long ((0 : Int64) + pa.toInt64)), .second, .unset, .unset, .unset, .unset] []))
    refine Fin.step (fun _ => XS.iload Xy11.here hx rfl (hb hby at_36) rfl) ?_
    show Fin p e below s _ _ _ (Ty11.setTop (mkF m 38 #[.val (.int pa), .val (.int pb), .val (.int pc), .val (.int pd), .val (.int pk), .val (.int (3 : Int32)), .val (.ref by10), .val (.long ((0 : Int64) + pa.toInt64)), .second, .unset, .unset, .unset, .unset] [(.int (3 : Int32))]))
    refine Fin.step (fun _ => XS.iconst Xy11.here hx rfl (hb hby at_38)) ?_
    show Fin p e below s _ _ _ (Ty11.setTop (mkF m 39 #[.val (.int pa), .val (.int pb), .val (.int pc), .val (.int pd), .val (.int pk), .val (.int (3 : Int32)), .val (.ref by10), .val (.long ((0 : Int64) + pa.toInt64)), .second, .unset, .unset, .unset, .unset] [(.int (1 : Int32)), (.int (3 : Int32))]))
    refine Fin.step (fun _ => XS.icmpNo Xy11.here hx rfl (hb hby at_39) rfl (tlt ((by decide) : ((1 : Int32) < (3 : Int32)))).2.2.2) ?_
    show Fin p e below s _ _ _ (Ty11.setTop (mkF m 42 #[.val (.int pa), .val (.int pb), .val (.int pc), .val (.int pd), .val (.int pk), .val (.int (3 : Int32)), .val (.ref by10), .val (.long ((0 : Int64) + pa.toInt64)), .second, .unset, .unset, .unset, .unset] []))
    refine Fin.step (fun _ => XS.aload Xy11.here hx rfl (hb hby at_42) rfl rfl) ?_
    show Fin p e below s _ _ _ (Ty11.setTop (mkF m 44 #[.val (.int pa), .val (.int pb), .val (.int pc), .val (.int pd), .val (.int pk), .val (.int (3 : Int32)), .val (.ref by10), .val (.long ((0 : Int64) + pa.toInt64)), .second, .unset, .unset, .unset, .unset] [(.ref by10)]))
    refine Fin.step (fun _ => XS.iconst Xy11.here hx rfl (hb hby at_44)) ?_
    show Fin p e below s _ _ _ (Ty11.setTop (mkF m 45 #[.val (.int pa), .val (.int pb), .val (.int pc), .val (.int pd), .val (.int pk), .val (.int (3 : Int32)), .val (.ref by10), .val (.long ((0 : Int64) + pa.toInt64)), .second, .unset, .unset, .unset, .unset] [(.int (1 : Int32)), (.ref by10)]))
    refine Fin.step (fun _ => XS.iloadN Xy11.here hx rfl (hb hby at_45) rfl) ?_
    show Fin p e below s _ _ _ (Ty11.setTop (mkF m 46 #[.val (.int pa), .val (.int pb), .val (.int pc), .val (.int pd), .val (.int pk), .val (.int (3 : Int32)), .val (.ref by10), .val (.long ((0 : Int64) + pa.toInt64)), .second, .unset, .unset, .unset, .unset] [(.int pb), (.int (1 : Int32)), (.ref by10)]))
    refine Fin.step (fun _ => XS.i2dS Xy11.here hx rfl (hb hby at_46) rfl (i2d_w pb)) ?_
    show Fin p e below s _ _ _ (Ty11.setTop (mkF m 47 #[.val (.int pa), .val (.int pb), .val (.int pc), .val (.int pd), .val (.int pk), .val (.int (3 : Int32)), .val (.ref by10), .val (.long ((0 : Int64) + pa.toInt64)), .second, .unset, .unset, .unset, .unset] [(.double (FP.l2d pb.toInt64)), (.int (1 : Int32)), (.ref by10)]))
    have voy12 := Vy11
    obtain ⟨cly12, Ary12, qay12, say12, nay12, hay12, gay12⟩ := voy12
    obtain ⟨Ty12, hy12, Xy12, ey12, Wy12, sty12⟩ := stD Xy11 hx hZ ey11 Ary12 (j := (1 : Int32)) (inb_of say12 ⟨by decide, by decide⟩) (g := (mkF m 47 #[.val (.int pa), .val (.int pb), .val (.int pc), .val (.int pd), .val (.int pk), .val (.int (3 : Int32)), .val (.ref by10), .val (.long ((0 : Int64) + pa.toInt64)), .second, .unset, .unset, .unset, .unset] [(.double (FP.l2d pb.toInt64)), (.int (1 : Int32)), (.ref by10)])) rfl rfl (hb hby at_47)
    have Vy12 : Arv Z hy12 by10 ky10 .double (3 : Int32) [(.double (FP.l2d pa.toInt64)), (.double (FP.l2d pb.toInt64)), (.double (FP.l2d (0 : Int64)))] (.double (FP.l2d (0 : Int64))) := Arv.set Ary12 qay12 say12 nay12 hay12 gay12 rfl Wy12 1 rfl (Nat.le_of_ble_eq_true rfl)
    have Zy12 : n0 ≤ hy12.size := Nat.le_trans Zy11 (Keep.of_wr Wy12).1
    have Ky12 : Keep h0 hy12 [] := Ky11.wr Wy12 (Or.inr szy10)
    have Ny12 := Fr.snoc Xy12 Ny11 gzy10
    refine Fin.step (sty12) ?_
    show Fin p e below s _ _ _ (Ty12.setTop (mkF m 48 #[.val (.int pa), .val (.int pb), .val (.int pc), .val (.int pd), .val (.int pk), .val (.int (3 : Int32)), .val (.ref by10), .val (.long ((0 : Int64) + pa.toInt64)), .second, .unset, .unset, .unset, .unset] []))
    refine Fin.step (fun _ => XS.lload Xy12.here hx rfl (hb hby at_48) rfl) ?_
    show Fin p e below s _ _ _ (Ty12.setTop (mkF m 50 #[.val (.int pa), .val (.int pb), .val (.int pc), .val (.int pd), .val (.int pk), .val (.int (3 : Int32)), .val (.ref by10), .val (.long ((0 : Int64) + pa.toInt64)), .second, .unset, .unset, .unset, .unset] [(.long ((0 : Int64) + pa.toInt64))]))
    refine Fin.step (fun _ => XS.iloadN Xy12.here hx rfl (hb hby at_50) rfl) ?_
    show Fin p e below s _ _ _ (Ty12.setTop (mkF m 51 #[.val (.int pa), .val (.int pb), .val (.int pc), .val (.int pd), .val (.int pk), .val (.int (3 : Int32)), .val (.ref by10), .val (.long ((0 : Int64) + pa.toInt64)), .second, .unset, .unset, .unset, .unset] [(.int pb), (.long ((0 : Int64) + pa.toInt64))]))
    refine Fin.step (fun _ => XS.i2l Xy12.here hx rfl (hb hby at_51) rfl) ?_
    show Fin p e below s _ _ _ (Ty12.setTop (mkF m 52 #[.val (.int pa), .val (.int pb), .val (.int pc), .val (.int pd), .val (.int pk), .val (.int (3 : Int32)), .val (.ref by10), .val (.long ((0 : Int64) + pa.toInt64)), .second, .unset, .unset, .unset, .unset] [(.long pb.toInt64), (.long ((0 : Int64) + pa.toInt64))]))
    refine Fin.step (fun _ => XS.ladd Xy12.here hx rfl (hb hby at_52) rfl) ?_
    show Fin p e below s _ _ _ (Ty12.setTop (mkF m 53 #[.val (.int pa), .val (.int pb), .val (.int pc), .val (.int pd), .val (.int pk), .val (.int (3 : Int32)), .val (.ref by10), .val (.long ((0 : Int64) + pa.toInt64)), .second, .unset, .unset, .unset, .unset] [(.long (((0 : Int64) + pa.toInt64) + pb.toInt64))]))
    refine Fin.step (fun _ => XS.lstore Xy12.here hx rfl (hb hby at_53) rfl (l' := #[.val (.int pa), .val (.int pb), .val (.int pc), .val (.int pd), .val (.int pk), .val (.int (3 : Int32)), .val (.ref by10), .val (.long (((0 : Int64) + pa.toInt64) + pb.toInt64)), .second, .unset, .unset, .unset, .unset]) rfl) ?_
    show Fin p e below s _ _ _ (Ty12.setTop (mkF m 55 #[.val (.int pa), .val (.int pb), .val (.int pc), .val (.int pd), .val (.int pk), .val (.int (3 : Int32)), .val (.ref by10), .val (.long (((0 : Int64) + pa.toInt64) + pb.toInt64)), .second, .unset, .unset, .unset, .unset] []))
    refine Fin.step (fun _ => XS.iload Xy12.here hx rfl (hb hby at_55) rfl) ?_
    show Fin p e below s _ _ _ (Ty12.setTop (mkF m 57 #[.val (.int pa), .val (.int pb), .val (.int pc), .val (.int pd), .val (.int pk), .val (.int (3 : Int32)), .val (.ref by10), .val (.long (((0 : Int64) + pa.toInt64) + pb.toInt64)), .second, .unset, .unset, .unset, .unset] [(.int (3 : Int32))]))
    refine Fin.step (fun _ => XS.iconst Xy12.here hx rfl (hb hby at_57)) ?_
    show Fin p e below s _ _ _ (Ty12.setTop (mkF m 58 #[.val (.int pa), .val (.int pb), .val (.int pc), .val (.int pd), .val (.int pk), .val (.int (3 : Int32)), .val (.ref by10), .val (.long (((0 : Int64) + pa.toInt64) + pb.toInt64)), .second, .unset, .unset, .unset, .unset] [(.int (2 : Int32)), (.int (3 : Int32))]))
    refine Fin.step (fun _ => XS.icmpNo Xy12.here hx rfl (hb hby at_58) rfl (tlt ((by decide) : ((2 : Int32) < (3 : Int32)))).2.2.2) ?_
    show Fin p e below s _ _ _ (Ty12.setTop (mkF m 61 #[.val (.int pa), .val (.int pb), .val (.int pc), .val (.int pd), .val (.int pk), .val (.int (3 : Int32)), .val (.ref by10), .val (.long (((0 : Int64) + pa.toInt64) + pb.toInt64)), .second, .unset, .unset, .unset, .unset] []))
    refine Fin.step (fun _ => XS.aload Xy12.here hx rfl (hb hby at_61) rfl rfl) ?_
    show Fin p e below s _ _ _ (Ty12.setTop (mkF m 63 #[.val (.int pa), .val (.int pb), .val (.int pc), .val (.int pd), .val (.int pk), .val (.int (3 : Int32)), .val (.ref by10), .val (.long (((0 : Int64) + pa.toInt64) + pb.toInt64)), .second, .unset, .unset, .unset, .unset] [(.ref by10)]))
    refine Fin.step (fun _ => XS.iconst Xy12.here hx rfl (hb hby at_63)) ?_
    show Fin p e below s _ _ _ (Ty12.setTop (mkF m 64 #[.val (.int pa), .val (.int pb), .val (.int pc), .val (.int pd), .val (.int pk), .val (.int (3 : Int32)), .val (.ref by10), .val (.long (((0 : Int64) + pa.toInt64) + pb.toInt64)), .second, .unset, .unset, .unset, .unset] [(.int (2 : Int32)), (.ref by10)]))
    refine Fin.step (fun _ => XS.iloadN Xy12.here hx rfl (hb hby at_64) rfl) ?_
    show Fin p e below s _ _ _ (Ty12.setTop (mkF m 65 #[.val (.int pa), .val (.int pb), .val (.int pc), .val (.int pd), .val (.int pk), .val (.int (3 : Int32)), .val (.ref by10), .val (.long (((0 : Int64) + pa.toInt64) + pb.toInt64)), .second, .unset, .unset, .unset, .unset] [(.int pc), (.int (2 : Int32)), (.ref by10)]))
    refine Fin.step (fun _ => XS.i2dS Xy12.here hx rfl (hb hby at_65) rfl (i2d_w pc)) ?_
    show Fin p e below s _ _ _ (Ty12.setTop (mkF m 66 #[.val (.int pa), .val (.int pb), .val (.int pc), .val (.int pd), .val (.int pk), .val (.int (3 : Int32)), .val (.ref by10), .val (.long (((0 : Int64) + pa.toInt64) + pb.toInt64)), .second, .unset, .unset, .unset, .unset] [(.double (FP.l2d pc.toInt64)), (.int (2 : Int32)), (.ref by10)]))
    have voy13 := Vy12
    obtain ⟨cly13, Ary13, qay13, say13, nay13, hay13, gay13⟩ := voy13
    obtain ⟨Ty13, hy13, Xy13, ey13, Wy13, sty13⟩ := stD Xy12 hx hZ ey12 Ary13 (j := (2 : Int32)) (inb_of say13 ⟨by decide, by decide⟩) (g := (mkF m 66 #[.val (.int pa), .val (.int pb), .val (.int pc), .val (.int pd), .val (.int pk), .val (.int (3 : Int32)), .val (.ref by10), .val (.long (((0 : Int64) + pa.toInt64) + pb.toInt64)), .second, .unset, .unset, .unset, .unset] [(.double (FP.l2d pc.toInt64)), (.int (2 : Int32)), (.ref by10)])) rfl rfl (hb hby at_66)
    have Vy13 : Arv Z hy13 by10 ky10 .double (3 : Int32) [(.double (FP.l2d pa.toInt64)), (.double (FP.l2d pb.toInt64)), (.double (FP.l2d pc.toInt64))] (.double (FP.l2d (0 : Int64))) := Arv.set Ary13 qay13 say13 nay13 hay13 gay13 rfl Wy13 2 rfl (Nat.le_of_ble_eq_true rfl)
    have Zy13 : n0 ≤ hy13.size := Nat.le_trans Zy12 (Keep.of_wr Wy13).1
    have Ky13 : Keep h0 hy13 [] := Ky12.wr Wy13 (Or.inr szy10)
    have Ny13 := Fr.snoc Xy13 Ny12 gzy10
    refine Fin.step (sty13) ?_
    show Fin p e below s _ _ _ (Ty13.setTop (mkF m 67 #[.val (.int pa), .val (.int pb), .val (.int pc), .val (.int pd), .val (.int pk), .val (.int (3 : Int32)), .val (.ref by10), .val (.long (((0 : Int64) + pa.toInt64) + pb.toInt64)), .second, .unset, .unset, .unset, .unset] []))
    refine Fin.step (fun _ => XS.lload Xy13.here hx rfl (hb hby at_67) rfl) ?_
    show Fin p e below s _ _ _ (Ty13.setTop (mkF m 69 #[.val (.int pa), .val (.int pb), .val (.int pc), .val (.int pd), .val (.int pk), .val (.int (3 : Int32)), .val (.ref by10), .val (.long (((0 : Int64) + pa.toInt64) + pb.toInt64)), .second, .unset, .unset, .unset, .unset] [(.long (((0 : Int64) + pa.toInt64) + pb.toInt64))]))
    refine Fin.step (fun _ => XS.iloadN Xy13.here hx rfl (hb hby at_69) rfl) ?_
    show Fin p e below s _ _ _ (Ty13.setTop (mkF m 70 #[.val (.int pa), .val (.int pb), .val (.int pc), .val (.int pd), .val (.int pk), .val (.int (3 : Int32)), .val (.ref by10), .val (.long (((0 : Int64) + pa.toInt64) + pb.toInt64)), .second, .unset, .unset, .unset, .unset] [(.int pc), (.long (((0 : Int64) + pa.toInt64) + pb.toInt64))]))
    refine Fin.step (fun _ => XS.i2l Xy13.here hx rfl (hb hby at_70) rfl) ?_
    show Fin p e below s _ _ _ (Ty13.setTop (mkF m 71 #[.val (.int pa), .val (.int pb), .val (.int pc), .val (.int pd), .val (.int pk), .val (.int (3 : Int32)), .val (.ref by10), .val (.long (((0 : Int64) + pa.toInt64) + pb.toInt64)), .second, .unset, .unset, .unset, .unset] [(.long pc.toInt64), (.long (((0 : Int64) + pa.toInt64) + pb.toInt64))]))
    refine Fin.step (fun _ => XS.ladd Xy13.here hx rfl (hb hby at_71) rfl) ?_
    show Fin p e below s _ _ _ (Ty13.setTop (mkF m 72 #[.val (.int pa), .val (.int pb), .val (.int pc), .val (.int pd), .val (.int pk), .val (.int (3 : Int32)), .val (.ref by10), .val (.long (((0 : Int64) + pa.toInt64) + pb.toInt64)), .second, .unset, .unset, .unset, .unset] [(.long ((((0 : Int64) + pa.toInt64) + pb.toInt64) + pc.toInt64))]))
    refine Fin.step (fun _ => XS.lstore Xy13.here hx rfl (hb hby at_72) rfl (l' := #[.val (.int pa), .val (.int pb), .val (.int pc), .val (.int pd), .val (.int pk), .val (.int (3 : Int32)), .val (.ref by10), .val (.long ((((0 : Int64) + pa.toInt64) + pb.toInt64) + pc.toInt64)), .second, .unset, .unset, .unset, .unset]) rfl) ?_
    show Fin p e below s _ _ _ (Ty13.setTop (mkF m 74 #[.val (.int pa), .val (.int pb), .val (.int pc), .val (.int pd), .val (.int pk), .val (.int (3 : Int32)), .val (.ref by10), .val (.long ((((0 : Int64) + pa.toInt64) + pb.toInt64) + pc.toInt64)), .second, .unset, .unset, .unset, .unset] []))
    refine Fin.step (fun _ => XS.iload Xy13.here hx rfl (hb hby at_74) rfl) ?_
    show Fin p e below s _ _ _ (Ty13.setTop (mkF m 76 #[.val (.int pa), .val (.int pb), .val (.int pc), .val (.int pd), .val (.int pk), .val (.int (3 : Int32)), .val (.ref by10), .val (.long ((((0 : Int64) + pa.toInt64) + pb.toInt64) + pc.toInt64)), .second, .unset, .unset, .unset, .unset] [(.int (3 : Int32))]))
    refine Fin.step (fun _ => XS.iconst Xy13.here hx rfl (hb hby at_76)) ?_
    show Fin p e below s _ _ _ (Ty13.setTop (mkF m 77 #[.val (.int pa), .val (.int pb), .val (.int pc), .val (.int pd), .val (.int pk), .val (.int (3 : Int32)), .val (.ref by10), .val (.long ((((0 : Int64) + pa.toInt64) + pb.toInt64) + pc.toInt64)), .second, .unset, .unset, .unset, .unset] [(.int (3 : Int32)), (.int (3 : Int32))]))
    refine Fin.step (fun _ => XS.icmpYes Xy13.here hx rfl (pc0 := 77) (pc' := 93) rfl (hb hby at_77) rfl (flt ((by decide) : ¬ ((3 : Int32) < (3 : Int32)))).2.2.2 (by decide) (by decide)) ?_
    show Fin p e below s _ _ _ (Ty13.setTop (mkF m 93 #[.val (.int pa), .val (.int pb), .val (.int pc), .val (.int pd), .val (.int pk), .val (.int (3 : Int32)), .val (.ref by10), .val (.long ((((0 : Int64) + pa.toInt64) + pb.toInt64) + pc.toInt64)), .second, .unset, .unset, .unset, .unset] []))
    refine Fin.step (fun _ => XS.iload Xy13.here hx rfl (hb hby at_93) rfl) ?_
    show Fin p e below s _ _ _ (Ty13.setTop (mkF m 95 #[.val (.int pa), .val (.int pb), .val (.int pc), .val (.int pd), .val (.int pk), .val (.int (3 : Int32)), .val (.ref by10), .val (.long ((((0 : Int64) + pa.toInt64) + pb.toInt64) + pc.toInt64)), .second, .unset, .unset, .unset, .unset] [(.int (3 : Int32))]))
    refine Fin.step (fun _ => XS.ifYes Xy13.here hx rfl (pc0 := 95) (pc' := 102) rfl (hb hby at_95) rfl ((if0 _ _).trans (feq ((by decide) : ¬ ((3 : Int32) = (0 : Int32)))).2) (by decide) (by decide)) ?_
    show Fin p e below s _ _ _ (Ty13.setTop (mkF m 102 #[.val (.int pa), .val (.int pb), .val (.int pc), .val (.int pd), .val (.int pk), .val (.int (3 : Int32)), .val (.ref by10), .val (.long ((((0 : Int64) + pa.toInt64) + pb.toInt64) + pc.toInt64)), .second, .unset, .unset, .unset, .unset] []))
    refine Fin.step (fun _ => XS.lload Xy13.here hx rfl (hb hby at_102) rfl) ?_
    show Fin p e below s _ _ _ (Ty13.setTop (mkF m 104 #[.val (.int pa), .val (.int pb), .val (.int pc), .val (.int pd), .val (.int pk), .val (.int (3 : Int32)), .val (.ref by10), .val (.long ((((0 : Int64) + pa.toInt64) + pb.toInt64) + pc.toInt64)), .second, .unset, .unset, .unset, .unset] [(.long ((((0 : Int64) + pa.toInt64) + pb.toInt64) + pc.toInt64))]))
    refine Fin.step (fun _ => XS.l2dS Xy13.here hx rfl (hb hby at_104) rfl rfl) ?_
    show Fin p e below s _ _ _ (Ty13.setTop (mkF m 105 #[.val (.int pa), .val (.int pb), .val (.int pc), .val (.int pd), .val (.int pk), .val (.int (3 : Int32)), .val (.ref by10), .val (.long ((((0 : Int64) + pa.toInt64) + pb.toInt64) + pc.toInt64)), .second, .unset, .unset, .unset, .unset] [(.double (FP.l2d ((((0 : Int64) + pa.toInt64) + pb.toInt64) + pc.toInt64)))]))
    refine Fin.step (fun _ => XS.iload Xy13.here hx rfl (hb hby at_105) rfl) ?_
    show Fin p e below s _ _ _ (Ty13.setTop (mkF m 107 #[.val (.int pa), .val (.int pb), .val (.int pc), .val (.int pd), .val (.int pk), .val (.int (3 : Int32)), .val (.ref by10), .val (.long ((((0 : Int64) + pa.toInt64) + pb.toInt64) + pc.toInt64)), .second, .unset, .unset, .unset, .unset] [(.int (3 : Int32)), (.double (FP.l2d ((((0 : Int64) + pa.toInt64) + pb.toInt64) + pc.toInt64)))]))
    refine Fin.step (fun _ => XS.i2dS Xy13.here hx rfl (hb hby at_107) rfl (i2d_w (3 : Int32))) ?_
    show Fin p e below s _ _ _ (Ty13.setTop (mkF m 108 #[.val (.int pa), .val (.int pb), .val (.int pc), .val (.int pd), .val (.int pk), .val (.int (3 : Int32)), .val (.ref by10), .val (.long ((((0 : Int64) + pa.toInt64) + pb.toInt64) + pc.toInt64)), .second, .unset, .unset, .unset, .unset] [(.double (FP.l2d (3 : Int32).toInt64)), (.double (FP.l2d ((((0 : Int64) + pa.toInt64) + pb.toInt64) + pc.toInt64)))]))
    refine Fin.step (fun _ => XS.ddivS Xy13.here hx rfl (hb hby at_108) rfl (own_div _ _ (by unfold Jvm.Free.Fl.Nz64; decide +kernel)) rfl) ?_
    show Fin p e below s _ _ _ (Ty13.setTop (mkF m 109 #[.val (.int pa), .val (.int pb), .val (.int pc), .val (.int pd), .val (.int pk), .val (.int (3 : Int32)), .val (.ref by10), .val (.long ((((0 : Int64) + pa.toInt64) + pb.toInt64) + pc.toInt64)), .second, .unset, .unset, .unset, .unset] [(.double (FP.ddiv (FP.l2d ((((0 : Int64) + pa.toInt64) + pb.toInt64) + pc.toInt64)) (FP.l2d (3 : Int32).toInt64)))]))
    refine Fin.step (fun _ => XS.dstore Xy13.here hx rfl (hb hby at_109) rfl (l' := #[.val (.int pa), .val (.int pb), .val (.int pc), .val (.int pd), .val (.int pk), .val (.int (3 : Int32)), .val (.ref by10), .val (.long ((((0 : Int64) + pa.toInt64) + pb.toInt64) + pc.toInt64)), .second, .val (.double (FP.ddiv (FP.l2d ((((0 : Int64) + pa.toInt64) + pb.toInt64) + pc.toInt64)) (FP.l2d (3 : Int32).toInt64))), .second, .unset, .unset]) rfl) ?_
    show Fin p e below s _ _ _ (Ty13.setTop (mkF m 111 #[.val (.int pa), .val (.int pb), .val (.int pc), .val (.int pd), .val (.int pk), .val (.int (3 : Int32)), .val (.ref by10), .val (.long ((((0 : Int64) + pa.toInt64) + pb.toInt64) + pc.toInt64)), .second, .val (.double (FP.ddiv (FP.l2d ((((0 : Int64) + pa.toInt64) + pb.toInt64) + pc.toInt64)) (FP.l2d (3 : Int32).toInt64))), .second, .unset, .unset] []))
    refine Fin.step (fun _ => XS.aload Xy13.here hx rfl (hb hby at_111) rfl rfl) ?_
    show Fin p e below s _ _ _ (Ty13.setTop (mkF m 113 #[.val (.int pa), .val (.int pb), .val (.int pc), .val (.int pd), .val (.int pk), .val (.int (3 : Int32)), .val (.ref by10), .val (.long ((((0 : Int64) + pa.toInt64) + pb.toInt64) + pc.toInt64)), .second, .val (.double (FP.ddiv (FP.l2d ((((0 : Int64) + pa.toInt64) + pb.toInt64) + pc.toInt64)) (FP.l2d (3 : Int32).toInt64))), .second, .unset, .unset] [(.ref by10)]))
    obtain ⟨_, _, ⟨Ty14, Ly14, ky14, ny14⟩, -, Xy14, ⟨Lcy14, hQy14, ly14, yy14, zy14⟩, sty14⟩ := Jvm.LawKit.callS Xy13 hx (y := (⟨"com/example/indexterity/indexterity/comparison/PairedTests", "mean", "([D)D"⟩ : MethodName)) hown (mvT hZ (hw _ (List.mem_of_getElem? (i := 2) rfl))) (mvT hZ (hw _ (List.mem_of_getElem? (i := 3) rfl))) (mvT hZ (hw _ (List.mem_of_getElem? (i := 4) rfl))) (mvT hZ (hw _ (List.mem_of_getElem? (i := 5) rfl))) (by decide) (backOf (W := 0) (rmm3 l Z a0 hw [] by10 ky10 pa pb pc hy13 n0 Zy13 Vy13) hZ (hw _ (List.mem_of_getElem? (i := 5) rfl)) (hw _ (List.mem_of_getElem? (i := 4) rfl)) (by decide) (by decide)) (g := (mkF m 113 #[.val (.int pa), .val (.int pb), .val (.int pc), .val (.int pd), .val (.int pk), .val (.int (3 : Int32)), .val (.ref by10), .val (.long ((((0 : Int64) + pa.toInt64) + pb.toInt64) + pc.toInt64)), .second, .val (.double (FP.ddiv (FP.l2d ((((0 : Int64) + pa.toInt64) + pb.toInt64) + pc.toInt64)) (FP.l2d (3 : Int32).toInt64))), .second, .unset, .unset] [(.ref by10)])) rfl (by rw [hml]; rfl) (argsL := [(.ref by10)]) (rest := []) (lenOf pd_0 rfl) rfl (by show 2 * 0 + _ ≤ _; exact Nat.le_of_eq rfl) (hb hby at_113) (fun _ _ => ⟨rfl, ey13, (by decide : 1 + 0 ≤ _), (by decide : 3 + 0 ≤ _)⟩)
    dsimp only [Pt.U, Pt.locs, Pt.cells, Pt.slots] at Xy14 ly14 yy14 zy14 sty14 hQy14
    subst ly14 yy14 zy14
    obtain ⟨rfl, Nqy14, eqy14⟩ := hQy14
    have Ny14 := Fr.app Ny13 Nqy14
    refine Fin.step (sty14) ?_
    show Fin p e below s _ _ _ (Ty14.setTop (mkF m 116 #[.val (.int pa), .val (.int pb), .val (.int pc), .val (.int pd), .val (.int pk), .val (.int (3 : Int32)), .val (.ref by10), .val (.long ((((0 : Int64) + pa.toInt64) + pb.toInt64) + pc.toInt64)), .second, .val (.double (FP.ddiv (FP.l2d ((((0 : Int64) + pa.toInt64) + pb.toInt64) + pc.toInt64)) (FP.l2d (3 : Int32).toInt64))), .second, .unset, .unset] [(.double (FP.ddiv (FP.l2d ((((0 : Int64) + pa.toInt64) + pb.toInt64) + pc.toInt64)) (FP.l2d (3 : Int32).toInt64)))]))
    refine Fin.step (fun _ => XS.dstore Xy14.here hx rfl (hb hby at_116) rfl (l' := #[.val (.int pa), .val (.int pb), .val (.int pc), .val (.int pd), .val (.int pk), .val (.int (3 : Int32)), .val (.ref by10), .val (.long ((((0 : Int64) + pa.toInt64) + pb.toInt64) + pc.toInt64)), .second, .val (.double (FP.ddiv (FP.l2d ((((0 : Int64) + pa.toInt64) + pb.toInt64) + pc.toInt64)) (FP.l2d (3 : Int32).toInt64))), .second, .val (.double (FP.ddiv (FP.l2d ((((0 : Int64) + pa.toInt64) + pb.toInt64) + pc.toInt64)) (FP.l2d (3 : Int32).toInt64))), .second]) rfl) ?_
    show Fin p e below s _ _ _ (Ty14.setTop (mkF m 118 #[.val (.int pa), .val (.int pb), .val (.int pc), .val (.int pd), .val (.int pk), .val (.int (3 : Int32)), .val (.ref by10), .val (.long ((((0 : Int64) + pa.toInt64) + pb.toInt64) + pc.toInt64)), .second, .val (.double (FP.ddiv (FP.l2d ((((0 : Int64) + pa.toInt64) + pb.toInt64) + pc.toInt64)) (FP.l2d (3 : Int32).toInt64))), .second, .val (.double (FP.ddiv (FP.l2d ((((0 : Int64) + pa.toInt64) + pb.toInt64) + pc.toInt64)) (FP.l2d (3 : Int32).toInt64))), .second] []))
    refine Fin.step (fun _ => XS.dload Xy14.here hx rfl (hb hby at_118) rfl) ?_
    show Fin p e below s _ _ _ (Ty14.setTop (mkF m 120 #[.val (.int pa), .val (.int pb), .val (.int pc), .val (.int pd), .val (.int pk), .val (.int (3 : Int32)), .val (.ref by10), .val (.long ((((0 : Int64) + pa.toInt64) + pb.toInt64) + pc.toInt64)), .second, .val (.double (FP.ddiv (FP.l2d ((((0 : Int64) + pa.toInt64) + pb.toInt64) + pc.toInt64)) (FP.l2d (3 : Int32).toInt64))), .second, .val (.double (FP.ddiv (FP.l2d ((((0 : Int64) + pa.toInt64) + pb.toInt64) + pc.toInt64)) (FP.l2d (3 : Int32).toInt64))), .second] [(.double (FP.ddiv (FP.l2d ((((0 : Int64) + pa.toInt64) + pb.toInt64) + pc.toInt64)) (FP.l2d (3 : Int32).toInt64)))]))
    refine Fin.step (fun _ => XS.dload Xy14.here hx rfl (hb hby at_120) rfl) ?_
    show Fin p e below s _ _ _ (Ty14.setTop (mkF m 122 #[.val (.int pa), .val (.int pb), .val (.int pc), .val (.int pd), .val (.int pk), .val (.int (3 : Int32)), .val (.ref by10), .val (.long ((((0 : Int64) + pa.toInt64) + pb.toInt64) + pc.toInt64)), .second, .val (.double (FP.ddiv (FP.l2d ((((0 : Int64) + pa.toInt64) + pb.toInt64) + pc.toInt64)) (FP.l2d (3 : Int32).toInt64))), .second, .val (.double (FP.ddiv (FP.l2d ((((0 : Int64) + pa.toInt64) + pb.toInt64) + pc.toInt64)) (FP.l2d (3 : Int32).toInt64))), .second] [(.double (FP.ddiv (FP.l2d ((((0 : Int64) + pa.toInt64) + pb.toInt64) + pc.toInt64)) (FP.l2d (3 : Int32).toInt64))), (.double (FP.ddiv (FP.l2d ((((0 : Int64) + pa.toInt64) + pb.toInt64) + pc.toInt64)) (FP.l2d (3 : Int32).toInt64)))]))
    refine Fin.step (fun _ => XS.dcmpS Xy14.here hx rfl (hb hby at_122) rfl (dcmpV_self (own_div _ _ (by unfold Jvm.Free.Fl.Nz64; decide +kernel)) .l)) ?_
    show Fin p e below s _ _ _ (Ty14.setTop (mkF m 123 #[.val (.int pa), .val (.int pb), .val (.int pc), .val (.int pd), .val (.int pk), .val (.int (3 : Int32)), .val (.ref by10), .val (.long ((((0 : Int64) + pa.toInt64) + pb.toInt64) + pc.toInt64)), .second, .val (.double (FP.ddiv (FP.l2d ((((0 : Int64) + pa.toInt64) + pb.toInt64) + pc.toInt64)) (FP.l2d (3 : Int32).toInt64))), .second, .val (.double (FP.ddiv (FP.l2d ((((0 : Int64) + pa.toInt64) + pb.toInt64) + pc.toInt64)) (FP.l2d (3 : Int32).toInt64))), .second] [(.int (0 : Int32))]))
    refine Fin.step (fun _ => XS.ifNo Xy14.here hx rfl (hb hby at_123) rfl ((if0 _ _).trans (teq ((by decide) : ((0 : Int32) = (0 : Int32)))).2)) ?_
    show Fin p e below s _ _ _ (Ty14.setTop (mkF m 126 #[.val (.int pa), .val (.int pb), .val (.int pc), .val (.int pd), .val (.int pk), .val (.int (3 : Int32)), .val (.ref by10), .val (.long ((((0 : Int64) + pa.toInt64) + pb.toInt64) + pc.toInt64)), .second, .val (.double (FP.ddiv (FP.l2d ((((0 : Int64) + pa.toInt64) + pb.toInt64) + pc.toInt64)) (FP.l2d (3 : Int32).toInt64))), .second, .val (.double (FP.ddiv (FP.l2d ((((0 : Int64) + pa.toInt64) + pb.toInt64) + pc.toInt64)) (FP.l2d (3 : Int32).toInt64))), .second] []))
    refine Fin.step (fun _ => XS.iconst Xy14.here hx rfl (hb hby at_126)) ?_
    show Fin p e below s _ _ _ (Ty14.setTop (mkF m 127 #[.val (.int pa), .val (.int pb), .val (.int pc), .val (.int pd), .val (.int pk), .val (.int (3 : Int32)), .val (.ref by10), .val (.long ((((0 : Int64) + pa.toInt64) + pb.toInt64) + pc.toInt64)), .second, .val (.double (FP.ddiv (FP.l2d ((((0 : Int64) + pa.toInt64) + pb.toInt64) + pc.toInt64)) (FP.l2d (3 : Int32).toInt64))), .second, .val (.double (FP.ddiv (FP.l2d ((((0 : Int64) + pa.toInt64) + pb.toInt64) + pc.toInt64)) (FP.l2d (3 : Int32).toInt64))), .second] [(.int (1 : Int32))]))
    refine Fin.step (fun _ => XS.goto Xy14.here hx rfl (pc0 := 127) (pc' := 131) rfl (hb hby at_127) (by decide) (by decide)) ?_
    show Fin p e below s _ _ _ (Ty14.setTop (mkF m 131 #[.val (.int pa), .val (.int pb), .val (.int pc), .val (.int pd), .val (.int pk), .val (.int (3 : Int32)), .val (.ref by10), .val (.long ((((0 : Int64) + pa.toInt64) + pb.toInt64) + pc.toInt64)), .second, .val (.double (FP.ddiv (FP.l2d ((((0 : Int64) + pa.toInt64) + pb.toInt64) + pc.toInt64)) (FP.l2d (3 : Int32).toInt64))), .second, .val (.double (FP.ddiv (FP.l2d ((((0 : Int64) + pa.toInt64) + pb.toInt64) + pc.toInt64)) (FP.l2d (3 : Int32).toInt64))), .second] [(.int (1 : Int32))]))
    refine Fin.retN Xy14 hx (t := .boolean) hret (by simp) hlk (hb hby at_131) (by decide) (by decide) ?_
    show Q0 Z pa pb pc pd pk h0 n0 _ Ty14.heap _
    rw [eqy14]
    exact ⟨rfl, Ny14, Ky13⟩
  · rw [qn]
    show Fin p e below s _ _ _ (s₁.setTop (mkF m 9 #[.val (.int pa), .val (.int pb), .val (.int pc), .val (.int pd), .val (.int pk), .val (.int (4 : Int32)), .unset, .unset, .unset, .unset, .unset, .unset, .unset] []))
    refine Fin.step (fun _ => XS.iload X0.here hx rfl (hb hby at_9) rfl) ?_
    show Fin p e below s _ _ _ (s₁.setTop (mkF m 11 #[.val (.int pa), .val (.int pb), .val (.int pc), .val (.int pd), .val (.int pk), .val (.int (4 : Int32)), .unset, .unset, .unset, .unset, .unset, .unset, .unset] [(.int (4 : Int32))]))
    obtain ⟨Ty15, hy15, ky15, Xy15, ey15, Ey15, Ay15, sty15⟩ := newP X0 hx hZ (hw _ (List.mem_of_getElem? (i := 1) rfl)) e0 (g := (mkF m 11 #[.val (.int pa), .val (.int pb), .val (.int pc), .val (.int pd), .val (.int pk), .val (.int (4 : Int32)), .unset, .unset, .unset, .unset, .unset, .unset, .unset] [(.int (4 : Int32))])) rfl (hb hby at_11) rfl (by decide) (cap := 4) (by decide) (by decide) (by decide) (by decide)
    obtain ⟨by15, gy15⟩ : ∃ z, z = h0.size := ⟨_, rfl⟩
    rw [← gy15] at Ay15 sty15
    have gzy15 : n0 ≤ by15 := Nat.le_trans Z0 (Nat.le_of_eq gy15.symm)
    have szy15 : h0.size ≤ by15 := Nat.le_trans K0.1 (Nat.le_of_eq gy15.symm)
    have Zy15 : n0 ≤ hy15.size := Nat.le_trans Z0 Ey15.1
    have Ky15 : Keep h0 hy15 [] := K0.ext Ey15
    have Vy15 : Arv Z hy15 by15 ky15 .double (4 : Int32) [(.double (FP.l2d (0 : Int64))), (.double (FP.l2d (0 : Int64))), (.double (FP.l2d (0 : Int64))), (.double (FP.l2d (0 : Int64)))] (.double (FP.l2d (0 : Int64))) := (Arv.newD Ay15 (by decide)).pad (pad_rep [] (.double (FP.l2d (0 : Int64))) 4)
    refine Fin.step (sty15) ?_
    show Fin p e below s _ _ _ (Ty15.setTop (mkF m 13 #[.val (.int pa), .val (.int pb), .val (.int pc), .val (.int pd), .val (.int pk), .val (.int (4 : Int32)), .unset, .unset, .unset, .unset, .unset, .unset, .unset] [(.ref by15)]))
    refine Fin.step (fun _ => XS.astore Xy15.here hx rfl (hb hby at_13) rfl rfl (l' := #[.val (.int pa), .val (.int pb), .val (.int pc), .val (.int pd), .val (.int pk), .val (.int (4 : Int32)), .val (.ref by15), .unset, .unset, .unset, .unset, .unset, .unset]) rfl) ?_
    show Fin p e below s _ _ _ (Ty15.setTop (mkF m 15 #[.val (.int pa), .val (.int pb), .val (.int pc), .val (.int pd), .val (.int pk), .val (.int (4 : Int32)), .val (.ref by15), .unset, .unset, .unset, .unset, .unset, .unset] []))
    refine Fin.step (fun _ => XS.lconst Xy15.here hx rfl (hb hby at_15)) ?_
    show Fin p e below s _ _ _ (Ty15.setTop (mkF m 16 #[.val (.int pa), .val (.int pb), .val (.int pc), .val (.int pd), .val (.int pk), .val (.int (4 : Int32)), .val (.ref by15), .unset, .unset, .unset, .unset, .unset, .unset] [(.long (0 : Int64))]))
    refine Fin.step (fun _ => XS.lstore Xy15.here hx rfl (hb hby at_16) rfl (l' := #[.val (.int pa), .val (.int pb), .val (.int pc), .val (.int pd), .val (.int pk), .val (.int (4 : Int32)), .val (.ref by15), .val (.long (0 : Int64)), .second, .unset, .unset, .unset, .unset]) rfl) ?_
    show Fin p e below s _ _ _ (Ty15.setTop (mkF m 18 #[.val (.int pa), .val (.int pb), .val (.int pc), .val (.int pd), .val (.int pk), .val (.int (4 : Int32)), .val (.ref by15), .val (.long (0 : Int64)), .second, .unset, .unset, .unset, .unset] []))
    refine Fin.step (fun _ => XS.iload Xy15.here hx rfl (hb hby at_18) rfl) ?_
    show Fin p e below s _ _ _ (Ty15.setTop (mkF m 20 #[.val (.int pa), .val (.int pb), .val (.int pc), .val (.int pd), .val (.int pk), .val (.int (4 : Int32)), .val (.ref by15), .val (.long (0 : Int64)), .second, .unset, .unset, .unset, .unset] [(.int (4 : Int32))]))
    refine Fin.step (fun _ => XS.ifNo Xy15.here hx rfl (hb hby at_20) rfl ((if0 _ _).trans (tlt ((by decide) : ((0 : Int32) < (4 : Int32)))).2.2.2)) ?_
    show Fin p e below s _ _ _ (Ty15.setTop (mkF m 23 #[.val (.int pa), .val (.int pb), .val (.int pc), .val (.int pd), .val (.int pk), .val (.int (4 : Int32)), .val (.ref by15), .val (.long (0 : Int64)), .second, .unset, .unset, .unset, .unset] []))
    refine Fin.step (fun _ => XS.aload Xy15.here hx rfl (hb hby at_23) rfl rfl) ?_
    show Fin p e below s _ _ _ (Ty15.setTop (mkF m 25 #[.val (.int pa), .val (.int pb), .val (.int pc), .val (.int pd), .val (.int pk), .val (.int (4 : Int32)), .val (.ref by15), .val (.long (0 : Int64)), .second, .unset, .unset, .unset, .unset] [(.ref by15)]))
    refine Fin.step (fun _ => XS.iconst Xy15.here hx rfl (hb hby at_25)) ?_
    show Fin p e below s _ _ _ (Ty15.setTop (mkF m 26 #[.val (.int pa), .val (.int pb), .val (.int pc), .val (.int pd), .val (.int pk), .val (.int (4 : Int32)), .val (.ref by15), .val (.long (0 : Int64)), .second, .unset, .unset, .unset, .unset] [(.int (0 : Int32)), (.ref by15)]))
    refine Fin.step (fun _ => XS.iloadN Xy15.here hx rfl (hb hby at_26) rfl) ?_
    show Fin p e below s _ _ _ (Ty15.setTop (mkF m 27 #[.val (.int pa), .val (.int pb), .val (.int pc), .val (.int pd), .val (.int pk), .val (.int (4 : Int32)), .val (.ref by15), .val (.long (0 : Int64)), .second, .unset, .unset, .unset, .unset] [(.int pa), (.int (0 : Int32)), (.ref by15)]))
    refine Fin.step (fun _ => XS.i2dS Xy15.here hx rfl (hb hby at_27) rfl (i2d_w pa)) ?_
    show Fin p e below s _ _ _ (Ty15.setTop (mkF m 28 #[.val (.int pa), .val (.int pb), .val (.int pc), .val (.int pd), .val (.int pk), .val (.int (4 : Int32)), .val (.ref by15), .val (.long (0 : Int64)), .second, .unset, .unset, .unset, .unset] [(.double (FP.l2d pa.toInt64)), (.int (0 : Int32)), (.ref by15)]))
    have voy16 := Vy15
    obtain ⟨cly16, Ary16, qay16, say16, nay16, hay16, gay16⟩ := voy16
    obtain ⟨Ty16, hy16, Xy16, ey16, Wy16, sty16⟩ := stD Xy15 hx hZ ey15 Ary16 (j := (0 : Int32)) (inb_of say16 ⟨by decide, by decide⟩) (g := (mkF m 28 #[.val (.int pa), .val (.int pb), .val (.int pc), .val (.int pd), .val (.int pk), .val (.int (4 : Int32)), .val (.ref by15), .val (.long (0 : Int64)), .second, .unset, .unset, .unset, .unset] [(.double (FP.l2d pa.toInt64)), (.int (0 : Int32)), (.ref by15)])) rfl rfl (hb hby at_28)
    have Vy16 : Arv Z hy16 by15 ky15 .double (4 : Int32) [(.double (FP.l2d pa.toInt64)), (.double (FP.l2d (0 : Int64))), (.double (FP.l2d (0 : Int64))), (.double (FP.l2d (0 : Int64)))] (.double (FP.l2d (0 : Int64))) := Arv.set Ary16 qay16 say16 nay16 hay16 gay16 rfl Wy16 0 rfl (Nat.le_of_ble_eq_true rfl)
    have Zy16 : n0 ≤ hy16.size := Nat.le_trans Zy15 (Keep.of_wr Wy16).1
    have Ky16 : Keep h0 hy16 [] := Ky15.wr Wy16 (Or.inr szy15)
    have Ny16 := Fr.snoc Xy16 N0 gzy15
    refine Fin.step (sty16) ?_
    show Fin p e below s _ _ _ (Ty16.setTop (mkF m 29 #[.val (.int pa), .val (.int pb), .val (.int pc), .val (.int pd), .val (.int pk), .val (.int (4 : Int32)), .val (.ref by15), .val (.long (0 : Int64)), .second, .unset, .unset, .unset, .unset] []))
    refine Fin.step (fun _ => XS.lload Xy16.here hx rfl (hb hby at_29) rfl) ?_
    show Fin p e below s _ _ _ (Ty16.setTop (mkF m 31 #[.val (.int pa), .val (.int pb), .val (.int pc), .val (.int pd), .val (.int pk), .val (.int (4 : Int32)), .val (.ref by15), .val (.long (0 : Int64)), .second, .unset, .unset, .unset, .unset] [(.long (0 : Int64))]))
    refine Fin.step (fun _ => XS.iloadN Xy16.here hx rfl (hb hby at_31) rfl) ?_
    show Fin p e below s _ _ _ (Ty16.setTop (mkF m 32 #[.val (.int pa), .val (.int pb), .val (.int pc), .val (.int pd), .val (.int pk), .val (.int (4 : Int32)), .val (.ref by15), .val (.long (0 : Int64)), .second, .unset, .unset, .unset, .unset] [(.int pa), (.long (0 : Int64))]))
    refine Fin.step (fun _ => XS.i2l Xy16.here hx rfl (hb hby at_32) rfl) ?_
    show Fin p e below s _ _ _ (Ty16.setTop (mkF m 33 #[.val (.int pa), .val (.int pb), .val (.int pc), .val (.int pd), .val (.int pk), .val (.int (4 : Int32)), .val (.ref by15), .val (.long (0 : Int64)), .second, .unset, .unset, .unset, .unset] [(.long pa.toInt64), (.long (0 : Int64))]))
    refine Fin.step (fun _ => XS.ladd Xy16.here hx rfl (hb hby at_33) rfl) ?_
    show Fin p e below s _ _ _ (Ty16.setTop (mkF m 34 #[.val (.int pa), .val (.int pb), .val (.int pc), .val (.int pd), .val (.int pk), .val (.int (4 : Int32)), .val (.ref by15), .val (.long (0 : Int64)), .second, .unset, .unset, .unset, .unset] [(.long ((0 : Int64) + pa.toInt64))]))
    refine Fin.step (fun _ => XS.lstore Xy16.here hx rfl (hb hby at_34) rfl (l' := #[.val (.int pa), .val (.int pb), .val (.int pc), .val (.int pd), .val (.int pk), .val (.int (4 : Int32)), .val (.ref by15), .val (.long ((0 : Int64) + pa.toInt64)), .second, .unset, .unset, .unset, .unset]) rfl) ?_
    show Fin p e below s _ _ _ (Ty16.setTop (mkF m 36 #[.val (.int pa), .val (.int pb), .val (.int pc), .val (.int pd), .val (.int pk), .val (.int (4 : Int32)), .val (.ref by15), .val (.long ((0 : Int64) + pa.toInt64)), .second, .unset, .unset, .unset, .unset] []))
    refine Fin.step (fun _ => XS.iload Xy16.here hx rfl (hb hby at_36) rfl) ?_
    show Fin p e below s _ _ _ (Ty16.setTop (mkF m 38 #[.val (.int pa), .val (.int pb), .val (.int pc), .val (.int pd), .val (.int pk), .val (.int (4 : Int32)), .val (.ref by15), .val (.long ((0 : Int64) + pa.toInt64)), .second, .unset, .unset, .unset, .unset] [(.int (4 : Int32))]))
    refine Fin.step (fun _ => XS.iconst Xy16.here hx rfl (hb hby at_38)) ?_
    show Fin p e below s _ _ _ (Ty16.setTop (mkF m 39 #[.val (.int pa), .val (.int pb), .val (.int pc), .val (.int pd), .val (.int pk), .val (.int (4 : Int32)), .val (.ref by15), .val (.long ((0 : Int64) + pa.toInt64)), .second, .unset, .unset, .unset, .unset] [(.int (1 : Int32)), (.int (4 : Int32))]))
    refine Fin.step (fun _ => XS.icmpNo Xy16.here hx rfl (hb hby at_39) rfl (tlt ((by decide) : ((1 : Int32) < (4 : Int32)))).2.2.2) ?_
    show Fin p e below s _ _ _ (Ty16.setTop (mkF m 42 #[.val (.int pa), .val (.int pb), .val (.int pc), .val (.int pd), .val (.int pk), .val (.int (4 : Int32)), .val (.ref by15), .val (.long ((0 : Int64) + pa.toInt64)), .second, .unset, .unset, .unset, .unset] []))
    refine Fin.step (fun _ => XS.aload Xy16.here hx rfl (hb hby at_42) rfl rfl) ?_
    show Fin p e below s _ _ _ (Ty16.setTop (mkF m 44 #[.val (.int pa), .val (.int pb), .val (.int pc), .val (.int pd), .val (.int pk), .val (.int (4 : Int32)), .val (.ref by15), .val (.long ((0 : Int64) + pa.toInt64)), .second, .unset, .unset, .unset, .unset] [(.ref by15)]))
    refine Fin.step (fun _ => XS.iconst Xy16.here hx rfl (hb hby at_44)) ?_
    show Fin p e below s _ _ _ (Ty16.setTop (mkF m 45 #[.val (.int pa), .val (.int pb), .val (.int pc), .val (.int pd), .val (.int pk), .val (.int (4 : Int32)), .val (.ref by15), .val (.long ((0 : Int64) + pa.toInt64)), .second, .unset, .unset, .unset, .unset] [(.int (1 : Int32)), (.ref by15)]))
    refine Fin.step (fun _ => XS.iloadN Xy16.here hx rfl (hb hby at_45) rfl) ?_
    show Fin p e below s _ _ _ (Ty16.setTop (mkF m 46 #[.val (.int pa), .val (.int pb), .val (.int pc), .val (.int pd), .val (.int pk), .val (.int (4 : Int32)), .val (.ref by15), .val (.long ((0 : Int64) + pa.toInt64)), .second, .unset, .unset, .unset, .unset] [(.int pb), (.int (1 : Int32)), (.ref by15)]))
    refine Fin.step (fun _ => XS.i2dS Xy16.here hx rfl (hb hby at_46) rfl (i2d_w pb)) ?_
    show Fin p e below s _ _ _ (Ty16.setTop (mkF m 47 #[.val (.int pa), .val (.int pb), .val (.int pc), .val (.int pd), .val (.int pk), .val (.int (4 : Int32)), .val (.ref by15), .val (.long ((0 : Int64) + pa.toInt64)), .second, .unset, .unset, .unset, .unset] [(.double (FP.l2d pb.toInt64)), (.int (1 : Int32)), (.ref by15)]))
    have voy17 := Vy16
    obtain ⟨cly17, Ary17, qay17, say17, nay17, hay17, gay17⟩ := voy17
    obtain ⟨Ty17, hy17, Xy17, ey17, Wy17, sty17⟩ := stD Xy16 hx hZ ey16 Ary17 (j := (1 : Int32)) (inb_of say17 ⟨by decide, by decide⟩) (g := (mkF m 47 #[.val (.int pa), .val (.int pb), .val (.int pc), .val (.int pd), .val (.int pk), .val (.int (4 : Int32)), .val (.ref by15), .val (.long ((0 : Int64) + pa.toInt64)), .second, .unset, .unset, .unset, .unset] [(.double (FP.l2d pb.toInt64)), (.int (1 : Int32)), (.ref by15)])) rfl rfl (hb hby at_47)
    have Vy17 : Arv Z hy17 by15 ky15 .double (4 : Int32) [(.double (FP.l2d pa.toInt64)), (.double (FP.l2d pb.toInt64)), (.double (FP.l2d (0 : Int64))), (.double (FP.l2d (0 : Int64)))] (.double (FP.l2d (0 : Int64))) := Arv.set Ary17 qay17 say17 nay17 hay17 gay17 rfl Wy17 1 rfl (Nat.le_of_ble_eq_true rfl)
    have Zy17 : n0 ≤ hy17.size := Nat.le_trans Zy16 (Keep.of_wr Wy17).1
    have Ky17 : Keep h0 hy17 [] := Ky16.wr Wy17 (Or.inr szy15)
    have Ny17 := Fr.snoc Xy17 Ny16 gzy15
    refine Fin.step (sty17) ?_
    show Fin p e below s _ _ _ (Ty17.setTop (mkF m 48 #[.val (.int pa), .val (.int pb), .val (.int pc), .val (.int pd), .val (.int pk), .val (.int (4 : Int32)), .val (.ref by15), .val (.long ((0 : Int64) + pa.toInt64)), .second, .unset, .unset, .unset, .unset] []))
    refine Fin.step (fun _ => XS.lload Xy17.here hx rfl (hb hby at_48) rfl) ?_
    show Fin p e below s _ _ _ (Ty17.setTop (mkF m 50 #[.val (.int pa), .val (.int pb), .val (.int pc), .val (.int pd), .val (.int pk), .val (.int (4 : Int32)), .val (.ref by15), .val (.long ((0 : Int64) + pa.toInt64)), .second, .unset, .unset, .unset, .unset] [(.long ((0 : Int64) + pa.toInt64))]))
    refine Fin.step (fun _ => XS.iloadN Xy17.here hx rfl (hb hby at_50) rfl) ?_
    show Fin p e below s _ _ _ (Ty17.setTop (mkF m 51 #[.val (.int pa), .val (.int pb), .val (.int pc), .val (.int pd), .val (.int pk), .val (.int (4 : Int32)), .val (.ref by15), .val (.long ((0 : Int64) + pa.toInt64)), .second, .unset, .unset, .unset, .unset] [(.int pb), (.long ((0 : Int64) + pa.toInt64))]))
    refine Fin.step (fun _ => XS.i2l Xy17.here hx rfl (hb hby at_51) rfl) ?_
    show Fin p e below s _ _ _ (Ty17.setTop (mkF m 52 #[.val (.int pa), .val (.int pb), .val (.int pc), .val (.int pd), .val (.int pk), .val (.int (4 : Int32)), .val (.ref by15), .val (.long ((0 : Int64) + pa.toInt64)), .second, .unset, .unset, .unset, .unset] [(.long pb.toInt64), (.long ((0 : Int64) + pa.toInt64))]))
    refine Fin.step (fun _ => XS.ladd Xy17.here hx rfl (hb hby at_52) rfl) ?_
    show Fin p e below s _ _ _ (Ty17.setTop (mkF m 53 #[.val (.int pa), .val (.int pb), .val (.int pc), .val (.int pd), .val (.int pk), .val (.int (4 : Int32)), .val (.ref by15), .val (.long ((0 : Int64) + pa.toInt64)), .second, .unset, .unset, .unset, .unset] [(.long (((0 : Int64) + pa.toInt64) + pb.toInt64))]))
    refine Fin.step (fun _ => XS.lstore Xy17.here hx rfl (hb hby at_53) rfl (l' := #[.val (.int pa), .val (.int pb), .val (.int pc), .val (.int pd), .val (.int pk), .val (.int (4 : Int32)), .val (.ref by15), .val (.long (((0 : Int64) + pa.toInt64) + pb.toInt64)), .second, .unset, .unset, .unset, .unset]) rfl) ?_
    show Fin p e below s _ _ _ (Ty17.setTop (mkF m 55 #[.val (.int pa), .val (.int pb), .val (.int pc), .val (.int pd), .val (.int pk), .val (.int (4 : Int32)), .val (.ref by15), .val (.long (((0 : Int64) + pa.toInt64) + pb.toInt64)), .second, .unset, .unset, .unset, .unset] []))
    refine Fin.step (fun _ => XS.iload Xy17.here hx rfl (hb hby at_55) rfl) ?_
    show Fin p e below s _ _ _ (Ty17.setTop (mkF m 57 #[.val (.int pa), .val (.int pb), .val (.int pc), .val (.int pd), .val (.int pk), .val (.int (4 : Int32)), .val (.ref by15), .val (.long (((0 : Int64) + pa.toInt64) + pb.toInt64)), .second, .unset, .unset, .unset, .unset] [(.int (4 : Int32))]))
    refine Fin.step (fun _ => XS.iconst Xy17.here hx rfl (hb hby at_57)) ?_
    show Fin p e below s _ _ _ (Ty17.setTop (mkF m 58 #[.val (.int pa), .val (.int pb), .val (.int pc), .val (.int pd), .val (.int pk), .val (.int (4 : Int32)), .val (.ref by15), .val (.long (((0 : Int64) + pa.toInt64) + pb.toInt64)), .second, .unset, .unset, .unset, .unset] [(.int (2 : Int32)), (.int (4 : Int32))]))
    refine Fin.step (fun _ => XS.icmpNo Xy17.here hx rfl (hb hby at_58) rfl (tlt ((by decide) : ((2 : Int32) < (4 : Int32)))).2.2.2) ?_
    show Fin p e below s _ _ _ (Ty17.setTop (mkF m 61 #[.val (.int pa), .val (.int pb), .val (.int pc), .val (.int pd), .val (.int pk), .val (.int (4 : Int32)), .val (.ref by15), .val (.long (((0 : Int64) + pa.toInt64) + pb.toInt64)), .second, .unset, .unset, .unset, .unset] []))
    refine Fin.step (fun _ => XS.aload Xy17.here hx rfl (hb hby at_61) rfl rfl) ?_
    show Fin p e below s _ _ _ (Ty17.setTop (mkF m 63 #[.val (.int pa), .val (.int pb), .val (.int pc), .val (.int pd), .val (.int pk), .val (.int (4 : Int32)), .val (.ref by15), .val (.long (((0 : Int64) + pa.toInt64) + pb.toInt64)), .second, .unset, .unset, .unset, .unset] [(.ref by15)]))
    refine Fin.step (fun _ => XS.iconst Xy17.here hx rfl (hb hby at_63)) ?_
    show Fin p e below s _ _ _ (Ty17.setTop (mkF m 64 #[.val (.int pa), .val (.int pb), .val (.int pc), .val (.int pd), .val (.int pk), .val (.int (4 : Int32)), .val (.ref by15), .val (.long (((0 : Int64) + pa.toInt64) + pb.toInt64)), .second, .unset, .unset, .unset, .unset] [(.int (2 : Int32)), (.ref by15)]))
    refine Fin.step (fun _ => XS.iloadN Xy17.here hx rfl (hb hby at_64) rfl) ?_
    show Fin p e below s _ _ _ (Ty17.setTop (mkF m 65 #[.val (.int pa), .val (.int pb), .val (.int pc), .val (.int pd), .val (.int pk), .val (.int (4 : Int32)), .val (.ref by15), .val (.long (((0 : Int64) + pa.toInt64) + pb.toInt64)), .second, .unset, .unset, .unset, .unset] [(.int pc), (.int (2 : Int32)), (.ref by15)]))
    refine Fin.step (fun _ => XS.i2dS Xy17.here hx rfl (hb hby at_65) rfl (i2d_w pc)) ?_
    show Fin p e below s _ _ _ (Ty17.setTop (mkF m 66 #[.val (.int pa), .val (.int pb), .val (.int pc), .val (.int pd), .val (.int pk), .val (.int (4 : Int32)), .val (.ref by15), .val (.long (((0 : Int64) + pa.toInt64) + pb.toInt64)), .second, .unset, .unset, .unset, .unset] [(.double (FP.l2d pc.toInt64)), (.int (2 : Int32)), (.ref by15)]))
    have voy18 := Vy17
    obtain ⟨cly18, Ary18, qay18, say18, nay18, hay18, gay18⟩ := voy18
    obtain ⟨Ty18, hy18, Xy18, ey18, Wy18, sty18⟩ := stD Xy17 hx hZ ey17 Ary18 (j := (2 : Int32)) (inb_of say18 ⟨by decide, by decide⟩) (g := (mkF m 66 #[.val (.int pa), .val (.int pb), .val (.int pc), .val (.int pd), .val (.int pk), .val (.int (4 : Int32)), .val (.ref by15), .val (.long (((0 : Int64) + pa.toInt64) + pb.toInt64)), .second, .unset, .unset, .unset, .unset] [(.double (FP.l2d pc.toInt64)), (.int (2 : Int32)), (.ref by15)])) rfl rfl (hb hby at_66)
    have Vy18 : Arv Z hy18 by15 ky15 .double (4 : Int32) [(.double (FP.l2d pa.toInt64)), (.double (FP.l2d pb.toInt64)), (.double (FP.l2d pc.toInt64)), (.double (FP.l2d (0 : Int64)))] (.double (FP.l2d (0 : Int64))) := Arv.set Ary18 qay18 say18 nay18 hay18 gay18 rfl Wy18 2 rfl (Nat.le_of_ble_eq_true rfl)
    have Zy18 : n0 ≤ hy18.size := Nat.le_trans Zy17 (Keep.of_wr Wy18).1
    have Ky18 : Keep h0 hy18 [] := Ky17.wr Wy18 (Or.inr szy15)
    have Ny18 := Fr.snoc Xy18 Ny17 gzy15
    refine Fin.step (sty18) ?_
    show Fin p e below s _ _ _ (Ty18.setTop (mkF m 67 #[.val (.int pa), .val (.int pb), .val (.int pc), .val (.int pd), .val (.int pk), .val (.int (4 : Int32)), .val (.ref by15), .val (.long (((0 : Int64) + pa.toInt64) + pb.toInt64)), .second, .unset, .unset, .unset, .unset] []))
    refine Fin.step (fun _ => XS.lload Xy18.here hx rfl (hb hby at_67) rfl) ?_
    show Fin p e below s _ _ _ (Ty18.setTop (mkF m 69 #[.val (.int pa), .val (.int pb), .val (.int pc), .val (.int pd), .val (.int pk), .val (.int (4 : Int32)), .val (.ref by15), .val (.long (((0 : Int64) + pa.toInt64) + pb.toInt64)), .second, .unset, .unset, .unset, .unset] [(.long (((0 : Int64) + pa.toInt64) + pb.toInt64))]))
    refine Fin.step (fun _ => XS.iloadN Xy18.here hx rfl (hb hby at_69) rfl) ?_
    show Fin p e below s _ _ _ (Ty18.setTop (mkF m 70 #[.val (.int pa), .val (.int pb), .val (.int pc), .val (.int pd), .val (.int pk), .val (.int (4 : Int32)), .val (.ref by15), .val (.long (((0 : Int64) + pa.toInt64) + pb.toInt64)), .second, .unset, .unset, .unset, .unset] [(.int pc), (.long (((0 : Int64) + pa.toInt64) + pb.toInt64))]))
    refine Fin.step (fun _ => XS.i2l Xy18.here hx rfl (hb hby at_70) rfl) ?_
    show Fin p e below s _ _ _ (Ty18.setTop (mkF m 71 #[.val (.int pa), .val (.int pb), .val (.int pc), .val (.int pd), .val (.int pk), .val (.int (4 : Int32)), .val (.ref by15), .val (.long (((0 : Int64) + pa.toInt64) + pb.toInt64)), .second, .unset, .unset, .unset, .unset] [(.long pc.toInt64), (.long (((0 : Int64) + pa.toInt64) + pb.toInt64))]))
    refine Fin.step (fun _ => XS.ladd Xy18.here hx rfl (hb hby at_71) rfl) ?_
    show Fin p e below s _ _ _ (Ty18.setTop (mkF m 72 #[.val (.int pa), .val (.int pb), .val (.int pc), .val (.int pd), .val (.int pk), .val (.int (4 : Int32)), .val (.ref by15), .val (.long (((0 : Int64) + pa.toInt64) + pb.toInt64)), .second, .unset, .unset, .unset, .unset] [(.long ((((0 : Int64) + pa.toInt64) + pb.toInt64) + pc.toInt64))]))
    refine Fin.step (fun _ => XS.lstore Xy18.here hx rfl (hb hby at_72) rfl (l' := #[.val (.int pa), .val (.int pb), .val (.int pc), .val (.int pd), .val (.int pk), .val (.int (4 : Int32)), .val (.ref by15), .val (.long ((((0 : Int64) + pa.toInt64) + pb.toInt64) + pc.toInt64)), .second, .unset, .unset, .unset, .unset]) rfl) ?_
    show Fin p e below s _ _ _ (Ty18.setTop (mkF m 74 #[.val (.int pa), .val (.int pb), .val (.int pc), .val (.int pd), .val (.int pk), .val (.int (4 : Int32)), .val (.ref by15), .val (.long ((((0 : Int64) + pa.toInt64) + pb.toInt64) + pc.toInt64)), .second, .unset, .unset, .unset, .unset] []))
    refine Fin.step (fun _ => XS.iload Xy18.here hx rfl (hb hby at_74) rfl) ?_
    show Fin p e below s _ _ _ (Ty18.setTop (mkF m 76 #[.val (.int pa), .val (.int pb), .val (.int pc), .val (.int pd), .val (.int pk), .val (.int (4 : Int32)), .val (.ref by15), .val (.long ((((0 : Int64) + pa.toInt64) + pb.toInt64) + pc.toInt64)), .second, .unset, .unset, .unset, .unset] [(.int (4 : Int32))]))
    refine Fin.step (fun _ => XS.iconst Xy18.here hx rfl (hb hby at_76)) ?_
    show Fin p e below s _ _ _ (Ty18.setTop (mkF m 77 #[.val (.int pa), .val (.int pb), .val (.int pc), .val (.int pd), .val (.int pk), .val (.int (4 : Int32)), .val (.ref by15), .val (.long ((((0 : Int64) + pa.toInt64) + pb.toInt64) + pc.toInt64)), .second, .unset, .unset, .unset, .unset] [(.int (3 : Int32)), (.int (4 : Int32))]))
    refine Fin.step (fun _ => XS.icmpNo Xy18.here hx rfl (hb hby at_77) rfl (tlt ((by decide) : ((3 : Int32) < (4 : Int32)))).2.2.2) ?_
    show Fin p e below s _ _ _ (Ty18.setTop (mkF m 80 #[.val (.int pa), .val (.int pb), .val (.int pc), .val (.int pd), .val (.int pk), .val (.int (4 : Int32)), .val (.ref by15), .val (.long ((((0 : Int64) + pa.toInt64) + pb.toInt64) + pc.toInt64)), .second, .unset, .unset, .unset, .unset] []))
    refine Fin.step (fun _ => XS.aload Xy18.here hx rfl (hb hby at_80) rfl rfl) ?_
    show Fin p e below s _ _ _ (Ty18.setTop (mkF m 82 #[.val (.int pa), .val (.int pb), .val (.int pc), .val (.int pd), .val (.int pk), .val (.int (4 : Int32)), .val (.ref by15), .val (.long ((((0 : Int64) + pa.toInt64) + pb.toInt64) + pc.toInt64)), .second, .unset, .unset, .unset, .unset] [(.ref by15)]))
    refine Fin.step (fun _ => XS.iconst Xy18.here hx rfl (hb hby at_82)) ?_
    show Fin p e below s _ _ _ (Ty18.setTop (mkF m 83 #[.val (.int pa), .val (.int pb), .val (.int pc), .val (.int pd), .val (.int pk), .val (.int (4 : Int32)), .val (.ref by15), .val (.long ((((0 : Int64) + pa.toInt64) + pb.toInt64) + pc.toInt64)), .second, .unset, .unset, .unset, .unset] [(.int (3 : Int32)), (.ref by15)]))
    refine Fin.step (fun _ => XS.iloadN Xy18.here hx rfl (hb hby at_83) rfl) ?_
    show Fin p e below s _ _ _ (Ty18.setTop (mkF m 84 #[.val (.int pa), .val (.int pb), .val (.int pc), .val (.int pd), .val (.int pk), .val (.int (4 : Int32)), .val (.ref by15), .val (.long ((((0 : Int64) + pa.toInt64) + pb.toInt64) + pc.toInt64)), .second, .unset, .unset, .unset, .unset] [(.int pd), (.int (3 : Int32)), (.ref by15)]))
    refine Fin.step (fun _ => XS.i2dS Xy18.here hx rfl (hb hby at_84) rfl (i2d_w pd)) ?_
    show Fin p e below s _ _ _ (Ty18.setTop (mkF m 85 #[.val (.int pa), .val (.int pb), .val (.int pc), .val (.int pd), .val (.int pk), .val (.int (4 : Int32)), .val (.ref by15), .val (.long ((((0 : Int64) + pa.toInt64) + pb.toInt64) + pc.toInt64)), .second, .unset, .unset, .unset, .unset] [(.double (FP.l2d pd.toInt64)), (.int (3 : Int32)), (.ref by15)]))
    have voy19 := Vy18
    obtain ⟨cly19, Ary19, qay19, say19, nay19, hay19, gay19⟩ := voy19
    obtain ⟨Ty19, hy19, Xy19, ey19, Wy19, sty19⟩ := stD Xy18 hx hZ ey18 Ary19 (j := (3 : Int32)) (inb_of say19 ⟨by decide, by decide⟩) (g := (mkF m 85 #[.val (.int pa), .val (.int pb), .val (.int pc), .val (.int pd), .val (.int pk), .val (.int (4 : Int32)), .val (.ref by15), .val (.long ((((0 : Int64) + pa.toInt64) + pb.toInt64) + pc.toInt64)), .second, .unset, .unset, .unset, .unset] [(.double (FP.l2d pd.toInt64)), (.int (3 : Int32)), (.ref by15)])) rfl rfl (hb hby at_85)
    have Vy19 : Arv Z hy19 by15 ky15 .double (4 : Int32) [(.double (FP.l2d pa.toInt64)), (.double (FP.l2d pb.toInt64)), (.double (FP.l2d pc.toInt64)), (.double (FP.l2d pd.toInt64))] (.double (FP.l2d (0 : Int64))) := Arv.set Ary19 qay19 say19 nay19 hay19 gay19 rfl Wy19 3 rfl (Nat.le_of_ble_eq_true rfl)
    have Zy19 : n0 ≤ hy19.size := Nat.le_trans Zy18 (Keep.of_wr Wy19).1
    have Ky19 : Keep h0 hy19 [] := Ky18.wr Wy19 (Or.inr szy15)
    have Ny19 := Fr.snoc Xy19 Ny18 gzy15
    refine Fin.step (sty19) ?_
    show Fin p e below s _ _ _ (Ty19.setTop (mkF m 86 #[.val (.int pa), .val (.int pb), .val (.int pc), .val (.int pd), .val (.int pk), .val (.int (4 : Int32)), .val (.ref by15), .val (.long ((((0 : Int64) + pa.toInt64) + pb.toInt64) + pc.toInt64)), .second, .unset, .unset, .unset, .unset] []))
    refine Fin.step (fun _ => XS.lload Xy19.here hx rfl (hb hby at_86) rfl) ?_
    show Fin p e below s _ _ _ (Ty19.setTop (mkF m 88 #[.val (.int pa), .val (.int pb), .val (.int pc), .val (.int pd), .val (.int pk), .val (.int (4 : Int32)), .val (.ref by15), .val (.long ((((0 : Int64) + pa.toInt64) + pb.toInt64) + pc.toInt64)), .second, .unset, .unset, .unset, .unset] [(.long ((((0 : Int64) + pa.toInt64) + pb.toInt64) + pc.toInt64))]))
    refine Fin.step (fun _ => XS.iloadN Xy19.here hx rfl (hb hby at_88) rfl) ?_
    show Fin p e below s _ _ _ (Ty19.setTop (mkF m 89 #[.val (.int pa), .val (.int pb), .val (.int pc), .val (.int pd), .val (.int pk), .val (.int (4 : Int32)), .val (.ref by15), .val (.long ((((0 : Int64) + pa.toInt64) + pb.toInt64) + pc.toInt64)), .second, .unset, .unset, .unset, .unset] [(.int pd), (.long ((((0 : Int64) + pa.toInt64) + pb.toInt64) + pc.toInt64))]))
    refine Fin.step (fun _ => XS.i2l Xy19.here hx rfl (hb hby at_89) rfl) ?_
    show Fin p e below s _ _ _ (Ty19.setTop (mkF m 90 #[.val (.int pa), .val (.int pb), .val (.int pc), .val (.int pd), .val (.int pk), .val (.int (4 : Int32)), .val (.ref by15), .val (.long ((((0 : Int64) + pa.toInt64) + pb.toInt64) + pc.toInt64)), .second, .unset, .unset, .unset, .unset] [(.long pd.toInt64), (.long ((((0 : Int64) + pa.toInt64) + pb.toInt64) + pc.toInt64))]))
    refine Fin.step (fun _ => XS.ladd Xy19.here hx rfl (hb hby at_90) rfl) ?_
    show Fin p e below s _ _ _ (Ty19.setTop (mkF m 91 #[.val (.int pa), .val (.int pb), .val (.int pc), .val (.int pd), .val (.int pk), .val (.int (4 : Int32)), .val (.ref by15), .val (.long ((((0 : Int64) + pa.toInt64) + pb.toInt64) + pc.toInt64)), .second, .unset, .unset, .unset, .unset] [(.long (((((0 : Int64) + pa.toInt64) + pb.toInt64) + pc.toInt64) + pd.toInt64))]))
    refine Fin.step (fun _ => XS.lstore Xy19.here hx rfl (hb hby at_91) rfl (l' := #[.val (.int pa), .val (.int pb), .val (.int pc), .val (.int pd), .val (.int pk), .val (.int (4 : Int32)), .val (.ref by15), .val (.long (((((0 : Int64) + pa.toInt64) + pb.toInt64) + pc.toInt64) + pd.toInt64)), .second, .unset, .unset, .unset, .unset]) rfl) ?_
    show Fin p e below s _ _ _ (Ty19.setTop (mkF m 93 #[.val (.int pa), .val (.int pb), .val (.int pc), .val (.int pd), .val (.int pk), .val (.int (4 : Int32)), .val (.ref by15), .val (.long (((((0 : Int64) + pa.toInt64) + pb.toInt64) + pc.toInt64) + pd.toInt64)), .second, .unset, .unset, .unset, .unset] []))
    refine Fin.step (fun _ => XS.iload Xy19.here hx rfl (hb hby at_93) rfl) ?_
    show Fin p e below s _ _ _ (Ty19.setTop (mkF m 95 #[.val (.int pa), .val (.int pb), .val (.int pc), .val (.int pd), .val (.int pk), .val (.int (4 : Int32)), .val (.ref by15), .val (.long (((((0 : Int64) + pa.toInt64) + pb.toInt64) + pc.toInt64) + pd.toInt64)), .second, .unset, .unset, .unset, .unset] [(.int (4 : Int32))]))
    refine Fin.step (fun _ => XS.ifYes Xy19.here hx rfl (pc0 := 95) (pc' := 102) rfl (hb hby at_95) rfl ((if0 _ _).trans (feq ((by decide) : ¬ ((4 : Int32) = (0 : Int32)))).2) (by decide) (by decide)) ?_
    show Fin p e below s _ _ _ (Ty19.setTop (mkF m 102 #[.val (.int pa), .val (.int pb), .val (.int pc), .val (.int pd), .val (.int pk), .val (.int (4 : Int32)), .val (.ref by15), .val (.long (((((0 : Int64) + pa.toInt64) + pb.toInt64) + pc.toInt64) + pd.toInt64)), .second, .unset, .unset, .unset, .unset] []))
    refine Fin.step (fun _ => XS.lload Xy19.here hx rfl (hb hby at_102) rfl) ?_
    show Fin p e below s _ _ _ (Ty19.setTop (mkF m 104 #[.val (.int pa), .val (.int pb), .val (.int pc), .val (.int pd), .val (.int pk), .val (.int (4 : Int32)), .val (.ref by15), .val (.long (((((0 : Int64) + pa.toInt64) + pb.toInt64) + pc.toInt64) + pd.toInt64)), .second, .unset, .unset, .unset, .unset] [(.long (((((0 : Int64) + pa.toInt64) + pb.toInt64) + pc.toInt64) + pd.toInt64))]))
    refine Fin.step (fun _ => XS.l2dS Xy19.here hx rfl (hb hby at_104) rfl rfl) ?_
    show Fin p e below s _ _ _ (Ty19.setTop (mkF m 105 #[.val (.int pa), .val (.int pb), .val (.int pc), .val (.int pd), .val (.int pk), .val (.int (4 : Int32)), .val (.ref by15), .val (.long (((((0 : Int64) + pa.toInt64) + pb.toInt64) + pc.toInt64) + pd.toInt64)), .second, .unset, .unset, .unset, .unset] [(.double (FP.l2d (((((0 : Int64) + pa.toInt64) + pb.toInt64) + pc.toInt64) + pd.toInt64)))]))
    refine Fin.step (fun _ => XS.iload Xy19.here hx rfl (hb hby at_105) rfl) ?_
    show Fin p e below s _ _ _ (Ty19.setTop (mkF m 107 #[.val (.int pa), .val (.int pb), .val (.int pc), .val (.int pd), .val (.int pk), .val (.int (4 : Int32)), .val (.ref by15), .val (.long (((((0 : Int64) + pa.toInt64) + pb.toInt64) + pc.toInt64) + pd.toInt64)), .second, .unset, .unset, .unset, .unset] [(.int (4 : Int32)), (.double (FP.l2d (((((0 : Int64) + pa.toInt64) + pb.toInt64) + pc.toInt64) + pd.toInt64)))]))
    refine Fin.step (fun _ => XS.i2dS Xy19.here hx rfl (hb hby at_107) rfl (i2d_w (4 : Int32))) ?_
    show Fin p e below s _ _ _ (Ty19.setTop (mkF m 108 #[.val (.int pa), .val (.int pb), .val (.int pc), .val (.int pd), .val (.int pk), .val (.int (4 : Int32)), .val (.ref by15), .val (.long (((((0 : Int64) + pa.toInt64) + pb.toInt64) + pc.toInt64) + pd.toInt64)), .second, .unset, .unset, .unset, .unset] [(.double (FP.l2d (4 : Int32).toInt64)), (.double (FP.l2d (((((0 : Int64) + pa.toInt64) + pb.toInt64) + pc.toInt64) + pd.toInt64)))]))
    refine Fin.step (fun _ => XS.ddivS Xy19.here hx rfl (hb hby at_108) rfl (own_div _ _ (by unfold Jvm.Free.Fl.Nz64; decide +kernel)) rfl) ?_
    show Fin p e below s _ _ _ (Ty19.setTop (mkF m 109 #[.val (.int pa), .val (.int pb), .val (.int pc), .val (.int pd), .val (.int pk), .val (.int (4 : Int32)), .val (.ref by15), .val (.long (((((0 : Int64) + pa.toInt64) + pb.toInt64) + pc.toInt64) + pd.toInt64)), .second, .unset, .unset, .unset, .unset] [(.double (FP.ddiv (FP.l2d (((((0 : Int64) + pa.toInt64) + pb.toInt64) + pc.toInt64) + pd.toInt64)) (FP.l2d (4 : Int32).toInt64)))]))
    refine Fin.step (fun _ => XS.dstore Xy19.here hx rfl (hb hby at_109) rfl (l' := #[.val (.int pa), .val (.int pb), .val (.int pc), .val (.int pd), .val (.int pk), .val (.int (4 : Int32)), .val (.ref by15), .val (.long (((((0 : Int64) + pa.toInt64) + pb.toInt64) + pc.toInt64) + pd.toInt64)), .second, .val (.double (FP.ddiv (FP.l2d (((((0 : Int64) + pa.toInt64) + pb.toInt64) + pc.toInt64) + pd.toInt64)) (FP.l2d (4 : Int32).toInt64))), .second, .unset, .unset]) rfl) ?_
    show Fin p e below s _ _ _ (Ty19.setTop (mkF m 111 #[.val (.int pa), .val (.int pb), .val (.int pc), .val (.int pd), .val (.int pk), .val (.int (4 : Int32)), .val (.ref by15), .val (.long (((((0 : Int64) + pa.toInt64) + pb.toInt64) + pc.toInt64) + pd.toInt64)), .second, .val (.double (FP.ddiv (FP.l2d (((((0 : Int64) + pa.toInt64) + pb.toInt64) + pc.toInt64) + pd.toInt64)) (FP.l2d (4 : Int32).toInt64))), .second, .unset, .unset] []))
    refine Fin.step (fun _ => XS.aload Xy19.here hx rfl (hb hby at_111) rfl rfl) ?_
    show Fin p e below s _ _ _ (Ty19.setTop (mkF m 113 #[.val (.int pa), .val (.int pb), .val (.int pc), .val (.int pd), .val (.int pk), .val (.int (4 : Int32)), .val (.ref by15), .val (.long (((((0 : Int64) + pa.toInt64) + pb.toInt64) + pc.toInt64) + pd.toInt64)), .second, .val (.double (FP.ddiv (FP.l2d (((((0 : Int64) + pa.toInt64) + pb.toInt64) + pc.toInt64) + pd.toInt64)) (FP.l2d (4 : Int32).toInt64))), .second, .unset, .unset] [(.ref by15)]))
    obtain ⟨_, _, ⟨Ty20, Ly20, ky20, ny20⟩, -, Xy20, ⟨Lcy20, hQy20, ly20, yy20, zy20⟩, sty20⟩ := Jvm.LawKit.callS Xy19 hx (y := (⟨"com/example/indexterity/indexterity/comparison/PairedTests", "mean", "([D)D"⟩ : MethodName)) hown (mvT hZ (hw _ (List.mem_of_getElem? (i := 2) rfl))) (mvT hZ (hw _ (List.mem_of_getElem? (i := 3) rfl))) (mvT hZ (hw _ (List.mem_of_getElem? (i := 4) rfl))) (mvT hZ (hw _ (List.mem_of_getElem? (i := 5) rfl))) (by decide) (backOf (W := 0) (rmm4 l Z a0 hw [] by15 ky15 pa pb pc pd hy19 n0 Zy19 Vy19) hZ (hw _ (List.mem_of_getElem? (i := 5) rfl)) (hw _ (List.mem_of_getElem? (i := 4) rfl)) (by decide) (by decide)) (g := (mkF m 113 #[.val (.int pa), .val (.int pb), .val (.int pc), .val (.int pd), .val (.int pk), .val (.int (4 : Int32)), .val (.ref by15), .val (.long (((((0 : Int64) + pa.toInt64) + pb.toInt64) + pc.toInt64) + pd.toInt64)), .second, .val (.double (FP.ddiv (FP.l2d (((((0 : Int64) + pa.toInt64) + pb.toInt64) + pc.toInt64) + pd.toInt64)) (FP.l2d (4 : Int32).toInt64))), .second, .unset, .unset] [(.ref by15)])) rfl (by rw [hml]; rfl) (argsL := [(.ref by15)]) (rest := []) (lenOf pd_0 rfl) rfl (by show 2 * 0 + _ ≤ _; exact Nat.le_of_eq rfl) (hb hby at_113) (fun _ _ => ⟨rfl, ey19, (by decide : 1 + 0 ≤ _), (by decide : 4 + 0 ≤ _)⟩)
    dsimp only [Pt.U, Pt.locs, Pt.cells, Pt.slots] at Xy20 ly20 yy20 zy20 sty20 hQy20
    subst ly20 yy20 zy20
    obtain ⟨rfl, Nqy20, eqy20⟩ := hQy20
    have Ny20 := Fr.app Ny19 Nqy20
    refine Fin.step (sty20) ?_
    show Fin p e below s _ _ _ (Ty20.setTop (mkF m 116 #[.val (.int pa), .val (.int pb), .val (.int pc), .val (.int pd), .val (.int pk), .val (.int (4 : Int32)), .val (.ref by15), .val (.long (((((0 : Int64) + pa.toInt64) + pb.toInt64) + pc.toInt64) + pd.toInt64)), .second, .val (.double (FP.ddiv (FP.l2d (((((0 : Int64) + pa.toInt64) + pb.toInt64) + pc.toInt64) + pd.toInt64)) (FP.l2d (4 : Int32).toInt64))), .second, .unset, .unset] [(.double (FP.ddiv (FP.l2d (((((0 : Int64) + pa.toInt64) + pb.toInt64) + pc.toInt64) + pd.toInt64)) (FP.l2d (4 : Int32).toInt64)))]))
    refine Fin.step (fun _ => XS.dstore Xy20.here hx rfl (hb hby at_116) rfl (l' := #[.val (.int pa), .val (.int pb), .val (.int pc), .val (.int pd), .val (.int pk), .val (.int (4 : Int32)), .val (.ref by15), .val (.long (((((0 : Int64) + pa.toInt64) + pb.toInt64) + pc.toInt64) + pd.toInt64)), .second, .val (.double (FP.ddiv (FP.l2d (((((0 : Int64) + pa.toInt64) + pb.toInt64) + pc.toInt64) + pd.toInt64)) (FP.l2d (4 : Int32).toInt64))), .second, .val (.double (FP.ddiv (FP.l2d (((((0 : Int64) + pa.toInt64) + pb.toInt64) + pc.toInt64) + pd.toInt64)) (FP.l2d (4 : Int32).toInt64))), .second]) rfl) ?_
    show Fin p e below s _ _ _ (Ty20.setTop (mkF m 118 #[.val (.int pa), .val (.int pb), .val (.int pc), .val (.int pd), .val (.int pk), .val (.int (4 : Int32)), .val (.ref by15), .val (.long (((((0 : Int64) + pa.toInt64) + pb.toInt64) + pc.toInt64) + pd.toInt64)), .second, .val (.double (FP.ddiv (FP.l2d (((((0 : Int64) + pa.toInt64) + pb.toInt64) + pc.toInt64) + pd.toInt64)) (FP.l2d (4 : Int32).toInt64))), .second, .val (.double (FP.ddiv (FP.l2d (((((0 : Int64) + pa.toInt64) + pb.toInt64) + pc.toInt64) + pd.toInt64)) (FP.l2d (4 : Int32).toInt64))), .second] []))
    refine Fin.step (fun _ => XS.dload Xy20.here hx rfl (hb hby at_118) rfl) ?_
    show Fin p e below s _ _ _ (Ty20.setTop (mkF m 120 #[.val (.int pa), .val (.int pb), .val (.int pc), .val (.int pd), .val (.int pk), .val (.int (4 : Int32)), .val (.ref by15), .val (.long (((((0 : Int64) + pa.toInt64) + pb.toInt64) + pc.toInt64) + pd.toInt64)), .second, .val (.double (FP.ddiv (FP.l2d (((((0 : Int64) + pa.toInt64) + pb.toInt64) + pc.toInt64) + pd.toInt64)) (FP.l2d (4 : Int32).toInt64))), .second, .val (.double (FP.ddiv (FP.l2d (((((0 : Int64) + pa.toInt64) + pb.toInt64) + pc.toInt64) + pd.toInt64)) (FP.l2d (4 : Int32).toInt64))), .second] [(.double (FP.ddiv (FP.l2d (((((0 : Int64) + pa.toInt64) + pb.toInt64) + pc.toInt64) + pd.toInt64)) (FP.l2d (4 : Int32).toInt64)))]))
    refine Fin.step (fun _ => XS.dload Xy20.here hx rfl (hb hby at_120) rfl) ?_
    show Fin p e below s _ _ _ (Ty20.setTop (mkF m 122 #[.val (.int pa), .val (.int pb), .val (.int pc), .val (.int pd), .val (.int pk), .val (.int (4 : Int32)), .val (.ref by15), .val (.long (((((0 : Int64) + pa.toInt64) + pb.toInt64) + pc.toInt64) + pd.toInt64)), .second, .val (.double (FP.ddiv (FP.l2d (((((0 : Int64) + pa.toInt64) + pb.toInt64) + pc.toInt64) + pd.toInt64)) (FP.l2d (4 : Int32).toInt64))), .second, .val (.double (FP.ddiv (FP.l2d (((((0 : Int64) + pa.toInt64) + pb.toInt64) + pc.toInt64) + pd.toInt64)) (FP.l2d (4 : Int32).toInt64))), .second] [(.double (FP.ddiv (FP.l2d (((((0 : Int64) + pa.toInt64) + pb.toInt64) + pc.toInt64) + pd.toInt64)) (FP.l2d (4 : Int32).toInt64))), (.double (FP.ddiv (FP.l2d (((((0 : Int64) + pa.toInt64) + pb.toInt64) + pc.toInt64) + pd.toInt64)) (FP.l2d (4 : Int32).toInt64)))]))
    refine Fin.step (fun _ => XS.dcmpS Xy20.here hx rfl (hb hby at_122) rfl (dcmpV_self (own_div _ _ (by unfold Jvm.Free.Fl.Nz64; decide +kernel)) .l)) ?_
    show Fin p e below s _ _ _ (Ty20.setTop (mkF m 123 #[.val (.int pa), .val (.int pb), .val (.int pc), .val (.int pd), .val (.int pk), .val (.int (4 : Int32)), .val (.ref by15), .val (.long (((((0 : Int64) + pa.toInt64) + pb.toInt64) + pc.toInt64) + pd.toInt64)), .second, .val (.double (FP.ddiv (FP.l2d (((((0 : Int64) + pa.toInt64) + pb.toInt64) + pc.toInt64) + pd.toInt64)) (FP.l2d (4 : Int32).toInt64))), .second, .val (.double (FP.ddiv (FP.l2d (((((0 : Int64) + pa.toInt64) + pb.toInt64) + pc.toInt64) + pd.toInt64)) (FP.l2d (4 : Int32).toInt64))), .second] [(.int (0 : Int32))]))
    refine Fin.step (fun _ => XS.ifNo Xy20.here hx rfl (hb hby at_123) rfl ((if0 _ _).trans (teq ((by decide) : ((0 : Int32) = (0 : Int32)))).2)) ?_
    show Fin p e below s _ _ _ (Ty20.setTop (mkF m 126 #[.val (.int pa), .val (.int pb), .val (.int pc), .val (.int pd), .val (.int pk), .val (.int (4 : Int32)), .val (.ref by15), .val (.long (((((0 : Int64) + pa.toInt64) + pb.toInt64) + pc.toInt64) + pd.toInt64)), .second, .val (.double (FP.ddiv (FP.l2d (((((0 : Int64) + pa.toInt64) + pb.toInt64) + pc.toInt64) + pd.toInt64)) (FP.l2d (4 : Int32).toInt64))), .second, .val (.double (FP.ddiv (FP.l2d (((((0 : Int64) + pa.toInt64) + pb.toInt64) + pc.toInt64) + pd.toInt64)) (FP.l2d (4 : Int32).toInt64))), .second] []))
    refine Fin.step (fun _ => XS.iconst Xy20.here hx rfl (hb hby at_126)) ?_
    show Fin p e below s _ _ _ (Ty20.setTop (mkF m 127 #[.val (.int pa), .val (.int pb), .val (.int pc), .val (.int pd), .val (.int pk), .val (.int (4 : Int32)), .val (.ref by15), .val (.long (((((0 : Int64) + pa.toInt64) + pb.toInt64) + pc.toInt64) + pd.toInt64)), .second, .val (.double (FP.ddiv (FP.l2d (((((0 : Int64) + pa.toInt64) + pb.toInt64) + pc.toInt64) + pd.toInt64)) (FP.l2d (4 : Int32).toInt64))), .second, .val (.double (FP.ddiv (FP.l2d (((((0 : Int64) + pa.toInt64) + pb.toInt64) + pc.toInt64) + pd.toInt64)) (FP.l2d (4 : Int32).toInt64))), .second] [(.int (1 : Int32))]))
    refine Fin.step (fun _ => XS.goto Xy20.here hx rfl (pc0 := 127) (pc' := 131) rfl (hb hby at_127) (by decide) (by decide)) ?_
    show Fin p e below s _ _ _ (Ty20.setTop (mkF m 131 #[.val (.int pa), .val (.int pb), .val (.int pc), .val (.int pd), .val (.int pk), .val (.int (4 : Int32)), .val (.ref by15), .val (.long (((((0 : Int64) + pa.toInt64) + pb.toInt64) + pc.toInt64) + pd.toInt64)), .second, .val (.double (FP.ddiv (FP.l2d (((((0 : Int64) + pa.toInt64) + pb.toInt64) + pc.toInt64) + pd.toInt64)) (FP.l2d (4 : Int32).toInt64))), .second, .val (.double (FP.ddiv (FP.l2d (((((0 : Int64) + pa.toInt64) + pb.toInt64) + pc.toInt64) + pd.toInt64)) (FP.l2d (4 : Int32).toInt64))), .second] [(.int (1 : Int32))]))
    refine Fin.retN Xy20 hx (t := .boolean) hret (by simp) hlk (hb hby at_131) (by decide) (by decide) ?_
    show Q0 Z pa pb pc pd pk h0 n0 _ Ty20.heap _
    rw [eqy20]
    exact ⟨rfl, Ny20, Ky19⟩
set_option maxRecDepth 65536 in
set_option maxHeartbeats 40000000 in
theorem comes_1 {Post : Tables → Env → Array Value → State → Outcome → State → Prop} (hpost : ∀ tb e args s v u, (limb_1_1.after args s (.returned v) u = true ∧ limb_1_2.after args s (.returned v) u = true ∧ True) → FrameEnd s (.returned v) u (Jvm.fieldLocs frame_1_writes args s ++ Jvm.arrayLocs frame_1_arrays args s ++ Jvm.staticLocs frame_1_statics s) 16 128 → Post tb e args s (.returned v) u) :
    ArmFor flags0 classFile x code maxLocals ret World_1 tables_1 room_1 Calls_1 rest_1 Pre_1 Post := by
  intro l hfl _ _ p e ha hc hk s m args below hf hA hF happ hP
  obtain ⟨hcalls, hrest, hpre⟩ := hP
  obtain ⟨-, -, -, hnamed, -, -, -, hat⟩ := (Spec.applies_iff hf).mp happ
  obtain ⟨hg, hn⟩ := and_e (Cond.before_iff.mp (show (Jvm.Cond.and given_1 narrow_1).before args s = true from hpre))
  obtain ⟨gc, gr0⟩ := and_e hg
  obtain ⟨ga0, gr1⟩ := and_e gr0
  obtain ⟨ga1, gr2⟩ := and_e gr1
  obtain ⟨ga2, gr3⟩ := and_e gr2
  obtain ⟨ga3, gr4⟩ := and_e gr3
  have ga4 := gr4
  obtain ⟨w0, w1, w2, w3, w4, rfl⟩ : ∃ w0 w1 w2 w3 w4 : Value, args = #[w0, w1, w2, w3, w4] := by
    have hs : args.size = 5 := by simpa [Cond.value, given_1] using gc
    obtain ⟨L⟩ := args
    match L, hs with
    | [w0, w1, w2, w3, w4], _ => exact ⟨w0, w1, w2, w3, w4, rfl⟩
  have hw := fun d (hd : d ∈ tables_1) => atoms_spec (ws := Jvm.Cond.code x code maxLocals ret :: tables_1) hat d (List.mem_cons_of_mem _ hd)
  have hfit : Fit s := fun {y c} hc i hi => by
    obtain ⟨ha, rfl⟩ := Array.getElem?_eq_some_iff.mp hc
    have q := List.all_eq_true.mp ((Array.all_eq_true_iff_forall_mem.mp hF) _ (Array.getElem_mem ha)) i (List.mem_range.mpr hi)
    simpa [Array.getElem?_eq_getElem hi] using q
  obtain ⟨i0, ei0⟩ := is_v ga0
  obtain rfl : w0 = (.int i0) := Option.some.inj ei0
  obtain ⟨i1, ei1⟩ := is_v ga1
  obtain rfl : w1 = (.int i1) := Option.some.inj ei1
  obtain ⟨i2, ei2⟩ := is_v ga2
  obtain rfl : w2 = (.int i2) := Option.some.inj ei2
  obtain ⟨i3, ei3⟩ := is_v ga3
  obtain rfl : w3 = (.int i3) := Option.some.inj ei3
  obtain ⟨i4, ei4⟩ := is_v ga4
  obtain rfl : w4 = (.int i4) := Option.some.inj ei4
  obtain ⟨n, o, h1, h2, h3, _, L, rfl, ⟨rfl, N, _⟩, hq⟩ := rm0 l s _ hw tables_1 i0 i1 i2 i3 i4  s.heap s.heap.size (Nat.le_refl _)  p e ha hc hk s m _ below hf ((Spec.applies_iff_loose hf).mp happ).1 ⟨rfl, State.Warmed39.refl s, rfl⟩ trivial
  refine ⟨n, _, h1, h2, h3, hpost _ _ _ _ _ _ ⟨Cond.after_iff.mpr rfl, Cond.after_iff.mpr (eq_i res_at (Term.int_eval (1)) rfl), trivial⟩ ⟨hq.1, hq.2.1, (hq.2.2.sift fun y hy => Or.inr (N y hy)).mono (by decide) (by decide)⟩⟩
theorem main_1_1 : Claimed_1_1 := comes_1 fun _ _ _ _ _ _ h hF => ⟨h.1, hF⟩
theorem main_1_2 : Claimed_1_2 := comes_1 fun _ _ _ _ _ _ h hF => ⟨h.2.1, hF⟩
end Jvm.Pilot.@@N@@
namespace Jvm.Pilot.@@N@@
open Jvm Jvm.ClassFile Sem Op Lib Jvm.Free Jvm.Stand Jvm.Pilot.@@N@@.Jvm.D
/-! MADE BY PROGRAM (witnessworld.py) out of the Statement's table words and the real class files: 9 classes; the members and pool entries that the words name. The judged class is class 1, her method 1. -/
namespace start1
open Jvm.ClassFile
def u (s : String) : CpInfo := .utf8 (stringToUtf16 s)
/-- a pool by its gaps: so many unusable entries, then the entry; so many at the end -/
def gap : Nat → List CpInfo → List CpInfo
  | 0, r => r
  | n + 1, r => .unusable :: gap n r
def poolList (es : List (Nat × CpInfo)) (last : Nat) : List CpInfo := es.foldr (fun e r => gap e.1 (e.2 :: r)) (gap last [])
def pool (es : List (Nat × CpInfo)) (last : Nat) : Array CpInfo := ⟨poolList es last⟩
def fileOf (pool : Array CpInfo) (this : Nat) (attrs : Array Attribute := #[]) (ms : Array MethodInfo := #[]) (fl : Nat := 33) (sup : Nat := 0) (ifs : Array Nat := #[]) (fds : Array FieldInfo := #[]) : ClassFile where
  minorVersion := 0
  majorVersion := 65
  constantPool := pool
  accessFlags := fl
  thisClass := this
  superClass := sup
  interfaces := ifs
  fields := fds
  methods := ms
  attributes := attrs
def plain (name : String) (sup : Option ClassId) : Class where
  name := name
  kind := .ordinary
  loader := none
  accessFlags := 33
  super := sup
  interfaces := #[]
  cf := none
  fields := #[]
  methods := #[]
  instanceTypes := #[]
  staticTypes := #[]
  resolved := #[]
  callSites := []
  init := .initialized
  statics := none
  mirror := none

def pool0 : Array CpInfo := pool [(5, u "<init>"), (0, u "()V"), (1, .class_ 10), (1, u "java/lang/Object")] 113

def k0m0 : Method := { name := "<init>", desc := "()V", sig := { parameters := [], returnType := none }, accessFlags := 1, code := none }
/-- java/lang/Object -/
def k0 : Class := { plain "java/lang/Object" none with
  accessFlags := 33
  interfaces := #[]
  cf := some (fileOf pool0 8 #[] #[{ accessFlags := 1, nameIndex := 5, descriptorIndex := 6, attributes := #[] }] 33 0 #[] #[])
  fields := #[]
  methods := #[k0m0]
  instanceTypes := #[]
  staticTypes := #[]
  resolved := Array.replicate 124 none
  statics := none }

def pool1 : Array CpInfo := pool [(2, .class_ 4), (1, u "java/lang/Object"), (0, u "<init>"), (0, u "()V"), (0, .integer 2147483647), (0, .methodref 9 10), (0, .class_ 11), (0, .nameAndType 12 13), (0, u "com/example/indexterity/indexterity/comparison/PairedTests"), (0, u "mean"), (0, u "([D)D"), (0, .class_ 15), (0, u "com/example/indexterity/indexterity/comparison/PairedTestsMeanPinLaw"), (2, u "law"), (0, u "(IIIII)Z")] 5

def k1m0 : Method := { name := "<init>", desc := "()V", sig := { parameters := [], returnType := none }, accessFlags := 2, code := none }
def k1c1 : Code := { maxStack := 4, maxLocals := 13, code := code, exceptionTable := #[], attributes := #[] }
def k1m1 : Method := { name := "law", desc := "(IIIII)Z", sig := { parameters := [.int, .int, .int, .int, .int], returnType := some .boolean }, accessFlags := 9, code := some k1c1 }
/-- com/example/indexterity/indexterity/comparison/PairedTestsMeanPinLaw -/
def k1 : Class := { plain "com/example/indexterity/indexterity/comparison/PairedTestsMeanPinLaw" (some 0) with
  accessFlags := 49
  interfaces := #[]
  cf := some (fileOf pool1 14 #[] #[{ accessFlags := 2, nameIndex := 5, descriptorIndex := 6, attributes := #[] }, { accessFlags := 9, nameIndex := 18, descriptorIndex := 19, attributes := #[] }] 49 2 #[] #[])
  fields := #[]
  methods := #[k1m0, k1m1]
  instanceTypes := #[]
  staticTypes := #[]
  resolved := Array.replicate 25 none
  statics := none }

def pool2 : Array CpInfo := pool [(2, .class_ 4), (1, u "java/lang/Object"), (0, u "<init>"), (0, u "()V"), (10, .class_ 19), (1, u "com/example/indexterity/indexterity/comparison/PairedTests"), (0, u "mean"), (0, u "([D)D"), (102, u "TOLERANCE"), (0, u "D")] 59

def k2m0 : Method := { name := "<init>", desc := "()V", sig := { parameters := [], returnType := none }, accessFlags := 2, code := none }
def k2c1 : Code := { maxStack := 4, maxLocals := 8, code := prog_21_method_6_code, exceptionTable := #[], attributes := #[] }
def k2m1 : Method := { name := "mean", desc := "([D)D", sig := { parameters := [(.array .double)], returnType := some .double }, accessFlags := 8, code := some k2c1 }
/-- com/example/indexterity/indexterity/comparison/PairedTests -/
def k2 : Class := { plain "com/example/indexterity/indexterity/comparison/PairedTests" (some 0) with
  accessFlags := 49
  interfaces := #[]
  cf := some (fileOf pool2 17 #[] #[{ accessFlags := 2, nameIndex := 5, descriptorIndex := 6, attributes := #[] }, { accessFlags := 8, nameIndex := 20, descriptorIndex := 21, attributes := #[] }] 49 2 #[] #[{ accessFlags := 26, nameIndex := 124, descriptorIndex := 125, attributes := #[] }])
  fields := #[{ name := "TOLERANCE", type := .double, accessFlags := 26, slot := 0, constantValue := 0 }]
  methods := #[k2m0, k2m1]
  instanceTypes := #[]
  staticTypes := #[.double]
  resolved := Array.replicate 185 none
  statics := none }

def pool3 : Array CpInfo := pool [(1, u "java/lang/Cloneable"), (0, .class_ 1), (0, u "java/lang/Object"), (0, .class_ 3)] 3

/-- java/lang/Cloneable -/
def k3 : Class := { plain "java/lang/Cloneable" (some 0) with
  accessFlags := 1537
  interfaces := #[]
  cf := some (fileOf pool3 2 #[] #[] 1537 4 #[] #[])
  fields := #[]
  methods := #[]
  instanceTypes := #[]
  staticTypes := #[]
  resolved := Array.replicate 8 none
  statics := none }

def pool4 : Array CpInfo := pool [(1, u "java/io/Serializable"), (0, .class_ 1), (0, u "java/lang/Object"), (0, .class_ 3)] 3

/-- java/io/Serializable -/
def k4 : Class := { plain "java/io/Serializable" (some 0) with
  accessFlags := 1537
  interfaces := #[]
  cf := some (fileOf pool4 2 #[] #[] 1537 4 #[] #[])
  fields := #[]
  methods := #[]
  instanceTypes := #[]
  staticTypes := #[]
  resolved := Array.replicate 8 none
  statics := none }

/-- the primitive byte -/
def k5 : Class := { plain "byte" none with kind := .primitive 'B', accessFlags := 0x411 }
/-- [B -/
def k6 : Class := { plain "[B" (some 0) with kind := .array 5 .byte, interfaces := #[3, 4], accessFlags := 1041 }

/-- the primitive int -/
def k7 : Class := { plain "int" none with kind := .primitive 'I', accessFlags := 0x411 }
/-- [I -/
def k8 : Class := { plain "[I" (some 0) with kind := .array 7 .int, interfaces := #[3, 4], accessFlags := 1041 }

/-- the primitive double -/
def k9 : Class := { plain "double" none with kind := .primitive 'D', accessFlags := 0x411 }
/-- [D -/
def k10 : Class := { plain "[D" (some 0) with kind := .array 9 .double, interfaces := #[3, 4], accessFlags := 1041 }
def heap : Heap := #[]
def classes : Array Class := #[k0, k1, k2, k3, k4, k5, k6, k7, k8, k9, k10]
def interned : List (Array UInt16 × Addr) := []
def slotsUsed : Nat := 0
def theMethod : MethodId := ⟨1, 1⟩
def args0 : Array Value := #[.int 3, .int 70000, .int 9, .int 1, .int 3]
def aboutOver (below : List Frame) : State where
  vm := { classes := classes, interned := interned.toArray }
  heap := heap
  slotsUsed := slotsUsed
  threads := #[{ frames := .invoking theMethod args0 :: below }]
def below0 : List Frame := [.native { method := ⟨0, 0⟩, args := #[] }]
def about1 : State := aboutOver below0
def p0 : Program := .bare "" "" ""
def e0 : Env := launch0.env 0 0 0
theorem w_frames : about1.frames = Frame.invoking theMethod args0 :: below0 := rfl
set_option maxRecDepth 65536 in
theorem w_args : argsFit about1.vm theMethod args0 = true := by decide +kernel
set_option maxRecDepth 65536 in
theorem w_heap : heapFits about1 = true := by decide +kernel
set_option maxRecDepth 65536 in
theorem w_runnable : about1.curStatus? = some .runnable := by decide +kernel
set_option maxRecDepth 65536 in
theorem w_alone : about1.alone = true := by decide +kernel
set_option maxRecDepth 65536 in
theorem w_named : about1.methodNamed? x = some theMethod := by decide +kernel
set_option maxRecDepth 65536 in
theorem w_hears : about1.hears theMethod below0 = true := by decide +kernel
set_option maxRecDepth 65536 in
theorem w_ripe : about1.ripe theMethod args0 below0 = true := by decide +kernel
theorem w_running : about1.status = .running := rfl
set_option maxRecDepth 65536 in
theorem w_room : about1.hasRoom e0.platform room_1 = true :=
  launch0.hasRoom_least _ room_1 (by decide +kernel) (by decide +kernel) (by decide +kernel) (by decide +kernel) (by decide +kernel) (by decide +kernel)
theorem allAtoms_all (ts : List Jvm.Cond) (a : Array Jvm.Value) (st : Jvm.State) : (allAtoms ts).before a st = ts.all (fun c => c.before a st) := by
  induction ts with
  | nil => rfl
  | cons c t ih =>
    show (Jvm.Cond.and c (allAtoms t)).before a st = _
    rw [Jvm.Cond.before_and, ih, List.all_cons]
def words1 : List Jvm.Cond := Jvm.Cond.code x code maxLocals ret :: tables_1
/-- a 'code' word, met by the world's own term for the bytes: nothing is compared byte by byte -/
theorem code_word {y : MethodName} {bytes : ByteArray} {mx : Nat} {rt : Option FieldType} {a : Array Value} {s : State} {m : MethodId} {meth : Method} {c : Code} (h1 : s.methodNamed? y = some m) (h2 : s.vm.method? m = some meth) (h3 : meth.code = some c) (h4 : c.code = bytes)
    (h5 : (c.maxLocals == mx && c.exceptionTable.isEmpty && decide (c.maxStack ≤ mostOperands) && decide (meth.sig.returnType = rt) && !meth.locks && decide (parseMethodDescriptor y.desc = some meth.sig)) = true) : (Jvm.Cond.code y bytes mx rt).before a s = true := by
  simp only [Bool.and_eq_true, beq_iff_eq, Bool.not_eq_true', decide_eq_true_eq] at h5
  obtain ⟨⟨⟨⟨⟨g1, g2⟩, g3⟩, g4⟩, g5⟩, g6⟩ := h5
  simp [Cond.before, Cond.holds, Cond.value, h1, h2, h3, h4, g1, g2, g3, g4, g5, g6]
def isCode : Jvm.Cond → Bool
  | .code _ _ _ _ => true
  | _ => false
theorem all_split {L : List Jvm.Cond} {P : Jvm.Cond → Bool} (h1 : L.all (fun c => isCode c || P c) = true) (h2 : ∀ c ∈ L.filter isCode, P c = true) : L.all P = true := by
  refine List.all_eq_true.mpr fun c hc => ?_
  have h := List.all_eq_true.mp h1 c hc
  rcases Bool.eq_false_or_eq_true (isCode c) with hi | hi
  · exact h2 c (List.mem_filter.mpr ⟨hc, hi⟩)
  · simpa [hi] using h
set_option maxRecDepth 65536 in
theorem w_c0 : (Jvm.Cond.code x code maxLocals ret).before args0 about1 = true := code_word (m := ⟨1, 1⟩) (meth := k1m1) (c := k1c1) (by decide +kernel) rfl rfl rfl (by decide +kernel)
set_option maxRecDepth 65536 in
theorem w_c1 : (Jvm.Cond.code ({ cls := "com/example/indexterity/indexterity/comparison/PairedTests", name := "mean", desc := "([D)D" } : Jvm.MethodName) prog_21_method_6_code (8 : Nat) (Option.some Jvm.ClassFile.FieldType.double)).before args0 about1 = true := code_word (m := ⟨2, 1⟩) (meth := k2m1) (c := k2c1) (by decide +kernel) rfl rfl rfl (by decide +kernel)
def codes1 : List Jvm.Cond := [Jvm.Cond.code x code maxLocals ret, Jvm.Cond.code ({ cls := "com/example/indexterity/indexterity/comparison/PairedTests", name := "mean", desc := "([D)D" } : Jvm.MethodName) prog_21_method_6_code (8 : Nat) (Option.some Jvm.ClassFile.FieldType.double)]
set_option maxRecDepth 65536 in
theorem codes_eq : words1.filter isCode = codes1 := rfl
theorem w_codes : ∀ c ∈ words1.filter isCode, c.before args0 about1 = true := by
  rw [codes_eq]
  intro c hc
  simp only [codes1, List.mem_cons, List.not_mem_nil, or_false] at hc
  rcases hc with rfl | rfl
  · exact w_c0
  · exact w_c1
set_option maxRecDepth 65536 in
theorem w_t1 : words1.all (fun c => isCode c || c.before args0 about1) = true := by decide +kernel
theorem w_tables : (allAtoms (Jvm.Cond.code x code maxLocals ret :: tables_1)).before args0 about1 = true := by
  rw [allAtoms_all]
  show words1.all (fun c => c.before args0 about1) = true
  refine all_split ?_ w_codes
  rw [w_t1]
set_option maxRecDepth 65536 in
theorem w_case : (Jvm.Cond.and given_1 narrow_1).before args0 about1 = true := by decide +kernel
theorem w_applies : (headSpec (Jvm.Cond.code x code maxLocals ret :: tables_1) room_1).applies x e0.platform about1 = true :=
  (Spec.applies_iff w_frames).mpr ⟨w_running, w_runnable, w_alone, w_named, w_hears, w_ripe, w_room, w_tables⟩
theorem atStart : AtStart classFile x code maxLocals ret World_1 tables_1 room_1 Calls_1 rest_1 Pre_1 launch0 p0 e0 about1 theMethod args0 below0 :=
  ⟨lists_1, trivial, launch0.admits_env _ _ _, launch0.least_env, fairChoices_fair.cas, fairChoices_fair.clock, w_frames, w_args, w_heap, w_applies, trivial, trivial, w_case⟩
end start1
theorem witness_1 : WitnessClaimed_1 := ⟨start1.p0, start1.e0, start1.about1, start1.theMethod, start1.args0, start1.below0, start1.atStart⟩
end Jvm.Pilot.@@N@@
