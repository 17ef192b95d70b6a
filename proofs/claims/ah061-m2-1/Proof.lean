import JvmDerived
import JvmDerived.Pilot.@@N@@Statement
import JvmDerived.Pilot.@@N@@Code
set_option linter.unusedVariables false
set_option linter.unusedSimpArgs false
@@BLOCK:NumsL.lean.txt@@

namespace Jvm.OwnKit
open Sem ClassFile Op Lib Jvm.Stand Jvm.Free Jvm.LawKit Jvm.RoadKit
section Own
variable {p : Program} {l : Launch} {e : Env} {R : Room} {s : State} {m : MethodId} {args : Array Value} {below : List Frame} {meth : Method} {c : Code} {T : State} {locs : List Loc} {cells slots : Nat} {Q : Option Value → Heap → List Loc → Prop} {C S : Nat}
/-- what a body owes from a state on -/
def Fin (p : Program) (e : Env) (below : List Frame) (s : State) (Q : Option Value → Heap → List Loc → Prop) (C S : Nat) (st : State) : Prop :=
  ∃ s₂ o, Steps p.tables e below st s₂ ∧ s₂.status = .running ∧ Ended s₂ below o ∧ ∃ v L, o = .returned v ∧ Q v s₂.heap L ∧ FrameEnd s o s₂ L C S
theorem Fin.step {st st' : State} (h : ∀ t, Steps p.tables e below st' t → Steps p.tables e below st t) (k : Fin p e below s Q C S st') : Fin p e below s Q C S st := by
  obtain ⟨s₂, o, h1, h2⟩ := k
  exact ⟨s₂, o, h _ h1, h2⟩
theorem Fin.ret (X : Stand p l e R s m args below meth c T locs cells slots) {v : Option Value} {g : JFrame} (hv : meth.sig.returnType = none → v = none) (hlocks : meth.locks = false)
    (hst : ∀ fs, (∀ (f : JFrame) (acts : List Action), f.method = m → f.locked = none → f.entered = [] → (doReturn e (T.setTop f) acts v).1 = T.setFrames fs) → Steps p.tables e below (T.setTop g) (T.setFrames fs))
    (hC : cells ≤ C) (hS : slots ≤ S) (q : Q v T.heap locs) : Fin p e below s Q C S (T.setTop g) := by
  obtain ⟨fs, hr, hrun, hended, hW, hsame⟩ := X.leave (v := v) hv hlocks
  exact ⟨_, _, hst fs hr, hrun, hended, _, _, rfl, q, ⟨_, rfl⟩, hW, hsame.mono hC hS⟩
theorem Fin.retI (X : Stand p l e R s m args below meth c T locs cells slots) (hx : p.tables.exec = Jvm.exec) {pc : Nat} {Ls : Array Slot} {z : Int32} {rest : List Value} (hret : meth.sig.returnType = some .int) (hlocks : meth.locks = false) (hd : decode c.code pc = .ok (.ireturn, 1))
    (hC : cells ≤ C) (hS : slots ≤ S) (q : Q (some (.int z)) T.heap locs) : Fin p e below s Q C S (T.setTop (mkF m pc Ls (.int z :: rest))) :=
  Fin.ret X (fun h => by rw [hret] at h; cases h) hlocks (fun fs hl => retOut X hx hret rfl (Or.inl ⟨rfl, Or.inl rfl, z, rfl⟩) hd hl) hC hS q
theorem Fin.retJ (X : Stand p l e R s m args below meth c T locs cells slots) (hx : p.tables.exec = Jvm.exec) {pc : Nat} {Ls : Array Slot} {z : Int64} {rest : List Value} (hret : meth.sig.returnType = some .long) (hlocks : meth.locks = false) (hd : decode c.code pc = .ok (.lreturn, 1))
    (hC : cells ≤ C) (hS : slots ≤ S) (q : Q (some (.long z)) T.heap locs) : Fin p e below s Q C S (T.setTop (mkF m pc Ls (.long z :: rest))) :=
  Fin.ret X (fun h => by rw [hret] at h; cases h) hlocks (fun fs hl => retOut X hx hret rfl (Or.inr (Or.inl ⟨rfl, rfl, z, rfl⟩)) hd hl) hC hS q
theorem Fin.retD (X : Stand p l e R s m args below meth c T locs cells slots) (hx : p.tables.exec = Jvm.exec) {pc : Nat} {Ls : Array Slot} {z : UInt64} {rest : List Value} (hret : meth.sig.returnType = some .double) (hlocks : meth.locks = false) (hd : decode c.code pc = .ok (.dreturn, 1))
    (hC : cells ≤ C) (hS : slots ≤ S) (q : Q (some (.double z)) T.heap locs) : Fin p e below s Q C S (T.setTop (mkF m pc Ls (.double z :: rest))) :=
  Fin.ret X (fun h => by rw [hret] at h; cases h) hlocks (fun fs hl => retOut X hx hret rfl (Or.inr (Or.inr (Or.inl ⟨rfl, rfl, z, rfl⟩))) hd hl) hC hS q
theorem Fin.retR (X : Stand p l e R s m args below meth c T locs cells slots) (hx : p.tables.exec = Jvm.exec) {pc : Nat} {Ls : Array Slot} {w : Value} {t : FieldType} {rest : List Value} (hret : meth.sig.returnType = some t) (ht : t.isReference = true) (hw : w.isRef = true) (hlocks : meth.locks = false) (hd : decode c.code pc = .ok (.areturn, 1))
    (hC : cells ≤ C) (hS : slots ≤ S) (q : Q (some w) T.heap locs) : Fin p e below s Q C S (T.setTop (mkF m pc Ls (w :: rest))) :=
  Fin.ret X (fun h => by rw [hret] at h; cases h) hlocks (fun fs hl => retOut X hx hret (by cases t <;> simp [FieldType.isReference] at ht <;> cases w <;> simp [Value.isRef] at hw <;> rfl) (Or.inr (Or.inr (Or.inr (Or.inr ⟨rfl, ht, hw⟩)))) hd hl) hC hS q
theorem Fin.retN (X : Stand p l e R s m args below meth c T locs cells slots) (hx : p.tables.exec = Jvm.exec) {pc : Nat} {Ls : Array Slot} {z : Int32} {t : FieldType} {rest : List Value} (hret : meth.sig.returnType = some t) (ht : t = .boolean ∨ t = .byte ∨ t = .char ∨ t = .short) (hlocks : meth.locks = false) (hd : decode c.code pc = .ok (.ireturn, 1))
    (hC : cells ≤ C) (hS : slots ≤ S) (q : Q (some (.int (nar t z))) T.heap locs) : Fin p e below s Q C S (T.setTop (mkF m pc Ls (.int z :: rest))) :=
  Fin.ret X (fun h => by rw [hret] at h; cases h) hlocks (fun fs hl => RoadKit.retN X hx hret ht hd hl) hC hS q
theorem Fin.retV (X : Stand p l e R s m args below meth c T locs cells slots) (hx : p.tables.exec = Jvm.exec) {pc : Nat} {Ls : Array Slot} (hret : meth.sig.returnType = none) (hlocks : meth.locks = false) (hd : decode c.code pc = .ok (.return_, 1))
    (hC : cells ≤ C) (hS : slots ≤ S) (q : Q none T.heap locs) : Fin p e below s Q C S (T.setTop (mkF m pc Ls [])) :=
  Fin.ret X (fun _ => rfl) hlocks (fun fs hl => X.returnOut hx hret hd hl) hC hS q
/-- the same where the walk may intern: the end's frame is ReturnedEndW -/
def FinW (p : Program) (e : Env) (below : List Frame) (s : State) (Q : Option Value → Heap → List Loc → Prop) (C S : Nat) (st : State) : Prop :=
  ∃ s₂ o, Steps p.tables e below st s₂ ∧ s₂.status = .running ∧ Ended s₂ below o ∧ ∃ v L, o = .returned v ∧ Q v s₂.heap L ∧ ReturnedEndW s o s₂ L C S
theorem FinW.step {st st' : State} (h : ∀ t, Steps p.tables e below st' t → Steps p.tables e below st t) (k : FinW p e below s Q C S st') : FinW p e below s Q C S st := by
  obtain ⟨s₂, o, h1, h2⟩ := k
  exact ⟨s₂, o, h _ h1, h2⟩
theorem FinW.ret {vm₁ : Vm} (X : Stand p l e R (s.setVm vm₁) m args below meth c T locs cells slots) {n : Nat} (hS : s.Since vm₁ n) (hn : n ≤ T.heap.size) {v : Option Value} {g : JFrame} (hv : meth.sig.returnType = none → v = none) (hlocks : meth.locks = false)
    (hst : ∀ fs, (∀ (f : JFrame) (acts : List Action), f.method = m → f.locked = none → f.entered = [] → (doReturn e (T.setTop f) acts v).1 = T.setFrames fs) → Steps p.tables e below (T.setTop g) (T.setFrames fs))
    (hC : cells ≤ C) (hS' : slots ≤ S) (q : Q v T.heap locs) : FinW p e below s Q C S (T.setTop g) := by
  obtain ⟨fs, hr, hrun, hended, hW⟩ := X.leaveW hS hn (v := v) hv hlocks
  exact ⟨_, _, hst fs hr, hrun, hended, _, _, rfl, q, hW.1, hW.2.1, hW.2.2.1, hW.2.2.2.mono hC hS'⟩
theorem FinW.retN {vm₁ : Vm} (X : Stand p l e R (s.setVm vm₁) m args below meth c T locs cells slots) {n : Nat} (hS : s.Since vm₁ n) (hn : n ≤ T.heap.size) (hx : p.tables.exec = Jvm.exec) {pc : Nat} {Ls : Array Slot} {z : Int32} {t : FieldType} {rest : List Value} (hret : meth.sig.returnType = some t) (ht : t = .boolean ∨ t = .byte ∨ t = .char ∨ t = .short) (hlocks : meth.locks = false) (hd : decode c.code pc = .ok (.ireturn, 1))
    (hC : cells ≤ C) (hS' : slots ≤ S) (q : Q (some (.int (nar t z))) T.heap locs) : FinW p e below s Q C S (T.setTop (mkF m pc Ls (.int z :: rest))) :=
  FinW.ret X hS hn (fun h => by rw [hret] at h; cases h) hlocks (fun fs hl => RoadKit.retN X hx hret ht hd hl) hC hS' q
theorem FinW.retR {vm₁ : Vm} (X : Stand p l e R (s.setVm vm₁) m args below meth c T locs cells slots) {n : Nat} (hS : s.Since vm₁ n) (hn : n ≤ T.heap.size) (hx : p.tables.exec = Jvm.exec) {pc : Nat} {Ls : Array Slot} {w : Value} {t : FieldType} {rest : List Value} (hret : meth.sig.returnType = some t) (ht : t.isReference = true) (hw : w.isRef = true) (hlocks : meth.locks = false) (hd : decode c.code pc = .ok (.areturn, 1))
    (hC : cells ≤ C) (hS' : slots ≤ S) (q : Q (some w) T.heap locs) : FinW p e below s Q C S (T.setTop (mkF m pc Ls (w :: rest))) :=
  FinW.ret X hS hn (fun h => by rw [hret] at h; cases h) hlocks (fun fs hl => retOut X hx hret (by cases t <;> simp [FieldType.isReference] at ht <;> cases w <;> simp [Value.isRef] at hw <;> rfl) (Or.inr (Or.inr (Or.inr (Or.inr ⟨rfl, ht, hw⟩)))) hd hl) hC hS' q
theorem Fld.cast {Z : State} {h : Heap} {a : Addr} {C n d : String} {v w : Value} (F : Fld Z h a C n d v) (e : v = w) : Fld Z h a C n d w := e ▸ F
theorem Sta_keep {Z : State} {h h' : Heap} {C n d : String} {v : Value} (F : Sta Z h C n d v) (K : Keep h h' []) : Sta Z h' C n d v := by
  obtain ⟨cf, i, k, f, st, cell, h1, h2, h3, h4, h5, r⟩ := F
  exact ⟨cf, i, k, f, st, cell, h1, h2, h3, h4, K.2.1 _ _ h5 nin0, r⟩
theorem Arr_keep {Z : State} {h h' : Heap} {a : Addr} {c : Cell} {ty : FieldType} (F : Arr Z h a c ty) (K : Keep h h' []) : Arr Z h' a c ty := ⟨K.2.1 _ _ F.1 nin0, F.2⟩
/-- the shifts without sign -/
def ushL (x : Int64) (k : Int32) : Int64 := (x.toUInt64 >>> (k &&& 0x3f).toInt64.toUInt64).toInt64
def ushI (x k : Int32) : Int32 := (x.toUInt32 >>> (k &&& 31).toUInt32).toInt32
theorem lcE {x y : Int64} (h : x = y) : lcmpW x y = 0 := by rw [lcW]; exact (lc_eq x y).mpr h
theorem lcNE {x y : Int64} (h : ¬ x = y) : ¬ lcmpW x y = 0 := fun q => h ((lc_eq x y).mp (by rw [← lcW]; exact q))
theorem lcL {x y : Int64} (h : x < y) : lcmpW x y < 0 := by rw [lcW]; exact (lc_lt x y).mpr h
theorem lcNL {x y : Int64} (h : ¬ x < y) : ¬ lcmpW x y < 0 := fun q => h ((lc_lt x y).mp (by rw [← lcW]; exact q))
theorem lcG {x y : Int64} (h : y < x) : 0 < lcmpW x y := by rw [lcW]; exact (lc_gt x y).mpr h
theorem lcNG {x y : Int64} (h : ¬ y < x) : ¬ 0 < lcmpW x y := fun q => h ((lc_gt x y).mp (by rw [← lcW]; exact q))
end Own
end Jvm.OwnKit
namespace Jvm.Pilot.@@N@@
open Jvm Jvm.ClassFile Sem Op Lib Jvm.Free Jvm.Stand Jvm.LawKit Jvm.RoadKit Jvm.OwnKit Bundle Jvm.Pilot.@@N@@.Jvm.D
def own_eq (a : Int64) (b c : Int32) (a' : Int64) (b' c' : Int32) : Int32 := if a = a' then (if b = b' then (if c = c' then 1 else 0) else 0) else 0
theorem own_eq_comm (a : Int64) (b c : Int32) (a' : Int64) (b' c' : Int32) : own_eq a b c a' b' c' = own_eq a' b' c' a b c := by
  have e1 : (a = a') = (a' = a) := propext eq_comm
  have e2 : (b = b') = (b' = b) := propext eq_comm
  have e3 : (c = c') = (c' = c) := propext eq_comm
  simp only [own_eq, e1, e2, e3]
theorem own_eq_self (a : Int64) (b c : Int32) : own_eq a b c a b c = 1 := by
  rw [own_eq, if_pos rfl, if_pos rfl, if_pos rfl]
def own_ca (Z : State) (h : Heap) (ca : Addr) : Prop := ∃ cl : Cell, Arr Z h ca cl (.object "java/lang/Integer") ∧ ∀ w : Int32, ¬ w < -128 → ¬ 127 < w → ∃ box : Addr, ¬ ((w + 128) < 0 ∨ cl.slots.size ≤ (w + 128).toNatClampNeg) ∧ cl.slots[(w + 128).toNatClampNeg]? = some (.ref box) ∧ Exa Z h box "java/lang/Integer"
theorem own_ca_keep {Z : State} {h h' : Heap} {ca : Addr} (F : own_ca Z h ca) (K : Keep h h' []) : own_ca Z h' ca := by
  obtain ⟨cl, A, r⟩ := F
  refine ⟨cl, Arr_keep A K, fun w h1 h2 => ?_⟩
  obtain ⟨box, q1, q2, q3⟩ := r w h1 h2
  exact ⟨box, q1, q2, q3.keep K⟩
theorem own_no {Z : State} {a0 : Array Value} {C S O K : String} {n : Nat} (w1 : (Cond.superclass C S).before a0 Z = true) (w2 : (Cond.superclass S O).before a0 Z = true) (w3 : (Cond.noSuperclass O).before a0 Z = true) (wk : (Cond.instantiable K n).before a0 Z = true) (n1 : C ≠ K) (n2 : S ≠ K) (n3 : O ≠ K) :
    ∃ c t, Z.vm.findClass C = some c ∧ Z.vm.findClass K = some t ∧ Z.vm.assignable c t = false := by
  obtain ⟨t, kt, g1, g2, g3, g4, -⟩ := Cond.instantiable_spec wk
  obtain ⟨co, ko, h1, h2, h3, -, -⟩ := Cond.noSuperclass_spec w3
  have ne := ids_ne h1 g1 n3
  have N0 : NS Z O K := ⟨co, t, h1, g1, fun fuel => by
    cases fuel with
    | zero => rfl
    | succ f => simp [Vm.isSubclassAux, ne, h2, h3]⟩
  have N1 : NS Z C K := NS.step w1 (NS.step w2 N0 n2) n1
  obtain ⟨c, t', h0, g0, n4⟩ := N1
  cases g1.symm.trans g0
  obtain ⟨p, k, kp, j1, j2, j3, j4, j5, -, j7⟩ := Cond.superclass_spec h0 w1
  have ne' := ids_ne h0 g1 n1
  have gi : kt.isInterface = false := (Bool.or_eq_false_iff.mp g4).1
  refine ⟨c, t, h0, g1, ?_⟩
  show Z.vm.assignableAux (255 + 1) c t = false
  simp [Vm.assignableAux, ne', j2, g2, j5, g3, gi, Vm.isSubclass, n4]
theorem d2_0 : decode jdk_30_method_1_code 0 = .ok (.aload_n 0, 1) := by decide +kernel
theorem d2_1 : decode jdk_30_method_1_code 1 = .ok (.invokespecial 1, 3) := by decide +kernel
theorem d2_4 : decode jdk_30_method_1_code 4 = .ok (.return_, 1) := by decide +kernel
theorem pn_2 : plainName "java/lang/Record" = true := by first | (simp [plainName, overriddenIn]; done) | decide +kernel
theorem ef_rm2 (m : MethodId) (x0 : Addr) : entryFrame m #[(.ref x0)] 1 = mkF m 0 #[.val (.ref x0)] [] := by first | (simp [entryFrame, mkF, argsToLocals, Value.category]; done) | rfl
def Q2 (Z : State) (a1 : Addr) (h0 : Heap) (n0 : Nat) (v : Option Value) (h : Heap) (L : List Loc) : Prop := v = none ∧ Fr n0 L ∧ h = h0
set_option maxRecDepth 65536 in
set_option maxHeartbeats 40000000 in
theorem rm2 (l : Launch) (Z : State) (a0 : Array Value) (hw : ∀ d ∈ tables_1, d.before a0 Z = true) (ws : List Jvm.Cond) (a1 : Addr) (h0 : Heap) (n0 : Nat) (Z0 : n0 ≤ h0.size) :
    MetFree l (⟨"java/lang/Record", "<init>", "()V"⟩ : MethodName) (head1 (Jvm.Cond.code (⟨"java/lang/Record", "<init>", "()V"⟩ : MethodName) jdk_30_method_1_code 1 none :: ws) ({ frames := 1, cells := 0, slots := 0, locals := 12 } : Room)) (fun a U => a = #[(.ref a1)] ∧ Z.Warmed39 U.vm ∧ U.heap = h0) (fun _ _ _ _ _ => True) (fun _ U o U' => ∃ v L, o = .returned v ∧ Q2 Z a1 h0 n0 v U'.heap L ∧ FrameEnd U o U' L ({ frames := 1, cells := 0, slots := 0, locals := 12 } : Room).cells ({ frames := 1, cells := 0, slots := 0, locals := 12 } : Room).slots) := by
  refine MetFree.of_bodySF (plainFor_of_name pn_2) hisR ?_
  intro p e s m args below meth c s₁ Bd hml0 hP hK
  obtain ⟨rfl, hZ, hh⟩ := hP
  have hx := Bd.exec
  have hby := Bd.bytes
  have hlk := BodyLoose.notSynchronized Bd
  have hret := Bd.returns
  have hml : c.maxLocals = 1 := hml0
  have hown : s.vm.findClass "java/lang/Record" = some m.cls := findClass_of_methodNamed Bd.named
  have hnm := (name_of_methodNamed Bd.named Bd.method).1
  have X0 : Stand p l e ({ frames := 1, cells := 0, slots := 0, locals := 12 } : Room) s m #[(.ref a1)] below meth c s₁ [] 0 0 := Stand.of_body Bd
  have e0 : s₁.heap = h0 := by rw [← hh, Bd.state]; rfl
  have N0 := Fr.nil n0
  have K0 : Keep h0 h0 [] := Keep.refl h0 _
  refine Fin.step (Q := fun v h L => Q2 Z a1 h0 n0 v h L) (st' := s₁.setTop (mkF m 0 #[.val (.ref a1)] [])) (fun t k => castTop (ef_rm2 m a1) k) ?_
  show Fin p e below s _ _ _ (s₁.setTop (mkF m 0 #[.val (.ref a1)] []))
  refine Fin.step (fun _ => XS.aloadN X0.here hx rfl (hb hby d2_0) rfl rfl) ?_
  show Fin p e below s _ _ _ (s₁.setTop (mkF m 1 #[.val (.ref a1)] [(.ref a1)]))
  obtain ⟨Ty1, Xy1, ey1, sty1⟩ := initO X0 hx hZ hown (hw _ (List.mem_of_getElem? (i := 11) rfl)) (hw _ (List.mem_of_getElem? (i := 12) rfl)) (hw _ (List.mem_of_getElem? (i := 13) rfl)) e0 (g := (mkF m 1 #[.val (.ref a1)] [(.ref a1)])) rfl (by rw [hml]; rfl) rfl (hb hby d2_1) (by decide) (W := 0) (by show 2 * 0 + _ ≤ _; exact Nat.le_of_eq rfl) (by decide)
  refine Fin.step (sty1) ?_
  show Fin p e below s _ _ _ (Ty1.setTop (mkF m 4 #[.val (.ref a1)] []))
  refine Fin.retV Xy1 hx hret hlk (hb hby d2_4) (by decide) (by decide) ?_
  show Q2 Z a1 h0 n0 _ Ty1.heap _
  rw [ey1]
  exact ⟨rfl, N0, rfl⟩
theorem d7_0 : decode jdk_18_method_1_code 0 = .ok (.aload_n 0, 1) := by decide +kernel
theorem d7_1 : decode jdk_18_method_1_code 1 = .ok (.invokespecial 1, 3) := by decide +kernel
theorem d7_4 : decode jdk_18_method_1_code 4 = .ok (.return_, 1) := by decide +kernel
theorem pn_7 : plainName "java/lang/Number" = true := by first | (simp [plainName, overriddenIn]; done) | decide +kernel
theorem ef_rm7 (m : MethodId) (x0 : Addr) : entryFrame m #[(.ref x0)] 1 = mkF m 0 #[.val (.ref x0)] [] := by first | (simp [entryFrame, mkF, argsToLocals, Value.category]; done) | rfl
def Q7 (Z : State) (a1 : Addr) (h0 : Heap) (n0 : Nat) (v : Option Value) (h : Heap) (L : List Loc) : Prop := v = none ∧ Fr n0 L ∧ h = h0
set_option maxRecDepth 65536 in
set_option maxHeartbeats 40000000 in
theorem rm7 (l : Launch) (Z : State) (a0 : Array Value) (hw : ∀ d ∈ tables_1, d.before a0 Z = true) (ws : List Jvm.Cond) (a1 : Addr) (h0 : Heap) (n0 : Nat) (Z0 : n0 ≤ h0.size) :
    MetFree l (⟨"java/lang/Number", "<init>", "()V"⟩ : MethodName) (head1 (Jvm.Cond.code (⟨"java/lang/Number", "<init>", "()V"⟩ : MethodName) jdk_18_method_1_code 1 none :: ws) ({ frames := 1, cells := 0, slots := 0, locals := 12 } : Room)) (fun a U => a = #[(.ref a1)] ∧ Z.Warmed39 U.vm ∧ U.heap = h0) (fun _ _ _ _ _ => True) (fun _ U o U' => ∃ v L, o = .returned v ∧ Q7 Z a1 h0 n0 v U'.heap L ∧ FrameEnd U o U' L ({ frames := 1, cells := 0, slots := 0, locals := 12 } : Room).cells ({ frames := 1, cells := 0, slots := 0, locals := 12 } : Room).slots) := by
  refine MetFree.of_bodySF (plainFor_of_name pn_7) hisR ?_
  intro p e s m args below meth c s₁ Bd hml0 hP hK
  obtain ⟨rfl, hZ, hh⟩ := hP
  have hx := Bd.exec
  have hby := Bd.bytes
  have hlk := BodyLoose.notSynchronized Bd
  have hret := Bd.returns
  have hml : c.maxLocals = 1 := hml0
  have hown : s.vm.findClass "java/lang/Number" = some m.cls := findClass_of_methodNamed Bd.named
  have hnm := (name_of_methodNamed Bd.named Bd.method).1
  have X0 : Stand p l e ({ frames := 1, cells := 0, slots := 0, locals := 12 } : Room) s m #[(.ref a1)] below meth c s₁ [] 0 0 := Stand.of_body Bd
  have e0 : s₁.heap = h0 := by rw [← hh, Bd.state]; rfl
  have N0 := Fr.nil n0
  have K0 : Keep h0 h0 [] := Keep.refl h0 _
  refine Fin.step (Q := fun v h L => Q7 Z a1 h0 n0 v h L) (st' := s₁.setTop (mkF m 0 #[.val (.ref a1)] [])) (fun t k => castTop (ef_rm7 m a1) k) ?_
  show Fin p e below s _ _ _ (s₁.setTop (mkF m 0 #[.val (.ref a1)] []))
  refine Fin.step (fun _ => XS.aloadN X0.here hx rfl (hb hby d7_0) rfl rfl) ?_
  show Fin p e below s _ _ _ (s₁.setTop (mkF m 1 #[.val (.ref a1)] [(.ref a1)]))
  obtain ⟨Ty1, Xy1, ey1, sty1⟩ := initO X0 hx hZ hown (hw _ (List.mem_of_getElem? (i := 49) rfl)) (hw _ (List.mem_of_getElem? (i := 12) rfl)) (hw _ (List.mem_of_getElem? (i := 13) rfl)) e0 (g := (mkF m 1 #[.val (.ref a1)] [(.ref a1)])) rfl (by rw [hml]; rfl) rfl (hb hby d7_1) (by decide) (W := 0) (by show 2 * 0 + _ ≤ _; exact Nat.le_of_eq rfl) (by decide)
  refine Fin.step (sty1) ?_
  show Fin p e below s _ _ _ (Ty1.setTop (mkF m 4 #[.val (.ref a1)] []))
  refine Fin.retV Xy1 hx hret hlk (hb hby d7_4) (by decide) (by decide) ?_
  show Q7 Z a1 h0 n0 _ Ty1.heap _
  rw [ey1]
  exact ⟨rfl, N0, rfl⟩
theorem d1_0 : decode prog_10_method_1_code 0 = .ok (.aload_n 0, 1) := by decide +kernel
theorem d1_1 : decode prog_10_method_1_code 1 = .ok (.invokespecial 5, 3) := by decide +kernel
theorem d1_4 : decode prog_10_method_1_code 4 = .ok (.aload_n 0, 1) := by decide +kernel
theorem d1_5 : decode prog_10_method_1_code 5 = .ok (.lload_n 1, 1) := by decide +kernel
theorem d1_6 : decode prog_10_method_1_code 6 = .ok (.putfield 11, 3) := by decide +kernel
theorem d1_9 : decode prog_10_method_1_code 9 = .ok (.aload_n 0, 1) := by decide +kernel
theorem d1_10 : decode prog_10_method_1_code 10 = .ok (.iload_n 3, 1) := by decide +kernel
theorem d1_11 : decode prog_10_method_1_code 11 = .ok (.putfield 17, 3) := by decide +kernel
theorem d1_14 : decode prog_10_method_1_code 14 = .ok (.aload_n 0, 1) := by decide +kernel
theorem d1_15 : decode prog_10_method_1_code 15 = .ok (.iload 4, 2) := by decide +kernel
theorem d1_17 : decode prog_10_method_1_code 17 = .ok (.putfield 21, 3) := by decide +kernel
theorem d1_20 : decode prog_10_method_1_code 20 = .ok (.return_, 1) := by decide +kernel
theorem pn_1 : plainName "com/example/stavetree/stavetree/Block" = true := by first | (simp [plainName, overriddenIn]; done) | decide +kernel
theorem pd_0 : parseMethodDescriptor "()V" = some ⟨[], none⟩ := by decide +kernel
theorem ef_rm1 (m : MethodId) (x0 : Addr) (x1 : Int64) (x2 : Int32) (x3 : Int32) : entryFrame m #[(.ref x0), (.long x1), (.int x2), (.int x3)] 5 = mkF m 0 #[.val (.ref x0), .val (.long x1), .second, .val (.int x2), .val (.int x3)] [] := by first | (simp [entryFrame, mkF, argsToLocals, Value.category]; done) | rfl
def Q1 (Z : State) (a1 : Addr) (q2 : Int64) (p3 : Int32) (p4 : Int32) (u1 : Value) (u2 : Value) (u3 : Value) (h0 : Heap) (n0 : Nat) (v : Option Value) (h : Heap) (L : List Loc) : Prop := v = none ∧ Fr n0 L ∧ Keep h0 h [a1] ∧ Fld Z h a1 "com/example/stavetree/stavetree/Block" "address" "J" (.long q2) ∧ Fld Z h a1 "com/example/stavetree/stavetree/Block" "length" "I" (.int p3) ∧ Fld Z h a1 "com/example/stavetree/stavetree/Block" "checksum" "I" (.int p4)
set_option maxRecDepth 65536 in
set_option maxHeartbeats 40000000 in
theorem rm1 (l : Launch) (Z : State) (a0 : Array Value) (hw : ∀ d ∈ tables_1, d.before a0 Z = true) (ws : List Jvm.Cond) (a1 : Addr) (q2 : Int64) (p3 : Int32) (p4 : Int32) (u1 : Value) (u2 : Value) (u3 : Value) (h0 : Heap) (n0 : Nat) (Z0 : n0 ≤ h0.size) (HE_a1 : Exa Z h0 a1 "com/example/stavetree/stavetree/Block") (HF_a1_address : Fld Z h0 a1 "com/example/stavetree/stavetree/Block" "address" "J" u1) (HF_a1_length : Fld Z h0 a1 "com/example/stavetree/stavetree/Block" "length" "I" u2) (HF_a1_checksum : Fld Z h0 a1 "com/example/stavetree/stavetree/Block" "checksum" "I" u3) (g_a1 : n0 ≤ a1) :
    MetFree l (⟨"com/example/stavetree/stavetree/Block", "<init>", "(JII)V"⟩ : MethodName) (head1 (Jvm.Cond.code (⟨"com/example/stavetree/stavetree/Block", "<init>", "(JII)V"⟩ : MethodName) prog_10_method_1_code 5 none :: ws) ({ frames := 2, cells := 0, slots := 0, locals := 24 } : Room)) (fun a U => a = #[(.ref a1), (.long q2), (.int p3), (.int p4)] ∧ Z.Warmed39 U.vm ∧ U.heap = h0) (fun _ _ _ _ _ => True) (fun _ U o U' => ∃ v L, o = .returned v ∧ Q1 Z a1 q2 p3 p4 u1 u2 u3 h0 n0 v U'.heap L ∧ FrameEnd U o U' L ({ frames := 2, cells := 0, slots := 0, locals := 24 } : Room).cells ({ frames := 2, cells := 0, slots := 0, locals := 24 } : Room).slots) := by
  refine MetFree.of_bodySF (plainFor_of_name pn_1) hisR ?_
  intro p e s m args below meth c s₁ Bd hml0 hP hK
  obtain ⟨rfl, hZ, hh⟩ := hP
  have hx := Bd.exec
  have hby := Bd.bytes
  have hlk := BodyLoose.notSynchronized Bd
  have hret := Bd.returns
  have hml : c.maxLocals = 5 := hml0
  have hown : s.vm.findClass "com/example/stavetree/stavetree/Block" = some m.cls := findClass_of_methodNamed Bd.named
  have hnm := (name_of_methodNamed Bd.named Bd.method).1
  have X0 : Stand p l e ({ frames := 2, cells := 0, slots := 0, locals := 24 } : Room) s m #[(.ref a1), (.long q2), (.int p3), (.int p4)] below meth c s₁ [] 0 0 := Stand.of_body Bd
  have e0 : s₁.heap = h0 := by rw [← hh, Bd.state]; rfl
  have N0 := Fr.nil n0
  have K0 : Keep h0 h0 [a1] := Keep.refl h0 _
  refine Fin.step (Q := fun v h L => Q1 Z a1 q2 p3 p4 u1 u2 u3 h0 n0 v h L) (st' := s₁.setTop (mkF m 0 #[.val (.ref a1), .val (.long q2), .second, .val (.int p3), .val (.int p4)] [])) (fun t k => castTop (ef_rm1 m a1 q2 p3 p4) k) ?_
  show Fin p e below s _ _ _ (s₁.setTop (mkF m 0 #[.val (.ref a1), .val (.long q2), .second, .val (.int p3), .val (.int p4)] []))
  refine Fin.step (fun _ => XS.aloadN X0.here hx rfl (hb hby d1_0) rfl rfl) ?_
  show Fin p e below s _ _ _ (s₁.setTop (mkF m 1 #[.val (.ref a1), .val (.long q2), .second, .val (.int p3), .val (.int p4)] [(.ref a1)]))
  obtain ⟨_, _, ⟨Ty1, Ly1, ky1, ny1⟩, -, Xy1, ⟨Lcy1, hQy1, ly1, yy1, zy1⟩, sty1⟩ := X0.specialBack hx (y := (⟨"java/lang/Record", "<init>", "()V"⟩ : MethodName)) rfl hown (mvT hZ (hw _ (List.mem_of_getElem? (i := 6) rfl))) (mvT hZ (hw _ (List.mem_of_getElem? (i := 7) rfl))) (mvT hZ (hw _ (List.mem_of_getElem? (i := 10) rfl))) (by decide) (backOf (W := 0) (rm2 l Z a0 hw [] a1 h0 n0 Z0 ) hZ (hw _ (List.mem_of_getElem? (i := 10) rfl)) (hw _ (List.mem_of_getElem? (i := 9) rfl)) (by decide) (by decide)) (g := (mkF m 1 #[.val (.ref a1), .val (.long q2), .second, .val (.int p3), .val (.int p4)] [(.ref a1)])) rfl (by rw [hml]; rfl) (Steps.refl _) (a := a1) (argsL := []) (rest := []) (lenOf pd_0 rfl) rfl (by show 2 * 0 + _ ≤ _; exact Nat.le_of_eq rfl) (hb hby d1_1) (fun _ _ => ⟨rfl, e0, (by decide : 0 + 0 ≤ _), (by decide : 0 + 0 ≤ _)⟩)
  dsimp only [Pt.U, Pt.locs, Pt.cells, Pt.slots] at Xy1 ly1 yy1 zy1 sty1 hQy1
  subst ly1 yy1 zy1
  obtain ⟨rfl, Nqy1, eqy1⟩ := hQy1
  have Ny1 := Fr.app N0 Nqy1
  refine Fin.step (fun _ k => sty1.trans k) ?_
  show Fin p e below s _ _ _ (Ty1.setTop (mkF m 4 #[.val (.ref a1), .val (.long q2), .second, .val (.int p3), .val (.int p4)] []))
  refine Fin.step (fun _ => XS.aloadN Xy1.here hx rfl (hb hby d1_4) rfl rfl) ?_
  show Fin p e below s _ _ _ (Ty1.setTop (mkF m 5 #[.val (.ref a1), .val (.long q2), .second, .val (.int p3), .val (.int p4)] [(.ref a1)]))
  refine Fin.step (fun _ => XS.lloadN Xy1.here hx rfl (hb hby d1_5) rfl) ?_
  show Fin p e below s _ _ _ (Ty1.setTop (mkF m 6 #[.val (.ref a1), .val (.long q2), .second, .val (.int p3), .val (.int p4)] [(.long q2), (.ref a1)]))
  obtain ⟨Ty2, hy2, Xy2, ey2, Wy2, sty2⟩ := putF Xy1 hx hZ hown (host := "") (Or.inl (hw _ (List.mem_of_getElem? (i := 14) rfl))) Via.refl eqy1 HF_a1_address HE_a1 (Or.inr ⟨(hw _ (List.mem_of_getElem? (i := 15) rfl)), rfl, hnm⟩) (hw _ (List.mem_of_getElem? (i := 1) rfl)) (ty := .long) (by decide) rfl rfl (g := (mkF m 6 #[.val (.ref a1), .val (.long q2), .second, .val (.int p3), .val (.int p4)] [(.long q2), (.ref a1)])) rfl rfl (hb hby d1_6)
  have Fwy2 : Fld Z hy2 a1 "com/example/stavetree/stavetree/Block" "address" "J" (.long q2) := HF_a1_address.same Wy2
  have Zy2 : n0 ≤ hy2.size := Nat.le_trans Z0 (Keep.of_wr Wy2).1
  have Ky2 : Keep h0 hy2 [a1] := K0.wr Wy2 (Or.inl (List.mem_of_getElem? (i := 0) rfl))
  have Ny2 := Fr.snoc Xy2 Ny1 g_a1
  refine Fin.step (sty2) ?_
  show Fin p e below s _ _ _ (Ty2.setTop (mkF m 9 #[.val (.ref a1), .val (.long q2), .second, .val (.int p3), .val (.int p4)] []))
  refine Fin.step (fun _ => XS.aloadN Xy2.here hx rfl (hb hby d1_9) rfl rfl) ?_
  show Fin p e below s _ _ _ (Ty2.setTop (mkF m 10 #[.val (.ref a1), .val (.long q2), .second, .val (.int p3), .val (.int p4)] [(.ref a1)]))
  refine Fin.step (fun _ => XS.iloadN Xy2.here hx rfl (hb hby d1_10) rfl) ?_
  show Fin p e below s _ _ _ (Ty2.setTop (mkF m 11 #[.val (.ref a1), .val (.long q2), .second, .val (.int p3), .val (.int p4)] [(.int p3), (.ref a1)]))
  obtain ⟨Ty3, hy3, Xy3, ey3, Wy3, sty3⟩ := putF Xy2 hx hZ hown (host := "") (Or.inl (hw _ (List.mem_of_getElem? (i := 16) rfl))) Via.refl ey2 (HF_a1_length.other Wy2 (Or.inr (slot_ne (Or.inr (hw _ (List.mem_of_getElem? (i := 17) rfl))) (Or.inr (hw _ (List.mem_of_getElem? (i := 15) rfl))) (by decide) (t := .int) (t' := .long) (by decide) (by decide)))) (HE_a1.wr Wy2) (Or.inr ⟨(hw _ (List.mem_of_getElem? (i := 17) rfl)), rfl, hnm⟩) (hw _ (List.mem_of_getElem? (i := 1) rfl)) (ty := .int) (by decide) rfl rfl (g := (mkF m 11 #[.val (.ref a1), .val (.long q2), .second, .val (.int p3), .val (.int p4)] [(.int p3), (.ref a1)])) rfl rfl (hb hby d1_11)
  have Fwy3 : Fld Z hy3 a1 "com/example/stavetree/stavetree/Block" "length" "I" (.int p3) := (HF_a1_length.other Wy2 (Or.inr (slot_ne (Or.inr (hw _ (List.mem_of_getElem? (i := 17) rfl))) (Or.inr (hw _ (List.mem_of_getElem? (i := 15) rfl))) (by decide) (t := .int) (t' := .long) (by decide) (by decide)))).same Wy3
  have Zy3 : n0 ≤ hy3.size := Nat.le_trans Zy2 (Keep.of_wr Wy3).1
  have Ky3 : Keep h0 hy3 [a1] := Ky2.wr Wy3 (Or.inl (List.mem_of_getElem? (i := 0) rfl))
  have Ny3 := Fr.snoc Xy3 Ny2 g_a1
  refine Fin.step (sty3) ?_
  show Fin p e below s _ _ _ (Ty3.setTop (mkF m 14 #[.val (.ref a1), .val (.long q2), .second, .val (.int p3), .val (.int p4)] []))
  refine Fin.step (fun _ => XS.aloadN Xy3.here hx rfl (hb hby d1_14) rfl rfl) ?_
  show Fin p e below s _ _ _ (Ty3.setTop (mkF m 15 #[.val (.ref a1), .val (.long q2), .second, .val (.int p3), .val (.int p4)] [(.ref a1)]))
  refine Fin.step (fun _ => XS.iload Xy3.here hx rfl (hb hby d1_15) rfl) ?_
  show Fin p e below s _ _ _ (Ty3.setTop (mkF m 17 #[.val (.ref a1), .val (.long q2), .second, .val (.int p3), .val (.int p4)] [(.int p4), (.ref a1)]))
  obtain ⟨Ty4, hy4, Xy4, ey4, Wy4, sty4⟩ := putF Xy3 hx hZ hown (host := "") (Or.inl (hw _ (List.mem_of_getElem? (i := 18) rfl))) Via.refl ey3 ((HF_a1_checksum.other Wy2 (Or.inr (slot_ne (Or.inr (hw _ (List.mem_of_getElem? (i := 19) rfl))) (Or.inr (hw _ (List.mem_of_getElem? (i := 15) rfl))) (by decide) (t := .int) (t' := .long) (by decide) (by decide)))).other Wy3 (Or.inr (slot_ne (Or.inr (hw _ (List.mem_of_getElem? (i := 19) rfl))) (Or.inr (hw _ (List.mem_of_getElem? (i := 17) rfl))) (by decide) (t := .int) (t' := .int) (by decide) (by decide)))) ((HE_a1.wr Wy2).wr Wy3) (Or.inr ⟨(hw _ (List.mem_of_getElem? (i := 19) rfl)), rfl, hnm⟩) (hw _ (List.mem_of_getElem? (i := 1) rfl)) (ty := .int) (by decide) rfl rfl (g := (mkF m 17 #[.val (.ref a1), .val (.long q2), .second, .val (.int p3), .val (.int p4)] [(.int p4), (.ref a1)])) rfl rfl (hb hby d1_17)
  have Fwy4 : Fld Z hy4 a1 "com/example/stavetree/stavetree/Block" "checksum" "I" (.int p4) := ((HF_a1_checksum.other Wy2 (Or.inr (slot_ne (Or.inr (hw _ (List.mem_of_getElem? (i := 19) rfl))) (Or.inr (hw _ (List.mem_of_getElem? (i := 15) rfl))) (by decide) (t := .int) (t' := .long) (by decide) (by decide)))).other Wy3 (Or.inr (slot_ne (Or.inr (hw _ (List.mem_of_getElem? (i := 19) rfl))) (Or.inr (hw _ (List.mem_of_getElem? (i := 17) rfl))) (by decide) (t := .int) (t' := .int) (by decide) (by decide)))).same Wy4
  have Zy4 : n0 ≤ hy4.size := Nat.le_trans Zy3 (Keep.of_wr Wy4).1
  have Ky4 : Keep h0 hy4 [a1] := Ky3.wr Wy4 (Or.inl (List.mem_of_getElem? (i := 0) rfl))
  have Ny4 := Fr.snoc Xy4 Ny3 g_a1
  refine Fin.step (sty4) ?_
  show Fin p e below s _ _ _ (Ty4.setTop (mkF m 20 #[.val (.ref a1), .val (.long q2), .second, .val (.int p3), .val (.int p4)] []))
  refine Fin.retV Xy4 hx hret hlk (hb hby d1_20) (by decide) (by decide) ?_
  show Q1 Z a1 q2 p3 p4 u1 u2 u3 h0 n0 _ Ty4.heap _
  rw [ey4]
  exact ⟨rfl, Ny4, Ky4, ((Fwy2.other Wy3 (Or.inr (slot_ne (Or.inr (hw _ (List.mem_of_getElem? (i := 15) rfl))) (Or.inr (hw _ (List.mem_of_getElem? (i := 17) rfl))) (by decide) (t := .long) (t' := .int) (by decide) (by decide)))).other Wy4 (Or.inr (slot_ne (Or.inr (hw _ (List.mem_of_getElem? (i := 15) rfl))) (Or.inr (hw _ (List.mem_of_getElem? (i := 19) rfl))) (by decide) (t := .long) (t' := .int) (by decide) (by decide)))), (Fwy3.other Wy4 (Or.inr (slot_ne (Or.inr (hw _ (List.mem_of_getElem? (i := 17) rfl))) (Or.inr (hw _ (List.mem_of_getElem? (i := 19) rfl))) (by decide) (t := .int) (t' := .int) (by decide) (by decide)))), Fwy4⟩
theorem d6_0 : decode jdk_33_method_23_code 0 = .ok (.aload_n 0, 1) := by decide +kernel
theorem d6_1 : decode jdk_33_method_23_code 1 = .ok (.invokespecial 202, 3) := by decide +kernel
theorem d6_4 : decode jdk_33_method_23_code 4 = .ok (.aload_n 0, 1) := by decide +kernel
theorem d6_5 : decode jdk_33_method_23_code 5 = .ok (.iload_n 1, 1) := by decide +kernel
theorem d6_6 : decode jdk_33_method_23_code 6 = .ok (.putfield 205, 3) := by decide +kernel
theorem d6_9 : decode jdk_33_method_23_code 9 = .ok (.return_, 1) := by decide +kernel
theorem pn_6 : plainName "java/lang/Integer" = true := by first | (simp [plainName, overriddenIn]; done) | decide +kernel
theorem ef_rm6 (m : MethodId) (x0 : Addr) (x1 : Int32) : entryFrame m #[(.ref x0), (.int x1)] 2 = mkF m 0 #[.val (.ref x0), .val (.int x1)] [] := by first | (simp [entryFrame, mkF, argsToLocals, Value.category]; done) | rfl
def Q6 (Z : State) (a1 : Addr) (p2 : Int32) (u1 : Value) (h0 : Heap) (n0 : Nat) (v : Option Value) (h : Heap) (L : List Loc) : Prop := v = none ∧ Fr n0 L ∧ Keep h0 h [a1]
set_option maxRecDepth 65536 in
set_option maxHeartbeats 40000000 in
theorem rm6 (l : Launch) (Z : State) (a0 : Array Value) (hw : ∀ d ∈ tables_1, d.before a0 Z = true) (ws : List Jvm.Cond) (a1 : Addr) (p2 : Int32) (u1 : Value) (h0 : Heap) (n0 : Nat) (Z0 : n0 ≤ h0.size) (HE_a1 : Exa Z h0 a1 "java/lang/Integer") (HF_a1_value : Fld Z h0 a1 "java/lang/Integer" "value" "I" u1) (g_a1 : n0 ≤ a1) :
    MetFree l (⟨"java/lang/Integer", "<init>", "(I)V"⟩ : MethodName) (head1 (Jvm.Cond.code (⟨"java/lang/Integer", "<init>", "(I)V"⟩ : MethodName) jdk_33_method_23_code 2 none :: ws) ({ frames := 2, cells := 0, slots := 0, locals := 24 } : Room)) (fun a U => a = #[(.ref a1), (.int p2)] ∧ Z.Warmed39 U.vm ∧ U.heap = h0) (fun _ _ _ _ _ => True) (fun _ U o U' => ∃ v L, o = .returned v ∧ Q6 Z a1 p2 u1 h0 n0 v U'.heap L ∧ FrameEnd U o U' L ({ frames := 2, cells := 0, slots := 0, locals := 24 } : Room).cells ({ frames := 2, cells := 0, slots := 0, locals := 24 } : Room).slots) := by
  refine MetFree.of_bodySF (plainFor_of_name pn_6) hisR ?_
  intro p e s m args below meth c s₁ Bd hml0 hP hK
  obtain ⟨rfl, hZ, hh⟩ := hP
  have hx := Bd.exec
  have hby := Bd.bytes
  have hlk := BodyLoose.notSynchronized Bd
  have hret := Bd.returns
  have hml : c.maxLocals = 2 := hml0
  have hown : s.vm.findClass "java/lang/Integer" = some m.cls := findClass_of_methodNamed Bd.named
  have hnm := (name_of_methodNamed Bd.named Bd.method).1
  have X0 : Stand p l e ({ frames := 2, cells := 0, slots := 0, locals := 24 } : Room) s m #[(.ref a1), (.int p2)] below meth c s₁ [] 0 0 := Stand.of_body Bd
  have e0 : s₁.heap = h0 := by rw [← hh, Bd.state]; rfl
  have N0 := Fr.nil n0
  have K0 : Keep h0 h0 [a1] := Keep.refl h0 _
  refine Fin.step (Q := fun v h L => Q6 Z a1 p2 u1 h0 n0 v h L) (st' := s₁.setTop (mkF m 0 #[.val (.ref a1), .val (.int p2)] [])) (fun t k => castTop (ef_rm6 m a1 p2) k) ?_
  show Fin p e below s _ _ _ (s₁.setTop (mkF m 0 #[.val (.ref a1), .val (.int p2)] []))
  refine Fin.step (fun _ => XS.aloadN X0.here hx rfl (hb hby d6_0) rfl rfl) ?_
  show Fin p e below s _ _ _ (s₁.setTop (mkF m 1 #[.val (.ref a1), .val (.int p2)] [(.ref a1)]))
  obtain ⟨_, _, ⟨Ty1, Ly1, ky1, ny1⟩, -, Xy1, ⟨Lcy1, hQy1, ly1, yy1, zy1⟩, sty1⟩ := X0.specialBack hx (y := (⟨"java/lang/Number", "<init>", "()V"⟩ : MethodName)) rfl hown (mvT hZ (hw _ (List.mem_of_getElem? (i := 43) rfl))) (mvT hZ (hw _ (List.mem_of_getElem? (i := 44) rfl))) (mvT hZ (hw _ (List.mem_of_getElem? (i := 48) rfl))) (by decide) (backOf (W := 0) (rm7 l Z a0 hw [] a1 h0 n0 Z0 ) hZ (hw _ (List.mem_of_getElem? (i := 48) rfl)) (hw _ (List.mem_of_getElem? (i := 47) rfl)) (by decide) (by decide)) (g := (mkF m 1 #[.val (.ref a1), .val (.int p2)] [(.ref a1)])) rfl (by rw [hml]; rfl) (Steps.refl _) (a := a1) (argsL := []) (rest := []) (lenOf pd_0 rfl) rfl (by show 2 * 0 + _ ≤ _; exact Nat.le_of_eq rfl) (hb hby d6_1) (fun _ _ => ⟨rfl, e0, (by decide : 0 + 0 ≤ _), (by decide : 0 + 0 ≤ _)⟩)
  dsimp only [Pt.U, Pt.locs, Pt.cells, Pt.slots] at Xy1 ly1 yy1 zy1 sty1 hQy1
  subst ly1 yy1 zy1
  obtain ⟨rfl, Nqy1, eqy1⟩ := hQy1
  have Ny1 := Fr.app N0 Nqy1
  refine Fin.step (fun _ k => sty1.trans k) ?_
  show Fin p e below s _ _ _ (Ty1.setTop (mkF m 4 #[.val (.ref a1), .val (.int p2)] []))
  refine Fin.step (fun _ => XS.aloadN Xy1.here hx rfl (hb hby d6_4) rfl rfl) ?_
  show Fin p e below s _ _ _ (Ty1.setTop (mkF m 5 #[.val (.ref a1), .val (.int p2)] [(.ref a1)]))
  refine Fin.step (fun _ => XS.iloadN Xy1.here hx rfl (hb hby d6_5) rfl) ?_
  show Fin p e below s _ _ _ (Ty1.setTop (mkF m 6 #[.val (.ref a1), .val (.int p2)] [(.int p2), (.ref a1)]))
  obtain ⟨Ty2, hy2, Xy2, ey2, Wy2, sty2⟩ := putF Xy1 hx hZ hown (host := "") (Or.inl (hw _ (List.mem_of_getElem? (i := 50) rfl))) Via.refl eqy1 HF_a1_value HE_a1 (Or.inr ⟨(hw _ (List.mem_of_getElem? (i := 51) rfl)), rfl, hnm⟩) (hw _ (List.mem_of_getElem? (i := 38) rfl)) (ty := .int) (by decide) rfl rfl (g := (mkF m 6 #[.val (.ref a1), .val (.int p2)] [(.int p2), (.ref a1)])) rfl rfl (hb hby d6_6)
  have Fwy2 : Fld Z hy2 a1 "java/lang/Integer" "value" "I" (.int p2) := HF_a1_value.same Wy2
  have Zy2 : n0 ≤ hy2.size := Nat.le_trans Z0 (Keep.of_wr Wy2).1
  have Ky2 : Keep h0 hy2 [a1] := K0.wr Wy2 (Or.inl (List.mem_of_getElem? (i := 0) rfl))
  have Ny2 := Fr.snoc Xy2 Ny1 g_a1
  refine Fin.step (sty2) ?_
  show Fin p e below s _ _ _ (Ty2.setTop (mkF m 9 #[.val (.ref a1), .val (.int p2)] []))
  refine Fin.retV Xy2 hx hret hlk (hb hby d6_9) (by decide) (by decide) ?_
  show Q6 Z a1 p2 u1 h0 n0 _ Ty2.heap _
  rw [ey2]
  exact ⟨rfl, Ny2, Ky2⟩
theorem d4_0 : decode jdk_33_method_22_code 0 = .ok (.iload_n 0, 1) := by decide +kernel
theorem d4_1 : decode jdk_33_method_22_code 1 = .ok (.bipush (-128), 2) := by decide +kernel
theorem d4_3 : decode jdk_33_method_22_code 3 = .ok (.if_icmp .lt 20, 3) := by decide +kernel
theorem d4_6 : decode jdk_33_method_22_code 6 = .ok (.iload_n 0, 1) := by decide +kernel
theorem d4_7 : decode jdk_33_method_22_code 7 = .ok (.getstatic 191, 3) := by decide +kernel
theorem d4_10 : decode jdk_33_method_22_code 10 = .ok (.if_icmp .gt 13, 3) := by decide +kernel
theorem d4_13 : decode jdk_33_method_22_code 13 = .ok (.getstatic 195, 3) := by decide +kernel
theorem d4_16 : decode jdk_33_method_22_code 16 = .ok (.iload_n 0, 1) := by decide +kernel
theorem d4_17 : decode jdk_33_method_22_code 17 = .ok (.sipush 128, 3) := by decide +kernel
theorem d4_20 : decode jdk_33_method_22_code 20 = .ok (.iadd, 1) := by decide +kernel
theorem d4_21 : decode jdk_33_method_22_code 21 = .ok (.aaload, 1) := by decide +kernel
theorem d4_22 : decode jdk_33_method_22_code 22 = .ok (.areturn, 1) := by decide +kernel
theorem d4_23 : decode jdk_33_method_22_code 23 = .ok (.new 1, 3) := by decide +kernel
theorem d4_26 : decode jdk_33_method_22_code 26 = .ok (.dup, 1) := by decide +kernel
theorem d4_27 : decode jdk_33_method_22_code 27 = .ok (.iload_n 0, 1) := by decide +kernel
theorem d4_28 : decode jdk_33_method_22_code 28 = .ok (.invokespecial 199, 3) := by decide +kernel
theorem d4_31 : decode jdk_33_method_22_code 31 = .ok (.areturn, 1) := by decide +kernel
theorem pn_4 : plainName "java/lang/Integer" = true := by first | (simp [plainName, overriddenIn]; done) | decide +kernel
theorem pd_1 : parseMethodDescriptor "(I)V" = some ⟨[.int], none⟩ := by decide +kernel
theorem ef_rm4 (m : MethodId) (x0 : Int32) : entryFrame m #[(.int x0)] 1 = mkF m 0 #[.val (.int x0)] [] := by first | (simp [entryFrame, mkF, argsToLocals, Value.category]; done) | rfl
def Q4 (Z : State) (p1 : Int32) (ca : Addr) (h0 : Heap) (n0 : Nat) (v : Option Value) (h : Heap) (L : List Loc) : Prop := ∃ bx : Addr, v = some (.ref bx) ∧ Fr n0 L ∧ Keep h0 h [] ∧ Exa Z h bx "java/lang/Integer"
set_option maxRecDepth 65536 in
set_option maxHeartbeats 40000000 in
theorem rm4 (l : Launch) (Z : State) (a0 : Array Value) (hw : ∀ d ∈ tables_1, d.before a0 Z = true) (ws : List Jvm.Cond) (p1 : Int32) (ca : Addr) (h0 : Heap) (n0 : Nat) (Z0 : n0 ≤ h0.size) (HS_java_lang_Integer_IntegerCache_high : Sta Z h0 "java/lang/Integer$IntegerCache" "high" "I" (.int (127 : Int32))) (HS_java_lang_Integer_IntegerCache_cache : Sta Z h0 "java/lang/Integer$IntegerCache" "cache" "[Ljava/lang/Integer;" (.ref ca)) (hca : own_ca Z h0 ca) :
    MetFree l (⟨"java/lang/Integer", "valueOf", "(I)Ljava/lang/Integer;"⟩ : MethodName) (head1 (Jvm.Cond.code (⟨"java/lang/Integer", "valueOf", "(I)Ljava/lang/Integer;"⟩ : MethodName) jdk_33_method_22_code 1 (some (.object "java/lang/Integer")) :: ws) ({ frames := 3, cells := 1, slots := 1, locals := 38 } : Room)) (fun a U => a = #[(.int p1)] ∧ Z.Warmed39 U.vm ∧ U.heap = h0) (fun _ _ _ _ _ => True) (fun _ U o U' => ∃ v L, o = .returned v ∧ Q4 Z p1 ca h0 n0 v U'.heap L ∧ FrameEnd U o U' L ({ frames := 3, cells := 1, slots := 1, locals := 38 } : Room).cells ({ frames := 3, cells := 1, slots := 1, locals := 38 } : Room).slots) := by
  refine MetFree.of_bodySF (plainFor_of_name pn_4) hisR ?_
  intro p e s m args below meth c s₁ Bd hml0 hP hK
  obtain ⟨rfl, hZ, hh⟩ := hP
  have hx := Bd.exec
  have hby := Bd.bytes
  have hlk := BodyLoose.notSynchronized Bd
  have hret := Bd.returns
  have hml : c.maxLocals = 1 := hml0
  have hown : s.vm.findClass "java/lang/Integer" = some m.cls := findClass_of_methodNamed Bd.named
  have hnm := (name_of_methodNamed Bd.named Bd.method).1
  have X0 : Stand p l e ({ frames := 3, cells := 1, slots := 1, locals := 38 } : Room) s m #[(.int p1)] below meth c s₁ [] 0 0 := Stand.of_body Bd
  have e0 : s₁.heap = h0 := by rw [← hh, Bd.state]; rfl
  have N0 := Fr.nil n0
  have K0 : Keep h0 h0 [] := Keep.refl h0 _
  refine Fin.step (Q := fun v h L => Q4 Z p1 ca h0 n0 v h L) (st' := s₁.setTop (mkF m 0 #[.val (.int p1)] [])) (fun t k => castTop (ef_rm4 m p1) k) ?_
  show Fin p e below s _ _ _ (s₁.setTop (mkF m 0 #[.val (.int p1)] []))
  refine Fin.step (fun _ => XS.iloadN X0.here hx rfl (hb hby d4_0) rfl) ?_
  show Fin p e below s _ _ _ (s₁.setTop (mkF m 1 #[.val (.int p1)] [(.int p1)]))
  refine Fin.step (fun _ => XS.bipush X0.here hx rfl (hb hby d4_1)) ?_
  show Fin p e below s _ _ _ (s₁.setTop (mkF m 3 #[.val (.int p1)] [(.int (-128 : Int32)), (.int p1)]))
  by_cases hcy1 : p1 < (-128 : Int32)
  · refine Fin.step (fun _ => XS.icmpYes X0.here hx rfl (pc0 := 3) (pc' := 23) rfl (hb hby d4_3) rfl (tlt (hcy1 : (p1 < (-128 : Int32)))).1 (by decide) (by decide)) ?_
    show Fin p e below s _ _ _ (s₁.setTop (mkF m 23 #[.val (.int p1)] []))
    obtain ⟨Ty2, hy2, Xy2, ey2, Ey2, Ay2, Dy2, -, sty2⟩ := newO X0 hx hZ hown (hw _ (List.mem_of_getElem? (i := 37) rfl)) (hw _ (List.mem_of_getElem? (i := 38) rfl)) (hw _ (List.mem_of_getElem? (i := 22) rfl)) e0 (g := (mkF m 23 #[.val (.int p1)] [])) rfl (hb hby d4_23) (by decide) (by decide)
    obtain ⟨by2, gy2⟩ : ∃ z, z = h0.size := ⟨_, rfl⟩
    rw [← gy2] at Ay2 Dy2 sty2
    have gzy2 : n0 ≤ by2 := Nat.le_trans Z0 (Nat.le_of_eq gy2.symm)
    have szy2 : h0.size ≤ by2 := Nat.le_trans K0.1 (Nat.le_of_eq gy2.symm)
    have Zy2 : n0 ≤ hy2.size := Nat.le_trans Z0 Ey2.1
    have Ky2 : Keep h0 hy2 [] := K0.ext Ey2
    have F_value_by2 : Fld Z hy2 by2 "java/lang/Integer" "value" "I" (.int (0 : Int32)) := Dy2 (Or.inr (hw _ (List.mem_of_getElem? (i := 51) rfl))) (ty := .int) (by decide)
    refine Fin.step (sty2) ?_
    show Fin p e below s _ _ _ (Ty2.setTop (mkF m 26 #[.val (.int p1)] [(.ref by2)]))
    refine Fin.step (fun _ => XS.dup Xy2.here hx rfl (hb hby d4_26) rfl rfl) ?_
    show Fin p e below s _ _ _ (Ty2.setTop (mkF m 27 #[.val (.int p1)] [(.ref by2), (.ref by2)]))
    refine Fin.step (fun _ => XS.iloadN Xy2.here hx rfl (hb hby d4_27) rfl) ?_
    show Fin p e below s _ _ _ (Ty2.setTop (mkF m 28 #[.val (.int p1)] [(.int p1), (.ref by2), (.ref by2)]))
    obtain ⟨_, _, ⟨Ty3, Ly3, ky3, ny3⟩, -, Xy3, ⟨Lcy3, hQy3, ly3, yy3, zy3⟩, sty3⟩ := Xy2.specialBack hx (y := (⟨"java/lang/Integer", "<init>", "(I)V"⟩ : MethodName)) rfl hown (mvT hZ (hw _ (List.mem_of_getElem? (i := 39) rfl))) (mvT hZ (hw _ (List.mem_of_getElem? (i := 40) rfl))) (mvT hZ (hw _ (List.mem_of_getElem? (i := 42) rfl))) (by decide) (backOf (W := 1) (rm6 l Z a0 hw [] by2 p1 (.int (0 : Int32)) hy2 n0 Zy2 Ay2 F_value_by2 gzy2) hZ (hw _ (List.mem_of_getElem? (i := 42) rfl)) (hw _ (List.mem_of_getElem? (i := 22) rfl)) (by decide) (by decide)) (g := (mkF m 28 #[.val (.int p1)] [(.int p1), (.ref by2), (.ref by2)])) rfl (by rw [hml]; rfl) (Steps.refl _) (a := by2) (argsL := [(.int p1)]) (rest := [(.ref by2)]) (lenOf pd_1 rfl) rfl (by show 2 * 0 + _ ≤ _; exact Nat.le_of_eq rfl) (hb hby d4_28) (fun _ _ => ⟨rfl, ey2, (by decide : 1 + 0 ≤ _), (by decide : 1 + 0 ≤ _)⟩)
    dsimp only [Pt.U, Pt.locs, Pt.cells, Pt.slots] at Xy3 ly3 yy3 zy3 sty3 hQy3
    subst ly3 yy3 zy3
    obtain ⟨rfl, Nqy3, Kcy3⟩ := hQy3
    have Ny3 := Fr.app N0 Nqy3
    have Zy3 : n0 ≤ Ty3.heap.size := Nat.le_trans Zy2 Kcy3.1
    have Ky3 : Keep h0 Ty3.heap [] := Ky2.trans Kcy3 (allS (Or.inr szy2) all0)
    refine Fin.step (fun _ k => sty3.trans k) ?_
    show Fin p e below s _ _ _ (Ty3.setTop (mkF m 31 #[.val (.int p1)] [(.ref by2)]))
    refine Fin.retR Xy3 hx hret rfl rfl hlk (hb hby d4_31) (by decide) (by decide) ?_
    show Q4 Z p1 ca h0 n0 _ Ty3.heap _
    exact ⟨by2, rfl, Ny3, Ky3, (Ay2.keep Kcy3)⟩
  · refine Fin.step (fun _ => XS.icmpNo X0.here hx rfl (hb hby d4_3) rfl (flt (hcy1 : ¬ (p1 < (-128 : Int32)))).1) ?_
    show Fin p e below s _ _ _ (s₁.setTop (mkF m 6 #[.val (.int p1)] []))
    refine Fin.step (fun _ => XS.iloadN X0.here hx rfl (hb hby d4_6) rfl) ?_
    show Fin p e below s _ _ _ (s₁.setTop (mkF m 7 #[.val (.int p1)] [(.int p1)]))
    obtain ⟨Ty4, Xy4, ey4, sty4⟩ := getS2 X0 hx hZ hown (host := "") (Or.inl (hw _ (List.mem_of_getElem? (i := 24) rfl))) Via.refl e0 HS_java_lang_Integer_IntegerCache_high (g := (mkF m 7 #[.val (.int p1)] [(.int p1)])) rfl (hb hby d4_7)
    refine Fin.step (sty4) ?_
    show Fin p e below s _ _ _ (Ty4.setTop (mkF m 10 #[.val (.int p1)] [(.int (127 : Int32)), (.int p1)]))
    by_cases hcy5 : (127 : Int32) < p1
    · refine Fin.step (fun _ => XS.icmpYes Xy4.here hx rfl (pc0 := 10) (pc' := 23) rfl (hb hby d4_10) rfl (tlt (hcy5 : ((127 : Int32) < p1))).2.2.1 (by decide) (by decide)) ?_
      show Fin p e below s _ _ _ (Ty4.setTop (mkF m 23 #[.val (.int p1)] []))
      obtain ⟨Ty6, hy6, Xy6, ey6, Ey6, Ay6, Dy6, -, sty6⟩ := newO Xy4 hx hZ hown (hw _ (List.mem_of_getElem? (i := 37) rfl)) (hw _ (List.mem_of_getElem? (i := 38) rfl)) (hw _ (List.mem_of_getElem? (i := 22) rfl)) ey4 (g := (mkF m 23 #[.val (.int p1)] [])) rfl (hb hby d4_23) (by decide) (by decide)
      obtain ⟨by6, gy6⟩ : ∃ z, z = h0.size := ⟨_, rfl⟩
      rw [← gy6] at Ay6 Dy6 sty6
      have gzy6 : n0 ≤ by6 := Nat.le_trans Z0 (Nat.le_of_eq gy6.symm)
      have szy6 : h0.size ≤ by6 := Nat.le_trans K0.1 (Nat.le_of_eq gy6.symm)
      have Zy6 : n0 ≤ hy6.size := Nat.le_trans Z0 Ey6.1
      have Ky6 : Keep h0 hy6 [] := K0.ext Ey6
      have F_value_by6 : Fld Z hy6 by6 "java/lang/Integer" "value" "I" (.int (0 : Int32)) := Dy6 (Or.inr (hw _ (List.mem_of_getElem? (i := 51) rfl))) (ty := .int) (by decide)
      refine Fin.step (sty6) ?_
      show Fin p e below s _ _ _ (Ty6.setTop (mkF m 26 #[.val (.int p1)] [(.ref by6)]))
      refine Fin.step (fun _ => XS.dup Xy6.here hx rfl (hb hby d4_26) rfl rfl) ?_
      show Fin p e below s _ _ _ (Ty6.setTop (mkF m 27 #[.val (.int p1)] [(.ref by6), (.ref by6)]))
      refine Fin.step (fun _ => XS.iloadN Xy6.here hx rfl (hb hby d4_27) rfl) ?_
      show Fin p e below s _ _ _ (Ty6.setTop (mkF m 28 #[.val (.int p1)] [(.int p1), (.ref by6), (.ref by6)]))
      obtain ⟨_, _, ⟨Ty7, Ly7, ky7, ny7⟩, -, Xy7, ⟨Lcy7, hQy7, ly7, yy7, zy7⟩, sty7⟩ := Xy6.specialBack hx (y := (⟨"java/lang/Integer", "<init>", "(I)V"⟩ : MethodName)) rfl hown (mvT hZ (hw _ (List.mem_of_getElem? (i := 39) rfl))) (mvT hZ (hw _ (List.mem_of_getElem? (i := 40) rfl))) (mvT hZ (hw _ (List.mem_of_getElem? (i := 42) rfl))) (by decide) (backOf (W := 1) (rm6 l Z a0 hw [] by6 p1 (.int (0 : Int32)) hy6 n0 Zy6 Ay6 F_value_by6 gzy6) hZ (hw _ (List.mem_of_getElem? (i := 42) rfl)) (hw _ (List.mem_of_getElem? (i := 22) rfl)) (by decide) (by decide)) (g := (mkF m 28 #[.val (.int p1)] [(.int p1), (.ref by6), (.ref by6)])) rfl (by rw [hml]; rfl) (Steps.refl _) (a := by6) (argsL := [(.int p1)]) (rest := [(.ref by6)]) (lenOf pd_1 rfl) rfl (by show 2 * 0 + _ ≤ _; exact Nat.le_of_eq rfl) (hb hby d4_28) (fun _ _ => ⟨rfl, ey6, (by decide : 1 + 0 ≤ _), (by decide : 1 + 0 ≤ _)⟩)
      dsimp only [Pt.U, Pt.locs, Pt.cells, Pt.slots] at Xy7 ly7 yy7 zy7 sty7 hQy7
      subst ly7 yy7 zy7
      obtain ⟨rfl, Nqy7, Kcy7⟩ := hQy7
      have Ny7 := Fr.app N0 Nqy7
      have Zy7 : n0 ≤ Ty7.heap.size := Nat.le_trans Zy6 Kcy7.1
      have Ky7 : Keep h0 Ty7.heap [] := Ky6.trans Kcy7 (allS (Or.inr szy6) all0)
      refine Fin.step (fun _ k => sty7.trans k) ?_
      show Fin p e below s _ _ _ (Ty7.setTop (mkF m 31 #[.val (.int p1)] [(.ref by6)]))
      refine Fin.retR Xy7 hx hret rfl rfl hlk (hb hby d4_31) (by decide) (by decide) ?_
      show Q4 Z p1 ca h0 n0 _ Ty7.heap _
      exact ⟨by6, rfl, Ny7, Ky7, (Ay6.keep Kcy7)⟩
    · refine Fin.step (fun _ => XS.icmpNo Xy4.here hx rfl (hb hby d4_10) rfl (flt (hcy5 : ¬ ((127 : Int32) < p1))).2.2.1) ?_
      show Fin p e below s _ _ _ (Ty4.setTop (mkF m 13 #[.val (.int p1)] []))
      obtain ⟨Ty8, Xy8, ey8, sty8⟩ := getS2 Xy4 hx hZ hown (host := "") (Or.inl (hw _ (List.mem_of_getElem? (i := 26) rfl))) Via.refl ey4 HS_java_lang_Integer_IntegerCache_cache (g := (mkF m 13 #[.val (.int p1)] [])) rfl (hb hby d4_13)
      refine Fin.step (sty8) ?_
      show Fin p e below s _ _ _ (Ty8.setTop (mkF m 16 #[.val (.int p1)] [(.ref ca)]))
      refine Fin.step (fun _ => XS.iloadN Xy8.here hx rfl (hb hby d4_16) rfl) ?_
      show Fin p e below s _ _ _ (Ty8.setTop (mkF m 17 #[.val (.int p1)] [(.int p1), (.ref ca)]))
      refine Fin.step (fun _ => XS.sipush Xy8.here hx rfl (hb hby d4_17)) ?_
      show Fin p e below s _ _ _ (Ty8.setTop (mkF m 20 #[.val (.int p1)] [(.int (128 : Int32)), (.int p1), (.ref ca)]))
      refine Fin.step (fun _ => XS.iadd Xy8.here hx rfl (hb hby d4_20) rfl) ?_
      show Fin p e below s _ _ _ (Ty8.setTop (mkF m 21 #[.val (.int p1)] [(.int (p1 + (128 : Int32))), (.ref ca)]))
      obtain ⟨clc, Arc, hcc⟩ := hca
      obtain ⟨box, in1, at1, ex1⟩ := hcc p1 hcy1 hcy5
      refine Fin.step (Xy8.aaload hx (j := (p1 + (128 : Int32))) (v := (.ref box)) (by rw [ey8]; exact Arc.1) (State.isArrayOf_alike hZ.alike Arc.2.1) rfl Arc.2.2 in1 at1 (g := (mkF m 21 #[.val (.int p1)] [(.int (p1 + (128 : Int32))), (.ref ca)])) rfl rfl (hb hby d4_21)) ?_
      show Fin p e below s _ _ _ (Ty8.setTop (mkF m 22 #[.val (.int p1)] [(.ref box)]))
      refine Fin.retR Xy8 hx hret rfl rfl hlk (hb hby d4_22) (by decide) (by decide) ?_
      show Q4 Z p1 ca h0 n0 _ Ty8.heap _
      rw [ey8]
      exact ⟨box, rfl, N0, K0, ex1⟩
theorem d5_0 : decode prog_10_method_5_code 0 = .ok (.aload_n 1, 1) := by decide +kernel
theorem d5_1 : decode prog_10_method_5_code 1 = .ok (.instanceof 12, 3) := by decide +kernel
theorem d5_4 : decode prog_10_method_5_code 4 = .ok (.ifCond .eq 46, 3) := by decide +kernel
theorem d5_7 : decode prog_10_method_5_code 7 = .ok (.aload_n 1, 1) := by decide +kernel
theorem d5_8 : decode prog_10_method_5_code 8 = .ok (.checkcast 12, 3) := by decide +kernel
theorem d5_11 : decode prog_10_method_5_code 11 = .ok (.astore_n 2, 1) := by decide +kernel
theorem d5_12 : decode prog_10_method_5_code 12 = .ok (.aload_n 0, 1) := by decide +kernel
theorem d5_13 : decode prog_10_method_5_code 13 = .ok (.getfield 11, 3) := by decide +kernel
theorem d5_16 : decode prog_10_method_5_code 16 = .ok (.aload_n 2, 1) := by decide +kernel
theorem d5_17 : decode prog_10_method_5_code 17 = .ok (.getfield 11, 3) := by decide +kernel
theorem d5_20 : decode prog_10_method_5_code 20 = .ok (.lcmp, 1) := by decide +kernel
theorem d5_21 : decode prog_10_method_5_code 21 = .ok (.ifCond .ne 29, 3) := by decide +kernel
theorem d5_24 : decode prog_10_method_5_code 24 = .ok (.aload_n 0, 1) := by decide +kernel
theorem d5_25 : decode prog_10_method_5_code 25 = .ok (.getfield 17, 3) := by decide +kernel
theorem d5_28 : decode prog_10_method_5_code 28 = .ok (.aload_n 2, 1) := by decide +kernel
theorem d5_29 : decode prog_10_method_5_code 29 = .ok (.getfield 17, 3) := by decide +kernel
theorem d5_32 : decode prog_10_method_5_code 32 = .ok (.if_icmp .ne 18, 3) := by decide +kernel
theorem d5_35 : decode prog_10_method_5_code 35 = .ok (.aload_n 0, 1) := by decide +kernel
theorem d5_36 : decode prog_10_method_5_code 36 = .ok (.getfield 21, 3) := by decide +kernel
theorem d5_39 : decode prog_10_method_5_code 39 = .ok (.aload_n 2, 1) := by decide +kernel
theorem d5_40 : decode prog_10_method_5_code 40 = .ok (.getfield 21, 3) := by decide +kernel
theorem d5_43 : decode prog_10_method_5_code 43 = .ok (.if_icmp .ne 7, 3) := by decide +kernel
theorem d5_46 : decode prog_10_method_5_code 46 = .ok (.iconst 1, 1) := by decide +kernel
theorem d5_47 : decode prog_10_method_5_code 47 = .ok (.goto 4, 3) := by decide +kernel
theorem d5_50 : decode prog_10_method_5_code 50 = .ok (.iconst 0, 1) := by decide +kernel
theorem d5_51 : decode prog_10_method_5_code 51 = .ok (.ireturn, 1) := by decide +kernel
theorem pn_5 : plainName "com/example/stavetree/stavetree/Block" = true := by first | (simp [plainName, overriddenIn]; done) | decide +kernel
theorem ef_rme1 (m : MethodId) (x0 : Addr) (x1 : Addr) : entryFrame m #[(.ref x0), (.ref x1)] 3 = mkF m 0 #[.val (.ref x0), .val (.ref x1), .unset] [] := by first | (simp [entryFrame, mkF, argsToLocals, Value.category]; done) | rfl
def Qe1 (Z : State) (a1 : Addr) (a2 : Addr) (x1 : Int64) (x2 : Int32) (x3 : Int32) (y1 : Int64) (y2 : Int32) (y3 : Int32) (h0 : Heap) (n0 : Nat) (v : Option Value) (h : Heap) (L : List Loc) : Prop := v = some (.int (own_eq x1 x2 x3 y1 y2 y3)) ∧ Fr n0 L ∧ h = h0
set_option maxRecDepth 65536 in
set_option maxHeartbeats 40000000 in
theorem rme1 (l : Launch) (Z : State) (a0 : Array Value) (hw : ∀ d ∈ tables_1, d.before a0 Z = true) (ws : List Jvm.Cond) (a1 : Addr) (a2 : Addr) (x1 : Int64) (x2 : Int32) (x3 : Int32) (y1 : Int64) (y2 : Int32) (y3 : Int32) (h0 : Heap) (n0 : Nat) (Z0 : n0 ≤ h0.size) (HE_a2 : Exa Z h0 a2 "com/example/stavetree/stavetree/Block") (HF_a1_address : Fld Z h0 a1 "com/example/stavetree/stavetree/Block" "address" "J" (.long x1)) (HF_a1_length : Fld Z h0 a1 "com/example/stavetree/stavetree/Block" "length" "I" (.int x2)) (HF_a1_checksum : Fld Z h0 a1 "com/example/stavetree/stavetree/Block" "checksum" "I" (.int x3)) (HF_a2_address : Fld Z h0 a2 "com/example/stavetree/stavetree/Block" "address" "J" (.long y1)) (HF_a2_length : Fld Z h0 a2 "com/example/stavetree/stavetree/Block" "length" "I" (.int y2)) (HF_a2_checksum : Fld Z h0 a2 "com/example/stavetree/stavetree/Block" "checksum" "I" (.int y3)) :
    MetFree l (⟨"com/example/stavetree/stavetree/Block", "equals", "(Ljava/lang/Object;)Z"⟩ : MethodName) (head1 (Jvm.Cond.code (⟨"com/example/stavetree/stavetree/Block", "equals", "(Ljava/lang/Object;)Z"⟩ : MethodName) prog_10_method_5_code 3 (some .boolean) :: ws) ({ frames := 0, cells := 0, slots := 0, locals := 0 } : Room)) (fun a U => a = #[(.ref a1), (.ref a2)] ∧ Z.Warmed39 U.vm ∧ U.heap = h0) (fun _ _ _ _ _ => True) (fun _ U o U' => ∃ v L, o = .returned v ∧ Qe1 Z a1 a2 x1 x2 x3 y1 y2 y3 h0 n0 v U'.heap L ∧ FrameEnd U o U' L ({ frames := 0, cells := 0, slots := 0, locals := 0 } : Room).cells ({ frames := 0, cells := 0, slots := 0, locals := 0 } : Room).slots) := by
  refine MetFree.of_bodySF (plainFor_of_name pn_5) hisR ?_
  intro p e s m args below meth c s₁ Bd hml0 hP hK
  obtain ⟨rfl, hZ, hh⟩ := hP
  have hx := Bd.exec
  have hby := Bd.bytes
  have hlk := BodyLoose.notSynchronized Bd
  have hret := Bd.returns
  have hml : c.maxLocals = 3 := hml0
  have hown : s.vm.findClass "com/example/stavetree/stavetree/Block" = some m.cls := findClass_of_methodNamed Bd.named
  have hnm := (name_of_methodNamed Bd.named Bd.method).1
  have X0 : Stand p l e ({ frames := 0, cells := 0, slots := 0, locals := 0 } : Room) s m #[(.ref a1), (.ref a2)] below meth c s₁ [] 0 0 := Stand.of_body Bd
  have e0 : s₁.heap = h0 := by rw [← hh, Bd.state]; rfl
  have N0 := Fr.nil n0
  have K0 : Keep h0 h0 [] := Keep.refl h0 _
  refine Fin.step (Q := fun v h L => Qe1 Z a1 a2 x1 x2 x3 y1 y2 y3 h0 n0 v h L) (st' := s₁.setTop (mkF m 0 #[.val (.ref a1), .val (.ref a2), .unset] [])) (fun t k => castTop (ef_rme1 m a1 a2) k) ?_
  show Fin p e below s _ _ _ (s₁.setTop (mkF m 0 #[.val (.ref a1), .val (.ref a2), .unset] []))
  refine Fin.step (fun _ => XS.aloadN X0.here hx rfl (hb hby d5_0) rfl rfl) ?_
  show Fin p e below s _ _ _ (s₁.setTop (mkF m 1 #[.val (.ref a1), .val (.ref a2), .unset] [(.ref a2)]))
  obtain ⟨Ty1, Xy1, ey1, sty1⟩ := instY X0 hx hZ hown (hw _ (List.mem_of_getElem? (i := 32) rfl)) e0 (Ins.self HE_a2) (g := (mkF m 1 #[.val (.ref a1), .val (.ref a2), .unset] [(.ref a2)])) rfl rfl (hb hby d5_1)
  refine Fin.step (sty1) ?_
  show Fin p e below s _ _ _ (Ty1.setTop (mkF m 4 #[.val (.ref a1), .val (.ref a2), .unset] [(.int (1 : Int32))]))
  refine Fin.step (fun _ => XS.ifNo Xy1.here hx rfl (hb hby d5_4) rfl ((if0 _ _).trans (feq ((by decide) : ¬ ((1 : Int32) = (0 : Int32)))).1)) ?_
  show Fin p e below s _ _ _ (Ty1.setTop (mkF m 7 #[.val (.ref a1), .val (.ref a2), .unset] []))
  refine Fin.step (fun _ => XS.aloadN Xy1.here hx rfl (hb hby d5_7) rfl rfl) ?_
  show Fin p e below s _ _ _ (Ty1.setTop (mkF m 8 #[.val (.ref a1), .val (.ref a2), .unset] [(.ref a2)]))
  obtain ⟨Ty2, Xy2, ey2, sty2⟩ := castY Xy1 hx hZ hown (hw _ (List.mem_of_getElem? (i := 32) rfl)) ey1 (Ins.self HE_a2) (g := (mkF m 8 #[.val (.ref a1), .val (.ref a2), .unset] [(.ref a2)])) rfl rfl (hb hby d5_8)
  refine Fin.step (sty2) ?_
  show Fin p e below s _ _ _ (Ty2.setTop (mkF m 11 #[.val (.ref a1), .val (.ref a2), .unset] [(.ref a2)]))
  refine Fin.step (fun _ => XS.astoreN Xy2.here hx rfl (hb hby d5_11) rfl rfl (l' := #[.val (.ref a1), .val (.ref a2), .val (.ref a2)]) rfl) ?_
  show Fin p e below s _ _ _ (Ty2.setTop (mkF m 12 #[.val (.ref a1), .val (.ref a2), .val (.ref a2)] []))
  refine Fin.step (fun _ => XS.aloadN Xy2.here hx rfl (hb hby d5_12) rfl rfl) ?_
  show Fin p e below s _ _ _ (Ty2.setTop (mkF m 13 #[.val (.ref a1), .val (.ref a2), .val (.ref a2)] [(.ref a1)]))
  obtain ⟨Ty3, Xy3, ey3, sty3⟩ := getF Xy2 hx hZ hown (host := "") (Or.inl (hw _ (List.mem_of_getElem? (i := 14) rfl))) Via.refl ey2 HF_a1_address (g := (mkF m 13 #[.val (.ref a1), .val (.ref a2), .val (.ref a2)] [(.ref a1)])) rfl rfl (hb hby d5_13)
  refine Fin.step (sty3) ?_
  show Fin p e below s _ _ _ (Ty3.setTop (mkF m 16 #[.val (.ref a1), .val (.ref a2), .val (.ref a2)] [(.long x1)]))
  refine Fin.step (fun _ => XS.aloadN Xy3.here hx rfl (hb hby d5_16) rfl rfl) ?_
  show Fin p e below s _ _ _ (Ty3.setTop (mkF m 17 #[.val (.ref a1), .val (.ref a2), .val (.ref a2)] [(.ref a2), (.long x1)]))
  obtain ⟨Ty4, Xy4, ey4, sty4⟩ := getF Xy3 hx hZ hown (host := "") (Or.inl (hw _ (List.mem_of_getElem? (i := 14) rfl))) Via.refl ey3 HF_a2_address (g := (mkF m 17 #[.val (.ref a1), .val (.ref a2), .val (.ref a2)] [(.ref a2), (.long x1)])) rfl rfl (hb hby d5_17)
  refine Fin.step (sty4) ?_
  show Fin p e below s _ _ _ (Ty4.setTop (mkF m 20 #[.val (.ref a1), .val (.ref a2), .val (.ref a2)] [(.long y1), (.long x1)]))
  refine Fin.step (fun _ => XS.lcmp Xy4.here hx rfl (hb hby d5_20) rfl) ?_
  show Fin p e below s _ _ _ (Ty4.setTop (mkF m 21 #[.val (.ref a1), .val (.ref a2), .val (.ref a2)] [(.int (lcmpW x1 y1))]))
  by_cases hcy5 : x1 = y1
  · refine Fin.step (fun _ => XS.ifNo Xy4.here hx rfl (hb hby d5_21) rfl ((if0 _ _).trans (teq ((lcE hcy5) : ((lcmpW x1 y1) = (0 : Int32)))).2)) ?_
    show Fin p e below s _ _ _ (Ty4.setTop (mkF m 24 #[.val (.ref a1), .val (.ref a2), .val (.ref a2)] []))
    refine Fin.step (fun _ => XS.aloadN Xy4.here hx rfl (hb hby d5_24) rfl rfl) ?_
    show Fin p e below s _ _ _ (Ty4.setTop (mkF m 25 #[.val (.ref a1), .val (.ref a2), .val (.ref a2)] [(.ref a1)]))
    obtain ⟨Ty6, Xy6, ey6, sty6⟩ := getF Xy4 hx hZ hown (host := "") (Or.inl (hw _ (List.mem_of_getElem? (i := 16) rfl))) Via.refl ey4 HF_a1_length (g := (mkF m 25 #[.val (.ref a1), .val (.ref a2), .val (.ref a2)] [(.ref a1)])) rfl rfl (hb hby d5_25)
    refine Fin.step (sty6) ?_
    show Fin p e below s _ _ _ (Ty6.setTop (mkF m 28 #[.val (.ref a1), .val (.ref a2), .val (.ref a2)] [(.int x2)]))
    refine Fin.step (fun _ => XS.aloadN Xy6.here hx rfl (hb hby d5_28) rfl rfl) ?_
    show Fin p e below s _ _ _ (Ty6.setTop (mkF m 29 #[.val (.ref a1), .val (.ref a2), .val (.ref a2)] [(.ref a2), (.int x2)]))
    obtain ⟨Ty7, Xy7, ey7, sty7⟩ := getF Xy6 hx hZ hown (host := "") (Or.inl (hw _ (List.mem_of_getElem? (i := 16) rfl))) Via.refl ey6 HF_a2_length (g := (mkF m 29 #[.val (.ref a1), .val (.ref a2), .val (.ref a2)] [(.ref a2), (.int x2)])) rfl rfl (hb hby d5_29)
    refine Fin.step (sty7) ?_
    show Fin p e below s _ _ _ (Ty7.setTop (mkF m 32 #[.val (.ref a1), .val (.ref a2), .val (.ref a2)] [(.int y2), (.int x2)]))
    by_cases hcy8 : x2 = y2
    · refine Fin.step (fun _ => XS.icmpNo Xy7.here hx rfl (hb hby d5_32) rfl (teq (hcy8 : (x2 = y2))).2) ?_
      show Fin p e below s _ _ _ (Ty7.setTop (mkF m 35 #[.val (.ref a1), .val (.ref a2), .val (.ref a2)] []))
      refine Fin.step (fun _ => XS.aloadN Xy7.here hx rfl (hb hby d5_35) rfl rfl) ?_
      show Fin p e below s _ _ _ (Ty7.setTop (mkF m 36 #[.val (.ref a1), .val (.ref a2), .val (.ref a2)] [(.ref a1)]))
      obtain ⟨Ty9, Xy9, ey9, sty9⟩ := getF Xy7 hx hZ hown (host := "") (Or.inl (hw _ (List.mem_of_getElem? (i := 18) rfl))) Via.refl ey7 HF_a1_checksum (g := (mkF m 36 #[.val (.ref a1), .val (.ref a2), .val (.ref a2)] [(.ref a1)])) rfl rfl (hb hby d5_36)
      refine Fin.step (sty9) ?_
      show Fin p e below s _ _ _ (Ty9.setTop (mkF m 39 #[.val (.ref a1), .val (.ref a2), .val (.ref a2)] [(.int x3)]))
      refine Fin.step (fun _ => XS.aloadN Xy9.here hx rfl (hb hby d5_39) rfl rfl) ?_
      show Fin p e below s _ _ _ (Ty9.setTop (mkF m 40 #[.val (.ref a1), .val (.ref a2), .val (.ref a2)] [(.ref a2), (.int x3)]))
      obtain ⟨Ty10, Xy10, ey10, sty10⟩ := getF Xy9 hx hZ hown (host := "") (Or.inl (hw _ (List.mem_of_getElem? (i := 18) rfl))) Via.refl ey9 HF_a2_checksum (g := (mkF m 40 #[.val (.ref a1), .val (.ref a2), .val (.ref a2)] [(.ref a2), (.int x3)])) rfl rfl (hb hby d5_40)
      refine Fin.step (sty10) ?_
      show Fin p e below s _ _ _ (Ty10.setTop (mkF m 43 #[.val (.ref a1), .val (.ref a2), .val (.ref a2)] [(.int y3), (.int x3)]))
      by_cases hcy11 : x3 = y3
      · refine Fin.step (fun _ => XS.icmpNo Xy10.here hx rfl (hb hby d5_43) rfl (teq (hcy11 : (x3 = y3))).2) ?_
        show Fin p e below s _ _ _ (Ty10.setTop (mkF m 46 #[.val (.ref a1), .val (.ref a2), .val (.ref a2)] []))
        refine Fin.step (fun _ => XS.iconst Xy10.here hx rfl (hb hby d5_46)) ?_
        show Fin p e below s _ _ _ (Ty10.setTop (mkF m 47 #[.val (.ref a1), .val (.ref a2), .val (.ref a2)] [(.int (1 : Int32))]))
        refine Fin.step (fun _ => XS.goto Xy10.here hx rfl (pc0 := 47) (pc' := 51) rfl (hb hby d5_47) (by decide) (by decide)) ?_
        show Fin p e below s _ _ _ (Ty10.setTop (mkF m 51 #[.val (.ref a1), .val (.ref a2), .val (.ref a2)] [(.int (1 : Int32))]))
        refine Fin.retN Xy10 hx (t := .boolean) hret (by simp) hlk (hb hby d5_51) (by decide) (by decide) ?_
        show Qe1 Z a1 a2 x1 x2 x3 y1 y2 y3 h0 n0 _ Ty10.heap _
        rw [ey10]
        exact ⟨(congrArg (fun z => some (Value.int z)) (by rw [own_eq, if_pos hcy5, if_pos hcy8, if_pos hcy11]; first | done | rfl)), N0, rfl⟩
      · refine Fin.step (fun _ => XS.icmpYes Xy10.here hx rfl (pc0 := 43) (pc' := 50) rfl (hb hby d5_43) rfl (feq (hcy11 : ¬ (x3 = y3))).2 (by decide) (by decide)) ?_
        show Fin p e below s _ _ _ (Ty10.setTop (mkF m 50 #[.val (.ref a1), .val (.ref a2), .val (.ref a2)] []))
        refine Fin.step (fun _ => XS.iconst Xy10.here hx rfl (hb hby d5_50)) ?_
        show Fin p e below s _ _ _ (Ty10.setTop (mkF m 51 #[.val (.ref a1), .val (.ref a2), .val (.ref a2)] [(.int (0 : Int32))]))
        refine Fin.retN Xy10 hx (t := .boolean) hret (by simp) hlk (hb hby d5_51) (by decide) (by decide) ?_
        show Qe1 Z a1 a2 x1 x2 x3 y1 y2 y3 h0 n0 _ Ty10.heap _
        rw [ey10]
        exact ⟨(congrArg (fun z => some (Value.int z)) (by rw [own_eq, if_pos hcy5, if_pos hcy8, if_neg hcy11]; first | done | rfl)), N0, rfl⟩
    · refine Fin.step (fun _ => XS.icmpYes Xy7.here hx rfl (pc0 := 32) (pc' := 50) rfl (hb hby d5_32) rfl (feq (hcy8 : ¬ (x2 = y2))).2 (by decide) (by decide)) ?_
      show Fin p e below s _ _ _ (Ty7.setTop (mkF m 50 #[.val (.ref a1), .val (.ref a2), .val (.ref a2)] []))
      refine Fin.step (fun _ => XS.iconst Xy7.here hx rfl (hb hby d5_50)) ?_
      show Fin p e below s _ _ _ (Ty7.setTop (mkF m 51 #[.val (.ref a1), .val (.ref a2), .val (.ref a2)] [(.int (0 : Int32))]))
      refine Fin.retN Xy7 hx (t := .boolean) hret (by simp) hlk (hb hby d5_51) (by decide) (by decide) ?_
      show Qe1 Z a1 a2 x1 x2 x3 y1 y2 y3 h0 n0 _ Ty7.heap _
      rw [ey7]
      exact ⟨(congrArg (fun z => some (Value.int z)) (by rw [own_eq, if_pos hcy5, if_neg hcy8]; first | done | rfl)), N0, rfl⟩
  · refine Fin.step (fun _ => XS.ifYes Xy4.here hx rfl (pc0 := 21) (pc' := 50) rfl (hb hby d5_21) rfl ((if0 _ _).trans (feq ((lcNE hcy5) : ¬ ((lcmpW x1 y1) = (0 : Int32)))).2) (by decide) (by decide)) ?_
    show Fin p e below s _ _ _ (Ty4.setTop (mkF m 50 #[.val (.ref a1), .val (.ref a2), .val (.ref a2)] []))
    refine Fin.step (fun _ => XS.iconst Xy4.here hx rfl (hb hby d5_50)) ?_
    show Fin p e below s _ _ _ (Ty4.setTop (mkF m 51 #[.val (.ref a1), .val (.ref a2), .val (.ref a2)] [(.int (0 : Int32))]))
    refine Fin.retN Xy4 hx (t := .boolean) hret (by simp) hlk (hb hby d5_51) (by decide) (by decide) ?_
    show Qe1 Z a1 a2 x1 x2 x3 y1 y2 y3 h0 n0 _ Ty4.heap _
    rw [ey4]
    exact ⟨(congrArg (fun z => some (Value.int z)) (by rw [own_eq, if_neg hcy5]; first | done | rfl)), N0, rfl⟩
theorem ef_rme0 (m : MethodId) (x0 : Addr) : entryFrame m #[(.ref x0), .null] 3 = mkF m 0 #[.val (.ref x0), .val .null, .unset] [] := by first | (simp [entryFrame, mkF, argsToLocals, Value.category]; done) | rfl
def Qe0 (Z : State) (a1 : Addr) (h0 : Heap) (n0 : Nat) (v : Option Value) (h : Heap) (L : List Loc) : Prop := v = some (.int (0 : Int32)) ∧ Fr n0 L ∧ h = h0
set_option maxRecDepth 65536 in
set_option maxHeartbeats 40000000 in
theorem rme0 (l : Launch) (Z : State) (a0 : Array Value) (hw : ∀ d ∈ tables_1, d.before a0 Z = true) (ws : List Jvm.Cond) (a1 : Addr) (h0 : Heap) (n0 : Nat) (Z0 : n0 ≤ h0.size) :
    MetFree l (⟨"com/example/stavetree/stavetree/Block", "equals", "(Ljava/lang/Object;)Z"⟩ : MethodName) (head1 (Jvm.Cond.code (⟨"com/example/stavetree/stavetree/Block", "equals", "(Ljava/lang/Object;)Z"⟩ : MethodName) prog_10_method_5_code 3 (some .boolean) :: ws) ({ frames := 0, cells := 0, slots := 0, locals := 0 } : Room)) (fun a U => a = #[(.ref a1), .null] ∧ Z.Warmed39 U.vm ∧ U.heap = h0) (fun _ _ _ _ _ => True) (fun _ U o U' => ∃ v L, o = .returned v ∧ Qe0 Z a1 h0 n0 v U'.heap L ∧ FrameEnd U o U' L ({ frames := 0, cells := 0, slots := 0, locals := 0 } : Room).cells ({ frames := 0, cells := 0, slots := 0, locals := 0 } : Room).slots) := by
  refine MetFree.of_bodySF (plainFor_of_name pn_5) hisR ?_
  intro p e s m args below meth c s₁ Bd hml0 hP hK
  obtain ⟨rfl, hZ, hh⟩ := hP
  have hx := Bd.exec
  have hby := Bd.bytes
  have hlk := BodyLoose.notSynchronized Bd
  have hret := Bd.returns
  have hml : c.maxLocals = 3 := hml0
  have hown : s.vm.findClass "com/example/stavetree/stavetree/Block" = some m.cls := findClass_of_methodNamed Bd.named
  have hnm := (name_of_methodNamed Bd.named Bd.method).1
  have X0 : Stand p l e ({ frames := 0, cells := 0, slots := 0, locals := 0 } : Room) s m #[(.ref a1), .null] below meth c s₁ [] 0 0 := Stand.of_body Bd
  have e0 : s₁.heap = h0 := by rw [← hh, Bd.state]; rfl
  have N0 := Fr.nil n0
  have K0 : Keep h0 h0 [] := Keep.refl h0 _
  refine Fin.step (Q := fun v h L => Qe0 Z a1 h0 n0 v h L) (st' := s₁.setTop (mkF m 0 #[.val (.ref a1), .val .null, .unset] [])) (fun t k => castTop (ef_rme0 m a1) k) ?_
  show Fin p e below s _ _ _ (s₁.setTop (mkF m 0 #[.val (.ref a1), .val .null, .unset] []))
  refine Fin.step (fun _ => XS.aloadN X0.here hx rfl (hb hby d5_0) rfl rfl) ?_
  show Fin p e below s _ _ _ (s₁.setTop (mkF m 1 #[.val (.ref a1), .val .null, .unset] [.null]))
  refine Fin.step (X0.instanceofNull hx (g := (mkF m 1 #[.val (.ref a1), .val .null, .unset] [.null])) rfl rfl (hb hby d5_1)) ?_
  show Fin p e below s _ _ _ (s₁.setTop (mkF m 4 #[.val (.ref a1), .val .null, .unset] [(.int (0 : Int32))]))
  refine Fin.step (fun _ => XS.ifYes X0.here hx rfl (pc0 := 4) (pc' := 50) rfl (hb hby d5_4) rfl ((if0 _ _).trans (teq ((by decide) : ((0 : Int32) = (0 : Int32)))).1) (by decide) (by decide)) ?_
  show Fin p e below s _ _ _ (s₁.setTop (mkF m 50 #[.val (.ref a1), .val .null, .unset] []))
  refine Fin.step (fun _ => XS.iconst X0.here hx rfl (hb hby d5_50)) ?_
  show Fin p e below s _ _ _ (s₁.setTop (mkF m 51 #[.val (.ref a1), .val .null, .unset] [(.int (0 : Int32))]))
  refine Fin.retN X0 hx (t := .boolean) hret (by simp) hlk (hb hby d5_51) (by decide) (by decide) ?_
  show Qe0 Z a1 h0 n0 _ s₁.heap _
  rw [e0]
  exact ⟨rfl, N0, rfl⟩
theorem ef_rmei (m : MethodId) (x0 : Addr) (x1 : Addr) : entryFrame m #[(.ref x0), (.ref x1)] 3 = mkF m 0 #[.val (.ref x0), .val (.ref x1), .unset] [] := by first | (simp [entryFrame, mkF, argsToLocals, Value.category]; done) | rfl
def Qei (Z : State) (a1 : Addr) (a2 : Addr) (h0 : Heap) (n0 : Nat) (v : Option Value) (h : Heap) (L : List Loc) : Prop := v = some (.int (0 : Int32)) ∧ Fr n0 L ∧ h = h0
set_option maxRecDepth 65536 in
set_option maxHeartbeats 40000000 in
theorem rmei (l : Launch) (Z : State) (a0 : Array Value) (hw : ∀ d ∈ tables_1, d.before a0 Z = true) (ws : List Jvm.Cond) (a1 : Addr) (a2 : Addr) (h0 : Heap) (n0 : Nat) (Z0 : n0 ≤ h0.size) (HE_a2 : Exa Z h0 a2 "java/lang/Integer") :
    MetFree l (⟨"com/example/stavetree/stavetree/Block", "equals", "(Ljava/lang/Object;)Z"⟩ : MethodName) (head1 (Jvm.Cond.code (⟨"com/example/stavetree/stavetree/Block", "equals", "(Ljava/lang/Object;)Z"⟩ : MethodName) prog_10_method_5_code 3 (some .boolean) :: ws) ({ frames := 0, cells := 0, slots := 0, locals := 0 } : Room)) (fun a U => a = #[(.ref a1), (.ref a2)] ∧ Z.Warmed39 U.vm ∧ U.heap = h0) (fun _ _ _ _ _ => True) (fun _ U o U' => ∃ v L, o = .returned v ∧ Qei Z a1 a2 h0 n0 v U'.heap L ∧ FrameEnd U o U' L ({ frames := 0, cells := 0, slots := 0, locals := 0 } : Room).cells ({ frames := 0, cells := 0, slots := 0, locals := 0 } : Room).slots) := by
  refine MetFree.of_bodySF (plainFor_of_name pn_5) hisR ?_
  intro p e s m args below meth c s₁ Bd hml0 hP hK
  obtain ⟨rfl, hZ, hh⟩ := hP
  have hx := Bd.exec
  have hby := Bd.bytes
  have hlk := BodyLoose.notSynchronized Bd
  have hret := Bd.returns
  have hml : c.maxLocals = 3 := hml0
  have hown : s.vm.findClass "com/example/stavetree/stavetree/Block" = some m.cls := findClass_of_methodNamed Bd.named
  have hnm := (name_of_methodNamed Bd.named Bd.method).1
  have X0 : Stand p l e ({ frames := 0, cells := 0, slots := 0, locals := 0 } : Room) s m #[(.ref a1), (.ref a2)] below meth c s₁ [] 0 0 := Stand.of_body Bd
  have e0 : s₁.heap = h0 := by rw [← hh, Bd.state]; rfl
  have N0 := Fr.nil n0
  have K0 : Keep h0 h0 [] := Keep.refl h0 _
  refine Fin.step (Q := fun v h L => Qei Z a1 a2 h0 n0 v h L) (st' := s₁.setTop (mkF m 0 #[.val (.ref a1), .val (.ref a2), .unset] [])) (fun t k => castTop (ef_rmei m a1 a2) k) ?_
  show Fin p e below s _ _ _ (s₁.setTop (mkF m 0 #[.val (.ref a1), .val (.ref a2), .unset] []))
  refine Fin.step (fun _ => XS.aloadN X0.here hx rfl (hb hby d5_0) rfl rfl) ?_
  show Fin p e below s _ _ _ (s₁.setTop (mkF m 1 #[.val (.ref a1), .val (.ref a2), .unset] [(.ref a2)]))
  obtain ⟨Ty1, Xy1, ey1, sty1⟩ := instNo X0 hx hZ hown (hw _ (List.mem_of_getElem? (i := 32) rfl)) e0 HE_a2 (own_no (hw _ (List.mem_of_getElem? (i := 34) rfl)) (hw _ (List.mem_of_getElem? (i := 35) rfl)) (hw _ (List.mem_of_getElem? (i := 36) rfl)) (hw _ (List.mem_of_getElem? (i := 1) rfl)) (by decide) (by decide) (by decide)) (g := (mkF m 1 #[.val (.ref a1), .val (.ref a2), .unset] [(.ref a2)])) rfl rfl (hb hby d5_1)
  refine Fin.step (sty1) ?_
  show Fin p e below s _ _ _ (Ty1.setTop (mkF m 4 #[.val (.ref a1), .val (.ref a2), .unset] [(.int (0 : Int32))]))
  refine Fin.step (fun _ => XS.ifYes Xy1.here hx rfl (pc0 := 4) (pc' := 50) rfl (hb hby d5_4) rfl ((if0 _ _).trans (teq ((by decide) : ((0 : Int32) = (0 : Int32)))).1) (by decide) (by decide)) ?_
  show Fin p e below s _ _ _ (Ty1.setTop (mkF m 50 #[.val (.ref a1), .val (.ref a2), .unset] []))
  refine Fin.step (fun _ => XS.iconst Xy1.here hx rfl (hb hby d5_50)) ?_
  show Fin p e below s _ _ _ (Ty1.setTop (mkF m 51 #[.val (.ref a1), .val (.ref a2), .unset] [(.int (0 : Int32))]))
  refine Fin.retN Xy1 hx (t := .boolean) hret (by simp) hlk (hb hby d5_51) (by decide) (by decide) ?_
  show Qei Z a1 a2 h0 n0 _ Ty1.heap _
  rw [ey1]
  exact ⟨rfl, N0, rfl⟩
theorem pn_0 : plainName "com/example/stavetree/stavetree/BlockEqualsPinLaw" = true := by first | (simp [plainName, overriddenIn]; done) | decide +kernel
theorem pd_2 : parseMethodDescriptor "(JII)V" = some ⟨[.long, .int, .int], none⟩ := by decide +kernel
theorem pd_3 : parseMethodDescriptor "(I)Ljava/lang/Integer;" = some ⟨[.int], some (.object "java/lang/Integer")⟩ := by decide +kernel
theorem pd_4 : parseMethodDescriptor "(Ljava/lang/Object;)Z" = some ⟨[(.object "java/lang/Object")], some .boolean⟩ := by decide +kernel
theorem ef_rm0 (m : MethodId) (x0 : Int64) (x1 : Int32) (x2 : Int32) (x3 : Int64) (x4 : Int32) (x5 : Int32) : entryFrame m #[(.long x0), (.int x1), (.int x2), (.long x3), (.int x4), (.int x5)] maxLocals = mkF m 0 #[.val (.long x0), .second, .val (.int x1), .val (.int x2), .val (.long x3), .second, .val (.int x4), .val (.int x5), .unset, .unset, .unset, .unset, .unset, .unset, .unset, .unset] [] := by first | (simp [entryFrame, mkF, argsToLocals, Value.category, maxLocals]; done) | rfl
def Q0 (Z : State) (qa : Int64) (pl : Int32) (pk : Int32) (qb : Int64) (pm : Int32) (pd : Int32) (ca : Addr) (h0 : Heap) (n0 : Nat) (v : Option Value) (h : Heap) (L : List Loc) : Prop := v = some (.int (1 : Int32)) ∧ Fr n0 L ∧ Keep h0 h []
set_option maxRecDepth 65536 in
set_option maxHeartbeats 40000000 in
theorem rm0 (l : Launch) (Z : State) (a0 : Array Value) (hw : ∀ d ∈ tables_1, d.before a0 Z = true) (ws : List Jvm.Cond) (qa : Int64) (pl : Int32) (pk : Int32) (qb : Int64) (pm : Int32) (pd : Int32) (ca : Addr) (h0 : Heap) (n0 : Nat) (Z0 : n0 ≤ h0.size) (HS_java_lang_Integer_IntegerCache_high : Sta Z h0 "java/lang/Integer$IntegerCache" "high" "I" (.int (127 : Int32))) (HS_java_lang_Integer_IntegerCache_cache : Sta Z h0 "java/lang/Integer$IntegerCache" "cache" "[Ljava/lang/Integer;" (.ref ca)) (hca : own_ca Z h0 ca) :
    MetFree l x (head1 (Jvm.Cond.code x code maxLocals ret :: ws) room_1) (fun a U => a = #[(.long qa), (.int pl), (.int pk), (.long qb), (.int pm), (.int pd)] ∧ Z.Warmed39 U.vm ∧ U.heap = h0) (fun _ _ _ _ _ => True) (fun _ U o U' => ∃ v L, o = .returned v ∧ Q0 Z qa pl pk qb pm pd ca h0 n0 v U'.heap L ∧ FrameEnd U o U' L room_1.cells room_1.slots) := by
  refine MetFree.of_bodySF (plainFor_of_name pn_0) hisR ?_
  intro p e s m args below meth c s₁ Bd hml0 hP hK
  obtain ⟨rfl, hZ, hh⟩ := hP
  have hx := Bd.exec
  have hby := Bd.bytes
  have hlk := BodyLoose.notSynchronized Bd
  have hret := Bd.returns
  have hml : c.maxLocals = 16 := hml0
  have hown : s.vm.findClass "com/example/stavetree/stavetree/BlockEqualsPinLaw" = some m.cls := findClass_of_methodNamed Bd.named
  have hnm := (name_of_methodNamed Bd.named Bd.method).1
  have X0 : Stand p l e room_1 s m #[(.long qa), (.int pl), (.int pk), (.long qb), (.int pm), (.int pd)] below meth c s₁ [] 0 0 := Stand.of_body Bd
  have e0 : s₁.heap = h0 := by rw [← hh, Bd.state]; rfl
  have N0 := Fr.nil n0
  have K0 : Keep h0 h0 [] := Keep.refl h0 _
  refine Fin.step (Q := fun v h L => Q0 Z qa pl pk qb pm pd ca h0 n0 v h L) (st' := s₁.setTop (mkF m 0 #[.val (.long qa), .second, .val (.int pl), .val (.int pk), .val (.long qb), .second, .val (.int pm), .val (.int pd), .unset, .unset, .unset, .unset, .unset, .unset, .unset, .unset] [])) (fun t k => castTop (ef_rm0 m qa pl pk qb pm pd) k) ?_
  show Fin p e below s _ _ _ (s₁.setTop (mkF m 0 #[.val (.long qa), .second, .val (.int pl), .val (.int pk), .val (.long qb), .second, .val (.int pm), .val (.int pd), .unset, .unset, .unset, .unset, .unset, .unset, .unset, .unset] []))
  obtain ⟨Ty1, hy1, Xy1, ey1, Ey1, Ay1, Dy1, -, sty1⟩ := newO X0 hx hZ hown (hw _ (List.mem_of_getElem? (i := 0) rfl)) (hw _ (List.mem_of_getElem? (i := 1) rfl)) (hw _ (List.mem_of_getElem? (i := 2) rfl)) e0 (g := (mkF m 0 #[.val (.long qa), .second, .val (.int pl), .val (.int pk), .val (.long qb), .second, .val (.int pm), .val (.int pd), .unset, .unset, .unset, .unset, .unset, .unset, .unset, .unset] [])) rfl (hb hby at_0) (by decide) (by decide)
  obtain ⟨by1, gy1⟩ : ∃ z, z = h0.size := ⟨_, rfl⟩
  rw [← gy1] at Ay1 Dy1 sty1
  have gzy1 : n0 ≤ by1 := Nat.le_trans Z0 (Nat.le_of_eq gy1.symm)
  have szy1 : h0.size ≤ by1 := Nat.le_trans K0.1 (Nat.le_of_eq gy1.symm)
  have Zy1 : n0 ≤ hy1.size := Nat.le_trans Z0 Ey1.1
  have Ky1 : Keep h0 hy1 [] := K0.ext Ey1
  have F_address_by1 : Fld Z hy1 by1 "com/example/stavetree/stavetree/Block" "address" "J" (.long (0 : Int64)) := Dy1 (Or.inr (hw _ (List.mem_of_getElem? (i := 15) rfl))) (ty := .long) (by decide)
  have F_length_by1 : Fld Z hy1 by1 "com/example/stavetree/stavetree/Block" "length" "I" (.int (0 : Int32)) := Dy1 (Or.inr (hw _ (List.mem_of_getElem? (i := 17) rfl))) (ty := .int) (by decide)
  have F_checksum_by1 : Fld Z hy1 by1 "com/example/stavetree/stavetree/Block" "checksum" "I" (.int (0 : Int32)) := Dy1 (Or.inr (hw _ (List.mem_of_getElem? (i := 19) rfl))) (ty := .int) (by decide)
  refine Fin.step (sty1) ?_
  show Fin p e below s _ _ _ (Ty1.setTop (mkF m 3 #[.val (.long qa), .second, .val (.int pl), .val (.int pk), .val (.long qb), .second, .val (.int pm), .val (.int pd), .unset, .unset, .unset, .unset, .unset, .unset, .unset, .unset] [(.ref by1)]))
  refine Fin.step (fun _ => XS.dup Xy1.here hx rfl (hb hby at_3) rfl rfl) ?_
  show Fin p e below s _ _ _ (Ty1.setTop (mkF m 4 #[.val (.long qa), .second, .val (.int pl), .val (.int pk), .val (.long qb), .second, .val (.int pm), .val (.int pd), .unset, .unset, .unset, .unset, .unset, .unset, .unset, .unset] [(.ref by1), (.ref by1)]))
  refine Fin.step (fun _ => XS.lloadN Xy1.here hx rfl (hb hby at_4) rfl) ?_
  show Fin p e below s _ _ _ (Ty1.setTop (mkF m 5 #[.val (.long qa), .second, .val (.int pl), .val (.int pk), .val (.long qb), .second, .val (.int pm), .val (.int pd), .unset, .unset, .unset, .unset, .unset, .unset, .unset, .unset] [(.long qa), (.ref by1), (.ref by1)]))
  refine Fin.step (fun _ => XS.iloadN Xy1.here hx rfl (hb hby at_5) rfl) ?_
  show Fin p e below s _ _ _ (Ty1.setTop (mkF m 6 #[.val (.long qa), .second, .val (.int pl), .val (.int pk), .val (.long qb), .second, .val (.int pm), .val (.int pd), .unset, .unset, .unset, .unset, .unset, .unset, .unset, .unset] [(.int pl), (.long qa), (.ref by1), (.ref by1)]))
  refine Fin.step (fun _ => XS.iloadN Xy1.here hx rfl (hb hby at_6) rfl) ?_
  show Fin p e below s _ _ _ (Ty1.setTop (mkF m 7 #[.val (.long qa), .second, .val (.int pl), .val (.int pk), .val (.long qb), .second, .val (.int pm), .val (.int pd), .unset, .unset, .unset, .unset, .unset, .unset, .unset, .unset] [(.int pk), (.int pl), (.long qa), (.ref by1), (.ref by1)]))
  obtain ⟨_, _, ⟨Ty2, Ly2, ky2, ny2⟩, -, Xy2, ⟨Lcy2, hQy2, ly2, yy2, zy2⟩, sty2⟩ := Xy1.specialBack hx (y := (⟨"com/example/stavetree/stavetree/Block", "<init>", "(JII)V"⟩ : MethodName)) rfl hown (mvT hZ (hw _ (List.mem_of_getElem? (i := 3) rfl))) (mvT hZ (hw _ (List.mem_of_getElem? (i := 4) rfl))) (mvT hZ (hw _ (List.mem_of_getElem? (i := 5) rfl))) (by decide) (backOf (W := 1) (rm1 l Z a0 hw [] by1 qa pl pk (.long (0 : Int64)) (.int (0 : Int32)) (.int (0 : Int32)) hy1 n0 Zy1 Ay1 F_address_by1 F_length_by1 F_checksum_by1 gzy1) hZ (hw _ (List.mem_of_getElem? (i := 5) rfl)) (hw _ (List.mem_of_getElem? (i := 2) rfl)) (by decide) (by decide)) (g := (mkF m 7 #[.val (.long qa), .second, .val (.int pl), .val (.int pk), .val (.long qb), .second, .val (.int pm), .val (.int pd), .unset, .unset, .unset, .unset, .unset, .unset, .unset, .unset] [(.int pk), (.int pl), (.long qa), (.ref by1), (.ref by1)])) rfl (by rw [hml]; rfl) (Steps.refl _) (a := by1) (argsL := [(.long qa), (.int pl), (.int pk)]) (rest := [(.ref by1)]) (lenOf pd_2 rfl) rfl (by show 2 * 0 + _ ≤ _; exact Nat.le_of_eq rfl) (hb hby at_7) (fun _ _ => ⟨rfl, ey1, (by decide : 1 + 0 ≤ _), (by decide : 3 + 0 ≤ _)⟩)
  dsimp only [Pt.U, Pt.locs, Pt.cells, Pt.slots] at Xy2 ly2 yy2 zy2 sty2 hQy2
  subst ly2 yy2 zy2
  obtain ⟨rfl, Nqy2, Kcy2, fy2_0, fy2_1, fy2_2⟩ := hQy2
  have Ny2 := Fr.app N0 Nqy2
  have Zy2 : n0 ≤ Ty2.heap.size := Nat.le_trans Zy1 Kcy2.1
  have Ky2 : Keep h0 Ty2.heap [] := Ky1.trans Kcy2 (allS (Or.inr szy1) all0)
  refine Fin.step (fun _ k => sty2.trans k) ?_
  show Fin p e below s _ _ _ (Ty2.setTop (mkF m 10 #[.val (.long qa), .second, .val (.int pl), .val (.int pk), .val (.long qb), .second, .val (.int pm), .val (.int pd), .unset, .unset, .unset, .unset, .unset, .unset, .unset, .unset] [(.ref by1)]))
  refine Fin.step (fun _ => XS.astore Xy2.here hx rfl (hb hby at_10) rfl rfl (l' := #[.val (.long qa), .second, .val (.int pl), .val (.int pk), .val (.long qb), .second, .val (.int pm), .val (.int pd), .val (.ref by1), .unset, .unset, .unset, .unset, .unset, .unset, .unset]) rfl) ?_
  show Fin p e below s _ _ _ (Ty2.setTop (mkF m 12 #[.val (.long qa), .second, .val (.int pl), .val (.int pk), .val (.long qb), .second, .val (.int pm), .val (.int pd), .val (.ref by1), .unset, .unset, .unset, .unset, .unset, .unset, .unset] []))
  have tail : ∀ (A2 : Int64) (L2 : Int32) (C2 : Int32), Fin p e below s (fun v h L => Q0 Z qa pl pk qb pm pd ca h0 n0 v h L) room_1.cells room_1.slots (Ty2.setTop (mkF m 57 #[.val (.long qa), .second, .val (.int pl), .val (.int pk), .val (.long qb), .second, .val (.int pm), .val (.int pd), .val (.ref by1), .val (.long A2), .second, .val (.int L2), .val (.int C2), .unset, .unset, .unset] [])) := by
    intro A2 L2 C2
    show Fin p e below s _ _ _ (Ty2.setTop (mkF m 57 #[.val (.long qa), .second, .val (.int pl), .val (.int pk), .val (.long qb), .second, .val (.int pm), .val (.int pd), .val (.ref by1), .val (.long A2), .second, .val (.int L2), .val (.int C2), .unset, .unset, .unset] []))
    obtain ⟨Ty3, hy3, Xy3, ey3, Ey3, Ay3, Dy3, -, sty3⟩ := newO Xy2 hx hZ hown (hw _ (List.mem_of_getElem? (i := 0) rfl)) (hw _ (List.mem_of_getElem? (i := 1) rfl)) (hw _ (List.mem_of_getElem? (i := 2) rfl)) rfl (g := (mkF m 57 #[.val (.long qa), .second, .val (.int pl), .val (.int pk), .val (.long qb), .second, .val (.int pm), .val (.int pd), .val (.ref by1), .val (.long A2), .second, .val (.int L2), .val (.int C2), .unset, .unset, .unset] [])) rfl (hb hby at_57) (by decide) (by decide)
    obtain ⟨by3, gy3⟩ : ∃ z, z = Ty2.heap.size := ⟨_, rfl⟩
    rw [← gy3] at Ay3 Dy3 sty3
    have gzy3 : n0 ≤ by3 := Nat.le_trans Zy2 (Nat.le_of_eq gy3.symm)
    have szy3 : h0.size ≤ by3 := Nat.le_trans Ky2.1 (Nat.le_of_eq gy3.symm)
    have Zy3 : n0 ≤ hy3.size := Nat.le_trans Zy2 Ey3.1
    have Ky3 : Keep h0 hy3 [] := Ky2.ext Ey3
    have F_address_by3 : Fld Z hy3 by3 "com/example/stavetree/stavetree/Block" "address" "J" (.long (0 : Int64)) := Dy3 (Or.inr (hw _ (List.mem_of_getElem? (i := 15) rfl))) (ty := .long) (by decide)
    have F_length_by3 : Fld Z hy3 by3 "com/example/stavetree/stavetree/Block" "length" "I" (.int (0 : Int32)) := Dy3 (Or.inr (hw _ (List.mem_of_getElem? (i := 17) rfl))) (ty := .int) (by decide)
    have F_checksum_by3 : Fld Z hy3 by3 "com/example/stavetree/stavetree/Block" "checksum" "I" (.int (0 : Int32)) := Dy3 (Or.inr (hw _ (List.mem_of_getElem? (i := 19) rfl))) (ty := .int) (by decide)
    refine Fin.step (sty3) ?_
    show Fin p e below s _ _ _ (Ty3.setTop (mkF m 60 #[.val (.long qa), .second, .val (.int pl), .val (.int pk), .val (.long qb), .second, .val (.int pm), .val (.int pd), .val (.ref by1), .val (.long A2), .second, .val (.int L2), .val (.int C2), .unset, .unset, .unset] [(.ref by3)]))
    refine Fin.step (fun _ => XS.dup Xy3.here hx rfl (hb hby at_60) rfl rfl) ?_
    show Fin p e below s _ _ _ (Ty3.setTop (mkF m 61 #[.val (.long qa), .second, .val (.int pl), .val (.int pk), .val (.long qb), .second, .val (.int pm), .val (.int pd), .val (.ref by1), .val (.long A2), .second, .val (.int L2), .val (.int C2), .unset, .unset, .unset] [(.ref by3), (.ref by3)]))
    refine Fin.step (fun _ => XS.lload Xy3.here hx rfl (hb hby at_61) rfl) ?_
    show Fin p e below s _ _ _ (Ty3.setTop (mkF m 63 #[.val (.long qa), .second, .val (.int pl), .val (.int pk), .val (.long qb), .second, .val (.int pm), .val (.int pd), .val (.ref by1), .val (.long A2), .second, .val (.int L2), .val (.int C2), .unset, .unset, .unset] [(.long A2), (.ref by3), (.ref by3)]))
    refine Fin.step (fun _ => XS.iload Xy3.here hx rfl (hb hby at_63) rfl) ?_
    show Fin p e below s _ _ _ (Ty3.setTop (mkF m 65 #[.val (.long qa), .second, .val (.int pl), .val (.int pk), .val (.long qb), .second, .val (.int pm), .val (.int pd), .val (.ref by1), .val (.long A2), .second, .val (.int L2), .val (.int C2), .unset, .unset, .unset] [(.int L2), (.long A2), (.ref by3), (.ref by3)]))
    refine Fin.step (fun _ => XS.iload Xy3.here hx rfl (hb hby at_65) rfl) ?_
    show Fin p e below s _ _ _ (Ty3.setTop (mkF m 67 #[.val (.long qa), .second, .val (.int pl), .val (.int pk), .val (.long qb), .second, .val (.int pm), .val (.int pd), .val (.ref by1), .val (.long A2), .second, .val (.int L2), .val (.int C2), .unset, .unset, .unset] [(.int C2), (.int L2), (.long A2), (.ref by3), (.ref by3)]))
    obtain ⟨_, _, ⟨Ty4, Ly4, ky4, ny4⟩, -, Xy4, ⟨Lcy4, hQy4, ly4, yy4, zy4⟩, sty4⟩ := Xy3.specialBack hx (y := (⟨"com/example/stavetree/stavetree/Block", "<init>", "(JII)V"⟩ : MethodName)) rfl hown (mvT hZ (hw _ (List.mem_of_getElem? (i := 3) rfl))) (mvT hZ (hw _ (List.mem_of_getElem? (i := 4) rfl))) (mvT hZ (hw _ (List.mem_of_getElem? (i := 5) rfl))) (by decide) (backOf (W := 1) (rm1 l Z a0 hw [] by3 A2 L2 C2 (.long (0 : Int64)) (.int (0 : Int32)) (.int (0 : Int32)) hy3 n0 Zy3 Ay3 F_address_by3 F_length_by3 F_checksum_by3 gzy3) hZ (hw _ (List.mem_of_getElem? (i := 5) rfl)) (hw _ (List.mem_of_getElem? (i := 2) rfl)) (by decide) (by decide)) (g := (mkF m 67 #[.val (.long qa), .second, .val (.int pl), .val (.int pk), .val (.long qb), .second, .val (.int pm), .val (.int pd), .val (.ref by1), .val (.long A2), .second, .val (.int L2), .val (.int C2), .unset, .unset, .unset] [(.int C2), (.int L2), (.long A2), (.ref by3), (.ref by3)])) rfl (by rw [hml]; rfl) (Steps.refl _) (a := by3) (argsL := [(.long A2), (.int L2), (.int C2)]) (rest := [(.ref by3)]) (lenOf pd_2 rfl) rfl (by show 2 * 0 + _ ≤ _; exact Nat.le_of_eq rfl) (hb hby at_67) (fun _ _ => ⟨rfl, ey3, (by decide : 2 + 0 ≤ _), (by decide : 6 + 0 ≤ _)⟩)
    dsimp only [Pt.U, Pt.locs, Pt.cells, Pt.slots] at Xy4 ly4 yy4 zy4 sty4 hQy4
    subst ly4 yy4 zy4
    obtain ⟨rfl, Nqy4, Kcy4, fy4_0, fy4_1, fy4_2⟩ := hQy4
    have Ny4 := Fr.app Ny2 Nqy4
    have Zy4 : n0 ≤ Ty4.heap.size := Nat.le_trans Zy3 Kcy4.1
    have Ky4 : Keep h0 Ty4.heap [] := Ky3.trans Kcy4 (allS (Or.inr szy3) all0)
    refine Fin.step (fun _ k => sty4.trans k) ?_
    show Fin p e below s _ _ _ (Ty4.setTop (mkF m 70 #[.val (.long qa), .second, .val (.int pl), .val (.int pk), .val (.long qb), .second, .val (.int pm), .val (.int pd), .val (.ref by1), .val (.long A2), .second, .val (.int L2), .val (.int C2), .unset, .unset, .unset] [(.ref by3)]))
    refine Fin.step (fun _ => XS.astore Xy4.here hx rfl (hb hby at_70) rfl rfl (l' := #[.val (.long qa), .second, .val (.int pl), .val (.int pk), .val (.long qb), .second, .val (.int pm), .val (.int pd), .val (.ref by1), .val (.long A2), .second, .val (.int L2), .val (.int C2), .val (.ref by3), .unset, .unset]) rfl) ?_
    show Fin p e below s _ _ _ (Ty4.setTop (mkF m 72 #[.val (.long qa), .second, .val (.int pl), .val (.int pk), .val (.long qb), .second, .val (.int pm), .val (.int pd), .val (.ref by1), .val (.long A2), .second, .val (.int L2), .val (.int C2), .val (.ref by3), .unset, .unset] []))
    refine Fin.step (fun _ => XS.lloadN Xy4.here hx rfl (hb hby at_72) rfl) ?_
    show Fin p e below s _ _ _ (Ty4.setTop (mkF m 73 #[.val (.long qa), .second, .val (.int pl), .val (.int pk), .val (.long qb), .second, .val (.int pm), .val (.int pd), .val (.ref by1), .val (.long A2), .second, .val (.int L2), .val (.int C2), .val (.ref by3), .unset, .unset] [(.long qa)]))
    refine Fin.step (fun _ => XS.lload Xy4.here hx rfl (hb hby at_73) rfl) ?_
    show Fin p e below s _ _ _ (Ty4.setTop (mkF m 75 #[.val (.long qa), .second, .val (.int pl), .val (.int pk), .val (.long qb), .second, .val (.int pm), .val (.int pd), .val (.ref by1), .val (.long A2), .second, .val (.int L2), .val (.int C2), .val (.ref by3), .unset, .unset] [(.long A2), (.long qa)]))
    refine Fin.step (fun _ => XS.lcmp Xy4.here hx rfl (hb hby at_75) rfl) ?_
    show Fin p e below s _ _ _ (Ty4.setTop (mkF m 76 #[.val (.long qa), .second, .val (.int pl), .val (.int pk), .val (.long qb), .second, .val (.int pm), .val (.int pd), .val (.ref by1), .val (.long A2), .second, .val (.int L2), .val (.int C2), .val (.ref by3), .unset, .unset] [(.int (lcmpW qa A2))]))
    by_cases hcy5 : qa = A2
    · refine Fin.step (fun _ => XS.ifNo Xy4.here hx rfl (hb hby at_76) rfl ((if0 _ _).trans (teq ((lcE hcy5) : ((lcmpW qa A2) = (0 : Int32)))).2)) ?_
      show Fin p e below s _ _ _ (Ty4.setTop (mkF m 79 #[.val (.long qa), .second, .val (.int pl), .val (.int pk), .val (.long qb), .second, .val (.int pm), .val (.int pd), .val (.ref by1), .val (.long A2), .second, .val (.int L2), .val (.int C2), .val (.ref by3), .unset, .unset] []))
      refine Fin.step (fun _ => XS.iloadN Xy4.here hx rfl (hb hby at_79) rfl) ?_
      show Fin p e below s _ _ _ (Ty4.setTop (mkF m 80 #[.val (.long qa), .second, .val (.int pl), .val (.int pk), .val (.long qb), .second, .val (.int pm), .val (.int pd), .val (.ref by1), .val (.long A2), .second, .val (.int L2), .val (.int C2), .val (.ref by3), .unset, .unset] [(.int pl)]))
      refine Fin.step (fun _ => XS.iload Xy4.here hx rfl (hb hby at_80) rfl) ?_
      show Fin p e below s _ _ _ (Ty4.setTop (mkF m 82 #[.val (.long qa), .second, .val (.int pl), .val (.int pk), .val (.long qb), .second, .val (.int pm), .val (.int pd), .val (.ref by1), .val (.long A2), .second, .val (.int L2), .val (.int C2), .val (.ref by3), .unset, .unset] [(.int L2), (.int pl)]))
      by_cases hcy6 : pl = L2
      · refine Fin.step (fun _ => XS.icmpNo Xy4.here hx rfl (hb hby at_82) rfl (teq (hcy6 : (pl = L2))).2) ?_
        show Fin p e below s _ _ _ (Ty4.setTop (mkF m 85 #[.val (.long qa), .second, .val (.int pl), .val (.int pk), .val (.long qb), .second, .val (.int pm), .val (.int pd), .val (.ref by1), .val (.long A2), .second, .val (.int L2), .val (.int C2), .val (.ref by3), .unset, .unset] []))
        refine Fin.step (fun _ => XS.iloadN Xy4.here hx rfl (hb hby at_85) rfl) ?_
        show Fin p e below s _ _ _ (Ty4.setTop (mkF m 86 #[.val (.long qa), .second, .val (.int pl), .val (.int pk), .val (.long qb), .second, .val (.int pm), .val (.int pd), .val (.ref by1), .val (.long A2), .second, .val (.int L2), .val (.int C2), .val (.ref by3), .unset, .unset] [(.int pk)]))
        refine Fin.step (fun _ => XS.iload Xy4.here hx rfl (hb hby at_86) rfl) ?_
        show Fin p e below s _ _ _ (Ty4.setTop (mkF m 88 #[.val (.long qa), .second, .val (.int pl), .val (.int pk), .val (.long qb), .second, .val (.int pm), .val (.int pd), .val (.ref by1), .val (.long A2), .second, .val (.int L2), .val (.int C2), .val (.ref by3), .unset, .unset] [(.int C2), (.int pk)]))
        by_cases hcy7 : pk = C2
        · refine Fin.step (fun _ => XS.icmpNo Xy4.here hx rfl (hb hby at_88) rfl (teq (hcy7 : (pk = C2))).2) ?_
          show Fin p e below s _ _ _ (Ty4.setTop (mkF m 91 #[.val (.long qa), .second, .val (.int pl), .val (.int pk), .val (.long qb), .second, .val (.int pm), .val (.int pd), .val (.ref by1), .val (.long A2), .second, .val (.int L2), .val (.int C2), .val (.ref by3), .unset, .unset] []))
          refine Fin.step (fun _ => XS.iconst Xy4.here hx rfl (hb hby at_91)) ?_
          show Fin p e below s _ _ _ (Ty4.setTop (mkF m 92 #[.val (.long qa), .second, .val (.int pl), .val (.int pk), .val (.long qb), .second, .val (.int pm), .val (.int pd), .val (.ref by1), .val (.long A2), .second, .val (.int L2), .val (.int C2), .val (.ref by3), .unset, .unset] [(.int (1 : Int32))]))
          refine Fin.step (fun _ => XS.goto Xy4.here hx rfl (pc0 := 92) (pc' := 96) rfl (hb hby at_92) (by decide) (by decide)) ?_
          show Fin p e below s _ _ _ (Ty4.setTop (mkF m 96 #[.val (.long qa), .second, .val (.int pl), .val (.int pk), .val (.long qb), .second, .val (.int pm), .val (.int pd), .val (.ref by1), .val (.long A2), .second, .val (.int L2), .val (.int C2), .val (.ref by3), .unset, .unset] [(.int (1 : Int32))]))
          refine Fin.step (fun _ => XS.istore Xy4.here hx rfl (hb hby at_96) rfl (l' := #[.val (.long qa), .second, .val (.int pl), .val (.int pk), .val (.long qb), .second, .val (.int pm), .val (.int pd), .val (.ref by1), .val (.long A2), .second, .val (.int L2), .val (.int C2), .val (.ref by3), .val (.int (1 : Int32)), .unset]) rfl) ?_
          show Fin p e below s _ _ _ (Ty4.setTop (mkF m 98 #[.val (.long qa), .second, .val (.int pl), .val (.int pk), .val (.long qb), .second, .val (.int pm), .val (.int pd), .val (.ref by1), .val (.long A2), .second, .val (.int L2), .val (.int C2), .val (.ref by3), .val (.int (1 : Int32)), .unset] []))
          refine Fin.step (fun _ => XS.iloadN Xy4.here hx rfl (hb hby at_98) rfl) ?_
          show Fin p e below s _ _ _ (Ty4.setTop (mkF m 99 #[.val (.long qa), .second, .val (.int pl), .val (.int pk), .val (.long qb), .second, .val (.int pm), .val (.int pd), .val (.ref by1), .val (.long A2), .second, .val (.int L2), .val (.int C2), .val (.ref by3), .val (.int (1 : Int32)), .unset] [(.int pl)]))
          obtain ⟨_, _, ⟨Ty8, Ly8, ky8, ny8⟩, -, Xy8, ⟨Lcy8, hQy8, ly8, yy8, zy8⟩, sty8⟩ := Jvm.LawKit.callS Xy4 hx (y := (⟨"java/lang/Integer", "valueOf", "(I)Ljava/lang/Integer;"⟩ : MethodName)) hown (mvT hZ (hw _ (List.mem_of_getElem? (i := 20) rfl))) (mvT hZ (hw _ (List.mem_of_getElem? (i := 21) rfl))) (mvT hZ (hw _ (List.mem_of_getElem? (i := 22) rfl))) (mvT hZ (hw _ (List.mem_of_getElem? (i := 23) rfl))) (by decide) (backOf (W := 0) (rm4 l Z a0 hw [] pl ca Ty4.heap n0 Zy4 (Sta_keep HS_java_lang_Integer_IntegerCache_high Ky4) (Sta_keep HS_java_lang_Integer_IntegerCache_cache Ky4) (own_ca_keep hca Ky4)) hZ (hw _ (List.mem_of_getElem? (i := 23) rfl)) (hw _ (List.mem_of_getElem? (i := 22) rfl)) (by decide) (by decide)) (g := (mkF m 99 #[.val (.long qa), .second, .val (.int pl), .val (.int pk), .val (.long qb), .second, .val (.int pm), .val (.int pd), .val (.ref by1), .val (.long A2), .second, .val (.int L2), .val (.int C2), .val (.ref by3), .val (.int (1 : Int32)), .unset] [(.int pl)])) rfl (by rw [hml]; rfl) (argsL := [(.int pl)]) (rest := []) (lenOf pd_3 rfl) rfl (by show 2 * 0 + _ ≤ _; exact Nat.le_of_eq rfl) (hb hby at_99) (fun _ _ => ⟨rfl, rfl, (by decide : 2 + 1 ≤ _), (by decide : 6 + 1 ≤ _)⟩)
          dsimp only [Pt.U, Pt.locs, Pt.cells, Pt.slots] at Xy8 ly8 yy8 zy8 sty8 hQy8
          subst ly8 yy8 zy8
          obtain ⟨bx_y8, rfl, Nqy8, Kcy8, fy8_0⟩ := hQy8
          have Ny8 := Fr.app Ny4 Nqy8
          have Zy8 : n0 ≤ Ty8.heap.size := Nat.le_trans Zy4 Kcy8.1
          have Ky8 : Keep h0 Ty8.heap [] := Ky4.trans Kcy8 all0
          refine Fin.step (sty8) ?_
          show Fin p e below s _ _ _ (Ty8.setTop (mkF m 102 #[.val (.long qa), .second, .val (.int pl), .val (.int pk), .val (.long qb), .second, .val (.int pm), .val (.int pd), .val (.ref by1), .val (.long A2), .second, .val (.int L2), .val (.int C2), .val (.ref by3), .val (.int (1 : Int32)), .unset] [(.ref bx_y8)]))
          refine Fin.step (fun _ => XS.astore Xy8.here hx rfl (hb hby at_102) rfl rfl (l' := #[.val (.long qa), .second, .val (.int pl), .val (.int pk), .val (.long qb), .second, .val (.int pm), .val (.int pd), .val (.ref by1), .val (.long A2), .second, .val (.int L2), .val (.int C2), .val (.ref by3), .val (.int (1 : Int32)), .val (.ref bx_y8)]) rfl) ?_
          show Fin p e below s _ _ _ (Ty8.setTop (mkF m 104 #[.val (.long qa), .second, .val (.int pl), .val (.int pk), .val (.long qb), .second, .val (.int pm), .val (.int pd), .val (.ref by1), .val (.long A2), .second, .val (.int L2), .val (.int C2), .val (.ref by3), .val (.int (1 : Int32)), .val (.ref bx_y8)] []))
          refine Fin.step (fun _ => XS.aload Xy8.here hx rfl (hb hby at_104) rfl rfl) ?_
          show Fin p e below s _ _ _ (Ty8.setTop (mkF m 106 #[.val (.long qa), .second, .val (.int pl), .val (.int pk), .val (.long qb), .second, .val (.int pm), .val (.int pd), .val (.ref by1), .val (.long A2), .second, .val (.int L2), .val (.int C2), .val (.ref by3), .val (.int (1 : Int32)), .val (.ref bx_y8)] [(.ref by1)]))
          refine Fin.step (fun _ => XS.aload Xy8.here hx rfl (hb hby at_106) rfl rfl) ?_
          show Fin p e below s _ _ _ (Ty8.setTop (mkF m 108 #[.val (.long qa), .second, .val (.int pl), .val (.int pk), .val (.long qb), .second, .val (.int pm), .val (.int pd), .val (.ref by1), .val (.long A2), .second, .val (.int L2), .val (.int C2), .val (.ref by3), .val (.int (1 : Int32)), .val (.ref bx_y8)] [(.ref by3), (.ref by1)]))
          obtain ⟨cqy9, kqy9, qy9a, qy9b, qy9c⟩ := isOf hZ rfl ((((Ay1.keep Kcy2).ext Ey3).keep Kcy4).keep Kcy8)
          obtain ⟨_, _, ⟨Ty9, Ly9, ky9, ny9⟩, -, Xy9, ⟨Lcy9, hQy9, ly9, yy9, zy9⟩, sty9⟩ := Xy8.virtualBack hx (y := (⟨"com/example/stavetree/stavetree/Block", "equals", "(Ljava/lang/Object;)Z"⟩ : MethodName)) (z := (⟨"com/example/stavetree/stavetree/Block", "equals", "(Ljava/lang/Object;)Z"⟩ : MethodName)) hown (mvT hZ (hw _ (List.mem_of_getElem? (i := 27) rfl))) (mvT hZ (hw _ (List.mem_of_getElem? (i := 28) rfl))) (notFace_of_selects (args := #[]) (mvT hZ (hw _ (List.mem_of_getElem? (i := 30) rfl)))) (mvT hZ (hw _ (List.mem_of_getElem? (i := 30) rfl))) (mvT hZ (hw _ (List.mem_of_getElem? (i := 29) rfl))) (by decide) (backOf (W := 0) (rme1 l Z a0 hw [] by1 by3 qa pl pk A2 L2 C2 Ty8.heap n0 Zy8 ((Ay3.keep Kcy4).keep Kcy8) (((fy2_0.ext Ey3).keep Kcy4 (ninS (Nat.ne_of_lt (Nat.lt_of_lt_of_le (Ay1.keep Kcy2).lt (Nat.le_of_eq gy3.symm))) nin0)).keep Kcy8 nin0) (((fy2_1.ext Ey3).keep Kcy4 (ninS (Nat.ne_of_lt (Nat.lt_of_lt_of_le (Ay1.keep Kcy2).lt (Nat.le_of_eq gy3.symm))) nin0)).keep Kcy8 nin0) (((fy2_2.ext Ey3).keep Kcy4 (ninS (Nat.ne_of_lt (Nat.lt_of_lt_of_le (Ay1.keep Kcy2).lt (Nat.le_of_eq gy3.symm))) nin0)).keep Kcy8 nin0) (fy4_0.keep Kcy8 nin0) (fy4_1.keep Kcy8 nin0) (fy4_2.keep Kcy8 nin0)) hZ (hw _ (List.mem_of_getElem? (i := 31) rfl)) (hw _ (List.mem_of_getElem? (i := 2) rfl)) (by decide) (by decide)) qy9a qy9c (g := (mkF m 108 #[.val (.long qa), .second, .val (.int pl), .val (.int pk), .val (.long qb), .second, .val (.int pm), .val (.int pd), .val (.ref by1), .val (.long A2), .second, .val (.int L2), .val (.int C2), .val (.ref by3), .val (.int (1 : Int32)), .val (.ref bx_y8)] [(.ref by3), (.ref by1)])) rfl (by rw [hml]; rfl) (Steps.refl _) (argsL := [(.ref by3)]) (rest := []) (lenOf pd_4 rfl) rfl (by show 2 * 0 + _ ≤ _; exact Nat.le_of_eq rfl) (hb hby at_108) (fun _ _ => ⟨rfl, rfl, (by decide : 3 + 0 ≤ _), (by decide : 7 + 0 ≤ _)⟩)
          dsimp only [Pt.U, Pt.locs, Pt.cells, Pt.slots] at Xy9 ly9 yy9 zy9 sty9 hQy9
          subst ly9 yy9 zy9
          obtain ⟨rfl, Nqy9, eqy9⟩ := hQy9
          have Ny9 := Fr.app Ny8 Nqy9
          refine Fin.step (fun _ k => sty9.trans k) ?_
          show Fin p e below s _ _ _ (Ty9.setTop (mkF m 111 #[.val (.long qa), .second, .val (.int pl), .val (.int pk), .val (.long qb), .second, .val (.int pm), .val (.int pd), .val (.ref by1), .val (.long A2), .second, .val (.int L2), .val (.int C2), .val (.ref by3), .val (.int (1 : Int32)), .val (.ref bx_y8)] [(.int (own_eq qa pl pk A2 L2 C2))]))
          refine Fin.step (fun _ => XS.iload Xy9.here hx rfl (hb hby at_111) rfl) ?_
          show Fin p e below s _ _ _ (Ty9.setTop (mkF m 113 #[.val (.long qa), .second, .val (.int pl), .val (.int pk), .val (.long qb), .second, .val (.int pm), .val (.int pd), .val (.ref by1), .val (.long A2), .second, .val (.int L2), .val (.int C2), .val (.ref by3), .val (.int (1 : Int32)), .val (.ref bx_y8)] [(.int (1 : Int32)), (.int (own_eq qa pl pk A2 L2 C2))]))
          refine Fin.step (fun _ => XS.icmpNo Xy9.here hx rfl (hb hby at_113) rfl (teq ((by rw [own_eq, if_pos hcy5, if_pos hcy6, if_pos hcy7]) : ((own_eq qa pl pk A2 L2 C2) = (1 : Int32)))).2) ?_
          show Fin p e below s _ _ _ (Ty9.setTop (mkF m 116 #[.val (.long qa), .second, .val (.int pl), .val (.int pk), .val (.long qb), .second, .val (.int pm), .val (.int pd), .val (.ref by1), .val (.long A2), .second, .val (.int L2), .val (.int C2), .val (.ref by3), .val (.int (1 : Int32)), .val (.ref bx_y8)] []))
          refine Fin.step (fun _ => XS.aload Xy9.here hx rfl (hb hby at_116) rfl rfl) ?_
          show Fin p e below s _ _ _ (Ty9.setTop (mkF m 118 #[.val (.long qa), .second, .val (.int pl), .val (.int pk), .val (.long qb), .second, .val (.int pm), .val (.int pd), .val (.ref by1), .val (.long A2), .second, .val (.int L2), .val (.int C2), .val (.ref by3), .val (.int (1 : Int32)), .val (.ref bx_y8)] [(.ref by3)]))
          refine Fin.step (fun _ => XS.aload Xy9.here hx rfl (hb hby at_118) rfl rfl) ?_
          show Fin p e below s _ _ _ (Ty9.setTop (mkF m 120 #[.val (.long qa), .second, .val (.int pl), .val (.int pk), .val (.long qb), .second, .val (.int pm), .val (.int pd), .val (.ref by1), .val (.long A2), .second, .val (.int L2), .val (.int C2), .val (.ref by3), .val (.int (1 : Int32)), .val (.ref bx_y8)] [(.ref by1), (.ref by3)]))
          obtain ⟨cqy10, kqy10, qy10a, qy10b, qy10c⟩ := isOf hZ eqy9 ((Ay3.keep Kcy4).keep Kcy8)
          obtain ⟨_, _, ⟨Ty10, Ly10, ky10, ny10⟩, -, Xy10, ⟨Lcy10, hQy10, ly10, yy10, zy10⟩, sty10⟩ := Xy9.virtualBack hx (y := (⟨"com/example/stavetree/stavetree/Block", "equals", "(Ljava/lang/Object;)Z"⟩ : MethodName)) (z := (⟨"com/example/stavetree/stavetree/Block", "equals", "(Ljava/lang/Object;)Z"⟩ : MethodName)) hown (mvT hZ (hw _ (List.mem_of_getElem? (i := 27) rfl))) (mvT hZ (hw _ (List.mem_of_getElem? (i := 28) rfl))) (notFace_of_selects (args := #[]) (mvT hZ (hw _ (List.mem_of_getElem? (i := 30) rfl)))) (mvT hZ (hw _ (List.mem_of_getElem? (i := 30) rfl))) (mvT hZ (hw _ (List.mem_of_getElem? (i := 29) rfl))) (by decide) (backOf (W := 0) (rme1 l Z a0 hw [] by3 by1 A2 L2 C2 qa pl pk Ty8.heap n0 Zy8 ((((Ay1.keep Kcy2).ext Ey3).keep Kcy4).keep Kcy8) (fy4_0.keep Kcy8 nin0) (fy4_1.keep Kcy8 nin0) (fy4_2.keep Kcy8 nin0) (((fy2_0.ext Ey3).keep Kcy4 (ninS (Nat.ne_of_lt (Nat.lt_of_lt_of_le (Ay1.keep Kcy2).lt (Nat.le_of_eq gy3.symm))) nin0)).keep Kcy8 nin0) (((fy2_1.ext Ey3).keep Kcy4 (ninS (Nat.ne_of_lt (Nat.lt_of_lt_of_le (Ay1.keep Kcy2).lt (Nat.le_of_eq gy3.symm))) nin0)).keep Kcy8 nin0) (((fy2_2.ext Ey3).keep Kcy4 (ninS (Nat.ne_of_lt (Nat.lt_of_lt_of_le (Ay1.keep Kcy2).lt (Nat.le_of_eq gy3.symm))) nin0)).keep Kcy8 nin0)) hZ (hw _ (List.mem_of_getElem? (i := 31) rfl)) (hw _ (List.mem_of_getElem? (i := 2) rfl)) (by decide) (by decide)) qy10a qy10c (g := (mkF m 120 #[.val (.long qa), .second, .val (.int pl), .val (.int pk), .val (.long qb), .second, .val (.int pm), .val (.int pd), .val (.ref by1), .val (.long A2), .second, .val (.int L2), .val (.int C2), .val (.ref by3), .val (.int (1 : Int32)), .val (.ref bx_y8)] [(.ref by1), (.ref by3)])) rfl (by rw [hml]; rfl) (Steps.refl _) (argsL := [(.ref by1)]) (rest := []) (lenOf pd_4 rfl) rfl (by show 2 * 0 + _ ≤ _; exact Nat.le_of_eq rfl) (hb hby at_120) (fun _ _ => ⟨rfl, eqy9, (by decide : 3 + 0 ≤ _), (by decide : 7 + 0 ≤ _)⟩)
          dsimp only [Pt.U, Pt.locs, Pt.cells, Pt.slots] at Xy10 ly10 yy10 zy10 sty10 hQy10
          subst ly10 yy10 zy10
          obtain ⟨rfl, Nqy10, eqy10⟩ := hQy10
          have Ny10 := Fr.app Ny9 Nqy10
          refine Fin.step (fun _ k => sty10.trans k) ?_
          show Fin p e below s _ _ _ (Ty10.setTop (mkF m 123 #[.val (.long qa), .second, .val (.int pl), .val (.int pk), .val (.long qb), .second, .val (.int pm), .val (.int pd), .val (.ref by1), .val (.long A2), .second, .val (.int L2), .val (.int C2), .val (.ref by3), .val (.int (1 : Int32)), .val (.ref bx_y8)] [(.int (own_eq A2 L2 C2 qa pl pk))]))
          refine Fin.step (fun _ => XS.iload Xy10.here hx rfl (hb hby at_123) rfl) ?_
          show Fin p e below s _ _ _ (Ty10.setTop (mkF m 125 #[.val (.long qa), .second, .val (.int pl), .val (.int pk), .val (.long qb), .second, .val (.int pm), .val (.int pd), .val (.ref by1), .val (.long A2), .second, .val (.int L2), .val (.int C2), .val (.ref by3), .val (.int (1 : Int32)), .val (.ref bx_y8)] [(.int (1 : Int32)), (.int (own_eq A2 L2 C2 qa pl pk))]))
          refine Fin.step (fun _ => XS.icmpNo Xy10.here hx rfl (hb hby at_125) rfl (teq ((by rw [own_eq_comm, own_eq, if_pos hcy5, if_pos hcy6, if_pos hcy7]) : ((own_eq A2 L2 C2 qa pl pk) = (1 : Int32)))).2) ?_
          show Fin p e below s _ _ _ (Ty10.setTop (mkF m 128 #[.val (.long qa), .second, .val (.int pl), .val (.int pk), .val (.long qb), .second, .val (.int pm), .val (.int pd), .val (.ref by1), .val (.long A2), .second, .val (.int L2), .val (.int C2), .val (.ref by3), .val (.int (1 : Int32)), .val (.ref bx_y8)] []))
          refine Fin.step (fun _ => XS.aload Xy10.here hx rfl (hb hby at_128) rfl rfl) ?_
          show Fin p e below s _ _ _ (Ty10.setTop (mkF m 130 #[.val (.long qa), .second, .val (.int pl), .val (.int pk), .val (.long qb), .second, .val (.int pm), .val (.int pd), .val (.ref by1), .val (.long A2), .second, .val (.int L2), .val (.int C2), .val (.ref by3), .val (.int (1 : Int32)), .val (.ref bx_y8)] [(.ref by1)]))
          refine Fin.step (fun _ => XS.aload Xy10.here hx rfl (hb hby at_130) rfl rfl) ?_
          show Fin p e below s _ _ _ (Ty10.setTop (mkF m 132 #[.val (.long qa), .second, .val (.int pl), .val (.int pk), .val (.long qb), .second, .val (.int pm), .val (.int pd), .val (.ref by1), .val (.long A2), .second, .val (.int L2), .val (.int C2), .val (.ref by3), .val (.int (1 : Int32)), .val (.ref bx_y8)] [(.ref by1), (.ref by1)]))
          obtain ⟨cqy11, kqy11, qy11a, qy11b, qy11c⟩ := isOf hZ eqy10 ((((Ay1.keep Kcy2).ext Ey3).keep Kcy4).keep Kcy8)
          obtain ⟨_, _, ⟨Ty11, Ly11, ky11, ny11⟩, -, Xy11, ⟨Lcy11, hQy11, ly11, yy11, zy11⟩, sty11⟩ := Xy10.virtualBack hx (y := (⟨"com/example/stavetree/stavetree/Block", "equals", "(Ljava/lang/Object;)Z"⟩ : MethodName)) (z := (⟨"com/example/stavetree/stavetree/Block", "equals", "(Ljava/lang/Object;)Z"⟩ : MethodName)) hown (mvT hZ (hw _ (List.mem_of_getElem? (i := 27) rfl))) (mvT hZ (hw _ (List.mem_of_getElem? (i := 28) rfl))) (notFace_of_selects (args := #[]) (mvT hZ (hw _ (List.mem_of_getElem? (i := 30) rfl)))) (mvT hZ (hw _ (List.mem_of_getElem? (i := 30) rfl))) (mvT hZ (hw _ (List.mem_of_getElem? (i := 29) rfl))) (by decide) (backOf (W := 0) (rme1 l Z a0 hw [] by1 by1 qa pl pk qa pl pk Ty8.heap n0 Zy8 ((((Ay1.keep Kcy2).ext Ey3).keep Kcy4).keep Kcy8) (((fy2_0.ext Ey3).keep Kcy4 (ninS (Nat.ne_of_lt (Nat.lt_of_lt_of_le (Ay1.keep Kcy2).lt (Nat.le_of_eq gy3.symm))) nin0)).keep Kcy8 nin0) (((fy2_1.ext Ey3).keep Kcy4 (ninS (Nat.ne_of_lt (Nat.lt_of_lt_of_le (Ay1.keep Kcy2).lt (Nat.le_of_eq gy3.symm))) nin0)).keep Kcy8 nin0) (((fy2_2.ext Ey3).keep Kcy4 (ninS (Nat.ne_of_lt (Nat.lt_of_lt_of_le (Ay1.keep Kcy2).lt (Nat.le_of_eq gy3.symm))) nin0)).keep Kcy8 nin0) (((fy2_0.ext Ey3).keep Kcy4 (ninS (Nat.ne_of_lt (Nat.lt_of_lt_of_le (Ay1.keep Kcy2).lt (Nat.le_of_eq gy3.symm))) nin0)).keep Kcy8 nin0) (((fy2_1.ext Ey3).keep Kcy4 (ninS (Nat.ne_of_lt (Nat.lt_of_lt_of_le (Ay1.keep Kcy2).lt (Nat.le_of_eq gy3.symm))) nin0)).keep Kcy8 nin0) (((fy2_2.ext Ey3).keep Kcy4 (ninS (Nat.ne_of_lt (Nat.lt_of_lt_of_le (Ay1.keep Kcy2).lt (Nat.le_of_eq gy3.symm))) nin0)).keep Kcy8 nin0)) hZ (hw _ (List.mem_of_getElem? (i := 31) rfl)) (hw _ (List.mem_of_getElem? (i := 2) rfl)) (by decide) (by decide)) qy11a qy11c (g := (mkF m 132 #[.val (.long qa), .second, .val (.int pl), .val (.int pk), .val (.long qb), .second, .val (.int pm), .val (.int pd), .val (.ref by1), .val (.long A2), .second, .val (.int L2), .val (.int C2), .val (.ref by3), .val (.int (1 : Int32)), .val (.ref bx_y8)] [(.ref by1), (.ref by1)])) rfl (by rw [hml]; rfl) (Steps.refl _) (argsL := [(.ref by1)]) (rest := []) (lenOf pd_4 rfl) rfl (by show 2 * 0 + _ ≤ _; exact Nat.le_of_eq rfl) (hb hby at_132) (fun _ _ => ⟨rfl, eqy10, (by decide : 3 + 0 ≤ _), (by decide : 7 + 0 ≤ _)⟩)
          dsimp only [Pt.U, Pt.locs, Pt.cells, Pt.slots] at Xy11 ly11 yy11 zy11 sty11 hQy11
          subst ly11 yy11 zy11
          obtain ⟨rfl, Nqy11, eqy11⟩ := hQy11
          have Ny11 := Fr.app Ny10 Nqy11
          refine Fin.step (fun _ k => sty11.trans k) ?_
          show Fin p e below s _ _ _ (Ty11.setTop (mkF m 135 #[.val (.long qa), .second, .val (.int pl), .val (.int pk), .val (.long qb), .second, .val (.int pm), .val (.int pd), .val (.ref by1), .val (.long A2), .second, .val (.int L2), .val (.int C2), .val (.ref by3), .val (.int (1 : Int32)), .val (.ref bx_y8)] [(.int (own_eq qa pl pk qa pl pk))]))
          refine Fin.step (fun _ => XS.ifNo Xy11.here hx rfl (hb hby at_135) rfl ((if0 _ _).trans (feq ((by rw [own_eq_self]; decide) : ¬ ((own_eq qa pl pk qa pl pk) = (0 : Int32)))).1)) ?_
          show Fin p e below s _ _ _ (Ty11.setTop (mkF m 138 #[.val (.long qa), .second, .val (.int pl), .val (.int pk), .val (.long qb), .second, .val (.int pm), .val (.int pd), .val (.ref by1), .val (.long A2), .second, .val (.int L2), .val (.int C2), .val (.ref by3), .val (.int (1 : Int32)), .val (.ref bx_y8)] []))
          refine Fin.step (fun _ => XS.aload Xy11.here hx rfl (hb hby at_138) rfl rfl) ?_
          show Fin p e below s _ _ _ (Ty11.setTop (mkF m 140 #[.val (.long qa), .second, .val (.int pl), .val (.int pk), .val (.long qb), .second, .val (.int pm), .val (.int pd), .val (.ref by1), .val (.long A2), .second, .val (.int L2), .val (.int C2), .val (.ref by3), .val (.int (1 : Int32)), .val (.ref bx_y8)] [(.ref by1)]))
          refine Fin.step (fun _ => XS.aconstNull Xy11.here hx rfl (hb hby at_140)) ?_
          show Fin p e below s _ _ _ (Ty11.setTop (mkF m 141 #[.val (.long qa), .second, .val (.int pl), .val (.int pk), .val (.long qb), .second, .val (.int pm), .val (.int pd), .val (.ref by1), .val (.long A2), .second, .val (.int L2), .val (.int C2), .val (.ref by3), .val (.int (1 : Int32)), .val (.ref bx_y8)] [.null, (.ref by1)]))
          obtain ⟨cqy12, kqy12, qy12a, qy12b, qy12c⟩ := isOf hZ eqy11 ((((Ay1.keep Kcy2).ext Ey3).keep Kcy4).keep Kcy8)
          obtain ⟨_, _, ⟨Ty12, Ly12, ky12, ny12⟩, -, Xy12, ⟨Lcy12, hQy12, ly12, yy12, zy12⟩, sty12⟩ := Xy11.virtualBack hx (y := (⟨"com/example/stavetree/stavetree/Block", "equals", "(Ljava/lang/Object;)Z"⟩ : MethodName)) (z := (⟨"com/example/stavetree/stavetree/Block", "equals", "(Ljava/lang/Object;)Z"⟩ : MethodName)) hown (mvT hZ (hw _ (List.mem_of_getElem? (i := 27) rfl))) (mvT hZ (hw _ (List.mem_of_getElem? (i := 28) rfl))) (notFace_of_selects (args := #[]) (mvT hZ (hw _ (List.mem_of_getElem? (i := 30) rfl)))) (mvT hZ (hw _ (List.mem_of_getElem? (i := 30) rfl))) (mvT hZ (hw _ (List.mem_of_getElem? (i := 29) rfl))) (by decide) (backOf (W := 0) (rme0 l Z a0 hw [] by1 Ty8.heap n0 Zy8 ) hZ (hw _ (List.mem_of_getElem? (i := 31) rfl)) (hw _ (List.mem_of_getElem? (i := 2) rfl)) (by decide) (by decide)) qy12a qy12c (g := (mkF m 141 #[.val (.long qa), .second, .val (.int pl), .val (.int pk), .val (.long qb), .second, .val (.int pm), .val (.int pd), .val (.ref by1), .val (.long A2), .second, .val (.int L2), .val (.int C2), .val (.ref by3), .val (.int (1 : Int32)), .val (.ref bx_y8)] [.null, (.ref by1)])) rfl (by rw [hml]; rfl) (Steps.refl _) (argsL := [.null]) (rest := []) (lenOf pd_4 rfl) rfl (by show 2 * 0 + _ ≤ _; exact Nat.le_of_eq rfl) (hb hby at_141) (fun _ _ => ⟨rfl, eqy11, (by decide : 3 + 0 ≤ _), (by decide : 7 + 0 ≤ _)⟩)
          dsimp only [Pt.U, Pt.locs, Pt.cells, Pt.slots] at Xy12 ly12 yy12 zy12 sty12 hQy12
          subst ly12 yy12 zy12
          obtain ⟨rfl, Nqy12, eqy12⟩ := hQy12
          have Ny12 := Fr.app Ny11 Nqy12
          refine Fin.step (fun _ k => sty12.trans k) ?_
          show Fin p e below s _ _ _ (Ty12.setTop (mkF m 144 #[.val (.long qa), .second, .val (.int pl), .val (.int pk), .val (.long qb), .second, .val (.int pm), .val (.int pd), .val (.ref by1), .val (.long A2), .second, .val (.int L2), .val (.int C2), .val (.ref by3), .val (.int (1 : Int32)), .val (.ref bx_y8)] [(.int (0 : Int32))]))
          refine Fin.step (fun _ => XS.ifNo Xy12.here hx rfl (hb hby at_144) rfl ((if0 _ _).trans (teq ((by decide) : ((0 : Int32) = (0 : Int32)))).2)) ?_
          show Fin p e below s _ _ _ (Ty12.setTop (mkF m 147 #[.val (.long qa), .second, .val (.int pl), .val (.int pk), .val (.long qb), .second, .val (.int pm), .val (.int pd), .val (.ref by1), .val (.long A2), .second, .val (.int L2), .val (.int C2), .val (.ref by3), .val (.int (1 : Int32)), .val (.ref bx_y8)] []))
          refine Fin.step (fun _ => XS.aload Xy12.here hx rfl (hb hby at_147) rfl rfl) ?_
          show Fin p e below s _ _ _ (Ty12.setTop (mkF m 149 #[.val (.long qa), .second, .val (.int pl), .val (.int pk), .val (.long qb), .second, .val (.int pm), .val (.int pd), .val (.ref by1), .val (.long A2), .second, .val (.int L2), .val (.int C2), .val (.ref by3), .val (.int (1 : Int32)), .val (.ref bx_y8)] [(.ref by1)]))
          refine Fin.step (fun _ => XS.aload Xy12.here hx rfl (hb hby at_149) rfl rfl) ?_
          show Fin p e below s _ _ _ (Ty12.setTop (mkF m 151 #[.val (.long qa), .second, .val (.int pl), .val (.int pk), .val (.long qb), .second, .val (.int pm), .val (.int pd), .val (.ref by1), .val (.long A2), .second, .val (.int L2), .val (.int C2), .val (.ref by3), .val (.int (1 : Int32)), .val (.ref bx_y8)] [(.ref bx_y8), (.ref by1)]))
          obtain ⟨cqy13, kqy13, qy13a, qy13b, qy13c⟩ := isOf hZ eqy12 ((((Ay1.keep Kcy2).ext Ey3).keep Kcy4).keep Kcy8)
          obtain ⟨_, _, ⟨Ty13, Ly13, ky13, ny13⟩, -, Xy13, ⟨Lcy13, hQy13, ly13, yy13, zy13⟩, sty13⟩ := Xy12.virtualBack hx (y := (⟨"com/example/stavetree/stavetree/Block", "equals", "(Ljava/lang/Object;)Z"⟩ : MethodName)) (z := (⟨"com/example/stavetree/stavetree/Block", "equals", "(Ljava/lang/Object;)Z"⟩ : MethodName)) hown (mvT hZ (hw _ (List.mem_of_getElem? (i := 27) rfl))) (mvT hZ (hw _ (List.mem_of_getElem? (i := 28) rfl))) (notFace_of_selects (args := #[]) (mvT hZ (hw _ (List.mem_of_getElem? (i := 30) rfl)))) (mvT hZ (hw _ (List.mem_of_getElem? (i := 30) rfl))) (mvT hZ (hw _ (List.mem_of_getElem? (i := 29) rfl))) (by decide) (backOf (W := 0) (rmei l Z a0 hw [] by1 bx_y8 Ty8.heap n0 Zy8 fy8_0) hZ (hw _ (List.mem_of_getElem? (i := 31) rfl)) (hw _ (List.mem_of_getElem? (i := 2) rfl)) (by decide) (by decide)) qy13a qy13c (g := (mkF m 151 #[.val (.long qa), .second, .val (.int pl), .val (.int pk), .val (.long qb), .second, .val (.int pm), .val (.int pd), .val (.ref by1), .val (.long A2), .second, .val (.int L2), .val (.int C2), .val (.ref by3), .val (.int (1 : Int32)), .val (.ref bx_y8)] [(.ref bx_y8), (.ref by1)])) rfl (by rw [hml]; rfl) (Steps.refl _) (argsL := [(.ref bx_y8)]) (rest := []) (lenOf pd_4 rfl) rfl (by show 2 * 0 + _ ≤ _; exact Nat.le_of_eq rfl) (hb hby at_151) (fun _ _ => ⟨rfl, eqy12, (by decide : 3 + 0 ≤ _), (by decide : 7 + 0 ≤ _)⟩)
          dsimp only [Pt.U, Pt.locs, Pt.cells, Pt.slots] at Xy13 ly13 yy13 zy13 sty13 hQy13
          subst ly13 yy13 zy13
          obtain ⟨rfl, Nqy13, eqy13⟩ := hQy13
          have Ny13 := Fr.app Ny12 Nqy13
          refine Fin.step (fun _ k => sty13.trans k) ?_
          show Fin p e below s _ _ _ (Ty13.setTop (mkF m 154 #[.val (.long qa), .second, .val (.int pl), .val (.int pk), .val (.long qb), .second, .val (.int pm), .val (.int pd), .val (.ref by1), .val (.long A2), .second, .val (.int L2), .val (.int C2), .val (.ref by3), .val (.int (1 : Int32)), .val (.ref bx_y8)] [(.int (0 : Int32))]))
          refine Fin.step (fun _ => XS.ifNo Xy13.here hx rfl (hb hby at_154) rfl ((if0 _ _).trans (teq ((by decide) : ((0 : Int32) = (0 : Int32)))).2)) ?_
          show Fin p e below s _ _ _ (Ty13.setTop (mkF m 157 #[.val (.long qa), .second, .val (.int pl), .val (.int pk), .val (.long qb), .second, .val (.int pm), .val (.int pd), .val (.ref by1), .val (.long A2), .second, .val (.int L2), .val (.int C2), .val (.ref by3), .val (.int (1 : Int32)), .val (.ref bx_y8)] []))
          refine Fin.step (fun _ => XS.iconst Xy13.here hx rfl (hb hby at_157)) ?_
          show Fin p e below s _ _ _ (Ty13.setTop (mkF m 158 #[.val (.long qa), .second, .val (.int pl), .val (.int pk), .val (.long qb), .second, .val (.int pm), .val (.int pd), .val (.ref by1), .val (.long A2), .second, .val (.int L2), .val (.int C2), .val (.ref by3), .val (.int (1 : Int32)), .val (.ref bx_y8)] [(.int (1 : Int32))]))
          refine Fin.step (fun _ => XS.goto Xy13.here hx rfl (pc0 := 158) (pc' := 162) rfl (hb hby at_158) (by decide) (by decide)) ?_
          show Fin p e below s _ _ _ (Ty13.setTop (mkF m 162 #[.val (.long qa), .second, .val (.int pl), .val (.int pk), .val (.long qb), .second, .val (.int pm), .val (.int pd), .val (.ref by1), .val (.long A2), .second, .val (.int L2), .val (.int C2), .val (.ref by3), .val (.int (1 : Int32)), .val (.ref bx_y8)] [(.int (1 : Int32))]))
          refine Fin.retN Xy13 hx (t := .boolean) hret (by simp) hlk (hb hby at_162) (by decide) (by decide) ?_
          show Q0 Z qa pl pk qb pm pd ca h0 n0 _ Ty13.heap _
          rw [eqy13]
          exact ⟨rfl, Ny13, Ky8⟩
        · refine Fin.step (fun _ => XS.icmpYes Xy4.here hx rfl (pc0 := 88) (pc' := 95) rfl (hb hby at_88) rfl (feq (hcy7 : ¬ (pk = C2))).2 (by decide) (by decide)) ?_
          show Fin p e below s _ _ _ (Ty4.setTop (mkF m 95 #[.val (.long qa), .second, .val (.int pl), .val (.int pk), .val (.long qb), .second, .val (.int pm), .val (.int pd), .val (.ref by1), .val (.long A2), .second, .val (.int L2), .val (.int C2), .val (.ref by3), .unset, .unset] []))
          refine Fin.step (fun _ => XS.iconst Xy4.here hx rfl (hb hby at_95)) ?_
          show Fin p e below s _ _ _ (Ty4.setTop (mkF m 96 #[.val (.long qa), .second, .val (.int pl), .val (.int pk), .val (.long qb), .second, .val (.int pm), .val (.int pd), .val (.ref by1), .val (.long A2), .second, .val (.int L2), .val (.int C2), .val (.ref by3), .unset, .unset] [(.int (0 : Int32))]))
          refine Fin.step (fun _ => XS.istore Xy4.here hx rfl (hb hby at_96) rfl (l' := #[.val (.long qa), .second, .val (.int pl), .val (.int pk), .val (.long qb), .second, .val (.int pm), .val (.int pd), .val (.ref by1), .val (.long A2), .second, .val (.int L2), .val (.int C2), .val (.ref by3), .val (.int (0 : Int32)), .unset]) rfl) ?_
          show Fin p e below s _ _ _ (Ty4.setTop (mkF m 98 #[.val (.long qa), .second, .val (.int pl), .val (.int pk), .val (.long qb), .second, .val (.int pm), .val (.int pd), .val (.ref by1), .val (.long A2), .second, .val (.int L2), .val (.int C2), .val (.ref by3), .val (.int (0 : Int32)), .unset] []))
          refine Fin.step (fun _ => XS.iloadN Xy4.here hx rfl (hb hby at_98) rfl) ?_
          show Fin p e below s _ _ _ (Ty4.setTop (mkF m 99 #[.val (.long qa), .second, .val (.int pl), .val (.int pk), .val (.long qb), .second, .val (.int pm), .val (.int pd), .val (.ref by1), .val (.long A2), .second, .val (.int L2), .val (.int C2), .val (.ref by3), .val (.int (0 : Int32)), .unset] [(.int pl)]))
          obtain ⟨_, _, ⟨Ty14, Ly14, ky14, ny14⟩, -, Xy14, ⟨Lcy14, hQy14, ly14, yy14, zy14⟩, sty14⟩ := Jvm.LawKit.callS Xy4 hx (y := (⟨"java/lang/Integer", "valueOf", "(I)Ljava/lang/Integer;"⟩ : MethodName)) hown (mvT hZ (hw _ (List.mem_of_getElem? (i := 20) rfl))) (mvT hZ (hw _ (List.mem_of_getElem? (i := 21) rfl))) (mvT hZ (hw _ (List.mem_of_getElem? (i := 22) rfl))) (mvT hZ (hw _ (List.mem_of_getElem? (i := 23) rfl))) (by decide) (backOf (W := 0) (rm4 l Z a0 hw [] pl ca Ty4.heap n0 Zy4 (Sta_keep HS_java_lang_Integer_IntegerCache_high Ky4) (Sta_keep HS_java_lang_Integer_IntegerCache_cache Ky4) (own_ca_keep hca Ky4)) hZ (hw _ (List.mem_of_getElem? (i := 23) rfl)) (hw _ (List.mem_of_getElem? (i := 22) rfl)) (by decide) (by decide)) (g := (mkF m 99 #[.val (.long qa), .second, .val (.int pl), .val (.int pk), .val (.long qb), .second, .val (.int pm), .val (.int pd), .val (.ref by1), .val (.long A2), .second, .val (.int L2), .val (.int C2), .val (.ref by3), .val (.int (0 : Int32)), .unset] [(.int pl)])) rfl (by rw [hml]; rfl) (argsL := [(.int pl)]) (rest := []) (lenOf pd_3 rfl) rfl (by show 2 * 0 + _ ≤ _; exact Nat.le_of_eq rfl) (hb hby at_99) (fun _ _ => ⟨rfl, rfl, (by decide : 2 + 1 ≤ _), (by decide : 6 + 1 ≤ _)⟩)
          dsimp only [Pt.U, Pt.locs, Pt.cells, Pt.slots] at Xy14 ly14 yy14 zy14 sty14 hQy14
          subst ly14 yy14 zy14
          obtain ⟨bx_y14, rfl, Nqy14, Kcy14, fy14_0⟩ := hQy14
          have Ny14 := Fr.app Ny4 Nqy14
          have Zy14 : n0 ≤ Ty14.heap.size := Nat.le_trans Zy4 Kcy14.1
          have Ky14 : Keep h0 Ty14.heap [] := Ky4.trans Kcy14 all0
          refine Fin.step (sty14) ?_
          show Fin p e below s _ _ _ (Ty14.setTop (mkF m 102 #[.val (.long qa), .second, .val (.int pl), .val (.int pk), .val (.long qb), .second, .val (.int pm), .val (.int pd), .val (.ref by1), .val (.long A2), .second, .val (.int L2), .val (.int C2), .val (.ref by3), .val (.int (0 : Int32)), .unset] [(.ref bx_y14)]))
          refine Fin.step (fun _ => XS.astore Xy14.here hx rfl (hb hby at_102) rfl rfl (l' := #[.val (.long qa), .second, .val (.int pl), .val (.int pk), .val (.long qb), .second, .val (.int pm), .val (.int pd), .val (.ref by1), .val (.long A2), .second, .val (.int L2), .val (.int C2), .val (.ref by3), .val (.int (0 : Int32)), .val (.ref bx_y14)]) rfl) ?_
          show Fin p e below s _ _ _ (Ty14.setTop (mkF m 104 #[.val (.long qa), .second, .val (.int pl), .val (.int pk), .val (.long qb), .second, .val (.int pm), .val (.int pd), .val (.ref by1), .val (.long A2), .second, .val (.int L2), .val (.int C2), .val (.ref by3), .val (.int (0 : Int32)), .val (.ref bx_y14)] []))
          refine Fin.step (fun _ => XS.aload Xy14.here hx rfl (hb hby at_104) rfl rfl) ?_
          show Fin p e below s _ _ _ (Ty14.setTop (mkF m 106 #[.val (.long qa), .second, .val (.int pl), .val (.int pk), .val (.long qb), .second, .val (.int pm), .val (.int pd), .val (.ref by1), .val (.long A2), .second, .val (.int L2), .val (.int C2), .val (.ref by3), .val (.int (0 : Int32)), .val (.ref bx_y14)] [(.ref by1)]))
          refine Fin.step (fun _ => XS.aload Xy14.here hx rfl (hb hby at_106) rfl rfl) ?_
          show Fin p e below s _ _ _ (Ty14.setTop (mkF m 108 #[.val (.long qa), .second, .val (.int pl), .val (.int pk), .val (.long qb), .second, .val (.int pm), .val (.int pd), .val (.ref by1), .val (.long A2), .second, .val (.int L2), .val (.int C2), .val (.ref by3), .val (.int (0 : Int32)), .val (.ref bx_y14)] [(.ref by3), (.ref by1)]))
          obtain ⟨cqy15, kqy15, qy15a, qy15b, qy15c⟩ := isOf hZ rfl ((((Ay1.keep Kcy2).ext Ey3).keep Kcy4).keep Kcy14)
          obtain ⟨_, _, ⟨Ty15, Ly15, ky15, ny15⟩, -, Xy15, ⟨Lcy15, hQy15, ly15, yy15, zy15⟩, sty15⟩ := Xy14.virtualBack hx (y := (⟨"com/example/stavetree/stavetree/Block", "equals", "(Ljava/lang/Object;)Z"⟩ : MethodName)) (z := (⟨"com/example/stavetree/stavetree/Block", "equals", "(Ljava/lang/Object;)Z"⟩ : MethodName)) hown (mvT hZ (hw _ (List.mem_of_getElem? (i := 27) rfl))) (mvT hZ (hw _ (List.mem_of_getElem? (i := 28) rfl))) (notFace_of_selects (args := #[]) (mvT hZ (hw _ (List.mem_of_getElem? (i := 30) rfl)))) (mvT hZ (hw _ (List.mem_of_getElem? (i := 30) rfl))) (mvT hZ (hw _ (List.mem_of_getElem? (i := 29) rfl))) (by decide) (backOf (W := 0) (rme1 l Z a0 hw [] by1 by3 qa pl pk A2 L2 C2 Ty14.heap n0 Zy14 ((Ay3.keep Kcy4).keep Kcy14) (((fy2_0.ext Ey3).keep Kcy4 (ninS (Nat.ne_of_lt (Nat.lt_of_lt_of_le (Ay1.keep Kcy2).lt (Nat.le_of_eq gy3.symm))) nin0)).keep Kcy14 nin0) (((fy2_1.ext Ey3).keep Kcy4 (ninS (Nat.ne_of_lt (Nat.lt_of_lt_of_le (Ay1.keep Kcy2).lt (Nat.le_of_eq gy3.symm))) nin0)).keep Kcy14 nin0) (((fy2_2.ext Ey3).keep Kcy4 (ninS (Nat.ne_of_lt (Nat.lt_of_lt_of_le (Ay1.keep Kcy2).lt (Nat.le_of_eq gy3.symm))) nin0)).keep Kcy14 nin0) (fy4_0.keep Kcy14 nin0) (fy4_1.keep Kcy14 nin0) (fy4_2.keep Kcy14 nin0)) hZ (hw _ (List.mem_of_getElem? (i := 31) rfl)) (hw _ (List.mem_of_getElem? (i := 2) rfl)) (by decide) (by decide)) qy15a qy15c (g := (mkF m 108 #[.val (.long qa), .second, .val (.int pl), .val (.int pk), .val (.long qb), .second, .val (.int pm), .val (.int pd), .val (.ref by1), .val (.long A2), .second, .val (.int L2), .val (.int C2), .val (.ref by3), .val (.int (0 : Int32)), .val (.ref bx_y14)] [(.ref by3), (.ref by1)])) rfl (by rw [hml]; rfl) (Steps.refl _) (argsL := [(.ref by3)]) (rest := []) (lenOf pd_4 rfl) rfl (by show 2 * 0 + _ ≤ _; exact Nat.le_of_eq rfl) (hb hby at_108) (fun _ _ => ⟨rfl, rfl, (by decide : 3 + 0 ≤ _), (by decide : 7 + 0 ≤ _)⟩)
          dsimp only [Pt.U, Pt.locs, Pt.cells, Pt.slots] at Xy15 ly15 yy15 zy15 sty15 hQy15
          subst ly15 yy15 zy15
          obtain ⟨rfl, Nqy15, eqy15⟩ := hQy15
          have Ny15 := Fr.app Ny14 Nqy15
          refine Fin.step (fun _ k => sty15.trans k) ?_
          show Fin p e below s _ _ _ (Ty15.setTop (mkF m 111 #[.val (.long qa), .second, .val (.int pl), .val (.int pk), .val (.long qb), .second, .val (.int pm), .val (.int pd), .val (.ref by1), .val (.long A2), .second, .val (.int L2), .val (.int C2), .val (.ref by3), .val (.int (0 : Int32)), .val (.ref bx_y14)] [(.int (own_eq qa pl pk A2 L2 C2))]))
          refine Fin.step (fun _ => XS.iload Xy15.here hx rfl (hb hby at_111) rfl) ?_
          show Fin p e below s _ _ _ (Ty15.setTop (mkF m 113 #[.val (.long qa), .second, .val (.int pl), .val (.int pk), .val (.long qb), .second, .val (.int pm), .val (.int pd), .val (.ref by1), .val (.long A2), .second, .val (.int L2), .val (.int C2), .val (.ref by3), .val (.int (0 : Int32)), .val (.ref bx_y14)] [(.int (0 : Int32)), (.int (own_eq qa pl pk A2 L2 C2))]))
          refine Fin.step (fun _ => XS.icmpNo Xy15.here hx rfl (hb hby at_113) rfl (teq ((by rw [own_eq, if_pos hcy5, if_pos hcy6, if_neg hcy7]) : ((own_eq qa pl pk A2 L2 C2) = (0 : Int32)))).2) ?_
          show Fin p e below s _ _ _ (Ty15.setTop (mkF m 116 #[.val (.long qa), .second, .val (.int pl), .val (.int pk), .val (.long qb), .second, .val (.int pm), .val (.int pd), .val (.ref by1), .val (.long A2), .second, .val (.int L2), .val (.int C2), .val (.ref by3), .val (.int (0 : Int32)), .val (.ref bx_y14)] []))
          refine Fin.step (fun _ => XS.aload Xy15.here hx rfl (hb hby at_116) rfl rfl) ?_
          show Fin p e below s _ _ _ (Ty15.setTop (mkF m 118 #[.val (.long qa), .second, .val (.int pl), .val (.int pk), .val (.long qb), .second, .val (.int pm), .val (.int pd), .val (.ref by1), .val (.long A2), .second, .val (.int L2), .val (.int C2), .val (.ref by3), .val (.int (0 : Int32)), .val (.ref bx_y14)] [(.ref by3)]))
          refine Fin.step (fun _ => XS.aload Xy15.here hx rfl (hb hby at_118) rfl rfl) ?_
          show Fin p e below s _ _ _ (Ty15.setTop (mkF m 120 #[.val (.long qa), .second, .val (.int pl), .val (.int pk), .val (.long qb), .second, .val (.int pm), .val (.int pd), .val (.ref by1), .val (.long A2), .second, .val (.int L2), .val (.int C2), .val (.ref by3), .val (.int (0 : Int32)), .val (.ref bx_y14)] [(.ref by1), (.ref by3)]))
          obtain ⟨cqy16, kqy16, qy16a, qy16b, qy16c⟩ := isOf hZ eqy15 ((Ay3.keep Kcy4).keep Kcy14)
          obtain ⟨_, _, ⟨Ty16, Ly16, ky16, ny16⟩, -, Xy16, ⟨Lcy16, hQy16, ly16, yy16, zy16⟩, sty16⟩ := Xy15.virtualBack hx (y := (⟨"com/example/stavetree/stavetree/Block", "equals", "(Ljava/lang/Object;)Z"⟩ : MethodName)) (z := (⟨"com/example/stavetree/stavetree/Block", "equals", "(Ljava/lang/Object;)Z"⟩ : MethodName)) hown (mvT hZ (hw _ (List.mem_of_getElem? (i := 27) rfl))) (mvT hZ (hw _ (List.mem_of_getElem? (i := 28) rfl))) (notFace_of_selects (args := #[]) (mvT hZ (hw _ (List.mem_of_getElem? (i := 30) rfl)))) (mvT hZ (hw _ (List.mem_of_getElem? (i := 30) rfl))) (mvT hZ (hw _ (List.mem_of_getElem? (i := 29) rfl))) (by decide) (backOf (W := 0) (rme1 l Z a0 hw [] by3 by1 A2 L2 C2 qa pl pk Ty14.heap n0 Zy14 ((((Ay1.keep Kcy2).ext Ey3).keep Kcy4).keep Kcy14) (fy4_0.keep Kcy14 nin0) (fy4_1.keep Kcy14 nin0) (fy4_2.keep Kcy14 nin0) (((fy2_0.ext Ey3).keep Kcy4 (ninS (Nat.ne_of_lt (Nat.lt_of_lt_of_le (Ay1.keep Kcy2).lt (Nat.le_of_eq gy3.symm))) nin0)).keep Kcy14 nin0) (((fy2_1.ext Ey3).keep Kcy4 (ninS (Nat.ne_of_lt (Nat.lt_of_lt_of_le (Ay1.keep Kcy2).lt (Nat.le_of_eq gy3.symm))) nin0)).keep Kcy14 nin0) (((fy2_2.ext Ey3).keep Kcy4 (ninS (Nat.ne_of_lt (Nat.lt_of_lt_of_le (Ay1.keep Kcy2).lt (Nat.le_of_eq gy3.symm))) nin0)).keep Kcy14 nin0)) hZ (hw _ (List.mem_of_getElem? (i := 31) rfl)) (hw _ (List.mem_of_getElem? (i := 2) rfl)) (by decide) (by decide)) qy16a qy16c (g := (mkF m 120 #[.val (.long qa), .second, .val (.int pl), .val (.int pk), .val (.long qb), .second, .val (.int pm), .val (.int pd), .val (.ref by1), .val (.long A2), .second, .val (.int L2), .val (.int C2), .val (.ref by3), .val (.int (0 : Int32)), .val (.ref bx_y14)] [(.ref by1), (.ref by3)])) rfl (by rw [hml]; rfl) (Steps.refl _) (argsL := [(.ref by1)]) (rest := []) (lenOf pd_4 rfl) rfl (by show 2 * 0 + _ ≤ _; exact Nat.le_of_eq rfl) (hb hby at_120) (fun _ _ => ⟨rfl, eqy15, (by decide : 3 + 0 ≤ _), (by decide : 7 + 0 ≤ _)⟩)
          dsimp only [Pt.U, Pt.locs, Pt.cells, Pt.slots] at Xy16 ly16 yy16 zy16 sty16 hQy16
          subst ly16 yy16 zy16
          obtain ⟨rfl, Nqy16, eqy16⟩ := hQy16
          have Ny16 := Fr.app Ny15 Nqy16
          refine Fin.step (fun _ k => sty16.trans k) ?_
          show Fin p e below s _ _ _ (Ty16.setTop (mkF m 123 #[.val (.long qa), .second, .val (.int pl), .val (.int pk), .val (.long qb), .second, .val (.int pm), .val (.int pd), .val (.ref by1), .val (.long A2), .second, .val (.int L2), .val (.int C2), .val (.ref by3), .val (.int (0 : Int32)), .val (.ref bx_y14)] [(.int (own_eq A2 L2 C2 qa pl pk))]))
          refine Fin.step (fun _ => XS.iload Xy16.here hx rfl (hb hby at_123) rfl) ?_
          show Fin p e below s _ _ _ (Ty16.setTop (mkF m 125 #[.val (.long qa), .second, .val (.int pl), .val (.int pk), .val (.long qb), .second, .val (.int pm), .val (.int pd), .val (.ref by1), .val (.long A2), .second, .val (.int L2), .val (.int C2), .val (.ref by3), .val (.int (0 : Int32)), .val (.ref bx_y14)] [(.int (0 : Int32)), (.int (own_eq A2 L2 C2 qa pl pk))]))
          refine Fin.step (fun _ => XS.icmpNo Xy16.here hx rfl (hb hby at_125) rfl (teq ((by rw [own_eq_comm, own_eq, if_pos hcy5, if_pos hcy6, if_neg hcy7]) : ((own_eq A2 L2 C2 qa pl pk) = (0 : Int32)))).2) ?_
          show Fin p e below s _ _ _ (Ty16.setTop (mkF m 128 #[.val (.long qa), .second, .val (.int pl), .val (.int pk), .val (.long qb), .second, .val (.int pm), .val (.int pd), .val (.ref by1), .val (.long A2), .second, .val (.int L2), .val (.int C2), .val (.ref by3), .val (.int (0 : Int32)), .val (.ref bx_y14)] []))
          refine Fin.step (fun _ => XS.aload Xy16.here hx rfl (hb hby at_128) rfl rfl) ?_
          show Fin p e below s _ _ _ (Ty16.setTop (mkF m 130 #[.val (.long qa), .second, .val (.int pl), .val (.int pk), .val (.long qb), .second, .val (.int pm), .val (.int pd), .val (.ref by1), .val (.long A2), .second, .val (.int L2), .val (.int C2), .val (.ref by3), .val (.int (0 : Int32)), .val (.ref bx_y14)] [(.ref by1)]))
          refine Fin.step (fun _ => XS.aload Xy16.here hx rfl (hb hby at_130) rfl rfl) ?_
          show Fin p e below s _ _ _ (Ty16.setTop (mkF m 132 #[.val (.long qa), .second, .val (.int pl), .val (.int pk), .val (.long qb), .second, .val (.int pm), .val (.int pd), .val (.ref by1), .val (.long A2), .second, .val (.int L2), .val (.int C2), .val (.ref by3), .val (.int (0 : Int32)), .val (.ref bx_y14)] [(.ref by1), (.ref by1)]))
          obtain ⟨cqy17, kqy17, qy17a, qy17b, qy17c⟩ := isOf hZ eqy16 ((((Ay1.keep Kcy2).ext Ey3).keep Kcy4).keep Kcy14)
          obtain ⟨_, _, ⟨Ty17, Ly17, ky17, ny17⟩, -, Xy17, ⟨Lcy17, hQy17, ly17, yy17, zy17⟩, sty17⟩ := Xy16.virtualBack hx (y := (⟨"com/example/stavetree/stavetree/Block", "equals", "(Ljava/lang/Object;)Z"⟩ : MethodName)) (z := (⟨"com/example/stavetree/stavetree/Block", "equals", "(Ljava/lang/Object;)Z"⟩ : MethodName)) hown (mvT hZ (hw _ (List.mem_of_getElem? (i := 27) rfl))) (mvT hZ (hw _ (List.mem_of_getElem? (i := 28) rfl))) (notFace_of_selects (args := #[]) (mvT hZ (hw _ (List.mem_of_getElem? (i := 30) rfl)))) (mvT hZ (hw _ (List.mem_of_getElem? (i := 30) rfl))) (mvT hZ (hw _ (List.mem_of_getElem? (i := 29) rfl))) (by decide) (backOf (W := 0) (rme1 l Z a0 hw [] by1 by1 qa pl pk qa pl pk Ty14.heap n0 Zy14 ((((Ay1.keep Kcy2).ext Ey3).keep Kcy4).keep Kcy14) (((fy2_0.ext Ey3).keep Kcy4 (ninS (Nat.ne_of_lt (Nat.lt_of_lt_of_le (Ay1.keep Kcy2).lt (Nat.le_of_eq gy3.symm))) nin0)).keep Kcy14 nin0) (((fy2_1.ext Ey3).keep Kcy4 (ninS (Nat.ne_of_lt (Nat.lt_of_lt_of_le (Ay1.keep Kcy2).lt (Nat.le_of_eq gy3.symm))) nin0)).keep Kcy14 nin0) (((fy2_2.ext Ey3).keep Kcy4 (ninS (Nat.ne_of_lt (Nat.lt_of_lt_of_le (Ay1.keep Kcy2).lt (Nat.le_of_eq gy3.symm))) nin0)).keep Kcy14 nin0) (((fy2_0.ext Ey3).keep Kcy4 (ninS (Nat.ne_of_lt (Nat.lt_of_lt_of_le (Ay1.keep Kcy2).lt (Nat.le_of_eq gy3.symm))) nin0)).keep Kcy14 nin0) (((fy2_1.ext Ey3).keep Kcy4 (ninS (Nat.ne_of_lt (Nat.lt_of_lt_of_le (Ay1.keep Kcy2).lt (Nat.le_of_eq gy3.symm))) nin0)).keep Kcy14 nin0) (((fy2_2.ext Ey3).keep Kcy4 (ninS (Nat.ne_of_lt (Nat.lt_of_lt_of_le (Ay1.keep Kcy2).lt (Nat.le_of_eq gy3.symm))) nin0)).keep Kcy14 nin0)) hZ (hw _ (List.mem_of_getElem? (i := 31) rfl)) (hw _ (List.mem_of_getElem? (i := 2) rfl)) (by decide) (by decide)) qy17a qy17c (g := (mkF m 132 #[.val (.long qa), .second, .val (.int pl), .val (.int pk), .val (.long qb), .second, .val (.int pm), .val (.int pd), .val (.ref by1), .val (.long A2), .second, .val (.int L2), .val (.int C2), .val (.ref by3), .val (.int (0 : Int32)), .val (.ref bx_y14)] [(.ref by1), (.ref by1)])) rfl (by rw [hml]; rfl) (Steps.refl _) (argsL := [(.ref by1)]) (rest := []) (lenOf pd_4 rfl) rfl (by show 2 * 0 + _ ≤ _; exact Nat.le_of_eq rfl) (hb hby at_132) (fun _ _ => ⟨rfl, eqy16, (by decide : 3 + 0 ≤ _), (by decide : 7 + 0 ≤ _)⟩)
          dsimp only [Pt.U, Pt.locs, Pt.cells, Pt.slots] at Xy17 ly17 yy17 zy17 sty17 hQy17
          subst ly17 yy17 zy17
          obtain ⟨rfl, Nqy17, eqy17⟩ := hQy17
          have Ny17 := Fr.app Ny16 Nqy17
          refine Fin.step (fun _ k => sty17.trans k) ?_
          show Fin p e below s _ _ _ (Ty17.setTop (mkF m 135 #[.val (.long qa), .second, .val (.int pl), .val (.int pk), .val (.long qb), .second, .val (.int pm), .val (.int pd), .val (.ref by1), .val (.long A2), .second, .val (.int L2), .val (.int C2), .val (.ref by3), .val (.int (0 : Int32)), .val (.ref bx_y14)] [(.int (own_eq qa pl pk qa pl pk))]))
          refine Fin.step (fun _ => XS.ifNo Xy17.here hx rfl (hb hby at_135) rfl ((if0 _ _).trans (feq ((by rw [own_eq_self]; decide) : ¬ ((own_eq qa pl pk qa pl pk) = (0 : Int32)))).1)) ?_
          show Fin p e below s _ _ _ (Ty17.setTop (mkF m 138 #[.val (.long qa), .second, .val (.int pl), .val (.int pk), .val (.long qb), .second, .val (.int pm), .val (.int pd), .val (.ref by1), .val (.long A2), .second, .val (.int L2), .val (.int C2), .val (.ref by3), .val (.int (0 : Int32)), .val (.ref bx_y14)] []))
          refine Fin.step (fun _ => XS.aload Xy17.here hx rfl (hb hby at_138) rfl rfl) ?_
          show Fin p e below s _ _ _ (Ty17.setTop (mkF m 140 #[.val (.long qa), .second, .val (.int pl), .val (.int pk), .val (.long qb), .second, .val (.int pm), .val (.int pd), .val (.ref by1), .val (.long A2), .second, .val (.int L2), .val (.int C2), .val (.ref by3), .val (.int (0 : Int32)), .val (.ref bx_y14)] [(.ref by1)]))
          refine Fin.step (fun _ => XS.aconstNull Xy17.here hx rfl (hb hby at_140)) ?_
          show Fin p e below s _ _ _ (Ty17.setTop (mkF m 141 #[.val (.long qa), .second, .val (.int pl), .val (.int pk), .val (.long qb), .second, .val (.int pm), .val (.int pd), .val (.ref by1), .val (.long A2), .second, .val (.int L2), .val (.int C2), .val (.ref by3), .val (.int (0 : Int32)), .val (.ref bx_y14)] [.null, (.ref by1)]))
          obtain ⟨cqy18, kqy18, qy18a, qy18b, qy18c⟩ := isOf hZ eqy17 ((((Ay1.keep Kcy2).ext Ey3).keep Kcy4).keep Kcy14)
          obtain ⟨_, _, ⟨Ty18, Ly18, ky18, ny18⟩, -, Xy18, ⟨Lcy18, hQy18, ly18, yy18, zy18⟩, sty18⟩ := Xy17.virtualBack hx (y := (⟨"com/example/stavetree/stavetree/Block", "equals", "(Ljava/lang/Object;)Z"⟩ : MethodName)) (z := (⟨"com/example/stavetree/stavetree/Block", "equals", "(Ljava/lang/Object;)Z"⟩ : MethodName)) hown (mvT hZ (hw _ (List.mem_of_getElem? (i := 27) rfl))) (mvT hZ (hw _ (List.mem_of_getElem? (i := 28) rfl))) (notFace_of_selects (args := #[]) (mvT hZ (hw _ (List.mem_of_getElem? (i := 30) rfl)))) (mvT hZ (hw _ (List.mem_of_getElem? (i := 30) rfl))) (mvT hZ (hw _ (List.mem_of_getElem? (i := 29) rfl))) (by decide) (backOf (W := 0) (rme0 l Z a0 hw [] by1 Ty14.heap n0 Zy14 ) hZ (hw _ (List.mem_of_getElem? (i := 31) rfl)) (hw _ (List.mem_of_getElem? (i := 2) rfl)) (by decide) (by decide)) qy18a qy18c (g := (mkF m 141 #[.val (.long qa), .second, .val (.int pl), .val (.int pk), .val (.long qb), .second, .val (.int pm), .val (.int pd), .val (.ref by1), .val (.long A2), .second, .val (.int L2), .val (.int C2), .val (.ref by3), .val (.int (0 : Int32)), .val (.ref bx_y14)] [.null, (.ref by1)])) rfl (by rw [hml]; rfl) (Steps.refl _) (argsL := [.null]) (rest := []) (lenOf pd_4 rfl) rfl (by show 2 * 0 + _ ≤ _; exact Nat.le_of_eq rfl) (hb hby at_141) (fun _ _ => ⟨rfl, eqy17, (by decide : 3 + 0 ≤ _), (by decide : 7 + 0 ≤ _)⟩)
          dsimp only [Pt.U, Pt.locs, Pt.cells, Pt.slots] at Xy18 ly18 yy18 zy18 sty18 hQy18
          subst ly18 yy18 zy18
          obtain ⟨rfl, Nqy18, eqy18⟩ := hQy18
          have Ny18 := Fr.app Ny17 Nqy18
          refine Fin.step (fun _ k => sty18.trans k) ?_
          show Fin p e below s _ _ _ (Ty18.setTop (mkF m 144 #[.val (.long qa), .second, .val (.int pl), .val (.int pk), .val (.long qb), .second, .val (.int pm), .val (.int pd), .val (.ref by1), .val (.long A2), .second, .val (.int L2), .val (.int C2), .val (.ref by3), .val (.int (0 : Int32)), .val (.ref bx_y14)] [(.int (0 : Int32))]))
          refine Fin.step (fun _ => XS.ifNo Xy18.here hx rfl (hb hby at_144) rfl ((if0 _ _).trans (teq ((by decide) : ((0 : Int32) = (0 : Int32)))).2)) ?_
          show Fin p e below s _ _ _ (Ty18.setTop (mkF m 147 #[.val (.long qa), .second, .val (.int pl), .val (.int pk), .val (.long qb), .second, .val (.int pm), .val (.int pd), .val (.ref by1), .val (.long A2), .second, .val (.int L2), .val (.int C2), .val (.ref by3), .val (.int (0 : Int32)), .val (.ref bx_y14)] []))
          refine Fin.step (fun _ => XS.aload Xy18.here hx rfl (hb hby at_147) rfl rfl) ?_
          show Fin p e below s _ _ _ (Ty18.setTop (mkF m 149 #[.val (.long qa), .second, .val (.int pl), .val (.int pk), .val (.long qb), .second, .val (.int pm), .val (.int pd), .val (.ref by1), .val (.long A2), .second, .val (.int L2), .val (.int C2), .val (.ref by3), .val (.int (0 : Int32)), .val (.ref bx_y14)] [(.ref by1)]))
          refine Fin.step (fun _ => XS.aload Xy18.here hx rfl (hb hby at_149) rfl rfl) ?_
          show Fin p e below s _ _ _ (Ty18.setTop (mkF m 151 #[.val (.long qa), .second, .val (.int pl), .val (.int pk), .val (.long qb), .second, .val (.int pm), .val (.int pd), .val (.ref by1), .val (.long A2), .second, .val (.int L2), .val (.int C2), .val (.ref by3), .val (.int (0 : Int32)), .val (.ref bx_y14)] [(.ref bx_y14), (.ref by1)]))
          obtain ⟨cqy19, kqy19, qy19a, qy19b, qy19c⟩ := isOf hZ eqy18 ((((Ay1.keep Kcy2).ext Ey3).keep Kcy4).keep Kcy14)
          obtain ⟨_, _, ⟨Ty19, Ly19, ky19, ny19⟩, -, Xy19, ⟨Lcy19, hQy19, ly19, yy19, zy19⟩, sty19⟩ := Xy18.virtualBack hx (y := (⟨"com/example/stavetree/stavetree/Block", "equals", "(Ljava/lang/Object;)Z"⟩ : MethodName)) (z := (⟨"com/example/stavetree/stavetree/Block", "equals", "(Ljava/lang/Object;)Z"⟩ : MethodName)) hown (mvT hZ (hw _ (List.mem_of_getElem? (i := 27) rfl))) (mvT hZ (hw _ (List.mem_of_getElem? (i := 28) rfl))) (notFace_of_selects (args := #[]) (mvT hZ (hw _ (List.mem_of_getElem? (i := 30) rfl)))) (mvT hZ (hw _ (List.mem_of_getElem? (i := 30) rfl))) (mvT hZ (hw _ (List.mem_of_getElem? (i := 29) rfl))) (by decide) (backOf (W := 0) (rmei l Z a0 hw [] by1 bx_y14 Ty14.heap n0 Zy14 fy14_0) hZ (hw _ (List.mem_of_getElem? (i := 31) rfl)) (hw _ (List.mem_of_getElem? (i := 2) rfl)) (by decide) (by decide)) qy19a qy19c (g := (mkF m 151 #[.val (.long qa), .second, .val (.int pl), .val (.int pk), .val (.long qb), .second, .val (.int pm), .val (.int pd), .val (.ref by1), .val (.long A2), .second, .val (.int L2), .val (.int C2), .val (.ref by3), .val (.int (0 : Int32)), .val (.ref bx_y14)] [(.ref bx_y14), (.ref by1)])) rfl (by rw [hml]; rfl) (Steps.refl _) (argsL := [(.ref bx_y14)]) (rest := []) (lenOf pd_4 rfl) rfl (by show 2 * 0 + _ ≤ _; exact Nat.le_of_eq rfl) (hb hby at_151) (fun _ _ => ⟨rfl, eqy18, (by decide : 3 + 0 ≤ _), (by decide : 7 + 0 ≤ _)⟩)
          dsimp only [Pt.U, Pt.locs, Pt.cells, Pt.slots] at Xy19 ly19 yy19 zy19 sty19 hQy19
          subst ly19 yy19 zy19
          obtain ⟨rfl, Nqy19, eqy19⟩ := hQy19
          have Ny19 := Fr.app Ny18 Nqy19
          refine Fin.step (fun _ k => sty19.trans k) ?_
          show Fin p e below s _ _ _ (Ty19.setTop (mkF m 154 #[.val (.long qa), .second, .val (.int pl), .val (.int pk), .val (.long qb), .second, .val (.int pm), .val (.int pd), .val (.ref by1), .val (.long A2), .second, .val (.int L2), .val (.int C2), .val (.ref by3), .val (.int (0 : Int32)), .val (.ref bx_y14)] [(.int (0 : Int32))]))
          refine Fin.step (fun _ => XS.ifNo Xy19.here hx rfl (hb hby at_154) rfl ((if0 _ _).trans (teq ((by decide) : ((0 : Int32) = (0 : Int32)))).2)) ?_
          show Fin p e below s _ _ _ (Ty19.setTop (mkF m 157 #[.val (.long qa), .second, .val (.int pl), .val (.int pk), .val (.long qb), .second, .val (.int pm), .val (.int pd), .val (.ref by1), .val (.long A2), .second, .val (.int L2), .val (.int C2), .val (.ref by3), .val (.int (0 : Int32)), .val (.ref bx_y14)] []))
          refine Fin.step (fun _ => XS.iconst Xy19.here hx rfl (hb hby at_157)) ?_
          show Fin p e below s _ _ _ (Ty19.setTop (mkF m 158 #[.val (.long qa), .second, .val (.int pl), .val (.int pk), .val (.long qb), .second, .val (.int pm), .val (.int pd), .val (.ref by1), .val (.long A2), .second, .val (.int L2), .val (.int C2), .val (.ref by3), .val (.int (0 : Int32)), .val (.ref bx_y14)] [(.int (1 : Int32))]))
          refine Fin.step (fun _ => XS.goto Xy19.here hx rfl (pc0 := 158) (pc' := 162) rfl (hb hby at_158) (by decide) (by decide)) ?_
          show Fin p e below s _ _ _ (Ty19.setTop (mkF m 162 #[.val (.long qa), .second, .val (.int pl), .val (.int pk), .val (.long qb), .second, .val (.int pm), .val (.int pd), .val (.ref by1), .val (.long A2), .second, .val (.int L2), .val (.int C2), .val (.ref by3), .val (.int (0 : Int32)), .val (.ref bx_y14)] [(.int (1 : Int32))]))
          refine Fin.retN Xy19 hx (t := .boolean) hret (by simp) hlk (hb hby at_162) (by decide) (by decide) ?_
          show Q0 Z qa pl pk qb pm pd ca h0 n0 _ Ty19.heap _
          rw [eqy19]
          exact ⟨rfl, Ny19, Ky14⟩
      · refine Fin.step (fun _ => XS.icmpYes Xy4.here hx rfl (pc0 := 82) (pc' := 95) rfl (hb hby at_82) rfl (feq (hcy6 : ¬ (pl = L2))).2 (by decide) (by decide)) ?_
        show Fin p e below s _ _ _ (Ty4.setTop (mkF m 95 #[.val (.long qa), .second, .val (.int pl), .val (.int pk), .val (.long qb), .second, .val (.int pm), .val (.int pd), .val (.ref by1), .val (.long A2), .second, .val (.int L2), .val (.int C2), .val (.ref by3), .unset, .unset] []))
        refine Fin.step (fun _ => XS.iconst Xy4.here hx rfl (hb hby at_95)) ?_
        show Fin p e below s _ _ _ (Ty4.setTop (mkF m 96 #[.val (.long qa), .second, .val (.int pl), .val (.int pk), .val (.long qb), .second, .val (.int pm), .val (.int pd), .val (.ref by1), .val (.long A2), .second, .val (.int L2), .val (.int C2), .val (.ref by3), .unset, .unset] [(.int (0 : Int32))]))
        refine Fin.step (fun _ => XS.istore Xy4.here hx rfl (hb hby at_96) rfl (l' := #[.val (.long qa), .second, .val (.int pl), .val (.int pk), .val (.long qb), .second, .val (.int pm), .val (.int pd), .val (.ref by1), .val (.long A2), .second, .val (.int L2), .val (.int C2), .val (.ref by3), .val (.int (0 : Int32)), .unset]) rfl) ?_
        show Fin p e below s _ _ _ (Ty4.setTop (mkF m 98 #[.val (.long qa), .second, .val (.int pl), .val (.int pk), .val (.long qb), .second, .val (.int pm), .val (.int pd), .val (.ref by1), .val (.long A2), .second, .val (.int L2), .val (.int C2), .val (.ref by3), .val (.int (0 : Int32)), .unset] []))
        refine Fin.step (fun _ => XS.iloadN Xy4.here hx rfl (hb hby at_98) rfl) ?_
        show Fin p e below s _ _ _ (Ty4.setTop (mkF m 99 #[.val (.long qa), .second, .val (.int pl), .val (.int pk), .val (.long qb), .second, .val (.int pm), .val (.int pd), .val (.ref by1), .val (.long A2), .second, .val (.int L2), .val (.int C2), .val (.ref by3), .val (.int (0 : Int32)), .unset] [(.int pl)]))
        obtain ⟨_, _, ⟨Ty20, Ly20, ky20, ny20⟩, -, Xy20, ⟨Lcy20, hQy20, ly20, yy20, zy20⟩, sty20⟩ := Jvm.LawKit.callS Xy4 hx (y := (⟨"java/lang/Integer", "valueOf", "(I)Ljava/lang/Integer;"⟩ : MethodName)) hown (mvT hZ (hw _ (List.mem_of_getElem? (i := 20) rfl))) (mvT hZ (hw _ (List.mem_of_getElem? (i := 21) rfl))) (mvT hZ (hw _ (List.mem_of_getElem? (i := 22) rfl))) (mvT hZ (hw _ (List.mem_of_getElem? (i := 23) rfl))) (by decide) (backOf (W := 0) (rm4 l Z a0 hw [] pl ca Ty4.heap n0 Zy4 (Sta_keep HS_java_lang_Integer_IntegerCache_high Ky4) (Sta_keep HS_java_lang_Integer_IntegerCache_cache Ky4) (own_ca_keep hca Ky4)) hZ (hw _ (List.mem_of_getElem? (i := 23) rfl)) (hw _ (List.mem_of_getElem? (i := 22) rfl)) (by decide) (by decide)) (g := (mkF m 99 #[.val (.long qa), .second, .val (.int pl), .val (.int pk), .val (.long qb), .second, .val (.int pm), .val (.int pd), .val (.ref by1), .val (.long A2), .second, .val (.int L2), .val (.int C2), .val (.ref by3), .val (.int (0 : Int32)), .unset] [(.int pl)])) rfl (by rw [hml]; rfl) (argsL := [(.int pl)]) (rest := []) (lenOf pd_3 rfl) rfl (by show 2 * 0 + _ ≤ _; exact Nat.le_of_eq rfl) (hb hby at_99) (fun _ _ => ⟨rfl, rfl, (by decide : 2 + 1 ≤ _), (by decide : 6 + 1 ≤ _)⟩)
        dsimp only [Pt.U, Pt.locs, Pt.cells, Pt.slots] at Xy20 ly20 yy20 zy20 sty20 hQy20
        subst ly20 yy20 zy20
        obtain ⟨bx_y20, rfl, Nqy20, Kcy20, fy20_0⟩ := hQy20
        have Ny20 := Fr.app Ny4 Nqy20
        have Zy20 : n0 ≤ Ty20.heap.size := Nat.le_trans Zy4 Kcy20.1
        have Ky20 : Keep h0 Ty20.heap [] := Ky4.trans Kcy20 all0
        refine Fin.step (sty20) ?_
        show Fin p e below s _ _ _ (Ty20.setTop (mkF m 102 #[.val (.long qa), .second, .val (.int pl), .val (.int pk), .val (.long qb), .second, .val (.int pm), .val (.int pd), .val (.ref by1), .val (.long A2), .second, .val (.int L2), .val (.int C2), .val (.ref by3), .val (.int (0 : Int32)), .unset] [(.ref bx_y20)]))
        refine Fin.step (fun _ => XS.astore Xy20.here hx rfl (hb hby at_102) rfl rfl (l' := #[.val (.long qa), .second, .val (.int pl), .val (.int pk), .val (.long qb), .second, .val (.int pm), .val (.int pd), .val (.ref by1), .val (.long A2), .second, .val (.int L2), .val (.int C2), .val (.ref by3), .val (.int (0 : Int32)), .val (.ref bx_y20)]) rfl) ?_
        show Fin p e below s _ _ _ (Ty20.setTop (mkF m 104 #[.val (.long qa), .second, .val (.int pl), .val (.int pk), .val (.long qb), .second, .val (.int pm), .val (.int pd), .val (.ref by1), .val (.long A2), .second, .val (.int L2), .val (.int C2), .val (.ref by3), .val (.int (0 : Int32)), .val (.ref bx_y20)] []))
        refine Fin.step (fun _ => XS.aload Xy20.here hx rfl (hb hby at_104) rfl rfl) ?_
        show Fin p e below s _ _ _ (Ty20.setTop (mkF m 106 #[.val (.long qa), .second, .val (.int pl), .val (.int pk), .val (.long qb), .second, .val (.int pm), .val (.int pd), .val (.ref by1), .val (.long A2), .second, .val (.int L2), .val (.int C2), .val (.ref by3), .val (.int (0 : Int32)), .val (.ref bx_y20)] [(.ref by1)]))
        refine Fin.step (fun _ => XS.aload Xy20.here hx rfl (hb hby at_106) rfl rfl) ?_
        show Fin p e below s _ _ _ (Ty20.setTop (mkF m 108 #[.val (.long qa), .second, .val (.int pl), .val (.int pk), .val (.long qb), .second, .val (.int pm), .val (.int pd), .val (.ref by1), .val (.long A2), .second, .val (.int L2), .val (.int C2), .val (.ref by3), .val (.int (0 : Int32)), .val (.ref bx_y20)] [(.ref by3), (.ref by1)]))
        obtain ⟨cqy21, kqy21, qy21a, qy21b, qy21c⟩ := isOf hZ rfl ((((Ay1.keep Kcy2).ext Ey3).keep Kcy4).keep Kcy20)
        obtain ⟨_, _, ⟨Ty21, Ly21, ky21, ny21⟩, -, Xy21, ⟨Lcy21, hQy21, ly21, yy21, zy21⟩, sty21⟩ := Xy20.virtualBack hx (y := (⟨"com/example/stavetree/stavetree/Block", "equals", "(Ljava/lang/Object;)Z"⟩ : MethodName)) (z := (⟨"com/example/stavetree/stavetree/Block", "equals", "(Ljava/lang/Object;)Z"⟩ : MethodName)) hown (mvT hZ (hw _ (List.mem_of_getElem? (i := 27) rfl))) (mvT hZ (hw _ (List.mem_of_getElem? (i := 28) rfl))) (notFace_of_selects (args := #[]) (mvT hZ (hw _ (List.mem_of_getElem? (i := 30) rfl)))) (mvT hZ (hw _ (List.mem_of_getElem? (i := 30) rfl))) (mvT hZ (hw _ (List.mem_of_getElem? (i := 29) rfl))) (by decide) (backOf (W := 0) (rme1 l Z a0 hw [] by1 by3 qa pl pk A2 L2 C2 Ty20.heap n0 Zy20 ((Ay3.keep Kcy4).keep Kcy20) (((fy2_0.ext Ey3).keep Kcy4 (ninS (Nat.ne_of_lt (Nat.lt_of_lt_of_le (Ay1.keep Kcy2).lt (Nat.le_of_eq gy3.symm))) nin0)).keep Kcy20 nin0) (((fy2_1.ext Ey3).keep Kcy4 (ninS (Nat.ne_of_lt (Nat.lt_of_lt_of_le (Ay1.keep Kcy2).lt (Nat.le_of_eq gy3.symm))) nin0)).keep Kcy20 nin0) (((fy2_2.ext Ey3).keep Kcy4 (ninS (Nat.ne_of_lt (Nat.lt_of_lt_of_le (Ay1.keep Kcy2).lt (Nat.le_of_eq gy3.symm))) nin0)).keep Kcy20 nin0) (fy4_0.keep Kcy20 nin0) (fy4_1.keep Kcy20 nin0) (fy4_2.keep Kcy20 nin0)) hZ (hw _ (List.mem_of_getElem? (i := 31) rfl)) (hw _ (List.mem_of_getElem? (i := 2) rfl)) (by decide) (by decide)) qy21a qy21c (g := (mkF m 108 #[.val (.long qa), .second, .val (.int pl), .val (.int pk), .val (.long qb), .second, .val (.int pm), .val (.int pd), .val (.ref by1), .val (.long A2), .second, .val (.int L2), .val (.int C2), .val (.ref by3), .val (.int (0 : Int32)), .val (.ref bx_y20)] [(.ref by3), (.ref by1)])) rfl (by rw [hml]; rfl) (Steps.refl _) (argsL := [(.ref by3)]) (rest := []) (lenOf pd_4 rfl) rfl (by show 2 * 0 + _ ≤ _; exact Nat.le_of_eq rfl) (hb hby at_108) (fun _ _ => ⟨rfl, rfl, (by decide : 3 + 0 ≤ _), (by decide : 7 + 0 ≤ _)⟩)
        dsimp only [Pt.U, Pt.locs, Pt.cells, Pt.slots] at Xy21 ly21 yy21 zy21 sty21 hQy21
        subst ly21 yy21 zy21
        obtain ⟨rfl, Nqy21, eqy21⟩ := hQy21
        have Ny21 := Fr.app Ny20 Nqy21
        refine Fin.step (fun _ k => sty21.trans k) ?_
        show Fin p e below s _ _ _ (Ty21.setTop (mkF m 111 #[.val (.long qa), .second, .val (.int pl), .val (.int pk), .val (.long qb), .second, .val (.int pm), .val (.int pd), .val (.ref by1), .val (.long A2), .second, .val (.int L2), .val (.int C2), .val (.ref by3), .val (.int (0 : Int32)), .val (.ref bx_y20)] [(.int (own_eq qa pl pk A2 L2 C2))]))
        refine Fin.step (fun _ => XS.iload Xy21.here hx rfl (hb hby at_111) rfl) ?_
        show Fin p e below s _ _ _ (Ty21.setTop (mkF m 113 #[.val (.long qa), .second, .val (.int pl), .val (.int pk), .val (.long qb), .second, .val (.int pm), .val (.int pd), .val (.ref by1), .val (.long A2), .second, .val (.int L2), .val (.int C2), .val (.ref by3), .val (.int (0 : Int32)), .val (.ref bx_y20)] [(.int (0 : Int32)), (.int (own_eq qa pl pk A2 L2 C2))]))
        refine Fin.step (fun _ => XS.icmpNo Xy21.here hx rfl (hb hby at_113) rfl (teq ((by rw [own_eq, if_pos hcy5, if_neg hcy6]) : ((own_eq qa pl pk A2 L2 C2) = (0 : Int32)))).2) ?_
        show Fin p e below s _ _ _ (Ty21.setTop (mkF m 116 #[.val (.long qa), .second, .val (.int pl), .val (.int pk), .val (.long qb), .second, .val (.int pm), .val (.int pd), .val (.ref by1), .val (.long A2), .second, .val (.int L2), .val (.int C2), .val (.ref by3), .val (.int (0 : Int32)), .val (.ref bx_y20)] []))
        refine Fin.step (fun _ => XS.aload Xy21.here hx rfl (hb hby at_116) rfl rfl) ?_
        show Fin p e below s _ _ _ (Ty21.setTop (mkF m 118 #[.val (.long qa), .second, .val (.int pl), .val (.int pk), .val (.long qb), .second, .val (.int pm), .val (.int pd), .val (.ref by1), .val (.long A2), .second, .val (.int L2), .val (.int C2), .val (.ref by3), .val (.int (0 : Int32)), .val (.ref bx_y20)] [(.ref by3)]))
        refine Fin.step (fun _ => XS.aload Xy21.here hx rfl (hb hby at_118) rfl rfl) ?_
        show Fin p e below s _ _ _ (Ty21.setTop (mkF m 120 #[.val (.long qa), .second, .val (.int pl), .val (.int pk), .val (.long qb), .second, .val (.int pm), .val (.int pd), .val (.ref by1), .val (.long A2), .second, .val (.int L2), .val (.int C2), .val (.ref by3), .val (.int (0 : Int32)), .val (.ref bx_y20)] [(.ref by1), (.ref by3)]))
        obtain ⟨cqy22, kqy22, qy22a, qy22b, qy22c⟩ := isOf hZ eqy21 ((Ay3.keep Kcy4).keep Kcy20)
        obtain ⟨_, _, ⟨Ty22, Ly22, ky22, ny22⟩, -, Xy22, ⟨Lcy22, hQy22, ly22, yy22, zy22⟩, sty22⟩ := Xy21.virtualBack hx (y := (⟨"com/example/stavetree/stavetree/Block", "equals", "(Ljava/lang/Object;)Z"⟩ : MethodName)) (z := (⟨"com/example/stavetree/stavetree/Block", "equals", "(Ljava/lang/Object;)Z"⟩ : MethodName)) hown (mvT hZ (hw _ (List.mem_of_getElem? (i := 27) rfl))) (mvT hZ (hw _ (List.mem_of_getElem? (i := 28) rfl))) (notFace_of_selects (args := #[]) (mvT hZ (hw _ (List.mem_of_getElem? (i := 30) rfl)))) (mvT hZ (hw _ (List.mem_of_getElem? (i := 30) rfl))) (mvT hZ (hw _ (List.mem_of_getElem? (i := 29) rfl))) (by decide) (backOf (W := 0) (rme1 l Z a0 hw [] by3 by1 A2 L2 C2 qa pl pk Ty20.heap n0 Zy20 ((((Ay1.keep Kcy2).ext Ey3).keep Kcy4).keep Kcy20) (fy4_0.keep Kcy20 nin0) (fy4_1.keep Kcy20 nin0) (fy4_2.keep Kcy20 nin0) (((fy2_0.ext Ey3).keep Kcy4 (ninS (Nat.ne_of_lt (Nat.lt_of_lt_of_le (Ay1.keep Kcy2).lt (Nat.le_of_eq gy3.symm))) nin0)).keep Kcy20 nin0) (((fy2_1.ext Ey3).keep Kcy4 (ninS (Nat.ne_of_lt (Nat.lt_of_lt_of_le (Ay1.keep Kcy2).lt (Nat.le_of_eq gy3.symm))) nin0)).keep Kcy20 nin0) (((fy2_2.ext Ey3).keep Kcy4 (ninS (Nat.ne_of_lt (Nat.lt_of_lt_of_le (Ay1.keep Kcy2).lt (Nat.le_of_eq gy3.symm))) nin0)).keep Kcy20 nin0)) hZ (hw _ (List.mem_of_getElem? (i := 31) rfl)) (hw _ (List.mem_of_getElem? (i := 2) rfl)) (by decide) (by decide)) qy22a qy22c (g := (mkF m 120 #[.val (.long qa), .second, .val (.int pl), .val (.int pk), .val (.long qb), .second, .val (.int pm), .val (.int pd), .val (.ref by1), .val (.long A2), .second, .val (.int L2), .val (.int C2), .val (.ref by3), .val (.int (0 : Int32)), .val (.ref bx_y20)] [(.ref by1), (.ref by3)])) rfl (by rw [hml]; rfl) (Steps.refl _) (argsL := [(.ref by1)]) (rest := []) (lenOf pd_4 rfl) rfl (by show 2 * 0 + _ ≤ _; exact Nat.le_of_eq rfl) (hb hby at_120) (fun _ _ => ⟨rfl, eqy21, (by decide : 3 + 0 ≤ _), (by decide : 7 + 0 ≤ _)⟩)
        dsimp only [Pt.U, Pt.locs, Pt.cells, Pt.slots] at Xy22 ly22 yy22 zy22 sty22 hQy22
        subst ly22 yy22 zy22
        obtain ⟨rfl, Nqy22, eqy22⟩ := hQy22
        have Ny22 := Fr.app Ny21 Nqy22
        refine Fin.step (fun _ k => sty22.trans k) ?_
        show Fin p e below s _ _ _ (Ty22.setTop (mkF m 123 #[.val (.long qa), .second, .val (.int pl), .val (.int pk), .val (.long qb), .second, .val (.int pm), .val (.int pd), .val (.ref by1), .val (.long A2), .second, .val (.int L2), .val (.int C2), .val (.ref by3), .val (.int (0 : Int32)), .val (.ref bx_y20)] [(.int (own_eq A2 L2 C2 qa pl pk))]))
        refine Fin.step (fun _ => XS.iload Xy22.here hx rfl (hb hby at_123) rfl) ?_
        show Fin p e below s _ _ _ (Ty22.setTop (mkF m 125 #[.val (.long qa), .second, .val (.int pl), .val (.int pk), .val (.long qb), .second, .val (.int pm), .val (.int pd), .val (.ref by1), .val (.long A2), .second, .val (.int L2), .val (.int C2), .val (.ref by3), .val (.int (0 : Int32)), .val (.ref bx_y20)] [(.int (0 : Int32)), (.int (own_eq A2 L2 C2 qa pl pk))]))
        refine Fin.step (fun _ => XS.icmpNo Xy22.here hx rfl (hb hby at_125) rfl (teq ((by rw [own_eq_comm, own_eq, if_pos hcy5, if_neg hcy6]) : ((own_eq A2 L2 C2 qa pl pk) = (0 : Int32)))).2) ?_
        show Fin p e below s _ _ _ (Ty22.setTop (mkF m 128 #[.val (.long qa), .second, .val (.int pl), .val (.int pk), .val (.long qb), .second, .val (.int pm), .val (.int pd), .val (.ref by1), .val (.long A2), .second, .val (.int L2), .val (.int C2), .val (.ref by3), .val (.int (0 : Int32)), .val (.ref bx_y20)] []))
        refine Fin.step (fun _ => XS.aload Xy22.here hx rfl (hb hby at_128) rfl rfl) ?_
        show Fin p e below s _ _ _ (Ty22.setTop (mkF m 130 #[.val (.long qa), .second, .val (.int pl), .val (.int pk), .val (.long qb), .second, .val (.int pm), .val (.int pd), .val (.ref by1), .val (.long A2), .second, .val (.int L2), .val (.int C2), .val (.ref by3), .val (.int (0 : Int32)), .val (.ref bx_y20)] [(.ref by1)]))
        refine Fin.step (fun _ => XS.aload Xy22.here hx rfl (hb hby at_130) rfl rfl) ?_
        show Fin p e below s _ _ _ (Ty22.setTop (mkF m 132 #[.val (.long qa), .second, .val (.int pl), .val (.int pk), .val (.long qb), .second, .val (.int pm), .val (.int pd), .val (.ref by1), .val (.long A2), .second, .val (.int L2), .val (.int C2), .val (.ref by3), .val (.int (0 : Int32)), .val (.ref bx_y20)] [(.ref by1), (.ref by1)]))
        obtain ⟨cqy23, kqy23, qy23a, qy23b, qy23c⟩ := isOf hZ eqy22 ((((Ay1.keep Kcy2).ext Ey3).keep Kcy4).keep Kcy20)
        obtain ⟨_, _, ⟨Ty23, Ly23, ky23, ny23⟩, -, Xy23, ⟨Lcy23, hQy23, ly23, yy23, zy23⟩, sty23⟩ := Xy22.virtualBack hx (y := (⟨"com/example/stavetree/stavetree/Block", "equals", "(Ljava/lang/Object;)Z"⟩ : MethodName)) (z := (⟨"com/example/stavetree/stavetree/Block", "equals", "(Ljava/lang/Object;)Z"⟩ : MethodName)) hown (mvT hZ (hw _ (List.mem_of_getElem? (i := 27) rfl))) (mvT hZ (hw _ (List.mem_of_getElem? (i := 28) rfl))) (notFace_of_selects (args := #[]) (mvT hZ (hw _ (List.mem_of_getElem? (i := 30) rfl)))) (mvT hZ (hw _ (List.mem_of_getElem? (i := 30) rfl))) (mvT hZ (hw _ (List.mem_of_getElem? (i := 29) rfl))) (by decide) (backOf (W := 0) (rme1 l Z a0 hw [] by1 by1 qa pl pk qa pl pk Ty20.heap n0 Zy20 ((((Ay1.keep Kcy2).ext Ey3).keep Kcy4).keep Kcy20) (((fy2_0.ext Ey3).keep Kcy4 (ninS (Nat.ne_of_lt (Nat.lt_of_lt_of_le (Ay1.keep Kcy2).lt (Nat.le_of_eq gy3.symm))) nin0)).keep Kcy20 nin0) (((fy2_1.ext Ey3).keep Kcy4 (ninS (Nat.ne_of_lt (Nat.lt_of_lt_of_le (Ay1.keep Kcy2).lt (Nat.le_of_eq gy3.symm))) nin0)).keep Kcy20 nin0) (((fy2_2.ext Ey3).keep Kcy4 (ninS (Nat.ne_of_lt (Nat.lt_of_lt_of_le (Ay1.keep Kcy2).lt (Nat.le_of_eq gy3.symm))) nin0)).keep Kcy20 nin0) (((fy2_0.ext Ey3).keep Kcy4 (ninS (Nat.ne_of_lt (Nat.lt_of_lt_of_le (Ay1.keep Kcy2).lt (Nat.le_of_eq gy3.symm))) nin0)).keep Kcy20 nin0) (((fy2_1.ext Ey3).keep Kcy4 (ninS (Nat.ne_of_lt (Nat.lt_of_lt_of_le (Ay1.keep Kcy2).lt (Nat.le_of_eq gy3.symm))) nin0)).keep Kcy20 nin0) (((fy2_2.ext Ey3).keep Kcy4 (ninS (Nat.ne_of_lt (Nat.lt_of_lt_of_le (Ay1.keep Kcy2).lt (Nat.le_of_eq gy3.symm))) nin0)).keep Kcy20 nin0)) hZ (hw _ (List.mem_of_getElem? (i := 31) rfl)) (hw _ (List.mem_of_getElem? (i := 2) rfl)) (by decide) (by decide)) qy23a qy23c (g := (mkF m 132 #[.val (.long qa), .second, .val (.int pl), .val (.int pk), .val (.long qb), .second, .val (.int pm), .val (.int pd), .val (.ref by1), .val (.long A2), .second, .val (.int L2), .val (.int C2), .val (.ref by3), .val (.int (0 : Int32)), .val (.ref bx_y20)] [(.ref by1), (.ref by1)])) rfl (by rw [hml]; rfl) (Steps.refl _) (argsL := [(.ref by1)]) (rest := []) (lenOf pd_4 rfl) rfl (by show 2 * 0 + _ ≤ _; exact Nat.le_of_eq rfl) (hb hby at_132) (fun _ _ => ⟨rfl, eqy22, (by decide : 3 + 0 ≤ _), (by decide : 7 + 0 ≤ _)⟩)
        dsimp only [Pt.U, Pt.locs, Pt.cells, Pt.slots] at Xy23 ly23 yy23 zy23 sty23 hQy23
        subst ly23 yy23 zy23
        obtain ⟨rfl, Nqy23, eqy23⟩ := hQy23
        have Ny23 := Fr.app Ny22 Nqy23
        refine Fin.step (fun _ k => sty23.trans k) ?_
        show Fin p e below s _ _ _ (Ty23.setTop (mkF m 135 #[.val (.long qa), .second, .val (.int pl), .val (.int pk), .val (.long qb), .second, .val (.int pm), .val (.int pd), .val (.ref by1), .val (.long A2), .second, .val (.int L2), .val (.int C2), .val (.ref by3), .val (.int (0 : Int32)), .val (.ref bx_y20)] [(.int (own_eq qa pl pk qa pl pk))]))
        refine Fin.step (fun _ => XS.ifNo Xy23.here hx rfl (hb hby at_135) rfl ((if0 _ _).trans (feq ((by rw [own_eq_self]; decide) : ¬ ((own_eq qa pl pk qa pl pk) = (0 : Int32)))).1)) ?_
        show Fin p e below s _ _ _ (Ty23.setTop (mkF m 138 #[.val (.long qa), .second, .val (.int pl), .val (.int pk), .val (.long qb), .second, .val (.int pm), .val (.int pd), .val (.ref by1), .val (.long A2), .second, .val (.int L2), .val (.int C2), .val (.ref by3), .val (.int (0 : Int32)), .val (.ref bx_y20)] []))
        refine Fin.step (fun _ => XS.aload Xy23.here hx rfl (hb hby at_138) rfl rfl) ?_
        show Fin p e below s _ _ _ (Ty23.setTop (mkF m 140 #[.val (.long qa), .second, .val (.int pl), .val (.int pk), .val (.long qb), .second, .val (.int pm), .val (.int pd), .val (.ref by1), .val (.long A2), .second, .val (.int L2), .val (.int C2), .val (.ref by3), .val (.int (0 : Int32)), .val (.ref bx_y20)] [(.ref by1)]))
        refine Fin.step (fun _ => XS.aconstNull Xy23.here hx rfl (hb hby at_140)) ?_
        show Fin p e below s _ _ _ (Ty23.setTop (mkF m 141 #[.val (.long qa), .second, .val (.int pl), .val (.int pk), .val (.long qb), .second, .val (.int pm), .val (.int pd), .val (.ref by1), .val (.long A2), .second, .val (.int L2), .val (.int C2), .val (.ref by3), .val (.int (0 : Int32)), .val (.ref bx_y20)] [.null, (.ref by1)]))
        obtain ⟨cqy24, kqy24, qy24a, qy24b, qy24c⟩ := isOf hZ eqy23 ((((Ay1.keep Kcy2).ext Ey3).keep Kcy4).keep Kcy20)
        obtain ⟨_, _, ⟨Ty24, Ly24, ky24, ny24⟩, -, Xy24, ⟨Lcy24, hQy24, ly24, yy24, zy24⟩, sty24⟩ := Xy23.virtualBack hx (y := (⟨"com/example/stavetree/stavetree/Block", "equals", "(Ljava/lang/Object;)Z"⟩ : MethodName)) (z := (⟨"com/example/stavetree/stavetree/Block", "equals", "(Ljava/lang/Object;)Z"⟩ : MethodName)) hown (mvT hZ (hw _ (List.mem_of_getElem? (i := 27) rfl))) (mvT hZ (hw _ (List.mem_of_getElem? (i := 28) rfl))) (notFace_of_selects (args := #[]) (mvT hZ (hw _ (List.mem_of_getElem? (i := 30) rfl)))) (mvT hZ (hw _ (List.mem_of_getElem? (i := 30) rfl))) (mvT hZ (hw _ (List.mem_of_getElem? (i := 29) rfl))) (by decide) (backOf (W := 0) (rme0 l Z a0 hw [] by1 Ty20.heap n0 Zy20 ) hZ (hw _ (List.mem_of_getElem? (i := 31) rfl)) (hw _ (List.mem_of_getElem? (i := 2) rfl)) (by decide) (by decide)) qy24a qy24c (g := (mkF m 141 #[.val (.long qa), .second, .val (.int pl), .val (.int pk), .val (.long qb), .second, .val (.int pm), .val (.int pd), .val (.ref by1), .val (.long A2), .second, .val (.int L2), .val (.int C2), .val (.ref by3), .val (.int (0 : Int32)), .val (.ref bx_y20)] [.null, (.ref by1)])) rfl (by rw [hml]; rfl) (Steps.refl _) (argsL := [.null]) (rest := []) (lenOf pd_4 rfl) rfl (by show 2 * 0 + _ ≤ _; exact Nat.le_of_eq rfl) (hb hby at_141) (fun _ _ => ⟨rfl, eqy23, (by decide : 3 + 0 ≤ _), (by decide : 7 + 0 ≤ _)⟩)
        dsimp only [Pt.U, Pt.locs, Pt.cells, Pt.slots] at Xy24 ly24 yy24 zy24 sty24 hQy24
        subst ly24 yy24 zy24
        obtain ⟨rfl, Nqy24, eqy24⟩ := hQy24
        have Ny24 := Fr.app Ny23 Nqy24
        refine Fin.step (fun _ k => sty24.trans k) ?_
        show Fin p e below s _ _ _ (Ty24.setTop (mkF m 144 #[.val (.long qa), .second, .val (.int pl), .val (.int pk), .val (.long qb), .second, .val (.int pm), .val (.int pd), .val (.ref by1), .val (.long A2), .second, .val (.int L2), .val (.int C2), .val (.ref by3), .val (.int (0 : Int32)), .val (.ref bx_y20)] [(.int (0 : Int32))]))
        refine Fin.step (fun _ => XS.ifNo Xy24.here hx rfl (hb hby at_144) rfl ((if0 _ _).trans (teq ((by decide) : ((0 : Int32) = (0 : Int32)))).2)) ?_
        show Fin p e below s _ _ _ (Ty24.setTop (mkF m 147 #[.val (.long qa), .second, .val (.int pl), .val (.int pk), .val (.long qb), .second, .val (.int pm), .val (.int pd), .val (.ref by1), .val (.long A2), .second, .val (.int L2), .val (.int C2), .val (.ref by3), .val (.int (0 : Int32)), .val (.ref bx_y20)] []))
        refine Fin.step (fun _ => XS.aload Xy24.here hx rfl (hb hby at_147) rfl rfl) ?_
        show Fin p e below s _ _ _ (Ty24.setTop (mkF m 149 #[.val (.long qa), .second, .val (.int pl), .val (.int pk), .val (.long qb), .second, .val (.int pm), .val (.int pd), .val (.ref by1), .val (.long A2), .second, .val (.int L2), .val (.int C2), .val (.ref by3), .val (.int (0 : Int32)), .val (.ref bx_y20)] [(.ref by1)]))
        refine Fin.step (fun _ => XS.aload Xy24.here hx rfl (hb hby at_149) rfl rfl) ?_
        show Fin p e below s _ _ _ (Ty24.setTop (mkF m 151 #[.val (.long qa), .second, .val (.int pl), .val (.int pk), .val (.long qb), .second, .val (.int pm), .val (.int pd), .val (.ref by1), .val (.long A2), .second, .val (.int L2), .val (.int C2), .val (.ref by3), .val (.int (0 : Int32)), .val (.ref bx_y20)] [(.ref bx_y20), (.ref by1)]))
        obtain ⟨cqy25, kqy25, qy25a, qy25b, qy25c⟩ := isOf hZ eqy24 ((((Ay1.keep Kcy2).ext Ey3).keep Kcy4).keep Kcy20)
        obtain ⟨_, _, ⟨Ty25, Ly25, ky25, ny25⟩, -, Xy25, ⟨Lcy25, hQy25, ly25, yy25, zy25⟩, sty25⟩ := Xy24.virtualBack hx (y := (⟨"com/example/stavetree/stavetree/Block", "equals", "(Ljava/lang/Object;)Z"⟩ : MethodName)) (z := (⟨"com/example/stavetree/stavetree/Block", "equals", "(Ljava/lang/Object;)Z"⟩ : MethodName)) hown (mvT hZ (hw _ (List.mem_of_getElem? (i := 27) rfl))) (mvT hZ (hw _ (List.mem_of_getElem? (i := 28) rfl))) (notFace_of_selects (args := #[]) (mvT hZ (hw _ (List.mem_of_getElem? (i := 30) rfl)))) (mvT hZ (hw _ (List.mem_of_getElem? (i := 30) rfl))) (mvT hZ (hw _ (List.mem_of_getElem? (i := 29) rfl))) (by decide) (backOf (W := 0) (rmei l Z a0 hw [] by1 bx_y20 Ty20.heap n0 Zy20 fy20_0) hZ (hw _ (List.mem_of_getElem? (i := 31) rfl)) (hw _ (List.mem_of_getElem? (i := 2) rfl)) (by decide) (by decide)) qy25a qy25c (g := (mkF m 151 #[.val (.long qa), .second, .val (.int pl), .val (.int pk), .val (.long qb), .second, .val (.int pm), .val (.int pd), .val (.ref by1), .val (.long A2), .second, .val (.int L2), .val (.int C2), .val (.ref by3), .val (.int (0 : Int32)), .val (.ref bx_y20)] [(.ref bx_y20), (.ref by1)])) rfl (by rw [hml]; rfl) (Steps.refl _) (argsL := [(.ref bx_y20)]) (rest := []) (lenOf pd_4 rfl) rfl (by show 2 * 0 + _ ≤ _; exact Nat.le_of_eq rfl) (hb hby at_151) (fun _ _ => ⟨rfl, eqy24, (by decide : 3 + 0 ≤ _), (by decide : 7 + 0 ≤ _)⟩)
        dsimp only [Pt.U, Pt.locs, Pt.cells, Pt.slots] at Xy25 ly25 yy25 zy25 sty25 hQy25
        subst ly25 yy25 zy25
        obtain ⟨rfl, Nqy25, eqy25⟩ := hQy25
        have Ny25 := Fr.app Ny24 Nqy25
        refine Fin.step (fun _ k => sty25.trans k) ?_
        show Fin p e below s _ _ _ (Ty25.setTop (mkF m 154 #[.val (.long qa), .second, .val (.int pl), .val (.int pk), .val (.long qb), .second, .val (.int pm), .val (.int pd), .val (.ref by1), .val (.long A2), .second, .val (.int L2), .val (.int C2), .val (.ref by3), .val (.int (0 : Int32)), .val (.ref bx_y20)] [(.int (0 : Int32))]))
        refine Fin.step (fun _ => XS.ifNo Xy25.here hx rfl (hb hby at_154) rfl ((if0 _ _).trans (teq ((by decide) : ((0 : Int32) = (0 : Int32)))).2)) ?_
        show Fin p e below s _ _ _ (Ty25.setTop (mkF m 157 #[.val (.long qa), .second, .val (.int pl), .val (.int pk), .val (.long qb), .second, .val (.int pm), .val (.int pd), .val (.ref by1), .val (.long A2), .second, .val (.int L2), .val (.int C2), .val (.ref by3), .val (.int (0 : Int32)), .val (.ref bx_y20)] []))
        refine Fin.step (fun _ => XS.iconst Xy25.here hx rfl (hb hby at_157)) ?_
        show Fin p e below s _ _ _ (Ty25.setTop (mkF m 158 #[.val (.long qa), .second, .val (.int pl), .val (.int pk), .val (.long qb), .second, .val (.int pm), .val (.int pd), .val (.ref by1), .val (.long A2), .second, .val (.int L2), .val (.int C2), .val (.ref by3), .val (.int (0 : Int32)), .val (.ref bx_y20)] [(.int (1 : Int32))]))
        refine Fin.step (fun _ => XS.goto Xy25.here hx rfl (pc0 := 158) (pc' := 162) rfl (hb hby at_158) (by decide) (by decide)) ?_
        show Fin p e below s _ _ _ (Ty25.setTop (mkF m 162 #[.val (.long qa), .second, .val (.int pl), .val (.int pk), .val (.long qb), .second, .val (.int pm), .val (.int pd), .val (.ref by1), .val (.long A2), .second, .val (.int L2), .val (.int C2), .val (.ref by3), .val (.int (0 : Int32)), .val (.ref bx_y20)] [(.int (1 : Int32))]))
        refine Fin.retN Xy25 hx (t := .boolean) hret (by simp) hlk (hb hby at_162) (by decide) (by decide) ?_
        show Q0 Z qa pl pk qb pm pd ca h0 n0 _ Ty25.heap _
        rw [eqy25]
        exact ⟨rfl, Ny25, Ky20⟩
    · refine Fin.step (fun _ => XS.ifYes Xy4.here hx rfl (pc0 := 76) (pc' := 95) rfl (hb hby at_76) rfl ((if0 _ _).trans (feq ((lcNE hcy5) : ¬ ((lcmpW qa A2) = (0 : Int32)))).2) (by decide) (by decide)) ?_
      show Fin p e below s _ _ _ (Ty4.setTop (mkF m 95 #[.val (.long qa), .second, .val (.int pl), .val (.int pk), .val (.long qb), .second, .val (.int pm), .val (.int pd), .val (.ref by1), .val (.long A2), .second, .val (.int L2), .val (.int C2), .val (.ref by3), .unset, .unset] []))
      refine Fin.step (fun _ => XS.iconst Xy4.here hx rfl (hb hby at_95)) ?_
      show Fin p e below s _ _ _ (Ty4.setTop (mkF m 96 #[.val (.long qa), .second, .val (.int pl), .val (.int pk), .val (.long qb), .second, .val (.int pm), .val (.int pd), .val (.ref by1), .val (.long A2), .second, .val (.int L2), .val (.int C2), .val (.ref by3), .unset, .unset] [(.int (0 : Int32))]))
      refine Fin.step (fun _ => XS.istore Xy4.here hx rfl (hb hby at_96) rfl (l' := #[.val (.long qa), .second, .val (.int pl), .val (.int pk), .val (.long qb), .second, .val (.int pm), .val (.int pd), .val (.ref by1), .val (.long A2), .second, .val (.int L2), .val (.int C2), .val (.ref by3), .val (.int (0 : Int32)), .unset]) rfl) ?_
      show Fin p e below s _ _ _ (Ty4.setTop (mkF m 98 #[.val (.long qa), .second, .val (.int pl), .val (.int pk), .val (.long qb), .second, .val (.int pm), .val (.int pd), .val (.ref by1), .val (.long A2), .second, .val (.int L2), .val (.int C2), .val (.ref by3), .val (.int (0 : Int32)), .unset] []))
      refine Fin.step (fun _ => XS.iloadN Xy4.here hx rfl (hb hby at_98) rfl) ?_
      show Fin p e below s _ _ _ (Ty4.setTop (mkF m 99 #[.val (.long qa), .second, .val (.int pl), .val (.int pk), .val (.long qb), .second, .val (.int pm), .val (.int pd), .val (.ref by1), .val (.long A2), .second, .val (.int L2), .val (.int C2), .val (.ref by3), .val (.int (0 : Int32)), .unset] [(.int pl)]))
      obtain ⟨_, _, ⟨Ty26, Ly26, ky26, ny26⟩, -, Xy26, ⟨Lcy26, hQy26, ly26, yy26, zy26⟩, sty26⟩ := Jvm.LawKit.callS Xy4 hx (y := (⟨"java/lang/Integer", "valueOf", "(I)Ljava/lang/Integer;"⟩ : MethodName)) hown (mvT hZ (hw _ (List.mem_of_getElem? (i := 20) rfl))) (mvT hZ (hw _ (List.mem_of_getElem? (i := 21) rfl))) (mvT hZ (hw _ (List.mem_of_getElem? (i := 22) rfl))) (mvT hZ (hw _ (List.mem_of_getElem? (i := 23) rfl))) (by decide) (backOf (W := 0) (rm4 l Z a0 hw [] pl ca Ty4.heap n0 Zy4 (Sta_keep HS_java_lang_Integer_IntegerCache_high Ky4) (Sta_keep HS_java_lang_Integer_IntegerCache_cache Ky4) (own_ca_keep hca Ky4)) hZ (hw _ (List.mem_of_getElem? (i := 23) rfl)) (hw _ (List.mem_of_getElem? (i := 22) rfl)) (by decide) (by decide)) (g := (mkF m 99 #[.val (.long qa), .second, .val (.int pl), .val (.int pk), .val (.long qb), .second, .val (.int pm), .val (.int pd), .val (.ref by1), .val (.long A2), .second, .val (.int L2), .val (.int C2), .val (.ref by3), .val (.int (0 : Int32)), .unset] [(.int pl)])) rfl (by rw [hml]; rfl) (argsL := [(.int pl)]) (rest := []) (lenOf pd_3 rfl) rfl (by show 2 * 0 + _ ≤ _; exact Nat.le_of_eq rfl) (hb hby at_99) (fun _ _ => ⟨rfl, rfl, (by decide : 2 + 1 ≤ _), (by decide : 6 + 1 ≤ _)⟩)
      dsimp only [Pt.U, Pt.locs, Pt.cells, Pt.slots] at Xy26 ly26 yy26 zy26 sty26 hQy26
      subst ly26 yy26 zy26
      obtain ⟨bx_y26, rfl, Nqy26, Kcy26, fy26_0⟩ := hQy26
      have Ny26 := Fr.app Ny4 Nqy26
      have Zy26 : n0 ≤ Ty26.heap.size := Nat.le_trans Zy4 Kcy26.1
      have Ky26 : Keep h0 Ty26.heap [] := Ky4.trans Kcy26 all0
      refine Fin.step (sty26) ?_
      show Fin p e below s _ _ _ (Ty26.setTop (mkF m 102 #[.val (.long qa), .second, .val (.int pl), .val (.int pk), .val (.long qb), .second, .val (.int pm), .val (.int pd), .val (.ref by1), .val (.long A2), .second, .val (.int L2), .val (.int C2), .val (.ref by3), .val (.int (0 : Int32)), .unset] [(.ref bx_y26)]))
      refine Fin.step (fun _ => XS.astore Xy26.here hx rfl (hb hby at_102) rfl rfl (l' := #[.val (.long qa), .second, .val (.int pl), .val (.int pk), .val (.long qb), .second, .val (.int pm), .val (.int pd), .val (.ref by1), .val (.long A2), .second, .val (.int L2), .val (.int C2), .val (.ref by3), .val (.int (0 : Int32)), .val (.ref bx_y26)]) rfl) ?_
      show Fin p e below s _ _ _ (Ty26.setTop (mkF m 104 #[.val (.long qa), .second, .val (.int pl), .val (.int pk), .val (.long qb), .second, .val (.int pm), .val (.int pd), .val (.ref by1), .val (.long A2), .second, .val (.int L2), .val (.int C2), .val (.ref by3), .val (.int (0 : Int32)), .val (.ref bx_y26)] []))
      refine Fin.step (fun _ => XS.aload Xy26.here hx rfl (hb hby at_104) rfl rfl) ?_
      show Fin p e below s _ _ _ (Ty26.setTop (mkF m 106 #[.val (.long qa), .second, .val (.int pl), .val (.int pk), .val (.long qb), .second, .val (.int pm), .val (.int pd), .val (.ref by1), .val (.long A2), .second, .val (.int L2), .val (.int C2), .val (.ref by3), .val (.int (0 : Int32)), .val (.ref bx_y26)] [(.ref by1)]))
      refine Fin.step (fun _ => XS.aload Xy26.here hx rfl (hb hby at_106) rfl rfl) ?_
      show Fin p e below s _ _ _ (Ty26.setTop (mkF m 108 #[.val (.long qa), .second, .val (.int pl), .val (.int pk), .val (.long qb), .second, .val (.int pm), .val (.int pd), .val (.ref by1), .val (.long A2), .second, .val (.int L2), .val (.int C2), .val (.ref by3), .val (.int (0 : Int32)), .val (.ref bx_y26)] [(.ref by3), (.ref by1)]))
      obtain ⟨cqy27, kqy27, qy27a, qy27b, qy27c⟩ := isOf hZ rfl ((((Ay1.keep Kcy2).ext Ey3).keep Kcy4).keep Kcy26)
      obtain ⟨_, _, ⟨Ty27, Ly27, ky27, ny27⟩, -, Xy27, ⟨Lcy27, hQy27, ly27, yy27, zy27⟩, sty27⟩ := Xy26.virtualBack hx (y := (⟨"com/example/stavetree/stavetree/Block", "equals", "(Ljava/lang/Object;)Z"⟩ : MethodName)) (z := (⟨"com/example/stavetree/stavetree/Block", "equals", "(Ljava/lang/Object;)Z"⟩ : MethodName)) hown (mvT hZ (hw _ (List.mem_of_getElem? (i := 27) rfl))) (mvT hZ (hw _ (List.mem_of_getElem? (i := 28) rfl))) (notFace_of_selects (args := #[]) (mvT hZ (hw _ (List.mem_of_getElem? (i := 30) rfl)))) (mvT hZ (hw _ (List.mem_of_getElem? (i := 30) rfl))) (mvT hZ (hw _ (List.mem_of_getElem? (i := 29) rfl))) (by decide) (backOf (W := 0) (rme1 l Z a0 hw [] by1 by3 qa pl pk A2 L2 C2 Ty26.heap n0 Zy26 ((Ay3.keep Kcy4).keep Kcy26) (((fy2_0.ext Ey3).keep Kcy4 (ninS (Nat.ne_of_lt (Nat.lt_of_lt_of_le (Ay1.keep Kcy2).lt (Nat.le_of_eq gy3.symm))) nin0)).keep Kcy26 nin0) (((fy2_1.ext Ey3).keep Kcy4 (ninS (Nat.ne_of_lt (Nat.lt_of_lt_of_le (Ay1.keep Kcy2).lt (Nat.le_of_eq gy3.symm))) nin0)).keep Kcy26 nin0) (((fy2_2.ext Ey3).keep Kcy4 (ninS (Nat.ne_of_lt (Nat.lt_of_lt_of_le (Ay1.keep Kcy2).lt (Nat.le_of_eq gy3.symm))) nin0)).keep Kcy26 nin0) (fy4_0.keep Kcy26 nin0) (fy4_1.keep Kcy26 nin0) (fy4_2.keep Kcy26 nin0)) hZ (hw _ (List.mem_of_getElem? (i := 31) rfl)) (hw _ (List.mem_of_getElem? (i := 2) rfl)) (by decide) (by decide)) qy27a qy27c (g := (mkF m 108 #[.val (.long qa), .second, .val (.int pl), .val (.int pk), .val (.long qb), .second, .val (.int pm), .val (.int pd), .val (.ref by1), .val (.long A2), .second, .val (.int L2), .val (.int C2), .val (.ref by3), .val (.int (0 : Int32)), .val (.ref bx_y26)] [(.ref by3), (.ref by1)])) rfl (by rw [hml]; rfl) (Steps.refl _) (argsL := [(.ref by3)]) (rest := []) (lenOf pd_4 rfl) rfl (by show 2 * 0 + _ ≤ _; exact Nat.le_of_eq rfl) (hb hby at_108) (fun _ _ => ⟨rfl, rfl, (by decide : 3 + 0 ≤ _), (by decide : 7 + 0 ≤ _)⟩)
      dsimp only [Pt.U, Pt.locs, Pt.cells, Pt.slots] at Xy27 ly27 yy27 zy27 sty27 hQy27
      subst ly27 yy27 zy27
      obtain ⟨rfl, Nqy27, eqy27⟩ := hQy27
      have Ny27 := Fr.app Ny26 Nqy27
      refine Fin.step (fun _ k => sty27.trans k) ?_
      show Fin p e below s _ _ _ (Ty27.setTop (mkF m 111 #[.val (.long qa), .second, .val (.int pl), .val (.int pk), .val (.long qb), .second, .val (.int pm), .val (.int pd), .val (.ref by1), .val (.long A2), .second, .val (.int L2), .val (.int C2), .val (.ref by3), .val (.int (0 : Int32)), .val (.ref bx_y26)] [(.int (own_eq qa pl pk A2 L2 C2))]))
      refine Fin.step (fun _ => XS.iload Xy27.here hx rfl (hb hby at_111) rfl) ?_
      show Fin p e below s _ _ _ (Ty27.setTop (mkF m 113 #[.val (.long qa), .second, .val (.int pl), .val (.int pk), .val (.long qb), .second, .val (.int pm), .val (.int pd), .val (.ref by1), .val (.long A2), .second, .val (.int L2), .val (.int C2), .val (.ref by3), .val (.int (0 : Int32)), .val (.ref bx_y26)] [(.int (0 : Int32)), (.int (own_eq qa pl pk A2 L2 C2))]))
      refine Fin.step (fun _ => XS.icmpNo Xy27.here hx rfl (hb hby at_113) rfl (teq ((by rw [own_eq, if_neg hcy5]) : ((own_eq qa pl pk A2 L2 C2) = (0 : Int32)))).2) ?_
      show Fin p e below s _ _ _ (Ty27.setTop (mkF m 116 #[.val (.long qa), .second, .val (.int pl), .val (.int pk), .val (.long qb), .second, .val (.int pm), .val (.int pd), .val (.ref by1), .val (.long A2), .second, .val (.int L2), .val (.int C2), .val (.ref by3), .val (.int (0 : Int32)), .val (.ref bx_y26)] []))
      refine Fin.step (fun _ => XS.aload Xy27.here hx rfl (hb hby at_116) rfl rfl) ?_
      show Fin p e below s _ _ _ (Ty27.setTop (mkF m 118 #[.val (.long qa), .second, .val (.int pl), .val (.int pk), .val (.long qb), .second, .val (.int pm), .val (.int pd), .val (.ref by1), .val (.long A2), .second, .val (.int L2), .val (.int C2), .val (.ref by3), .val (.int (0 : Int32)), .val (.ref bx_y26)] [(.ref by3)]))
      refine Fin.step (fun _ => XS.aload Xy27.here hx rfl (hb hby at_118) rfl rfl) ?_
      show Fin p e below s _ _ _ (Ty27.setTop (mkF m 120 #[.val (.long qa), .second, .val (.int pl), .val (.int pk), .val (.long qb), .second, .val (.int pm), .val (.int pd), .val (.ref by1), .val (.long A2), .second, .val (.int L2), .val (.int C2), .val (.ref by3), .val (.int (0 : Int32)), .val (.ref bx_y26)] [(.ref by1), (.ref by3)]))
      obtain ⟨cqy28, kqy28, qy28a, qy28b, qy28c⟩ := isOf hZ eqy27 ((Ay3.keep Kcy4).keep Kcy26)
      obtain ⟨_, _, ⟨Ty28, Ly28, ky28, ny28⟩, -, Xy28, ⟨Lcy28, hQy28, ly28, yy28, zy28⟩, sty28⟩ := Xy27.virtualBack hx (y := (⟨"com/example/stavetree/stavetree/Block", "equals", "(Ljava/lang/Object;)Z"⟩ : MethodName)) (z := (⟨"com/example/stavetree/stavetree/Block", "equals", "(Ljava/lang/Object;)Z"⟩ : MethodName)) hown (mvT hZ (hw _ (List.mem_of_getElem? (i := 27) rfl))) (mvT hZ (hw _ (List.mem_of_getElem? (i := 28) rfl))) (notFace_of_selects (args := #[]) (mvT hZ (hw _ (List.mem_of_getElem? (i := 30) rfl)))) (mvT hZ (hw _ (List.mem_of_getElem? (i := 30) rfl))) (mvT hZ (hw _ (List.mem_of_getElem? (i := 29) rfl))) (by decide) (backOf (W := 0) (rme1 l Z a0 hw [] by3 by1 A2 L2 C2 qa pl pk Ty26.heap n0 Zy26 ((((Ay1.keep Kcy2).ext Ey3).keep Kcy4).keep Kcy26) (fy4_0.keep Kcy26 nin0) (fy4_1.keep Kcy26 nin0) (fy4_2.keep Kcy26 nin0) (((fy2_0.ext Ey3).keep Kcy4 (ninS (Nat.ne_of_lt (Nat.lt_of_lt_of_le (Ay1.keep Kcy2).lt (Nat.le_of_eq gy3.symm))) nin0)).keep Kcy26 nin0) (((fy2_1.ext Ey3).keep Kcy4 (ninS (Nat.ne_of_lt (Nat.lt_of_lt_of_le (Ay1.keep Kcy2).lt (Nat.le_of_eq gy3.symm))) nin0)).keep Kcy26 nin0) (((fy2_2.ext Ey3).keep Kcy4 (ninS (Nat.ne_of_lt (Nat.lt_of_lt_of_le (Ay1.keep Kcy2).lt (Nat.le_of_eq gy3.symm))) nin0)).keep Kcy26 nin0)) hZ (hw _ (List.mem_of_getElem? (i := 31) rfl)) (hw _ (List.mem_of_getElem? (i := 2) rfl)) (by decide) (by decide)) qy28a qy28c (g := (mkF m 120 #[.val (.long qa), .second, .val (.int pl), .val (.int pk), .val (.long qb), .second, .val (.int pm), .val (.int pd), .val (.ref by1), .val (.long A2), .second, .val (.int L2), .val (.int C2), .val (.ref by3), .val (.int (0 : Int32)), .val (.ref bx_y26)] [(.ref by1), (.ref by3)])) rfl (by rw [hml]; rfl) (Steps.refl _) (argsL := [(.ref by1)]) (rest := []) (lenOf pd_4 rfl) rfl (by show 2 * 0 + _ ≤ _; exact Nat.le_of_eq rfl) (hb hby at_120) (fun _ _ => ⟨rfl, eqy27, (by decide : 3 + 0 ≤ _), (by decide : 7 + 0 ≤ _)⟩)
      dsimp only [Pt.U, Pt.locs, Pt.cells, Pt.slots] at Xy28 ly28 yy28 zy28 sty28 hQy28
      subst ly28 yy28 zy28
      obtain ⟨rfl, Nqy28, eqy28⟩ := hQy28
      have Ny28 := Fr.app Ny27 Nqy28
      refine Fin.step (fun _ k => sty28.trans k) ?_
      show Fin p e below s _ _ _ (Ty28.setTop (mkF m 123 #[.val (.long qa), .second, .val (.int pl), .val (.int pk), .val (.long qb), .second, .val (.int pm), .val (.int pd), .val (.ref by1), .val (.long A2), .second, .val (.int L2), .val (.int C2), .val (.ref by3), .val (.int (0 : Int32)), .val (.ref bx_y26)] [(.int (own_eq A2 L2 C2 qa pl pk))]))
      refine Fin.step (fun _ => XS.iload Xy28.here hx rfl (hb hby at_123) rfl) ?_
      show Fin p e below s _ _ _ (Ty28.setTop (mkF m 125 #[.val (.long qa), .second, .val (.int pl), .val (.int pk), .val (.long qb), .second, .val (.int pm), .val (.int pd), .val (.ref by1), .val (.long A2), .second, .val (.int L2), .val (.int C2), .val (.ref by3), .val (.int (0 : Int32)), .val (.ref bx_y26)] [(.int (0 : Int32)), (.int (own_eq A2 L2 C2 qa pl pk))]))
      refine Fin.step (fun _ => XS.icmpNo Xy28.here hx rfl (hb hby at_125) rfl (teq ((by rw [own_eq_comm, own_eq, if_neg hcy5]) : ((own_eq A2 L2 C2 qa pl pk) = (0 : Int32)))).2) ?_
      show Fin p e below s _ _ _ (Ty28.setTop (mkF m 128 #[.val (.long qa), .second, .val (.int pl), .val (.int pk), .val (.long qb), .second, .val (.int pm), .val (.int pd), .val (.ref by1), .val (.long A2), .second, .val (.int L2), .val (.int C2), .val (.ref by3), .val (.int (0 : Int32)), .val (.ref bx_y26)] []))
      refine Fin.step (fun _ => XS.aload Xy28.here hx rfl (hb hby at_128) rfl rfl) ?_
      show Fin p e below s _ _ _ (Ty28.setTop (mkF m 130 #[.val (.long qa), .second, .val (.int pl), .val (.int pk), .val (.long qb), .second, .val (.int pm), .val (.int pd), .val (.ref by1), .val (.long A2), .second, .val (.int L2), .val (.int C2), .val (.ref by3), .val (.int (0 : Int32)), .val (.ref bx_y26)] [(.ref by1)]))
      refine Fin.step (fun _ => XS.aload Xy28.here hx rfl (hb hby at_130) rfl rfl) ?_
      show Fin p e below s _ _ _ (Ty28.setTop (mkF m 132 #[.val (.long qa), .second, .val (.int pl), .val (.int pk), .val (.long qb), .second, .val (.int pm), .val (.int pd), .val (.ref by1), .val (.long A2), .second, .val (.int L2), .val (.int C2), .val (.ref by3), .val (.int (0 : Int32)), .val (.ref bx_y26)] [(.ref by1), (.ref by1)]))
      obtain ⟨cqy29, kqy29, qy29a, qy29b, qy29c⟩ := isOf hZ eqy28 ((((Ay1.keep Kcy2).ext Ey3).keep Kcy4).keep Kcy26)
      obtain ⟨_, _, ⟨Ty29, Ly29, ky29, ny29⟩, -, Xy29, ⟨Lcy29, hQy29, ly29, yy29, zy29⟩, sty29⟩ := Xy28.virtualBack hx (y := (⟨"com/example/stavetree/stavetree/Block", "equals", "(Ljava/lang/Object;)Z"⟩ : MethodName)) (z := (⟨"com/example/stavetree/stavetree/Block", "equals", "(Ljava/lang/Object;)Z"⟩ : MethodName)) hown (mvT hZ (hw _ (List.mem_of_getElem? (i := 27) rfl))) (mvT hZ (hw _ (List.mem_of_getElem? (i := 28) rfl))) (notFace_of_selects (args := #[]) (mvT hZ (hw _ (List.mem_of_getElem? (i := 30) rfl)))) (mvT hZ (hw _ (List.mem_of_getElem? (i := 30) rfl))) (mvT hZ (hw _ (List.mem_of_getElem? (i := 29) rfl))) (by decide) (backOf (W := 0) (rme1 l Z a0 hw [] by1 by1 qa pl pk qa pl pk Ty26.heap n0 Zy26 ((((Ay1.keep Kcy2).ext Ey3).keep Kcy4).keep Kcy26) (((fy2_0.ext Ey3).keep Kcy4 (ninS (Nat.ne_of_lt (Nat.lt_of_lt_of_le (Ay1.keep Kcy2).lt (Nat.le_of_eq gy3.symm))) nin0)).keep Kcy26 nin0) (((fy2_1.ext Ey3).keep Kcy4 (ninS (Nat.ne_of_lt (Nat.lt_of_lt_of_le (Ay1.keep Kcy2).lt (Nat.le_of_eq gy3.symm))) nin0)).keep Kcy26 nin0) (((fy2_2.ext Ey3).keep Kcy4 (ninS (Nat.ne_of_lt (Nat.lt_of_lt_of_le (Ay1.keep Kcy2).lt (Nat.le_of_eq gy3.symm))) nin0)).keep Kcy26 nin0) (((fy2_0.ext Ey3).keep Kcy4 (ninS (Nat.ne_of_lt (Nat.lt_of_lt_of_le (Ay1.keep Kcy2).lt (Nat.le_of_eq gy3.symm))) nin0)).keep Kcy26 nin0) (((fy2_1.ext Ey3).keep Kcy4 (ninS (Nat.ne_of_lt (Nat.lt_of_lt_of_le (Ay1.keep Kcy2).lt (Nat.le_of_eq gy3.symm))) nin0)).keep Kcy26 nin0) (((fy2_2.ext Ey3).keep Kcy4 (ninS (Nat.ne_of_lt (Nat.lt_of_lt_of_le (Ay1.keep Kcy2).lt (Nat.le_of_eq gy3.symm))) nin0)).keep Kcy26 nin0)) hZ (hw _ (List.mem_of_getElem? (i := 31) rfl)) (hw _ (List.mem_of_getElem? (i := 2) rfl)) (by decide) (by decide)) qy29a qy29c (g := (mkF m 132 #[.val (.long qa), .second, .val (.int pl), .val (.int pk), .val (.long qb), .second, .val (.int pm), .val (.int pd), .val (.ref by1), .val (.long A2), .second, .val (.int L2), .val (.int C2), .val (.ref by3), .val (.int (0 : Int32)), .val (.ref bx_y26)] [(.ref by1), (.ref by1)])) rfl (by rw [hml]; rfl) (Steps.refl _) (argsL := [(.ref by1)]) (rest := []) (lenOf pd_4 rfl) rfl (by show 2 * 0 + _ ≤ _; exact Nat.le_of_eq rfl) (hb hby at_132) (fun _ _ => ⟨rfl, eqy28, (by decide : 3 + 0 ≤ _), (by decide : 7 + 0 ≤ _)⟩)
      dsimp only [Pt.U, Pt.locs, Pt.cells, Pt.slots] at Xy29 ly29 yy29 zy29 sty29 hQy29
      subst ly29 yy29 zy29
      obtain ⟨rfl, Nqy29, eqy29⟩ := hQy29
      have Ny29 := Fr.app Ny28 Nqy29
      refine Fin.step (fun _ k => sty29.trans k) ?_
      show Fin p e below s _ _ _ (Ty29.setTop (mkF m 135 #[.val (.long qa), .second, .val (.int pl), .val (.int pk), .val (.long qb), .second, .val (.int pm), .val (.int pd), .val (.ref by1), .val (.long A2), .second, .val (.int L2), .val (.int C2), .val (.ref by3), .val (.int (0 : Int32)), .val (.ref bx_y26)] [(.int (own_eq qa pl pk qa pl pk))]))
      refine Fin.step (fun _ => XS.ifNo Xy29.here hx rfl (hb hby at_135) rfl ((if0 _ _).trans (feq ((by rw [own_eq_self]; decide) : ¬ ((own_eq qa pl pk qa pl pk) = (0 : Int32)))).1)) ?_
      show Fin p e below s _ _ _ (Ty29.setTop (mkF m 138 #[.val (.long qa), .second, .val (.int pl), .val (.int pk), .val (.long qb), .second, .val (.int pm), .val (.int pd), .val (.ref by1), .val (.long A2), .second, .val (.int L2), .val (.int C2), .val (.ref by3), .val (.int (0 : Int32)), .val (.ref bx_y26)] []))
      refine Fin.step (fun _ => XS.aload Xy29.here hx rfl (hb hby at_138) rfl rfl) ?_
      show Fin p e below s _ _ _ (Ty29.setTop (mkF m 140 #[.val (.long qa), .second, .val (.int pl), .val (.int pk), .val (.long qb), .second, .val (.int pm), .val (.int pd), .val (.ref by1), .val (.long A2), .second, .val (.int L2), .val (.int C2), .val (.ref by3), .val (.int (0 : Int32)), .val (.ref bx_y26)] [(.ref by1)]))
      refine Fin.step (fun _ => XS.aconstNull Xy29.here hx rfl (hb hby at_140)) ?_
      show Fin p e below s _ _ _ (Ty29.setTop (mkF m 141 #[.val (.long qa), .second, .val (.int pl), .val (.int pk), .val (.long qb), .second, .val (.int pm), .val (.int pd), .val (.ref by1), .val (.long A2), .second, .val (.int L2), .val (.int C2), .val (.ref by3), .val (.int (0 : Int32)), .val (.ref bx_y26)] [.null, (.ref by1)]))
      obtain ⟨cqy30, kqy30, qy30a, qy30b, qy30c⟩ := isOf hZ eqy29 ((((Ay1.keep Kcy2).ext Ey3).keep Kcy4).keep Kcy26)
      obtain ⟨_, _, ⟨Ty30, Ly30, ky30, ny30⟩, -, Xy30, ⟨Lcy30, hQy30, ly30, yy30, zy30⟩, sty30⟩ := Xy29.virtualBack hx (y := (⟨"com/example/stavetree/stavetree/Block", "equals", "(Ljava/lang/Object;)Z"⟩ : MethodName)) (z := (⟨"com/example/stavetree/stavetree/Block", "equals", "(Ljava/lang/Object;)Z"⟩ : MethodName)) hown (mvT hZ (hw _ (List.mem_of_getElem? (i := 27) rfl))) (mvT hZ (hw _ (List.mem_of_getElem? (i := 28) rfl))) (notFace_of_selects (args := #[]) (mvT hZ (hw _ (List.mem_of_getElem? (i := 30) rfl)))) (mvT hZ (hw _ (List.mem_of_getElem? (i := 30) rfl))) (mvT hZ (hw _ (List.mem_of_getElem? (i := 29) rfl))) (by decide) (backOf (W := 0) (rme0 l Z a0 hw [] by1 Ty26.heap n0 Zy26 ) hZ (hw _ (List.mem_of_getElem? (i := 31) rfl)) (hw _ (List.mem_of_getElem? (i := 2) rfl)) (by decide) (by decide)) qy30a qy30c (g := (mkF m 141 #[.val (.long qa), .second, .val (.int pl), .val (.int pk), .val (.long qb), .second, .val (.int pm), .val (.int pd), .val (.ref by1), .val (.long A2), .second, .val (.int L2), .val (.int C2), .val (.ref by3), .val (.int (0 : Int32)), .val (.ref bx_y26)] [.null, (.ref by1)])) rfl (by rw [hml]; rfl) (Steps.refl _) (argsL := [.null]) (rest := []) (lenOf pd_4 rfl) rfl (by show 2 * 0 + _ ≤ _; exact Nat.le_of_eq rfl) (hb hby at_141) (fun _ _ => ⟨rfl, eqy29, (by decide : 3 + 0 ≤ _), (by decide : 7 + 0 ≤ _)⟩)
      dsimp only [Pt.U, Pt.locs, Pt.cells, Pt.slots] at Xy30 ly30 yy30 zy30 sty30 hQy30
      subst ly30 yy30 zy30
      obtain ⟨rfl, Nqy30, eqy30⟩ := hQy30
      have Ny30 := Fr.app Ny29 Nqy30
      refine Fin.step (fun _ k => sty30.trans k) ?_
      show Fin p e below s _ _ _ (Ty30.setTop (mkF m 144 #[.val (.long qa), .second, .val (.int pl), .val (.int pk), .val (.long qb), .second, .val (.int pm), .val (.int pd), .val (.ref by1), .val (.long A2), .second, .val (.int L2), .val (.int C2), .val (.ref by3), .val (.int (0 : Int32)), .val (.ref bx_y26)] [(.int (0 : Int32))]))
      refine Fin.step (fun _ => XS.ifNo Xy30.here hx rfl (hb hby at_144) rfl ((if0 _ _).trans (teq ((by decide) : ((0 : Int32) = (0 : Int32)))).2)) ?_
      show Fin p e below s _ _ _ (Ty30.setTop (mkF m 147 #[.val (.long qa), .second, .val (.int pl), .val (.int pk), .val (.long qb), .second, .val (.int pm), .val (.int pd), .val (.ref by1), .val (.long A2), .second, .val (.int L2), .val (.int C2), .val (.ref by3), .val (.int (0 : Int32)), .val (.ref bx_y26)] []))
      refine Fin.step (fun _ => XS.aload Xy30.here hx rfl (hb hby at_147) rfl rfl) ?_
      show Fin p e below s _ _ _ (Ty30.setTop (mkF m 149 #[.val (.long qa), .second, .val (.int pl), .val (.int pk), .val (.long qb), .second, .val (.int pm), .val (.int pd), .val (.ref by1), .val (.long A2), .second, .val (.int L2), .val (.int C2), .val (.ref by3), .val (.int (0 : Int32)), .val (.ref bx_y26)] [(.ref by1)]))
      refine Fin.step (fun _ => XS.aload Xy30.here hx rfl (hb hby at_149) rfl rfl) ?_
      show Fin p e below s _ _ _ (Ty30.setTop (mkF m 151 #[.val (.long qa), .second, .val (.int pl), .val (.int pk), .val (.long qb), .second, .val (.int pm), .val (.int pd), .val (.ref by1), .val (.long A2), .second, .val (.int L2), .val (.int C2), .val (.ref by3), .val (.int (0 : Int32)), .val (.ref bx_y26)] [(.ref bx_y26), (.ref by1)]))
      obtain ⟨cqy31, kqy31, qy31a, qy31b, qy31c⟩ := isOf hZ eqy30 ((((Ay1.keep Kcy2).ext Ey3).keep Kcy4).keep Kcy26)
      obtain ⟨_, _, ⟨Ty31, Ly31, ky31, ny31⟩, -, Xy31, ⟨Lcy31, hQy31, ly31, yy31, zy31⟩, sty31⟩ := Xy30.virtualBack hx (y := (⟨"com/example/stavetree/stavetree/Block", "equals", "(Ljava/lang/Object;)Z"⟩ : MethodName)) (z := (⟨"com/example/stavetree/stavetree/Block", "equals", "(Ljava/lang/Object;)Z"⟩ : MethodName)) hown (mvT hZ (hw _ (List.mem_of_getElem? (i := 27) rfl))) (mvT hZ (hw _ (List.mem_of_getElem? (i := 28) rfl))) (notFace_of_selects (args := #[]) (mvT hZ (hw _ (List.mem_of_getElem? (i := 30) rfl)))) (mvT hZ (hw _ (List.mem_of_getElem? (i := 30) rfl))) (mvT hZ (hw _ (List.mem_of_getElem? (i := 29) rfl))) (by decide) (backOf (W := 0) (rmei l Z a0 hw [] by1 bx_y26 Ty26.heap n0 Zy26 fy26_0) hZ (hw _ (List.mem_of_getElem? (i := 31) rfl)) (hw _ (List.mem_of_getElem? (i := 2) rfl)) (by decide) (by decide)) qy31a qy31c (g := (mkF m 151 #[.val (.long qa), .second, .val (.int pl), .val (.int pk), .val (.long qb), .second, .val (.int pm), .val (.int pd), .val (.ref by1), .val (.long A2), .second, .val (.int L2), .val (.int C2), .val (.ref by3), .val (.int (0 : Int32)), .val (.ref bx_y26)] [(.ref bx_y26), (.ref by1)])) rfl (by rw [hml]; rfl) (Steps.refl _) (argsL := [(.ref bx_y26)]) (rest := []) (lenOf pd_4 rfl) rfl (by show 2 * 0 + _ ≤ _; exact Nat.le_of_eq rfl) (hb hby at_151) (fun _ _ => ⟨rfl, eqy30, (by decide : 3 + 0 ≤ _), (by decide : 7 + 0 ≤ _)⟩)
      dsimp only [Pt.U, Pt.locs, Pt.cells, Pt.slots] at Xy31 ly31 yy31 zy31 sty31 hQy31
      subst ly31 yy31 zy31
      obtain ⟨rfl, Nqy31, eqy31⟩ := hQy31
      have Ny31 := Fr.app Ny30 Nqy31
      refine Fin.step (fun _ k => sty31.trans k) ?_
      show Fin p e below s _ _ _ (Ty31.setTop (mkF m 154 #[.val (.long qa), .second, .val (.int pl), .val (.int pk), .val (.long qb), .second, .val (.int pm), .val (.int pd), .val (.ref by1), .val (.long A2), .second, .val (.int L2), .val (.int C2), .val (.ref by3), .val (.int (0 : Int32)), .val (.ref bx_y26)] [(.int (0 : Int32))]))
      refine Fin.step (fun _ => XS.ifNo Xy31.here hx rfl (hb hby at_154) rfl ((if0 _ _).trans (teq ((by decide) : ((0 : Int32) = (0 : Int32)))).2)) ?_
      show Fin p e below s _ _ _ (Ty31.setTop (mkF m 157 #[.val (.long qa), .second, .val (.int pl), .val (.int pk), .val (.long qb), .second, .val (.int pm), .val (.int pd), .val (.ref by1), .val (.long A2), .second, .val (.int L2), .val (.int C2), .val (.ref by3), .val (.int (0 : Int32)), .val (.ref bx_y26)] []))
      refine Fin.step (fun _ => XS.iconst Xy31.here hx rfl (hb hby at_157)) ?_
      show Fin p e below s _ _ _ (Ty31.setTop (mkF m 158 #[.val (.long qa), .second, .val (.int pl), .val (.int pk), .val (.long qb), .second, .val (.int pm), .val (.int pd), .val (.ref by1), .val (.long A2), .second, .val (.int L2), .val (.int C2), .val (.ref by3), .val (.int (0 : Int32)), .val (.ref bx_y26)] [(.int (1 : Int32))]))
      refine Fin.step (fun _ => XS.goto Xy31.here hx rfl (pc0 := 158) (pc' := 162) rfl (hb hby at_158) (by decide) (by decide)) ?_
      show Fin p e below s _ _ _ (Ty31.setTop (mkF m 162 #[.val (.long qa), .second, .val (.int pl), .val (.int pk), .val (.long qb), .second, .val (.int pm), .val (.int pd), .val (.ref by1), .val (.long A2), .second, .val (.int L2), .val (.int C2), .val (.ref by3), .val (.int (0 : Int32)), .val (.ref bx_y26)] [(.int (1 : Int32))]))
      refine Fin.retN Xy31 hx (t := .boolean) hret (by simp) hlk (hb hby at_162) (by decide) (by decide) ?_
      show Q0 Z qa pl pk qb pm pd ca h0 n0 _ Ty31.heap _
      rw [eqy31]
      exact ⟨rfl, Ny31, Ky26⟩
  refine Fin.step (fun _ => XS.iload Xy2.here hx rfl (hb hby at_12) rfl) ?_
  show Fin p e below s _ _ _ (Ty2.setTop (mkF m 14 #[.val (.long qa), .second, .val (.int pl), .val (.int pk), .val (.long qb), .second, .val (.int pm), .val (.int pd), .val (.ref by1), .unset, .unset, .unset, .unset, .unset, .unset, .unset] [(.int pd)]))
  refine Fin.step (fun _ => XS.iconst Xy2.here hx rfl (hb hby at_14)) ?_
  show Fin p e below s _ _ _ (Ty2.setTop (mkF m 15 #[.val (.long qa), .second, .val (.int pl), .val (.int pk), .val (.long qb), .second, .val (.int pm), .val (.int pd), .val (.ref by1), .unset, .unset, .unset, .unset, .unset, .unset, .unset] [(.int (1 : Int32)), (.int pd)]))
  refine Fin.step (fun _ => XS.iand Xy2.here hx rfl (hb hby at_15) rfl) ?_
  show Fin p e below s _ _ _ (Ty2.setTop (mkF m 16 #[.val (.long qa), .second, .val (.int pl), .val (.int pk), .val (.long qb), .second, .val (.int pm), .val (.int pd), .val (.ref by1), .unset, .unset, .unset, .unset, .unset, .unset, .unset] [(.int (pd &&& (1 : Int32)))]))
  by_cases hcy32 : (pd &&& (1 : Int32)) = (0 : Int32)
  · refine Fin.step (fun _ => XS.ifYes Xy2.here hx rfl (pc0 := 16) (pc' := 24) rfl (hb hby at_16) rfl ((if0 _ _).trans (teq (hcy32 : ((pd &&& (1 : Int32)) = (0 : Int32)))).1) (by decide) (by decide)) ?_
    show Fin p e below s _ _ _ (Ty2.setTop (mkF m 24 #[.val (.long qa), .second, .val (.int pl), .val (.int pk), .val (.long qb), .second, .val (.int pm), .val (.int pd), .val (.ref by1), .unset, .unset, .unset, .unset, .unset, .unset, .unset] []))
    refine Fin.step (fun _ => XS.lloadN Xy2.here hx rfl (hb hby at_24) rfl) ?_
    show Fin p e below s _ _ _ (Ty2.setTop (mkF m 25 #[.val (.long qa), .second, .val (.int pl), .val (.int pk), .val (.long qb), .second, .val (.int pm), .val (.int pd), .val (.ref by1), .unset, .unset, .unset, .unset, .unset, .unset, .unset] [(.long qa)]))
    refine Fin.step (fun _ => XS.lstore Xy2.here hx rfl (hb hby at_25) rfl (l' := #[.val (.long qa), .second, .val (.int pl), .val (.int pk), .val (.long qb), .second, .val (.int pm), .val (.int pd), .val (.ref by1), .val (.long qa), .second, .unset, .unset, .unset, .unset, .unset]) rfl) ?_
    show Fin p e below s _ _ _ (Ty2.setTop (mkF m 27 #[.val (.long qa), .second, .val (.int pl), .val (.int pk), .val (.long qb), .second, .val (.int pm), .val (.int pd), .val (.ref by1), .val (.long qa), .second, .unset, .unset, .unset, .unset, .unset] []))
    refine Fin.step (fun _ => XS.iload Xy2.here hx rfl (hb hby at_27) rfl) ?_
    show Fin p e below s _ _ _ (Ty2.setTop (mkF m 29 #[.val (.long qa), .second, .val (.int pl), .val (.int pk), .val (.long qb), .second, .val (.int pm), .val (.int pd), .val (.ref by1), .val (.long qa), .second, .unset, .unset, .unset, .unset, .unset] [(.int pd)]))
    refine Fin.step (fun _ => XS.iconst Xy2.here hx rfl (hb hby at_29)) ?_
    show Fin p e below s _ _ _ (Ty2.setTop (mkF m 30 #[.val (.long qa), .second, .val (.int pl), .val (.int pk), .val (.long qb), .second, .val (.int pm), .val (.int pd), .val (.ref by1), .val (.long qa), .second, .unset, .unset, .unset, .unset, .unset] [(.int (2 : Int32)), (.int pd)]))
    refine Fin.step (fun _ => XS.iand Xy2.here hx rfl (hb hby at_30) rfl) ?_
    show Fin p e below s _ _ _ (Ty2.setTop (mkF m 31 #[.val (.long qa), .second, .val (.int pl), .val (.int pk), .val (.long qb), .second, .val (.int pm), .val (.int pd), .val (.ref by1), .val (.long qa), .second, .unset, .unset, .unset, .unset, .unset] [(.int (pd &&& (2 : Int32)))]))
    by_cases hcy33 : (pd &&& (2 : Int32)) = (0 : Int32)
    · refine Fin.step (fun _ => XS.ifYes Xy2.here hx rfl (pc0 := 31) (pc' := 39) rfl (hb hby at_31) rfl ((if0 _ _).trans (teq (hcy33 : ((pd &&& (2 : Int32)) = (0 : Int32)))).1) (by decide) (by decide)) ?_
      show Fin p e below s _ _ _ (Ty2.setTop (mkF m 39 #[.val (.long qa), .second, .val (.int pl), .val (.int pk), .val (.long qb), .second, .val (.int pm), .val (.int pd), .val (.ref by1), .val (.long qa), .second, .unset, .unset, .unset, .unset, .unset] []))
      refine Fin.step (fun _ => XS.iloadN Xy2.here hx rfl (hb hby at_39) rfl) ?_
      show Fin p e below s _ _ _ (Ty2.setTop (mkF m 40 #[.val (.long qa), .second, .val (.int pl), .val (.int pk), .val (.long qb), .second, .val (.int pm), .val (.int pd), .val (.ref by1), .val (.long qa), .second, .unset, .unset, .unset, .unset, .unset] [(.int pl)]))
      refine Fin.step (fun _ => XS.istore Xy2.here hx rfl (hb hby at_40) rfl (l' := #[.val (.long qa), .second, .val (.int pl), .val (.int pk), .val (.long qb), .second, .val (.int pm), .val (.int pd), .val (.ref by1), .val (.long qa), .second, .val (.int pl), .unset, .unset, .unset, .unset]) rfl) ?_
      show Fin p e below s _ _ _ (Ty2.setTop (mkF m 42 #[.val (.long qa), .second, .val (.int pl), .val (.int pk), .val (.long qb), .second, .val (.int pm), .val (.int pd), .val (.ref by1), .val (.long qa), .second, .val (.int pl), .unset, .unset, .unset, .unset] []))
      refine Fin.step (fun _ => XS.iload Xy2.here hx rfl (hb hby at_42) rfl) ?_
      show Fin p e below s _ _ _ (Ty2.setTop (mkF m 44 #[.val (.long qa), .second, .val (.int pl), .val (.int pk), .val (.long qb), .second, .val (.int pm), .val (.int pd), .val (.ref by1), .val (.long qa), .second, .val (.int pl), .unset, .unset, .unset, .unset] [(.int pd)]))
      refine Fin.step (fun _ => XS.iconst Xy2.here hx rfl (hb hby at_44)) ?_
      show Fin p e below s _ _ _ (Ty2.setTop (mkF m 45 #[.val (.long qa), .second, .val (.int pl), .val (.int pk), .val (.long qb), .second, .val (.int pm), .val (.int pd), .val (.ref by1), .val (.long qa), .second, .val (.int pl), .unset, .unset, .unset, .unset] [(.int (4 : Int32)), (.int pd)]))
      refine Fin.step (fun _ => XS.iand Xy2.here hx rfl (hb hby at_45) rfl) ?_
      show Fin p e below s _ _ _ (Ty2.setTop (mkF m 46 #[.val (.long qa), .second, .val (.int pl), .val (.int pk), .val (.long qb), .second, .val (.int pm), .val (.int pd), .val (.ref by1), .val (.long qa), .second, .val (.int pl), .unset, .unset, .unset, .unset] [(.int (pd &&& (4 : Int32)))]))
      by_cases hcy34 : (pd &&& (4 : Int32)) = (0 : Int32)
      · refine Fin.step (fun _ => XS.ifYes Xy2.here hx rfl (pc0 := 46) (pc' := 54) rfl (hb hby at_46) rfl ((if0 _ _).trans (teq (hcy34 : ((pd &&& (4 : Int32)) = (0 : Int32)))).1) (by decide) (by decide)) ?_
        show Fin p e below s _ _ _ (Ty2.setTop (mkF m 54 #[.val (.long qa), .second, .val (.int pl), .val (.int pk), .val (.long qb), .second, .val (.int pm), .val (.int pd), .val (.ref by1), .val (.long qa), .second, .val (.int pl), .unset, .unset, .unset, .unset] []))
        refine Fin.step (fun _ => XS.iloadN Xy2.here hx rfl (hb hby at_54) rfl) ?_
        show Fin p e below s _ _ _ (Ty2.setTop (mkF m 55 #[.val (.long qa), .second, .val (.int pl), .val (.int pk), .val (.long qb), .second, .val (.int pm), .val (.int pd), .val (.ref by1), .val (.long qa), .second, .val (.int pl), .unset, .unset, .unset, .unset] [(.int pk)]))
        refine Fin.step (fun _ => XS.istore Xy2.here hx rfl (hb hby at_55) rfl (l' := #[.val (.long qa), .second, .val (.int pl), .val (.int pk), .val (.long qb), .second, .val (.int pm), .val (.int pd), .val (.ref by1), .val (.long qa), .second, .val (.int pl), .val (.int pk), .unset, .unset, .unset]) rfl) ?_
        show Fin p e below s _ _ _ (Ty2.setTop (mkF m 57 #[.val (.long qa), .second, .val (.int pl), .val (.int pk), .val (.long qb), .second, .val (.int pm), .val (.int pd), .val (.ref by1), .val (.long qa), .second, .val (.int pl), .val (.int pk), .unset, .unset, .unset] []))
        exact tail _ _ _
      · refine Fin.step (fun _ => XS.ifNo Xy2.here hx rfl (hb hby at_46) rfl ((if0 _ _).trans (feq (hcy34 : ¬ ((pd &&& (4 : Int32)) = (0 : Int32)))).1)) ?_
        show Fin p e below s _ _ _ (Ty2.setTop (mkF m 49 #[.val (.long qa), .second, .val (.int pl), .val (.int pk), .val (.long qb), .second, .val (.int pm), .val (.int pd), .val (.ref by1), .val (.long qa), .second, .val (.int pl), .unset, .unset, .unset, .unset] []))
        refine Fin.step (fun _ => XS.iload Xy2.here hx rfl (hb hby at_49) rfl) ?_
        show Fin p e below s _ _ _ (Ty2.setTop (mkF m 51 #[.val (.long qa), .second, .val (.int pl), .val (.int pk), .val (.long qb), .second, .val (.int pm), .val (.int pd), .val (.ref by1), .val (.long qa), .second, .val (.int pl), .unset, .unset, .unset, .unset] [(.int pd)]))
        refine Fin.step (fun _ => XS.goto Xy2.here hx rfl (pc0 := 51) (pc' := 55) rfl (hb hby at_51) (by decide) (by decide)) ?_
        show Fin p e below s _ _ _ (Ty2.setTop (mkF m 55 #[.val (.long qa), .second, .val (.int pl), .val (.int pk), .val (.long qb), .second, .val (.int pm), .val (.int pd), .val (.ref by1), .val (.long qa), .second, .val (.int pl), .unset, .unset, .unset, .unset] [(.int pd)]))
        refine Fin.step (fun _ => XS.istore Xy2.here hx rfl (hb hby at_55) rfl (l' := #[.val (.long qa), .second, .val (.int pl), .val (.int pk), .val (.long qb), .second, .val (.int pm), .val (.int pd), .val (.ref by1), .val (.long qa), .second, .val (.int pl), .val (.int pd), .unset, .unset, .unset]) rfl) ?_
        show Fin p e below s _ _ _ (Ty2.setTop (mkF m 57 #[.val (.long qa), .second, .val (.int pl), .val (.int pk), .val (.long qb), .second, .val (.int pm), .val (.int pd), .val (.ref by1), .val (.long qa), .second, .val (.int pl), .val (.int pd), .unset, .unset, .unset] []))
        exact tail _ _ _
    · refine Fin.step (fun _ => XS.ifNo Xy2.here hx rfl (hb hby at_31) rfl ((if0 _ _).trans (feq (hcy33 : ¬ ((pd &&& (2 : Int32)) = (0 : Int32)))).1)) ?_
      show Fin p e below s _ _ _ (Ty2.setTop (mkF m 34 #[.val (.long qa), .second, .val (.int pl), .val (.int pk), .val (.long qb), .second, .val (.int pm), .val (.int pd), .val (.ref by1), .val (.long qa), .second, .unset, .unset, .unset, .unset, .unset] []))
      refine Fin.step (fun _ => XS.iload Xy2.here hx rfl (hb hby at_34) rfl) ?_
      show Fin p e below s _ _ _ (Ty2.setTop (mkF m 36 #[.val (.long qa), .second, .val (.int pl), .val (.int pk), .val (.long qb), .second, .val (.int pm), .val (.int pd), .val (.ref by1), .val (.long qa), .second, .unset, .unset, .unset, .unset, .unset] [(.int pm)]))
      refine Fin.step (fun _ => XS.goto Xy2.here hx rfl (pc0 := 36) (pc' := 40) rfl (hb hby at_36) (by decide) (by decide)) ?_
      show Fin p e below s _ _ _ (Ty2.setTop (mkF m 40 #[.val (.long qa), .second, .val (.int pl), .val (.int pk), .val (.long qb), .second, .val (.int pm), .val (.int pd), .val (.ref by1), .val (.long qa), .second, .unset, .unset, .unset, .unset, .unset] [(.int pm)]))
      refine Fin.step (fun _ => XS.istore Xy2.here hx rfl (hb hby at_40) rfl (l' := #[.val (.long qa), .second, .val (.int pl), .val (.int pk), .val (.long qb), .second, .val (.int pm), .val (.int pd), .val (.ref by1), .val (.long qa), .second, .val (.int pm), .unset, .unset, .unset, .unset]) rfl) ?_
      show Fin p e below s _ _ _ (Ty2.setTop (mkF m 42 #[.val (.long qa), .second, .val (.int pl), .val (.int pk), .val (.long qb), .second, .val (.int pm), .val (.int pd), .val (.ref by1), .val (.long qa), .second, .val (.int pm), .unset, .unset, .unset, .unset] []))
      refine Fin.step (fun _ => XS.iload Xy2.here hx rfl (hb hby at_42) rfl) ?_
      show Fin p e below s _ _ _ (Ty2.setTop (mkF m 44 #[.val (.long qa), .second, .val (.int pl), .val (.int pk), .val (.long qb), .second, .val (.int pm), .val (.int pd), .val (.ref by1), .val (.long qa), .second, .val (.int pm), .unset, .unset, .unset, .unset] [(.int pd)]))
      refine Fin.step (fun _ => XS.iconst Xy2.here hx rfl (hb hby at_44)) ?_
      show Fin p e below s _ _ _ (Ty2.setTop (mkF m 45 #[.val (.long qa), .second, .val (.int pl), .val (.int pk), .val (.long qb), .second, .val (.int pm), .val (.int pd), .val (.ref by1), .val (.long qa), .second, .val (.int pm), .unset, .unset, .unset, .unset] [(.int (4 : Int32)), (.int pd)]))
      refine Fin.step (fun _ => XS.iand Xy2.here hx rfl (hb hby at_45) rfl) ?_
      show Fin p e below s _ _ _ (Ty2.setTop (mkF m 46 #[.val (.long qa), .second, .val (.int pl), .val (.int pk), .val (.long qb), .second, .val (.int pm), .val (.int pd), .val (.ref by1), .val (.long qa), .second, .val (.int pm), .unset, .unset, .unset, .unset] [(.int (pd &&& (4 : Int32)))]))
      by_cases hcy35 : (pd &&& (4 : Int32)) = (0 : Int32)
      · refine Fin.step (fun _ => XS.ifYes Xy2.here hx rfl (pc0 := 46) (pc' := 54) rfl (hb hby at_46) rfl ((if0 _ _).trans (teq (hcy35 : ((pd &&& (4 : Int32)) = (0 : Int32)))).1) (by decide) (by decide)) ?_
        show Fin p e below s _ _ _ (Ty2.setTop (mkF m 54 #[.val (.long qa), .second, .val (.int pl), .val (.int pk), .val (.long qb), .second, .val (.int pm), .val (.int pd), .val (.ref by1), .val (.long qa), .second, .val (.int pm), .unset, .unset, .unset, .unset] []))
        refine Fin.step (fun _ => XS.iloadN Xy2.here hx rfl (hb hby at_54) rfl) ?_
        show Fin p e below s _ _ _ (Ty2.setTop (mkF m 55 #[.val (.long qa), .second, .val (.int pl), .val (.int pk), .val (.long qb), .second, .val (.int pm), .val (.int pd), .val (.ref by1), .val (.long qa), .second, .val (.int pm), .unset, .unset, .unset, .unset] [(.int pk)]))
        refine Fin.step (fun _ => XS.istore Xy2.here hx rfl (hb hby at_55) rfl (l' := #[.val (.long qa), .second, .val (.int pl), .val (.int pk), .val (.long qb), .second, .val (.int pm), .val (.int pd), .val (.ref by1), .val (.long qa), .second, .val (.int pm), .val (.int pk), .unset, .unset, .unset]) rfl) ?_
        show Fin p e below s _ _ _ (Ty2.setTop (mkF m 57 #[.val (.long qa), .second, .val (.int pl), .val (.int pk), .val (.long qb), .second, .val (.int pm), .val (.int pd), .val (.ref by1), .val (.long qa), .second, .val (.int pm), .val (.int pk), .unset, .unset, .unset] []))
        exact tail _ _ _
      · refine Fin.step (fun _ => XS.ifNo Xy2.here hx rfl (hb hby at_46) rfl ((if0 _ _).trans (feq (hcy35 : ¬ ((pd &&& (4 : Int32)) = (0 : Int32)))).1)) ?_
        show Fin p e below s _ _ _ (Ty2.setTop (mkF m 49 #[.val (.long qa), .second, .val (.int pl), .val (.int pk), .val (.long qb), .second, .val (.int pm), .val (.int pd), .val (.ref by1), .val (.long qa), .second, .val (.int pm), .unset, .unset, .unset, .unset] []))
        refine Fin.step (fun _ => XS.iload Xy2.here hx rfl (hb hby at_49) rfl) ?_
        show Fin p e below s _ _ _ (Ty2.setTop (mkF m 51 #[.val (.long qa), .second, .val (.int pl), .val (.int pk), .val (.long qb), .second, .val (.int pm), .val (.int pd), .val (.ref by1), .val (.long qa), .second, .val (.int pm), .unset, .unset, .unset, .unset] [(.int pd)]))
        refine Fin.step (fun _ => XS.goto Xy2.here hx rfl (pc0 := 51) (pc' := 55) rfl (hb hby at_51) (by decide) (by decide)) ?_
        show Fin p e below s _ _ _ (Ty2.setTop (mkF m 55 #[.val (.long qa), .second, .val (.int pl), .val (.int pk), .val (.long qb), .second, .val (.int pm), .val (.int pd), .val (.ref by1), .val (.long qa), .second, .val (.int pm), .unset, .unset, .unset, .unset] [(.int pd)]))
        refine Fin.step (fun _ => XS.istore Xy2.here hx rfl (hb hby at_55) rfl (l' := #[.val (.long qa), .second, .val (.int pl), .val (.int pk), .val (.long qb), .second, .val (.int pm), .val (.int pd), .val (.ref by1), .val (.long qa), .second, .val (.int pm), .val (.int pd), .unset, .unset, .unset]) rfl) ?_
        show Fin p e below s _ _ _ (Ty2.setTop (mkF m 57 #[.val (.long qa), .second, .val (.int pl), .val (.int pk), .val (.long qb), .second, .val (.int pm), .val (.int pd), .val (.ref by1), .val (.long qa), .second, .val (.int pm), .val (.int pd), .unset, .unset, .unset] []))
        exact tail _ _ _
  · refine Fin.step (fun _ => XS.ifNo Xy2.here hx rfl (hb hby at_16) rfl ((if0 _ _).trans (feq (hcy32 : ¬ ((pd &&& (1 : Int32)) = (0 : Int32)))).1)) ?_
    show Fin p e below s _ _ _ (Ty2.setTop (mkF m 19 #[.val (.long qa), .second, .val (.int pl), .val (.int pk), .val (.long qb), .second, .val (.int pm), .val (.int pd), .val (.ref by1), .unset, .unset, .unset, .unset, .unset, .unset, .unset] []))
    refine Fin.step (fun _ => XS.lload Xy2.here hx rfl (hb hby at_19) rfl) ?_
    show Fin p e below s _ _ _ (Ty2.setTop (mkF m 21 #[.val (.long qa), .second, .val (.int pl), .val (.int pk), .val (.long qb), .second, .val (.int pm), .val (.int pd), .val (.ref by1), .unset, .unset, .unset, .unset, .unset, .unset, .unset] [(.long qb)]))
    refine Fin.step (fun _ => XS.goto Xy2.here hx rfl (pc0 := 21) (pc' := 25) rfl (hb hby at_21) (by decide) (by decide)) ?_
    show Fin p e below s _ _ _ (Ty2.setTop (mkF m 25 #[.val (.long qa), .second, .val (.int pl), .val (.int pk), .val (.long qb), .second, .val (.int pm), .val (.int pd), .val (.ref by1), .unset, .unset, .unset, .unset, .unset, .unset, .unset] [(.long qb)]))
    refine Fin.step (fun _ => XS.lstore Xy2.here hx rfl (hb hby at_25) rfl (l' := #[.val (.long qa), .second, .val (.int pl), .val (.int pk), .val (.long qb), .second, .val (.int pm), .val (.int pd), .val (.ref by1), .val (.long qb), .second, .unset, .unset, .unset, .unset, .unset]) rfl) ?_
    show Fin p e below s _ _ _ (Ty2.setTop (mkF m 27 #[.val (.long qa), .second, .val (.int pl), .val (.int pk), .val (.long qb), .second, .val (.int pm), .val (.int pd), .val (.ref by1), .val (.long qb), .second, .unset, .unset, .unset, .unset, .unset] []))
    refine Fin.step (fun _ => XS.iload Xy2.here hx rfl (hb hby at_27) rfl) ?_
    show Fin p e below s _ _ _ (Ty2.setTop (mkF m 29 #[.val (.long qa), .second, .val (.int pl), .val (.int pk), .val (.long qb), .second, .val (.int pm), .val (.int pd), .val (.ref by1), .val (.long qb), .second, .unset, .unset, .unset, .unset, .unset] [(.int pd)]))
    refine Fin.step (fun _ => XS.iconst Xy2.here hx rfl (hb hby at_29)) ?_
    show Fin p e below s _ _ _ (Ty2.setTop (mkF m 30 #[.val (.long qa), .second, .val (.int pl), .val (.int pk), .val (.long qb), .second, .val (.int pm), .val (.int pd), .val (.ref by1), .val (.long qb), .second, .unset, .unset, .unset, .unset, .unset] [(.int (2 : Int32)), (.int pd)]))
    refine Fin.step (fun _ => XS.iand Xy2.here hx rfl (hb hby at_30) rfl) ?_
    show Fin p e below s _ _ _ (Ty2.setTop (mkF m 31 #[.val (.long qa), .second, .val (.int pl), .val (.int pk), .val (.long qb), .second, .val (.int pm), .val (.int pd), .val (.ref by1), .val (.long qb), .second, .unset, .unset, .unset, .unset, .unset] [(.int (pd &&& (2 : Int32)))]))
    by_cases hcy36 : (pd &&& (2 : Int32)) = (0 : Int32)
    · refine Fin.step (fun _ => XS.ifYes Xy2.here hx rfl (pc0 := 31) (pc' := 39) rfl (hb hby at_31) rfl ((if0 _ _).trans (teq (hcy36 : ((pd &&& (2 : Int32)) = (0 : Int32)))).1) (by decide) (by decide)) ?_
      show Fin p e below s _ _ _ (Ty2.setTop (mkF m 39 #[.val (.long qa), .second, .val (.int pl), .val (.int pk), .val (.long qb), .second, .val (.int pm), .val (.int pd), .val (.ref by1), .val (.long qb), .second, .unset, .unset, .unset, .unset, .unset] []))
      refine Fin.step (fun _ => XS.iloadN Xy2.here hx rfl (hb hby at_39) rfl) ?_
      show Fin p e below s _ _ _ (Ty2.setTop (mkF m 40 #[.val (.long qa), .second, .val (.int pl), .val (.int pk), .val (.long qb), .second, .val (.int pm), .val (.int pd), .val (.ref by1), .val (.long qb), .second, .unset, .unset, .unset, .unset, .unset] [(.int pl)]))
      refine Fin.step (fun _ => XS.istore Xy2.here hx rfl (hb hby at_40) rfl (l' := #[.val (.long qa), .second, .val (.int pl), .val (.int pk), .val (.long qb), .second, .val (.int pm), .val (.int pd), .val (.ref by1), .val (.long qb), .second, .val (.int pl), .unset, .unset, .unset, .unset]) rfl) ?_
      show Fin p e below s _ _ _ (Ty2.setTop (mkF m 42 #[.val (.long qa), .second, .val (.int pl), .val (.int pk), .val (.long qb), .second, .val (.int pm), .val (.int pd), .val (.ref by1), .val (.long qb), .second, .val (.int pl), .unset, .unset, .unset, .unset] []))
      refine Fin.step (fun _ => XS.iload Xy2.here hx rfl (hb hby at_42) rfl) ?_
      show Fin p e below s _ _ _ (Ty2.setTop (mkF m 44 #[.val (.long qa), .second, .val (.int pl), .val (.int pk), .val (.long qb), .second, .val (.int pm), .val (.int pd), .val (.ref by1), .val (.long qb), .second, .val (.int pl), .unset, .unset, .unset, .unset] [(.int pd)]))
      refine Fin.step (fun _ => XS.iconst Xy2.here hx rfl (hb hby at_44)) ?_
      show Fin p e below s _ _ _ (Ty2.setTop (mkF m 45 #[.val (.long qa), .second, .val (.int pl), .val (.int pk), .val (.long qb), .second, .val (.int pm), .val (.int pd), .val (.ref by1), .val (.long qb), .second, .val (.int pl), .unset, .unset, .unset, .unset] [(.int (4 : Int32)), (.int pd)]))
      refine Fin.step (fun _ => XS.iand Xy2.here hx rfl (hb hby at_45) rfl) ?_
      show Fin p e below s _ _ _ (Ty2.setTop (mkF m 46 #[.val (.long qa), .second, .val (.int pl), .val (.int pk), .val (.long qb), .second, .val (.int pm), .val (.int pd), .val (.ref by1), .val (.long qb), .second, .val (.int pl), .unset, .unset, .unset, .unset] [(.int (pd &&& (4 : Int32)))]))
      by_cases hcy37 : (pd &&& (4 : Int32)) = (0 : Int32)
      · refine Fin.step (fun _ => XS.ifYes Xy2.here hx rfl (pc0 := 46) (pc' := 54) rfl (hb hby at_46) rfl ((if0 _ _).trans (teq (hcy37 : ((pd &&& (4 : Int32)) = (0 : Int32)))).1) (by decide) (by decide)) ?_
        show Fin p e below s _ _ _ (Ty2.setTop (mkF m 54 #[.val (.long qa), .second, .val (.int pl), .val (.int pk), .val (.long qb), .second, .val (.int pm), .val (.int pd), .val (.ref by1), .val (.long qb), .second, .val (.int pl), .unset, .unset, .unset, .unset] []))
        refine Fin.step (fun _ => XS.iloadN Xy2.here hx rfl (hb hby at_54) rfl) ?_
        show Fin p e below s _ _ _ (Ty2.setTop (mkF m 55 #[.val (.long qa), .second, .val (.int pl), .val (.int pk), .val (.long qb), .second, .val (.int pm), .val (.int pd), .val (.ref by1), .val (.long qb), .second, .val (.int pl), .unset, .unset, .unset, .unset] [(.int pk)]))
        refine Fin.step (fun _ => XS.istore Xy2.here hx rfl (hb hby at_55) rfl (l' := #[.val (.long qa), .second, .val (.int pl), .val (.int pk), .val (.long qb), .second, .val (.int pm), .val (.int pd), .val (.ref by1), .val (.long qb), .second, .val (.int pl), .val (.int pk), .unset, .unset, .unset]) rfl) ?_
        show Fin p e below s _ _ _ (Ty2.setTop (mkF m 57 #[.val (.long qa), .second, .val (.int pl), .val (.int pk), .val (.long qb), .second, .val (.int pm), .val (.int pd), .val (.ref by1), .val (.long qb), .second, .val (.int pl), .val (.int pk), .unset, .unset, .unset] []))
        exact tail _ _ _
      · refine Fin.step (fun _ => XS.ifNo Xy2.here hx rfl (hb hby at_46) rfl ((if0 _ _).trans (feq (hcy37 : ¬ ((pd &&& (4 : Int32)) = (0 : Int32)))).1)) ?_
        show Fin p e below s _ _ _ (Ty2.setTop (mkF m 49 #[.val (.long qa), .second, .val (.int pl), .val (.int pk), .val (.long qb), .second, .val (.int pm), .val (.int pd), .val (.ref by1), .val (.long qb), .second, .val (.int pl), .unset, .unset, .unset, .unset] []))
        refine Fin.step (fun _ => XS.iload Xy2.here hx rfl (hb hby at_49) rfl) ?_
        show Fin p e below s _ _ _ (Ty2.setTop (mkF m 51 #[.val (.long qa), .second, .val (.int pl), .val (.int pk), .val (.long qb), .second, .val (.int pm), .val (.int pd), .val (.ref by1), .val (.long qb), .second, .val (.int pl), .unset, .unset, .unset, .unset] [(.int pd)]))
        refine Fin.step (fun _ => XS.goto Xy2.here hx rfl (pc0 := 51) (pc' := 55) rfl (hb hby at_51) (by decide) (by decide)) ?_
        show Fin p e below s _ _ _ (Ty2.setTop (mkF m 55 #[.val (.long qa), .second, .val (.int pl), .val (.int pk), .val (.long qb), .second, .val (.int pm), .val (.int pd), .val (.ref by1), .val (.long qb), .second, .val (.int pl), .unset, .unset, .unset, .unset] [(.int pd)]))
        refine Fin.step (fun _ => XS.istore Xy2.here hx rfl (hb hby at_55) rfl (l' := #[.val (.long qa), .second, .val (.int pl), .val (.int pk), .val (.long qb), .second, .val (.int pm), .val (.int pd), .val (.ref by1), .val (.long qb), .second, .val (.int pl), .val (.int pd), .unset, .unset, .unset]) rfl) ?_
        show Fin p e below s _ _ _ (Ty2.setTop (mkF m 57 #[.val (.long qa), .second, .val (.int pl), .val (.int pk), .val (.long qb), .second, .val (.int pm), .val (.int pd), .val (.ref by1), .val (.long qb), .second, .val (.int pl), .val (.int pd), .unset, .unset, .unset] []))
        exact tail _ _ _
    · refine Fin.step (fun _ => XS.ifNo Xy2.here hx rfl (hb hby at_31) rfl ((if0 _ _).trans (feq (hcy36 : ¬ ((pd &&& (2 : Int32)) = (0 : Int32)))).1)) ?_
      show Fin p e below s _ _ _ (Ty2.setTop (mkF m 34 #[.val (.long qa), .second, .val (.int pl), .val (.int pk), .val (.long qb), .second, .val (.int pm), .val (.int pd), .val (.ref by1), .val (.long qb), .second, .unset, .unset, .unset, .unset, .unset] []))
      refine Fin.step (fun _ => XS.iload Xy2.here hx rfl (hb hby at_34) rfl) ?_
      show Fin p e below s _ _ _ (Ty2.setTop (mkF m 36 #[.val (.long qa), .second, .val (.int pl), .val (.int pk), .val (.long qb), .second, .val (.int pm), .val (.int pd), .val (.ref by1), .val (.long qb), .second, .unset, .unset, .unset, .unset, .unset] [(.int pm)]))
      refine Fin.step (fun _ => XS.goto Xy2.here hx rfl (pc0 := 36) (pc' := 40) rfl (hb hby at_36) (by decide) (by decide)) ?_
      show Fin p e below s _ _ _ (Ty2.setTop (mkF m 40 #[.val (.long qa), .second, .val (.int pl), .val (.int pk), .val (.long qb), .second, .val (.int pm), .val (.int pd), .val (.ref by1), .val (.long qb), .second, .unset, .unset, .unset, .unset, .unset] [(.int pm)]))
      refine Fin.step (fun _ => XS.istore Xy2.here hx rfl (hb hby at_40) rfl (l' := #[.val (.long qa), .second, .val (.int pl), .val (.int pk), .val (.long qb), .second, .val (.int pm), .val (.int pd), .val (.ref by1), .val (.long qb), .second, .val (.int pm), .unset, .unset, .unset, .unset]) rfl) ?_
      show Fin p e below s _ _ _ (Ty2.setTop (mkF m 42 #[.val (.long qa), .second, .val (.int pl), .val (.int pk), .val (.long qb), .second, .val (.int pm), .val (.int pd), .val (.ref by1), .val (.long qb), .second, .val (.int pm), .unset, .unset, .unset, .unset] []))
      refine Fin.step (fun _ => XS.iload Xy2.here hx rfl (hb hby at_42) rfl) ?_
      show Fin p e below s _ _ _ (Ty2.setTop (mkF m 44 #[.val (.long qa), .second, .val (.int pl), .val (.int pk), .val (.long qb), .second, .val (.int pm), .val (.int pd), .val (.ref by1), .val (.long qb), .second, .val (.int pm), .unset, .unset, .unset, .unset] [(.int pd)]))
      refine Fin.step (fun _ => XS.iconst Xy2.here hx rfl (hb hby at_44)) ?_
      show Fin p e below s _ _ _ (Ty2.setTop (mkF m 45 #[.val (.long qa), .second, .val (.int pl), .val (.int pk), .val (.long qb), .second, .val (.int pm), .val (.int pd), .val (.ref by1), .val (.long qb), .second, .val (.int pm), .unset, .unset, .unset, .unset] [(.int (4 : Int32)), (.int pd)]))
      refine Fin.step (fun _ => XS.iand Xy2.here hx rfl (hb hby at_45) rfl) ?_
      show Fin p e below s _ _ _ (Ty2.setTop (mkF m 46 #[.val (.long qa), .second, .val (.int pl), .val (.int pk), .val (.long qb), .second, .val (.int pm), .val (.int pd), .val (.ref by1), .val (.long qb), .second, .val (.int pm), .unset, .unset, .unset, .unset] [(.int (pd &&& (4 : Int32)))]))
      by_cases hcy38 : (pd &&& (4 : Int32)) = (0 : Int32)
      · refine Fin.step (fun _ => XS.ifYes Xy2.here hx rfl (pc0 := 46) (pc' := 54) rfl (hb hby at_46) rfl ((if0 _ _).trans (teq (hcy38 : ((pd &&& (4 : Int32)) = (0 : Int32)))).1) (by decide) (by decide)) ?_
        show Fin p e below s _ _ _ (Ty2.setTop (mkF m 54 #[.val (.long qa), .second, .val (.int pl), .val (.int pk), .val (.long qb), .second, .val (.int pm), .val (.int pd), .val (.ref by1), .val (.long qb), .second, .val (.int pm), .unset, .unset, .unset, .unset] []))
        refine Fin.step (fun _ => XS.iloadN Xy2.here hx rfl (hb hby at_54) rfl) ?_
        show Fin p e below s _ _ _ (Ty2.setTop (mkF m 55 #[.val (.long qa), .second, .val (.int pl), .val (.int pk), .val (.long qb), .second, .val (.int pm), .val (.int pd), .val (.ref by1), .val (.long qb), .second, .val (.int pm), .unset, .unset, .unset, .unset] [(.int pk)]))
        refine Fin.step (fun _ => XS.istore Xy2.here hx rfl (hb hby at_55) rfl (l' := #[.val (.long qa), .second, .val (.int pl), .val (.int pk), .val (.long qb), .second, .val (.int pm), .val (.int pd), .val (.ref by1), .val (.long qb), .second, .val (.int pm), .val (.int pk), .unset, .unset, .unset]) rfl) ?_
        show Fin p e below s _ _ _ (Ty2.setTop (mkF m 57 #[.val (.long qa), .second, .val (.int pl), .val (.int pk), .val (.long qb), .second, .val (.int pm), .val (.int pd), .val (.ref by1), .val (.long qb), .second, .val (.int pm), .val (.int pk), .unset, .unset, .unset] []))
        exact tail _ _ _
      · refine Fin.step (fun _ => XS.ifNo Xy2.here hx rfl (hb hby at_46) rfl ((if0 _ _).trans (feq (hcy38 : ¬ ((pd &&& (4 : Int32)) = (0 : Int32)))).1)) ?_
        show Fin p e below s _ _ _ (Ty2.setTop (mkF m 49 #[.val (.long qa), .second, .val (.int pl), .val (.int pk), .val (.long qb), .second, .val (.int pm), .val (.int pd), .val (.ref by1), .val (.long qb), .second, .val (.int pm), .unset, .unset, .unset, .unset] []))
        refine Fin.step (fun _ => XS.iload Xy2.here hx rfl (hb hby at_49) rfl) ?_
        show Fin p e below s _ _ _ (Ty2.setTop (mkF m 51 #[.val (.long qa), .second, .val (.int pl), .val (.int pk), .val (.long qb), .second, .val (.int pm), .val (.int pd), .val (.ref by1), .val (.long qb), .second, .val (.int pm), .unset, .unset, .unset, .unset] [(.int pd)]))
        refine Fin.step (fun _ => XS.goto Xy2.here hx rfl (pc0 := 51) (pc' := 55) rfl (hb hby at_51) (by decide) (by decide)) ?_
        show Fin p e below s _ _ _ (Ty2.setTop (mkF m 55 #[.val (.long qa), .second, .val (.int pl), .val (.int pk), .val (.long qb), .second, .val (.int pm), .val (.int pd), .val (.ref by1), .val (.long qb), .second, .val (.int pm), .unset, .unset, .unset, .unset] [(.int pd)]))
        refine Fin.step (fun _ => XS.istore Xy2.here hx rfl (hb hby at_55) rfl (l' := #[.val (.long qa), .second, .val (.int pl), .val (.int pk), .val (.long qb), .second, .val (.int pm), .val (.int pd), .val (.ref by1), .val (.long qb), .second, .val (.int pm), .val (.int pd), .unset, .unset, .unset]) rfl) ?_
        show Fin p e below s _ _ _ (Ty2.setTop (mkF m 57 #[.val (.long qa), .second, .val (.int pl), .val (.int pk), .val (.long qb), .second, .val (.int pm), .val (.int pd), .val (.ref by1), .val (.long qb), .second, .val (.int pm), .val (.int pd), .unset, .unset, .unset] []))
        exact tail _ _ _
theorem own_eqv {args : Array Value} {s : State} {t : Term} {k : Int32} (h : (Cond.eq t (.int k)).value args s none s [] = some true) : t.eval args s none [] s = some (.int k) := by
  obtain ⟨x, y, hx, hy, h1, h2⟩ := cmp_v (Or.inl h)
  cases (Option.some.inj ((Term.int_eval k).symm.trans hy))
  obtain ⟨z, rfl⟩ := h2
  rw [hx]
  exact congrArg (fun z => some (Value.int z)) (gotT (Cond.eq_ints hx hy) h)
theorem own_cache {args : Array Value} {s : State} {t : Term} {ca : Addr} (ev : ∀ idx, t.eval args s none idx s = some (.ref ca)) (h4 : (Cond.arrayOf t (.object "java/lang/Integer")).value args s none s [] = some true) (h6 : (Term.length t).eval args s none [] s = some (.int (256 : Int32)))
    (h7 : (Cond.all t (Cond.and (Cond.exactly (Term.elem t (Term.index 0)) "java/lang/Integer") (Cond.eq (Term.field (Term.elem t (Term.index 0)) "java/lang/Integer" "value" "I") (Term.sub (Term.index 0) (Term.int 128))))).before args s = true) : own_ca s s.heap ca := by
  obtain ⟨cl, A⟩ := Arr.start (ev []) h4
  obtain ⟨a', cl', e1, e2, e3⟩ := Term.length_spec h6
  cases (Value.ref.inj (Option.some.inj ((ev []).symm.trans e1)))
  have hat : s.arrayAt? ca = some cl := Arr.fin (State.Warmed39.refl s).alike A
  cases hat.symm.trans e2
  have hsz : 256 ≤ cl.slots.size := by
    have e4 : (256 : Int32) = cl.slots.size.toInt32 := Value.int.inj e3
    have e5 : (256 : Int32).toBitVec.toNat = cl.slots.size.toInt32.toBitVec.toNat := by rw [← e4]
    have e6 : cl.slots.size.toInt32.toBitVec.toNat = cl.slots.size % 2 ^ 32 := by
      show (BitVec.ofNat 32 cl.slots.size).toNat = _
      exact BitVec.toNat_ofNat ..
    have e7 : (256 : Int32).toBitVec.toNat = 256 := rfl
    omega
  refine ⟨cl, A, fun w h1 h2 => ?_⟩
  rw [Int32.lt_iff_toInt_lt] at h1 h2
  have h1' : ¬ w.toInt < -128 := h1
  have h2' : ¬ 127 < w.toInt := h2
  have ea : (w + 128).toInt = w.toInt + 128 := Jvm.Kit.i32_add (q := 128) (by show _ ≤ w.toInt + 128; omega) (by show w.toInt + 128 < _; omega)
  have hj : ¬ (w + 128) < 0 := by rw [Int32.lt_iff_toInt_lt, ea]; show ¬ _ < (0 : Int); omega
  have hk : (w + 128).toNatClampNeg < 256 := by show (w + 128).toInt.toNat < 256; omega
  have q := Cond.all_elim (ev []) hat (Cond.before_iff.mp h7) (w + 128).toNatClampNeg (by omega)
  obtain ⟨q1, -⟩ := and_e q
  obtain ⟨box, eb⟩ := exa_v q1
  obtain ⟨r1, r2⟩ := elem_in eb (ev _) (idx_at hj) A.1
  exact ⟨box, r1, r2, exa_at eb q1⟩
set_option maxRecDepth 65536 in
set_option maxHeartbeats 40000000 in
theorem comes_1 {Post : Tables → Env → Array Value → State → Outcome → State → Prop} (hpost : ∀ tb e args s v u, (limb_1_1.after args s (.returned v) u = true ∧ limb_1_2.after args s (.returned v) u = true ∧ True) → FrameEnd s (.returned v) u (Jvm.fieldLocs frame_1_writes args s ++ Jvm.arrayLocs frame_1_arrays args s ++ Jvm.staticLocs frame_1_statics s) 16 128 → Post tb e args s (.returned v) u) :
    ArmFor flags0 classFile x code maxLocals ret World_1 tables_1 room_1 Calls_1 rest_1 Pre_1 Post := by
  intro l hfl _ _ p e ha hc hk s m args below hf hA hF happ hP
  obtain ⟨hcalls, hrest, hpre⟩ := hP
  obtain ⟨-, -, -, hnamed, -, -, -, hat⟩ := (Spec.applies_iff hf).mp happ
  obtain ⟨hg, hn⟩ := and_e (Cond.before_iff.mp (show (Jvm.Cond.and given_1 narrow_1).before args s = true from hpre))
  obtain ⟨gc, gr0⟩ := and_e hg
  obtain ⟨ga0, gr1⟩ := and_e gr0
  obtain ⟨ga1, gr2⟩ := and_e gr1
  obtain ⟨ga2, gr3⟩ := and_e gr2
  obtain ⟨ga3, gr4⟩ := and_e gr3
  obtain ⟨ga4, gr5⟩ := and_e gr4
  have ga5 := gr5
  obtain ⟨w0, w1, w2, w3, w4, w5, rfl⟩ : ∃ w0 w1 w2 w3 w4 w5 : Value, args = #[w0, w1, w2, w3, w4, w5] := by
    have hs : args.size = 6 := by simpa [Cond.value, given_1] using gc
    obtain ⟨L⟩ := args
    match L, hs with
    | [w0, w1, w2, w3, w4, w5], _ => exact ⟨w0, w1, w2, w3, w4, w5, rfl⟩
  have hw := fun d (hd : d ∈ tables_1) => atoms_spec (ws := Jvm.Cond.code x code maxLocals ret :: tables_1) hat d (List.mem_cons_of_mem _ hd)
  have hfit : Fit s := fun {y c} hc i hi => by
    obtain ⟨ha, rfl⟩ := Array.getElem?_eq_some_iff.mp hc
    have q := List.all_eq_true.mp ((Array.all_eq_true_iff_forall_mem.mp hF) _ (Array.getElem_mem ha)) i (List.mem_range.mpr hi)
    simpa [Array.getElem?_eq_getElem hi] using q
  obtain ⟨hsets, hown0⟩ := atoms_of _ (rest_1_c_eq ▸ (show rest_1_c.before _ s = true from hrest))
  have hr0 := Cond.before_iff.mp hown0
  obtain ⟨i0, ei0⟩ := isL_v ga0
  obtain rfl : w0 = (.long i0) := Option.some.inj ei0
  obtain ⟨i1, ei1⟩ := is_v ga1
  obtain rfl : w1 = (.int i1) := Option.some.inj ei1
  obtain ⟨i2, ei2⟩ := is_v ga2
  obtain rfl : w2 = (.int i2) := Option.some.inj ei2
  obtain ⟨i3, ei3⟩ := isL_v ga3
  obtain rfl : w3 = (.long i3) := Option.some.inj ei3
  obtain ⟨i4, ei4⟩ := is_v ga4
  obtain rfl : w4 = (.int i4) := Option.some.inj ei4
  obtain ⟨i5, ei5⟩ := is_v ga5
  obtain rfl : w5 = (.int i5) := Option.some.inj ei5
  have s3 := own_eqv (Cond.before_iff.mp (hsets _ (List.mem_of_getElem? (i := 3) rfl)))
  have s4 := Cond.before_iff.mp (hsets _ (List.mem_of_getElem? (i := 4) rfl))
  obtain ⟨ca, evc⟩ := arr_v s4
  have HS1 := Sta.start s3 (Or.inl (hsets _ (List.mem_of_getElem? (i := 1) rfl)))
  have HS2 := Sta.start evc (Or.inr ⟨(hw _ (List.mem_of_getElem? (i := 25) rfl)), hsets _ (List.mem_of_getElem? (i := 2) rfl)⟩)
  have HC : own_ca s s.heap ca := own_cache (fun _ => evc) s4 (own_eqv (Cond.before_iff.mp (hsets _ (List.mem_of_getElem? (i := 6) rfl)))) (hsets _ (List.mem_of_getElem? (i := 7) rfl))
  obtain ⟨n, o, h1, h2, h3, _, L, rfl, ⟨rfl, N, _⟩, hq⟩ := rm0 l s _ hw tables_1 i0 i1 i2 i3 i4 i5 ca s.heap s.heap.size (Nat.le_refl _) HS1 HS2 HC p e ha hc hk s m _ below hf ((Spec.applies_iff_loose hf).mp happ).1 ⟨rfl, State.Warmed39.refl s, rfl⟩ trivial
  refine ⟨n, _, h1, h2, h3, hpost _ _ _ _ _ _ ⟨Cond.after_iff.mpr rfl, Cond.after_iff.mpr (eq_i res_at (Term.int_eval (1)) rfl), trivial⟩ ⟨hq.1, hq.2.1, (hq.2.2.sift fun y hy => Or.inr (N y hy)).mono (by decide) (by decide)⟩⟩
theorem main_1_1 : Claimed_1_1 := comes_1 fun _ _ _ _ _ _ h hF => ⟨h.1, hF⟩
theorem main_1_2 : Claimed_1_2 := comes_1 fun _ _ _ _ _ _ h hF => ⟨h.2.1, hF⟩
end Jvm.Pilot.@@N@@
namespace Jvm.Pilot.@@N@@
open Jvm Jvm.ClassFile Sem Op Lib Jvm.Free Jvm.Stand Jvm.Pilot.@@N@@.Jvm.D
/-! MADE BY PROGRAM (witnessworld.py) out of the Statement's table words and the real class files: 17 classes; the members and pool entries that the words name. The judged class is class 1, her method 1. -/
namespace start1
open Jvm.ClassFile
def u (s : String) : CpInfo := .utf8 (stringToUtf16 s)
/-- a pool by its gaps: so many unusable entries, then the entry; so many at the end -/
def gap : Nat → List CpInfo → List CpInfo
  | 0, r => r
  | n + 1, r => .unusable :: gap n r
def poolList (es : List (Nat × CpInfo)) (last : Nat) : List CpInfo := es.foldr (fun e r => gap e.1 (e.2 :: r)) (gap last [])
def pool (es : List (Nat × CpInfo)) (last : Nat) : Array CpInfo := ⟨poolList es last⟩
def fileOf (pool : Array CpInfo) (this : Nat) (attrs : Array Attribute := #[]) (ms : Array MethodInfo := #[]) (fl : Nat := 33) (sup : Nat := 0) (ifs : Array Nat := #[]) (fds : Array FieldInfo := #[]) : ClassFile where
  minorVersion := 0
  majorVersion := 65
  constantPool := pool
  accessFlags := fl
  thisClass := this
  superClass := sup
  interfaces := ifs
  fields := fds
  methods := ms
  attributes := attrs
def plain (name : String) (sup : Option ClassId) : Class where
  name := name
  kind := .ordinary
  loader := none
  accessFlags := 33
  super := sup
  interfaces := #[]
  cf := none
  fields := #[]
  methods := #[]
  instanceTypes := #[]
  staticTypes := #[]
  resolved := #[]
  callSites := []
  init := .initialized
  statics := none
  mirror := none

def pool0 : Array CpInfo := pool [(5, u "<init>"), (0, u "()V"), (1, .class_ 10), (1, u "java/lang/Object")] 113

def k0c0 : Code := { maxStack := 0, maxLocals := 1, code := object_method_1_code, exceptionTable := #[], attributes := #[] }
def k0m0 : Method := { name := "<init>", desc := "()V", sig := { parameters := [], returnType := none }, accessFlags := 1, code := some k0c0 }
/-- java/lang/Object -/
def k0 : Class := { plain "java/lang/Object" none with
  accessFlags := 33
  interfaces := #[]
  cf := some (fileOf pool0 8 #[] #[{ accessFlags := 1, nameIndex := 5, descriptorIndex := 6, attributes := #[] }] 33 0 #[] #[])
  fields := #[]
  methods := #[k0m0]
  instanceTypes := #[]
  staticTypes := #[]
  resolved := Array.replicate 124 none
  statics := none }

def pool1 : Array CpInfo := pool [(2, .class_ 4), (1, u "java/lang/Object"), (0, u "<init>"), (0, u "()V"), (0, .class_ 8), (0, u "com/example/stavetree/stavetree/Block"), (0, .methodref 7 10), (0, .nameAndType 5 11), (0, u "(JII)V"), (0, .methodref 13 14), (0, .class_ 15), (0, .nameAndType 16 17), (0, u "java/lang/Integer"), (0, u "valueOf"), (0, u "(I)Ljava/lang/Integer;"), (0, .methodref 7 19), (0, .nameAndType 20 21), (0, u "equals"), (0, u "(Ljava/lang/Object;)Z"), (0, .class_ 23), (0, u "com/example/stavetree/stavetree/BlockEqualsPinLaw"), (2, u "law"), (0, u "(JIIJII)Z")] 3

def k1m0 : Method := { name := "<init>", desc := "()V", sig := { parameters := [], returnType := none }, accessFlags := 1, code := none }
def k1c1 : Code := { maxStack := 6, maxLocals := 16, code := code, exceptionTable := #[], attributes := #[] }
def k1m1 : Method := { name := "law", desc := "(JIIJII)Z", sig := { parameters := [.long, .int, .int, .long, .int, .int], returnType := some .boolean }, accessFlags := 9, code := some k1c1 }
/-- com/example/stavetree/stavetree/BlockEqualsPinLaw -/
def k1 : Class := { plain "com/example/stavetree/stavetree/BlockEqualsPinLaw" (some 0) with
  accessFlags := 49
  interfaces := #[]
  cf := some (fileOf pool1 22 #[] #[{ accessFlags := 1, nameIndex := 5, descriptorIndex := 6, attributes := #[] }, { accessFlags := 9, nameIndex := 26, descriptorIndex := 27, attributes := #[] }] 49 2 #[] #[])
  fields := #[]
  methods := #[k1m0, k1m1]
  instanceTypes := #[]
  staticTypes := #[]
  resolved := Array.replicate 31 none
  statics := none }

def pool2 : Array CpInfo := pool [(1, .methodref 2 3), (0, .class_ 4), (0, .nameAndType 5 6), (0, u "java/lang/Object"), (0, u "<init>"), (0, u "()V"), (0, .class_ 8), (0, u "java/lang/Record")] 13

def k2c0 : Code := { maxStack := 1, maxLocals := 1, code := jdk_30_method_1_code, exceptionTable := #[], attributes := #[] }
def k2m0 : Method := { name := "<init>", desc := "()V", sig := { parameters := [], returnType := none }, accessFlags := 4, code := some k2c0 }
/-- java/lang/Record -/
def k2 : Class := { plain "java/lang/Record" (some 0) with
  accessFlags := 1057
  interfaces := #[]
  cf := some (fileOf pool2 7 #[] #[{ accessFlags := 4, nameIndex := 5, descriptorIndex := 6, attributes := #[] }] 1057 2 #[] #[])
  fields := #[]
  methods := #[k2m0]
  instanceTypes := #[]
  staticTypes := #[]
  resolved := Array.replicate 22 none
  statics := none }

def pool3 : Array CpInfo := pool [(5, .methodref 6 7), (0, .class_ 8), (0, .nameAndType 9 10), (0, u "java/lang/Record"), (0, u "<init>"), (0, u "()V"), (0, .fieldref 12 13), (0, .class_ 14), (0, .nameAndType 15 16), (0, u "com/example/stavetree/stavetree/Block"), (0, u "address"), (0, u "J"), (0, .fieldref 12 18), (0, .nameAndType 19 20), (0, u "length"), (0, u "I"), (0, .fieldref 12 22), (0, .nameAndType 23 20), (0, u "checksum"), (24, u "REFERENCE_BYTES"), (2, u "(JII)V"), (7, u "equals"), (0, u "(Ljava/lang/Object;)Z"), (6, .class_ 68), (0, u "com/example/stavetree/stavetree/Block$Reader"), (0, .class_ 70), (0, u "com/example/stavetree/stavetree/Block$Writer"), (0, .class_ 72), (0, u "com/example/stavetree/stavetree/Block$Writer$1"), (0, .class_ 74), (0, u "com/example/stavetree/stavetree/Block$ReadFailedException")] 33

def k3c0 : Code := { maxStack := 3, maxLocals := 5, code := prog_10_method_1_code, exceptionTable := #[], attributes := #[] }
def k3m0 : Method := { name := "<init>", desc := "(JII)V", sig := { parameters := [.long, .int, .int], returnType := none }, accessFlags := 0, code := some k3c0 }
def k3c1 : Code := { maxStack := 4, maxLocals := 3, code := prog_10_method_5_code, exceptionTable := #[], attributes := #[] }
def k3m1 : Method := { name := "equals", desc := "(Ljava/lang/Object;)Z", sig := { parameters := [(.object "java/lang/Object")], returnType := some .boolean }, accessFlags := 1, code := some k3c1 }
/-- com/example/stavetree/stavetree/Block -/
def k3 : Class := { plain "com/example/stavetree/stavetree/Block" (some 2) with
  accessFlags := 48
  interfaces := #[]
  cf := some (fileOf pool3 12 #[.nestMembers #[67, 69, 71, 73]] #[{ accessFlags := 0, nameIndex := 9, descriptorIndex := 51, attributes := #[] }, { accessFlags := 1, nameIndex := 59, descriptorIndex := 60, attributes := #[] }] 48 6 #[] #[{ accessFlags := 18, nameIndex := 15, descriptorIndex := 16, attributes := #[] }, { accessFlags := 18, nameIndex := 19, descriptorIndex := 20, attributes := #[] }, { accessFlags := 18, nameIndex := 23, descriptorIndex := 20, attributes := #[] }, { accessFlags := 24, nameIndex := 48, descriptorIndex := 20, attributes := #[] }])
  fields := #[{ name := "address", type := .long, accessFlags := 18, slot := 0, constantValue := 0 }, { name := "length", type := .int, accessFlags := 18, slot := 1, constantValue := 0 }, { name := "checksum", type := .int, accessFlags := 18, slot := 2, constantValue := 0 }, { name := "REFERENCE_BYTES", type := .int, accessFlags := 24, slot := 0, constantValue := 0 }]
  methods := #[k3m0, k3m1]
  instanceTypes := #[.long, .int, .int]
  staticTypes := #[.int]
  resolved := Array.replicate 108 none
  statics := none }

def pool4 : Array CpInfo := pool [(1, .class_ 2), (0, u "java/io/Serializable"), (0, .class_ 4), (0, u "java/lang/Object")] 2

/-- java/io/Serializable -/
def k4 : Class := { plain "java/io/Serializable" (some 0) with
  accessFlags := 1537
  interfaces := #[]
  cf := some (fileOf pool4 1 #[] #[] 1537 3 #[] #[])
  fields := #[]
  methods := #[]
  instanceTypes := #[]
  staticTypes := #[]
  resolved := Array.replicate 7 none
  statics := none }

def pool5 : Array CpInfo := pool [(1, .methodref 2 3), (0, .class_ 4), (0, .nameAndType 5 6), (0, u "java/lang/Object"), (0, u "<init>"), (0, u "()V"), (1, .class_ 10), (1, u "java/lang/Number"), (2, .class_ 14), (0, u "java/io/Serializable"), (0, u "serialVersionUID"), (0, u "J")] 20

def k5c0 : Code := { maxStack := 1, maxLocals := 1, code := jdk_18_method_1_code, exceptionTable := #[], attributes := #[] }
def k5m0 : Method := { name := "<init>", desc := "()V", sig := { parameters := [], returnType := none }, accessFlags := 1, code := some k5c0 }
/-- java/lang/Number -/
def k5 : Class := { plain "java/lang/Number" (some 0) with
  accessFlags := 1057
  interfaces := #[4]
  cf := some (fileOf pool5 8 #[] #[{ accessFlags := 1, nameIndex := 5, descriptorIndex := 6, attributes := #[] }] 1057 2 #[13] #[{ accessFlags := 26, nameIndex := 15, descriptorIndex := 16, attributes := #[] }])
  fields := #[{ name := "serialVersionUID", type := .long, accessFlags := 26, slot := 0, constantValue := 0 }]
  methods := #[k5m0]
  instanceTypes := #[]
  staticTypes := #[.long]
  resolved := Array.replicate 37 none
  statics := none }

def pool6 : Array CpInfo := pool [(1, .class_ 2), (0, u "java/lang/Comparable"), (0, .class_ 4), (0, u "java/lang/Object")] 7

/-- java/lang/Comparable -/
def k6 : Class := { plain "java/lang/Comparable" (some 0) with
  accessFlags := 1537
  interfaces := #[]
  cf := some (fileOf pool6 1 #[] #[] 1537 3 #[] #[])
  fields := #[]
  methods := #[]
  instanceTypes := #[]
  staticTypes := #[]
  resolved := Array.replicate 12 none
  statics := none }

def pool7 : Array CpInfo := pool [(1, .class_ 2), (0, u "java/lang/constant/Constable"), (0, .class_ 4), (0, u "java/lang/Object")] 6

/-- java/lang/constant/Constable -/
def k7 : Class := { plain "java/lang/constant/Constable" (some 0) with
  accessFlags := 1537
  interfaces := #[]
  cf := some (fileOf pool7 1 #[] #[] 1537 3 #[] #[])
  fields := #[]
  methods := #[]
  instanceTypes := #[]
  staticTypes := #[]
  resolved := Array.replicate 11 none
  statics := none }

def pool8 : Array CpInfo := pool [(1, .class_ 2), (0, u "java/lang/constant/ConstantDesc"), (0, .class_ 4), (0, u "java/lang/Object")] 32

/-- java/lang/constant/ConstantDesc -/
def k8 : Class := { plain "java/lang/constant/ConstantDesc" (some 0) with
  accessFlags := 1537
  interfaces := #[]
  cf := some (fileOf pool8 1 #[] #[] 1537 3 #[] #[])
  fields := #[]
  methods := #[]
  instanceTypes := #[]
  staticTypes := #[]
  resolved := Array.replicate 37 none
  statics := none }

def pool9 : Array CpInfo := pool [(1, .class_ 2), (0, u "java/lang/Integer"), (16, u "digits"), (0, u "[C"), (46, u "<init>"), (17, u "DigitOnes"), (0, u "[B"), (2, u "DigitTens"), (10, .nameAndType 67 101), (0, u "()V"), (85, u "valueOf"), (0, u "(I)Ljava/lang/Integer;"), (0, .class_ 190), (0, u "java/lang/Integer$IntegerCache"), (0, .fieldref 189 192), (0, .nameAndType 193 194), (0, u "high"), (0, u "I"), (0, .fieldref 189 196), (0, .nameAndType 197 198), (0, u "cache"), (0, u "[Ljava/lang/Integer;"), (0, .methodref 1 200), (0, .nameAndType 67 201), (0, u "(I)V"), (0, .methodref 203 100), (0, .class_ 204), (0, u "java/lang/Number"), (0, .fieldref 1 206), (0, .nameAndType 207 194), (0, u "value"), (94, u "TYPE"), (0, u "Ljava/lang/Class;"), (0, .class_ 305), (0, u "java/lang/Comparable"), (0, .class_ 307), (0, u "java/lang/constant/Constable"), (0, .class_ 309), (0, u "java/lang/constant/ConstantDesc"), (0, u "MIN_VALUE"), (1, u "MAX_VALUE"), (3, u "SIZE"), (1, u "BYTES"), (1, u "serialVersionUID"), (0, u "J")] 131

def k9c0 : Code := { maxStack := 3, maxLocals := 1, code := jdk_33_method_22_code, exceptionTable := #[], attributes := #[] }
def k9m0 : Method := { name := "valueOf", desc := "(I)Ljava/lang/Integer;", sig := { parameters := [.int], returnType := some (.object "java/lang/Integer") }, accessFlags := 9, code := some k9c0 }
def k9c1 : Code := { maxStack := 2, maxLocals := 2, code := jdk_33_method_23_code, exceptionTable := #[], attributes := #[] }
def k9m1 : Method := { name := "<init>", desc := "(I)V", sig := { parameters := [.int], returnType := none }, accessFlags := 1, code := some k9c1 }
/-- java/lang/Integer -/
def k9 : Class := { plain "java/lang/Integer" (some 5) with
  accessFlags := 49
  interfaces := #[6, 7, 8]
  cf := some (fileOf pool9 1 #[.nestMembers #[189]] #[{ accessFlags := 9, nameIndex := 187, descriptorIndex := 188, attributes := #[] }, { accessFlags := 1, nameIndex := 67, descriptorIndex := 201, attributes := #[] }] 49 203 #[304, 306, 308] #[{ accessFlags := 25, nameIndex := 310, descriptorIndex := 194, attributes := #[] }, { accessFlags := 25, nameIndex := 312, descriptorIndex := 194, attributes := #[] }, { accessFlags := 25, nameIndex := 302, descriptorIndex := 303, attributes := #[] }, { accessFlags := 24, nameIndex := 19, descriptorIndex := 20, attributes := #[] }, { accessFlags := 24, nameIndex := 89, descriptorIndex := 86, attributes := #[] }, { accessFlags := 24, nameIndex := 85, descriptorIndex := 86, attributes := #[] }, { accessFlags := 18, nameIndex := 207, descriptorIndex := 194, attributes := #[] }, { accessFlags := 25, nameIndex := 316, descriptorIndex := 194, attributes := #[] }, { accessFlags := 25, nameIndex := 318, descriptorIndex := 194, attributes := #[] }, { accessFlags := 26, nameIndex := 320, descriptorIndex := 321, attributes := #[] }])
  fields := #[{ name := "MIN_VALUE", type := .int, accessFlags := 25, slot := 0, constantValue := 0 }, { name := "MAX_VALUE", type := .int, accessFlags := 25, slot := 1, constantValue := 0 }, { name := "TYPE", type := (.object "java/lang/Class"), accessFlags := 25, slot := 2, constantValue := 0 }, { name := "digits", type := (.array .char), accessFlags := 24, slot := 3, constantValue := 0 }, { name := "DigitTens", type := (.array .byte), accessFlags := 24, slot := 4, constantValue := 0 }, { name := "DigitOnes", type := (.array .byte), accessFlags := 24, slot := 5, constantValue := 0 }, { name := "value", type := .int, accessFlags := 18, slot := 0, constantValue := 0 }, { name := "SIZE", type := .int, accessFlags := 25, slot := 6, constantValue := 0 }, { name := "BYTES", type := .int, accessFlags := 25, slot := 7, constantValue := 0 }, { name := "serialVersionUID", type := .long, accessFlags := 26, slot := 8, constantValue := 0 }]
  methods := #[k9m0, k9m1]
  instanceTypes := #[.int]
  staticTypes := #[.int, .int, (.object "java/lang/Class"), (.array .char), (.array .byte), (.array .byte), .int, .int, .long]
  resolved := Array.replicate 453 none
  statics := none }

def pool10 : Array CpInfo := pool [(2, .class_ 4), (1, u "java/lang/Object"), (0, u "<init>"), (0, u "()V"), (0, .class_ 8), (0, u "java/lang/Integer"), (7, .class_ 18), (1, u "java/lang/Integer$IntegerCache"), (0, u "$assertionsDisabled"), (0, u "Z"), (26, u "high"), (0, u "I"), (8, u "archivedCache"), (0, u "[Ljava/lang/Integer;"), (12, u "cache"), (0, u "low")] 27

def k10m0 : Method := { name := "<init>", desc := "()V", sig := { parameters := [], returnType := none }, accessFlags := 2, code := none }
/-- java/lang/Integer$IntegerCache -/
def k10 : Class := { plain "java/lang/Integer$IntegerCache" (some 0) with
  accessFlags := 48
  interfaces := #[]
  cf := some (fileOf pool10 16 #[.nestHost 7] #[{ accessFlags := 2, nameIndex := 5, descriptorIndex := 6, attributes := #[] }] 48 2 #[] #[{ accessFlags := 24, nameIndex := 72, descriptorIndex := 48, attributes := #[] }, { accessFlags := 24, nameIndex := 47, descriptorIndex := 48, attributes := #[] }, { accessFlags := 24, nameIndex := 71, descriptorIndex := 58, attributes := #[] }, { accessFlags := 8, nameIndex := 57, descriptorIndex := 58, attributes := #[] }, { accessFlags := 4120, nameIndex := 19, descriptorIndex := 20, attributes := #[] }])
  fields := #[{ name := "low", type := .int, accessFlags := 24, slot := 0, constantValue := 0 }, { name := "high", type := .int, accessFlags := 24, slot := 1, constantValue := 0 }, { name := "cache", type := (.array (.object "java/lang/Integer")), accessFlags := 24, slot := 2, constantValue := 0 }, { name := "archivedCache", type := (.array (.object "java/lang/Integer")), accessFlags := 8, slot := 3, constantValue := 0 }, { name := "$assertionsDisabled", type := .boolean, accessFlags := 4120, slot := 4, constantValue := 0 }]
  methods := #[k10m0]
  instanceTypes := #[]
  staticTypes := #[.int, .int, (.array (.object "java/lang/Integer")), (.array (.object "java/lang/Integer")), .boolean]
  resolved := Array.replicate 100 none
  statics := some 0 }

def pool11 : Array CpInfo := pool [(1, u "java/lang/Cloneable"), (0, .class_ 1), (0, u "java/lang/Object"), (0, .class_ 3)] 3

/-- java/lang/Cloneable -/
def k11 : Class := { plain "java/lang/Cloneable" (some 0) with
  accessFlags := 1537
  interfaces := #[]
  cf := some (fileOf pool11 2 #[] #[] 1537 4 #[] #[])
  fields := #[]
  methods := #[]
  instanceTypes := #[]
  staticTypes := #[]
  resolved := Array.replicate 8 none
  statics := none }

/-- the primitive byte -/
def k12 : Class := { plain "byte" none with kind := .primitive 'B', accessFlags := 0x411 }
/-- [B -/
def k13 : Class := { plain "[B" (some 0) with kind := .array 12 .byte, interfaces := #[11, 4], accessFlags := 1041 }

/-- the primitive int -/
def k14 : Class := { plain "int" none with kind := .primitive 'I', accessFlags := 0x411 }
/-- [I -/
def k15 : Class := { plain "[I" (some 0) with kind := .array 14 .int, interfaces := #[11, 4], accessFlags := 1041 }

/-- [Ljava/lang/Integer; -/
def k16 : Class := { plain "[Ljava/lang/Integer;" (some 0) with kind := .array 9 (.object "java/lang/Integer"), interfaces := #[11, 4], accessFlags := 1041 }

def heap : Heap := #[{ cls := 10, slots := #[.int 0, .int 127, .ref 1, .null, .int 0], vm := .statics 10 },
  { cls := 16, slots := #[.ref 2, .ref 3, .ref 4, .ref 5, .ref 6, .ref 7, .ref 8, .ref 9, .ref 10, .ref 11, .ref 12, .ref 13, .ref 14, .ref 15, .ref 16, .ref 17, .ref 18, .ref 19, .ref 20, .ref 21, .ref 22, .ref 23, .ref 24, .ref 25, .ref 26, .ref 27, .ref 28, .ref 29, .ref 30, .ref 31, .ref 32, .ref 33, .ref 34, .ref 35, .ref 36, .ref 37, .ref 38, .ref 39, .ref 40, .ref 41, .ref 42, .ref 43, .ref 44, .ref 45, .ref 46, .ref 47, .ref 48, .ref 49, .ref 50, .ref 51, .ref 52, .ref 53, .ref 54, .ref 55, .ref 56, .ref 57, .ref 58, .ref 59, .ref 60, .ref 61, .ref 62, .ref 63, .ref 64, .ref 65, .ref 66, .ref 67, .ref 68, .ref 69, .ref 70, .ref 71, .ref 72, .ref 73, .ref 74, .ref 75, .ref 76, .ref 77, .ref 78, .ref 79, .ref 80, .ref 81, .ref 82, .ref 83, .ref 84, .ref 85, .ref 86, .ref 87, .ref 88, .ref 89, .ref 90, .ref 91, .ref 92, .ref 93, .ref 94, .ref 95, .ref 96, .ref 97, .ref 98, .ref 99, .ref 100, .ref 101, .ref 102, .ref 103, .ref 104, .ref 105, .ref 106, .ref 107, .ref 108, .ref 109, .ref 110, .ref 111, .ref 112, .ref 113, .ref 114, .ref 115, .ref 116, .ref 117, .ref 118, .ref 119, .ref 120, .ref 121, .ref 122, .ref 123, .ref 124, .ref 125, .ref 126, .ref 127, .ref 128, .ref 129, .ref 130, .ref 131, .ref 132, .ref 133, .ref 134, .ref 135, .ref 136, .ref 137, .ref 138, .ref 139, .ref 140, .ref 141, .ref 142, .ref 143, .ref 144, .ref 145, .ref 146, .ref 147, .ref 148, .ref 149, .ref 150, .ref 151, .ref 152, .ref 153, .ref 154, .ref 155, .ref 156, .ref 157, .ref 158, .ref 159, .ref 160, .ref 161, .ref 162, .ref 163, .ref 164, .ref 165, .ref 166, .ref 167, .ref 168, .ref 169, .ref 170, .ref 171, .ref 172, .ref 173, .ref 174, .ref 175, .ref 176, .ref 177, .ref 178, .ref 179, .ref 180, .ref 181, .ref 182, .ref 183, .ref 184, .ref 185, .ref 186, .ref 187, .ref 188, .ref 189, .ref 190, .ref 191, .ref 192, .ref 193, .ref 194, .ref 195, .ref 196, .ref 197, .ref 198, .ref 199, .ref 200, .ref 201, .ref 202, .ref 203, .ref 204, .ref 205, .ref 206, .ref 207, .ref 208, .ref 209, .ref 210, .ref 211, .ref 212, .ref 213, .ref 214, .ref 215, .ref 216, .ref 217, .ref 218, .ref 219, .ref 220, .ref 221, .ref 222, .ref 223, .ref 224, .ref 225, .ref 226, .ref 227, .ref 228, .ref 229, .ref 230, .ref 231, .ref 232, .ref 233, .ref 234, .ref 235, .ref 236, .ref 237, .ref 238, .ref 239, .ref 240, .ref 241, .ref 242, .ref 243, .ref 244, .ref 245, .ref 246, .ref 247, .ref 248, .ref 249, .ref 250, .ref 251, .ref 252, .ref 253, .ref 254, .ref 255, .ref 256, .ref 257], vm := .none },
  { cls := 9, slots := #[.int (-128)], vm := .none },
  { cls := 9, slots := #[.int (-127)], vm := .none },
  { cls := 9, slots := #[.int (-126)], vm := .none },
  { cls := 9, slots := #[.int (-125)], vm := .none },
  { cls := 9, slots := #[.int (-124)], vm := .none },
  { cls := 9, slots := #[.int (-123)], vm := .none },
  { cls := 9, slots := #[.int (-122)], vm := .none },
  { cls := 9, slots := #[.int (-121)], vm := .none },
  { cls := 9, slots := #[.int (-120)], vm := .none },
  { cls := 9, slots := #[.int (-119)], vm := .none },
  { cls := 9, slots := #[.int (-118)], vm := .none },
  { cls := 9, slots := #[.int (-117)], vm := .none },
  { cls := 9, slots := #[.int (-116)], vm := .none },
  { cls := 9, slots := #[.int (-115)], vm := .none },
  { cls := 9, slots := #[.int (-114)], vm := .none },
  { cls := 9, slots := #[.int (-113)], vm := .none },
  { cls := 9, slots := #[.int (-112)], vm := .none },
  { cls := 9, slots := #[.int (-111)], vm := .none },
  { cls := 9, slots := #[.int (-110)], vm := .none },
  { cls := 9, slots := #[.int (-109)], vm := .none },
  { cls := 9, slots := #[.int (-108)], vm := .none },
  { cls := 9, slots := #[.int (-107)], vm := .none },
  { cls := 9, slots := #[.int (-106)], vm := .none },
  { cls := 9, slots := #[.int (-105)], vm := .none },
  { cls := 9, slots := #[.int (-104)], vm := .none },
  { cls := 9, slots := #[.int (-103)], vm := .none },
  { cls := 9, slots := #[.int (-102)], vm := .none },
  { cls := 9, slots := #[.int (-101)], vm := .none },
  { cls := 9, slots := #[.int (-100)], vm := .none },
  { cls := 9, slots := #[.int (-99)], vm := .none },
  { cls := 9, slots := #[.int (-98)], vm := .none },
  { cls := 9, slots := #[.int (-97)], vm := .none },
  { cls := 9, slots := #[.int (-96)], vm := .none },
  { cls := 9, slots := #[.int (-95)], vm := .none },
  { cls := 9, slots := #[.int (-94)], vm := .none },
  { cls := 9, slots := #[.int (-93)], vm := .none },
  { cls := 9, slots := #[.int (-92)], vm := .none },
  { cls := 9, slots := #[.int (-91)], vm := .none },
  { cls := 9, slots := #[.int (-90)], vm := .none },
  { cls := 9, slots := #[.int (-89)], vm := .none },
  { cls := 9, slots := #[.int (-88)], vm := .none },
  { cls := 9, slots := #[.int (-87)], vm := .none },
  { cls := 9, slots := #[.int (-86)], vm := .none },
  { cls := 9, slots := #[.int (-85)], vm := .none },
  { cls := 9, slots := #[.int (-84)], vm := .none },
  { cls := 9, slots := #[.int (-83)], vm := .none },
  { cls := 9, slots := #[.int (-82)], vm := .none },
  { cls := 9, slots := #[.int (-81)], vm := .none },
  { cls := 9, slots := #[.int (-80)], vm := .none },
  { cls := 9, slots := #[.int (-79)], vm := .none },
  { cls := 9, slots := #[.int (-78)], vm := .none },
  { cls := 9, slots := #[.int (-77)], vm := .none },
  { cls := 9, slots := #[.int (-76)], vm := .none },
  { cls := 9, slots := #[.int (-75)], vm := .none },
  { cls := 9, slots := #[.int (-74)], vm := .none },
  { cls := 9, slots := #[.int (-73)], vm := .none },
  { cls := 9, slots := #[.int (-72)], vm := .none },
  { cls := 9, slots := #[.int (-71)], vm := .none },
  { cls := 9, slots := #[.int (-70)], vm := .none },
  { cls := 9, slots := #[.int (-69)], vm := .none },
  { cls := 9, slots := #[.int (-68)], vm := .none },
  { cls := 9, slots := #[.int (-67)], vm := .none },
  { cls := 9, slots := #[.int (-66)], vm := .none },
  { cls := 9, slots := #[.int (-65)], vm := .none },
  { cls := 9, slots := #[.int (-64)], vm := .none },
  { cls := 9, slots := #[.int (-63)], vm := .none },
  { cls := 9, slots := #[.int (-62)], vm := .none },
  { cls := 9, slots := #[.int (-61)], vm := .none },
  { cls := 9, slots := #[.int (-60)], vm := .none },
  { cls := 9, slots := #[.int (-59)], vm := .none },
  { cls := 9, slots := #[.int (-58)], vm := .none },
  { cls := 9, slots := #[.int (-57)], vm := .none },
  { cls := 9, slots := #[.int (-56)], vm := .none },
  { cls := 9, slots := #[.int (-55)], vm := .none },
  { cls := 9, slots := #[.int (-54)], vm := .none },
  { cls := 9, slots := #[.int (-53)], vm := .none },
  { cls := 9, slots := #[.int (-52)], vm := .none },
  { cls := 9, slots := #[.int (-51)], vm := .none },
  { cls := 9, slots := #[.int (-50)], vm := .none },
  { cls := 9, slots := #[.int (-49)], vm := .none },
  { cls := 9, slots := #[.int (-48)], vm := .none },
  { cls := 9, slots := #[.int (-47)], vm := .none },
  { cls := 9, slots := #[.int (-46)], vm := .none },
  { cls := 9, slots := #[.int (-45)], vm := .none },
  { cls := 9, slots := #[.int (-44)], vm := .none },
  { cls := 9, slots := #[.int (-43)], vm := .none },
  { cls := 9, slots := #[.int (-42)], vm := .none },
  { cls := 9, slots := #[.int (-41)], vm := .none },
  { cls := 9, slots := #[.int (-40)], vm := .none },
  { cls := 9, slots := #[.int (-39)], vm := .none },
  { cls := 9, slots := #[.int (-38)], vm := .none },
  { cls := 9, slots := #[.int (-37)], vm := .none },
  { cls := 9, slots := #[.int (-36)], vm := .none },
  { cls := 9, slots := #[.int (-35)], vm := .none },
  { cls := 9, slots := #[.int (-34)], vm := .none },
  { cls := 9, slots := #[.int (-33)], vm := .none },
  { cls := 9, slots := #[.int (-32)], vm := .none },
  { cls := 9, slots := #[.int (-31)], vm := .none },
  { cls := 9, slots := #[.int (-30)], vm := .none },
  { cls := 9, slots := #[.int (-29)], vm := .none },
  { cls := 9, slots := #[.int (-28)], vm := .none },
  { cls := 9, slots := #[.int (-27)], vm := .none },
  { cls := 9, slots := #[.int (-26)], vm := .none },
  { cls := 9, slots := #[.int (-25)], vm := .none },
  { cls := 9, slots := #[.int (-24)], vm := .none },
  { cls := 9, slots := #[.int (-23)], vm := .none },
  { cls := 9, slots := #[.int (-22)], vm := .none },
  { cls := 9, slots := #[.int (-21)], vm := .none },
  { cls := 9, slots := #[.int (-20)], vm := .none },
  { cls := 9, slots := #[.int (-19)], vm := .none },
  { cls := 9, slots := #[.int (-18)], vm := .none },
  { cls := 9, slots := #[.int (-17)], vm := .none },
  { cls := 9, slots := #[.int (-16)], vm := .none },
  { cls := 9, slots := #[.int (-15)], vm := .none },
  { cls := 9, slots := #[.int (-14)], vm := .none },
  { cls := 9, slots := #[.int (-13)], vm := .none },
  { cls := 9, slots := #[.int (-12)], vm := .none },
  { cls := 9, slots := #[.int (-11)], vm := .none },
  { cls := 9, slots := #[.int (-10)], vm := .none },
  { cls := 9, slots := #[.int (-9)], vm := .none },
  { cls := 9, slots := #[.int (-8)], vm := .none },
  { cls := 9, slots := #[.int (-7)], vm := .none },
  { cls := 9, slots := #[.int (-6)], vm := .none },
  { cls := 9, slots := #[.int (-5)], vm := .none },
  { cls := 9, slots := #[.int (-4)], vm := .none },
  { cls := 9, slots := #[.int (-3)], vm := .none },
  { cls := 9, slots := #[.int (-2)], vm := .none },
  { cls := 9, slots := #[.int (-1)], vm := .none },
  { cls := 9, slots := #[.int 0], vm := .none },
  { cls := 9, slots := #[.int 1], vm := .none },
  { cls := 9, slots := #[.int 2], vm := .none },
  { cls := 9, slots := #[.int 3], vm := .none },
  { cls := 9, slots := #[.int 4], vm := .none },
  { cls := 9, slots := #[.int 5], vm := .none },
  { cls := 9, slots := #[.int 6], vm := .none },
  { cls := 9, slots := #[.int 7], vm := .none },
  { cls := 9, slots := #[.int 8], vm := .none },
  { cls := 9, slots := #[.int 9], vm := .none },
  { cls := 9, slots := #[.int 10], vm := .none },
  { cls := 9, slots := #[.int 11], vm := .none },
  { cls := 9, slots := #[.int 12], vm := .none },
  { cls := 9, slots := #[.int 13], vm := .none },
  { cls := 9, slots := #[.int 14], vm := .none },
  { cls := 9, slots := #[.int 15], vm := .none },
  { cls := 9, slots := #[.int 16], vm := .none },
  { cls := 9, slots := #[.int 17], vm := .none },
  { cls := 9, slots := #[.int 18], vm := .none },
  { cls := 9, slots := #[.int 19], vm := .none },
  { cls := 9, slots := #[.int 20], vm := .none },
  { cls := 9, slots := #[.int 21], vm := .none },
  { cls := 9, slots := #[.int 22], vm := .none },
  { cls := 9, slots := #[.int 23], vm := .none },
  { cls := 9, slots := #[.int 24], vm := .none },
  { cls := 9, slots := #[.int 25], vm := .none },
  { cls := 9, slots := #[.int 26], vm := .none },
  { cls := 9, slots := #[.int 27], vm := .none },
  { cls := 9, slots := #[.int 28], vm := .none },
  { cls := 9, slots := #[.int 29], vm := .none },
  { cls := 9, slots := #[.int 30], vm := .none },
  { cls := 9, slots := #[.int 31], vm := .none },
  { cls := 9, slots := #[.int 32], vm := .none },
  { cls := 9, slots := #[.int 33], vm := .none },
  { cls := 9, slots := #[.int 34], vm := .none },
  { cls := 9, slots := #[.int 35], vm := .none },
  { cls := 9, slots := #[.int 36], vm := .none },
  { cls := 9, slots := #[.int 37], vm := .none },
  { cls := 9, slots := #[.int 38], vm := .none },
  { cls := 9, slots := #[.int 39], vm := .none },
  { cls := 9, slots := #[.int 40], vm := .none },
  { cls := 9, slots := #[.int 41], vm := .none },
  { cls := 9, slots := #[.int 42], vm := .none },
  { cls := 9, slots := #[.int 43], vm := .none },
  { cls := 9, slots := #[.int 44], vm := .none },
  { cls := 9, slots := #[.int 45], vm := .none },
  { cls := 9, slots := #[.int 46], vm := .none },
  { cls := 9, slots := #[.int 47], vm := .none },
  { cls := 9, slots := #[.int 48], vm := .none },
  { cls := 9, slots := #[.int 49], vm := .none },
  { cls := 9, slots := #[.int 50], vm := .none },
  { cls := 9, slots := #[.int 51], vm := .none },
  { cls := 9, slots := #[.int 52], vm := .none },
  { cls := 9, slots := #[.int 53], vm := .none },
  { cls := 9, slots := #[.int 54], vm := .none },
  { cls := 9, slots := #[.int 55], vm := .none },
  { cls := 9, slots := #[.int 56], vm := .none },
  { cls := 9, slots := #[.int 57], vm := .none },
  { cls := 9, slots := #[.int 58], vm := .none },
  { cls := 9, slots := #[.int 59], vm := .none },
  { cls := 9, slots := #[.int 60], vm := .none },
  { cls := 9, slots := #[.int 61], vm := .none },
  { cls := 9, slots := #[.int 62], vm := .none },
  { cls := 9, slots := #[.int 63], vm := .none },
  { cls := 9, slots := #[.int 64], vm := .none },
  { cls := 9, slots := #[.int 65], vm := .none },
  { cls := 9, slots := #[.int 66], vm := .none },
  { cls := 9, slots := #[.int 67], vm := .none },
  { cls := 9, slots := #[.int 68], vm := .none },
  { cls := 9, slots := #[.int 69], vm := .none },
  { cls := 9, slots := #[.int 70], vm := .none },
  { cls := 9, slots := #[.int 71], vm := .none },
  { cls := 9, slots := #[.int 72], vm := .none },
  { cls := 9, slots := #[.int 73], vm := .none },
  { cls := 9, slots := #[.int 74], vm := .none },
  { cls := 9, slots := #[.int 75], vm := .none },
  { cls := 9, slots := #[.int 76], vm := .none },
  { cls := 9, slots := #[.int 77], vm := .none },
  { cls := 9, slots := #[.int 78], vm := .none },
  { cls := 9, slots := #[.int 79], vm := .none },
  { cls := 9, slots := #[.int 80], vm := .none },
  { cls := 9, slots := #[.int 81], vm := .none },
  { cls := 9, slots := #[.int 82], vm := .none },
  { cls := 9, slots := #[.int 83], vm := .none },
  { cls := 9, slots := #[.int 84], vm := .none },
  { cls := 9, slots := #[.int 85], vm := .none },
  { cls := 9, slots := #[.int 86], vm := .none },
  { cls := 9, slots := #[.int 87], vm := .none },
  { cls := 9, slots := #[.int 88], vm := .none },
  { cls := 9, slots := #[.int 89], vm := .none },
  { cls := 9, slots := #[.int 90], vm := .none },
  { cls := 9, slots := #[.int 91], vm := .none },
  { cls := 9, slots := #[.int 92], vm := .none },
  { cls := 9, slots := #[.int 93], vm := .none },
  { cls := 9, slots := #[.int 94], vm := .none },
  { cls := 9, slots := #[.int 95], vm := .none },
  { cls := 9, slots := #[.int 96], vm := .none },
  { cls := 9, slots := #[.int 97], vm := .none },
  { cls := 9, slots := #[.int 98], vm := .none },
  { cls := 9, slots := #[.int 99], vm := .none },
  { cls := 9, slots := #[.int 100], vm := .none },
  { cls := 9, slots := #[.int 101], vm := .none },
  { cls := 9, slots := #[.int 102], vm := .none },
  { cls := 9, slots := #[.int 103], vm := .none },
  { cls := 9, slots := #[.int 104], vm := .none },
  { cls := 9, slots := #[.int 105], vm := .none },
  { cls := 9, slots := #[.int 106], vm := .none },
  { cls := 9, slots := #[.int 107], vm := .none },
  { cls := 9, slots := #[.int 108], vm := .none },
  { cls := 9, slots := #[.int 109], vm := .none },
  { cls := 9, slots := #[.int 110], vm := .none },
  { cls := 9, slots := #[.int 111], vm := .none },
  { cls := 9, slots := #[.int 112], vm := .none },
  { cls := 9, slots := #[.int 113], vm := .none },
  { cls := 9, slots := #[.int 114], vm := .none },
  { cls := 9, slots := #[.int 115], vm := .none },
  { cls := 9, slots := #[.int 116], vm := .none },
  { cls := 9, slots := #[.int 117], vm := .none },
  { cls := 9, slots := #[.int 118], vm := .none },
  { cls := 9, slots := #[.int 119], vm := .none },
  { cls := 9, slots := #[.int 120], vm := .none },
  { cls := 9, slots := #[.int 121], vm := .none },
  { cls := 9, slots := #[.int 122], vm := .none },
  { cls := 9, slots := #[.int 123], vm := .none },
  { cls := 9, slots := #[.int 124], vm := .none },
  { cls := 9, slots := #[.int 125], vm := .none },
  { cls := 9, slots := #[.int 126], vm := .none },
  { cls := 9, slots := #[.int 127], vm := .none }]
def classes : Array Class := #[k0, k1, k2, k3, k4, k5, k6, k7, k8, k9, k10, k11, k12, k13, k14, k15, k16]
def interned : List (Array UInt16 × Addr) := []
def slotsUsed : Nat := 517
def theMethod : MethodId := ⟨1, 1⟩
def args0 : Array Value := #[.long 5, .int 7, .int 9, .long 6, .int 8, .int 3]
def aboutOver (below : List Frame) : State where
  vm := { classes := classes, interned := interned.toArray }
  heap := heap
  slotsUsed := slotsUsed
  threads := #[{ frames := .invoking theMethod args0 :: below }]
def below0 : List Frame := [.native { method := ⟨0, 0⟩, args := #[] }]
def about1 : State := aboutOver below0
def p0 : Program := .bare "" "" ""
def e0 : Env := launch0.env 0 0 0
theorem w_frames : about1.frames = Frame.invoking theMethod args0 :: below0 := rfl
set_option maxRecDepth 65536 in
theorem w_args : argsFit about1.vm theMethod args0 = true := by decide +kernel
set_option maxRecDepth 65536 in
theorem w_heap : heapFits about1 = true := by decide +kernel
set_option maxRecDepth 65536 in
theorem w_runnable : about1.curStatus? = some .runnable := by decide +kernel
set_option maxRecDepth 65536 in
theorem w_alone : about1.alone = true := by decide +kernel
set_option maxRecDepth 65536 in
theorem w_named : about1.methodNamed? x = some theMethod := by decide +kernel
set_option maxRecDepth 65536 in
theorem w_hears : about1.hears theMethod below0 = true := by decide +kernel
set_option maxRecDepth 65536 in
theorem w_ripe : about1.ripe theMethod args0 below0 = true := by decide +kernel
theorem w_running : about1.status = .running := rfl
set_option maxRecDepth 65536 in
theorem w_room : about1.hasRoom e0.platform room_1 = true :=
  launch0.hasRoom_least _ room_1 (by decide +kernel) (by decide +kernel) (by decide +kernel) (by decide +kernel) (by decide +kernel) (by decide +kernel)
theorem allAtoms_all (ts : List Jvm.Cond) (a : Array Jvm.Value) (st : Jvm.State) : (allAtoms ts).before a st = ts.all (fun c => c.before a st) := by
  induction ts with
  | nil => rfl
  | cons c t ih =>
    show (Jvm.Cond.and c (allAtoms t)).before a st = _
    rw [Jvm.Cond.before_and, ih, List.all_cons]
def words1 : List Jvm.Cond := Jvm.Cond.code x code maxLocals ret :: tables_1
/-- a 'code' word, met by the world's own term for the bytes: nothing is compared byte by byte -/
theorem code_word {y : MethodName} {bytes : ByteArray} {mx : Nat} {rt : Option FieldType} {a : Array Value} {s : State} {m : MethodId} {meth : Method} {c : Code} (h1 : s.methodNamed? y = some m) (h2 : s.vm.method? m = some meth) (h3 : meth.code = some c) (h4 : c.code = bytes)
    (h5 : (c.maxLocals == mx && c.exceptionTable.isEmpty && decide (c.maxStack ≤ mostOperands) && decide (meth.sig.returnType = rt) && !meth.locks && decide (parseMethodDescriptor y.desc = some meth.sig)) = true) : (Jvm.Cond.code y bytes mx rt).before a s = true := by
  simp only [Bool.and_eq_true, beq_iff_eq, Bool.not_eq_true', decide_eq_true_eq] at h5
  obtain ⟨⟨⟨⟨⟨g1, g2⟩, g3⟩, g4⟩, g5⟩, g6⟩ := h5
  simp [Cond.before, Cond.holds, Cond.value, h1, h2, h3, h4, g1, g2, g3, g4, g5, g6]
def isCode : Jvm.Cond → Bool
  | .code _ _ _ _ => true
  | _ => false
theorem all_split {L : List Jvm.Cond} {P : Jvm.Cond → Bool} (h1 : L.all (fun c => isCode c || P c) = true) (h2 : ∀ c ∈ L.filter isCode, P c = true) : L.all P = true := by
  refine List.all_eq_true.mpr fun c hc => ?_
  have h := List.all_eq_true.mp h1 c hc
  rcases Bool.eq_false_or_eq_true (isCode c) with hi | hi
  · exact h2 c (List.mem_filter.mpr ⟨hc, hi⟩)
  · simpa [hi] using h
set_option maxRecDepth 65536 in
theorem w_c0 : (Jvm.Cond.code x code maxLocals ret).before args0 about1 = true := code_word (m := ⟨1, 1⟩) (meth := k1m1) (c := k1c1) (by decide +kernel) rfl rfl rfl (by decide +kernel)
set_option maxRecDepth 65536 in
theorem w_c1 : (Jvm.Cond.code ({ cls := "com/example/stavetree/stavetree/Block", name := "<init>", desc := "(JII)V" } : Jvm.MethodName) prog_10_method_1_code (5 : Nat) (Option.none : Option Jvm.ClassFile.FieldType)).before args0 about1 = true := code_word (m := ⟨3, 0⟩) (meth := k3m0) (c := k3c0) (by decide +kernel) rfl rfl rfl (by decide +kernel)
set_option maxRecDepth 65536 in
theorem w_c2 : (Jvm.Cond.code ({ cls := "java/lang/Record", name := "<init>", desc := "()V" } : Jvm.MethodName) jdk_30_method_1_code (1 : Nat) (Option.none : Option Jvm.ClassFile.FieldType)).before args0 about1 = true := code_word (m := ⟨2, 0⟩) (meth := k2m0) (c := k2c0) (by decide +kernel) rfl rfl rfl (by decide +kernel)
set_option maxRecDepth 65536 in
theorem w_c3 : (Jvm.Cond.code ({ cls := "java/lang/Object", name := "<init>", desc := "()V" } : Jvm.MethodName) object_method_1_code (1 : Nat) (Option.none : Option Jvm.ClassFile.FieldType)).before args0 about1 = true := code_word (m := ⟨0, 0⟩) (meth := k0m0) (c := k0c0) (by decide +kernel) rfl rfl rfl (by decide +kernel)
set_option maxRecDepth 65536 in
theorem w_c4 : (Jvm.Cond.code ({ cls := "java/lang/Integer", name := "valueOf", desc := "(I)Ljava/lang/Integer;" } : Jvm.MethodName) jdk_33_method_22_code (1 : Nat) (Option.some (Jvm.ClassFile.FieldType.object "java/lang/Integer"))).before args0 about1 = true := code_word (m := ⟨9, 0⟩) (meth := k9m0) (c := k9c0) (by decide +kernel) rfl rfl rfl (by decide +kernel)
set_option maxRecDepth 65536 in
theorem w_c5 : (Jvm.Cond.code ({ cls := "com/example/stavetree/stavetree/Block", name := "equals", desc := "(Ljava/lang/Object;)Z" } : Jvm.MethodName) prog_10_method_5_code (3 : Nat) (Option.some Jvm.ClassFile.FieldType.boolean)).before args0 about1 = true := code_word (m := ⟨3, 1⟩) (meth := k3m1) (c := k3c1) (by decide +kernel) rfl rfl rfl (by decide +kernel)
set_option maxRecDepth 65536 in
theorem w_c6 : (Jvm.Cond.code ({ cls := "java/lang/Integer", name := "<init>", desc := "(I)V" } : Jvm.MethodName) jdk_33_method_23_code (2 : Nat) (Option.none : Option Jvm.ClassFile.FieldType)).before args0 about1 = true := code_word (m := ⟨9, 1⟩) (meth := k9m1) (c := k9c1) (by decide +kernel) rfl rfl rfl (by decide +kernel)
set_option maxRecDepth 65536 in
theorem w_c7 : (Jvm.Cond.code ({ cls := "java/lang/Number", name := "<init>", desc := "()V" } : Jvm.MethodName) jdk_18_method_1_code (1 : Nat) (Option.none : Option Jvm.ClassFile.FieldType)).before args0 about1 = true := code_word (m := ⟨5, 0⟩) (meth := k5m0) (c := k5c0) (by decide +kernel) rfl rfl rfl (by decide +kernel)
def codes1 : List Jvm.Cond := [Jvm.Cond.code x code maxLocals ret, Jvm.Cond.code ({ cls := "com/example/stavetree/stavetree/Block", name := "<init>", desc := "(JII)V" } : Jvm.MethodName) prog_10_method_1_code (5 : Nat) (Option.none : Option Jvm.ClassFile.FieldType), Jvm.Cond.code ({ cls := "java/lang/Record", name := "<init>", desc := "()V" } : Jvm.MethodName) jdk_30_method_1_code (1 : Nat) (Option.none : Option Jvm.ClassFile.FieldType), Jvm.Cond.code ({ cls := "java/lang/Object", name := "<init>", desc := "()V" } : Jvm.MethodName) object_method_1_code (1 : Nat) (Option.none : Option Jvm.ClassFile.FieldType), Jvm.Cond.code ({ cls := "java/lang/Integer", name := "valueOf", desc := "(I)Ljava/lang/Integer;" } : Jvm.MethodName) jdk_33_method_22_code (1 : Nat) (Option.some (Jvm.ClassFile.FieldType.object "java/lang/Integer")), Jvm.Cond.code ({ cls := "com/example/stavetree/stavetree/Block", name := "equals", desc := "(Ljava/lang/Object;)Z" } : Jvm.MethodName) prog_10_method_5_code (3 : Nat) (Option.some Jvm.ClassFile.FieldType.boolean), Jvm.Cond.code ({ cls := "java/lang/Integer", name := "<init>", desc := "(I)V" } : Jvm.MethodName) jdk_33_method_23_code (2 : Nat) (Option.none : Option Jvm.ClassFile.FieldType), Jvm.Cond.code ({ cls := "java/lang/Number", name := "<init>", desc := "()V" } : Jvm.MethodName) jdk_18_method_1_code (1 : Nat) (Option.none : Option Jvm.ClassFile.FieldType)]
set_option maxRecDepth 65536 in
theorem codes_eq : words1.filter isCode = codes1 := rfl
theorem w_codes : ∀ c ∈ words1.filter isCode, c.before args0 about1 = true := by
  rw [codes_eq]
  intro c hc
  simp only [codes1, List.mem_cons, List.not_mem_nil, or_false] at hc
  rcases hc with rfl | rfl | rfl | rfl | rfl | rfl | rfl | rfl
  · exact w_c0
  · exact w_c1
  · exact w_c2
  · exact w_c3
  · exact w_c4
  · exact w_c5
  · exact w_c6
  · exact w_c7
set_option maxRecDepth 65536 in
theorem w_t1 : (words1.take 24).all (fun c => isCode c || c.before args0 about1) = true := by decide +kernel
set_option maxRecDepth 65536 in
theorem w_t2 : ((words1.drop 24).take 24).all (fun c => isCode c || c.before args0 about1) = true := by decide +kernel
set_option maxRecDepth 65536 in
theorem w_t3 : ((words1.drop 24).drop 24).all (fun c => isCode c || c.before args0 about1) = true := by decide +kernel
theorem w_tables : (allAtoms (Jvm.Cond.code x code maxLocals ret :: tables_1)).before args0 about1 = true := by
  rw [allAtoms_all]
  show words1.all (fun c => c.before args0 about1) = true
  refine all_split ?_ w_codes
  rw [← List.take_append_drop 24 words1, List.all_append, w_t1, ← List.take_append_drop 24 (words1.drop 24), List.all_append, w_t2, w_t3]
  rfl
set_option maxRecDepth 65536 in
theorem w_rest : rest_1_c.before args0 about1 = true := by decide +kernel
set_option maxRecDepth 65536 in
theorem w_case : (Jvm.Cond.and given_1 narrow_1).before args0 about1 = true := by decide +kernel
theorem w_applies : (headSpec (Jvm.Cond.code x code maxLocals ret :: tables_1) room_1).applies x e0.platform about1 = true :=
  (Spec.applies_iff w_frames).mpr ⟨w_running, w_runnable, w_alone, w_named, w_hears, w_ripe, w_room, w_tables⟩
theorem atStart : AtStart classFile x code maxLocals ret World_1 tables_1 room_1 Calls_1 rest_1 Pre_1 launch0 p0 e0 about1 theMethod args0 below0 :=
  ⟨lists_1, trivial, launch0.admits_env _ _ _, launch0.least_env, fairChoices_fair.cas, fairChoices_fair.clock, w_frames, w_args, w_heap, w_applies, trivial, w_rest, w_case⟩
end start1
theorem witness_1 : WitnessClaimed_1 := ⟨start1.p0, start1.e0, start1.about1, start1.theMethod, start1.args0, start1.below0, start1.atStart⟩
end Jvm.Pilot.@@N@@
