import JvmDerived
import JvmDerived.Pilot.@@N@@Statement
import JvmDerived.Pilot.@@N@@Code
set_option linter.unusedVariables false
set_option linter.unusedSimpArgs false
@@BLOCK:NumsL.lean.txt@@

namespace Jvm.OwnKit
open Sem ClassFile Op Lib Jvm.Stand Jvm.Free Jvm.LawKit Jvm.RoadKit
section Own
variable {p : Program} {l : Launch} {e : Env} {R : Room} {s : State} {m : MethodId} {args : Array Value} {below : List Frame} {meth : Method} {c : Code} {T : State} {locs : List Loc} {cells slots : Nat} {Q : Option Value → Heap → List Loc → Prop} {C S : Nat}
/-- what a body owes from a state on -/
def Fin (p : Program) (e : Env) (below : List Frame) (s : State) (Q : Option Value → Heap → List Loc → Prop) (C S : Nat) (st : State) : Prop :=
  ∃ s₂ o, Steps p.tables e below st s₂ ∧ s₂.status = .running ∧ Ended s₂ below o ∧ ∃ v L, o = .returned v ∧ Q v s₂.heap L ∧ FrameEnd s o s₂ L C S
theorem Fin.step {st st' : State} (h : ∀ t, Steps p.tables e below st' t → Steps p.tables e below st t) (k : Fin p e below s Q C S st') : Fin p e below s Q C S st := by
  obtain ⟨s₂, o, h1, h2⟩ := k
  exact ⟨s₂, o, h _ h1, h2⟩
theorem Fin.ret (X : Stand p l e R s m args below meth c T locs cells slots) {v : Option Value} {g : JFrame} (hv : meth.sig.returnType = none → v = none) (hlocks : meth.locks = false)
    (hst : ∀ fs, (∀ (f : JFrame) (acts : List Action), f.method = m → f.locked = none → f.entered = [] → (doReturn e (T.setTop f) acts v).1 = T.setFrames fs) → Steps p.tables e below (T.setTop g) (T.setFrames fs))
    (hC : cells ≤ C) (hS : slots ≤ S) (q : Q v T.heap locs) : Fin p e below s Q C S (T.setTop g) := by
  obtain ⟨fs, hr, hrun, hended, hW, hsame⟩ := X.leave (v := v) hv hlocks
  exact ⟨_, _, hst fs hr, hrun, hended, _, _, rfl, q, ⟨_, rfl⟩, hW, hsame.mono hC hS⟩
theorem Fin.retI (X : Stand p l e R s m args below meth c T locs cells slots) (hx : p.tables.exec = Jvm.exec) {pc : Nat} {Ls : Array Slot} {z : Int32} {rest : List Value} (hret : meth.sig.returnType = some .int) (hlocks : meth.locks = false) (hd : decode c.code pc = .ok (.ireturn, 1))
    (hC : cells ≤ C) (hS : slots ≤ S) (q : Q (some (.int z)) T.heap locs) : Fin p e below s Q C S (T.setTop (mkF m pc Ls (.int z :: rest))) :=
  Fin.ret X (fun h => by rw [hret] at h; cases h) hlocks (fun fs hl => retOut X hx hret rfl (Or.inl ⟨rfl, Or.inl rfl, z, rfl⟩) hd hl) hC hS q
theorem Fin.retJ (X : Stand p l e R s m args below meth c T locs cells slots) (hx : p.tables.exec = Jvm.exec) {pc : Nat} {Ls : Array Slot} {z : Int64} {rest : List Value} (hret : meth.sig.returnType = some .long) (hlocks : meth.locks = false) (hd : decode c.code pc = .ok (.lreturn, 1))
    (hC : cells ≤ C) (hS : slots ≤ S) (q : Q (some (.long z)) T.heap locs) : Fin p e below s Q C S (T.setTop (mkF m pc Ls (.long z :: rest))) :=
  Fin.ret X (fun h => by rw [hret] at h; cases h) hlocks (fun fs hl => retOut X hx hret rfl (Or.inr (Or.inl ⟨rfl, rfl, z, rfl⟩)) hd hl) hC hS q
theorem Fin.retD (X : Stand p l e R s m args below meth c T locs cells slots) (hx : p.tables.exec = Jvm.exec) {pc : Nat} {Ls : Array Slot} {z : UInt64} {rest : List Value} (hret : meth.sig.returnType = some .double) (hlocks : meth.locks = false) (hd : decode c.code pc = .ok (.dreturn, 1))
    (hC : cells ≤ C) (hS : slots ≤ S) (q : Q (some (.double z)) T.heap locs) : Fin p e below s Q C S (T.setTop (mkF m pc Ls (.double z :: rest))) :=
  Fin.ret X (fun h => by rw [hret] at h; cases h) hlocks (fun fs hl => retOut X hx hret rfl (Or.inr (Or.inr (Or.inl ⟨rfl, rfl, z, rfl⟩))) hd hl) hC hS q
theorem Fin.retR (X : Stand p l e R s m args below meth c T locs cells slots) (hx : p.tables.exec = Jvm.exec) {pc : Nat} {Ls : Array Slot} {w : Value} {t : FieldType} {rest : List Value} (hret : meth.sig.returnType = some t) (ht : t.isReference = true) (hw : w.isRef = true) (hlocks : meth.locks = false) (hd : decode c.code pc = .ok (.areturn, 1))
    (hC : cells ≤ C) (hS : slots ≤ S) (q : Q (some w) T.heap locs) : Fin p e below s Q C S (T.setTop (mkF m pc Ls (w :: rest))) :=
  Fin.ret X (fun h => by rw [hret] at h; cases h) hlocks (fun fs hl => retOut X hx hret (by cases t <;> simp [FieldType.isReference] at ht <;> cases w <;> simp [Value.isRef] at hw <;> rfl) (Or.inr (Or.inr (Or.inr (Or.inr ⟨rfl, ht, hw⟩)))) hd hl) hC hS q
theorem Fin.retN (X : Stand p l e R s m args below meth c T locs cells slots) (hx : p.tables.exec = Jvm.exec) {pc : Nat} {Ls : Array Slot} {z : Int32} {t : FieldType} {rest : List Value} (hret : meth.sig.returnType = some t) (ht : t = .boolean ∨ t = .byte ∨ t = .char ∨ t = .short) (hlocks : meth.locks = false) (hd : decode c.code pc = .ok (.ireturn, 1))
    (hC : cells ≤ C) (hS : slots ≤ S) (q : Q (some (.int (nar t z))) T.heap locs) : Fin p e below s Q C S (T.setTop (mkF m pc Ls (.int z :: rest))) :=
  Fin.ret X (fun h => by rw [hret] at h; cases h) hlocks (fun fs hl => RoadKit.retN X hx hret ht hd hl) hC hS q
theorem Fin.retV (X : Stand p l e R s m args below meth c T locs cells slots) (hx : p.tables.exec = Jvm.exec) {pc : Nat} {Ls : Array Slot} (hret : meth.sig.returnType = none) (hlocks : meth.locks = false) (hd : decode c.code pc = .ok (.return_, 1))
    (hC : cells ≤ C) (hS : slots ≤ S) (q : Q none T.heap locs) : Fin p e below s Q C S (T.setTop (mkF m pc Ls [])) :=
  Fin.ret X (fun _ => rfl) hlocks (fun fs hl => X.returnOut hx hret hd hl) hC hS q
/-- the same where the walk may intern: the end's frame is ReturnedEndW -/
def FinW (p : Program) (e : Env) (below : List Frame) (s : State) (Q : Option Value → Heap → List Loc → Prop) (C S : Nat) (st : State) : Prop :=
  ∃ s₂ o, Steps p.tables e below st s₂ ∧ s₂.status = .running ∧ Ended s₂ below o ∧ ∃ v L, o = .returned v ∧ Q v s₂.heap L ∧ ReturnedEndW s o s₂ L C S
theorem FinW.step {st st' : State} (h : ∀ t, Steps p.tables e below st' t → Steps p.tables e below st t) (k : FinW p e below s Q C S st') : FinW p e below s Q C S st := by
  obtain ⟨s₂, o, h1, h2⟩ := k
  exact ⟨s₂, o, h _ h1, h2⟩
theorem FinW.ret {vm₁ : Vm} (X : Stand p l e R (s.setVm vm₁) m args below meth c T locs cells slots) {n : Nat} (hS : s.Since vm₁ n) (hn : n ≤ T.heap.size) {v : Option Value} {g : JFrame} (hv : meth.sig.returnType = none → v = none) (hlocks : meth.locks = false)
    (hst : ∀ fs, (∀ (f : JFrame) (acts : List Action), f.method = m → f.locked = none → f.entered = [] → (doReturn e (T.setTop f) acts v).1 = T.setFrames fs) → Steps p.tables e below (T.setTop g) (T.setFrames fs))
    (hC : cells ≤ C) (hS' : slots ≤ S) (q : Q v T.heap locs) : FinW p e below s Q C S (T.setTop g) := by
  obtain ⟨fs, hr, hrun, hended, hW⟩ := X.leaveW hS hn (v := v) hv hlocks
  exact ⟨_, _, hst fs hr, hrun, hended, _, _, rfl, q, hW.1, hW.2.1, hW.2.2.1, hW.2.2.2.mono hC hS'⟩
theorem FinW.retN {vm₁ : Vm} (X : Stand p l e R (s.setVm vm₁) m args below meth c T locs cells slots) {n : Nat} (hS : s.Since vm₁ n) (hn : n ≤ T.heap.size) (hx : p.tables.exec = Jvm.exec) {pc : Nat} {Ls : Array Slot} {z : Int32} {t : FieldType} {rest : List Value} (hret : meth.sig.returnType = some t) (ht : t = .boolean ∨ t = .byte ∨ t = .char ∨ t = .short) (hlocks : meth.locks = false) (hd : decode c.code pc = .ok (.ireturn, 1))
    (hC : cells ≤ C) (hS' : slots ≤ S) (q : Q (some (.int (nar t z))) T.heap locs) : FinW p e below s Q C S (T.setTop (mkF m pc Ls (.int z :: rest))) :=
  FinW.ret X hS hn (fun h => by rw [hret] at h; cases h) hlocks (fun fs hl => RoadKit.retN X hx hret ht hd hl) hC hS' q
theorem FinW.retR {vm₁ : Vm} (X : Stand p l e R (s.setVm vm₁) m args below meth c T locs cells slots) {n : Nat} (hS : s.Since vm₁ n) (hn : n ≤ T.heap.size) (hx : p.tables.exec = Jvm.exec) {pc : Nat} {Ls : Array Slot} {w : Value} {t : FieldType} {rest : List Value} (hret : meth.sig.returnType = some t) (ht : t.isReference = true) (hw : w.isRef = true) (hlocks : meth.locks = false) (hd : decode c.code pc = .ok (.areturn, 1))
    (hC : cells ≤ C) (hS' : slots ≤ S) (q : Q (some w) T.heap locs) : FinW p e below s Q C S (T.setTop (mkF m pc Ls (w :: rest))) :=
  FinW.ret X hS hn (fun h => by rw [hret] at h; cases h) hlocks (fun fs hl => retOut X hx hret (by cases t <;> simp [FieldType.isReference] at ht <;> cases w <;> simp [Value.isRef] at hw <;> rfl) (Or.inr (Or.inr (Or.inr (Or.inr ⟨rfl, ht, hw⟩)))) hd hl) hC hS' q
theorem Fld.cast {Z : State} {h : Heap} {a : Addr} {C n d : String} {v w : Value} (F : Fld Z h a C n d v) (e : v = w) : Fld Z h a C n d w := e ▸ F
theorem Sta_keep {Z : State} {h h' : Heap} {C n d : String} {v : Value} (F : Sta Z h C n d v) (K : Keep h h' []) : Sta Z h' C n d v := by
  obtain ⟨cf, i, k, f, st, cell, h1, h2, h3, h4, h5, r⟩ := F
  exact ⟨cf, i, k, f, st, cell, h1, h2, h3, h4, K.2.1 _ _ h5 nin0, r⟩
theorem Arr_keep {Z : State} {h h' : Heap} {a : Addr} {c : Cell} {ty : FieldType} (F : Arr Z h a c ty) (K : Keep h h' []) : Arr Z h' a c ty := ⟨K.2.1 _ _ F.1 nin0, F.2⟩
/-- the shifts without sign -/
def ushL (x : Int64) (k : Int32) : Int64 := (x.toUInt64 >>> (k &&& 0x3f).toInt64.toUInt64).toInt64
def ushI (x k : Int32) : Int32 := (x.toUInt32 >>> (k &&& 31).toUInt32).toInt32
theorem lcE {x y : Int64} (h : x = y) : lcmpW x y = 0 := by rw [lcW]; exact (lc_eq x y).mpr h
theorem lcNE {x y : Int64} (h : ¬ x = y) : ¬ lcmpW x y = 0 := fun q => h ((lc_eq x y).mp (by rw [← lcW]; exact q))
theorem lcL {x y : Int64} (h : x < y) : lcmpW x y < 0 := by rw [lcW]; exact (lc_lt x y).mpr h
theorem lcNL {x y : Int64} (h : ¬ x < y) : ¬ lcmpW x y < 0 := fun q => h ((lc_lt x y).mp (by rw [← lcW]; exact q))
theorem lcG {x y : Int64} (h : y < x) : 0 < lcmpW x y := by rw [lcW]; exact (lc_gt x y).mpr h
theorem lcNG {x y : Int64} (h : ¬ y < x) : ¬ 0 < lcmpW x y := fun q => h ((lc_gt x y).mp (by rw [← lcW]; exact q))
end Own
end Jvm.OwnKit
namespace Jvm.Pilot.@@N@@
open Jvm Jvm.ClassFile Sem Op Lib Jvm.Free Jvm.Stand Jvm.LawKit Jvm.RoadKit Jvm.OwnKit Bundle Jvm.Pilot.@@N@@.Jvm.D
theorem own_k4 (x : Int32) : (x &&& 3) = 0 ∨ (x &&& 3) = 1 ∨ (x &&& 3) = 2 ∨ (x &&& 3) = 3 := by
  have h : (x &&& 3).toInt = x.toInt % 2 ^ 2 := Jvm.Kit.i32_mask x 3 (k := 2) (by decide) (by decide)
  generalize (x &&& 3) = y at *
  have e : y.toInt = 0 ∨ y.toInt = 1 ∨ y.toInt = 2 ∨ y.toInt = 3 := by omega
  rcases e with e | e | e | e
  · exact Or.inl (Int32.toInt_inj.mp (by rw [e]; rfl))
  · exact Or.inr (Or.inl (Int32.toInt_inj.mp (by rw [e]; rfl)))
  · exact Or.inr (Or.inr (Or.inl (Int32.toInt_inj.mp (by rw [e]; rfl))))
  · exact Or.inr (Or.inr (Or.inr (Int32.toInt_inj.mp (by rw [e]; rfl))))
theorem d1_0 : decode method_2_code 0 = .ok (.iload_n 0, 1) := by decide +kernel
theorem d1_1 : decode method_2_code 1 = .ok (.ifCond .ne 7, 3) := by decide +kernel
theorem d1_4 : decode method_2_code 4 = .ok (.getstatic 7, 3) := by decide +kernel
theorem d1_7 : decode method_2_code 7 = .ok (.areturn, 1) := by decide +kernel
theorem d1_8 : decode method_2_code 8 = .ok (.iload_n 0, 1) := by decide +kernel
theorem d1_9 : decode method_2_code 9 = .ok (.iconst 1, 1) := by decide +kernel
theorem d1_10 : decode method_2_code 10 = .ok (.if_icmp .ne 7, 3) := by decide +kernel
theorem d1_13 : decode method_2_code 13 = .ok (.getstatic 13, 3) := by decide +kernel
theorem d1_16 : decode method_2_code 16 = .ok (.areturn, 1) := by decide +kernel
theorem d1_17 : decode method_2_code 17 = .ok (.iload_n 0, 1) := by decide +kernel
theorem d1_18 : decode method_2_code 18 = .ok (.iconst 2, 1) := by decide +kernel
theorem d1_19 : decode method_2_code 19 = .ok (.if_icmp .ne 7, 3) := by decide +kernel
theorem d1_22 : decode method_2_code 22 = .ok (.getstatic 16, 3) := by decide +kernel
theorem d1_25 : decode method_2_code 25 = .ok (.areturn, 1) := by decide +kernel
theorem d1_26 : decode method_2_code 26 = .ok (.getstatic 19, 3) := by decide +kernel
theorem d1_29 : decode method_2_code 29 = .ok (.areturn, 1) := by decide +kernel
theorem pn_1 : plainName "com/example/multiparty/multiparty/ControllerKindSharesByTrustPinLaw" = true := by first | (simp [plainName, overriddenIn]; done) | decide +kernel
theorem ef_rmp0 (m : MethodId) (x0 : Int32) : entryFrame m #[(.int x0)] 1 = mkF m 0 #[.val (.int x0)] [] := by first | (simp [entryFrame, mkF, argsToLocals, Value.category]; done) | rfl
def Qp0 (Z : State) (p1 : Int32) (o1 : Addr) (h0 : Heap) (n0 : Nat) (v : Option Value) (h : Heap) (L : List Loc) : Prop := v = some (.ref o1) ∧ Fr n0 L ∧ h = h0
set_option maxRecDepth 65536 in
set_option maxHeartbeats 40000000 in
theorem rmp0 (l : Launch) (Z : State) (a0 : Array Value) (hw : ∀ d ∈ tables_1, d.before a0 Z = true) (ws : List Jvm.Cond) (p1 : Int32) (o1 : Addr) (h0 : Heap) (n0 : Nat) (Z0 : n0 ≤ h0.size) (HS_com_example_multiparty_multiparty_ControllerKind_OWNER : Sta Z h0 "com/example/multiparty/multiparty/ControllerKind" "OWNER" "Lcom/example/multiparty/multiparty/ControllerKind;" (.ref o1)) (hp : p1 = (0 : Int32)) :
    MetFree l (⟨"com/example/multiparty/multiparty/ControllerKindSharesByTrustPinLaw", "pick", "(I)Lcom/example/multiparty/multiparty/ControllerKind;"⟩ : MethodName) (head1 (Jvm.Cond.code (⟨"com/example/multiparty/multiparty/ControllerKindSharesByTrustPinLaw", "pick", "(I)Lcom/example/multiparty/multiparty/ControllerKind;"⟩ : MethodName) method_2_code 1 (some (.object "com/example/multiparty/multiparty/ControllerKind")) :: ws) ({ frames := 0, cells := 0, slots := 0, locals := 0 } : Room)) (fun a U => a = #[(.int p1)] ∧ Z.Warmed39 U.vm ∧ U.heap = h0) (fun _ _ _ _ _ => True) (fun _ U o U' => ∃ v L, o = .returned v ∧ Qp0 Z p1 o1 h0 n0 v U'.heap L ∧ FrameEnd U o U' L ({ frames := 0, cells := 0, slots := 0, locals := 0 } : Room).cells ({ frames := 0, cells := 0, slots := 0, locals := 0 } : Room).slots) := by
  refine MetFree.of_bodySF (plainFor_of_name pn_1) hisR ?_
  intro p e s m args below meth c s₁ Bd hml0 hP hK
  obtain ⟨rfl, hZ, hh⟩ := hP
  have hx := Bd.exec
  have hby := Bd.bytes
  have hlk := BodyLoose.notSynchronized Bd
  have hret := Bd.returns
  have hml : c.maxLocals = 1 := hml0
  have hown : s.vm.findClass "com/example/multiparty/multiparty/ControllerKindSharesByTrustPinLaw" = some m.cls := findClass_of_methodNamed Bd.named
  have hnm := (name_of_methodNamed Bd.named Bd.method).1
  have X0 : Stand p l e ({ frames := 0, cells := 0, slots := 0, locals := 0 } : Room) s m #[(.int p1)] below meth c s₁ [] 0 0 := Stand.of_body Bd
  have e0 : s₁.heap = h0 := by rw [← hh, Bd.state]; rfl
  have N0 := Fr.nil n0
  have K0 : Keep h0 h0 [] := Keep.refl h0 _
  refine Fin.step (Q := fun v h L => Qp0 Z p1 o1 h0 n0 v h L) (st' := s₁.setTop (mkF m 0 #[.val (.int p1)] [])) (fun t k => castTop (ef_rmp0 m p1) k) ?_
  show Fin p e below s _ _ _ (s₁.setTop (mkF m 0 #[.val (.int p1)] []))
  refine Fin.step (fun _ => XS.iloadN X0.here hx rfl (hb hby d1_0) rfl) ?_
  show Fin p e below s _ _ _ (s₁.setTop (mkF m 1 #[.val (.int p1)] [(.int p1)]))
  refine Fin.step (fun _ => XS.ifNo X0.here hx rfl (hb hby d1_1) rfl ((if0 _ _).trans (teq (hp : (p1 = (0 : Int32)))).2)) ?_
  show Fin p e below s _ _ _ (s₁.setTop (mkF m 4 #[.val (.int p1)] []))
  obtain ⟨Ty1, Xy1, ey1, sty1⟩ := getS2 X0 hx hZ hown (host := "") (Or.inl (hw _ (List.mem_of_getElem? (i := 4) rfl))) Via.refl e0 HS_com_example_multiparty_multiparty_ControllerKind_OWNER (g := (mkF m 4 #[.val (.int p1)] [])) rfl (hb hby d1_4)
  refine Fin.step (sty1) ?_
  show Fin p e below s _ _ _ (Ty1.setTop (mkF m 7 #[.val (.int p1)] [(.ref o1)]))
  refine Fin.retR Xy1 hx hret rfl rfl hlk (hb hby d1_7) (by decide) (by decide) ?_
  show Qp0 Z p1 o1 h0 n0 _ Ty1.heap _
  rw [ey1]
  exact ⟨rfl, N0, rfl⟩
theorem ef_rmp1 (m : MethodId) (x0 : Int32) : entryFrame m #[(.int x0)] 1 = mkF m 0 #[.val (.int x0)] [] := by first | (simp [entryFrame, mkF, argsToLocals, Value.category]; done) | rfl
def Qp1 (Z : State) (p1 : Int32) (o1 : Addr) (h0 : Heap) (n0 : Nat) (v : Option Value) (h : Heap) (L : List Loc) : Prop := v = some (.ref o1) ∧ Fr n0 L ∧ h = h0
set_option maxRecDepth 65536 in
set_option maxHeartbeats 40000000 in
theorem rmp1 (l : Launch) (Z : State) (a0 : Array Value) (hw : ∀ d ∈ tables_1, d.before a0 Z = true) (ws : List Jvm.Cond) (p1 : Int32) (o1 : Addr) (h0 : Heap) (n0 : Nat) (Z0 : n0 ≤ h0.size) (HS_com_example_multiparty_multiparty_ControllerKind_STAKEHOLDER : Sta Z h0 "com/example/multiparty/multiparty/ControllerKind" "STAKEHOLDER" "Lcom/example/multiparty/multiparty/ControllerKind;" (.ref o1)) (hp : p1 = (1 : Int32)) :
    MetFree l (⟨"com/example/multiparty/multiparty/ControllerKindSharesByTrustPinLaw", "pick", "(I)Lcom/example/multiparty/multiparty/ControllerKind;"⟩ : MethodName) (head1 (Jvm.Cond.code (⟨"com/example/multiparty/multiparty/ControllerKindSharesByTrustPinLaw", "pick", "(I)Lcom/example/multiparty/multiparty/ControllerKind;"⟩ : MethodName) method_2_code 1 (some (.object "com/example/multiparty/multiparty/ControllerKind")) :: ws) ({ frames := 0, cells := 0, slots := 0, locals := 0 } : Room)) (fun a U => a = #[(.int p1)] ∧ Z.Warmed39 U.vm ∧ U.heap = h0) (fun _ _ _ _ _ => True) (fun _ U o U' => ∃ v L, o = .returned v ∧ Qp1 Z p1 o1 h0 n0 v U'.heap L ∧ FrameEnd U o U' L ({ frames := 0, cells := 0, slots := 0, locals := 0 } : Room).cells ({ frames := 0, cells := 0, slots := 0, locals := 0 } : Room).slots) := by
  refine MetFree.of_bodySF (plainFor_of_name pn_1) hisR ?_
  intro p e s m args below meth c s₁ Bd hml0 hP hK
  obtain ⟨rfl, hZ, hh⟩ := hP
  have hx := Bd.exec
  have hby := Bd.bytes
  have hlk := BodyLoose.notSynchronized Bd
  have hret := Bd.returns
  have hml : c.maxLocals = 1 := hml0
  have hown : s.vm.findClass "com/example/multiparty/multiparty/ControllerKindSharesByTrustPinLaw" = some m.cls := findClass_of_methodNamed Bd.named
  have hnm := (name_of_methodNamed Bd.named Bd.method).1
  have X0 : Stand p l e ({ frames := 0, cells := 0, slots := 0, locals := 0 } : Room) s m #[(.int p1)] below meth c s₁ [] 0 0 := Stand.of_body Bd
  have e0 : s₁.heap = h0 := by rw [← hh, Bd.state]; rfl
  have N0 := Fr.nil n0
  have K0 : Keep h0 h0 [] := Keep.refl h0 _
  refine Fin.step (Q := fun v h L => Qp1 Z p1 o1 h0 n0 v h L) (st' := s₁.setTop (mkF m 0 #[.val (.int p1)] [])) (fun t k => castTop (ef_rmp1 m p1) k) ?_
  show Fin p e below s _ _ _ (s₁.setTop (mkF m 0 #[.val (.int p1)] []))
  refine Fin.step (fun _ => XS.iloadN X0.here hx rfl (hb hby d1_0) rfl) ?_
  show Fin p e below s _ _ _ (s₁.setTop (mkF m 1 #[.val (.int p1)] [(.int p1)]))
  refine Fin.step (fun _ => XS.ifYes X0.here hx rfl (pc0 := 1) (pc' := 8) rfl (hb hby d1_1) rfl ((if0 _ _).trans (feq ((by rw [hp]; decide) : ¬ (p1 = (0 : Int32)))).2) (by decide) (by decide)) ?_
  show Fin p e below s _ _ _ (s₁.setTop (mkF m 8 #[.val (.int p1)] []))
  refine Fin.step (fun _ => XS.iloadN X0.here hx rfl (hb hby d1_8) rfl) ?_
  show Fin p e below s _ _ _ (s₁.setTop (mkF m 9 #[.val (.int p1)] [(.int p1)]))
  refine Fin.step (fun _ => XS.iconst X0.here hx rfl (hb hby d1_9)) ?_
  show Fin p e below s _ _ _ (s₁.setTop (mkF m 10 #[.val (.int p1)] [(.int (1 : Int32)), (.int p1)]))
  refine Fin.step (fun _ => XS.icmpNo X0.here hx rfl (hb hby d1_10) rfl (teq (hp : (p1 = (1 : Int32)))).2) ?_
  show Fin p e below s _ _ _ (s₁.setTop (mkF m 13 #[.val (.int p1)] []))
  obtain ⟨Ty1, Xy1, ey1, sty1⟩ := getS2 X0 hx hZ hown (host := "") (Or.inl (hw _ (List.mem_of_getElem? (i := 18) rfl))) Via.refl e0 HS_com_example_multiparty_multiparty_ControllerKind_STAKEHOLDER (g := (mkF m 13 #[.val (.int p1)] [])) rfl (hb hby d1_13)
  refine Fin.step (sty1) ?_
  show Fin p e below s _ _ _ (Ty1.setTop (mkF m 16 #[.val (.int p1)] [(.ref o1)]))
  refine Fin.retR Xy1 hx hret rfl rfl hlk (hb hby d1_16) (by decide) (by decide) ?_
  show Qp1 Z p1 o1 h0 n0 _ Ty1.heap _
  rw [ey1]
  exact ⟨rfl, N0, rfl⟩
theorem ef_rmp2 (m : MethodId) (x0 : Int32) : entryFrame m #[(.int x0)] 1 = mkF m 0 #[.val (.int x0)] [] := by first | (simp [entryFrame, mkF, argsToLocals, Value.category]; done) | rfl
def Qp2 (Z : State) (p1 : Int32) (o1 : Addr) (h0 : Heap) (n0 : Nat) (v : Option Value) (h : Heap) (L : List Loc) : Prop := v = some (.ref o1) ∧ Fr n0 L ∧ h = h0
set_option maxRecDepth 65536 in
set_option maxHeartbeats 40000000 in
theorem rmp2 (l : Launch) (Z : State) (a0 : Array Value) (hw : ∀ d ∈ tables_1, d.before a0 Z = true) (ws : List Jvm.Cond) (p1 : Int32) (o1 : Addr) (h0 : Heap) (n0 : Nat) (Z0 : n0 ≤ h0.size) (HS_com_example_multiparty_multiparty_ControllerKind_CONTRIBUTOR : Sta Z h0 "com/example/multiparty/multiparty/ControllerKind" "CONTRIBUTOR" "Lcom/example/multiparty/multiparty/ControllerKind;" (.ref o1)) (hp : p1 = (2 : Int32)) :
    MetFree l (⟨"com/example/multiparty/multiparty/ControllerKindSharesByTrustPinLaw", "pick", "(I)Lcom/example/multiparty/multiparty/ControllerKind;"⟩ : MethodName) (head1 (Jvm.Cond.code (⟨"com/example/multiparty/multiparty/ControllerKindSharesByTrustPinLaw", "pick", "(I)Lcom/example/multiparty/multiparty/ControllerKind;"⟩ : MethodName) method_2_code 1 (some (.object "com/example/multiparty/multiparty/ControllerKind")) :: ws) ({ frames := 0, cells := 0, slots := 0, locals := 0 } : Room)) (fun a U => a = #[(.int p1)] ∧ Z.Warmed39 U.vm ∧ U.heap = h0) (fun _ _ _ _ _ => True) (fun _ U o U' => ∃ v L, o = .returned v ∧ Qp2 Z p1 o1 h0 n0 v U'.heap L ∧ FrameEnd U o U' L ({ frames := 0, cells := 0, slots := 0, locals := 0 } : Room).cells ({ frames := 0, cells := 0, slots := 0, locals := 0 } : Room).slots) := by
  refine MetFree.of_bodySF (plainFor_of_name pn_1) hisR ?_
  intro p e s m args below meth c s₁ Bd hml0 hP hK
  obtain ⟨rfl, hZ, hh⟩ := hP
  have hx := Bd.exec
  have hby := Bd.bytes
  have hlk := BodyLoose.notSynchronized Bd
  have hret := Bd.returns
  have hml : c.maxLocals = 1 := hml0
  have hown : s.vm.findClass "com/example/multiparty/multiparty/ControllerKindSharesByTrustPinLaw" = some m.cls := findClass_of_methodNamed Bd.named
  have hnm := (name_of_methodNamed Bd.named Bd.method).1
  have X0 : Stand p l e ({ frames := 0, cells := 0, slots := 0, locals := 0 } : Room) s m #[(.int p1)] below meth c s₁ [] 0 0 := Stand.of_body Bd
  have e0 : s₁.heap = h0 := by rw [← hh, Bd.state]; rfl
  have N0 := Fr.nil n0
  have K0 : Keep h0 h0 [] := Keep.refl h0 _
  refine Fin.step (Q := fun v h L => Qp2 Z p1 o1 h0 n0 v h L) (st' := s₁.setTop (mkF m 0 #[.val (.int p1)] [])) (fun t k => castTop (ef_rmp2 m p1) k) ?_
  show Fin p e below s _ _ _ (s₁.setTop (mkF m 0 #[.val (.int p1)] []))
  refine Fin.step (fun _ => XS.iloadN X0.here hx rfl (hb hby d1_0) rfl) ?_
  show Fin p e below s _ _ _ (s₁.setTop (mkF m 1 #[.val (.int p1)] [(.int p1)]))
  refine Fin.step (fun _ => XS.ifYes X0.here hx rfl (pc0 := 1) (pc' := 8) rfl (hb hby d1_1) rfl ((if0 _ _).trans (feq ((by rw [hp]; decide) : ¬ (p1 = (0 : Int32)))).2) (by decide) (by decide)) ?_
  show Fin p e below s _ _ _ (s₁.setTop (mkF m 8 #[.val (.int p1)] []))
  refine Fin.step (fun _ => XS.iloadN X0.here hx rfl (hb hby d1_8) rfl) ?_
  show Fin p e below s _ _ _ (s₁.setTop (mkF m 9 #[.val (.int p1)] [(.int p1)]))
  refine Fin.step (fun _ => XS.iconst X0.here hx rfl (hb hby d1_9)) ?_
  show Fin p e below s _ _ _ (s₁.setTop (mkF m 10 #[.val (.int p1)] [(.int (1 : Int32)), (.int p1)]))
  refine Fin.step (fun _ => XS.icmpYes X0.here hx rfl (pc0 := 10) (pc' := 17) rfl (hb hby d1_10) rfl (feq ((by rw [hp]; decide) : ¬ (p1 = (1 : Int32)))).2 (by decide) (by decide)) ?_
  show Fin p e below s _ _ _ (s₁.setTop (mkF m 17 #[.val (.int p1)] []))
  refine Fin.step (fun _ => XS.iloadN X0.here hx rfl (hb hby d1_17) rfl) ?_
  show Fin p e below s _ _ _ (s₁.setTop (mkF m 18 #[.val (.int p1)] [(.int p1)]))
  refine Fin.step (fun _ => XS.iconst X0.here hx rfl (hb hby d1_18)) ?_
  show Fin p e below s _ _ _ (s₁.setTop (mkF m 19 #[.val (.int p1)] [(.int (2 : Int32)), (.int p1)]))
  refine Fin.step (fun _ => XS.icmpNo X0.here hx rfl (hb hby d1_19) rfl (teq (hp : (p1 = (2 : Int32)))).2) ?_
  show Fin p e below s _ _ _ (s₁.setTop (mkF m 22 #[.val (.int p1)] []))
  obtain ⟨Ty1, Xy1, ey1, sty1⟩ := getS2 X0 hx hZ hown (host := "") (Or.inl (hw _ (List.mem_of_getElem? (i := 16) rfl))) Via.refl e0 HS_com_example_multiparty_multiparty_ControllerKind_CONTRIBUTOR (g := (mkF m 22 #[.val (.int p1)] [])) rfl (hb hby d1_22)
  refine Fin.step (sty1) ?_
  show Fin p e below s _ _ _ (Ty1.setTop (mkF m 25 #[.val (.int p1)] [(.ref o1)]))
  refine Fin.retR Xy1 hx hret rfl rfl hlk (hb hby d1_25) (by decide) (by decide) ?_
  show Qp2 Z p1 o1 h0 n0 _ Ty1.heap _
  rw [ey1]
  exact ⟨rfl, N0, rfl⟩
theorem ef_rmp3 (m : MethodId) (x0 : Int32) : entryFrame m #[(.int x0)] 1 = mkF m 0 #[.val (.int x0)] [] := by first | (simp [entryFrame, mkF, argsToLocals, Value.category]; done) | rfl
def Qp3 (Z : State) (p1 : Int32) (o1 : Addr) (h0 : Heap) (n0 : Nat) (v : Option Value) (h : Heap) (L : List Loc) : Prop := v = some (.ref o1) ∧ Fr n0 L ∧ h = h0
set_option maxRecDepth 65536 in
set_option maxHeartbeats 40000000 in
theorem rmp3 (l : Launch) (Z : State) (a0 : Array Value) (hw : ∀ d ∈ tables_1, d.before a0 Z = true) (ws : List Jvm.Cond) (p1 : Int32) (o1 : Addr) (h0 : Heap) (n0 : Nat) (Z0 : n0 ≤ h0.size) (HS_com_example_multiparty_multiparty_ControllerKind_ORIGINATOR : Sta Z h0 "com/example/multiparty/multiparty/ControllerKind" "ORIGINATOR" "Lcom/example/multiparty/multiparty/ControllerKind;" (.ref o1)) (hp : p1 = (3 : Int32)) :
    MetFree l (⟨"com/example/multiparty/multiparty/ControllerKindSharesByTrustPinLaw", "pick", "(I)Lcom/example/multiparty/multiparty/ControllerKind;"⟩ : MethodName) (head1 (Jvm.Cond.code (⟨"com/example/multiparty/multiparty/ControllerKindSharesByTrustPinLaw", "pick", "(I)Lcom/example/multiparty/multiparty/ControllerKind;"⟩ : MethodName) method_2_code 1 (some (.object "com/example/multiparty/multiparty/ControllerKind")) :: ws) ({ frames := 0, cells := 0, slots := 0, locals := 0 } : Room)) (fun a U => a = #[(.int p1)] ∧ Z.Warmed39 U.vm ∧ U.heap = h0) (fun _ _ _ _ _ => True) (fun _ U o U' => ∃ v L, o = .returned v ∧ Qp3 Z p1 o1 h0 n0 v U'.heap L ∧ FrameEnd U o U' L ({ frames := 0, cells := 0, slots := 0, locals := 0 } : Room).cells ({ frames := 0, cells := 0, slots := 0, locals := 0 } : Room).slots) := by
  refine MetFree.of_bodySF (plainFor_of_name pn_1) hisR ?_
  intro p e s m args below meth c s₁ Bd hml0 hP hK
  obtain ⟨rfl, hZ, hh⟩ := hP
  have hx := Bd.exec
  have hby := Bd.bytes
  have hlk := BodyLoose.notSynchronized Bd
  have hret := Bd.returns
  have hml : c.maxLocals = 1 := hml0
  have hown : s.vm.findClass "com/example/multiparty/multiparty/ControllerKindSharesByTrustPinLaw" = some m.cls := findClass_of_methodNamed Bd.named
  have hnm := (name_of_methodNamed Bd.named Bd.method).1
  have X0 : Stand p l e ({ frames := 0, cells := 0, slots := 0, locals := 0 } : Room) s m #[(.int p1)] below meth c s₁ [] 0 0 := Stand.of_body Bd
  have e0 : s₁.heap = h0 := by rw [← hh, Bd.state]; rfl
  have N0 := Fr.nil n0
  have K0 : Keep h0 h0 [] := Keep.refl h0 _
  refine Fin.step (Q := fun v h L => Qp3 Z p1 o1 h0 n0 v h L) (st' := s₁.setTop (mkF m 0 #[.val (.int p1)] [])) (fun t k => castTop (ef_rmp3 m p1) k) ?_
  show Fin p e below s _ _ _ (s₁.setTop (mkF m 0 #[.val (.int p1)] []))
  refine Fin.step (fun _ => XS.iloadN X0.here hx rfl (hb hby d1_0) rfl) ?_
  show Fin p e below s _ _ _ (s₁.setTop (mkF m 1 #[.val (.int p1)] [(.int p1)]))
  refine Fin.step (fun _ => XS.ifYes X0.here hx rfl (pc0 := 1) (pc' := 8) rfl (hb hby d1_1) rfl ((if0 _ _).trans (feq ((by rw [hp]; decide) : ¬ (p1 = (0 : Int32)))).2) (by decide) (by decide)) ?_
  show Fin p e below s _ _ _ (s₁.setTop (mkF m 8 #[.val (.int p1)] []))
  refine Fin.step (fun _ => XS.iloadN X0.here hx rfl (hb hby d1_8) rfl) ?_
  show Fin p e below s _ _ _ (s₁.setTop (mkF m 9 #[.val (.int p1)] [(.int p1)]))
  refine Fin.step (fun _ => XS.iconst X0.here hx rfl (hb hby d1_9)) ?_
  show Fin p e below s _ _ _ (s₁.setTop (mkF m 10 #[.val (.int p1)] [(.int (1 : Int32)), (.int p1)]))
  refine Fin.step (fun _ => XS.icmpYes X0.here hx rfl (pc0 := 10) (pc' := 17) rfl (hb hby d1_10) rfl (feq ((by rw [hp]; decide) : ¬ (p1 = (1 : Int32)))).2 (by decide) (by decide)) ?_
  show Fin p e below s _ _ _ (s₁.setTop (mkF m 17 #[.val (.int p1)] []))
  refine Fin.step (fun _ => XS.iloadN X0.here hx rfl (hb hby d1_17) rfl) ?_
  show Fin p e below s _ _ _ (s₁.setTop (mkF m 18 #[.val (.int p1)] [(.int p1)]))
  refine Fin.step (fun _ => XS.iconst X0.here hx rfl (hb hby d1_18)) ?_
  show Fin p e below s _ _ _ (s₁.setTop (mkF m 19 #[.val (.int p1)] [(.int (2 : Int32)), (.int p1)]))
  refine Fin.step (fun _ => XS.icmpYes X0.here hx rfl (pc0 := 19) (pc' := 26) rfl (hb hby d1_19) rfl (feq ((by rw [hp]; decide) : ¬ (p1 = (2 : Int32)))).2 (by decide) (by decide)) ?_
  show Fin p e below s _ _ _ (s₁.setTop (mkF m 26 #[.val (.int p1)] []))
  obtain ⟨Ty1, Xy1, ey1, sty1⟩ := getS2 X0 hx hZ hown (host := "") (Or.inl (hw _ (List.mem_of_getElem? (i := 14) rfl))) Via.refl e0 HS_com_example_multiparty_multiparty_ControllerKind_ORIGINATOR (g := (mkF m 26 #[.val (.int p1)] [])) rfl (hb hby d1_26)
  refine Fin.step (sty1) ?_
  show Fin p e below s _ _ _ (Ty1.setTop (mkF m 29 #[.val (.int p1)] [(.ref o1)]))
  refine Fin.retR Xy1 hx hret rfl rfl hlk (hb hby d1_29) (by decide) (by decide) ?_
  show Qp3 Z p1 o1 h0 n0 _ Ty1.heap _
  rw [ey1]
  exact ⟨rfl, N0, rfl⟩
theorem d2_0 : decode prog_4_method_7_code 0 = .ok (.aload_n 0, 1) := by decide +kernel
theorem d2_1 : decode prog_4_method_7_code 1 = .ok (.getfield 51, 3) := by decide +kernel
theorem d2_4 : decode prog_4_method_7_code 4 = .ok (.ifnull 7, 3) := by decide +kernel
theorem d2_7 : decode prog_4_method_7_code 7 = .ok (.iconst 1, 1) := by decide +kernel
theorem d2_8 : decode prog_4_method_7_code 8 = .ok (.goto 4, 3) := by decide +kernel
theorem d2_11 : decode prog_4_method_7_code 11 = .ok (.iconst 0, 1) := by decide +kernel
theorem d2_12 : decode prog_4_method_7_code 12 = .ok (.ireturn, 1) := by decide +kernel
theorem pn_2 : plainName "com/example/multiparty/multiparty/ControllerKind" = true := by first | (simp [plainName, overriddenIn]; done) | decide +kernel
theorem ef_rms0 (m : MethodId) (x0 : Addr) : entryFrame m #[(.ref x0)] 1 = mkF m 0 #[.val (.ref x0)] [] := by first | (simp [entryFrame, mkF, argsToLocals, Value.category]; done) | rfl
def Qs0 (Z : State) (a1 : Addr) (h0 : Heap) (n0 : Nat) (v : Option Value) (h : Heap) (L : List Loc) : Prop := v = some (.int (0 : Int32)) ∧ Fr n0 L ∧ h = h0
set_option maxRecDepth 65536 in
set_option maxHeartbeats 40000000 in
theorem rms0 (l : Launch) (Z : State) (a0 : Array Value) (hw : ∀ d ∈ tables_1, d.before a0 Z = true) (ws : List Jvm.Cond) (a1 : Addr) (h0 : Heap) (n0 : Nat) (Z0 : n0 ≤ h0.size) (HF_a1_trusting : Fld Z h0 a1 "com/example/multiparty/multiparty/ControllerKind" "trusting" "Ljava/math/BigDecimal;" .null) :
    MetFree l (⟨"com/example/multiparty/multiparty/ControllerKind", "sharesByTrust", "()Z"⟩ : MethodName) (head1 (Jvm.Cond.code (⟨"com/example/multiparty/multiparty/ControllerKind", "sharesByTrust", "()Z"⟩ : MethodName) prog_4_method_7_code 1 (some .boolean) :: ws) ({ frames := 0, cells := 0, slots := 0, locals := 0 } : Room)) (fun a U => a = #[(.ref a1)] ∧ Z.Warmed39 U.vm ∧ U.heap = h0) (fun _ _ _ _ _ => True) (fun _ U o U' => ∃ v L, o = .returned v ∧ Qs0 Z a1 h0 n0 v U'.heap L ∧ FrameEnd U o U' L ({ frames := 0, cells := 0, slots := 0, locals := 0 } : Room).cells ({ frames := 0, cells := 0, slots := 0, locals := 0 } : Room).slots) := by
  refine MetFree.of_bodySF (plainFor_of_name pn_2) hisR ?_
  intro p e s m args below meth c s₁ Bd hml0 hP hK
  obtain ⟨rfl, hZ, hh⟩ := hP
  have hx := Bd.exec
  have hby := Bd.bytes
  have hlk := BodyLoose.notSynchronized Bd
  have hret := Bd.returns
  have hml : c.maxLocals = 1 := hml0
  have hown : s.vm.findClass "com/example/multiparty/multiparty/ControllerKind" = some m.cls := findClass_of_methodNamed Bd.named
  have hnm := (name_of_methodNamed Bd.named Bd.method).1
  have X0 : Stand p l e ({ frames := 0, cells := 0, slots := 0, locals := 0 } : Room) s m #[(.ref a1)] below meth c s₁ [] 0 0 := Stand.of_body Bd
  have e0 : s₁.heap = h0 := by rw [← hh, Bd.state]; rfl
  have N0 := Fr.nil n0
  have K0 : Keep h0 h0 [] := Keep.refl h0 _
  refine Fin.step (Q := fun v h L => Qs0 Z a1 h0 n0 v h L) (st' := s₁.setTop (mkF m 0 #[.val (.ref a1)] [])) (fun t k => castTop (ef_rms0 m a1) k) ?_
  show Fin p e below s _ _ _ (s₁.setTop (mkF m 0 #[.val (.ref a1)] []))
  refine Fin.step (fun _ => XS.aloadN X0.here hx rfl (hb hby d2_0) rfl rfl) ?_
  show Fin p e below s _ _ _ (s₁.setTop (mkF m 1 #[.val (.ref a1)] [(.ref a1)]))
  obtain ⟨Ty1, Xy1, ey1, sty1⟩ := getF X0 hx hZ hown (host := "") (Or.inl (hw _ (List.mem_of_getElem? (i := 12) rfl))) Via.refl e0 HF_a1_trusting (g := (mkF m 1 #[.val (.ref a1)] [(.ref a1)])) rfl rfl (hb hby d2_1)
  refine Fin.step (sty1) ?_
  show Fin p e below s _ _ _ (Ty1.setTop (mkF m 4 #[.val (.ref a1)] [.null]))
  refine Fin.step (fun _ => XS.ifnullYes Xy1.here hx rfl (pc0 := 4) (pc' := 11) rfl (hb hby d2_4) rfl (by decide) (by decide)) ?_
  show Fin p e below s _ _ _ (Ty1.setTop (mkF m 11 #[.val (.ref a1)] []))
  refine Fin.step (fun _ => XS.iconst Xy1.here hx rfl (hb hby d2_11)) ?_
  show Fin p e below s _ _ _ (Ty1.setTop (mkF m 12 #[.val (.ref a1)] [(.int (0 : Int32))]))
  refine Fin.retN Xy1 hx (t := .boolean) hret (by simp) hlk (hb hby d2_12) (by decide) (by decide) ?_
  show Qs0 Z a1 h0 n0 _ Ty1.heap _
  rw [ey1]
  exact ⟨rfl, N0, rfl⟩
theorem ef_rms1 (m : MethodId) (x0 : Addr) : entryFrame m #[(.ref x0)] 1 = mkF m 0 #[.val (.ref x0)] [] := by first | (simp [entryFrame, mkF, argsToLocals, Value.category]; done) | rfl
def Qs1 (Z : State) (a1 : Addr) (w : Addr) (h0 : Heap) (n0 : Nat) (v : Option Value) (h : Heap) (L : List Loc) : Prop := v = some (.int (1 : Int32)) ∧ Fr n0 L ∧ h = h0
set_option maxRecDepth 65536 in
set_option maxHeartbeats 40000000 in
theorem rms1 (l : Launch) (Z : State) (a0 : Array Value) (hw : ∀ d ∈ tables_1, d.before a0 Z = true) (ws : List Jvm.Cond) (a1 : Addr) (w : Addr) (h0 : Heap) (n0 : Nat) (Z0 : n0 ≤ h0.size) (HF_a1_trusting : Fld Z h0 a1 "com/example/multiparty/multiparty/ControllerKind" "trusting" "Ljava/math/BigDecimal;" (.ref w)) :
    MetFree l (⟨"com/example/multiparty/multiparty/ControllerKind", "sharesByTrust", "()Z"⟩ : MethodName) (head1 (Jvm.Cond.code (⟨"com/example/multiparty/multiparty/ControllerKind", "sharesByTrust", "()Z"⟩ : MethodName) prog_4_method_7_code 1 (some .boolean) :: ws) ({ frames := 0, cells := 0, slots := 0, locals := 0 } : Room)) (fun a U => a = #[(.ref a1)] ∧ Z.Warmed39 U.vm ∧ U.heap = h0) (fun _ _ _ _ _ => True) (fun _ U o U' => ∃ v L, o = .returned v ∧ Qs1 Z a1 w h0 n0 v U'.heap L ∧ FrameEnd U o U' L ({ frames := 0, cells := 0, slots := 0, locals := 0 } : Room).cells ({ frames := 0, cells := 0, slots := 0, locals := 0 } : Room).slots) := by
  refine MetFree.of_bodySF (plainFor_of_name pn_2) hisR ?_
  intro p e s m args below meth c s₁ Bd hml0 hP hK
  obtain ⟨rfl, hZ, hh⟩ := hP
  have hx := Bd.exec
  have hby := Bd.bytes
  have hlk := BodyLoose.notSynchronized Bd
  have hret := Bd.returns
  have hml : c.maxLocals = 1 := hml0
  have hown : s.vm.findClass "com/example/multiparty/multiparty/ControllerKind" = some m.cls := findClass_of_methodNamed Bd.named
  have hnm := (name_of_methodNamed Bd.named Bd.method).1
  have X0 : Stand p l e ({ frames := 0, cells := 0, slots := 0, locals := 0 } : Room) s m #[(.ref a1)] below meth c s₁ [] 0 0 := Stand.of_body Bd
  have e0 : s₁.heap = h0 := by rw [← hh, Bd.state]; rfl
  have N0 := Fr.nil n0
  have K0 : Keep h0 h0 [] := Keep.refl h0 _
  refine Fin.step (Q := fun v h L => Qs1 Z a1 w h0 n0 v h L) (st' := s₁.setTop (mkF m 0 #[.val (.ref a1)] [])) (fun t k => castTop (ef_rms1 m a1) k) ?_
  show Fin p e below s _ _ _ (s₁.setTop (mkF m 0 #[.val (.ref a1)] []))
  refine Fin.step (fun _ => XS.aloadN X0.here hx rfl (hb hby d2_0) rfl rfl) ?_
  show Fin p e below s _ _ _ (s₁.setTop (mkF m 1 #[.val (.ref a1)] [(.ref a1)]))
  obtain ⟨Ty1, Xy1, ey1, sty1⟩ := getF X0 hx hZ hown (host := "") (Or.inl (hw _ (List.mem_of_getElem? (i := 12) rfl))) Via.refl e0 HF_a1_trusting (g := (mkF m 1 #[.val (.ref a1)] [(.ref a1)])) rfl rfl (hb hby d2_1)
  refine Fin.step (sty1) ?_
  show Fin p e below s _ _ _ (Ty1.setTop (mkF m 4 #[.val (.ref a1)] [(.ref w)]))
  refine Fin.step (fun _ => XS.ifnullNo Xy1.here hx rfl (hb hby d2_4) rfl) ?_
  show Fin p e below s _ _ _ (Ty1.setTop (mkF m 7 #[.val (.ref a1)] []))
  refine Fin.step (fun _ => XS.iconst Xy1.here hx rfl (hb hby d2_7)) ?_
  show Fin p e below s _ _ _ (Ty1.setTop (mkF m 8 #[.val (.ref a1)] [(.int (1 : Int32))]))
  refine Fin.step (fun _ => XS.goto Xy1.here hx rfl (pc0 := 8) (pc' := 12) rfl (hb hby d2_8) (by decide) (by decide)) ?_
  show Fin p e below s _ _ _ (Ty1.setTop (mkF m 12 #[.val (.ref a1)] [(.int (1 : Int32))]))
  refine Fin.retN Xy1 hx (t := .boolean) hret (by simp) hlk (hb hby d2_12) (by decide) (by decide) ?_
  show Qs1 Z a1 w h0 n0 _ Ty1.heap _
  rw [ey1]
  exact ⟨rfl, N0, rfl⟩
theorem pn_0 : plainName "com/example/multiparty/multiparty/ControllerKindSharesByTrustPinLaw" = true := by first | (simp [plainName, overriddenIn]; done) | decide +kernel
theorem pd_0 : parseMethodDescriptor "(I)Lcom/example/multiparty/multiparty/ControllerKind;" = some ⟨[.int], some (.object "com/example/multiparty/multiparty/ControllerKind")⟩ := by decide +kernel
theorem pd_1 : parseMethodDescriptor "()Z" = some ⟨[], some .boolean⟩ := by decide +kernel
theorem ef_rm0 (m : MethodId) (x0 : Int32) : entryFrame m #[(.int x0)] maxLocals = mkF m 0 #[.val (.int x0), .unset, .unset, .unset] [] := by first | (simp [entryFrame, mkF, argsToLocals, Value.category, maxLocals]; done) | rfl
def Q0 (Z : State) (p1 : Int32) (o0 : Addr) (o1 : Addr) (o2 : Addr) (o3 : Addr) (bd : Addr) (h0 : Heap) (n0 : Nat) (v : Option Value) (h : Heap) (L : List Loc) : Prop := v = some (.int (1 : Int32)) ∧ Fr n0 L ∧ h = h0
set_option maxRecDepth 65536 in
set_option maxHeartbeats 40000000 in
theorem rm0 (l : Launch) (Z : State) (a0 : Array Value) (hw : ∀ d ∈ tables_1, d.before a0 Z = true) (ws : List Jvm.Cond) (p1 : Int32) (o0 : Addr) (o1 : Addr) (o2 : Addr) (o3 : Addr) (bd : Addr) (h0 : Heap) (n0 : Nat) (Z0 : n0 ≤ h0.size) (HS_com_example_multiparty_multiparty_ControllerKind_OWNER : Sta Z h0 "com/example/multiparty/multiparty/ControllerKind" "OWNER" "Lcom/example/multiparty/multiparty/ControllerKind;" (.ref o0)) (HS_com_example_multiparty_multiparty_ControllerKind_STAKEHOLDER : Sta Z h0 "com/example/multiparty/multiparty/ControllerKind" "STAKEHOLDER" "Lcom/example/multiparty/multiparty/ControllerKind;" (.ref o1)) (HS_com_example_multiparty_multiparty_ControllerKind_CONTRIBUTOR : Sta Z h0 "com/example/multiparty/multiparty/ControllerKind" "CONTRIBUTOR" "Lcom/example/multiparty/multiparty/ControllerKind;" (.ref o2)) (HS_com_example_multiparty_multiparty_ControllerKind_ORIGINATOR : Sta Z h0 "com/example/multiparty/multiparty/ControllerKind" "ORIGINATOR" "Lcom/example/multiparty/multiparty/ControllerKind;" (.ref o3)) (HE_o0 : Exa Z h0 o0 "com/example/multiparty/multiparty/ControllerKind") (HE_o1 : Exa Z h0 o1 "com/example/multiparty/multiparty/ControllerKind") (HE_o2 : Exa Z h0 o2 "com/example/multiparty/multiparty/ControllerKind") (HE_o3 : Exa Z h0 o3 "com/example/multiparty/multiparty/ControllerKind") (HF_o0_trusting : Fld Z h0 o0 "com/example/multiparty/multiparty/ControllerKind" "trusting" "Ljava/math/BigDecimal;" .null) (HF_o1_trusting : Fld Z h0 o1 "com/example/multiparty/multiparty/ControllerKind" "trusting" "Ljava/math/BigDecimal;" .null) (HF_o2_trusting : Fld Z h0 o2 "com/example/multiparty/multiparty/ControllerKind" "trusting" "Ljava/math/BigDecimal;" .null) (HF_o3_trusting : Fld Z h0 o3 "com/example/multiparty/multiparty/ControllerKind" "trusting" "Ljava/math/BigDecimal;" (.ref bd)) :
    MetFree l x (head1 (Jvm.Cond.code x code maxLocals ret :: ws) room_1) (fun a U => a = #[(.int p1)] ∧ Z.Warmed39 U.vm ∧ U.heap = h0) (fun _ _ _ _ _ => True) (fun _ U o U' => ∃ v L, o = .returned v ∧ Q0 Z p1 o0 o1 o2 o3 bd h0 n0 v U'.heap L ∧ FrameEnd U o U' L room_1.cells room_1.slots) := by
  refine MetFree.of_bodySF (plainFor_of_name pn_0) hisR ?_
  intro p e s m args below meth c s₁ Bd hml0 hP hK
  obtain ⟨rfl, hZ, hh⟩ := hP
  have hx := Bd.exec
  have hby := Bd.bytes
  have hlk := BodyLoose.notSynchronized Bd
  have hret := Bd.returns
  have hml : c.maxLocals = 4 := hml0
  have hown : s.vm.findClass "com/example/multiparty/multiparty/ControllerKindSharesByTrustPinLaw" = some m.cls := findClass_of_methodNamed Bd.named
  have hnm := (name_of_methodNamed Bd.named Bd.method).1
  have X0 : Stand p l e room_1 s m #[(.int p1)] below meth c s₁ [] 0 0 := Stand.of_body Bd
  have e0 : s₁.heap = h0 := by rw [← hh, Bd.state]; rfl
  have N0 := Fr.nil n0
  have K0 : Keep h0 h0 [] := Keep.refl h0 _
  refine Fin.step (Q := fun v h L => Q0 Z p1 o0 o1 o2 o3 bd h0 n0 v h L) (st' := s₁.setTop (mkF m 0 #[.val (.int p1), .unset, .unset, .unset] [])) (fun t k => castTop (ef_rm0 m p1) k) ?_
  show Fin p e below s _ _ _ (s₁.setTop (mkF m 0 #[.val (.int p1), .unset, .unset, .unset] []))
  refine Fin.step (fun _ => XS.iloadN X0.here hx rfl (hb hby at_0) rfl) ?_
  show Fin p e below s _ _ _ (s₁.setTop (mkF m 1 #[.val (.int p1), .unset, .unset, .unset] [(.int p1)]))
  refine Fin.step (fun _ => XS.iconst X0.here hx rfl (hb hby at_1)) ?_
  show Fin p e below s _ _ _ (s₁.setTop (mkF m 2 #[.val (.int p1), .unset, .unset, .unset] [(.int (3 : Int32)), (.int p1)]))
  refine Fin.step (fun _ => XS.iand X0.here hx rfl (hb hby at_2) rfl) ?_
  show Fin p e below s _ _ _ (s₁.setTop (mkF m 3 #[.val (.int p1), .unset, .unset, .unset] [(.int (p1 &&& (3 : Int32)))]))
  refine Fin.step (fun _ => XS.istoreN X0.here hx rfl (hb hby at_3) rfl (l' := #[.val (.int p1), .val (.int (p1 &&& (3 : Int32))), .unset, .unset]) rfl) ?_
  show Fin p e below s _ _ _ (s₁.setTop (mkF m 4 #[.val (.int p1), .val (.int (p1 &&& (3 : Int32))), .unset, .unset] []))
  rcases own_k4 p1 with qn | qn | qn | qn
  · rw [qn]
    show Fin p e below s _ _ _ (s₁.setTop (mkF m 4 #[.val (.int p1), .val (.int (0 : Int32)), .unset, .unset] []))
    refine Fin.step (fun _ => XS.iloadN X0.here hx rfl (hb hby at_4) rfl) ?_
    show Fin p e below s _ _ _ (s₁.setTop (mkF m 5 #[.val (.int p1), .val (.int (0 : Int32)), .unset, .unset] [(.int (0 : Int32))]))
    obtain ⟨_, _, ⟨Ty1, Ly1, ky1, ny1⟩, -, Xy1, ⟨Lcy1, hQy1, ly1, yy1, zy1⟩, sty1⟩ := Jvm.LawKit.callS X0 hx (y := (⟨"com/example/multiparty/multiparty/ControllerKindSharesByTrustPinLaw", "pick", "(I)Lcom/example/multiparty/multiparty/ControllerKind;"⟩ : MethodName)) hown (mvT hZ (hw _ (List.mem_of_getElem? (i := 0) rfl))) (mvT hZ (hw _ (List.mem_of_getElem? (i := 1) rfl))) (mvT hZ (hw _ (List.mem_of_getElem? (i := 2) rfl))) (mvT hZ (hw _ (List.mem_of_getElem? (i := 3) rfl))) (by decide) (backOf (W := 0) (rmp0 l Z a0 hw [] (0 : Int32) o0 h0 n0 Z0 HS_com_example_multiparty_multiparty_ControllerKind_OWNER rfl) hZ (hw _ (List.mem_of_getElem? (i := 3) rfl)) (hw _ (List.mem_of_getElem? (i := 2) rfl)) (by decide) (by decide)) (g := (mkF m 5 #[.val (.int p1), .val (.int (0 : Int32)), .unset, .unset] [(.int (0 : Int32))])) rfl (by rw [hml]; rfl) (argsL := [(.int (0 : Int32))]) (rest := []) (lenOf pd_0 rfl) rfl (by show 2 * 0 + _ ≤ _; exact Nat.le_of_eq rfl) (hb hby at_5) (fun _ _ => ⟨rfl, e0, (by decide : 0 + 0 ≤ _), (by decide : 0 + 0 ≤ _)⟩)
    dsimp only [Pt.U, Pt.locs, Pt.cells, Pt.slots] at Xy1 ly1 yy1 zy1 sty1 hQy1
    subst ly1 yy1 zy1
    obtain ⟨rfl, Nqy1, eqy1⟩ := hQy1
    have Ny1 := Fr.app N0 Nqy1
    refine Fin.step (sty1) ?_
    show Fin p e below s _ _ _ (Ty1.setTop (mkF m 8 #[.val (.int p1), .val (.int (0 : Int32)), .unset, .unset] [(.ref o0)]))
    refine Fin.step (fun _ => XS.astoreN Xy1.here hx rfl (hb hby at_8) rfl rfl (l' := #[.val (.int p1), .val (.int (0 : Int32)), .val (.ref o0), .unset]) rfl) ?_
    show Fin p e below s _ _ _ (Ty1.setTop (mkF m 9 #[.val (.int p1), .val (.int (0 : Int32)), .val (.ref o0), .unset] []))
    refine Fin.step (fun _ => XS.iloadN Xy1.here hx rfl (hb hby at_9) rfl) ?_
    show Fin p e below s _ _ _ (Ty1.setTop (mkF m 10 #[.val (.int p1), .val (.int (0 : Int32)), .val (.ref o0), .unset] [(.int (0 : Int32))]))
    refine Fin.step (fun _ => XS.iconst Xy1.here hx rfl (hb hby at_10)) ?_
    show Fin p e below s _ _ _ (Ty1.setTop (mkF m 11 #[.val (.int p1), .val (.int (0 : Int32)), .val (.ref o0), .unset] [(.int (3 : Int32)), (.int (0 : Int32))]))
    refine Fin.step (fun _ => XS.icmpYes Xy1.here hx rfl (pc0 := 11) (pc' := 18) rfl (hb hby at_11) rfl (feq ((by decide) : ¬ ((0 : Int32) = (3 : Int32)))).2 (by decide) (by decide)) ?_
    show Fin p e below s _ _ _ (Ty1.setTop (mkF m 18 #[.val (.int p1), .val (.int (0 : Int32)), .val (.ref o0), .unset] []))
    refine Fin.step (fun _ => XS.iconst Xy1.here hx rfl (hb hby at_18)) ?_
    show Fin p e below s _ _ _ (Ty1.setTop (mkF m 19 #[.val (.int p1), .val (.int (0 : Int32)), .val (.ref o0), .unset] [(.int (0 : Int32))]))
    refine Fin.step (fun _ => XS.istoreN Xy1.here hx rfl (hb hby at_19) rfl (l' := #[.val (.int p1), .val (.int (0 : Int32)), .val (.ref o0), .val (.int (0 : Int32))]) rfl) ?_
    show Fin p e below s _ _ _ (Ty1.setTop (mkF m 20 #[.val (.int p1), .val (.int (0 : Int32)), .val (.ref o0), .val (.int (0 : Int32))] []))
    refine Fin.step (fun _ => XS.aloadN Xy1.here hx rfl (hb hby at_20) rfl rfl) ?_
    show Fin p e below s _ _ _ (Ty1.setTop (mkF m 21 #[.val (.int p1), .val (.int (0 : Int32)), .val (.ref o0), .val (.int (0 : Int32))] [(.ref o0)]))
    obtain ⟨cqy2, kqy2, qy2a, qy2b, qy2c⟩ := isOf hZ eqy1 HE_o0
    obtain ⟨_, _, ⟨Ty2, Ly2, ky2, ny2⟩, -, Xy2, ⟨Lcy2, hQy2, ly2, yy2, zy2⟩, sty2⟩ := Xy1.virtualBack hx (y := (⟨"com/example/multiparty/multiparty/ControllerKind", "sharesByTrust", "()Z"⟩ : MethodName)) (z := (⟨"com/example/multiparty/multiparty/ControllerKind", "sharesByTrust", "()Z"⟩ : MethodName)) hown (mvT hZ (hw _ (List.mem_of_getElem? (i := 7) rfl))) (mvT hZ (hw _ (List.mem_of_getElem? (i := 8) rfl))) (notFace_of_selects (args := #[]) (mvT hZ (hw _ (List.mem_of_getElem? (i := 10) rfl)))) (mvT hZ (hw _ (List.mem_of_getElem? (i := 10) rfl))) (mvT hZ (hw _ (List.mem_of_getElem? (i := 9) rfl))) (by decide) (backOf (W := 0) (rms0 l Z a0 hw [] o0 h0 n0 Z0 HF_o0_trusting) hZ (hw _ (List.mem_of_getElem? (i := 11) rfl)) (hw _ (List.mem_of_getElem? (i := 5) rfl)) (by decide) (by decide)) qy2a qy2c (g := (mkF m 21 #[.val (.int p1), .val (.int (0 : Int32)), .val (.ref o0), .val (.int (0 : Int32))] [(.ref o0)])) rfl (by rw [hml]; rfl) (Steps.refl _) (argsL := []) (rest := []) (lenOf pd_1 rfl) rfl (by show 2 * 0 + _ ≤ _; exact Nat.le_of_eq rfl) (hb hby at_21) (fun _ _ => ⟨rfl, eqy1, (by decide : 0 + 0 ≤ _), (by decide : 0 + 0 ≤ _)⟩)
    dsimp only [Pt.U, Pt.locs, Pt.cells, Pt.slots] at Xy2 ly2 yy2 zy2 sty2 hQy2
    subst ly2 yy2 zy2
    obtain ⟨rfl, Nqy2, eqy2⟩ := hQy2
    have Ny2 := Fr.app Ny1 Nqy2
    refine Fin.step (fun _ k => sty2.trans k) ?_
    show Fin p e below s _ _ _ (Ty2.setTop (mkF m 24 #[.val (.int p1), .val (.int (0 : Int32)), .val (.ref o0), .val (.int (0 : Int32))] [(.int (0 : Int32))]))
    refine Fin.step (fun _ => XS.iloadN Xy2.here hx rfl (hb hby at_24) rfl) ?_
    show Fin p e below s _ _ _ (Ty2.setTop (mkF m 25 #[.val (.int p1), .val (.int (0 : Int32)), .val (.ref o0), .val (.int (0 : Int32))] [(.int (0 : Int32)), (.int (0 : Int32))]))
    refine Fin.step (fun _ => XS.icmpNo Xy2.here hx rfl (hb hby at_25) rfl (teq ((by decide) : ((0 : Int32) = (0 : Int32)))).2) ?_
    show Fin p e below s _ _ _ (Ty2.setTop (mkF m 28 #[.val (.int p1), .val (.int (0 : Int32)), .val (.ref o0), .val (.int (0 : Int32))] []))
    refine Fin.step (fun _ => XS.iconst Xy2.here hx rfl (hb hby at_28)) ?_
    show Fin p e below s _ _ _ (Ty2.setTop (mkF m 29 #[.val (.int p1), .val (.int (0 : Int32)), .val (.ref o0), .val (.int (0 : Int32))] [(.int (1 : Int32))]))
    refine Fin.step (fun _ => XS.goto Xy2.here hx rfl (pc0 := 29) (pc' := 33) rfl (hb hby at_29) (by decide) (by decide)) ?_
    show Fin p e below s _ _ _ (Ty2.setTop (mkF m 33 #[.val (.int p1), .val (.int (0 : Int32)), .val (.ref o0), .val (.int (0 : Int32))] [(.int (1 : Int32))]))
    refine Fin.retN Xy2 hx (t := .boolean) hret (by simp) hlk (hb hby at_33) (by decide) (by decide) ?_
    show Q0 Z p1 o0 o1 o2 o3 bd h0 n0 _ Ty2.heap _
    rw [eqy2]
    exact ⟨rfl, Ny2, rfl⟩
  · rw [qn]
    show Fin p e below s _ _ _ (s₁.setTop (mkF m 4 #[.val (.int p1), .val (.int (1 : Int32)), .unset, .unset] []))
    refine Fin.step (fun _ => XS.iloadN X0.here hx rfl (hb hby at_4) rfl) ?_
    show Fin p e below s _ _ _ (s₁.setTop (mkF m 5 #[.val (.int p1), .val (.int (1 : Int32)), .unset, .unset] [(.int (1 : Int32))]))
    obtain ⟨_, _, ⟨Ty3, Ly3, ky3, ny3⟩, -, Xy3, ⟨Lcy3, hQy3, ly3, yy3, zy3⟩, sty3⟩ := Jvm.LawKit.callS X0 hx (y := (⟨"com/example/multiparty/multiparty/ControllerKindSharesByTrustPinLaw", "pick", "(I)Lcom/example/multiparty/multiparty/ControllerKind;"⟩ : MethodName)) hown (mvT hZ (hw _ (List.mem_of_getElem? (i := 0) rfl))) (mvT hZ (hw _ (List.mem_of_getElem? (i := 1) rfl))) (mvT hZ (hw _ (List.mem_of_getElem? (i := 2) rfl))) (mvT hZ (hw _ (List.mem_of_getElem? (i := 3) rfl))) (by decide) (backOf (W := 0) (rmp1 l Z a0 hw [] (1 : Int32) o1 h0 n0 Z0 HS_com_example_multiparty_multiparty_ControllerKind_STAKEHOLDER rfl) hZ (hw _ (List.mem_of_getElem? (i := 3) rfl)) (hw _ (List.mem_of_getElem? (i := 2) rfl)) (by decide) (by decide)) (g := (mkF m 5 #[.val (.int p1), .val (.int (1 : Int32)), .unset, .unset] [(.int (1 : Int32))])) rfl (by rw [hml]; rfl) (argsL := [(.int (1 : Int32))]) (rest := []) (lenOf pd_0 rfl) rfl (by show 2 * 0 + _ ≤ _; exact Nat.le_of_eq rfl) (hb hby at_5) (fun _ _ => ⟨rfl, e0, (by decide : 0 + 0 ≤ _), (by decide : 0 + 0 ≤ _)⟩)
    dsimp only [Pt.U, Pt.locs, Pt.cells, Pt.slots] at Xy3 ly3 yy3 zy3 sty3 hQy3
    subst ly3 yy3 zy3
    obtain ⟨rfl, Nqy3, eqy3⟩ := hQy3
    have Ny3 := Fr.app N0 Nqy3
    refine Fin.step (sty3) ?_
    show Fin p e below s _ _ _ (Ty3.setTop (mkF m 8 #[.val (.int p1), .val (.int (1 : Int32)), .unset, .unset] [(.ref o1)]))
    refine Fin.step (fun _ => XS.astoreN Xy3.here hx rfl (hb hby at_8) rfl rfl (l' := #[.val (.int p1), .val (.int (1 : Int32)), .val (.ref o1), .unset]) rfl) ?_
    show Fin p e below s _ _ _ (Ty3.setTop (mkF m 9 #[.val (.int p1), .val (.int (1 : Int32)), .val (.ref o1), .unset] []))
    refine Fin.step (fun _ => XS.iloadN Xy3.here hx rfl (hb hby at_9) rfl) ?_
    show Fin p e below s _ _ _ (Ty3.setTop (mkF m 10 #[.val (.int p1), .val (.int (1 : Int32)), .val (.ref o1), .unset] [(.int (1 : Int32))]))
    refine Fin.step (fun _ => XS.iconst Xy3.here hx rfl (hb hby at_10)) ?_
    show Fin p e below s _ _ _ (Ty3.setTop (mkF m 11 #[.val (.int p1), .val (.int (1 : Int32)), .val (.ref o1), .unset] [(.int (3 : Int32)), (.int (1 : Int32))]))
    refine Fin.step (fun _ => XS.icmpYes Xy3.here hx rfl (pc0 := 11) (pc' := 18) rfl (hb hby at_11) rfl (feq ((by decide) : ¬ ((1 : Int32) = (3 : Int32)))).2 (by decide) (by decide)) ?_
    show Fin p e below s _ _ _ (Ty3.setTop (mkF m 18 #[.val (.int p1), .val (.int (1 : Int32)), .val (.ref o1), .unset] []))
    refine Fin.step (fun _ => XS.iconst Xy3.here hx rfl (hb hby at_18)) ?_
    show Fin p e below s _ _ _ (Ty3.setTop (mkF m 19 #[.val (.int p1), .val (.int (1 : Int32)), .val (.ref o1), .unset] [(.int (0 : Int32))]))
    refine Fin.step (fun _ => XS.istoreN Xy3.here hx rfl (hb hby at_19) rfl (l' := #[.val (.int p1), .val (.int (1 : Int32)), .val (.ref o1), .val (.int (0 : Int32))]) rfl) ?_
    show Fin p e below s _ _ _ (Ty3.setTop (mkF m 20 #[.val (.int p1), .val (.int (1 : Int32)), .val (.ref o1), .val (.int (0 : Int32))] []))
    refine Fin.step (fun _ => XS.aloadN Xy3.here hx rfl (hb hby at_20) rfl rfl) ?_
    show Fin p e below s _ _ _ (Ty3.setTop (mkF m 21 #[.val (.int p1), .val (.int (1 : Int32)), .val (.ref o1), .val (.int (0 : Int32))] [(.ref o1)]))
    obtain ⟨cqy4, kqy4, qy4a, qy4b, qy4c⟩ := isOf hZ eqy3 HE_o1
    obtain ⟨_, _, ⟨Ty4, Ly4, ky4, ny4⟩, -, Xy4, ⟨Lcy4, hQy4, ly4, yy4, zy4⟩, sty4⟩ := Xy3.virtualBack hx (y := (⟨"com/example/multiparty/multiparty/ControllerKind", "sharesByTrust", "()Z"⟩ : MethodName)) (z := (⟨"com/example/multiparty/multiparty/ControllerKind", "sharesByTrust", "()Z"⟩ : MethodName)) hown (mvT hZ (hw _ (List.mem_of_getElem? (i := 7) rfl))) (mvT hZ (hw _ (List.mem_of_getElem? (i := 8) rfl))) (notFace_of_selects (args := #[]) (mvT hZ (hw _ (List.mem_of_getElem? (i := 10) rfl)))) (mvT hZ (hw _ (List.mem_of_getElem? (i := 10) rfl))) (mvT hZ (hw _ (List.mem_of_getElem? (i := 9) rfl))) (by decide) (backOf (W := 0) (rms0 l Z a0 hw [] o1 h0 n0 Z0 HF_o1_trusting) hZ (hw _ (List.mem_of_getElem? (i := 11) rfl)) (hw _ (List.mem_of_getElem? (i := 5) rfl)) (by decide) (by decide)) qy4a qy4c (g := (mkF m 21 #[.val (.int p1), .val (.int (1 : Int32)), .val (.ref o1), .val (.int (0 : Int32))] [(.ref o1)])) rfl (by rw [hml]; rfl) (Steps.refl _) (argsL := []) (rest := []) (lenOf pd_1 rfl) rfl (by show 2 * 0 + _ ≤ _; exact Nat.le_of_eq rfl) (hb hby at_21) (fun _ _ => ⟨rfl, eqy3, (by decide : 0 + 0 ≤ _), (by decide : 0 + 0 ≤ _)⟩)
    dsimp only [Pt.U, Pt.locs, Pt.cells, Pt.slots] at Xy4 ly4 yy4 zy4 sty4 hQy4
    subst ly4 yy4 zy4
    obtain ⟨rfl, Nqy4, eqy4⟩ := hQy4
    have Ny4 := Fr.app Ny3 Nqy4
    refine Fin.step (fun _ k => sty4.trans k) ?_
    show Fin p e below s _ _ _ (Ty4.setTop (mkF m 24 #[.val (.int p1), .val (.int (1 : Int32)), .val (.ref o1), .val (.int (0 : Int32))] [(.int (0 : Int32))]))
    refine Fin.step (fun _ => XS.iloadN Xy4.here hx rfl (hb hby at_24) rfl) ?_
    show Fin p e below s _ _ _ (Ty4.setTop (mkF m 25 #[.val (.int p1), .val (.int (1 : Int32)), .val (.ref o1), .val (.int (0 : Int32))] [(.int (0 : Int32)), (.int (0 : Int32))]))
    refine Fin.step (fun _ => XS.icmpNo Xy4.here hx rfl (hb hby at_25) rfl (teq ((by decide) : ((0 : Int32) = (0 : Int32)))).2) ?_
    show Fin p e below s _ _ _ (Ty4.setTop (mkF m 28 #[.val (.int p1), .val (.int (1 : Int32)), .val (.ref o1), .val (.int (0 : Int32))] []))
    refine Fin.step (fun _ => XS.iconst Xy4.here hx rfl (hb hby at_28)) ?_
    show Fin p e below s _ _ _ (Ty4.setTop (mkF m 29 #[.val (.int p1), .val (.int (1 : Int32)), .val (.ref o1), .val (.int (0 : Int32))] [(.int (1 : Int32))]))
    refine Fin.step (fun _ => XS.goto Xy4.here hx rfl (pc0 := 29) (pc' := 33) rfl (hb hby at_29) (by decide) (by decide)) ?_
    show Fin p e below s _ _ _ (Ty4.setTop (mkF m 33 #[.val (.int p1), .val (.int (1 : Int32)), .val (.ref o1), .val (.int (0 : Int32))] [(.int (1 : Int32))]))
    refine Fin.retN Xy4 hx (t := .boolean) hret (by simp) hlk (hb hby at_33) (by decide) (by decide) ?_
    show Q0 Z p1 o0 o1 o2 o3 bd h0 n0 _ Ty4.heap _
    rw [eqy4]
    exact ⟨rfl, Ny4, rfl⟩
  · rw [qn]
    show Fin p e below s _ _ _ (s₁.setTop (mkF m 4 #[.val (.int p1), .val (.int (2 : Int32)), .unset, .unset] []))
    refine Fin.step (fun _ => XS.iloadN X0.here hx rfl (hb hby at_4) rfl) ?_
    show Fin p e below s _ _ _ (s₁.setTop (mkF m 5 #[.val (.int p1), .val (.int (2 : Int32)), .unset, .unset] [(.int (2 : Int32))]))
    obtain ⟨_, _, ⟨Ty5, Ly5, ky5, ny5⟩, -, Xy5, ⟨Lcy5, hQy5, ly5, yy5, zy5⟩, sty5⟩ := Jvm.LawKit.callS X0 hx (y := (⟨"com/example/multiparty/multiparty/ControllerKindSharesByTrustPinLaw", "pick", "(I)Lcom/example/multiparty/multiparty/ControllerKind;"⟩ : MethodName)) hown (mvT hZ (hw _ (List.mem_of_getElem? (i := 0) rfl))) (mvT hZ (hw _ (List.mem_of_getElem? (i := 1) rfl))) (mvT hZ (hw _ (List.mem_of_getElem? (i := 2) rfl))) (mvT hZ (hw _ (List.mem_of_getElem? (i := 3) rfl))) (by decide) (backOf (W := 0) (rmp2 l Z a0 hw [] (2 : Int32) o2 h0 n0 Z0 HS_com_example_multiparty_multiparty_ControllerKind_CONTRIBUTOR rfl) hZ (hw _ (List.mem_of_getElem? (i := 3) rfl)) (hw _ (List.mem_of_getElem? (i := 2) rfl)) (by decide) (by decide)) (g := (mkF m 5 #[.val (.int p1), .val (.int (2 : Int32)), .unset, .unset] [(.int (2 : Int32))])) rfl (by rw [hml]; rfl) (argsL := [(.int (2 : Int32))]) (rest := []) (lenOf pd_0 rfl) rfl (by show 2 * 0 + _ ≤ _; exact Nat.le_of_eq rfl) (hb hby at_5) (fun _ _ => ⟨rfl, e0, (by decide : 0 + 0 ≤ _), (by decide : 0 + 0 ≤ _)⟩)
    dsimp only [Pt.U, Pt.locs, Pt.cells, Pt.slots] at Xy5 ly5 yy5 zy5 sty5 hQy5
    subst ly5 yy5 zy5
    obtain ⟨rfl, Nqy5, eqy5⟩ := hQy5
    have Ny5 := Fr.app N0 Nqy5
    refine Fin.step (sty5) ?_
    show Fin p e below s _ _ _ (Ty5.setTop (mkF m 8 #[.val (.int p1), .val (.int (2 : Int32)), .unset, .unset] [(.ref o2)]))
    refine Fin.step (fun _ => XS.astoreN Xy5.here hx rfl (hb hby at_8) rfl rfl (l' := #[.val (.int p1), .val (.int (2 : Int32)), .val (.ref o2), .unset]) rfl) ?_
    show Fin p e below s _ _ _ (Ty5.setTop (mkF m 9 #[.val (.int p1), .val (.int (2 : Int32)), .val (.ref o2), .unset] []))
    refine Fin.step (fun _ => XS.iloadN Xy5.here hx rfl (hb hby at_9) rfl) ?_
    show Fin p e below s _ _ _ (Ty5.setTop (mkF m 10 #[.val (.int p1), .val (.int (2 : Int32)), .val (.ref o2), .unset] [(.int (2 : Int32))]))
    refine Fin.step (fun _ => XS.iconst Xy5.here hx rfl (hb hby at_10)) ?_
    show Fin p e below s _ _ _ (Ty5.setTop (mkF m 11 #[.val (.int p1), .val (.int (2 : Int32)), .val (.ref o2), .unset] [(.int (3 : Int32)), (.int (2 : Int32))]))
    refine Fin.step (fun _ => XS.icmpYes Xy5.here hx rfl (pc0 := 11) (pc' := 18) rfl (hb hby at_11) rfl (feq ((by decide) : ¬ ((2 : Int32) = (3 : Int32)))).2 (by decide) (by decide)) ?_
    show Fin p e below s _ _ _ (Ty5.setTop (mkF m 18 #[.val (.int p1), .val (.int (2 : Int32)), .val (.ref o2), .unset] []))
    refine Fin.step (fun _ => XS.iconst Xy5.here hx rfl (hb hby at_18)) ?_
    show Fin p e below s _ _ _ (Ty5.setTop (mkF m 19 #[.val (.int p1), .val (.int (2 : Int32)), .val (.ref o2), .unset] [(.int (0 : Int32))]))
    refine Fin.step (fun _ => XS.istoreN Xy5.here hx rfl (hb hby at_19) rfl (l' := #[.val (.int p1), .val (.int (2 : Int32)), .val (.ref o2), .val (.int (0 : Int32))]) rfl) ?_
    show Fin p e below s _ _ _ (Ty5.setTop (mkF m 20 #[.val (.int p1), .val (.int (2 : Int32)), .val (.ref o2), .val (.int (0 : Int32))] []))
    refine Fin.step (fun _ => XS.aloadN Xy5.here hx rfl (hb hby at_20) rfl rfl) ?_
    show Fin p e below s _ _ _ (Ty5.setTop (mkF m 21 #[.val (.int p1), .val (.int (2 : Int32)), .val (.ref o2), .val (.int (0 : Int32))] [(.ref o2)]))
    obtain ⟨cqy6, kqy6, qy6a, qy6b, qy6c⟩ := isOf hZ eqy5 HE_o2
    obtain ⟨_, _, ⟨Ty6, Ly6, ky6, ny6⟩, -, Xy6, ⟨Lcy6, hQy6, ly6, yy6, zy6⟩, sty6⟩ := Xy5.virtualBack hx (y := (⟨"com/example/multiparty/multiparty/ControllerKind", "sharesByTrust", "()Z"⟩ : MethodName)) (z := (⟨"com/example/multiparty/multiparty/ControllerKind", "sharesByTrust", "()Z"⟩ : MethodName)) hown (mvT hZ (hw _ (List.mem_of_getElem? (i := 7) rfl))) (mvT hZ (hw _ (List.mem_of_getElem? (i := 8) rfl))) (notFace_of_selects (args := #[]) (mvT hZ (hw _ (List.mem_of_getElem? (i := 10) rfl)))) (mvT hZ (hw _ (List.mem_of_getElem? (i := 10) rfl))) (mvT hZ (hw _ (List.mem_of_getElem? (i := 9) rfl))) (by decide) (backOf (W := 0) (rms0 l Z a0 hw [] o2 h0 n0 Z0 HF_o2_trusting) hZ (hw _ (List.mem_of_getElem? (i := 11) rfl)) (hw _ (List.mem_of_getElem? (i := 5) rfl)) (by decide) (by decide)) qy6a qy6c (g := (mkF m 21 #[.val (.int p1), .val (.int (2 : Int32)), .val (.ref o2), .val (.int (0 : Int32))] [(.ref o2)])) rfl (by rw [hml]; rfl) (Steps.refl _) (argsL := []) (rest := []) (lenOf pd_1 rfl) rfl (by show 2 * 0 + _ ≤ _; exact Nat.le_of_eq rfl) (hb hby at_21) (fun _ _ => ⟨rfl, eqy5, (by decide : 0 + 0 ≤ _), (by decide : 0 + 0 ≤ _)⟩)
    dsimp only [Pt.U, Pt.locs, Pt.cells, Pt.slots] at Xy6 ly6 yy6 zy6 sty6 hQy6
    subst ly6 yy6 zy6
    obtain ⟨rfl, Nqy6, eqy6⟩ := hQy6
    have Ny6 := Fr.app Ny5 Nqy6
    refine Fin.step (fun _ k => sty6.trans k) ?_
    show Fin p e below s _ _ _ (Ty6.setTop (mkF m 24 #[.val (.int p1), .val (.int (2 : Int32)), .val (.ref o2), .val (.int (0 : Int32))] [(.int (0 : Int32))]))
    refine Fin.step (fun _ => XS.iloadN Xy6.here hx rfl (hb hby at_24) rfl) ?_
    show Fin p e below s _ _ _ (Ty6.setTop (mkF m 25 #[.val (.int p1), .val (.int (2 : Int32)), .val (.ref o2), .val (.int (0 : Int32))] [(.int (0 : Int32)), (.int (0 : Int32))]))
    refine Fin.step (fun _ => XS.icmpNo Xy6.here hx rfl (hb hby at_25) rfl (teq ((by decide) : ((0 : Int32) = (0 : Int32)))).2) ?_
    show Fin p e below s _ _ _ (Ty6.setTop (mkF m 28 #[.val (.int p1), .val (.int (2 : Int32)), .val (.ref o2), .val (.int (0 : Int32))] []))
    refine Fin.step (fun _ => XS.iconst Xy6.here hx rfl (hb hby at_28)) ?_
    show Fin p e below s _ _ _ (Ty6.setTop (mkF m 29 #[.val (.int p1), .val (.int (2 : Int32)), .val (.ref o2), .val (.int (0 : Int32))] [(.int (1 : Int32))]))
    refine Fin.step (fun _ => XS.goto Xy6.here hx rfl (pc0 := 29) (pc' := 33) rfl (hb hby at_29) (by decide) (by decide)) ?_
    show Fin p e below s _ _ _ (Ty6.setTop (mkF m 33 #[.val (.int p1), .val (.int (2 : Int32)), .val (.ref o2), .val (.int (0 : Int32))] [(.int (1 : Int32))]))
    refine Fin.retN Xy6 hx (t := .boolean) hret (by simp) hlk (hb hby at_33) (by decide) (by decide) ?_
    show Q0 Z p1 o0 o1 o2 o3 bd h0 n0 _ Ty6.heap _
    rw [eqy6]
    exact ⟨rfl, Ny6, rfl⟩
  · rw [qn]
    show Fin p e below s _ _ _ (s₁.setTop (mkF m 4 #[.val (.int p1), .val (.int (3 : Int32)), .unset, .unset] []))
    refine Fin.step (fun _ => XS.iloadN X0.here hx rfl (hb hby at_4) rfl) ?_
    show Fin p e below s _ _ _ (s₁.setTop (mkF m 5 #[.val (.int p1), .val (.int (3 : Int32)), .unset, .unset] [(.int (3 : Int32))]))
    obtain ⟨_, _, ⟨Ty7, Ly7, ky7, ny7⟩, -, Xy7, ⟨Lcy7, hQy7, ly7, yy7, zy7⟩, sty7⟩ := Jvm.LawKit.callS X0 hx (y := (⟨"com/example/multiparty/multiparty/ControllerKindSharesByTrustPinLaw", "pick", "(I)Lcom/example/multiparty/multiparty/ControllerKind;"⟩ : MethodName)) hown (mvT hZ (hw _ (List.mem_of_getElem? (i := 0) rfl))) (mvT hZ (hw _ (List.mem_of_getElem? (i := 1) rfl))) (mvT hZ (hw _ (List.mem_of_getElem? (i := 2) rfl))) (mvT hZ (hw _ (List.mem_of_getElem? (i := 3) rfl))) (by decide) (backOf (W := 0) (rmp3 l Z a0 hw [] (3 : Int32) o3 h0 n0 Z0 HS_com_example_multiparty_multiparty_ControllerKind_ORIGINATOR rfl) hZ (hw _ (List.mem_of_getElem? (i := 3) rfl)) (hw _ (List.mem_of_getElem? (i := 2) rfl)) (by decide) (by decide)) (g := (mkF m 5 #[.val (.int p1), .val (.int (3 : Int32)), .unset, .unset] [(.int (3 : Int32))])) rfl (by rw [hml]; rfl) (argsL := [(.int (3 : Int32))]) (rest := []) (lenOf pd_0 rfl) rfl (by show 2 * 0 + _ ≤ _; exact Nat.le_of_eq rfl) (hb hby at_5) (fun _ _ => ⟨rfl, e0, (by decide : 0 + 0 ≤ _), (by decide : 0 + 0 ≤ _)⟩)
    dsimp only [Pt.U, Pt.locs, Pt.cells, Pt.slots] at Xy7 ly7 yy7 zy7 sty7 hQy7
    subst ly7 yy7 zy7
    obtain ⟨rfl, Nqy7, eqy7⟩ := hQy7
    have Ny7 := Fr.app N0 Nqy7
    refine Fin.step (sty7) ?_
    show Fin p e below s _ _ _ (Ty7.setTop (mkF m 8 #[.val (.int p1), .val (.int (3 : Int32)), .unset, .unset] [(.ref o3)]))
    refine Fin.step (fun _ => XS.astoreN Xy7.here hx rfl (hb hby at_8) rfl rfl (l' := #[.val (.int p1), .val (.int (3 : Int32)), .val (.ref o3), .unset]) rfl) ?_
    show Fin p e below s _ _ _ (Ty7.setTop (mkF m 9 #[.val (.int p1), .val (.int (3 : Int32)), .val (.ref o3), .unset] []))
    refine Fin.step (fun _ => XS.iloadN Xy7.here hx rfl (hb hby at_9) rfl) ?_
    show Fin p e below s _ _ _ (Ty7.setTop (mkF m 10 #[.val (.int p1), .val (.int (3 : Int32)), .val (.ref o3), .unset] [(.int (3 : Int32))]))
    refine Fin.step (fun _ => XS.iconst Xy7.here hx rfl (hb hby at_10)) ?_
    show Fin p e below s _ _ _ (Ty7.setTop (mkF m 11 #[.val (.int p1), .val (.int (3 : Int32)), .val (.ref o3), .unset] [(.int (3 : Int32)), (.int (3 : Int32))]))
    refine Fin.step (fun _ => XS.icmpNo Xy7.here hx rfl (hb hby at_11) rfl (teq ((by decide) : ((3 : Int32) = (3 : Int32)))).2) ?_
    show Fin p e below s _ _ _ (Ty7.setTop (mkF m 14 #[.val (.int p1), .val (.int (3 : Int32)), .val (.ref o3), .unset] []))
    refine Fin.step (fun _ => XS.iconst Xy7.here hx rfl (hb hby at_14)) ?_
    show Fin p e below s _ _ _ (Ty7.setTop (mkF m 15 #[.val (.int p1), .val (.int (3 : Int32)), .val (.ref o3), .unset] [(.int (1 : Int32))]))
    refine Fin.step (fun _ => XS.goto Xy7.here hx rfl (pc0 := 15) (pc' := 19) rfl (hb hby at_15) (by decide) (by decide)) ?_
    show Fin p e below s _ _ _ (Ty7.setTop (mkF m 19 #[.val (.int p1), .val (.int (3 : Int32)), .val (.ref o3), .unset] [(.int (1 : Int32))]))
    refine Fin.step (fun _ => XS.istoreN Xy7.here hx rfl (hb hby at_19) rfl (l' := #[.val (.int p1), .val (.int (3 : Int32)), .val (.ref o3), .val (.int (1 : Int32))]) rfl) ?_
    show Fin p e below s _ _ _ (Ty7.setTop (mkF m 20 #[.val (.int p1), .val (.int (3 : Int32)), .val (.ref o3), .val (.int (1 : Int32))] []))
    refine Fin.step (fun _ => XS.aloadN Xy7.here hx rfl (hb hby at_20) rfl rfl) ?_
    show Fin p e below s _ _ _ (Ty7.setTop (mkF m 21 #[.val (.int p1), .val (.int (3 : Int32)), .val (.ref o3), .val (.int (1 : Int32))] [(.ref o3)]))
    obtain ⟨cqy8, kqy8, qy8a, qy8b, qy8c⟩ := isOf hZ eqy7 HE_o3
    obtain ⟨_, _, ⟨Ty8, Ly8, ky8, ny8⟩, -, Xy8, ⟨Lcy8, hQy8, ly8, yy8, zy8⟩, sty8⟩ := Xy7.virtualBack hx (y := (⟨"com/example/multiparty/multiparty/ControllerKind", "sharesByTrust", "()Z"⟩ : MethodName)) (z := (⟨"com/example/multiparty/multiparty/ControllerKind", "sharesByTrust", "()Z"⟩ : MethodName)) hown (mvT hZ (hw _ (List.mem_of_getElem? (i := 7) rfl))) (mvT hZ (hw _ (List.mem_of_getElem? (i := 8) rfl))) (notFace_of_selects (args := #[]) (mvT hZ (hw _ (List.mem_of_getElem? (i := 10) rfl)))) (mvT hZ (hw _ (List.mem_of_getElem? (i := 10) rfl))) (mvT hZ (hw _ (List.mem_of_getElem? (i := 9) rfl))) (by decide) (backOf (W := 0) (rms1 l Z a0 hw [] o3 bd h0 n0 Z0 HF_o3_trusting) hZ (hw _ (List.mem_of_getElem? (i := 11) rfl)) (hw _ (List.mem_of_getElem? (i := 5) rfl)) (by decide) (by decide)) qy8a qy8c (g := (mkF m 21 #[.val (.int p1), .val (.int (3 : Int32)), .val (.ref o3), .val (.int (1 : Int32))] [(.ref o3)])) rfl (by rw [hml]; rfl) (Steps.refl _) (argsL := []) (rest := []) (lenOf pd_1 rfl) rfl (by show 2 * 0 + _ ≤ _; exact Nat.le_of_eq rfl) (hb hby at_21) (fun _ _ => ⟨rfl, eqy7, (by decide : 0 + 0 ≤ _), (by decide : 0 + 0 ≤ _)⟩)
    dsimp only [Pt.U, Pt.locs, Pt.cells, Pt.slots] at Xy8 ly8 yy8 zy8 sty8 hQy8
    subst ly8 yy8 zy8
    obtain ⟨rfl, Nqy8, eqy8⟩ := hQy8
    have Ny8 := Fr.app Ny7 Nqy8
    refine Fin.step (fun _ k => sty8.trans k) ?_
    show Fin p e below s _ _ _ (Ty8.setTop (mkF m 24 #[.val (.int p1), .val (.int (3 : Int32)), .val (.ref o3), .val (.int (1 : Int32))] [(.int (1 : Int32))]))
    refine Fin.step (fun _ => XS.iloadN Xy8.here hx rfl (hb hby at_24) rfl) ?_
    show Fin p e below s _ _ _ (Ty8.setTop (mkF m 25 #[.val (.int p1), .val (.int (3 : Int32)), .val (.ref o3), .val (.int (1 : Int32))] [(.int (1 : Int32)), (.int (1 : Int32))]))
    refine Fin.step (fun _ => XS.icmpNo Xy8.here hx rfl (hb hby at_25) rfl (teq ((by decide) : ((1 : Int32) = (1 : Int32)))).2) ?_
    show Fin p e below s _ _ _ (Ty8.setTop (mkF m 28 #[.val (.int p1), .val (.int (3 : Int32)), .val (.ref o3), .val (.int (1 : Int32))] []))
    refine Fin.step (fun _ => XS.iconst Xy8.here hx rfl (hb hby at_28)) ?_
    show Fin p e below s _ _ _ (Ty8.setTop (mkF m 29 #[.val (.int p1), .val (.int (3 : Int32)), .val (.ref o3), .val (.int (1 : Int32))] [(.int (1 : Int32))]))
    refine Fin.step (fun _ => XS.goto Xy8.here hx rfl (pc0 := 29) (pc' := 33) rfl (hb hby at_29) (by decide) (by decide)) ?_
    show Fin p e below s _ _ _ (Ty8.setTop (mkF m 33 #[.val (.int p1), .val (.int (3 : Int32)), .val (.ref o3), .val (.int (1 : Int32))] [(.int (1 : Int32))]))
    refine Fin.retN Xy8 hx (t := .boolean) hret (by simp) hlk (hb hby at_33) (by decide) (by decide) ?_
    show Q0 Z p1 o0 o1 o2 o3 bd h0 n0 _ Ty8.heap _
    rw [eqy8]
    exact ⟨rfl, Ny8, rfl⟩
set_option maxRecDepth 65536 in
set_option maxHeartbeats 40000000 in
theorem comes_1 {Post : Tables → Env → Array Value → State → Outcome → State → Prop} (hpost : ∀ tb e args s v u, (limb_1_1.after args s (.returned v) u = true ∧ limb_1_2.after args s (.returned v) u = true ∧ True) → FrameEnd s (.returned v) u (Jvm.fieldLocs frame_1_writes args s ++ Jvm.arrayLocs frame_1_arrays args s ++ Jvm.staticLocs frame_1_statics s) 0 0 → Post tb e args s (.returned v) u) :
    ArmFor flags0 classFile x code maxLocals ret World_1 tables_1 room_1 Calls_1 rest_1 Pre_1 Post := by
  intro l hfl _ _ p e ha hc hk s m args below hf hA hF happ hP
  obtain ⟨hcalls, hrest, hpre⟩ := hP
  obtain ⟨-, -, -, hnamed, -, -, -, hat⟩ := (Spec.applies_iff hf).mp happ
  obtain ⟨hg, hn⟩ := and_e (Cond.before_iff.mp (show (Jvm.Cond.and given_1 narrow_1).before args s = true from hpre))
  obtain ⟨gc, gr0⟩ := and_e hg
  have ga0 := gr0
  obtain ⟨w0, rfl⟩ : ∃ w0 : Value, args = #[w0] := by
    have hs : args.size = 1 := by simpa [Cond.value, given_1] using gc
    obtain ⟨L⟩ := args
    match L, hs with
    | [w0], _ => exact ⟨w0, rfl⟩
  have hw := fun d (hd : d ∈ tables_1) => atoms_spec (ws := Jvm.Cond.code x code maxLocals ret :: tables_1) hat d (List.mem_cons_of_mem _ hd)
  have hfit : Fit s := fun {y c} hc i hi => by
    obtain ⟨ha, rfl⟩ := Array.getElem?_eq_some_iff.mp hc
    have q := List.all_eq_true.mp ((Array.all_eq_true_iff_forall_mem.mp hF) _ (Array.getElem_mem ha)) i (List.mem_range.mpr hi)
    simpa [Array.getElem?_eq_getElem hi] using q
  obtain ⟨i0, ei0⟩ := is_v ga0
  obtain rfl : w0 = (.int i0) := Option.some.inj ei0
  obtain ⟨nE0, hr0⟩ := and_e hn
  obtain ⟨nF0, hr1⟩ := and_e hr0
  obtain ⟨nE3, hr2⟩ := and_e hr1
  obtain ⟨nF3, hr3⟩ := and_e hr2
  obtain ⟨nE2, hr4⟩ := and_e hr3
  obtain ⟨nF2, hr5⟩ := and_e hr4
  obtain ⟨nE1, hr6⟩ := and_e hr5
  have nF1 := hr6
  obtain ⟨o0, ev0⟩ := exa_v nE0
  have HE0 : Exa s s.heap o0 "com/example/multiparty/multiparty/ControllerKind" := Exa.start ev0 nE0
  have HS0 : Sta s s.heap "com/example/multiparty/multiparty/ControllerKind" "OWNER" "Lcom/example/multiparty/multiparty/ControllerKind;" (.ref o0) := Sta.start ev0 (Or.inr ⟨(hw _ (List.mem_of_getElem? (i := 5) rfl)), (hw _ (List.mem_of_getElem? (i := 6) rfl))⟩)
  have HF0 : Fld s s.heap o0 "com/example/multiparty/multiparty/ControllerKind" "trusting" "Ljava/math/BigDecimal;" .null := Fld.start ((fld_at ev0).symm.trans (null_v nF0))
  obtain ⟨o1, ev1⟩ := exa_v nE1
  have HE1 : Exa s s.heap o1 "com/example/multiparty/multiparty/ControllerKind" := Exa.start ev1 nE1
  have HS1 : Sta s s.heap "com/example/multiparty/multiparty/ControllerKind" "STAKEHOLDER" "Lcom/example/multiparty/multiparty/ControllerKind;" (.ref o1) := Sta.start ev1 (Or.inr ⟨(hw _ (List.mem_of_getElem? (i := 5) rfl)), (hw _ (List.mem_of_getElem? (i := 19) rfl))⟩)
  have HF1 : Fld s s.heap o1 "com/example/multiparty/multiparty/ControllerKind" "trusting" "Ljava/math/BigDecimal;" .null := Fld.start ((fld_at ev1).symm.trans (null_v nF1))
  obtain ⟨o2, ev2⟩ := exa_v nE2
  have HE2 : Exa s s.heap o2 "com/example/multiparty/multiparty/ControllerKind" := Exa.start ev2 nE2
  have HS2 : Sta s s.heap "com/example/multiparty/multiparty/ControllerKind" "CONTRIBUTOR" "Lcom/example/multiparty/multiparty/ControllerKind;" (.ref o2) := Sta.start ev2 (Or.inr ⟨(hw _ (List.mem_of_getElem? (i := 5) rfl)), (hw _ (List.mem_of_getElem? (i := 17) rfl))⟩)
  have HF2 : Fld s s.heap o2 "com/example/multiparty/multiparty/ControllerKind" "trusting" "Ljava/math/BigDecimal;" .null := Fld.start ((fld_at ev2).symm.trans (null_v nF2))
  obtain ⟨o3, ev3⟩ := exa_v nE3
  have HE3 : Exa s s.heap o3 "com/example/multiparty/multiparty/ControllerKind" := Exa.start ev3 nE3
  have HS3 : Sta s s.heap "com/example/multiparty/multiparty/ControllerKind" "ORIGINATOR" "Lcom/example/multiparty/multiparty/ControllerKind;" (.ref o3) := Sta.start ev3 (Or.inr ⟨(hw _ (List.mem_of_getElem? (i := 5) rfl)), (hw _ (List.mem_of_getElem? (i := 15) rfl))⟩)
  obtain ⟨bd, evb⟩ := exa_v nF3
  have HF3 : Fld s s.heap o3 "com/example/multiparty/multiparty/ControllerKind" "trusting" "Ljava/math/BigDecimal;" (.ref bd) := Fld.start ((fld_at ev3).symm.trans evb)
  obtain ⟨n, o, h1, h2, h3, _, L, rfl, ⟨rfl, N, _⟩, hq⟩ := rm0 l s _ hw tables_1 i0 o0 o1 o2 o3 bd s.heap s.heap.size (Nat.le_refl _) HS0 HS1 HS2 HS3 HE0 HE1 HE2 HE3 HF0 HF1 HF2 HF3 p e ha hc hk s m _ below hf ((Spec.applies_iff_loose hf).mp happ).1 ⟨rfl, State.Warmed39.refl s, rfl⟩ trivial
  refine ⟨n, _, h1, h2, h3, hpost _ _ _ _ _ _ ⟨Cond.after_iff.mpr rfl, Cond.after_iff.mpr (eq_i res_at (Term.int_eval (1)) rfl), trivial⟩ ⟨hq.1, hq.2.1, (hq.2.2.sift fun y hy => Or.inr (N y hy)).mono (by decide) (by decide)⟩⟩
theorem main_1_1 : Claimed_1_1 := comes_1 fun _ _ _ _ _ _ h hF => ⟨h.1, hF⟩
theorem main_1_2 : Claimed_1_2 := comes_1 fun _ _ _ _ _ _ h hF => ⟨h.2.1, hF⟩
end Jvm.Pilot.@@N@@
namespace Jvm.Pilot.@@N@@
open Jvm Jvm.ClassFile Sem Op Lib Jvm.Free Jvm.Stand Jvm.Pilot.@@N@@.Jvm.D
/-! MADE BY PROGRAM (witnessworld.py) out of the Statement's table words and the real class files: 15 classes; the members and pool entries that the words name. The judged class is class 1, her method 2. -/
namespace start1
open Jvm.ClassFile
def u (s : String) : CpInfo := .utf8 (stringToUtf16 s)
/-- a pool by its gaps: so many unusable entries, then the entry; so many at the end -/
def gap : Nat → List CpInfo → List CpInfo
  | 0, r => r
  | n + 1, r => .unusable :: gap n r
def poolList (es : List (Nat × CpInfo)) (last : Nat) : List CpInfo := es.foldr (fun e r => gap e.1 (e.2 :: r)) (gap last [])
def pool (es : List (Nat × CpInfo)) (last : Nat) : Array CpInfo := ⟨poolList es last⟩
def fileOf (pool : Array CpInfo) (this : Nat) (attrs : Array Attribute := #[]) (ms : Array MethodInfo := #[]) (fl : Nat := 33) (sup : Nat := 0) (ifs : Array Nat := #[]) (fds : Array FieldInfo := #[]) : ClassFile where
  minorVersion := 0
  majorVersion := 65
  constantPool := pool
  accessFlags := fl
  thisClass := this
  superClass := sup
  interfaces := ifs
  fields := fds
  methods := ms
  attributes := attrs
def plain (name : String) (sup : Option ClassId) : Class where
  name := name
  kind := .ordinary
  loader := none
  accessFlags := 33
  super := sup
  interfaces := #[]
  cf := none
  fields := #[]
  methods := #[]
  instanceTypes := #[]
  staticTypes := #[]
  resolved := #[]
  callSites := []
  init := .initialized
  statics := none
  mirror := none

def pool0 : Array CpInfo := pool [(5, u "<init>"), (0, u "()V"), (1, .class_ 10), (1, u "java/lang/Object")] 113

def k0m0 : Method := { name := "<init>", desc := "()V", sig := { parameters := [], returnType := none }, accessFlags := 1, code := none }
/-- java/lang/Object -/
def k0 : Class := { plain "java/lang/Object" none with
  accessFlags := 33
  interfaces := #[]
  cf := some (fileOf pool0 8 #[] #[{ accessFlags := 1, nameIndex := 5, descriptorIndex := 6, attributes := #[] }] 33 0 #[] #[])
  fields := #[]
  methods := #[k0m0]
  instanceTypes := #[]
  staticTypes := #[]
  resolved := Array.replicate 124 none
  statics := none }

def pool1 : Array CpInfo := pool [(2, .class_ 4), (1, u "java/lang/Object"), (0, u "<init>"), (0, u "()V"), (0, .fieldref 8 9), (0, .class_ 10), (0, .nameAndType 11 12), (0, u "com/example/multiparty/multiparty/ControllerKind"), (0, u "OWNER"), (0, u "Lcom/example/multiparty/multiparty/ControllerKind;"), (0, .fieldref 8 14), (0, .nameAndType 15 12), (0, u "STAKEHOLDER"), (0, .fieldref 8 17), (0, .nameAndType 18 12), (0, u "CONTRIBUTOR"), (0, .fieldref 8 20), (0, .nameAndType 21 12), (0, u "ORIGINATOR"), (0, .methodref 23 24), (0, .class_ 25), (0, .nameAndType 26 27), (0, u "com/example/multiparty/multiparty/ControllerKindSharesByTrustPinLaw"), (0, u "pick"), (0, u "(I)Lcom/example/multiparty/multiparty/ControllerKind;"), (0, .methodref 8 29), (0, .nameAndType 30 31), (0, u "sharesByTrust"), (0, u "()Z"), (3, u "law"), (0, u "(I)Z")] 2

def k1m0 : Method := { name := "<init>", desc := "()V", sig := { parameters := [], returnType := none }, accessFlags := 2, code := none }
def k1c1 : Code := { maxStack := 2, maxLocals := 1, code := method_2_code, exceptionTable := #[], attributes := #[] }
def k1m1 : Method := { name := "pick", desc := "(I)Lcom/example/multiparty/multiparty/ControllerKind;", sig := { parameters := [.int], returnType := some (.object "com/example/multiparty/multiparty/ControllerKind") }, accessFlags := 10, code := some k1c1 }
def k1c2 : Code := { maxStack := 2, maxLocals := 4, code := code, exceptionTable := #[], attributes := #[] }
def k1m2 : Method := { name := "law", desc := "(I)Z", sig := { parameters := [.int], returnType := some .boolean }, accessFlags := 9, code := some k1c2 }
/-- com/example/multiparty/multiparty/ControllerKindSharesByTrustPinLaw -/
def k1 : Class := { plain "com/example/multiparty/multiparty/ControllerKindSharesByTrustPinLaw" (some 0) with
  accessFlags := 49
  interfaces := #[]
  cf := some (fileOf pool1 23 #[] #[{ accessFlags := 2, nameIndex := 5, descriptorIndex := 6, attributes := #[] }, { accessFlags := 10, nameIndex := 26, descriptorIndex := 27, attributes := #[] }, { accessFlags := 9, nameIndex := 35, descriptorIndex := 36, attributes := #[] }] 49 2 #[] #[])
  fields := #[]
  methods := #[k1m0, k1m1, k1m2]
  instanceTypes := #[]
  staticTypes := #[]
  resolved := Array.replicate 39 none
  statics := none }

def pool2 : Array CpInfo := pool [(1, .class_ 2), (0, u "java/lang/constant/Constable"), (0, .class_ 4), (0, u "java/lang/Object")] 6

/-- java/lang/constant/Constable -/
def k2 : Class := { plain "java/lang/constant/Constable" (some 0) with
  accessFlags := 1537
  interfaces := #[]
  cf := some (fileOf pool2 1 #[] #[] 1537 3 #[] #[])
  fields := #[]
  methods := #[]
  instanceTypes := #[]
  staticTypes := #[]
  resolved := Array.replicate 11 none
  statics := none }

def pool3 : Array CpInfo := pool [(1, .class_ 2), (0, u "java/lang/Comparable"), (0, .class_ 4), (0, u "java/lang/Object")] 7

/-- java/lang/Comparable -/
def k3 : Class := { plain "java/lang/Comparable" (some 0) with
  accessFlags := 1537
  interfaces := #[]
  cf := some (fileOf pool3 1 #[] #[] 1537 3 #[] #[])
  fields := #[]
  methods := #[]
  instanceTypes := #[]
  staticTypes := #[]
  resolved := Array.replicate 12 none
  statics := none }

def pool4 : Array CpInfo := pool [(1, .class_ 2), (0, u "java/io/Serializable"), (0, .class_ 4), (0, u "java/lang/Object")] 2

/-- java/io/Serializable -/
def k4 : Class := { plain "java/io/Serializable" (some 0) with
  accessFlags := 1537
  interfaces := #[]
  cf := some (fileOf pool4 1 #[] #[] 1537 3 #[] #[])
  fields := #[]
  methods := #[]
  instanceTypes := #[]
  staticTypes := #[]
  resolved := Array.replicate 7 none
  statics := none }

def pool5 : Array CpInfo := pool [(2, .class_ 4), (1, u "java/lang/Enum"), (0, u "name"), (0, u "Ljava/lang/String;"), (2, u "ordinal"), (0, u "I"), (1, .class_ 14), (1, u "java/lang/Object"), (4, u "hash"), (86, .class_ 108), (1, u "java/lang/Enum$EnumDesc"), (2, .class_ 112), (0, u "java/lang/constant/Constable"), (0, .class_ 114), (0, u "java/lang/Comparable"), (0, .class_ 116), (0, u "java/io/Serializable")] 87

/-- java/lang/Enum -/
def k5 : Class := { plain "java/lang/Enum" (some 0) with
  accessFlags := 1057
  interfaces := #[2, 3, 4]
  cf := some (fileOf pool5 2 #[.nestMembers #[106]] #[] 1057 12 #[111, 113, 115] #[{ accessFlags := 18, nameIndex := 5, descriptorIndex := 6, attributes := #[] }, { accessFlags := 18, nameIndex := 9, descriptorIndex := 10, attributes := #[] }, { accessFlags := 2, nameIndex := 19, descriptorIndex := 10, attributes := #[] }])
  fields := #[{ name := "name", type := (.object "java/lang/String"), accessFlags := 18, slot := 0, constantValue := 0 }, { name := "ordinal", type := .int, accessFlags := 18, slot := 1, constantValue := 0 }, { name := "hash", type := .int, accessFlags := 2, slot := 2, constantValue := 0 }]
  methods := #[]
  instanceTypes := #[(.object "java/lang/String"), .int, .int]
  staticTypes := #[]
  resolved := Array.replicate 204 none
  statics := none }

def pool6 : Array CpInfo := pool [(2, .class_ 4), (1, u "com/example/multiparty/multiparty/Worded"), (33, .class_ 39), (0, u "java/lang/Object")] 13

/-- com/example/multiparty/multiparty/Worded -/
def k6 : Class := { plain "com/example/multiparty/multiparty/Worded" (some 0) with
  accessFlags := 1536
  interfaces := #[]
  cf := some (fileOf pool6 2 #[] #[] 1536 38 #[] #[])
  fields := #[]
  methods := #[]
  instanceTypes := #[]
  staticTypes := #[]
  resolved := Array.replicate 53 none
  statics := none }

def pool7 : Array CpInfo := pool [(1, .class_ 2), (0, u "com/example/multiparty/multiparty/ControllerKind"), (2, u "OWNER"), (0, u "Lcom/example/multiparty/multiparty/ControllerKind;"), (2, u "STAKEHOLDER"), (2, u "CONTRIBUTOR"), (2, u "ORIGINATOR"), (2, u "$VALUES"), (0, u "[Lcom/example/multiparty/multiparty/ControllerKind;"), (6, .class_ 28), (1, u "java/lang/Enum"), (8, u "word"), (0, u "Ljava/lang/String;"), (7, u "near"), (0, u "Ljava/math/BigDecimal;"), (2, u "far"), (0, .fieldref 1 52), (0, .nameAndType 53 47), (0, u "trusting"), (2, u "wary"), (38, .class_ 96), (0, u "com/example/multiparty/multiparty/Worded"), (12, u "sharesByTrust"), (0, u "()Z")] 7

def k7c0 : Code := { maxStack := 1, maxLocals := 1, code := prog_4_method_7_code, exceptionTable := #[], attributes := #[] }
def k7m0 : Method := { name := "sharesByTrust", desc := "()Z", sig := { parameters := [], returnType := some .boolean }, accessFlags := 0, code := some k7c0 }
/-- com/example/multiparty/multiparty/ControllerKind -/
def k7 : Class := { plain "com/example/multiparty/multiparty/ControllerKind" (some 5) with
  accessFlags := 16433
  interfaces := #[6]
  cf := some (fileOf pool7 1 #[] #[{ accessFlags := 0, nameIndex := 109, descriptorIndex := 110, attributes := #[] }] 16433 26 #[95] #[{ accessFlags := 16409, nameIndex := 5, descriptorIndex := 6, attributes := #[] }, { accessFlags := 16409, nameIndex := 9, descriptorIndex := 6, attributes := #[] }, { accessFlags := 16409, nameIndex := 12, descriptorIndex := 6, attributes := #[] }, { accessFlags := 16409, nameIndex := 15, descriptorIndex := 6, attributes := #[] }, { accessFlags := 18, nameIndex := 37, descriptorIndex := 38, attributes := #[] }, { accessFlags := 18, nameIndex := 46, descriptorIndex := 47, attributes := #[] }, { accessFlags := 18, nameIndex := 50, descriptorIndex := 47, attributes := #[] }, { accessFlags := 18, nameIndex := 53, descriptorIndex := 47, attributes := #[] }, { accessFlags := 18, nameIndex := 56, descriptorIndex := 47, attributes := #[] }, { accessFlags := 4122, nameIndex := 18, descriptorIndex := 19, attributes := #[] }])
  fields := #[{ name := "OWNER", type := (.object "com/example/multiparty/multiparty/ControllerKind"), accessFlags := 16409, slot := 0, constantValue := 0 }, { name := "STAKEHOLDER", type := (.object "com/example/multiparty/multiparty/ControllerKind"), accessFlags := 16409, slot := 1, constantValue := 0 }, { name := "CONTRIBUTOR", type := (.object "com/example/multiparty/multiparty/ControllerKind"), accessFlags := 16409, slot := 2, constantValue := 0 }, { name := "ORIGINATOR", type := (.object "com/example/multiparty/multiparty/ControllerKind"), accessFlags := 16409, slot := 3, constantValue := 0 }, { name := "word", type := (.object "java/lang/String"), accessFlags := 18, slot := 3, constantValue := 0 }, { name := "near", type := (.object "java/math/BigDecimal"), accessFlags := 18, slot := 4, constantValue := 0 }, { name := "far", type := (.object "java/math/BigDecimal"), accessFlags := 18, slot := 5, constantValue := 0 }, { name := "trusting", type := (.object "java/math/BigDecimal"), accessFlags := 18, slot := 6, constantValue := 0 }, { name := "wary", type := (.object "java/math/BigDecimal"), accessFlags := 18, slot := 7, constantValue := 0 }, { name := "$VALUES", type := (.array (.object "com/example/multiparty/multiparty/ControllerKind")), accessFlags := 4122, slot := 4, constantValue := 0 }]
  methods := #[k7m0]
  instanceTypes := #[(.object "java/lang/String"), .int, .int, (.object "java/lang/String"), (.object "java/math/BigDecimal"), (.object "java/math/BigDecimal"), (.object "java/math/BigDecimal"), (.object "java/math/BigDecimal")]
  staticTypes := #[(.object "com/example/multiparty/multiparty/ControllerKind"), (.object "com/example/multiparty/multiparty/ControllerKind"), (.object "com/example/multiparty/multiparty/ControllerKind"), (.object "com/example/multiparty/multiparty/ControllerKind"), (.array (.object "com/example/multiparty/multiparty/ControllerKind"))]
  resolved := Array.replicate 118 none
  statics := some 0 }

def pool8 : Array CpInfo := pool [(2, .class_ 4), (1, u "java/lang/Object"), (0, u "<init>"), (0, u "()V"), (1, .class_ 10), (1, u "java/lang/Number"), (2, .class_ 14), (0, u "java/io/Serializable"), (0, u "serialVersionUID"), (0, u "J")] 20

def k8m0 : Method := { name := "<init>", desc := "()V", sig := { parameters := [], returnType := none }, accessFlags := 1, code := none }
/-- java/lang/Number -/
def k8 : Class := { plain "java/lang/Number" (some 0) with
  accessFlags := 1057
  interfaces := #[4]
  cf := some (fileOf pool8 8 #[] #[{ accessFlags := 1, nameIndex := 5, descriptorIndex := 6, attributes := #[] }] 1057 2 #[13] #[{ accessFlags := 26, nameIndex := 15, descriptorIndex := 16, attributes := #[] }])
  fields := #[{ name := "serialVersionUID", type := .long, accessFlags := 26, slot := 0, constantValue := 0 }]
  methods := #[k8m0]
  instanceTypes := #[]
  staticTypes := #[.long]
  resolved := Array.replicate 37 none
  statics := none }

def pool9 : Array CpInfo := pool [(3, .class_ 4), (0, u "java/math/BigDecimal"), (7, .class_ 14), (1, u "java/lang/Number"), (4, u "scale"), (0, u "I"), (2, u "precision"), (2, u "intCompact"), (0, u "J"), (2, u "intVal"), (0, u "Ljava/math/BigInteger;"), (65, u "LONG_TEN_POWERS_TABLE"), (0, u "[J"), (88, u "ZERO"), (2, u "INFLATED_BIGINT"), (15, u "TWO"), (41, u "ZERO_THROUGH_TEN"), (0, u "[Ljava/math/BigDecimal;"), (2, u "ZERO_SCALED_BY"), (60, u "$assertionsDisabled"), (0, u "Z"), (163, u "ONE_TENTH"), (0, u "Ljava/math/BigDecimal;"), (5, u "TEN"), (14, .class_ 502), (1, u "java/math/BigDecimal$1"), (15, u "ONE_HALF"), (16, u "ONE"), (107, u "stringCache"), (0, u "Ljava/lang/String;"), (52, .class_ 699), (1, u "java/math/BigDecimal$LongOverflow"), (8, u "FLOAT_10_POW"), (0, u "[F"), (39, u "DOUBLE_10_POW"), (0, u "[D"), (19, .class_ 772), (1, u "java/math/BigDecimal$StringBuilderHelper"), (35, u "BIG_TEN_POWERS_TABLE_MAX"), (2, u "BIG_TEN_POWERS_TABLE"), (0, u "[Ljava/math/BigInteger;"), (14, u "THRESHOLDS_TABLE"), (23, .class_ 853), (1, u "java/math/BigDecimal$UnsafeHolder"), (214, u "LONGLONG_TEN_POWERS_TABLE"), (0, u "[[J"), (112, u "BIG_TEN_POWERS_TABLE_INITLEN"), (113, .class_ 1297), (0, u "java/lang/Comparable"), (0, u "L"), (0, u "D"), (1, u "P_F"), (1, u "Q_MIN_F"), (1, u "Q_MAX_F"), (1, u "P_D"), (1, u "Q_MIN_D"), (1, u "Q_MAX_D"), (1, u "INFLATED"), (0, u "MAX_COMPACT_DIGITS"), (1, u "serialVersionUID"), (2, u "HALF_LONG_MAX_VALUE"), (0, u "HALF_LONG_MIN_VALUE"), (0, u "ROUND_UP"), (6, u "ROUND_DOWN"), (1, u "ROUND_CEILING"), (1, u "ROUND_FLOOR"), (1, u "ROUND_HALF_UP"), (1, u "ROUND_HALF_DOWN"), (1, u "ROUND_HALF_EVEN"), (1, u "ROUND_UNNECESSARY"), (1, u "DIV_NUM_BASE")] 294

/-- java/math/BigDecimal -/
def k9 : Class := { plain "java/math/BigDecimal" (some 8) with
  accessFlags := 33
  interfaces := #[3]
  cf := some (fileOf pool9 3 #[.nestMembers #[500, 851, 770, 697]] #[] 33 12 #[1296] #[{ accessFlags := 26, nameIndex := 1298, descriptorIndex := 1299, attributes := #[] }, { accessFlags := 26, nameIndex := 1301, descriptorIndex := 20, attributes := #[] }, { accessFlags := 26, nameIndex := 1303, descriptorIndex := 20, attributes := #[] }, { accessFlags := 26, nameIndex := 1305, descriptorIndex := 20, attributes := #[] }, { accessFlags := 26, nameIndex := 1307, descriptorIndex := 20, attributes := #[] }, { accessFlags := 26, nameIndex := 1309, descriptorIndex := 20, attributes := #[] }, { accessFlags := 26, nameIndex := 1311, descriptorIndex := 20, attributes := #[] }, { accessFlags := 18, nameIndex := 30, descriptorIndex := 31, attributes := #[] }, { accessFlags := 18, nameIndex := 19, descriptorIndex := 20, attributes := #[] }, { accessFlags := 130, nameIndex := 23, descriptorIndex := 20, attributes := #[] }, { accessFlags := 130, nameIndex := 643, descriptorIndex := 644, attributes := #[] }, { accessFlags := 24, nameIndex := 1313, descriptorIndex := 27, attributes := #[] }, { accessFlags := 26, nameIndex := 190, descriptorIndex := 31, attributes := #[] }, { accessFlags := 146, nameIndex := 26, descriptorIndex := 27, attributes := #[] }, { accessFlags := 26, nameIndex := 1314, descriptorIndex := 20, attributes := #[] }, { accessFlags := 26, nameIndex := 1316, descriptorIndex := 27, attributes := #[] }, { accessFlags := 26, nameIndex := 248, descriptorIndex := 249, attributes := #[] }, { accessFlags := 26, nameIndex := 252, descriptorIndex := 249, attributes := #[] }, { accessFlags := 26, nameIndex := 1319, descriptorIndex := 27, attributes := #[] }, { accessFlags := 26, nameIndex := 1320, descriptorIndex := 27, attributes := #[] }, { accessFlags := 25, nameIndex := 187, descriptorIndex := 479, attributes := #[] }, { accessFlags := 25, nameIndex := 535, descriptorIndex := 479, attributes := #[] }, { accessFlags := 25, nameIndex := 206, descriptorIndex := 479, attributes := #[] }, { accessFlags := 25, nameIndex := 485, descriptorIndex := 479, attributes := #[] }, { accessFlags := 26, nameIndex := 478, descriptorIndex := 479, attributes := #[] }, { accessFlags := 26, nameIndex := 518, descriptorIndex := 479, attributes := #[] }, { accessFlags := 25, nameIndex := 1321, descriptorIndex := 20, attributes := #[] }, { accessFlags := 25, nameIndex := 1328, descriptorIndex := 20, attributes := #[] }, { accessFlags := 25, nameIndex := 1330, descriptorIndex := 20, attributes := #[] }, { accessFlags := 25, nameIndex := 1332, descriptorIndex := 20, attributes := #[] }, { accessFlags := 25, nameIndex := 1334, descriptorIndex := 20, attributes := #[] }, { accessFlags := 25, nameIndex := 1336, descriptorIndex := 20, attributes := #[] }, { accessFlags := 25, nameIndex := 1338, descriptorIndex := 20, attributes := #[] }, { accessFlags := 25, nameIndex := 1340, descriptorIndex := 20, attributes := #[] }, { accessFlags := 26, nameIndex := 749, descriptorIndex := 750, attributes := #[] }, { accessFlags := 26, nameIndex := 708, descriptorIndex := 709, attributes := #[] }, { accessFlags := 26, nameIndex := 97, descriptorIndex := 98, attributes := #[] }, { accessFlags := 74, nameIndex := 811, descriptorIndex := 812, attributes := #[] }, { accessFlags := 26, nameIndex := 1182, descriptorIndex := 20, attributes := #[] }, { accessFlags := 26, nameIndex := 808, descriptorIndex := 20, attributes := #[] }, { accessFlags := 26, nameIndex := 827, descriptorIndex := 98, attributes := #[] }, { accessFlags := 26, nameIndex := 1342, descriptorIndex := 27, attributes := #[] }, { accessFlags := 26, nameIndex := 1068, descriptorIndex := 1069, attributes := #[] }, { accessFlags := 4120, nameIndex := 313, descriptorIndex := 314, attributes := #[] }])
  fields := #[{ name := "L", type := .double, accessFlags := 26, slot := 0, constantValue := 0 }, { name := "P_F", type := .int, accessFlags := 26, slot := 1, constantValue := 0 }, { name := "Q_MIN_F", type := .int, accessFlags := 26, slot := 2, constantValue := 0 }, { name := "Q_MAX_F", type := .int, accessFlags := 26, slot := 3, constantValue := 0 }, { name := "P_D", type := .int, accessFlags := 26, slot := 4, constantValue := 0 }, { name := "Q_MIN_D", type := .int, accessFlags := 26, slot := 5, constantValue := 0 }, { name := "Q_MAX_D", type := .int, accessFlags := 26, slot := 6, constantValue := 0 }, { name := "intVal", type := (.object "java/math/BigInteger"), accessFlags := 18, slot := 0, constantValue := 0 }, { name := "scale", type := .int, accessFlags := 18, slot := 1, constantValue := 0 }, { name := "precision", type := .int, accessFlags := 130, slot := 2, constantValue := 0 }, { name := "stringCache", type := (.object "java/lang/String"), accessFlags := 130, slot := 3, constantValue := 0 }, { name := "INFLATED", type := .long, accessFlags := 24, slot := 7, constantValue := 0 }, { name := "INFLATED_BIGINT", type := (.object "java/math/BigInteger"), accessFlags := 26, slot := 8, constantValue := 0 }, { name := "intCompact", type := .long, accessFlags := 146, slot := 4, constantValue := 0 }, { name := "MAX_COMPACT_DIGITS", type := .int, accessFlags := 26, slot := 9, constantValue := 0 }, { name := "serialVersionUID", type := .long, accessFlags := 26, slot := 10, constantValue := 0 }, { name := "ZERO_THROUGH_TEN", type := (.array (.object "java/math/BigDecimal")), accessFlags := 26, slot := 11, constantValue := 0 }, { name := "ZERO_SCALED_BY", type := (.array (.object "java/math/BigDecimal")), accessFlags := 26, slot := 12, constantValue := 0 }, { name := "HALF_LONG_MAX_VALUE", type := .long, accessFlags := 26, slot := 13, constantValue := 0 }, { name := "HALF_LONG_MIN_VALUE", type := .long, accessFlags := 26, slot := 14, constantValue := 0 }, { name := "ZERO", type := (.object "java/math/BigDecimal"), accessFlags := 25, slot := 15, constantValue := 0 }, { name := "ONE", type := (.object "java/math/BigDecimal"), accessFlags := 25, slot := 16, constantValue := 0 }, { name := "TWO", type := (.object "java/math/BigDecimal"), accessFlags := 25, slot := 17, constantValue := 0 }, { name := "TEN", type := (.object "java/math/BigDecimal"), accessFlags := 25, slot := 18, constantValue := 0 }, { name := "ONE_TENTH", type := (.object "java/math/BigDecimal"), accessFlags := 26, slot := 19, constantValue := 0 }, { name := "ONE_HALF", type := (.object "java/math/BigDecimal"), accessFlags := 26, slot := 20, constantValue := 0 }, { name := "ROUND_UP", type := .int, accessFlags := 25, slot := 21, constantValue := 0 }, { name := "ROUND_DOWN", type := .int, accessFlags := 25, slot := 22, constantValue := 0 }, { name := "ROUND_CEILING", type := .int, accessFlags := 25, slot := 23, constantValue := 0 }, { name := "ROUND_FLOOR", type := .int, accessFlags := 25, slot := 24, constantValue := 0 }, { name := "ROUND_HALF_UP", type := .int, accessFlags := 25, slot := 25, constantValue := 0 }, { name := "ROUND_HALF_DOWN", type := .int, accessFlags := 25, slot := 26, constantValue := 0 }, { name := "ROUND_HALF_EVEN", type := .int, accessFlags := 25, slot := 27, constantValue := 0 }, { name := "ROUND_UNNECESSARY", type := .int, accessFlags := 25, slot := 28, constantValue := 0 }, { name := "DOUBLE_10_POW", type := (.array .double), accessFlags := 26, slot := 29, constantValue := 0 }, { name := "FLOAT_10_POW", type := (.array .float), accessFlags := 26, slot := 30, constantValue := 0 }, { name := "LONG_TEN_POWERS_TABLE", type := (.array .long), accessFlags := 26, slot := 31, constantValue := 0 }, { name := "BIG_TEN_POWERS_TABLE", type := (.array (.object "java/math/BigInteger")), accessFlags := 74, slot := 32, constantValue := 0 }, { name := "BIG_TEN_POWERS_TABLE_INITLEN", type := .int, accessFlags := 26, slot := 33, constantValue := 0 }, { name := "BIG_TEN_POWERS_TABLE_MAX", type := .int, accessFlags := 26, slot := 34, constantValue := 0 }, { name := "THRESHOLDS_TABLE", type := (.array .long), accessFlags := 26, slot := 35, constantValue := 0 }, { name := "DIV_NUM_BASE", type := .long, accessFlags := 26, slot := 36, constantValue := 0 }, { name := "LONGLONG_TEN_POWERS_TABLE", type := (.array (.array .long)), accessFlags := 26, slot := 37, constantValue := 0 }, { name := "$assertionsDisabled", type := .boolean, accessFlags := 4120, slot := 38, constantValue := 0 }]
  methods := #[]
  instanceTypes := #[(.object "java/math/BigInteger"), .int, .int, (.object "java/lang/String"), .long]
  staticTypes := #[.double, .int, .int, .int, .int, .int, .int, .long, (.object "java/math/BigInteger"), .int, .long, (.array (.object "java/math/BigDecimal")), (.array (.object "java/math/BigDecimal")), .long, .long, (.object "java/math/BigDecimal"), (.object "java/math/BigDecimal"), (.object "java/math/BigDecimal"), (.object "java/math/BigDecimal"), (.object "java/math/BigDecimal"), (.object "java/math/BigDecimal"), .int, .int, .int, .int, .int, .int, .int, .int, (.array .double), (.array .float), (.array .long), (.array (.object "java/math/BigInteger")), .int, .int, (.array .long), .long, (.array (.array .long)), .boolean]
  resolved := Array.replicate 1637 none
  statics := none }

def pool10 : Array CpInfo := pool [(1, u "java/lang/Cloneable"), (0, .class_ 1), (0, u "java/lang/Object"), (0, .class_ 3)] 3

/-- java/lang/Cloneable -/
def k10 : Class := { plain "java/lang/Cloneable" (some 0) with
  accessFlags := 1537
  interfaces := #[]
  cf := some (fileOf pool10 2 #[] #[] 1537 4 #[] #[])
  fields := #[]
  methods := #[]
  instanceTypes := #[]
  staticTypes := #[]
  resolved := Array.replicate 8 none
  statics := none }

/-- the primitive byte -/
def k11 : Class := { plain "byte" none with kind := .primitive 'B', accessFlags := 0x411 }
/-- [B -/
def k12 : Class := { plain "[B" (some 0) with kind := .array 11 .byte, interfaces := #[10, 4], accessFlags := 1041 }

/-- the primitive int -/
def k13 : Class := { plain "int" none with kind := .primitive 'I', accessFlags := 0x411 }
/-- [I -/
def k14 : Class := { plain "[I" (some 0) with kind := .array 13 .int, interfaces := #[10, 4], accessFlags := 1041 }

def heap : Heap := #[{ cls := 7, slots := #[.ref 1, .ref 2, .ref 3, .ref 4, .null], vm := .statics 7 },
  { cls := 7, slots := #[.null, .int 0, .int 0, .null, .null, .null, .null, .null], vm := .none },
  { cls := 7, slots := #[.null, .int 1, .int 0, .null, .null, .null, .null, .null], vm := .none },
  { cls := 7, slots := #[.null, .int 2, .int 0, .null, .null, .null, .null, .null], vm := .none },
  { cls := 7, slots := #[.null, .int 3, .int 0, .null, .null, .null, .ref 5, .null], vm := .none },
  { cls := 9, slots := #[.null, .int 0, .int 0, .null, .long 0], vm := .none }]
def classes : Array Class := #[k0, k1, k2, k3, k4, k5, k6, k7, k8, k9, k10, k11, k12, k13, k14]
def interned : List (Array UInt16 × Addr) := []
def slotsUsed : Nat := 42
def theMethod : MethodId := ⟨1, 2⟩
def args0 : Array Value := #[.int 3]
def aboutOver (below : List Frame) : State where
  vm := { classes := classes, interned := interned.toArray }
  heap := heap
  slotsUsed := slotsUsed
  threads := #[{ frames := .invoking theMethod args0 :: below }]
def below0 : List Frame := [.native { method := ⟨0, 0⟩, args := #[] }]
def about1 : State := aboutOver below0
def p0 : Program := .bare "" "" ""
def e0 : Env := launch0.env 0 0 0
theorem w_frames : about1.frames = Frame.invoking theMethod args0 :: below0 := rfl
set_option maxRecDepth 65536 in
theorem w_args : argsFit about1.vm theMethod args0 = true := by decide +kernel
set_option maxRecDepth 65536 in
theorem w_heap : heapFits about1 = true := by decide +kernel
set_option maxRecDepth 65536 in
theorem w_runnable : about1.curStatus? = some .runnable := by decide +kernel
set_option maxRecDepth 65536 in
theorem w_alone : about1.alone = true := by decide +kernel
set_option maxRecDepth 65536 in
theorem w_named : about1.methodNamed? x = some theMethod := by decide +kernel
set_option maxRecDepth 65536 in
theorem w_hears : about1.hears theMethod below0 = true := by decide +kernel
set_option maxRecDepth 65536 in
theorem w_ripe : about1.ripe theMethod args0 below0 = true := by decide +kernel
theorem w_running : about1.status = .running := rfl
set_option maxRecDepth 65536 in
theorem w_room : about1.hasRoom e0.platform room_1 = true :=
  launch0.hasRoom_least _ room_1 (by decide +kernel) (by decide +kernel) (by decide +kernel) (by decide +kernel) (by decide +kernel) (by decide +kernel)
theorem allAtoms_all (ts : List Jvm.Cond) (a : Array Jvm.Value) (st : Jvm.State) : (allAtoms ts).before a st = ts.all (fun c => c.before a st) := by
  induction ts with
  | nil => rfl
  | cons c t ih =>
    show (Jvm.Cond.and c (allAtoms t)).before a st = _
    rw [Jvm.Cond.before_and, ih, List.all_cons]
def words1 : List Jvm.Cond := Jvm.Cond.code x code maxLocals ret :: tables_1
/-- a 'code' word, met by the world's own term for the bytes: nothing is compared byte by byte -/
theorem code_word {y : MethodName} {bytes : ByteArray} {mx : Nat} {rt : Option FieldType} {a : Array Value} {s : State} {m : MethodId} {meth : Method} {c : Code} (h1 : s.methodNamed? y = some m) (h2 : s.vm.method? m = some meth) (h3 : meth.code = some c) (h4 : c.code = bytes)
    (h5 : (c.maxLocals == mx && c.exceptionTable.isEmpty && decide (c.maxStack ≤ mostOperands) && decide (meth.sig.returnType = rt) && !meth.locks && decide (parseMethodDescriptor y.desc = some meth.sig)) = true) : (Jvm.Cond.code y bytes mx rt).before a s = true := by
  simp only [Bool.and_eq_true, beq_iff_eq, Bool.not_eq_true', decide_eq_true_eq] at h5
  obtain ⟨⟨⟨⟨⟨g1, g2⟩, g3⟩, g4⟩, g5⟩, g6⟩ := h5
  simp [Cond.before, Cond.holds, Cond.value, h1, h2, h3, h4, g1, g2, g3, g4, g5, g6]
def isCode : Jvm.Cond → Bool
  | .code _ _ _ _ => true
  | _ => false
theorem all_split {L : List Jvm.Cond} {P : Jvm.Cond → Bool} (h1 : L.all (fun c => isCode c || P c) = true) (h2 : ∀ c ∈ L.filter isCode, P c = true) : L.all P = true := by
  refine List.all_eq_true.mpr fun c hc => ?_
  have h := List.all_eq_true.mp h1 c hc
  rcases Bool.eq_false_or_eq_true (isCode c) with hi | hi
  · exact h2 c (List.mem_filter.mpr ⟨hc, hi⟩)
  · simpa [hi] using h
set_option maxRecDepth 65536 in
theorem w_c0 : (Jvm.Cond.code x code maxLocals ret).before args0 about1 = true := code_word (m := ⟨1, 2⟩) (meth := k1m2) (c := k1c2) (by decide +kernel) rfl rfl rfl (by decide +kernel)
set_option maxRecDepth 65536 in
theorem w_c1 : (Jvm.Cond.code ({ cls := "com/example/multiparty/multiparty/ControllerKindSharesByTrustPinLaw", name := "pick", desc := "(I)Lcom/example/multiparty/multiparty/ControllerKind;" } : Jvm.MethodName) method_2_code (1 : Nat) (Option.some (Jvm.ClassFile.FieldType.object "com/example/multiparty/multiparty/ControllerKind"))).before args0 about1 = true := code_word (m := ⟨1, 1⟩) (meth := k1m1) (c := k1c1) (by decide +kernel) rfl rfl rfl (by decide +kernel)
set_option maxRecDepth 65536 in
theorem w_c2 : (Jvm.Cond.code ({ cls := "com/example/multiparty/multiparty/ControllerKind", name := "sharesByTrust", desc := "()Z" } : Jvm.MethodName) prog_4_method_7_code (1 : Nat) (Option.some Jvm.ClassFile.FieldType.boolean)).before args0 about1 = true := code_word (m := ⟨7, 0⟩) (meth := k7m0) (c := k7c0) (by decide +kernel) rfl rfl rfl (by decide +kernel)
def codes1 : List Jvm.Cond := [Jvm.Cond.code x code maxLocals ret, Jvm.Cond.code ({ cls := "com/example/multiparty/multiparty/ControllerKindSharesByTrustPinLaw", name := "pick", desc := "(I)Lcom/example/multiparty/multiparty/ControllerKind;" } : Jvm.MethodName) method_2_code (1 : Nat) (Option.some (Jvm.ClassFile.FieldType.object "com/example/multiparty/multiparty/ControllerKind")), Jvm.Cond.code ({ cls := "com/example/multiparty/multiparty/ControllerKind", name := "sharesByTrust", desc := "()Z" } : Jvm.MethodName) prog_4_method_7_code (1 : Nat) (Option.some Jvm.ClassFile.FieldType.boolean)]
set_option maxRecDepth 65536 in
theorem codes_eq : words1.filter isCode = codes1 := rfl
theorem w_codes : ∀ c ∈ words1.filter isCode, c.before args0 about1 = true := by
  rw [codes_eq]
  intro c hc
  simp only [codes1, List.mem_cons, List.not_mem_nil, or_false] at hc
  rcases hc with rfl | rfl | rfl
  · exact w_c0
  · exact w_c1
  · exact w_c2
set_option maxRecDepth 65536 in
theorem w_t1 : words1.all (fun c => isCode c || c.before args0 about1) = true := by decide +kernel
theorem w_tables : (allAtoms (Jvm.Cond.code x code maxLocals ret :: tables_1)).before args0 about1 = true := by
  rw [allAtoms_all]
  show words1.all (fun c => c.before args0 about1) = true
  refine all_split ?_ w_codes
  rw [w_t1]
set_option maxRecDepth 65536 in
theorem w_case : (Jvm.Cond.and given_1 narrow_1).before args0 about1 = true := by decide +kernel
theorem w_applies : (headSpec (Jvm.Cond.code x code maxLocals ret :: tables_1) room_1).applies x e0.platform about1 = true :=
  (Spec.applies_iff w_frames).mpr ⟨w_running, w_runnable, w_alone, w_named, w_hears, w_ripe, w_room, w_tables⟩
theorem atStart : AtStart classFile x code maxLocals ret World_1 tables_1 room_1 Calls_1 rest_1 Pre_1 launch0 p0 e0 about1 theMethod args0 below0 :=
  ⟨lists_1, trivial, launch0.admits_env _ _ _, launch0.least_env, fairChoices_fair.cas, fairChoices_fair.clock, w_frames, w_args, w_heap, w_applies, trivial, trivial, w_case⟩
end start1
theorem witness_1 : WitnessClaimed_1 := ⟨start1.p0, start1.e0, start1.about1, start1.theMethod, start1.args0, start1.below0, start1.atStart⟩
end Jvm.Pilot.@@N@@
