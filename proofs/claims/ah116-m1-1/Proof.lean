import JvmDerived
import JvmDerived.Pilot.@@N@@Statement
import JvmDerived.Pilot.@@N@@Code
set_option linter.unusedVariables false
set_option linter.unusedSimpArgs false

namespace Jvm.OwnKit
open Sem ClassFile Op Lib Jvm.Stand Jvm.Free Jvm.LawKit Jvm.RoadKit
section Own
variable {p : Program} {l : Launch} {e : Env} {R : Room} {s : State} {m : MethodId} {args : Array Value} {below : List Frame} {meth : Method} {c : Code} {T : State} {locs : List Loc} {cells slots : Nat} {Q : Option Value → Heap → List Loc → Prop} {C S : Nat}
/-- what a body owes from a state on -/
def Fin (p : Program) (e : Env) (below : List Frame) (s : State) (Q : Option Value → Heap → List Loc → Prop) (C S : Nat) (st : State) : Prop :=
  ∃ s₂ o, Steps p.tables e below st s₂ ∧ s₂.status = .running ∧ Ended s₂ below o ∧ ∃ v L, o = .returned v ∧ Q v s₂.heap L ∧ FrameEnd s o s₂ L C S
theorem Fin.step {st st' : State} (h : ∀ t, Steps p.tables e below st' t → Steps p.tables e below st t) (k : Fin p e below s Q C S st') : Fin p e below s Q C S st := by
  obtain ⟨s₂, o, h1, h2⟩ := k
  exact ⟨s₂, o, h _ h1, h2⟩
theorem Fin.ret (X : Stand p l e R s m args below meth c T locs cells slots) {v : Option Value} {g : JFrame} (hv : meth.sig.returnType = none → v = none) (hlocks : meth.locks = false)
    (hst : ∀ fs, (∀ (f : JFrame) (acts : List Action), f.method = m → f.locked = none → f.entered = [] → (doReturn e (T.setTop f) acts v).1 = T.setFrames fs) → Steps p.tables e below (T.setTop g) (T.setFrames fs))
    (hC : cells ≤ C) (hS : slots ≤ S) (q : Q v T.heap locs) : Fin p e below s Q C S (T.setTop g) := by
  obtain ⟨fs, hr, hrun, hended, hW, hsame⟩ := X.leave (v := v) hv hlocks
  exact ⟨_, _, hst fs hr, hrun, hended, _, _, rfl, q, ⟨_, rfl⟩, hW, hsame.mono hC hS⟩
theorem Fin.retI (X : Stand p l e R s m args below meth c T locs cells slots) (hx : p.tables.exec = Jvm.exec) {pc : Nat} {Ls : Array Slot} {z : Int32} {rest : List Value} (hret : meth.sig.returnType = some .int) (hlocks : meth.locks = false) (hd : decode c.code pc = .ok (.ireturn, 1))
    (hC : cells ≤ C) (hS : slots ≤ S) (q : Q (some (.int z)) T.heap locs) : Fin p e below s Q C S (T.setTop (mkF m pc Ls (.int z :: rest))) :=
  Fin.ret X (fun h => by rw [hret] at h; cases h) hlocks (fun fs hl => retOut X hx hret rfl (Or.inl ⟨rfl, Or.inl rfl, z, rfl⟩) hd hl) hC hS q
theorem Fin.retJ (X : Stand p l e R s m args below meth c T locs cells slots) (hx : p.tables.exec = Jvm.exec) {pc : Nat} {Ls : Array Slot} {z : Int64} {rest : List Value} (hret : meth.sig.returnType = some .long) (hlocks : meth.locks = false) (hd : decode c.code pc = .ok (.lreturn, 1))
    (hC : cells ≤ C) (hS : slots ≤ S) (q : Q (some (.long z)) T.heap locs) : Fin p e below s Q C S (T.setTop (mkF m pc Ls (.long z :: rest))) :=
  Fin.ret X (fun h => by rw [hret] at h; cases h) hlocks (fun fs hl => retOut X hx hret rfl (Or.inr (Or.inl ⟨rfl, rfl, z, rfl⟩)) hd hl) hC hS q
theorem Fin.retD (X : Stand p l e R s m args below meth c T locs cells slots) (hx : p.tables.exec = Jvm.exec) {pc : Nat} {Ls : Array Slot} {z : UInt64} {rest : List Value} (hret : meth.sig.returnType = some .double) (hlocks : meth.locks = false) (hd : decode c.code pc = .ok (.dreturn, 1))
    (hC : cells ≤ C) (hS : slots ≤ S) (q : Q (some (.double z)) T.heap locs) : Fin p e below s Q C S (T.setTop (mkF m pc Ls (.double z :: rest))) :=
  Fin.ret X (fun h => by rw [hret] at h; cases h) hlocks (fun fs hl => retOut X hx hret rfl (Or.inr (Or.inr (Or.inl ⟨rfl, rfl, z, rfl⟩))) hd hl) hC hS q
theorem Fin.retR (X : Stand p l e R s m args below meth c T locs cells slots) (hx : p.tables.exec = Jvm.exec) {pc : Nat} {Ls : Array Slot} {w : Value} {t : FieldType} {rest : List Value} (hret : meth.sig.returnType = some t) (ht : t.isReference = true) (hw : w.isRef = true) (hlocks : meth.locks = false) (hd : decode c.code pc = .ok (.areturn, 1))
    (hC : cells ≤ C) (hS : slots ≤ S) (q : Q (some w) T.heap locs) : Fin p e below s Q C S (T.setTop (mkF m pc Ls (w :: rest))) :=
  Fin.ret X (fun h => by rw [hret] at h; cases h) hlocks (fun fs hl => retOut X hx hret (by cases t <;> simp [FieldType.isReference] at ht <;> cases w <;> simp [Value.isRef] at hw <;> rfl) (Or.inr (Or.inr (Or.inr (Or.inr ⟨rfl, ht, hw⟩)))) hd hl) hC hS q
theorem Fin.retN (X : Stand p l e R s m args below meth c T locs cells slots) (hx : p.tables.exec = Jvm.exec) {pc : Nat} {Ls : Array Slot} {z : Int32} {t : FieldType} {rest : List Value} (hret : meth.sig.returnType = some t) (ht : t = .boolean ∨ t = .byte ∨ t = .char ∨ t = .short) (hlocks : meth.locks = false) (hd : decode c.code pc = .ok (.ireturn, 1))
    (hC : cells ≤ C) (hS : slots ≤ S) (q : Q (some (.int (nar t z))) T.heap locs) : Fin p e below s Q C S (T.setTop (mkF m pc Ls (.int z :: rest))) :=
  Fin.ret X (fun h => by rw [hret] at h; cases h) hlocks (fun fs hl => RoadKit.retN X hx hret ht hd hl) hC hS q
theorem Fin.retV (X : Stand p l e R s m args below meth c T locs cells slots) (hx : p.tables.exec = Jvm.exec) {pc : Nat} {Ls : Array Slot} (hret : meth.sig.returnType = none) (hlocks : meth.locks = false) (hd : decode c.code pc = .ok (.return_, 1))
    (hC : cells ≤ C) (hS : slots ≤ S) (q : Q none T.heap locs) : Fin p e below s Q C S (T.setTop (mkF m pc Ls [])) :=
  Fin.ret X (fun _ => rfl) hlocks (fun fs hl => X.returnOut hx hret hd hl) hC hS q
/-- the same where the walk may intern: the end's frame is ReturnedEndW -/
def FinW (p : Program) (e : Env) (below : List Frame) (s : State) (Q : Option Value → Heap → List Loc → Prop) (C S : Nat) (st : State) : Prop :=
  ∃ s₂ o, Steps p.tables e below st s₂ ∧ s₂.status = .running ∧ Ended s₂ below o ∧ ∃ v L, o = .returned v ∧ Q v s₂.heap L ∧ ReturnedEndW s o s₂ L C S
theorem FinW.step {st st' : State} (h : ∀ t, Steps p.tables e below st' t → Steps p.tables e below st t) (k : FinW p e below s Q C S st') : FinW p e below s Q C S st := by
  obtain ⟨s₂, o, h1, h2⟩ := k
  exact ⟨s₂, o, h _ h1, h2⟩
theorem FinW.ret {vm₁ : Vm} (X : Stand p l e R (s.setVm vm₁) m args below meth c T locs cells slots) {n : Nat} (hS : s.Since vm₁ n) (hn : n ≤ T.heap.size) {v : Option Value} {g : JFrame} (hv : meth.sig.returnType = none → v = none) (hlocks : meth.locks = false)
    (hst : ∀ fs, (∀ (f : JFrame) (acts : List Action), f.method = m → f.locked = none → f.entered = [] → (doReturn e (T.setTop f) acts v).1 = T.setFrames fs) → Steps p.tables e below (T.setTop g) (T.setFrames fs))
    (hC : cells ≤ C) (hS' : slots ≤ S) (q : Q v T.heap locs) : FinW p e below s Q C S (T.setTop g) := by
  obtain ⟨fs, hr, hrun, hended, hW⟩ := X.leaveW hS hn (v := v) hv hlocks
  exact ⟨_, _, hst fs hr, hrun, hended, _, _, rfl, q, hW.1, hW.2.1, hW.2.2.1, hW.2.2.2.mono hC hS'⟩
theorem FinW.retN {vm₁ : Vm} (X : Stand p l e R (s.setVm vm₁) m args below meth c T locs cells slots) {n : Nat} (hS : s.Since vm₁ n) (hn : n ≤ T.heap.size) (hx : p.tables.exec = Jvm.exec) {pc : Nat} {Ls : Array Slot} {z : Int32} {t : FieldType} {rest : List Value} (hret : meth.sig.returnType = some t) (ht : t = .boolean ∨ t = .byte ∨ t = .char ∨ t = .short) (hlocks : meth.locks = false) (hd : decode c.code pc = .ok (.ireturn, 1))
    (hC : cells ≤ C) (hS' : slots ≤ S) (q : Q (some (.int (nar t z))) T.heap locs) : FinW p e below s Q C S (T.setTop (mkF m pc Ls (.int z :: rest))) :=
  FinW.ret X hS hn (fun h => by rw [hret] at h; cases h) hlocks (fun fs hl => RoadKit.retN X hx hret ht hd hl) hC hS' q
theorem FinW.retR {vm₁ : Vm} (X : Stand p l e R (s.setVm vm₁) m args below meth c T locs cells slots) {n : Nat} (hS : s.Since vm₁ n) (hn : n ≤ T.heap.size) (hx : p.tables.exec = Jvm.exec) {pc : Nat} {Ls : Array Slot} {w : Value} {t : FieldType} {rest : List Value} (hret : meth.sig.returnType = some t) (ht : t.isReference = true) (hw : w.isRef = true) (hlocks : meth.locks = false) (hd : decode c.code pc = .ok (.areturn, 1))
    (hC : cells ≤ C) (hS' : slots ≤ S) (q : Q (some w) T.heap locs) : FinW p e below s Q C S (T.setTop (mkF m pc Ls (w :: rest))) :=
  FinW.ret X hS hn (fun h => by rw [hret] at h; cases h) hlocks (fun fs hl => retOut X hx hret (by cases t <;> simp [FieldType.isReference] at ht <;> cases w <;> simp [Value.isRef] at hw <;> rfl) (Or.inr (Or.inr (Or.inr (Or.inr ⟨rfl, ht, hw⟩)))) hd hl) hC hS' q
theorem Fld.cast {Z : State} {h : Heap} {a : Addr} {C n d : String} {v w : Value} (F : Fld Z h a C n d v) (e : v = w) : Fld Z h a C n d w := e ▸ F
theorem Sta_keep {Z : State} {h h' : Heap} {C n d : String} {v : Value} (F : Sta Z h C n d v) (K : Keep h h' []) : Sta Z h' C n d v := by
  obtain ⟨cf, i, k, f, st, cell, h1, h2, h3, h4, h5, r⟩ := F
  exact ⟨cf, i, k, f, st, cell, h1, h2, h3, h4, K.2.1 _ _ h5 nin0, r⟩
theorem Arr_keep {Z : State} {h h' : Heap} {a : Addr} {c : Cell} {ty : FieldType} (F : Arr Z h a c ty) (K : Keep h h' []) : Arr Z h' a c ty := ⟨K.2.1 _ _ F.1 nin0, F.2⟩
/-- the shifts without sign -/
def ushL (x : Int64) (k : Int32) : Int64 := (x.toUInt64 >>> (k &&& 0x3f).toInt64.toUInt64).toInt64
def ushI (x k : Int32) : Int32 := (x.toUInt32 >>> (k &&& 31).toUInt32).toInt32
theorem lcE {x y : Int64} (h : x = y) : lcmpW x y = 0 := by rw [lcW]; exact (lc_eq x y).mpr h
theorem lcNE {x y : Int64} (h : ¬ x = y) : ¬ lcmpW x y = 0 := fun q => h ((lc_eq x y).mp (by rw [← lcW]; exact q))
theorem lcL {x y : Int64} (h : x < y) : lcmpW x y < 0 := by rw [lcW]; exact (lc_lt x y).mpr h
theorem lcNL {x y : Int64} (h : ¬ x < y) : ¬ lcmpW x y < 0 := fun q => h ((lc_lt x y).mp (by rw [← lcW]; exact q))
theorem lcG {x y : Int64} (h : y < x) : 0 < lcmpW x y := by rw [lcW]; exact (lc_gt x y).mpr h
theorem lcNG {x y : Int64} (h : ¬ y < x) : ¬ 0 < lcmpW x y := fun q => h ((lc_gt x y).mp (by rw [← lcW]; exact q))
end Own
end Jvm.OwnKit
namespace Jvm.Pilot.@@N@@
open Jvm Jvm.ClassFile Sem Op Lib Jvm.Free Jvm.Stand Jvm.LawKit Jvm.RoadKit Jvm.OwnKit Bundle Jvm.Pilot.@@N@@.Jvm.D
theorem d1_0 : decode prog_22_method_1_code 0 = .ok (.aload_n 0, 1) := by decide +kernel
theorem d1_1 : decode prog_22_method_1_code 1 = .ok (.invokespecial 1, 3) := by decide +kernel
theorem d1_4 : decode prog_22_method_1_code 4 = .ok (.aload_n 0, 1) := by decide +kernel
theorem d1_5 : decode prog_22_method_1_code 5 = .ok (.lload_n 1, 1) := by decide +kernel
theorem d1_6 : decode prog_22_method_1_code 6 = .ok (.putfield 7, 3) := by decide +kernel
theorem d1_9 : decode prog_22_method_1_code 9 = .ok (.aload_n 0, 1) := by decide +kernel
theorem d1_10 : decode prog_22_method_1_code 10 = .ok (.lload_n 3, 1) := by decide +kernel
theorem d1_11 : decode prog_22_method_1_code 11 = .ok (.putfield 13, 3) := by decide +kernel
theorem d1_14 : decode prog_22_method_1_code 14 = .ok (.return_, 1) := by decide +kernel
theorem pn_1 : plainName "com/example/model_for_reads/modelforreads/store/FetchStats" = true := by first | (simp [plainName, overriddenIn]; done) | decide +kernel
theorem ef_rm1 (m : MethodId) (x0 : Addr) (x1 : Int64) (x2 : Int64) : entryFrame m #[(.ref x0), (.long x1), (.long x2)] 5 = mkF m 0 #[.val (.ref x0), .val (.long x1), .second, .val (.long x2), .second] [] := by first | (simp [entryFrame, mkF, argsToLocals, Value.category]; done) | rfl
def Q1 (Z : State) (a1 : Addr) (q2 : Int64) (q3 : Int64) (u1 : Value) (u2 : Value) (h0 : Heap) (n0 : Nat) (v : Option Value) (h : Heap) (L : List Loc) : Prop := v = none ∧ Fr n0 L ∧ Keep h0 h [a1] ∧ Fld Z h a1 "com/example/model_for_reads/modelforreads/store/FetchStats" "entries" "J" (.long q2) ∧ Fld Z h a1 "com/example/model_for_reads/modelforreads/store/FetchStats" "bytes" "J" (.long q3)
set_option maxRecDepth 65536 in
set_option maxHeartbeats 40000000 in
theorem rm1 (l : Launch) (Z : State) (a0 : Array Value) (hw : ∀ d ∈ tables_1, d.before a0 Z = true) (ws : List Jvm.Cond) (a1 : Addr) (q2 : Int64) (q3 : Int64) (u1 : Value) (u2 : Value) (h0 : Heap) (n0 : Nat) (Z0 : n0 ≤ h0.size) (HE_a1 : Exa Z h0 a1 "com/example/model_for_reads/modelforreads/store/FetchStats") (HF_a1_entries : Fld Z h0 a1 "com/example/model_for_reads/modelforreads/store/FetchStats" "entries" "J" u1) (HF_a1_bytes : Fld Z h0 a1 "com/example/model_for_reads/modelforreads/store/FetchStats" "bytes" "J" u2) (g_a1 : n0 ≤ a1) :
    MetFree l (⟨"com/example/model_for_reads/modelforreads/store/FetchStats", "<init>", "(JJ)V"⟩ : MethodName) (head1 (Jvm.Cond.code (⟨"com/example/model_for_reads/modelforreads/store/FetchStats", "<init>", "(JJ)V"⟩ : MethodName) prog_22_method_1_code 5 none :: ws) ({ frames := 1, cells := 0, slots := 0, locals := 12 } : Room)) (fun a U => a = #[(.ref a1), (.long q2), (.long q3)] ∧ Z.Warmed39 U.vm ∧ U.heap = h0) (fun _ _ _ _ _ => True) (fun _ U o U' => ∃ v L, o = .returned v ∧ Q1 Z a1 q2 q3 u1 u2 h0 n0 v U'.heap L ∧ FrameEnd U o U' L ({ frames := 1, cells := 0, slots := 0, locals := 12 } : Room).cells ({ frames := 1, cells := 0, slots := 0, locals := 12 } : Room).slots) := by
  refine MetFree.of_bodySF (plainFor_of_name pn_1) hisR ?_
  intro p e s m args below meth c s₁ Bd hml0 hP hK
  obtain ⟨rfl, hZ, hh⟩ := hP
  have hx := Bd.exec
  have hby := Bd.bytes
  have hlk := BodyLoose.notSynchronized Bd
  have hret := Bd.returns
  have hml : c.maxLocals = 5 := hml0
  have hown : s.vm.findClass "com/example/model_for_reads/modelforreads/store/FetchStats" = some m.cls := findClass_of_methodNamed Bd.named
  have hnm := (name_of_methodNamed Bd.named Bd.method).1
  have X0 : Stand p l e ({ frames := 1, cells := 0, slots := 0, locals := 12 } : Room) s m #[(.ref a1), (.long q2), (.long q3)] below meth c s₁ [] 0 0 := Stand.of_body Bd
  have e0 : s₁.heap = h0 := by rw [← hh, Bd.state]; rfl
  have N0 := Fr.nil n0
  have K0 : Keep h0 h0 [a1] := Keep.refl h0 _
  refine Fin.step (Q := fun v h L => Q1 Z a1 q2 q3 u1 u2 h0 n0 v h L) (st' := s₁.setTop (mkF m 0 #[.val (.ref a1), .val (.long q2), .second, .val (.long q3), .second] [])) (fun t k => castTop (ef_rm1 m a1 q2 q3) k) ?_
  show Fin p e below s _ _ _ (s₁.setTop (mkF m 0 #[.val (.ref a1), .val (.long q2), .second, .val (.long q3), .second] []))
  refine Fin.step (fun _ => XS.aloadN X0.here hx rfl (hb hby d1_0) rfl rfl) ?_
  show Fin p e below s _ _ _ (s₁.setTop (mkF m 1 #[.val (.ref a1), .val (.long q2), .second, .val (.long q3), .second] [(.ref a1)]))
  obtain ⟨Ty1, Xy1, ey1, sty1⟩ := initO X0 hx hZ hown (hw _ (List.mem_of_getElem? (i := 6) rfl)) (hw _ (List.mem_of_getElem? (i := 7) rfl)) (hw _ (List.mem_of_getElem? (i := 8) rfl)) e0 (g := (mkF m 1 #[.val (.ref a1), .val (.long q2), .second, .val (.long q3), .second] [(.ref a1)])) rfl (by rw [hml]; rfl) rfl (hb hby d1_1) (by decide) (W := 0) (by show 2 * 0 + _ ≤ _; exact Nat.le_of_eq rfl) (by decide)
  refine Fin.step (sty1) ?_
  show Fin p e below s _ _ _ (Ty1.setTop (mkF m 4 #[.val (.ref a1), .val (.long q2), .second, .val (.long q3), .second] []))
  refine Fin.step (fun _ => XS.aloadN Xy1.here hx rfl (hb hby d1_4) rfl rfl) ?_
  show Fin p e below s _ _ _ (Ty1.setTop (mkF m 5 #[.val (.ref a1), .val (.long q2), .second, .val (.long q3), .second] [(.ref a1)]))
  refine Fin.step (fun _ => XS.lloadN Xy1.here hx rfl (hb hby d1_5) rfl) ?_
  show Fin p e below s _ _ _ (Ty1.setTop (mkF m 6 #[.val (.ref a1), .val (.long q2), .second, .val (.long q3), .second] [(.long q2), (.ref a1)]))
  obtain ⟨Ty2, hy2, Xy2, ey2, Wy2, sty2⟩ := putF Xy1 hx hZ hown (host := "") (Or.inl (hw _ (List.mem_of_getElem? (i := 9) rfl))) Via.refl ey1 HF_a1_entries HE_a1 (Or.inr ⟨(hw _ (List.mem_of_getElem? (i := 10) rfl)), rfl, hnm⟩) (hw _ (List.mem_of_getElem? (i := 1) rfl)) (ty := .long) (by decide) rfl rfl (g := (mkF m 6 #[.val (.ref a1), .val (.long q2), .second, .val (.long q3), .second] [(.long q2), (.ref a1)])) rfl rfl (hb hby d1_6)
  have Fwy2 : Fld Z hy2 a1 "com/example/model_for_reads/modelforreads/store/FetchStats" "entries" "J" (.long q2) := HF_a1_entries.same Wy2
  have Zy2 : n0 ≤ hy2.size := Nat.le_trans Z0 (Keep.of_wr Wy2).1
  have Ky2 : Keep h0 hy2 [a1] := K0.wr Wy2 (Or.inl (List.mem_of_getElem? (i := 0) rfl))
  have Ny2 := Fr.snoc Xy2 N0 g_a1
  refine Fin.step (sty2) ?_
  show Fin p e below s _ _ _ (Ty2.setTop (mkF m 9 #[.val (.ref a1), .val (.long q2), .second, .val (.long q3), .second] []))
  refine Fin.step (fun _ => XS.aloadN Xy2.here hx rfl (hb hby d1_9) rfl rfl) ?_
  show Fin p e below s _ _ _ (Ty2.setTop (mkF m 10 #[.val (.ref a1), .val (.long q2), .second, .val (.long q3), .second] [(.ref a1)]))
  refine Fin.step (fun _ => XS.lloadN Xy2.here hx rfl (hb hby d1_10) rfl) ?_
  show Fin p e below s _ _ _ (Ty2.setTop (mkF m 11 #[.val (.ref a1), .val (.long q2), .second, .val (.long q3), .second] [(.long q3), (.ref a1)]))
  obtain ⟨Ty3, hy3, Xy3, ey3, Wy3, sty3⟩ := putF Xy2 hx hZ hown (host := "") (Or.inl (hw _ (List.mem_of_getElem? (i := 11) rfl))) Via.refl ey2 (HF_a1_bytes.other Wy2 (Or.inr (slot_ne (Or.inr (hw _ (List.mem_of_getElem? (i := 12) rfl))) (Or.inr (hw _ (List.mem_of_getElem? (i := 10) rfl))) (by decide) (t := .long) (t' := .long) (by decide) (by decide)))) (HE_a1.wr Wy2) (Or.inr ⟨(hw _ (List.mem_of_getElem? (i := 12) rfl)), rfl, hnm⟩) (hw _ (List.mem_of_getElem? (i := 1) rfl)) (ty := .long) (by decide) rfl rfl (g := (mkF m 11 #[.val (.ref a1), .val (.long q2), .second, .val (.long q3), .second] [(.long q3), (.ref a1)])) rfl rfl (hb hby d1_11)
  have Fwy3 : Fld Z hy3 a1 "com/example/model_for_reads/modelforreads/store/FetchStats" "bytes" "J" (.long q3) := (HF_a1_bytes.other Wy2 (Or.inr (slot_ne (Or.inr (hw _ (List.mem_of_getElem? (i := 12) rfl))) (Or.inr (hw _ (List.mem_of_getElem? (i := 10) rfl))) (by decide) (t := .long) (t' := .long) (by decide) (by decide)))).same Wy3
  have Zy3 : n0 ≤ hy3.size := Nat.le_trans Zy2 (Keep.of_wr Wy3).1
  have Ky3 : Keep h0 hy3 [a1] := Ky2.wr Wy3 (Or.inl (List.mem_of_getElem? (i := 0) rfl))
  have Ny3 := Fr.snoc Xy3 Ny2 g_a1
  refine Fin.step (sty3) ?_
  show Fin p e below s _ _ _ (Ty3.setTop (mkF m 14 #[.val (.ref a1), .val (.long q2), .second, .val (.long q3), .second] []))
  refine Fin.retV Xy3 hx hret hlk (hb hby d1_14) (by decide) (by decide) ?_
  show Q1 Z a1 q2 q3 u1 u2 h0 n0 _ Ty3.heap _
  rw [ey3]
  exact ⟨rfl, Ny3, Ky3, (Fwy2.other Wy3 (Or.inr (slot_ne (Or.inr (hw _ (List.mem_of_getElem? (i := 10) rfl))) (Or.inr (hw _ (List.mem_of_getElem? (i := 12) rfl))) (by decide) (t := .long) (t' := .long) (by decide) (by decide)))), Fwy3⟩
theorem d4_0 : decode prog_22_method_2_code 0 = .ok (.aload_n 0, 1) := by decide +kernel
theorem d4_1 : decode prog_22_method_2_code 1 = .ok (.getfield 7, 3) := by decide +kernel
theorem d4_4 : decode prog_22_method_2_code 4 = .ok (.lreturn, 1) := by decide +kernel
theorem pn_4 : plainName "com/example/model_for_reads/modelforreads/store/FetchStats" = true := by first | (simp [plainName, overriddenIn]; done) | decide +kernel
theorem ef_rm4 (m : MethodId) (x0 : Addr) : entryFrame m #[(.ref x0)] 1 = mkF m 0 #[.val (.ref x0)] [] := by first | (simp [entryFrame, mkF, argsToLocals, Value.category]; done) | rfl
def Q4 (Z : State) (a1 : Addr) (w : Int64) (h0 : Heap) (n0 : Nat) (v : Option Value) (h : Heap) (L : List Loc) : Prop := v = some (.long w) ∧ Fr n0 L ∧ h = h0
set_option maxRecDepth 65536 in
set_option maxHeartbeats 40000000 in
theorem rm4 (l : Launch) (Z : State) (a0 : Array Value) (hw : ∀ d ∈ tables_1, d.before a0 Z = true) (ws : List Jvm.Cond) (a1 : Addr) (w : Int64) (h0 : Heap) (n0 : Nat) (Z0 : n0 ≤ h0.size) (HF_a1_entries : Fld Z h0 a1 "com/example/model_for_reads/modelforreads/store/FetchStats" "entries" "J" (.long w)) :
    MetFree l (⟨"com/example/model_for_reads/modelforreads/store/FetchStats", "entries", "()J"⟩ : MethodName) (head1 (Jvm.Cond.code (⟨"com/example/model_for_reads/modelforreads/store/FetchStats", "entries", "()J"⟩ : MethodName) prog_22_method_2_code 1 (some .long) :: ws) ({ frames := 0, cells := 0, slots := 0, locals := 0 } : Room)) (fun a U => a = #[(.ref a1)] ∧ Z.Warmed39 U.vm ∧ U.heap = h0) (fun _ _ _ _ _ => True) (fun _ U o U' => ∃ v L, o = .returned v ∧ Q4 Z a1 w h0 n0 v U'.heap L ∧ FrameEnd U o U' L ({ frames := 0, cells := 0, slots := 0, locals := 0 } : Room).cells ({ frames := 0, cells := 0, slots := 0, locals := 0 } : Room).slots) := by
  refine MetFree.of_bodySF (plainFor_of_name pn_4) hisR ?_
  intro p e s m args below meth c s₁ Bd hml0 hP hK
  obtain ⟨rfl, hZ, hh⟩ := hP
  have hx := Bd.exec
  have hby := Bd.bytes
  have hlk := BodyLoose.notSynchronized Bd
  have hret := Bd.returns
  have hml : c.maxLocals = 1 := hml0
  have hown : s.vm.findClass "com/example/model_for_reads/modelforreads/store/FetchStats" = some m.cls := findClass_of_methodNamed Bd.named
  have hnm := (name_of_methodNamed Bd.named Bd.method).1
  have X0 : Stand p l e ({ frames := 0, cells := 0, slots := 0, locals := 0 } : Room) s m #[(.ref a1)] below meth c s₁ [] 0 0 := Stand.of_body Bd
  have e0 : s₁.heap = h0 := by rw [← hh, Bd.state]; rfl
  have N0 := Fr.nil n0
  have K0 : Keep h0 h0 [] := Keep.refl h0 _
  refine Fin.step (Q := fun v h L => Q4 Z a1 w h0 n0 v h L) (st' := s₁.setTop (mkF m 0 #[.val (.ref a1)] [])) (fun t k => castTop (ef_rm4 m a1) k) ?_
  show Fin p e below s _ _ _ (s₁.setTop (mkF m 0 #[.val (.ref a1)] []))
  refine Fin.step (fun _ => XS.aloadN X0.here hx rfl (hb hby d4_0) rfl rfl) ?_
  show Fin p e below s _ _ _ (s₁.setTop (mkF m 1 #[.val (.ref a1)] [(.ref a1)]))
  obtain ⟨Ty1, Xy1, ey1, sty1⟩ := getF X0 hx hZ hown (host := "") (Or.inl (hw _ (List.mem_of_getElem? (i := 9) rfl))) Via.refl e0 HF_a1_entries (g := (mkF m 1 #[.val (.ref a1)] [(.ref a1)])) rfl rfl (hb hby d4_1)
  refine Fin.step (sty1) ?_
  show Fin p e below s _ _ _ (Ty1.setTop (mkF m 4 #[.val (.ref a1)] [(.long w)]))
  refine Fin.retJ Xy1 hx hret hlk (hb hby d4_4) (by decide) (by decide) ?_
  show Q4 Z a1 w h0 n0 _ Ty1.heap _
  rw [ey1]
  exact ⟨rfl, N0, rfl⟩
theorem d5_0 : decode prog_22_method_3_code 0 = .ok (.aload_n 0, 1) := by decide +kernel
theorem d5_1 : decode prog_22_method_3_code 1 = .ok (.getfield 13, 3) := by decide +kernel
theorem d5_4 : decode prog_22_method_3_code 4 = .ok (.lreturn, 1) := by decide +kernel
theorem pn_5 : plainName "com/example/model_for_reads/modelforreads/store/FetchStats" = true := by first | (simp [plainName, overriddenIn]; done) | decide +kernel
theorem ef_rm5 (m : MethodId) (x0 : Addr) : entryFrame m #[(.ref x0)] 1 = mkF m 0 #[.val (.ref x0)] [] := by first | (simp [entryFrame, mkF, argsToLocals, Value.category]; done) | rfl
def Q5 (Z : State) (a1 : Addr) (w : Int64) (h0 : Heap) (n0 : Nat) (v : Option Value) (h : Heap) (L : List Loc) : Prop := v = some (.long w) ∧ Fr n0 L ∧ h = h0
set_option maxRecDepth 65536 in
set_option maxHeartbeats 40000000 in
theorem rm5 (l : Launch) (Z : State) (a0 : Array Value) (hw : ∀ d ∈ tables_1, d.before a0 Z = true) (ws : List Jvm.Cond) (a1 : Addr) (w : Int64) (h0 : Heap) (n0 : Nat) (Z0 : n0 ≤ h0.size) (HF_a1_bytes : Fld Z h0 a1 "com/example/model_for_reads/modelforreads/store/FetchStats" "bytes" "J" (.long w)) :
    MetFree l (⟨"com/example/model_for_reads/modelforreads/store/FetchStats", "bytes", "()J"⟩ : MethodName) (head1 (Jvm.Cond.code (⟨"com/example/model_for_reads/modelforreads/store/FetchStats", "bytes", "()J"⟩ : MethodName) prog_22_method_3_code 1 (some .long) :: ws) ({ frames := 0, cells := 0, slots := 0, locals := 0 } : Room)) (fun a U => a = #[(.ref a1)] ∧ Z.Warmed39 U.vm ∧ U.heap = h0) (fun _ _ _ _ _ => True) (fun _ U o U' => ∃ v L, o = .returned v ∧ Q5 Z a1 w h0 n0 v U'.heap L ∧ FrameEnd U o U' L ({ frames := 0, cells := 0, slots := 0, locals := 0 } : Room).cells ({ frames := 0, cells := 0, slots := 0, locals := 0 } : Room).slots) := by
  refine MetFree.of_bodySF (plainFor_of_name pn_5) hisR ?_
  intro p e s m args below meth c s₁ Bd hml0 hP hK
  obtain ⟨rfl, hZ, hh⟩ := hP
  have hx := Bd.exec
  have hby := Bd.bytes
  have hlk := BodyLoose.notSynchronized Bd
  have hret := Bd.returns
  have hml : c.maxLocals = 1 := hml0
  have hown : s.vm.findClass "com/example/model_for_reads/modelforreads/store/FetchStats" = some m.cls := findClass_of_methodNamed Bd.named
  have hnm := (name_of_methodNamed Bd.named Bd.method).1
  have X0 : Stand p l e ({ frames := 0, cells := 0, slots := 0, locals := 0 } : Room) s m #[(.ref a1)] below meth c s₁ [] 0 0 := Stand.of_body Bd
  have e0 : s₁.heap = h0 := by rw [← hh, Bd.state]; rfl
  have N0 := Fr.nil n0
  have K0 : Keep h0 h0 [] := Keep.refl h0 _
  refine Fin.step (Q := fun v h L => Q5 Z a1 w h0 n0 v h L) (st' := s₁.setTop (mkF m 0 #[.val (.ref a1)] [])) (fun t k => castTop (ef_rm5 m a1) k) ?_
  show Fin p e below s _ _ _ (s₁.setTop (mkF m 0 #[.val (.ref a1)] []))
  refine Fin.step (fun _ => XS.aloadN X0.here hx rfl (hb hby d5_0) rfl rfl) ?_
  show Fin p e below s _ _ _ (s₁.setTop (mkF m 1 #[.val (.ref a1)] [(.ref a1)]))
  obtain ⟨Ty1, Xy1, ey1, sty1⟩ := getF X0 hx hZ hown (host := "") (Or.inl (hw _ (List.mem_of_getElem? (i := 11) rfl))) Via.refl e0 HF_a1_bytes (g := (mkF m 1 #[.val (.ref a1)] [(.ref a1)])) rfl rfl (hb hby d5_1)
  refine Fin.step (sty1) ?_
  show Fin p e below s _ _ _ (Ty1.setTop (mkF m 4 #[.val (.ref a1)] [(.long w)]))
  refine Fin.retJ Xy1 hx hret hlk (hb hby d5_4) (by decide) (by decide) ?_
  show Q5 Z a1 w h0 n0 _ Ty1.heap _
  rw [ey1]
  exact ⟨rfl, N0, rfl⟩
theorem d3_0 : decode prog_22_method_4_code 0 = .ok (.new 8, 3) := by decide +kernel
theorem d3_3 : decode prog_22_method_4_code 3 = .ok (.dup, 1) := by decide +kernel
theorem d3_4 : decode prog_22_method_4_code 4 = .ok (.aload_n 0, 1) := by decide +kernel
theorem d3_5 : decode prog_22_method_4_code 5 = .ok (.getfield 7, 3) := by decide +kernel
theorem d3_8 : decode prog_22_method_4_code 8 = .ok (.aload_n 1, 1) := by decide +kernel
theorem d3_9 : decode prog_22_method_4_code 9 = .ok (.getfield 7, 3) := by decide +kernel
theorem d3_12 : decode prog_22_method_4_code 12 = .ok (.ladd, 1) := by decide +kernel
theorem d3_13 : decode prog_22_method_4_code 13 = .ok (.aload_n 0, 1) := by decide +kernel
theorem d3_14 : decode prog_22_method_4_code 14 = .ok (.getfield 13, 3) := by decide +kernel
theorem d3_17 : decode prog_22_method_4_code 17 = .ok (.aload_n 1, 1) := by decide +kernel
theorem d3_18 : decode prog_22_method_4_code 18 = .ok (.getfield 13, 3) := by decide +kernel
theorem d3_21 : decode prog_22_method_4_code 21 = .ok (.ladd, 1) := by decide +kernel
theorem d3_22 : decode prog_22_method_4_code 22 = .ok (.invokespecial 16, 3) := by decide +kernel
theorem d3_25 : decode prog_22_method_4_code 25 = .ok (.areturn, 1) := by decide +kernel
theorem pn_3 : plainName "com/example/model_for_reads/modelforreads/store/FetchStats" = true := by first | (simp [plainName, overriddenIn]; done) | decide +kernel
theorem pd_0 : parseMethodDescriptor "(JJ)V" = some ⟨[.long, .long], none⟩ := by decide +kernel
theorem ef_rm3 (m : MethodId) (x0 : Addr) (x1 : Addr) : entryFrame m #[(.ref x0), (.ref x1)] 2 = mkF m 0 #[.val (.ref x0), .val (.ref x1)] [] := by first | (simp [entryFrame, mkF, argsToLocals, Value.category]; done) | rfl
def Q3 (Z : State) (a1 : Addr) (a2 : Addr) (w1 : Int64) (w2 : Int64) (w3 : Int64) (w4 : Int64) (h0 : Heap) (n0 : Nat) (v : Option Value) (h : Heap) (L : List Loc) : Prop := ∃ b : Addr, v = some (.ref b) ∧ h0.size ≤ b ∧ Fr n0 L ∧ Keep h0 h [] ∧ Exa Z h b "com/example/model_for_reads/modelforreads/store/FetchStats" ∧ Fld Z h b "com/example/model_for_reads/modelforreads/store/FetchStats" "entries" "J" (.long (w1 + w3)) ∧ Fld Z h b "com/example/model_for_reads/modelforreads/store/FetchStats" "bytes" "J" (.long (w2 + w4))
set_option maxRecDepth 65536 in
set_option maxHeartbeats 40000000 in
theorem rm3 (l : Launch) (Z : State) (a0 : Array Value) (hw : ∀ d ∈ tables_1, d.before a0 Z = true) (ws : List Jvm.Cond) (a1 : Addr) (a2 : Addr) (w1 : Int64) (w2 : Int64) (w3 : Int64) (w4 : Int64) (h0 : Heap) (n0 : Nat) (Z0 : n0 ≤ h0.size) (HF_a1_entries : Fld Z h0 a1 "com/example/model_for_reads/modelforreads/store/FetchStats" "entries" "J" (.long w1)) (HF_a1_bytes : Fld Z h0 a1 "com/example/model_for_reads/modelforreads/store/FetchStats" "bytes" "J" (.long w2)) (HF_a2_entries : Fld Z h0 a2 "com/example/model_for_reads/modelforreads/store/FetchStats" "entries" "J" (.long w3)) (HF_a2_bytes : Fld Z h0 a2 "com/example/model_for_reads/modelforreads/store/FetchStats" "bytes" "J" (.long w4)) :
    MetFree l (⟨"com/example/model_for_reads/modelforreads/store/FetchStats", "plus", "(Lcom/example/model_for_reads/modelforreads/store/FetchStats;)Lcom/example/model_for_reads/modelforreads/store/FetchStats;"⟩ : MethodName) (head1 (Jvm.Cond.code (⟨"com/example/model_for_reads/modelforreads/store/FetchStats", "plus", "(Lcom/example/model_for_reads/modelforreads/store/FetchStats;)Lcom/example/model_for_reads/modelforreads/store/FetchStats;"⟩ : MethodName) prog_22_method_4_code 2 (some (.object "com/example/model_for_reads/modelforreads/store/FetchStats")) :: ws) ({ frames := 2, cells := 1, slots := 2, locals := 29 } : Room)) (fun a U => a = #[(.ref a1), (.ref a2)] ∧ Z.Warmed39 U.vm ∧ U.heap = h0) (fun _ _ _ _ _ => True) (fun _ U o U' => ∃ v L, o = .returned v ∧ Q3 Z a1 a2 w1 w2 w3 w4 h0 n0 v U'.heap L ∧ FrameEnd U o U' L ({ frames := 2, cells := 1, slots := 2, locals := 29 } : Room).cells ({ frames := 2, cells := 1, slots := 2, locals := 29 } : Room).slots) := by
  refine MetFree.of_bodySF (plainFor_of_name pn_3) hisR ?_
  intro p e s m args below meth c s₁ Bd hml0 hP hK
  obtain ⟨rfl, hZ, hh⟩ := hP
  have hx := Bd.exec
  have hby := Bd.bytes
  have hlk := BodyLoose.notSynchronized Bd
  have hret := Bd.returns
  have hml : c.maxLocals = 2 := hml0
  have hown : s.vm.findClass "com/example/model_for_reads/modelforreads/store/FetchStats" = some m.cls := findClass_of_methodNamed Bd.named
  have hnm := (name_of_methodNamed Bd.named Bd.method).1
  have X0 : Stand p l e ({ frames := 2, cells := 1, slots := 2, locals := 29 } : Room) s m #[(.ref a1), (.ref a2)] below meth c s₁ [] 0 0 := Stand.of_body Bd
  have e0 : s₁.heap = h0 := by rw [← hh, Bd.state]; rfl
  have N0 := Fr.nil n0
  have K0 : Keep h0 h0 [] := Keep.refl h0 _
  refine Fin.step (Q := fun v h L => Q3 Z a1 a2 w1 w2 w3 w4 h0 n0 v h L) (st' := s₁.setTop (mkF m 0 #[.val (.ref a1), .val (.ref a2)] [])) (fun t k => castTop (ef_rm3 m a1 a2) k) ?_
  show Fin p e below s _ _ _ (s₁.setTop (mkF m 0 #[.val (.ref a1), .val (.ref a2)] []))
  obtain ⟨Ty1, hy1, Xy1, ey1, Ey1, Ay1, Dy1, -, sty1⟩ := newO X0 hx hZ hown (hw _ (List.mem_of_getElem? (i := 18) rfl)) (hw _ (List.mem_of_getElem? (i := 1) rfl)) (hw _ (List.mem_of_getElem? (i := 2) rfl)) e0 (g := (mkF m 0 #[.val (.ref a1), .val (.ref a2)] [])) rfl (hb hby d3_0) (by decide) (by decide)
  obtain ⟨by1, gy1⟩ : ∃ z, z = h0.size := ⟨_, rfl⟩
  rw [← gy1] at Ay1 Dy1 sty1
  have gzy1 : n0 ≤ by1 := Nat.le_trans Z0 (Nat.le_of_eq gy1.symm)
  have szy1 : h0.size ≤ by1 := Nat.le_trans K0.1 (Nat.le_of_eq gy1.symm)
  have Zy1 : n0 ≤ hy1.size := Nat.le_trans Z0 Ey1.1
  have Ky1 : Keep h0 hy1 [] := K0.ext Ey1
  have F_entries_by1 : Fld Z hy1 by1 "com/example/model_for_reads/modelforreads/store/FetchStats" "entries" "J" (.long (0 : Int64)) := Dy1 (Or.inr (hw _ (List.mem_of_getElem? (i := 10) rfl))) (ty := .long) (by decide)
  have F_bytes_by1 : Fld Z hy1 by1 "com/example/model_for_reads/modelforreads/store/FetchStats" "bytes" "J" (.long (0 : Int64)) := Dy1 (Or.inr (hw _ (List.mem_of_getElem? (i := 12) rfl))) (ty := .long) (by decide)
  refine Fin.step (sty1) ?_
  show Fin p e below s _ _ _ (Ty1.setTop (mkF m 3 #[.val (.ref a1), .val (.ref a2)] [(.ref by1)]))
  refine Fin.step (fun _ => XS.dup Xy1.here hx rfl (hb hby d3_3) rfl rfl) ?_
  show Fin p e below s _ _ _ (Ty1.setTop (mkF m 4 #[.val (.ref a1), .val (.ref a2)] [(.ref by1), (.ref by1)]))
  refine Fin.step (fun _ => XS.aloadN Xy1.here hx rfl (hb hby d3_4) rfl rfl) ?_
  show Fin p e below s _ _ _ (Ty1.setTop (mkF m 5 #[.val (.ref a1), .val (.ref a2)] [(.ref a1), (.ref by1), (.ref by1)]))
  obtain ⟨Ty2, Xy2, ey2, sty2⟩ := getF Xy1 hx hZ hown (host := "") (Or.inl (hw _ (List.mem_of_getElem? (i := 9) rfl))) Via.refl ey1 (HF_a1_entries.ext Ey1) (g := (mkF m 5 #[.val (.ref a1), .val (.ref a2)] [(.ref a1), (.ref by1), (.ref by1)])) rfl rfl (hb hby d3_5)
  refine Fin.step (sty2) ?_
  show Fin p e below s _ _ _ (Ty2.setTop (mkF m 8 #[.val (.ref a1), .val (.ref a2)] [(.long w1), (.ref by1), (.ref by1)]))
  refine Fin.step (fun _ => XS.aloadN Xy2.here hx rfl (hb hby d3_8) rfl rfl) ?_
  show Fin p e below s _ _ _ (Ty2.setTop (mkF m 9 #[.val (.ref a1), .val (.ref a2)] [(.ref a2), (.long w1), (.ref by1), (.ref by1)]))
  obtain ⟨Ty3, Xy3, ey3, sty3⟩ := getF Xy2 hx hZ hown (host := "") (Or.inl (hw _ (List.mem_of_getElem? (i := 9) rfl))) Via.refl ey2 (HF_a2_entries.ext Ey1) (g := (mkF m 9 #[.val (.ref a1), .val (.ref a2)] [(.ref a2), (.long w1), (.ref by1), (.ref by1)])) rfl rfl (hb hby d3_9)
  refine Fin.step (sty3) ?_
  show Fin p e below s _ _ _ (Ty3.setTop (mkF m 12 #[.val (.ref a1), .val (.ref a2)] [(.long w3), (.long w1), (.ref by1), (.ref by1)]))
  refine Fin.step (fun _ => XS.ladd Xy3.here hx rfl (hb hby d3_12) rfl) ?_
  show Fin p e below s _ _ _ (Ty3.setTop (mkF m 13 #[.val (.ref a1), .val (.ref a2)] [(.long (w1 + w3)), (.ref by1), (.ref by1)]))
  refine Fin.step (fun _ => XS.aloadN Xy3.here hx rfl (hb hby d3_13) rfl rfl) ?_
  show Fin p e below s _ _ _ (Ty3.setTop (mkF m 14 #[.val (.ref a1), .val (.ref a2)] [(.ref a1), (.long (w1 + w3)), (.ref by1), (.ref by1)]))
  obtain ⟨Ty4, Xy4, ey4, sty4⟩ := getF Xy3 hx hZ hown (host := "") (Or.inl (hw _ (List.mem_of_getElem? (i := 11) rfl))) Via.refl ey3 (HF_a1_bytes.ext Ey1) (g := (mkF m 14 #[.val (.ref a1), .val (.ref a2)] [(.ref a1), (.long (w1 + w3)), (.ref by1), (.ref by1)])) rfl rfl (hb hby d3_14)
  refine Fin.step (sty4) ?_
  show Fin p e below s _ _ _ (Ty4.setTop (mkF m 17 #[.val (.ref a1), .val (.ref a2)] [(.long w2), (.long (w1 + w3)), (.ref by1), (.ref by1)]))
  refine Fin.step (fun _ => XS.aloadN Xy4.here hx rfl (hb hby d3_17) rfl rfl) ?_
  show Fin p e below s _ _ _ (Ty4.setTop (mkF m 18 #[.val (.ref a1), .val (.ref a2)] [(.ref a2), (.long w2), (.long (w1 + w3)), (.ref by1), (.ref by1)]))
  obtain ⟨Ty5, Xy5, ey5, sty5⟩ := getF Xy4 hx hZ hown (host := "") (Or.inl (hw _ (List.mem_of_getElem? (i := 11) rfl))) Via.refl ey4 (HF_a2_bytes.ext Ey1) (g := (mkF m 18 #[.val (.ref a1), .val (.ref a2)] [(.ref a2), (.long w2), (.long (w1 + w3)), (.ref by1), (.ref by1)])) rfl rfl (hb hby d3_18)
  refine Fin.step (sty5) ?_
  show Fin p e below s _ _ _ (Ty5.setTop (mkF m 21 #[.val (.ref a1), .val (.ref a2)] [(.long w4), (.long w2), (.long (w1 + w3)), (.ref by1), (.ref by1)]))
  refine Fin.step (fun _ => XS.ladd Xy5.here hx rfl (hb hby d3_21) rfl) ?_
  show Fin p e below s _ _ _ (Ty5.setTop (mkF m 22 #[.val (.ref a1), .val (.ref a2)] [(.long (w2 + w4)), (.long (w1 + w3)), (.ref by1), (.ref by1)]))
  obtain ⟨_, _, ⟨Ty6, Ly6, ky6, ny6⟩, -, Xy6, ⟨Lcy6, hQy6, ly6, yy6, zy6⟩, sty6⟩ := Xy5.specialBack hx (y := (⟨"com/example/model_for_reads/modelforreads/store/FetchStats", "<init>", "(JJ)V"⟩ : MethodName)) rfl hown (mvT hZ (hw _ (List.mem_of_getElem? (i := 19) rfl))) (mvT hZ (hw _ (List.mem_of_getElem? (i := 4) rfl))) (mvT hZ (hw _ (List.mem_of_getElem? (i := 5) rfl))) (by decide) (backOf (W := 1) (rm1 l Z a0 hw [] by1 (w1 + w3) (w2 + w4) (.long (0 : Int64)) (.long (0 : Int64)) hy1 n0 Zy1 Ay1 F_entries_by1 F_bytes_by1 gzy1) hZ (hw _ (List.mem_of_getElem? (i := 5) rfl)) (hw _ (List.mem_of_getElem? (i := 2) rfl)) (by decide) (by decide)) (g := (mkF m 22 #[.val (.ref a1), .val (.ref a2)] [(.long (w2 + w4)), (.long (w1 + w3)), (.ref by1), (.ref by1)])) rfl (by rw [hml]; rfl) (Steps.refl _) (a := by1) (argsL := [(.long (w1 + w3)), (.long (w2 + w4))]) (rest := [(.ref by1)]) (lenOf pd_0 rfl) rfl (by show 2 * 0 + _ ≤ _; exact Nat.le_of_eq rfl) (hb hby d3_22) (fun _ _ => ⟨rfl, ey5, (by decide : 1 + 0 ≤ _), (by decide : 2 + 0 ≤ _)⟩)
  dsimp only [Pt.U, Pt.locs, Pt.cells, Pt.slots] at Xy6 ly6 yy6 zy6 sty6 hQy6
  subst ly6 yy6 zy6
  obtain ⟨rfl, Nqy6, Kcy6, fy6_0, fy6_1⟩ := hQy6
  have Ny6 := Fr.app N0 Nqy6
  have Zy6 : n0 ≤ Ty6.heap.size := Nat.le_trans Zy1 Kcy6.1
  have Ky6 : Keep h0 Ty6.heap [] := Ky1.trans Kcy6 (allS (Or.inr szy1) all0)
  refine Fin.step (fun _ k => sty6.trans k) ?_
  show Fin p e below s _ _ _ (Ty6.setTop (mkF m 25 #[.val (.ref a1), .val (.ref a2)] [(.ref by1)]))
  refine Fin.retR Xy6 hx hret rfl rfl hlk (hb hby d3_25) (by decide) (by decide) ?_
  show Q3 Z a1 a2 w1 w2 w3 w4 h0 n0 _ Ty6.heap _
  exact ⟨by1, rfl, szy1, Ny6, Ky6, (Ay1.keep Kcy6), fy6_0, fy6_1⟩
theorem pn_0 : plainName "com/example/model_for_reads/modelforreads/store/FetchStatsPlusPinLaw" = true := by first | (simp [plainName, overriddenIn]; done) | decide +kernel
theorem pd_1 : parseMethodDescriptor "(Lcom/example/model_for_reads/modelforreads/store/FetchStats;)Lcom/example/model_for_reads/modelforreads/store/FetchStats;" = some ⟨[(.object "com/example/model_for_reads/modelforreads/store/FetchStats")], some (.object "com/example/model_for_reads/modelforreads/store/FetchStats")⟩ := by decide +kernel
theorem pd_2 : parseMethodDescriptor "()J" = some ⟨[], some .long⟩ := by decide +kernel
theorem ef_rm0 (m : MethodId) (x0 : Int64) (x1 : Int64) (x2 : Int64) (x3 : Int64) : entryFrame m #[(.long x0), (.long x1), (.long x2), (.long x3)] maxLocals = mkF m 0 #[.val (.long x0), .second, .val (.long x1), .second, .val (.long x2), .second, .val (.long x3), .second, .unset, .unset, .unset, .unset, .unset] [] := by first | (simp [entryFrame, mkF, argsToLocals, Value.category, maxLocals]; done) | rfl
def Q0 (Z : State) (qe : Int64) (qb : Int64) (qf : Int64) (qc : Int64) (h0 : Heap) (n0 : Nat) (v : Option Value) (h : Heap) (L : List Loc) : Prop := v = some (.int (1 : Int32)) ∧ Fr n0 L ∧ Keep h0 h []
set_option maxRecDepth 65536 in
set_option maxHeartbeats 40000000 in
theorem rm0 (l : Launch) (Z : State) (a0 : Array Value) (hw : ∀ d ∈ tables_1, d.before a0 Z = true) (ws : List Jvm.Cond) (qe : Int64) (qb : Int64) (qf : Int64) (qc : Int64) (h0 : Heap) (n0 : Nat) (Z0 : n0 ≤ h0.size) :
    MetFree l x (head1 (Jvm.Cond.code x code maxLocals ret :: ws) room_1) (fun a U => a = #[(.long qe), (.long qb), (.long qf), (.long qc)] ∧ Z.Warmed39 U.vm ∧ U.heap = h0) (fun _ _ _ _ _ => True) (fun _ U o U' => ∃ v L, o = .returned v ∧ Q0 Z qe qb qf qc h0 n0 v U'.heap L ∧ FrameEnd U o U' L room_1.cells room_1.slots) := by
  refine MetFree.of_bodySF (plainFor_of_name pn_0) hisR ?_
  intro p e s m args below meth c s₁ Bd hml0 hP hK
  obtain ⟨rfl, hZ, hh⟩ := hP
  have hx := Bd.exec
  have hby := Bd.bytes
  have hlk := BodyLoose.notSynchronized Bd
  have hret := Bd.returns
  have hml : c.maxLocals = 13 := hml0
  have hown : s.vm.findClass "com/example/model_for_reads/modelforreads/store/FetchStatsPlusPinLaw" = some m.cls := findClass_of_methodNamed Bd.named
  have hnm := (name_of_methodNamed Bd.named Bd.method).1
  have X0 : Stand p l e room_1 s m #[(.long qe), (.long qb), (.long qf), (.long qc)] below meth c s₁ [] 0 0 := Stand.of_body Bd
  have e0 : s₁.heap = h0 := by rw [← hh, Bd.state]; rfl
  have N0 := Fr.nil n0
  have K0 : Keep h0 h0 [] := Keep.refl h0 _
  refine Fin.step (Q := fun v h L => Q0 Z qe qb qf qc h0 n0 v h L) (st' := s₁.setTop (mkF m 0 #[.val (.long qe), .second, .val (.long qb), .second, .val (.long qf), .second, .val (.long qc), .second, .unset, .unset, .unset, .unset, .unset] [])) (fun t k => castTop (ef_rm0 m qe qb qf qc) k) ?_
  show Fin p e below s _ _ _ (s₁.setTop (mkF m 0 #[.val (.long qe), .second, .val (.long qb), .second, .val (.long qf), .second, .val (.long qc), .second, .unset, .unset, .unset, .unset, .unset] []))
  obtain ⟨Ty1, hy1, Xy1, ey1, Ey1, Ay1, Dy1, -, sty1⟩ := newO X0 hx hZ hown (hw _ (List.mem_of_getElem? (i := 0) rfl)) (hw _ (List.mem_of_getElem? (i := 1) rfl)) (hw _ (List.mem_of_getElem? (i := 2) rfl)) e0 (g := (mkF m 0 #[.val (.long qe), .second, .val (.long qb), .second, .val (.long qf), .second, .val (.long qc), .second, .unset, .unset, .unset, .unset, .unset] [])) rfl (hb hby at_0) (by decide) (by decide)
  obtain ⟨by1, gy1⟩ : ∃ z, z = h0.size := ⟨_, rfl⟩
  rw [← gy1] at Ay1 Dy1 sty1
  have gzy1 : n0 ≤ by1 := Nat.le_trans Z0 (Nat.le_of_eq gy1.symm)
  have szy1 : h0.size ≤ by1 := Nat.le_trans K0.1 (Nat.le_of_eq gy1.symm)
  have Zy1 : n0 ≤ hy1.size := Nat.le_trans Z0 Ey1.1
  have Ky1 : Keep h0 hy1 [] := K0.ext Ey1
  have F_entries_by1 : Fld Z hy1 by1 "com/example/model_for_reads/modelforreads/store/FetchStats" "entries" "J" (.long (0 : Int64)) := Dy1 (Or.inr (hw _ (List.mem_of_getElem? (i := 10) rfl))) (ty := .long) (by decide)
  have F_bytes_by1 : Fld Z hy1 by1 "com/example/model_for_reads/modelforreads/store/FetchStats" "bytes" "J" (.long (0 : Int64)) := Dy1 (Or.inr (hw _ (List.mem_of_getElem? (i := 12) rfl))) (ty := .long) (by decide)
  refine Fin.step (sty1) ?_
  show Fin p e below s _ _ _ (Ty1.setTop (mkF m 3 #[.val (.long qe), .second, .val (.long qb), .second, .val (.long qf), .second, .val (.long qc), .second, .unset, .unset, .unset, .unset, .unset] [(.ref by1)]))
  refine Fin.step (fun _ => XS.dup Xy1.here hx rfl (hb hby at_3) rfl rfl) ?_
  show Fin p e below s _ _ _ (Ty1.setTop (mkF m 4 #[.val (.long qe), .second, .val (.long qb), .second, .val (.long qf), .second, .val (.long qc), .second, .unset, .unset, .unset, .unset, .unset] [(.ref by1), (.ref by1)]))
  refine Fin.step (fun _ => XS.lloadN Xy1.here hx rfl (hb hby at_4) rfl) ?_
  show Fin p e below s _ _ _ (Ty1.setTop (mkF m 5 #[.val (.long qe), .second, .val (.long qb), .second, .val (.long qf), .second, .val (.long qc), .second, .unset, .unset, .unset, .unset, .unset] [(.long qe), (.ref by1), (.ref by1)]))
  refine Fin.step (fun _ => XS.lloadN Xy1.here hx rfl (hb hby at_5) rfl) ?_
  show Fin p e below s _ _ _ (Ty1.setTop (mkF m 6 #[.val (.long qe), .second, .val (.long qb), .second, .val (.long qf), .second, .val (.long qc), .second, .unset, .unset, .unset, .unset, .unset] [(.long qb), (.long qe), (.ref by1), (.ref by1)]))
  obtain ⟨_, _, ⟨Ty2, Ly2, ky2, ny2⟩, -, Xy2, ⟨Lcy2, hQy2, ly2, yy2, zy2⟩, sty2⟩ := Xy1.specialBack hx (y := (⟨"com/example/model_for_reads/modelforreads/store/FetchStats", "<init>", "(JJ)V"⟩ : MethodName)) rfl hown (mvT hZ (hw _ (List.mem_of_getElem? (i := 3) rfl))) (mvT hZ (hw _ (List.mem_of_getElem? (i := 4) rfl))) (mvT hZ (hw _ (List.mem_of_getElem? (i := 5) rfl))) (by decide) (backOf (W := 1) (rm1 l Z a0 hw [] by1 qe qb (.long (0 : Int64)) (.long (0 : Int64)) hy1 n0 Zy1 Ay1 F_entries_by1 F_bytes_by1 gzy1) hZ (hw _ (List.mem_of_getElem? (i := 5) rfl)) (hw _ (List.mem_of_getElem? (i := 2) rfl)) (by decide) (by decide)) (g := (mkF m 6 #[.val (.long qe), .second, .val (.long qb), .second, .val (.long qf), .second, .val (.long qc), .second, .unset, .unset, .unset, .unset, .unset] [(.long qb), (.long qe), (.ref by1), (.ref by1)])) rfl (by rw [hml]; rfl) (Steps.refl _) (a := by1) (argsL := [(.long qe), (.long qb)]) (rest := [(.ref by1)]) (lenOf pd_0 rfl) rfl (by show 2 * 0 + _ ≤ _; exact Nat.le_of_eq rfl) (hb hby at_6) (fun _ _ => ⟨rfl, ey1, (by decide : 1 + 0 ≤ _), (by decide : 2 + 0 ≤ _)⟩)
  dsimp only [Pt.U, Pt.locs, Pt.cells, Pt.slots] at Xy2 ly2 yy2 zy2 sty2 hQy2
  subst ly2 yy2 zy2
  obtain ⟨rfl, Nqy2, Kcy2, fy2_0, fy2_1⟩ := hQy2
  have Ny2 := Fr.app N0 Nqy2
  have Zy2 : n0 ≤ Ty2.heap.size := Nat.le_trans Zy1 Kcy2.1
  have Ky2 : Keep h0 Ty2.heap [] := Ky1.trans Kcy2 (allS (Or.inr szy1) all0)
  refine Fin.step (fun _ k => sty2.trans k) ?_
  show Fin p e below s _ _ _ (Ty2.setTop (mkF m 9 #[.val (.long qe), .second, .val (.long qb), .second, .val (.long qf), .second, .val (.long qc), .second, .unset, .unset, .unset, .unset, .unset] [(.ref by1)]))
  refine Fin.step (fun _ => XS.astore Xy2.here hx rfl (hb hby at_9) rfl rfl (l' := #[.val (.long qe), .second, .val (.long qb), .second, .val (.long qf), .second, .val (.long qc), .second, .val (.ref by1), .unset, .unset, .unset, .unset]) rfl) ?_
  show Fin p e below s _ _ _ (Ty2.setTop (mkF m 11 #[.val (.long qe), .second, .val (.long qb), .second, .val (.long qf), .second, .val (.long qc), .second, .val (.ref by1), .unset, .unset, .unset, .unset] []))
  obtain ⟨Ty3, hy3, Xy3, ey3, Ey3, Ay3, Dy3, -, sty3⟩ := newO Xy2 hx hZ hown (hw _ (List.mem_of_getElem? (i := 0) rfl)) (hw _ (List.mem_of_getElem? (i := 1) rfl)) (hw _ (List.mem_of_getElem? (i := 2) rfl)) rfl (g := (mkF m 11 #[.val (.long qe), .second, .val (.long qb), .second, .val (.long qf), .second, .val (.long qc), .second, .val (.ref by1), .unset, .unset, .unset, .unset] [])) rfl (hb hby at_11) (by decide) (by decide)
  obtain ⟨by3, gy3⟩ : ∃ z, z = Ty2.heap.size := ⟨_, rfl⟩
  rw [← gy3] at Ay3 Dy3 sty3
  have gzy3 : n0 ≤ by3 := Nat.le_trans Zy2 (Nat.le_of_eq gy3.symm)
  have szy3 : h0.size ≤ by3 := Nat.le_trans Ky2.1 (Nat.le_of_eq gy3.symm)
  have Zy3 : n0 ≤ hy3.size := Nat.le_trans Zy2 Ey3.1
  have Ky3 : Keep h0 hy3 [] := Ky2.ext Ey3
  have F_entries_by3 : Fld Z hy3 by3 "com/example/model_for_reads/modelforreads/store/FetchStats" "entries" "J" (.long (0 : Int64)) := Dy3 (Or.inr (hw _ (List.mem_of_getElem? (i := 10) rfl))) (ty := .long) (by decide)
  have F_bytes_by3 : Fld Z hy3 by3 "com/example/model_for_reads/modelforreads/store/FetchStats" "bytes" "J" (.long (0 : Int64)) := Dy3 (Or.inr (hw _ (List.mem_of_getElem? (i := 12) rfl))) (ty := .long) (by decide)
  refine Fin.step (sty3) ?_
  show Fin p e below s _ _ _ (Ty3.setTop (mkF m 14 #[.val (.long qe), .second, .val (.long qb), .second, .val (.long qf), .second, .val (.long qc), .second, .val (.ref by1), .unset, .unset, .unset, .unset] [(.ref by3)]))
  refine Fin.step (fun _ => XS.dup Xy3.here hx rfl (hb hby at_14) rfl rfl) ?_
  show Fin p e below s _ _ _ (Ty3.setTop (mkF m 15 #[.val (.long qe), .second, .val (.long qb), .second, .val (.long qf), .second, .val (.long qc), .second, .val (.ref by1), .unset, .unset, .unset, .unset] [(.ref by3), (.ref by3)]))
  refine Fin.step (fun _ => XS.lload Xy3.here hx rfl (hb hby at_15) rfl) ?_
  show Fin p e below s _ _ _ (Ty3.setTop (mkF m 17 #[.val (.long qe), .second, .val (.long qb), .second, .val (.long qf), .second, .val (.long qc), .second, .val (.ref by1), .unset, .unset, .unset, .unset] [(.long qf), (.ref by3), (.ref by3)]))
  refine Fin.step (fun _ => XS.lload Xy3.here hx rfl (hb hby at_17) rfl) ?_
  show Fin p e below s _ _ _ (Ty3.setTop (mkF m 19 #[.val (.long qe), .second, .val (.long qb), .second, .val (.long qf), .second, .val (.long qc), .second, .val (.ref by1), .unset, .unset, .unset, .unset] [(.long qc), (.long qf), (.ref by3), (.ref by3)]))
  obtain ⟨_, _, ⟨Ty4, Ly4, ky4, ny4⟩, -, Xy4, ⟨Lcy4, hQy4, ly4, yy4, zy4⟩, sty4⟩ := Xy3.specialBack hx (y := (⟨"com/example/model_for_reads/modelforreads/store/FetchStats", "<init>", "(JJ)V"⟩ : MethodName)) rfl hown (mvT hZ (hw _ (List.mem_of_getElem? (i := 3) rfl))) (mvT hZ (hw _ (List.mem_of_getElem? (i := 4) rfl))) (mvT hZ (hw _ (List.mem_of_getElem? (i := 5) rfl))) (by decide) (backOf (W := 1) (rm1 l Z a0 hw [] by3 qf qc (.long (0 : Int64)) (.long (0 : Int64)) hy3 n0 Zy3 Ay3 F_entries_by3 F_bytes_by3 gzy3) hZ (hw _ (List.mem_of_getElem? (i := 5) rfl)) (hw _ (List.mem_of_getElem? (i := 2) rfl)) (by decide) (by decide)) (g := (mkF m 19 #[.val (.long qe), .second, .val (.long qb), .second, .val (.long qf), .second, .val (.long qc), .second, .val (.ref by1), .unset, .unset, .unset, .unset] [(.long qc), (.long qf), (.ref by3), (.ref by3)])) rfl (by rw [hml]; rfl) (Steps.refl _) (a := by3) (argsL := [(.long qf), (.long qc)]) (rest := [(.ref by3)]) (lenOf pd_0 rfl) rfl (by show 2 * 0 + _ ≤ _; exact Nat.le_of_eq rfl) (hb hby at_19) (fun _ _ => ⟨rfl, ey3, (by decide : 2 + 0 ≤ _), (by decide : 4 + 0 ≤ _)⟩)
  dsimp only [Pt.U, Pt.locs, Pt.cells, Pt.slots] at Xy4 ly4 yy4 zy4 sty4 hQy4
  subst ly4 yy4 zy4
  obtain ⟨rfl, Nqy4, Kcy4, fy4_0, fy4_1⟩ := hQy4
  have Ny4 := Fr.app Ny2 Nqy4
  have Zy4 : n0 ≤ Ty4.heap.size := Nat.le_trans Zy3 Kcy4.1
  have Ky4 : Keep h0 Ty4.heap [] := Ky3.trans Kcy4 (allS (Or.inr szy3) all0)
  refine Fin.step (fun _ k => sty4.trans k) ?_
  show Fin p e below s _ _ _ (Ty4.setTop (mkF m 22 #[.val (.long qe), .second, .val (.long qb), .second, .val (.long qf), .second, .val (.long qc), .second, .val (.ref by1), .unset, .unset, .unset, .unset] [(.ref by3)]))
  refine Fin.step (fun _ => XS.astore Xy4.here hx rfl (hb hby at_22) rfl rfl (l' := #[.val (.long qe), .second, .val (.long qb), .second, .val (.long qf), .second, .val (.long qc), .second, .val (.ref by1), .val (.ref by3), .unset, .unset, .unset]) rfl) ?_
  show Fin p e below s _ _ _ (Ty4.setTop (mkF m 24 #[.val (.long qe), .second, .val (.long qb), .second, .val (.long qf), .second, .val (.long qc), .second, .val (.ref by1), .val (.ref by3), .unset, .unset, .unset] []))
  refine Fin.step (fun _ => XS.aload Xy4.here hx rfl (hb hby at_24) rfl rfl) ?_
  show Fin p e below s _ _ _ (Ty4.setTop (mkF m 26 #[.val (.long qe), .second, .val (.long qb), .second, .val (.long qf), .second, .val (.long qc), .second, .val (.ref by1), .val (.ref by3), .unset, .unset, .unset] [(.ref by1)]))
  refine Fin.step (fun _ => XS.aload Xy4.here hx rfl (hb hby at_26) rfl rfl) ?_
  show Fin p e below s _ _ _ (Ty4.setTop (mkF m 28 #[.val (.long qe), .second, .val (.long qb), .second, .val (.long qf), .second, .val (.long qc), .second, .val (.ref by1), .val (.ref by3), .unset, .unset, .unset] [(.ref by3), (.ref by1)]))
  obtain ⟨cqy5, kqy5, qy5a, qy5b, qy5c⟩ := isOf hZ rfl (((Ay1.keep Kcy2).ext Ey3).keep Kcy4)
  obtain ⟨_, _, ⟨Ty5, Ly5, ky5, ny5⟩, -, Xy5, ⟨Lcy5, hQy5, ly5, yy5, zy5⟩, sty5⟩ := Xy4.virtualBack hx (y := (⟨"com/example/model_for_reads/modelforreads/store/FetchStats", "plus", "(Lcom/example/model_for_reads/modelforreads/store/FetchStats;)Lcom/example/model_for_reads/modelforreads/store/FetchStats;"⟩ : MethodName)) (z := (⟨"com/example/model_for_reads/modelforreads/store/FetchStats", "plus", "(Lcom/example/model_for_reads/modelforreads/store/FetchStats;)Lcom/example/model_for_reads/modelforreads/store/FetchStats;"⟩ : MethodName)) hown (mvT hZ (hw _ (List.mem_of_getElem? (i := 13) rfl))) (mvT hZ (hw _ (List.mem_of_getElem? (i := 14) rfl))) (notFace_of_selects (args := #[]) (mvT hZ (hw _ (List.mem_of_getElem? (i := 16) rfl)))) (mvT hZ (hw _ (List.mem_of_getElem? (i := 16) rfl))) (mvT hZ (hw _ (List.mem_of_getElem? (i := 15) rfl))) (by decide) (backOf (W := 0) (rm3 l Z a0 hw [] by1 by3 qe qb qf qc Ty4.heap n0 Zy4 ((fy2_0.ext Ey3).keep Kcy4 (ninS (Nat.ne_of_lt (Nat.lt_of_lt_of_le (Ay1.keep Kcy2).lt (Nat.le_of_eq gy3.symm))) nin0)) ((fy2_1.ext Ey3).keep Kcy4 (ninS (Nat.ne_of_lt (Nat.lt_of_lt_of_le (Ay1.keep Kcy2).lt (Nat.le_of_eq gy3.symm))) nin0)) fy4_0 fy4_1) hZ (hw _ (List.mem_of_getElem? (i := 17) rfl)) (hw _ (List.mem_of_getElem? (i := 2) rfl)) (by decide) (by decide)) qy5a qy5c (g := (mkF m 28 #[.val (.long qe), .second, .val (.long qb), .second, .val (.long qf), .second, .val (.long qc), .second, .val (.ref by1), .val (.ref by3), .unset, .unset, .unset] [(.ref by3), (.ref by1)])) rfl (by rw [hml]; rfl) (Steps.refl _) (argsL := [(.ref by3)]) (rest := []) (lenOf pd_1 rfl) rfl (by show 2 * 0 + _ ≤ _; exact Nat.le_of_eq rfl) (hb hby at_28) (fun _ _ => ⟨rfl, rfl, (by decide : 2 + 1 ≤ _), (by decide : 4 + 2 ≤ _)⟩)
  dsimp only [Pt.U, Pt.locs, Pt.cells, Pt.slots] at Xy5 ly5 yy5 zy5 sty5 hQy5
  subst ly5 yy5 zy5
  obtain ⟨by5, rfl, bzy5, Nqy5, Kcy5, fy5_0, fy5_1, fy5_2⟩ := hQy5
  have Ny5 := Fr.app Ny4 Nqy5
  have gzy5 : n0 ≤ by5 := Nat.le_trans Zy4 bzy5
  have szy5 : h0.size ≤ by5 := Nat.le_trans Ky4.1 bzy5
  have Zy5 : n0 ≤ Ty5.heap.size := Nat.le_trans Zy4 Kcy5.1
  have Ky5 : Keep h0 Ty5.heap [] := Ky4.trans Kcy5 all0
  refine Fin.step (fun _ k => sty5.trans k) ?_
  show Fin p e below s _ _ _ (Ty5.setTop (mkF m 31 #[.val (.long qe), .second, .val (.long qb), .second, .val (.long qf), .second, .val (.long qc), .second, .val (.ref by1), .val (.ref by3), .unset, .unset, .unset] [(.ref by5)]))
  refine Fin.step (fun _ => XS.astore Xy5.here hx rfl (hb hby at_31) rfl rfl (l' := #[.val (.long qe), .second, .val (.long qb), .second, .val (.long qf), .second, .val (.long qc), .second, .val (.ref by1), .val (.ref by3), .val (.ref by5), .unset, .unset]) rfl) ?_
  show Fin p e below s _ _ _ (Ty5.setTop (mkF m 33 #[.val (.long qe), .second, .val (.long qb), .second, .val (.long qf), .second, .val (.long qc), .second, .val (.ref by1), .val (.ref by3), .val (.ref by5), .unset, .unset] []))
  refine Fin.step (fun _ => XS.aload Xy5.here hx rfl (hb hby at_33) rfl rfl) ?_
  show Fin p e below s _ _ _ (Ty5.setTop (mkF m 35 #[.val (.long qe), .second, .val (.long qb), .second, .val (.long qf), .second, .val (.long qc), .second, .val (.ref by1), .val (.ref by3), .val (.ref by5), .unset, .unset] [(.ref by5)]))
  refine Fin.step (fun _ => XS.ifnonnullYes Xy5.here hx rfl (pc0 := 35) (pc' := 40) rfl (hb hby at_35) rfl (by decide) (by decide)) ?_
  show Fin p e below s _ _ _ (Ty5.setTop (mkF m 40 #[.val (.long qe), .second, .val (.long qb), .second, .val (.long qf), .second, .val (.long qc), .second, .val (.ref by1), .val (.ref by3), .val (.ref by5), .unset, .unset] []))
  refine Fin.step (fun _ => XS.aload Xy5.here hx rfl (hb hby at_40) rfl rfl) ?_
  show Fin p e below s _ _ _ (Ty5.setTop (mkF m 42 #[.val (.long qe), .second, .val (.long qb), .second, .val (.long qf), .second, .val (.long qc), .second, .val (.ref by1), .val (.ref by3), .val (.ref by5), .unset, .unset] [(.ref by5)]))
  obtain ⟨cqy6, kqy6, qy6a, qy6b, qy6c⟩ := isOf hZ rfl fy5_0
  obtain ⟨_, _, ⟨Ty6, Ly6, ky6, ny6⟩, -, Xy6, ⟨Lcy6, hQy6, ly6, yy6, zy6⟩, sty6⟩ := Xy5.virtualBack hx (y := (⟨"com/example/model_for_reads/modelforreads/store/FetchStats", "entries", "()J"⟩ : MethodName)) (z := (⟨"com/example/model_for_reads/modelforreads/store/FetchStats", "entries", "()J"⟩ : MethodName)) hown (mvT hZ (hw _ (List.mem_of_getElem? (i := 20) rfl))) (mvT hZ (hw _ (List.mem_of_getElem? (i := 21) rfl))) (notFace_of_selects (args := #[]) (mvT hZ (hw _ (List.mem_of_getElem? (i := 23) rfl)))) (mvT hZ (hw _ (List.mem_of_getElem? (i := 23) rfl))) (mvT hZ (hw _ (List.mem_of_getElem? (i := 22) rfl))) (by decide) (backOf (W := 0) (rm4 l Z a0 hw [] by5 (qe + qf) Ty5.heap n0 Zy5 fy5_1) hZ (hw _ (List.mem_of_getElem? (i := 24) rfl)) (hw _ (List.mem_of_getElem? (i := 2) rfl)) (by decide) (by decide)) qy6a qy6c (g := (mkF m 42 #[.val (.long qe), .second, .val (.long qb), .second, .val (.long qf), .second, .val (.long qc), .second, .val (.ref by1), .val (.ref by3), .val (.ref by5), .unset, .unset] [(.ref by5)])) rfl (by rw [hml]; rfl) (Steps.refl _) (argsL := []) (rest := []) (lenOf pd_2 rfl) rfl (by show 2 * 0 + _ ≤ _; exact Nat.le_of_eq rfl) (hb hby at_42) (fun _ _ => ⟨rfl, rfl, (by decide : 3 + 0 ≤ _), (by decide : 6 + 0 ≤ _)⟩)
  dsimp only [Pt.U, Pt.locs, Pt.cells, Pt.slots] at Xy6 ly6 yy6 zy6 sty6 hQy6
  subst ly6 yy6 zy6
  obtain ⟨rfl, Nqy6, eqy6⟩ := hQy6
  have Ny6 := Fr.app Ny5 Nqy6
  refine Fin.step (fun _ k => sty6.trans k) ?_
  show Fin p e below s _ _ _ (Ty6.setTop (mkF m 45 #[.val (.long qe), .second, .val (.long qb), .second, .val (.long qf), .second, .val (.long qc), .second, .val (.ref by1), .val (.ref by3), .val (.ref by5), .unset, .unset] [(.long (qe + qf))]))
  refine Fin.step (fun _ => XS.lloadN Xy6.here hx rfl (hb hby at_45) rfl) ?_
  show Fin p e below s _ _ _ (Ty6.setTop (mkF m 46 #[.val (.long qe), .second, .val (.long qb), .second, .val (.long qf), .second, .val (.long qc), .second, .val (.ref by1), .val (.ref by3), .val (.ref by5), .unset, .unset] [(.long qe), (.long (qe + qf))]))
  refine Fin.step (fun _ => XS.lload Xy6.here hx rfl (hb hby at_46) rfl) ?_
  show Fin p e below s _ _ _ (Ty6.setTop (mkF m 48 #[.val (.long qe), .second, .val (.long qb), .second, .val (.long qf), .second, .val (.long qc), .second, .val (.ref by1), .val (.ref by3), .val (.ref by5), .unset, .unset] [(.long qf), (.long qe), (.long (qe + qf))]))
  refine Fin.step (fun _ => XS.ladd Xy6.here hx rfl (hb hby at_48) rfl) ?_
  show Fin p e below s _ _ _ (Ty6.setTop (mkF m 49 #[.val (.long qe), .second, .val (.long qb), .second, .val (.long qf), .second, .val (.long qc), .second, .val (.ref by1), .val (.ref by3), .val (.ref by5), .unset, .unset] [(.long (qe + qf)), (.long (qe + qf))]))
  refine Fin.step (fun _ => XS.lcmp Xy6.here hx rfl (hb hby at_49) rfl) ?_
  show Fin p e below s _ _ _ (Ty6.setTop (mkF m 50 #[.val (.long qe), .second, .val (.long qb), .second, .val (.long qf), .second, .val (.long qc), .second, .val (.ref by1), .val (.ref by3), .val (.ref by5), .unset, .unset] [(.int (lcmpW (qe + qf) (qe + qf)))]))
  refine Fin.step (fun _ => XS.ifNo Xy6.here hx rfl (hb hby at_50) rfl ((if0 _ _).trans (teq ((lcE rfl) : ((lcmpW (qe + qf) (qe + qf)) = (0 : Int32)))).2)) ?_
  show Fin p e below s _ _ _ (Ty6.setTop (mkF m 53 #[.val (.long qe), .second, .val (.long qb), .second, .val (.long qf), .second, .val (.long qc), .second, .val (.ref by1), .val (.ref by3), .val (.ref by5), .unset, .unset] []))
  refine Fin.step (fun _ => XS.aload Xy6.here hx rfl (hb hby at_53) rfl rfl) ?_
  show Fin p e below s _ _ _ (Ty6.setTop (mkF m 55 #[.val (.long qe), .second, .val (.long qb), .second, .val (.long qf), .second, .val (.long qc), .second, .val (.ref by1), .val (.ref by3), .val (.ref by5), .unset, .unset] [(.ref by5)]))
  obtain ⟨cqy7, kqy7, qy7a, qy7b, qy7c⟩ := isOf hZ eqy6 fy5_0
  obtain ⟨_, _, ⟨Ty7, Ly7, ky7, ny7⟩, -, Xy7, ⟨Lcy7, hQy7, ly7, yy7, zy7⟩, sty7⟩ := Xy6.virtualBack hx (y := (⟨"com/example/model_for_reads/modelforreads/store/FetchStats", "bytes", "()J"⟩ : MethodName)) (z := (⟨"com/example/model_for_reads/modelforreads/store/FetchStats", "bytes", "()J"⟩ : MethodName)) hown (mvT hZ (hw _ (List.mem_of_getElem? (i := 25) rfl))) (mvT hZ (hw _ (List.mem_of_getElem? (i := 26) rfl))) (notFace_of_selects (args := #[]) (mvT hZ (hw _ (List.mem_of_getElem? (i := 28) rfl)))) (mvT hZ (hw _ (List.mem_of_getElem? (i := 28) rfl))) (mvT hZ (hw _ (List.mem_of_getElem? (i := 27) rfl))) (by decide) (backOf (W := 0) (rm5 l Z a0 hw [] by5 (qb + qc) Ty5.heap n0 Zy5 fy5_2) hZ (hw _ (List.mem_of_getElem? (i := 29) rfl)) (hw _ (List.mem_of_getElem? (i := 2) rfl)) (by decide) (by decide)) qy7a qy7c (g := (mkF m 55 #[.val (.long qe), .second, .val (.long qb), .second, .val (.long qf), .second, .val (.long qc), .second, .val (.ref by1), .val (.ref by3), .val (.ref by5), .unset, .unset] [(.ref by5)])) rfl (by rw [hml]; rfl) (Steps.refl _) (argsL := []) (rest := []) (lenOf pd_2 rfl) rfl (by show 2 * 0 + _ ≤ _; exact Nat.le_of_eq rfl) (hb hby at_55) (fun _ _ => ⟨rfl, eqy6, (by decide : 3 + 0 ≤ _), (by decide : 6 + 0 ≤ _)⟩)
  dsimp only [Pt.U, Pt.locs, Pt.cells, Pt.slots] at Xy7 ly7 yy7 zy7 sty7 hQy7
  subst ly7 yy7 zy7
  obtain ⟨rfl, Nqy7, eqy7⟩ := hQy7
  have Ny7 := Fr.app Ny6 Nqy7
  refine Fin.step (fun _ k => sty7.trans k) ?_
  show Fin p e below s _ _ _ (Ty7.setTop (mkF m 58 #[.val (.long qe), .second, .val (.long qb), .second, .val (.long qf), .second, .val (.long qc), .second, .val (.ref by1), .val (.ref by3), .val (.ref by5), .unset, .unset] [(.long (qb + qc))]))
  refine Fin.step (fun _ => XS.lloadN Xy7.here hx rfl (hb hby at_58) rfl) ?_
  show Fin p e below s _ _ _ (Ty7.setTop (mkF m 59 #[.val (.long qe), .second, .val (.long qb), .second, .val (.long qf), .second, .val (.long qc), .second, .val (.ref by1), .val (.ref by3), .val (.ref by5), .unset, .unset] [(.long qb), (.long (qb + qc))]))
  refine Fin.step (fun _ => XS.lload Xy7.here hx rfl (hb hby at_59) rfl) ?_
  show Fin p e below s _ _ _ (Ty7.setTop (mkF m 61 #[.val (.long qe), .second, .val (.long qb), .second, .val (.long qf), .second, .val (.long qc), .second, .val (.ref by1), .val (.ref by3), .val (.ref by5), .unset, .unset] [(.long qc), (.long qb), (.long (qb + qc))]))
  refine Fin.step (fun _ => XS.ladd Xy7.here hx rfl (hb hby at_61) rfl) ?_
  show Fin p e below s _ _ _ (Ty7.setTop (mkF m 62 #[.val (.long qe), .second, .val (.long qb), .second, .val (.long qf), .second, .val (.long qc), .second, .val (.ref by1), .val (.ref by3), .val (.ref by5), .unset, .unset] [(.long (qb + qc)), (.long (qb + qc))]))
  refine Fin.step (fun _ => XS.lcmp Xy7.here hx rfl (hb hby at_62) rfl) ?_
  show Fin p e below s _ _ _ (Ty7.setTop (mkF m 63 #[.val (.long qe), .second, .val (.long qb), .second, .val (.long qf), .second, .val (.long qc), .second, .val (.ref by1), .val (.ref by3), .val (.ref by5), .unset, .unset] [(.int (lcmpW (qb + qc) (qb + qc)))]))
  refine Fin.step (fun _ => XS.ifNo Xy7.here hx rfl (hb hby at_63) rfl ((if0 _ _).trans (teq ((lcE rfl) : ((lcmpW (qb + qc) (qb + qc)) = (0 : Int32)))).2)) ?_
  show Fin p e below s _ _ _ (Ty7.setTop (mkF m 66 #[.val (.long qe), .second, .val (.long qb), .second, .val (.long qf), .second, .val (.long qc), .second, .val (.ref by1), .val (.ref by3), .val (.ref by5), .unset, .unset] []))
  refine Fin.step (fun _ => XS.iconst Xy7.here hx rfl (hb hby at_66)) ?_
  show Fin p e below s _ _ _ (Ty7.setTop (mkF m 67 #[.val (.long qe), .second, .val (.long qb), .second, .val (.long qf), .second, .val (.long qc), .second, .val (.ref by1), .val (.ref by3), .val (.ref by5), .unset, .unset] [(.int (1 : Int32))]))
  refine Fin.step (fun _ => XS.goto Xy7.here hx rfl (pc0 := 67) (pc' := 71) rfl (hb hby at_67) (by decide) (by decide)) ?_
  show Fin p e below s _ _ _ (Ty7.setTop (mkF m 71 #[.val (.long qe), .second, .val (.long qb), .second, .val (.long qf), .second, .val (.long qc), .second, .val (.ref by1), .val (.ref by3), .val (.ref by5), .unset, .unset] [(.int (1 : Int32))]))
  refine Fin.step (fun _ => XS.istore Xy7.here hx rfl (hb hby at_71) rfl (l' := #[.val (.long qe), .second, .val (.long qb), .second, .val (.long qf), .second, .val (.long qc), .second, .val (.ref by1), .val (.ref by3), .val (.ref by5), .val (.int (1 : Int32)), .unset]) rfl) ?_
  show Fin p e below s _ _ _ (Ty7.setTop (mkF m 73 #[.val (.long qe), .second, .val (.long qb), .second, .val (.long qf), .second, .val (.long qc), .second, .val (.ref by1), .val (.ref by3), .val (.ref by5), .val (.int (1 : Int32)), .unset] []))
  refine Fin.step (fun _ => XS.aload Xy7.here hx rfl (hb hby at_73) rfl rfl) ?_
  show Fin p e below s _ _ _ (Ty7.setTop (mkF m 75 #[.val (.long qe), .second, .val (.long qb), .second, .val (.long qf), .second, .val (.long qc), .second, .val (.ref by1), .val (.ref by3), .val (.ref by5), .val (.int (1 : Int32)), .unset] [(.ref by1)]))
  obtain ⟨cqy8, kqy8, qy8a, qy8b, qy8c⟩ := isOf hZ eqy7 ((((Ay1.keep Kcy2).ext Ey3).keep Kcy4).keep Kcy5)
  obtain ⟨_, _, ⟨Ty8, Ly8, ky8, ny8⟩, -, Xy8, ⟨Lcy8, hQy8, ly8, yy8, zy8⟩, sty8⟩ := Xy7.virtualBack hx (y := (⟨"com/example/model_for_reads/modelforreads/store/FetchStats", "entries", "()J"⟩ : MethodName)) (z := (⟨"com/example/model_for_reads/modelforreads/store/FetchStats", "entries", "()J"⟩ : MethodName)) hown (mvT hZ (hw _ (List.mem_of_getElem? (i := 20) rfl))) (mvT hZ (hw _ (List.mem_of_getElem? (i := 21) rfl))) (notFace_of_selects (args := #[]) (mvT hZ (hw _ (List.mem_of_getElem? (i := 23) rfl)))) (mvT hZ (hw _ (List.mem_of_getElem? (i := 23) rfl))) (mvT hZ (hw _ (List.mem_of_getElem? (i := 22) rfl))) (by decide) (backOf (W := 0) (rm4 l Z a0 hw [] by1 qe Ty5.heap n0 Zy5 (((fy2_0.ext Ey3).keep Kcy4 (ninS (Nat.ne_of_lt (Nat.lt_of_lt_of_le (Ay1.keep Kcy2).lt (Nat.le_of_eq gy3.symm))) nin0)).keep Kcy5 nin0)) hZ (hw _ (List.mem_of_getElem? (i := 24) rfl)) (hw _ (List.mem_of_getElem? (i := 2) rfl)) (by decide) (by decide)) qy8a qy8c (g := (mkF m 75 #[.val (.long qe), .second, .val (.long qb), .second, .val (.long qf), .second, .val (.long qc), .second, .val (.ref by1), .val (.ref by3), .val (.ref by5), .val (.int (1 : Int32)), .unset] [(.ref by1)])) rfl (by rw [hml]; rfl) (Steps.refl _) (argsL := []) (rest := []) (lenOf pd_2 rfl) rfl (by show 2 * 0 + _ ≤ _; exact Nat.le_of_eq rfl) (hb hby at_75) (fun _ _ => ⟨rfl, eqy7, (by decide : 3 + 0 ≤ _), (by decide : 6 + 0 ≤ _)⟩)
  dsimp only [Pt.U, Pt.locs, Pt.cells, Pt.slots] at Xy8 ly8 yy8 zy8 sty8 hQy8
  subst ly8 yy8 zy8
  obtain ⟨rfl, Nqy8, eqy8⟩ := hQy8
  have Ny8 := Fr.app Ny7 Nqy8
  refine Fin.step (fun _ k => sty8.trans k) ?_
  show Fin p e below s _ _ _ (Ty8.setTop (mkF m 78 #[.val (.long qe), .second, .val (.long qb), .second, .val (.long qf), .second, .val (.long qc), .second, .val (.ref by1), .val (.ref by3), .val (.ref by5), .val (.int (1 : Int32)), .unset] [(.long qe)]))
  refine Fin.step (fun _ => XS.lloadN Xy8.here hx rfl (hb hby at_78) rfl) ?_
  show Fin p e below s _ _ _ (Ty8.setTop (mkF m 79 #[.val (.long qe), .second, .val (.long qb), .second, .val (.long qf), .second, .val (.long qc), .second, .val (.ref by1), .val (.ref by3), .val (.ref by5), .val (.int (1 : Int32)), .unset] [(.long qe), (.long qe)]))
  refine Fin.step (fun _ => XS.lcmp Xy8.here hx rfl (hb hby at_79) rfl) ?_
  show Fin p e below s _ _ _ (Ty8.setTop (mkF m 80 #[.val (.long qe), .second, .val (.long qb), .second, .val (.long qf), .second, .val (.long qc), .second, .val (.ref by1), .val (.ref by3), .val (.ref by5), .val (.int (1 : Int32)), .unset] [(.int (lcmpW qe qe))]))
  refine Fin.step (fun _ => XS.ifNo Xy8.here hx rfl (hb hby at_80) rfl ((if0 _ _).trans (teq ((lcE rfl) : ((lcmpW qe qe) = (0 : Int32)))).2)) ?_
  show Fin p e below s _ _ _ (Ty8.setTop (mkF m 83 #[.val (.long qe), .second, .val (.long qb), .second, .val (.long qf), .second, .val (.long qc), .second, .val (.ref by1), .val (.ref by3), .val (.ref by5), .val (.int (1 : Int32)), .unset] []))
  refine Fin.step (fun _ => XS.aload Xy8.here hx rfl (hb hby at_83) rfl rfl) ?_
  show Fin p e below s _ _ _ (Ty8.setTop (mkF m 85 #[.val (.long qe), .second, .val (.long qb), .second, .val (.long qf), .second, .val (.long qc), .second, .val (.ref by1), .val (.ref by3), .val (.ref by5), .val (.int (1 : Int32)), .unset] [(.ref by1)]))
  obtain ⟨cqy9, kqy9, qy9a, qy9b, qy9c⟩ := isOf hZ eqy8 ((((Ay1.keep Kcy2).ext Ey3).keep Kcy4).keep Kcy5)
  obtain ⟨_, _, ⟨Ty9, Ly9, ky9, ny9⟩, -, Xy9, ⟨Lcy9, hQy9, ly9, yy9, zy9⟩, sty9⟩ := Xy8.virtualBack hx (y := (⟨"com/example/model_for_reads/modelforreads/store/FetchStats", "bytes", "()J"⟩ : MethodName)) (z := (⟨"com/example/model_for_reads/modelforreads/store/FetchStats", "bytes", "()J"⟩ : MethodName)) hown (mvT hZ (hw _ (List.mem_of_getElem? (i := 25) rfl))) (mvT hZ (hw _ (List.mem_of_getElem? (i := 26) rfl))) (notFace_of_selects (args := #[]) (mvT hZ (hw _ (List.mem_of_getElem? (i := 28) rfl)))) (mvT hZ (hw _ (List.mem_of_getElem? (i := 28) rfl))) (mvT hZ (hw _ (List.mem_of_getElem? (i := 27) rfl))) (by decide) (backOf (W := 0) (rm5 l Z a0 hw [] by1 qb Ty5.heap n0 Zy5 (((fy2_1.ext Ey3).keep Kcy4 (ninS (Nat.ne_of_lt (Nat.lt_of_lt_of_le (Ay1.keep Kcy2).lt (Nat.le_of_eq gy3.symm))) nin0)).keep Kcy5 nin0)) hZ (hw _ (List.mem_of_getElem? (i := 29) rfl)) (hw _ (List.mem_of_getElem? (i := 2) rfl)) (by decide) (by decide)) qy9a qy9c (g := (mkF m 85 #[.val (.long qe), .second, .val (.long qb), .second, .val (.long qf), .second, .val (.long qc), .second, .val (.ref by1), .val (.ref by3), .val (.ref by5), .val (.int (1 : Int32)), .unset] [(.ref by1)])) rfl (by rw [hml]; rfl) (Steps.refl _) (argsL := []) (rest := []) (lenOf pd_2 rfl) rfl (by show 2 * 0 + _ ≤ _; exact Nat.le_of_eq rfl) (hb hby at_85) (fun _ _ => ⟨rfl, eqy8, (by decide : 3 + 0 ≤ _), (by decide : 6 + 0 ≤ _)⟩)
  dsimp only [Pt.U, Pt.locs, Pt.cells, Pt.slots] at Xy9 ly9 yy9 zy9 sty9 hQy9
  subst ly9 yy9 zy9
  obtain ⟨rfl, Nqy9, eqy9⟩ := hQy9
  have Ny9 := Fr.app Ny8 Nqy9
  refine Fin.step (fun _ k => sty9.trans k) ?_
  show Fin p e below s _ _ _ (Ty9.setTop (mkF m 88 #[.val (.long qe), .second, .val (.long qb), .second, .val (.long qf), .second, .val (.long qc), .second, .val (.ref by1), .val (.ref by3), .val (.ref by5), .val (.int (1 : Int32)), .unset] [(.long qb)]))
  refine Fin.step (fun _ => XS.lloadN Xy9.here hx rfl (hb hby at_88) rfl) ?_
  show Fin p e below s _ _ _ (Ty9.setTop (mkF m 89 #[.val (.long qe), .second, .val (.long qb), .second, .val (.long qf), .second, .val (.long qc), .second, .val (.ref by1), .val (.ref by3), .val (.ref by5), .val (.int (1 : Int32)), .unset] [(.long qb), (.long qb)]))
  refine Fin.step (fun _ => XS.lcmp Xy9.here hx rfl (hb hby at_89) rfl) ?_
  show Fin p e below s _ _ _ (Ty9.setTop (mkF m 90 #[.val (.long qe), .second, .val (.long qb), .second, .val (.long qf), .second, .val (.long qc), .second, .val (.ref by1), .val (.ref by3), .val (.ref by5), .val (.int (1 : Int32)), .unset] [(.int (lcmpW qb qb))]))
  refine Fin.step (fun _ => XS.ifNo Xy9.here hx rfl (hb hby at_90) rfl ((if0 _ _).trans (teq ((lcE rfl) : ((lcmpW qb qb) = (0 : Int32)))).2)) ?_
  show Fin p e below s _ _ _ (Ty9.setTop (mkF m 93 #[.val (.long qe), .second, .val (.long qb), .second, .val (.long qf), .second, .val (.long qc), .second, .val (.ref by1), .val (.ref by3), .val (.ref by5), .val (.int (1 : Int32)), .unset] []))
  refine Fin.step (fun _ => XS.aload Xy9.here hx rfl (hb hby at_93) rfl rfl) ?_
  show Fin p e below s _ _ _ (Ty9.setTop (mkF m 95 #[.val (.long qe), .second, .val (.long qb), .second, .val (.long qf), .second, .val (.long qc), .second, .val (.ref by1), .val (.ref by3), .val (.ref by5), .val (.int (1 : Int32)), .unset] [(.ref by3)]))
  obtain ⟨cqy10, kqy10, qy10a, qy10b, qy10c⟩ := isOf hZ eqy9 ((Ay3.keep Kcy4).keep Kcy5)
  obtain ⟨_, _, ⟨Ty10, Ly10, ky10, ny10⟩, -, Xy10, ⟨Lcy10, hQy10, ly10, yy10, zy10⟩, sty10⟩ := Xy9.virtualBack hx (y := (⟨"com/example/model_for_reads/modelforreads/store/FetchStats", "entries", "()J"⟩ : MethodName)) (z := (⟨"com/example/model_for_reads/modelforreads/store/FetchStats", "entries", "()J"⟩ : MethodName)) hown (mvT hZ (hw _ (List.mem_of_getElem? (i := 20) rfl))) (mvT hZ (hw _ (List.mem_of_getElem? (i := 21) rfl))) (notFace_of_selects (args := #[]) (mvT hZ (hw _ (List.mem_of_getElem? (i := 23) rfl)))) (mvT hZ (hw _ (List.mem_of_getElem? (i := 23) rfl))) (mvT hZ (hw _ (List.mem_of_getElem? (i := 22) rfl))) (by decide) (backOf (W := 0) (rm4 l Z a0 hw [] by3 qf Ty5.heap n0 Zy5 (fy4_0.keep Kcy5 nin0)) hZ (hw _ (List.mem_of_getElem? (i := 24) rfl)) (hw _ (List.mem_of_getElem? (i := 2) rfl)) (by decide) (by decide)) qy10a qy10c (g := (mkF m 95 #[.val (.long qe), .second, .val (.long qb), .second, .val (.long qf), .second, .val (.long qc), .second, .val (.ref by1), .val (.ref by3), .val (.ref by5), .val (.int (1 : Int32)), .unset] [(.ref by3)])) rfl (by rw [hml]; rfl) (Steps.refl _) (argsL := []) (rest := []) (lenOf pd_2 rfl) rfl (by show 2 * 0 + _ ≤ _; exact Nat.le_of_eq rfl) (hb hby at_95) (fun _ _ => ⟨rfl, eqy9, (by decide : 3 + 0 ≤ _), (by decide : 6 + 0 ≤ _)⟩)
  dsimp only [Pt.U, Pt.locs, Pt.cells, Pt.slots] at Xy10 ly10 yy10 zy10 sty10 hQy10
  subst ly10 yy10 zy10
  obtain ⟨rfl, Nqy10, eqy10⟩ := hQy10
  have Ny10 := Fr.app Ny9 Nqy10
  refine Fin.step (fun _ k => sty10.trans k) ?_
  show Fin p e below s _ _ _ (Ty10.setTop (mkF m 98 #[.val (.long qe), .second, .val (.long qb), .second, .val (.long qf), .second, .val (.long qc), .second, .val (.ref by1), .val (.ref by3), .val (.ref by5), .val (.int (1 : Int32)), .unset] [(.long qf)]))
  refine Fin.step (fun _ => XS.lload Xy10.here hx rfl (hb hby at_98) rfl) ?_
  show Fin p e below s _ _ _ (Ty10.setTop (mkF m 100 #[.val (.long qe), .second, .val (.long qb), .second, .val (.long qf), .second, .val (.long qc), .second, .val (.ref by1), .val (.ref by3), .val (.ref by5), .val (.int (1 : Int32)), .unset] [(.long qf), (.long qf)]))
  refine Fin.step (fun _ => XS.lcmp Xy10.here hx rfl (hb hby at_100) rfl) ?_
  show Fin p e below s _ _ _ (Ty10.setTop (mkF m 101 #[.val (.long qe), .second, .val (.long qb), .second, .val (.long qf), .second, .val (.long qc), .second, .val (.ref by1), .val (.ref by3), .val (.ref by5), .val (.int (1 : Int32)), .unset] [(.int (lcmpW qf qf))]))
  refine Fin.step (fun _ => XS.ifNo Xy10.here hx rfl (hb hby at_101) rfl ((if0 _ _).trans (teq ((lcE rfl) : ((lcmpW qf qf) = (0 : Int32)))).2)) ?_
  show Fin p e below s _ _ _ (Ty10.setTop (mkF m 104 #[.val (.long qe), .second, .val (.long qb), .second, .val (.long qf), .second, .val (.long qc), .second, .val (.ref by1), .val (.ref by3), .val (.ref by5), .val (.int (1 : Int32)), .unset] []))
  refine Fin.step (fun _ => XS.aload Xy10.here hx rfl (hb hby at_104) rfl rfl) ?_
  show Fin p e below s _ _ _ (Ty10.setTop (mkF m 106 #[.val (.long qe), .second, .val (.long qb), .second, .val (.long qf), .second, .val (.long qc), .second, .val (.ref by1), .val (.ref by3), .val (.ref by5), .val (.int (1 : Int32)), .unset] [(.ref by3)]))
  obtain ⟨cqy11, kqy11, qy11a, qy11b, qy11c⟩ := isOf hZ eqy10 ((Ay3.keep Kcy4).keep Kcy5)
  obtain ⟨_, _, ⟨Ty11, Ly11, ky11, ny11⟩, -, Xy11, ⟨Lcy11, hQy11, ly11, yy11, zy11⟩, sty11⟩ := Xy10.virtualBack hx (y := (⟨"com/example/model_for_reads/modelforreads/store/FetchStats", "bytes", "()J"⟩ : MethodName)) (z := (⟨"com/example/model_for_reads/modelforreads/store/FetchStats", "bytes", "()J"⟩ : MethodName)) hown (mvT hZ (hw _ (List.mem_of_getElem? (i := 25) rfl))) (mvT hZ (hw _ (List.mem_of_getElem? (i := 26) rfl))) (notFace_of_selects (args := #[]) (mvT hZ (hw _ (List.mem_of_getElem? (i := 28) rfl)))) (mvT hZ (hw _ (List.mem_of_getElem? (i := 28) rfl))) (mvT hZ (hw _ (List.mem_of_getElem? (i := 27) rfl))) (by decide) (backOf (W := 0) (rm5 l Z a0 hw [] by3 qc Ty5.heap n0 Zy5 (fy4_1.keep Kcy5 nin0)) hZ (hw _ (List.mem_of_getElem? (i := 29) rfl)) (hw _ (List.mem_of_getElem? (i := 2) rfl)) (by decide) (by decide)) qy11a qy11c (g := (mkF m 106 #[.val (.long qe), .second, .val (.long qb), .second, .val (.long qf), .second, .val (.long qc), .second, .val (.ref by1), .val (.ref by3), .val (.ref by5), .val (.int (1 : Int32)), .unset] [(.ref by3)])) rfl (by rw [hml]; rfl) (Steps.refl _) (argsL := []) (rest := []) (lenOf pd_2 rfl) rfl (by show 2 * 0 + _ ≤ _; exact Nat.le_of_eq rfl) (hb hby at_106) (fun _ _ => ⟨rfl, eqy10, (by decide : 3 + 0 ≤ _), (by decide : 6 + 0 ≤ _)⟩)
  dsimp only [Pt.U, Pt.locs, Pt.cells, Pt.slots] at Xy11 ly11 yy11 zy11 sty11 hQy11
  subst ly11 yy11 zy11
  obtain ⟨rfl, Nqy11, eqy11⟩ := hQy11
  have Ny11 := Fr.app Ny10 Nqy11
  refine Fin.step (fun _ k => sty11.trans k) ?_
  show Fin p e below s _ _ _ (Ty11.setTop (mkF m 109 #[.val (.long qe), .second, .val (.long qb), .second, .val (.long qf), .second, .val (.long qc), .second, .val (.ref by1), .val (.ref by3), .val (.ref by5), .val (.int (1 : Int32)), .unset] [(.long qc)]))
  refine Fin.step (fun _ => XS.lload Xy11.here hx rfl (hb hby at_109) rfl) ?_
  show Fin p e below s _ _ _ (Ty11.setTop (mkF m 111 #[.val (.long qe), .second, .val (.long qb), .second, .val (.long qf), .second, .val (.long qc), .second, .val (.ref by1), .val (.ref by3), .val (.ref by5), .val (.int (1 : Int32)), .unset] [(.long qc), (.long qc)]))
  refine Fin.step (fun _ => XS.lcmp Xy11.here hx rfl (hb hby at_111) rfl) ?_
  show Fin p e below s _ _ _ (Ty11.setTop (mkF m 112 #[.val (.long qe), .second, .val (.long qb), .second, .val (.long qf), .second, .val (.long qc), .second, .val (.ref by1), .val (.ref by3), .val (.ref by5), .val (.int (1 : Int32)), .unset] [(.int (lcmpW qc qc))]))
  refine Fin.step (fun _ => XS.ifNo Xy11.here hx rfl (hb hby at_112) rfl ((if0 _ _).trans (teq ((lcE rfl) : ((lcmpW qc qc) = (0 : Int32)))).2)) ?_
  show Fin p e below s _ _ _ (Ty11.setTop (mkF m 115 #[.val (.long qe), .second, .val (.long qb), .second, .val (.long qf), .second, .val (.long qc), .second, .val (.ref by1), .val (.ref by3), .val (.ref by5), .val (.int (1 : Int32)), .unset] []))
  refine Fin.step (fun _ => XS.iconst Xy11.here hx rfl (hb hby at_115)) ?_
  show Fin p e below s _ _ _ (Ty11.setTop (mkF m 116 #[.val (.long qe), .second, .val (.long qb), .second, .val (.long qf), .second, .val (.long qc), .second, .val (.ref by1), .val (.ref by3), .val (.ref by5), .val (.int (1 : Int32)), .unset] [(.int (1 : Int32))]))
  refine Fin.step (fun _ => XS.goto Xy11.here hx rfl (pc0 := 116) (pc' := 120) rfl (hb hby at_116) (by decide) (by decide)) ?_
  show Fin p e below s _ _ _ (Ty11.setTop (mkF m 120 #[.val (.long qe), .second, .val (.long qb), .second, .val (.long qf), .second, .val (.long qc), .second, .val (.ref by1), .val (.ref by3), .val (.ref by5), .val (.int (1 : Int32)), .unset] [(.int (1 : Int32))]))
  refine Fin.step (fun _ => XS.istore Xy11.here hx rfl (hb hby at_120) rfl (l' := #[.val (.long qe), .second, .val (.long qb), .second, .val (.long qf), .second, .val (.long qc), .second, .val (.ref by1), .val (.ref by3), .val (.ref by5), .val (.int (1 : Int32)), .val (.int (1 : Int32))]) rfl) ?_
  show Fin p e below s _ _ _ (Ty11.setTop (mkF m 122 #[.val (.long qe), .second, .val (.long qb), .second, .val (.long qf), .second, .val (.long qc), .second, .val (.ref by1), .val (.ref by3), .val (.ref by5), .val (.int (1 : Int32)), .val (.int (1 : Int32))] []))
  refine Fin.step (fun _ => XS.iload Xy11.here hx rfl (hb hby at_122) rfl) ?_
  show Fin p e below s _ _ _ (Ty11.setTop (mkF m 124 #[.val (.long qe), .second, .val (.long qb), .second, .val (.long qf), .second, .val (.long qc), .second, .val (.ref by1), .val (.ref by3), .val (.ref by5), .val (.int (1 : Int32)), .val (.int (1 : Int32))] [(.int (1 : Int32))]))
  refine Fin.step (fun _ => XS.ifNo Xy11.here hx rfl (hb hby at_124) rfl ((if0 _ _).trans (feq ((by decide) : ¬ ((1 : Int32) = (0 : Int32)))).1)) ?_
  show Fin p e below s _ _ _ (Ty11.setTop (mkF m 127 #[.val (.long qe), .second, .val (.long qb), .second, .val (.long qf), .second, .val (.long qc), .second, .val (.ref by1), .val (.ref by3), .val (.ref by5), .val (.int (1 : Int32)), .val (.int (1 : Int32))] []))
  refine Fin.step (fun _ => XS.iload Xy11.here hx rfl (hb hby at_127) rfl) ?_
  show Fin p e below s _ _ _ (Ty11.setTop (mkF m 129 #[.val (.long qe), .second, .val (.long qb), .second, .val (.long qf), .second, .val (.long qc), .second, .val (.ref by1), .val (.ref by3), .val (.ref by5), .val (.int (1 : Int32)), .val (.int (1 : Int32))] [(.int (1 : Int32))]))
  refine Fin.step (fun _ => XS.ifNo Xy11.here hx rfl (hb hby at_129) rfl ((if0 _ _).trans (feq ((by decide) : ¬ ((1 : Int32) = (0 : Int32)))).1)) ?_
  show Fin p e below s _ _ _ (Ty11.setTop (mkF m 132 #[.val (.long qe), .second, .val (.long qb), .second, .val (.long qf), .second, .val (.long qc), .second, .val (.ref by1), .val (.ref by3), .val (.ref by5), .val (.int (1 : Int32)), .val (.int (1 : Int32))] []))
  refine Fin.step (fun _ => XS.iconst Xy11.here hx rfl (hb hby at_132)) ?_
  show Fin p e below s _ _ _ (Ty11.setTop (mkF m 133 #[.val (.long qe), .second, .val (.long qb), .second, .val (.long qf), .second, .val (.long qc), .second, .val (.ref by1), .val (.ref by3), .val (.ref by5), .val (.int (1 : Int32)), .val (.int (1 : Int32))] [(.int (1 : Int32))]))
  refine Fin.step (fun _ => XS.goto Xy11.here hx rfl (pc0 := 133) (pc' := 137) rfl (hb hby at_133) (by decide) (by decide)) ?_
  show Fin p e below s _ _ _ (Ty11.setTop (mkF m 137 #[.val (.long qe), .second, .val (.long qb), .second, .val (.long qf), .second, .val (.long qc), .second, .val (.ref by1), .val (.ref by3), .val (.ref by5), .val (.int (1 : Int32)), .val (.int (1 : Int32))] [(.int (1 : Int32))]))
  refine Fin.retN Xy11 hx (t := .boolean) hret (by simp) hlk (hb hby at_137) (by decide) (by decide) ?_
  show Q0 Z qe qb qf qc h0 n0 _ Ty11.heap _
  rw [eqy11]
  exact ⟨rfl, Ny11, Ky5⟩
set_option maxRecDepth 65536 in
set_option maxHeartbeats 40000000 in
theorem comes_1 {Post : Tables → Env → Array Value → State → Outcome → State → Prop} (hpost : ∀ tb e args s v u, (limb_1_1.after args s (.returned v) u = true ∧ limb_1_2.after args s (.returned v) u = true ∧ True) → FrameEnd s (.returned v) u (Jvm.fieldLocs frame_1_writes args s ++ Jvm.arrayLocs frame_1_arrays args s ++ Jvm.staticLocs frame_1_statics s) 16 128 → Post tb e args s (.returned v) u) :
    ArmFor flags0 classFile x code maxLocals ret World_1 tables_1 room_1 Calls_1 rest_1 Pre_1 Post := by
  intro l hfl _ _ p e ha hc hk s m args below hf hA hF happ hP
  obtain ⟨hcalls, hrest, hpre⟩ := hP
  obtain ⟨-, -, -, hnamed, -, -, -, hat⟩ := (Spec.applies_iff hf).mp happ
  obtain ⟨hg, hn⟩ := and_e (Cond.before_iff.mp (show (Jvm.Cond.and given_1 narrow_1).before args s = true from hpre))
  obtain ⟨gc, gr0⟩ := and_e hg
  obtain ⟨ga0, gr1⟩ := and_e gr0
  obtain ⟨ga1, gr2⟩ := and_e gr1
  obtain ⟨ga2, gr3⟩ := and_e gr2
  have ga3 := gr3
  obtain ⟨w0, w1, w2, w3, rfl⟩ : ∃ w0 w1 w2 w3 : Value, args = #[w0, w1, w2, w3] := by
    have hs : args.size = 4 := by simpa [Cond.value, given_1] using gc
    obtain ⟨L⟩ := args
    match L, hs with
    | [w0, w1, w2, w3], _ => exact ⟨w0, w1, w2, w3, rfl⟩
  have hw := fun d (hd : d ∈ tables_1) => atoms_spec (ws := Jvm.Cond.code x code maxLocals ret :: tables_1) hat d (List.mem_cons_of_mem _ hd)
  have hfit : Fit s := fun {y c} hc i hi => by
    obtain ⟨ha, rfl⟩ := Array.getElem?_eq_some_iff.mp hc
    have q := List.all_eq_true.mp ((Array.all_eq_true_iff_forall_mem.mp hF) _ (Array.getElem_mem ha)) i (List.mem_range.mpr hi)
    simpa [Array.getElem?_eq_getElem hi] using q
  obtain ⟨i0, ei0⟩ := isL_v ga0
  obtain rfl : w0 = (.long i0) := Option.some.inj ei0
  obtain ⟨i1, ei1⟩ := isL_v ga1
  obtain rfl : w1 = (.long i1) := Option.some.inj ei1
  obtain ⟨i2, ei2⟩ := isL_v ga2
  obtain rfl : w2 = (.long i2) := Option.some.inj ei2
  obtain ⟨i3, ei3⟩ := isL_v ga3
  obtain rfl : w3 = (.long i3) := Option.some.inj ei3
  obtain ⟨n, o, h1, h2, h3, _, L, rfl, ⟨rfl, N, _⟩, hq⟩ := rm0 l s _ hw tables_1 i0 i1 i2 i3  s.heap s.heap.size (Nat.le_refl _)  p e ha hc hk s m _ below hf ((Spec.applies_iff_loose hf).mp happ).1 ⟨rfl, State.Warmed39.refl s, rfl⟩ trivial
  refine ⟨n, _, h1, h2, h3, hpost _ _ _ _ _ _ ⟨Cond.after_iff.mpr rfl, Cond.after_iff.mpr (eq_i res_at (Term.int_eval (1)) rfl), trivial⟩ ⟨hq.1, hq.2.1, (hq.2.2.sift fun y hy => Or.inr (N y hy)).mono (by decide) (by decide)⟩⟩
theorem main_1_1 : Claimed_1_1 := comes_1 fun _ _ _ _ _ _ h hF => ⟨h.1, hF⟩
theorem main_1_2 : Claimed_1_2 := comes_1 fun _ _ _ _ _ _ h hF => ⟨h.2.1, hF⟩
end Jvm.Pilot.@@N@@
namespace Jvm.Pilot.@@N@@
open Jvm Jvm.ClassFile Sem Op Lib Jvm.Free Jvm.Stand Jvm.Pilot.@@N@@.Jvm.D
/-! MADE BY PROGRAM (witnessworld.py) out of the Statement's table words and the real class files: 7 classes; the members and pool entries that the words name. The judged class is class 1, her method 1. -/
namespace start1
open Jvm.ClassFile
def u (s : String) : CpInfo := .utf8 (stringToUtf16 s)
/-- a pool by its gaps: so many unusable entries, then the entry; so many at the end -/
def gap : Nat → List CpInfo → List CpInfo
  | 0, r => r
  | n + 1, r => .unusable :: gap n r
def poolList (es : List (Nat × CpInfo)) (last : Nat) : List CpInfo := es.foldr (fun e r => gap e.1 (e.2 :: r)) (gap last [])
def pool (es : List (Nat × CpInfo)) (last : Nat) : Array CpInfo := ⟨poolList es last⟩
def fileOf (pool : Array CpInfo) (this : Nat) (attrs : Array Attribute := #[]) (ms : Array MethodInfo := #[]) (fl : Nat := 33) (sup : Nat := 0) (ifs : Array Nat := #[]) (fds : Array FieldInfo := #[]) : ClassFile where
  minorVersion := 0
  majorVersion := 65
  constantPool := pool
  accessFlags := fl
  thisClass := this
  superClass := sup
  interfaces := ifs
  fields := fds
  methods := ms
  attributes := attrs
def plain (name : String) (sup : Option ClassId) : Class where
  name := name
  kind := .ordinary
  loader := none
  accessFlags := 33
  super := sup
  interfaces := #[]
  cf := none
  fields := #[]
  methods := #[]
  instanceTypes := #[]
  staticTypes := #[]
  resolved := #[]
  callSites := []
  init := .initialized
  statics := none
  mirror := none

def pool0 : Array CpInfo := pool [(5, u "<init>"), (0, u "()V"), (1, .class_ 10), (1, u "java/lang/Object")] 113

def k0c0 : Code := { maxStack := 0, maxLocals := 1, code := object_method_1_code, exceptionTable := #[], attributes := #[] }
def k0m0 : Method := { name := "<init>", desc := "()V", sig := { parameters := [], returnType := none }, accessFlags := 1, code := some k0c0 }
/-- java/lang/Object -/
def k0 : Class := { plain "java/lang/Object" none with
  accessFlags := 33
  interfaces := #[]
  cf := some (fileOf pool0 8 #[] #[{ accessFlags := 1, nameIndex := 5, descriptorIndex := 6, attributes := #[] }] 33 0 #[] #[])
  fields := #[]
  methods := #[k0m0]
  instanceTypes := #[]
  staticTypes := #[]
  resolved := Array.replicate 124 none
  statics := none }

def pool1 : Array CpInfo := pool [(2, .class_ 4), (1, u "java/lang/Object"), (0, u "<init>"), (0, u "()V"), (0, .class_ 8), (0, u "com/example/model_for_reads/modelforreads/store/FetchStats"), (0, .methodref 7 10), (0, .nameAndType 5 11), (0, u "(JJ)V"), (0, .methodref 7 13), (0, .nameAndType 14 15), (0, u "plus"), (0, u "(Lcom/example/model_for_reads/modelforreads/store/FetchStats;)Lcom/example/model_for_reads/modelforreads/store/FetchStats;"), (0, .methodref 7 17), (0, .nameAndType 18 19), (0, u "entries"), (0, u "()J"), (0, .methodref 7 21), (0, .nameAndType 22 19), (0, u "bytes"), (0, .class_ 24), (0, u "com/example/model_for_reads/modelforreads/store/FetchStatsPlusPinLaw"), (2, u "law"), (0, u "(JJJJ)Z")] 3

def k1m0 : Method := { name := "<init>", desc := "()V", sig := { parameters := [], returnType := none }, accessFlags := 1, code := none }
def k1c1 : Code := { maxStack := 6, maxLocals := 13, code := code, exceptionTable := #[], attributes := #[] }
def k1m1 : Method := { name := "law", desc := "(JJJJ)Z", sig := { parameters := [.long, .long, .long, .long], returnType := some .boolean }, accessFlags := 9, code := some k1c1 }
/-- com/example/model_for_reads/modelforreads/store/FetchStatsPlusPinLaw -/
def k1 : Class := { plain "com/example/model_for_reads/modelforreads/store/FetchStatsPlusPinLaw" (some 0) with
  accessFlags := 49
  interfaces := #[]
  cf := some (fileOf pool1 23 #[] #[{ accessFlags := 1, nameIndex := 5, descriptorIndex := 6, attributes := #[] }, { accessFlags := 9, nameIndex := 27, descriptorIndex := 28, attributes := #[] }] 49 2 #[] #[])
  fields := #[]
  methods := #[k1m0, k1m1]
  instanceTypes := #[]
  staticTypes := #[]
  resolved := Array.replicate 32 none
  statics := none }

def pool2 : Array CpInfo := pool [(1, .methodref 2 3), (0, .class_ 4), (0, .nameAndType 5 6), (0, u "java/lang/Object"), (0, u "<init>"), (0, u "()V"), (0, .fieldref 8 9), (0, .class_ 10), (0, .nameAndType 11 12), (0, u "com/example/model_for_reads/modelforreads/store/FetchStats"), (0, u "entries"), (0, u "J"), (0, .fieldref 8 14), (0, .nameAndType 15 12), (0, u "bytes"), (0, .methodref 8 17), (0, .nameAndType 5 18), (0, u "(JJ)V"), (2, u "()J"), (0, u "plus"), (0, u "(Lcom/example/model_for_reads/modelforreads/store/FetchStats;)Lcom/example/model_for_reads/modelforreads/store/FetchStats;")] 2

def k2c0 : Code := { maxStack := 3, maxLocals := 5, code := prog_22_method_1_code, exceptionTable := #[], attributes := #[] }
def k2m0 : Method := { name := "<init>", desc := "(JJ)V", sig := { parameters := [.long, .long], returnType := none }, accessFlags := 1, code := some k2c0 }
def k2c1 : Code := { maxStack := 2, maxLocals := 1, code := prog_22_method_2_code, exceptionTable := #[], attributes := #[] }
def k2m1 : Method := { name := "entries", desc := "()J", sig := { parameters := [], returnType := some .long }, accessFlags := 1, code := some k2c1 }
def k2c2 : Code := { maxStack := 2, maxLocals := 1, code := prog_22_method_3_code, exceptionTable := #[], attributes := #[] }
def k2m2 : Method := { name := "bytes", desc := "()J", sig := { parameters := [], returnType := some .long }, accessFlags := 1, code := some k2c2 }
def k2c3 : Code := { maxStack := 8, maxLocals := 2, code := prog_22_method_4_code, exceptionTable := #[], attributes := #[] }
def k2m3 : Method := { name := "plus", desc := "(Lcom/example/model_for_reads/modelforreads/store/FetchStats;)Lcom/example/model_for_reads/modelforreads/store/FetchStats;", sig := { parameters := [(.object "com/example/model_for_reads/modelforreads/store/FetchStats")], returnType := some (.object "com/example/model_for_reads/modelforreads/store/FetchStats") }, accessFlags := 0, code := some k2c3 }
/-- com/example/model_for_reads/modelforreads/store/FetchStats -/
def k2 : Class := { plain "com/example/model_for_reads/modelforreads/store/FetchStats" (some 0) with
  accessFlags := 33
  interfaces := #[]
  cf := some (fileOf pool2 8 #[] #[{ accessFlags := 1, nameIndex := 5, descriptorIndex := 18, attributes := #[] }, { accessFlags := 1, nameIndex := 11, descriptorIndex := 21, attributes := #[] }, { accessFlags := 1, nameIndex := 15, descriptorIndex := 21, attributes := #[] }, { accessFlags := 0, nameIndex := 22, descriptorIndex := 23, attributes := #[] }] 33 2 #[] #[{ accessFlags := 18, nameIndex := 11, descriptorIndex := 12, attributes := #[] }, { accessFlags := 18, nameIndex := 15, descriptorIndex := 12, attributes := #[] }])
  fields := #[{ name := "entries", type := .long, accessFlags := 18, slot := 0, constantValue := 0 }, { name := "bytes", type := .long, accessFlags := 18, slot := 1, constantValue := 0 }]
  methods := #[k2m0, k2m1, k2m2, k2m3]
  instanceTypes := #[.long, .long]
  staticTypes := #[]
  resolved := Array.replicate 26 none
  statics := none }

def pool3 : Array CpInfo := pool [(1, u "java/lang/Cloneable"), (0, .class_ 1), (0, u "java/lang/Object"), (0, .class_ 3)] 3

/-- java/lang/Cloneable -/
def k3 : Class := { plain "java/lang/Cloneable" (some 0) with
  accessFlags := 1537
  interfaces := #[]
  cf := some (fileOf pool3 2 #[] #[] 1537 4 #[] #[])
  fields := #[]
  methods := #[]
  instanceTypes := #[]
  staticTypes := #[]
  resolved := Array.replicate 8 none
  statics := none }

def pool4 : Array CpInfo := pool [(1, u "java/io/Serializable"), (0, .class_ 1), (0, u "java/lang/Object"), (0, .class_ 3)] 3

/-- java/io/Serializable -/
def k4 : Class := { plain "java/io/Serializable" (some 0) with
  accessFlags := 1537
  interfaces := #[]
  cf := some (fileOf pool4 2 #[] #[] 1537 4 #[] #[])
  fields := #[]
  methods := #[]
  instanceTypes := #[]
  staticTypes := #[]
  resolved := Array.replicate 8 none
  statics := none }

/-- the primitive byte -/
def k5 : Class := { plain "byte" none with kind := .primitive 'B', accessFlags := 0x411 }
/-- [B -/
def k6 : Class := { plain "[B" (some 0) with kind := .array 5 .byte, interfaces := #[3, 4], accessFlags := 1041 }

def heap : Heap := #[]
def classes : Array Class := #[k0, k1, k2, k3, k4, k5, k6]
def interned : List (Array UInt16 × Addr) := []
def slotsUsed : Nat := 0
def theMethod : MethodId := ⟨1, 1⟩
def args0 : Array Value := #[.long 5, .long 7, .long (-3), .long 100]
def aboutOver (below : List Frame) : State where
  vm := { classes := classes, interned := interned.toArray }
  heap := heap
  slotsUsed := slotsUsed
  threads := #[{ frames := .invoking theMethod args0 :: below }]
def below0 : List Frame := [.native { method := ⟨0, 0⟩, args := #[] }]
def about1 : State := aboutOver below0
def p0 : Program := .bare "" "" ""
def e0 : Env := launch0.env 0 0 0
theorem w_frames : about1.frames = Frame.invoking theMethod args0 :: below0 := rfl
set_option maxRecDepth 65536 in
theorem w_args : argsFit about1.vm theMethod args0 = true := by decide +kernel
set_option maxRecDepth 65536 in
theorem w_heap : heapFits about1 = true := by decide +kernel
set_option maxRecDepth 65536 in
theorem w_runnable : about1.curStatus? = some .runnable := by decide +kernel
set_option maxRecDepth 65536 in
theorem w_alone : about1.alone = true := by decide +kernel
set_option maxRecDepth 65536 in
theorem w_named : about1.methodNamed? x = some theMethod := by decide +kernel
set_option maxRecDepth 65536 in
theorem w_hears : about1.hears theMethod below0 = true := by decide +kernel
set_option maxRecDepth 65536 in
theorem w_ripe : about1.ripe theMethod args0 below0 = true := by decide +kernel
theorem w_running : about1.status = .running := rfl
set_option maxRecDepth 65536 in
theorem w_room : about1.hasRoom e0.platform room_1 = true :=
  launch0.hasRoom_least _ room_1 (by decide +kernel) (by decide +kernel) (by decide +kernel) (by decide +kernel) (by decide +kernel) (by decide +kernel)
theorem allAtoms_all (ts : List Jvm.Cond) (a : Array Jvm.Value) (st : Jvm.State) : (allAtoms ts).before a st = ts.all (fun c => c.before a st) := by
  induction ts with
  | nil => rfl
  | cons c t ih =>
    show (Jvm.Cond.and c (allAtoms t)).before a st = _
    rw [Jvm.Cond.before_and, ih, List.all_cons]
def words1 : List Jvm.Cond := Jvm.Cond.code x code maxLocals ret :: tables_1
/-- a 'code' word, met by the world's own term for the bytes: nothing is compared byte by byte -/
theorem code_word {y : MethodName} {bytes : ByteArray} {mx : Nat} {rt : Option FieldType} {a : Array Value} {s : State} {m : MethodId} {meth : Method} {c : Code} (h1 : s.methodNamed? y = some m) (h2 : s.vm.method? m = some meth) (h3 : meth.code = some c) (h4 : c.code = bytes)
    (h5 : (c.maxLocals == mx && c.exceptionTable.isEmpty && decide (c.maxStack ≤ mostOperands) && decide (meth.sig.returnType = rt) && !meth.locks && decide (parseMethodDescriptor y.desc = some meth.sig)) = true) : (Jvm.Cond.code y bytes mx rt).before a s = true := by
  simp only [Bool.and_eq_true, beq_iff_eq, Bool.not_eq_true', decide_eq_true_eq] at h5
  obtain ⟨⟨⟨⟨⟨g1, g2⟩, g3⟩, g4⟩, g5⟩, g6⟩ := h5
  simp [Cond.before, Cond.holds, Cond.value, h1, h2, h3, h4, g1, g2, g3, g4, g5, g6]
def isCode : Jvm.Cond → Bool
  | .code _ _ _ _ => true
  | _ => false
theorem all_split {L : List Jvm.Cond} {P : Jvm.Cond → Bool} (h1 : L.all (fun c => isCode c || P c) = true) (h2 : ∀ c ∈ L.filter isCode, P c = true) : L.all P = true := by
  refine List.all_eq_true.mpr fun c hc => ?_
  have h := List.all_eq_true.mp h1 c hc
  rcases Bool.eq_false_or_eq_true (isCode c) with hi | hi
  · exact h2 c (List.mem_filter.mpr ⟨hc, hi⟩)
  · simpa [hi] using h
set_option maxRecDepth 65536 in
theorem w_c0 : (Jvm.Cond.code x code maxLocals ret).before args0 about1 = true := code_word (m := ⟨1, 1⟩) (meth := k1m1) (c := k1c1) (by decide +kernel) rfl rfl rfl (by decide +kernel)
set_option maxRecDepth 65536 in
theorem w_c1 : (Jvm.Cond.code ({ cls := "com/example/model_for_reads/modelforreads/store/FetchStats", name := "<init>", desc := "(JJ)V" } : Jvm.MethodName) prog_22_method_1_code (5 : Nat) (Option.none : Option Jvm.ClassFile.FieldType)).before args0 about1 = true := code_word (m := ⟨2, 0⟩) (meth := k2m0) (c := k2c0) (by decide +kernel) rfl rfl rfl (by decide +kernel)
set_option maxRecDepth 65536 in
theorem w_c2 : (Jvm.Cond.code ({ cls := "java/lang/Object", name := "<init>", desc := "()V" } : Jvm.MethodName) object_method_1_code (1 : Nat) (Option.none : Option Jvm.ClassFile.FieldType)).before args0 about1 = true := code_word (m := ⟨0, 0⟩) (meth := k0m0) (c := k0c0) (by decide +kernel) rfl rfl rfl (by decide +kernel)
set_option maxRecDepth 65536 in
theorem w_c3 : (Jvm.Cond.code ({ cls := "com/example/model_for_reads/modelforreads/store/FetchStats", name := "plus", desc := "(Lcom/example/model_for_reads/modelforreads/store/FetchStats;)Lcom/example/model_for_reads/modelforreads/store/FetchStats;" } : Jvm.MethodName) prog_22_method_4_code (2 : Nat) (Option.some (Jvm.ClassFile.FieldType.object "com/example/model_for_reads/modelforreads/store/FetchStats"))).before args0 about1 = true := code_word (m := ⟨2, 3⟩) (meth := k2m3) (c := k2c3) (by decide +kernel) rfl rfl rfl (by decide +kernel)
set_option maxRecDepth 65536 in
theorem w_c4 : (Jvm.Cond.code ({ cls := "com/example/model_for_reads/modelforreads/store/FetchStats", name := "entries", desc := "()J" } : Jvm.MethodName) prog_22_method_2_code (1 : Nat) (Option.some Jvm.ClassFile.FieldType.long)).before args0 about1 = true := code_word (m := ⟨2, 1⟩) (meth := k2m1) (c := k2c1) (by decide +kernel) rfl rfl rfl (by decide +kernel)
set_option maxRecDepth 65536 in
theorem w_c5 : (Jvm.Cond.code ({ cls := "com/example/model_for_reads/modelforreads/store/FetchStats", name := "bytes", desc := "()J" } : Jvm.MethodName) prog_22_method_3_code (1 : Nat) (Option.some Jvm.ClassFile.FieldType.long)).before args0 about1 = true := code_word (m := ⟨2, 2⟩) (meth := k2m2) (c := k2c2) (by decide +kernel) rfl rfl rfl (by decide +kernel)
def codes1 : List Jvm.Cond := [Jvm.Cond.code x code maxLocals ret, Jvm.Cond.code ({ cls := "com/example/model_for_reads/modelforreads/store/FetchStats", name := "<init>", desc := "(JJ)V" } : Jvm.MethodName) prog_22_method_1_code (5 : Nat) (Option.none : Option Jvm.ClassFile.FieldType), Jvm.Cond.code ({ cls := "java/lang/Object", name := "<init>", desc := "()V" } : Jvm.MethodName) object_method_1_code (1 : Nat) (Option.none : Option Jvm.ClassFile.FieldType), Jvm.Cond.code ({ cls := "com/example/model_for_reads/modelforreads/store/FetchStats", name := "plus", desc := "(Lcom/example/model_for_reads/modelforreads/store/FetchStats;)Lcom/example/model_for_reads/modelforreads/store/FetchStats;" } : Jvm.MethodName) prog_22_method_4_code (2 : Nat) (Option.some (Jvm.ClassFile.FieldType.object "com/example/model_for_reads/modelforreads/store/FetchStats")), Jvm.Cond.code ({ cls := "com/example/model_for_reads/modelforreads/store/FetchStats", name := "entries", desc := "()J" } : Jvm.MethodName) prog_22_method_2_code (1 : Nat) (Option.some Jvm.ClassFile.FieldType.long), Jvm.Cond.code ({ cls := "com/example/model_for_reads/modelforreads/store/FetchStats", name := "bytes", desc := "()J" } : Jvm.MethodName) prog_22_method_3_code (1 : Nat) (Option.some Jvm.ClassFile.FieldType.long)]
set_option maxRecDepth 65536 in
theorem codes_eq : words1.filter isCode = codes1 := rfl
theorem w_codes : ∀ c ∈ words1.filter isCode, c.before args0 about1 = true := by
  rw [codes_eq]
  intro c hc
  simp only [codes1, List.mem_cons, List.not_mem_nil, or_false] at hc
  rcases hc with rfl | rfl | rfl | rfl | rfl | rfl
  · exact w_c0
  · exact w_c1
  · exact w_c2
  · exact w_c3
  · exact w_c4
  · exact w_c5
set_option maxRecDepth 65536 in
theorem w_t1 : (words1.take 24).all (fun c => isCode c || c.before args0 about1) = true := by decide +kernel
set_option maxRecDepth 65536 in
theorem w_t2 : (words1.drop 24).all (fun c => isCode c || c.before args0 about1) = true := by decide +kernel
theorem w_tables : (allAtoms (Jvm.Cond.code x code maxLocals ret :: tables_1)).before args0 about1 = true := by
  rw [allAtoms_all]
  show words1.all (fun c => c.before args0 about1) = true
  refine all_split ?_ w_codes
  rw [← List.take_append_drop 24 words1, List.all_append, w_t1, w_t2]
  rfl
set_option maxRecDepth 65536 in
theorem w_case : (Jvm.Cond.and given_1 narrow_1).before args0 about1 = true := by decide +kernel
theorem w_applies : (headSpec (Jvm.Cond.code x code maxLocals ret :: tables_1) room_1).applies x e0.platform about1 = true :=
  (Spec.applies_iff w_frames).mpr ⟨w_running, w_runnable, w_alone, w_named, w_hears, w_ripe, w_room, w_tables⟩
theorem atStart : AtStart classFile x code maxLocals ret World_1 tables_1 room_1 Calls_1 rest_1 Pre_1 launch0 p0 e0 about1 theMethod args0 below0 :=
  ⟨lists_1, trivial, launch0.admits_env _ _ _, launch0.least_env, fairChoices_fair.cas, fairChoices_fair.clock, w_frames, w_args, w_heap, w_applies, trivial, trivial, w_case⟩
end start1
theorem witness_1 : WitnessClaimed_1 := ⟨start1.p0, start1.e0, start1.about1, start1.theMethod, start1.args0, start1.below0, start1.atStart⟩
end Jvm.Pilot.@@N@@
