import JvmDerived
import JvmDerived.Pilot.@@N@@Statement
import JvmDerived.Pilot.@@N@@Code
set_option linter.unusedVariables false
set_option linter.unusedSimpArgs false
@@BLOCK:NumsL.lean.txt@@

namespace Jvm.OwnKit
open Sem ClassFile Op Lib Jvm.Stand Jvm.Free Jvm.LawKit Jvm.RoadKit
section Own
variable {p : Program} {l : Launch} {e : Env} {R : Room} {s : State} {m : MethodId} {args : Array Value} {below : List Frame} {meth : Method} {c : Code} {T : State} {locs : List Loc} {cells slots : Nat} {Q : Option Value → Heap → List Loc → Prop} {C S : Nat}
/-- what a body owes from a state on -/
def Fin (p : Program) (e : Env) (below : List Frame) (s : State) (Q : Option Value → Heap → List Loc → Prop) (C S : Nat) (st : State) : Prop :=
  ∃ s₂ o, Steps p.tables e below st s₂ ∧ s₂.status = .running ∧ Ended s₂ below o ∧ ∃ v L, o = .returned v ∧ Q v s₂.heap L ∧ FrameEnd s o s₂ L C S
theorem Fin.step {st st' : State} (h : ∀ t, Steps p.tables e below st' t → Steps p.tables e below st t) (k : Fin p e below s Q C S st') : Fin p e below s Q C S st := by
  obtain ⟨s₂, o, h1, h2⟩ := k
  exact ⟨s₂, o, h _ h1, h2⟩
theorem Fin.ret (X : Stand p l e R s m args below meth c T locs cells slots) {v : Option Value} {g : JFrame} (hv : meth.sig.returnType = none → v = none) (hlocks : meth.locks = false)
    (hst : ∀ fs, (∀ (f : JFrame) (acts : List Action), f.method = m → f.locked = none → f.entered = [] → (doReturn e (T.setTop f) acts v).1 = T.setFrames fs) → Steps p.tables e below (T.setTop g) (T.setFrames fs))
    (hC : cells ≤ C) (hS : slots ≤ S) (q : Q v T.heap locs) : Fin p e below s Q C S (T.setTop g) := by
  obtain ⟨fs, hr, hrun, hended, hW, hsame⟩ := X.leave (v := v) hv hlocks
  exact ⟨_, _, hst fs hr, hrun, hended, _, _, rfl, q, ⟨_, rfl⟩, hW, hsame.mono hC hS⟩
theorem Fin.retI (X : Stand p l e R s m args below meth c T locs cells slots) (hx : p.tables.exec = Jvm.exec) {pc : Nat} {Ls : Array Slot} {z : Int32} {rest : List Value} (hret : meth.sig.returnType = some .int) (hlocks : meth.locks = false) (hd : decode c.code pc = .ok (.ireturn, 1))
    (hC : cells ≤ C) (hS : slots ≤ S) (q : Q (some (.int z)) T.heap locs) : Fin p e below s Q C S (T.setTop (mkF m pc Ls (.int z :: rest))) :=
  Fin.ret X (fun h => by rw [hret] at h; cases h) hlocks (fun fs hl => retOut X hx hret rfl (Or.inl ⟨rfl, Or.inl rfl, z, rfl⟩) hd hl) hC hS q
theorem Fin.retJ (X : Stand p l e R s m args below meth c T locs cells slots) (hx : p.tables.exec = Jvm.exec) {pc : Nat} {Ls : Array Slot} {z : Int64} {rest : List Value} (hret : meth.sig.returnType = some .long) (hlocks : meth.locks = false) (hd : decode c.code pc = .ok (.lreturn, 1))
    (hC : cells ≤ C) (hS : slots ≤ S) (q : Q (some (.long z)) T.heap locs) : Fin p e below s Q C S (T.setTop (mkF m pc Ls (.long z :: rest))) :=
  Fin.ret X (fun h => by rw [hret] at h; cases h) hlocks (fun fs hl => retOut X hx hret rfl (Or.inr (Or.inl ⟨rfl, rfl, z, rfl⟩)) hd hl) hC hS q
theorem Fin.retD (X : Stand p l e R s m args below meth c T locs cells slots) (hx : p.tables.exec = Jvm.exec) {pc : Nat} {Ls : Array Slot} {z : UInt64} {rest : List Value} (hret : meth.sig.returnType = some .double) (hlocks : meth.locks = false) (hd : decode c.code pc = .ok (.dreturn, 1))
    (hC : cells ≤ C) (hS : slots ≤ S) (q : Q (some (.double z)) T.heap locs) : Fin p e below s Q C S (T.setTop (mkF m pc Ls (.double z :: rest))) :=
  Fin.ret X (fun h => by rw [hret] at h; cases h) hlocks (fun fs hl => retOut X hx hret rfl (Or.inr (Or.inr (Or.inl ⟨rfl, rfl, z, rfl⟩))) hd hl) hC hS q
theorem Fin.retR (X : Stand p l e R s m args below meth c T locs cells slots) (hx : p.tables.exec = Jvm.exec) {pc : Nat} {Ls : Array Slot} {w : Value} {t : FieldType} {rest : List Value} (hret : meth.sig.returnType = some t) (ht : t.isReference = true) (hw : w.isRef = true) (hlocks : meth.locks = false) (hd : decode c.code pc = .ok (.areturn, 1))
    (hC : cells ≤ C) (hS : slots ≤ S) (q : Q (some w) T.heap locs) : Fin p e below s Q C S (T.setTop (mkF m pc Ls (w :: rest))) :=
  Fin.ret X (fun h => by rw [hret] at h; cases h) hlocks (fun fs hl => retOut X hx hret (by cases t <;> simp [FieldType.isReference] at ht <;> cases w <;> simp [Value.isRef] at hw <;> rfl) (Or.inr (Or.inr (Or.inr (Or.inr ⟨rfl, ht, hw⟩)))) hd hl) hC hS q
theorem Fin.retN (X : Stand p l e R s m args below meth c T locs cells slots) (hx : p.tables.exec = Jvm.exec) {pc : Nat} {Ls : Array Slot} {z : Int32} {t : FieldType} {rest : List Value} (hret : meth.sig.returnType = some t) (ht : t = .boolean ∨ t = .byte ∨ t = .char ∨ t = .short) (hlocks : meth.locks = false) (hd : decode c.code pc = .ok (.ireturn, 1))
    (hC : cells ≤ C) (hS : slots ≤ S) (q : Q (some (.int (nar t z))) T.heap locs) : Fin p e below s Q C S (T.setTop (mkF m pc Ls (.int z :: rest))) :=
  Fin.ret X (fun h => by rw [hret] at h; cases h) hlocks (fun fs hl => RoadKit.retN X hx hret ht hd hl) hC hS q
theorem Fin.retV (X : Stand p l e R s m args below meth c T locs cells slots) (hx : p.tables.exec = Jvm.exec) {pc : Nat} {Ls : Array Slot} (hret : meth.sig.returnType = none) (hlocks : meth.locks = false) (hd : decode c.code pc = .ok (.return_, 1))
    (hC : cells ≤ C) (hS : slots ≤ S) (q : Q none T.heap locs) : Fin p e below s Q C S (T.setTop (mkF m pc Ls [])) :=
  Fin.ret X (fun _ => rfl) hlocks (fun fs hl => X.returnOut hx hret hd hl) hC hS q
/-- the same where the walk may intern: the end's frame is ReturnedEndW -/
def FinW (p : Program) (e : Env) (below : List Frame) (s : State) (Q : Option Value → Heap → List Loc → Prop) (C S : Nat) (st : State) : Prop :=
  ∃ s₂ o, Steps p.tables e below st s₂ ∧ s₂.status = .running ∧ Ended s₂ below o ∧ ∃ v L, o = .returned v ∧ Q v s₂.heap L ∧ ReturnedEndW s o s₂ L C S
theorem FinW.step {st st' : State} (h : ∀ t, Steps p.tables e below st' t → Steps p.tables e below st t) (k : FinW p e below s Q C S st') : FinW p e below s Q C S st := by
  obtain ⟨s₂, o, h1, h2⟩ := k
  exact ⟨s₂, o, h _ h1, h2⟩
theorem FinW.ret {vm₁ : Vm} (X : Stand p l e R (s.setVm vm₁) m args below meth c T locs cells slots) {n : Nat} (hS : s.Since vm₁ n) (hn : n ≤ T.heap.size) {v : Option Value} {g : JFrame} (hv : meth.sig.returnType = none → v = none) (hlocks : meth.locks = false)
    (hst : ∀ fs, (∀ (f : JFrame) (acts : List Action), f.method = m → f.locked = none → f.entered = [] → (doReturn e (T.setTop f) acts v).1 = T.setFrames fs) → Steps p.tables e below (T.setTop g) (T.setFrames fs))
    (hC : cells ≤ C) (hS' : slots ≤ S) (q : Q v T.heap locs) : FinW p e below s Q C S (T.setTop g) := by
  obtain ⟨fs, hr, hrun, hended, hW⟩ := X.leaveW hS hn (v := v) hv hlocks
  exact ⟨_, _, hst fs hr, hrun, hended, _, _, rfl, q, hW.1, hW.2.1, hW.2.2.1, hW.2.2.2.mono hC hS'⟩
theorem FinW.retN {vm₁ : Vm} (X : Stand p l e R (s.setVm vm₁) m args below meth c T locs cells slots) {n : Nat} (hS : s.Since vm₁ n) (hn : n ≤ T.heap.size) (hx : p.tables.exec = Jvm.exec) {pc : Nat} {Ls : Array Slot} {z : Int32} {t : FieldType} {rest : List Value} (hret : meth.sig.returnType = some t) (ht : t = .boolean ∨ t = .byte ∨ t = .char ∨ t = .short) (hlocks : meth.locks = false) (hd : decode c.code pc = .ok (.ireturn, 1))
    (hC : cells ≤ C) (hS' : slots ≤ S) (q : Q (some (.int (nar t z))) T.heap locs) : FinW p e below s Q C S (T.setTop (mkF m pc Ls (.int z :: rest))) :=
  FinW.ret X hS hn (fun h => by rw [hret] at h; cases h) hlocks (fun fs hl => RoadKit.retN X hx hret ht hd hl) hC hS' q
theorem FinW.retR {vm₁ : Vm} (X : Stand p l e R (s.setVm vm₁) m args below meth c T locs cells slots) {n : Nat} (hS : s.Since vm₁ n) (hn : n ≤ T.heap.size) (hx : p.tables.exec = Jvm.exec) {pc : Nat} {Ls : Array Slot} {w : Value} {t : FieldType} {rest : List Value} (hret : meth.sig.returnType = some t) (ht : t.isReference = true) (hw : w.isRef = true) (hlocks : meth.locks = false) (hd : decode c.code pc = .ok (.areturn, 1))
    (hC : cells ≤ C) (hS' : slots ≤ S) (q : Q (some w) T.heap locs) : FinW p e below s Q C S (T.setTop (mkF m pc Ls (w :: rest))) :=
  FinW.ret X hS hn (fun h => by rw [hret] at h; cases h) hlocks (fun fs hl => retOut X hx hret (by cases t <;> simp [FieldType.isReference] at ht <;> cases w <;> simp [Value.isRef] at hw <;> rfl) (Or.inr (Or.inr (Or.inr (Or.inr ⟨rfl, ht, hw⟩)))) hd hl) hC hS' q
theorem Fld.cast {Z : State} {h : Heap} {a : Addr} {C n d : String} {v w : Value} (F : Fld Z h a C n d v) (e : v = w) : Fld Z h a C n d w := e ▸ F
theorem Sta_keep {Z : State} {h h' : Heap} {C n d : String} {v : Value} (F : Sta Z h C n d v) (K : Keep h h' []) : Sta Z h' C n d v := by
  obtain ⟨cf, i, k, f, st, cell, h1, h2, h3, h4, h5, r⟩ := F
  exact ⟨cf, i, k, f, st, cell, h1, h2, h3, h4, K.2.1 _ _ h5 nin0, r⟩
theorem Arr_keep {Z : State} {h h' : Heap} {a : Addr} {c : Cell} {ty : FieldType} (F : Arr Z h a c ty) (K : Keep h h' []) : Arr Z h' a c ty := ⟨K.2.1 _ _ F.1 nin0, F.2⟩
/-- the shifts without sign -/
def ushL (x : Int64) (k : Int32) : Int64 := (x.toUInt64 >>> (k &&& 0x3f).toInt64.toUInt64).toInt64
def ushI (x k : Int32) : Int32 := (x.toUInt32 >>> (k &&& 31).toUInt32).toInt32
theorem lcE {x y : Int64} (h : x = y) : lcmpW x y = 0 := by rw [lcW]; exact (lc_eq x y).mpr h
theorem lcNE {x y : Int64} (h : ¬ x = y) : ¬ lcmpW x y = 0 := fun q => h ((lc_eq x y).mp (by rw [← lcW]; exact q))
theorem lcL {x y : Int64} (h : x < y) : lcmpW x y < 0 := by rw [lcW]; exact (lc_lt x y).mpr h
theorem lcNL {x y : Int64} (h : ¬ x < y) : ¬ lcmpW x y < 0 := fun q => h ((lc_lt x y).mp (by rw [← lcW]; exact q))
theorem lcG {x y : Int64} (h : y < x) : 0 < lcmpW x y := by rw [lcW]; exact (lc_gt x y).mpr h
theorem lcNG {x y : Int64} (h : ¬ y < x) : ¬ 0 < lcmpW x y := fun q => h ((lc_gt x y).mp (by rw [← lcW]; exact q))
end Own
end Jvm.OwnKit
namespace Jvm.Pilot.@@N@@
open Jvm Jvm.ClassFile Sem Op Lib Jvm.Free Jvm.Stand Jvm.LawKit Jvm.RoadKit Jvm.OwnKit Bundle Jvm.Pilot.@@N@@.Jvm.D
def own_ref (p0 : Int32) (a b c d : Int64) : Int64 := if p0 = 0 then a else if p0 = 1 then b else if p0 = 2 then c else d
theorem own_r3 (x : Int32) : ¬ (x &&& 3) < 0 ∧ (x &&& 3) < 4 := by
  have h : (x &&& 3).toInt = x.toInt % 2 ^ 2 := Jvm.Kit.i32_mask x 3 (k := 2) (by decide) (by decide)
  rw [Int32.lt_iff_toInt_lt, Int32.lt_iff_toInt_lt]
  show ¬ _ < (0 : Int) ∧ _ < (4 : Int)
  omega
theorem own_four {x : Int32} (h : ¬ x < 0 ∧ x < 4) : x = 0 ∨ x = 1 ∨ x = 2 ∨ x = 3 := by
  rw [Int32.lt_iff_toInt_lt, Int32.lt_iff_toInt_lt] at h
  have h' : ¬ x.toInt < (0 : Int) ∧ x.toInt < (4 : Int) := h
  have e : x.toInt = 0 ∨ x.toInt = 1 ∨ x.toInt = 2 ∨ x.toInt = 3 := by omega
  rcases e with e | e | e | e
  · exact Or.inl (Int32.toInt_inj.mp (by rw [e]; rfl))
  · exact Or.inr (Or.inl (Int32.toInt_inj.mp (by rw [e]; rfl)))
  · exact Or.inr (Or.inr (Or.inl (Int32.toInt_inj.mp (by rw [e]; rfl))))
  · exact Or.inr (Or.inr (Or.inr (Int32.toInt_inj.mp (by rw [e]; rfl))))
theorem own_get {x : Int32} (a b c d : Int64) (h : ¬ x < 0 ∧ x < 4) : [Value.long a, Value.long b, Value.long c, Value.long d].getD x.toNatClampNeg (.long (0 : Int64)) = .long (own_ref x a b c d) := by
  rcases own_four h with rfl | rfl | rfl | rfl <;> rfl
theorem own_n5 (x : Int32) : (x &&& 7) % 5 = 0 ∨ (x &&& 7) % 5 = 1 ∨ (x &&& 7) % 5 = 2 ∨ (x &&& 7) % 5 = 3 ∨ (x &&& 7) % 5 = 4 := by
  have h : (x &&& 7).toInt = x.toInt % 2 ^ 3 := Jvm.Kit.i32_mask x 7 (k := 3) (by decide) (by decide)
  have h2 : ((x &&& 7) % 5).toInt = (x &&& 7).toInt % 5 := Jvm.Kit.i32_rem_nonneg (y := 5) (by omega)
  generalize (x &&& 7) % 5 = y at *
  have e : y.toInt = 0 ∨ y.toInt = 1 ∨ y.toInt = 2 ∨ y.toInt = 3 ∨ y.toInt = 4 := by omega
  rcases e with e | e | e | e | e
  · exact Or.inl (Int32.toInt_inj.mp (by rw [e]; rfl))
  · exact Or.inr (Or.inl (Int32.toInt_inj.mp (by rw [e]; rfl)))
  · exact Or.inr (Or.inr (Or.inl (Int32.toInt_inj.mp (by rw [e]; rfl))))
  · exact Or.inr (Or.inr (Or.inr (Or.inl (Int32.toInt_inj.mp (by rw [e]; rfl)))))
  · exact Or.inr (Or.inr (Or.inr (Or.inr (Int32.toInt_inj.mp (by rw [e]; rfl)))))
theorem d2_0 : decode method_2_code 0 = .ok (.iload_n 0, 1) := by decide +kernel
theorem d2_1 : decode method_2_code 1 = .ok (.ifCond .ne 5, 3) := by decide +kernel
theorem d2_4 : decode method_2_code 4 = .ok (.lload_n 1, 1) := by decide +kernel
theorem d2_5 : decode method_2_code 5 = .ok (.lreturn, 1) := by decide +kernel
theorem d2_6 : decode method_2_code 6 = .ok (.iload_n 0, 1) := by decide +kernel
theorem d2_7 : decode method_2_code 7 = .ok (.iconst 1, 1) := by decide +kernel
theorem d2_8 : decode method_2_code 8 = .ok (.if_icmp .ne 5, 3) := by decide +kernel
theorem d2_11 : decode method_2_code 11 = .ok (.lload_n 3, 1) := by decide +kernel
theorem d2_12 : decode method_2_code 12 = .ok (.lreturn, 1) := by decide +kernel
theorem d2_13 : decode method_2_code 13 = .ok (.iload_n 0, 1) := by decide +kernel
theorem d2_14 : decode method_2_code 14 = .ok (.iconst 2, 1) := by decide +kernel
theorem d2_15 : decode method_2_code 15 = .ok (.if_icmp .ne 6, 3) := by decide +kernel
theorem d2_18 : decode method_2_code 18 = .ok (.lload 5, 2) := by decide +kernel
theorem d2_20 : decode method_2_code 20 = .ok (.lreturn, 1) := by decide +kernel
theorem d2_21 : decode method_2_code 21 = .ok (.lload 7, 2) := by decide +kernel
theorem d2_23 : decode method_2_code 23 = .ok (.lreturn, 1) := by decide +kernel
theorem pn_2 : plainName "com/example/uzor/uzor/RowPickPinLaw" = true := by first | (simp [plainName, overriddenIn]; done) | decide +kernel
theorem ef_rm2 (m : MethodId) (x0 : Int32) (x1 : Int64) (x2 : Int64) (x3 : Int64) (x4 : Int64) : entryFrame m #[(.int x0), (.long x1), (.long x2), (.long x3), (.long x4)] 9 = mkF m 0 #[.val (.int x0), .val (.long x1), .second, .val (.long x2), .second, .val (.long x3), .second, .val (.long x4), .second] [] := by first | (simp [entryFrame, mkF, argsToLocals, Value.category]; done) | rfl
def Q2 (Z : State) (p1 : Int32) (q0 : Int64) (q1 : Int64) (q2 : Int64) (q3 : Int64) (h0 : Heap) (n0 : Nat) (v : Option Value) (h : Heap) (L : List Loc) : Prop := v = some (.long (own_ref p1 q0 q1 q2 q3)) ∧ Fr n0 L ∧ h = h0
set_option maxRecDepth 65536 in
set_option maxHeartbeats 40000000 in
theorem rm2 (l : Launch) (Z : State) (a0 : Array Value) (hw : ∀ d ∈ tables_1, d.before a0 Z = true) (ws : List Jvm.Cond) (p1 : Int32) (q0 : Int64) (q1 : Int64) (q2 : Int64) (q3 : Int64) (h0 : Heap) (n0 : Nat) (Z0 : n0 ≤ h0.size) :
    MetFree l (⟨"com/example/uzor/uzor/RowPickPinLaw", "ref", "(IJJJJ)J"⟩ : MethodName) (head1 (Jvm.Cond.code (⟨"com/example/uzor/uzor/RowPickPinLaw", "ref", "(IJJJJ)J"⟩ : MethodName) method_2_code 9 (some .long) :: ws) ({ frames := 0, cells := 0, slots := 0, locals := 0 } : Room)) (fun a U => a = #[(.int p1), (.long q0), (.long q1), (.long q2), (.long q3)] ∧ Z.Warmed39 U.vm ∧ U.heap = h0) (fun _ _ _ _ _ => True) (fun _ U o U' => ∃ v L, o = .returned v ∧ Q2 Z p1 q0 q1 q2 q3 h0 n0 v U'.heap L ∧ FrameEnd U o U' L ({ frames := 0, cells := 0, slots := 0, locals := 0 } : Room).cells ({ frames := 0, cells := 0, slots := 0, locals := 0 } : Room).slots) := by
  refine MetFree.of_bodySF (plainFor_of_name pn_2) hisR ?_
  intro p e s m args below meth c s₁ Bd hml0 hP hK
  obtain ⟨rfl, hZ, hh⟩ := hP
  have hx := Bd.exec
  have hby := Bd.bytes
  have hlk := BodyLoose.notSynchronized Bd
  have hret := Bd.returns
  have hml : c.maxLocals = 9 := hml0
  have hown : s.vm.findClass "com/example/uzor/uzor/RowPickPinLaw" = some m.cls := findClass_of_methodNamed Bd.named
  have hnm := (name_of_methodNamed Bd.named Bd.method).1
  have X0 : Stand p l e ({ frames := 0, cells := 0, slots := 0, locals := 0 } : Room) s m #[(.int p1), (.long q0), (.long q1), (.long q2), (.long q3)] below meth c s₁ [] 0 0 := Stand.of_body Bd
  have e0 : s₁.heap = h0 := by rw [← hh, Bd.state]; rfl
  have N0 := Fr.nil n0
  have K0 : Keep h0 h0 [] := Keep.refl h0 _
  refine Fin.step (Q := fun v h L => Q2 Z p1 q0 q1 q2 q3 h0 n0 v h L) (st' := s₁.setTop (mkF m 0 #[.val (.int p1), .val (.long q0), .second, .val (.long q1), .second, .val (.long q2), .second, .val (.long q3), .second] [])) (fun t k => castTop (ef_rm2 m p1 q0 q1 q2 q3) k) ?_
  show Fin p e below s _ _ _ (s₁.setTop (mkF m 0 #[.val (.int p1), .val (.long q0), .second, .val (.long q1), .second, .val (.long q2), .second, .val (.long q3), .second] []))
  refine Fin.step (fun _ => XS.iloadN X0.here hx rfl (hb hby d2_0) rfl) ?_
  show Fin p e below s _ _ _ (s₁.setTop (mkF m 1 #[.val (.int p1), .val (.long q0), .second, .val (.long q1), .second, .val (.long q2), .second, .val (.long q3), .second] [(.int p1)]))
  by_cases hcy1 : p1 = (0 : Int32)
  · refine Fin.step (fun _ => XS.ifNo X0.here hx rfl (hb hby d2_1) rfl ((if0 _ _).trans (teq (hcy1 : (p1 = (0 : Int32)))).2)) ?_
    show Fin p e below s _ _ _ (s₁.setTop (mkF m 4 #[.val (.int p1), .val (.long q0), .second, .val (.long q1), .second, .val (.long q2), .second, .val (.long q3), .second] []))
    refine Fin.step (fun _ => XS.lloadN X0.here hx rfl (hb hby d2_4) rfl) ?_
    show Fin p e below s _ _ _ (s₁.setTop (mkF m 5 #[.val (.int p1), .val (.long q0), .second, .val (.long q1), .second, .val (.long q2), .second, .val (.long q3), .second] [(.long q0)]))
    refine Fin.retJ X0 hx hret hlk (hb hby d2_5) (by decide) (by decide) ?_
    show Q2 Z p1 q0 q1 q2 q3 h0 n0 _ s₁.heap _
    rw [e0]
    exact ⟨(congrArg (fun z => some (Value.long z)) (by rw [own_ref, if_pos hcy1]; first | done | rfl)), N0, rfl⟩
  · refine Fin.step (fun _ => XS.ifYes X0.here hx rfl (pc0 := 1) (pc' := 6) rfl (hb hby d2_1) rfl ((if0 _ _).trans (feq (hcy1 : ¬ (p1 = (0 : Int32)))).2) (by decide) (by decide)) ?_
    show Fin p e below s _ _ _ (s₁.setTop (mkF m 6 #[.val (.int p1), .val (.long q0), .second, .val (.long q1), .second, .val (.long q2), .second, .val (.long q3), .second] []))
    refine Fin.step (fun _ => XS.iloadN X0.here hx rfl (hb hby d2_6) rfl) ?_
    show Fin p e below s _ _ _ (s₁.setTop (mkF m 7 #[.val (.int p1), .val (.long q0), .second, .val (.long q1), .second, .val (.long q2), .second, .val (.long q3), .second] [(.int p1)]))
    refine Fin.step (fun _ => XS.iconst X0.here hx rfl (hb hby d2_7)) ?_
    show Fin p e below s _ _ _ (s₁.setTop (mkF m 8 #[.val (.int p1), .val (.long q0), .second, .val (.long q1), .second, .val (.long q2), .second, .val (.long q3), .second] [(.int (1 : Int32)), (.int p1)]))
    by_cases hcy2 : p1 = (1 : Int32)
    · refine Fin.step (fun _ => XS.icmpNo X0.here hx rfl (hb hby d2_8) rfl (teq (hcy2 : (p1 = (1 : Int32)))).2) ?_
      show Fin p e below s _ _ _ (s₁.setTop (mkF m 11 #[.val (.int p1), .val (.long q0), .second, .val (.long q1), .second, .val (.long q2), .second, .val (.long q3), .second] []))
      refine Fin.step (fun _ => XS.lloadN X0.here hx rfl (hb hby d2_11) rfl) ?_
      show Fin p e below s _ _ _ (s₁.setTop (mkF m 12 #[.val (.int p1), .val (.long q0), .second, .val (.long q1), .second, .val (.long q2), .second, .val (.long q3), .second] [(.long q1)]))
      refine Fin.retJ X0 hx hret hlk (hb hby d2_12) (by decide) (by decide) ?_
      show Q2 Z p1 q0 q1 q2 q3 h0 n0 _ s₁.heap _
      rw [e0]
      exact ⟨(congrArg (fun z => some (Value.long z)) (by rw [own_ref, if_neg hcy1, if_pos hcy2]; first | done | rfl)), N0, rfl⟩
    · refine Fin.step (fun _ => XS.icmpYes X0.here hx rfl (pc0 := 8) (pc' := 13) rfl (hb hby d2_8) rfl (feq (hcy2 : ¬ (p1 = (1 : Int32)))).2 (by decide) (by decide)) ?_
      show Fin p e below s _ _ _ (s₁.setTop (mkF m 13 #[.val (.int p1), .val (.long q0), .second, .val (.long q1), .second, .val (.long q2), .second, .val (.long q3), .second] []))
      refine Fin.step (fun _ => XS.iloadN X0.here hx rfl (hb hby d2_13) rfl) ?_
      show Fin p e below s _ _ _ (s₁.setTop (mkF m 14 #[.val (.int p1), .val (.long q0), .second, .val (.long q1), .second, .val (.long q2), .second, .val (.long q3), .second] [(.int p1)]))
      refine Fin.step (fun _ => XS.iconst X0.here hx rfl (hb hby d2_14)) ?_
      show Fin p e below s _ _ _ (s₁.setTop (mkF m 15 #[.val (.int p1), .val (.long q0), .second, .val (.long q1), .second, .val (.long q2), .second, .val (.long q3), .second] [(.int (2 : Int32)), (.int p1)]))
      by_cases hcy3 : p1 = (2 : Int32)
      · refine Fin.step (fun _ => XS.icmpNo X0.here hx rfl (hb hby d2_15) rfl (teq (hcy3 : (p1 = (2 : Int32)))).2) ?_
        show Fin p e below s _ _ _ (s₁.setTop (mkF m 18 #[.val (.int p1), .val (.long q0), .second, .val (.long q1), .second, .val (.long q2), .second, .val (.long q3), .second] []))
        refine Fin.step (fun _ => XS.lload X0.here hx rfl (hb hby d2_18) rfl) ?_
        show Fin p e below s _ _ _ (s₁.setTop (mkF m 20 #[.val (.int p1), .val (.long q0), .second, .val (.long q1), .second, .val (.long q2), .second, .val (.long q3), .second] [(.long q2)]))
        refine Fin.retJ X0 hx hret hlk (hb hby d2_20) (by decide) (by decide) ?_
        show Q2 Z p1 q0 q1 q2 q3 h0 n0 _ s₁.heap _
        rw [e0]
        exact ⟨(congrArg (fun z => some (Value.long z)) (by rw [own_ref, if_neg hcy1, if_neg hcy2, if_pos hcy3]; first | done | rfl)), N0, rfl⟩
      · refine Fin.step (fun _ => XS.icmpYes X0.here hx rfl (pc0 := 15) (pc' := 21) rfl (hb hby d2_15) rfl (feq (hcy3 : ¬ (p1 = (2 : Int32)))).2 (by decide) (by decide)) ?_
        show Fin p e below s _ _ _ (s₁.setTop (mkF m 21 #[.val (.int p1), .val (.long q0), .second, .val (.long q1), .second, .val (.long q2), .second, .val (.long q3), .second] []))
        refine Fin.step (fun _ => XS.lload X0.here hx rfl (hb hby d2_21) rfl) ?_
        show Fin p e below s _ _ _ (s₁.setTop (mkF m 23 #[.val (.int p1), .val (.long q0), .second, .val (.long q1), .second, .val (.long q2), .second, .val (.long q3), .second] [(.long q3)]))
        refine Fin.retJ X0 hx hret hlk (hb hby d2_23) (by decide) (by decide) ?_
        show Q2 Z p1 q0 q1 q2 q3 h0 n0 _ s₁.heap _
        rw [e0]
        exact ⟨(congrArg (fun z => some (Value.long z)) (by rw [own_ref, if_neg hcy1, if_neg hcy2, if_neg hcy3]; first | done | rfl)), N0, rfl⟩
theorem d1_0 : decode prog_31_method_7_code 0 = .ok (.aload_n 1, 1) := by decide +kernel
theorem d1_1 : decode prog_31_method_7_code 1 = .ok (.arraylength, 1) := by decide +kernel
theorem d1_2 : decode prog_31_method_7_code 2 = .ok (.newarray .long, 2) := by decide +kernel
theorem d1_4 : decode prog_31_method_7_code 4 = .ok (.astore_n 2, 1) := by decide +kernel
theorem d1_5 : decode prog_31_method_7_code 5 = .ok (.iconst 0, 1) := by decide +kernel
theorem d1_6 : decode prog_31_method_7_code 6 = .ok (.istore_n 3, 1) := by decide +kernel
theorem d1_7 : decode prog_31_method_7_code 7 = .ok (.iload_n 3, 1) := by decide +kernel
theorem d1_8 : decode prog_31_method_7_code 8 = .ok (.aload_n 1, 1) := by decide +kernel
theorem d1_9 : decode prog_31_method_7_code 9 = .ok (.arraylength, 1) := by decide +kernel
theorem d1_10 : decode prog_31_method_7_code 10 = .ok (.if_icmp .ge 17, 3) := by decide +kernel
theorem d1_13 : decode prog_31_method_7_code 13 = .ok (.aload_n 2, 1) := by decide +kernel
theorem d1_14 : decode prog_31_method_7_code 14 = .ok (.iload_n 3, 1) := by decide +kernel
theorem d1_15 : decode prog_31_method_7_code 15 = .ok (.aload_n 0, 1) := by decide +kernel
theorem d1_16 : decode prog_31_method_7_code 16 = .ok (.aload_n 1, 1) := by decide +kernel
theorem d1_17 : decode prog_31_method_7_code 17 = .ok (.iload_n 3, 1) := by decide +kernel
theorem d1_18 : decode prog_31_method_7_code 18 = .ok (.iaload, 1) := by decide +kernel
theorem d1_19 : decode prog_31_method_7_code 19 = .ok (.laload, 1) := by decide +kernel
theorem d1_20 : decode prog_31_method_7_code 20 = .ok (.lastore, 1) := by decide +kernel
theorem d1_21 : decode prog_31_method_7_code 21 = .ok (.iinc 3 1, 3) := by decide +kernel
theorem d1_24 : decode prog_31_method_7_code 24 = .ok (.goto (-17), 3) := by decide +kernel
theorem d1_27 : decode prog_31_method_7_code 27 = .ok (.aload_n 2, 1) := by decide +kernel
theorem d1_28 : decode prog_31_method_7_code 28 = .ok (.areturn, 1) := by decide +kernel
theorem pn_1 : plainName "com/example/uzor/uzor/Row" = true := by first | (simp [plainName, overriddenIn]; done) | decide +kernel
theorem ef_rmp0 (m : MethodId) (x0 : Addr) (x1 : Addr) : entryFrame m #[(.ref x0), (.ref x1)] 4 = mkF m 0 #[.val (.ref x0), .val (.ref x1), .unset, .unset] [] := by first | (simp [entryFrame, mkF, argsToLocals, Value.category]; done) | rfl
def Qp0 (Z : State) (a1 : Addr) (a2 : Addr) (k1 : ClassId) (k2 : ClassId) (q0 : Int64) (q1 : Int64) (q2 : Int64) (q3 : Int64) (h0 : Heap) (n0 : Nat) (v : Option Value) (h : Heap) (L : List Loc) : Prop := ∃ kk : ClassId, ∃ b : Addr, v = some (.ref b) ∧ h0.size ≤ b ∧ Fr n0 L ∧ Keep h0 h [] ∧ Arv Z h b kk .long (0 : Int32) [] (.long (0 : Int64))
set_option maxRecDepth 65536 in
set_option maxHeartbeats 40000000 in
theorem rmp0 (l : Launch) (Z : State) (a0 : Array Value) (hw : ∀ d ∈ tables_1, d.before a0 Z = true) (ws : List Jvm.Cond) (a1 : Addr) (a2 : Addr) (k1 : ClassId) (k2 : ClassId) (q0 : Int64) (q1 : Int64) (q2 : Int64) (q3 : Int64) (h0 : Heap) (n0 : Nat) (Z0 : n0 ≤ h0.size) (HV_a1 : Arv Z h0 a1 k1 .long (4 : Int32) [(.long q0), (.long q1), (.long q2), (.long q3)] (.long (0 : Int64))) (HV_a2 : Arv Z h0 a2 k2 .int (0 : Int32) [] (.int (0 : Int32))) :
    MetFree l (⟨"com/example/uzor/uzor/Row", "pick", "([J[I)[J"⟩ : MethodName) (head1 (Jvm.Cond.code (⟨"com/example/uzor/uzor/Row", "pick", "([J[I)[J"⟩ : MethodName) prog_31_method_7_code 4 (some (.array .long)) :: ws) ({ frames := 0, cells := 1, slots := 0, locals := 0 } : Room)) (fun a U => a = #[(.ref a1), (.ref a2)] ∧ Z.Warmed39 U.vm ∧ U.heap = h0) (fun _ _ _ _ _ => True) (fun _ U o U' => ∃ v L, o = .returned v ∧ Qp0 Z a1 a2 k1 k2 q0 q1 q2 q3 h0 n0 v U'.heap L ∧ FrameEnd U o U' L ({ frames := 0, cells := 1, slots := 0, locals := 0 } : Room).cells ({ frames := 0, cells := 1, slots := 0, locals := 0 } : Room).slots) := by
  refine MetFree.of_bodySF (plainFor_of_name pn_1) hisR ?_
  intro p e s m args below meth c s₁ Bd hml0 hP hK
  obtain ⟨rfl, hZ, hh⟩ := hP
  have hx := Bd.exec
  have hby := Bd.bytes
  have hlk := BodyLoose.notSynchronized Bd
  have hret := Bd.returns
  have hml : c.maxLocals = 4 := hml0
  have hown : s.vm.findClass "com/example/uzor/uzor/Row" = some m.cls := findClass_of_methodNamed Bd.named
  have hnm := (name_of_methodNamed Bd.named Bd.method).1
  have X0 : Stand p l e ({ frames := 0, cells := 1, slots := 0, locals := 0 } : Room) s m #[(.ref a1), (.ref a2)] below meth c s₁ [] 0 0 := Stand.of_body Bd
  have e0 : s₁.heap = h0 := by rw [← hh, Bd.state]; rfl
  have N0 := Fr.nil n0
  have K0 : Keep h0 h0 [] := Keep.refl h0 _
  refine Fin.step (Q := fun v h L => Qp0 Z a1 a2 k1 k2 q0 q1 q2 q3 h0 n0 v h L) (st' := s₁.setTop (mkF m 0 #[.val (.ref a1), .val (.ref a2), .unset, .unset] [])) (fun t k => castTop (ef_rmp0 m a1 a2) k) ?_
  show Fin p e below s _ _ _ (s₁.setTop (mkF m 0 #[.val (.ref a1), .val (.ref a2), .unset, .unset] []))
  refine Fin.step (fun _ => XS.aloadN X0.here hx rfl (hb hby d1_0) rfl rfl) ?_
  show Fin p e below s _ _ _ (s₁.setTop (mkF m 1 #[.val (.ref a1), .val (.ref a2), .unset, .unset] [(.ref a2)]))
  have voy1 := HV_a2
  obtain ⟨cly1, Ary1, qay1, say1, nay1, hay1, gay1⟩ := voy1
  refine Fin.step (X0.arraylength hx (by rw [e0]; exact Ary1.1) (State.isArrayOf_alike hZ.alike Ary1.2.1) (g := (mkF m 1 #[.val (.ref a1), .val (.ref a2), .unset, .unset] [(.ref a2)])) rfl rfl (hb hby d1_1)) ?_
  rw [len_of say1 nay1]
  show Fin p e below s _ _ _ (s₁.setTop (mkF m 2 #[.val (.ref a1), .val (.ref a2), .unset, .unset] [(.int (0 : Int32))]))
  obtain ⟨Ty2, hy2, ky2, Xy2, ey2, Ey2, Ay2, sty2⟩ := newP X0 hx hZ (hw _ (List.mem_of_getElem? (i := 0) rfl)) e0 (g := (mkF m 2 #[.val (.ref a1), .val (.ref a2), .unset, .unset] [(.int (0 : Int32))])) rfl (hb hby d1_2) rfl (by decide) (cap := 0) (by decide) (by decide) (by decide) (by decide)
  obtain ⟨by2, gy2⟩ : ∃ z, z = h0.size := ⟨_, rfl⟩
  rw [← gy2] at Ay2 sty2
  have gzy2 : n0 ≤ by2 := Nat.le_trans Z0 (Nat.le_of_eq gy2.symm)
  have szy2 : h0.size ≤ by2 := Nat.le_trans K0.1 (Nat.le_of_eq gy2.symm)
  have Zy2 : n0 ≤ hy2.size := Nat.le_trans Z0 Ey2.1
  have Ky2 : Keep h0 hy2 [] := K0.ext Ey2
  have Vy2 : Arv Z hy2 by2 ky2 .long (0 : Int32) [] (.long (0 : Int64)) := (Arv.new Ay2 (by decide)).pad (pad_rep [] (.long (0 : Int64)) 0)
  refine Fin.step (sty2) ?_
  show Fin p e below s _ _ _ (Ty2.setTop (mkF m 4 #[.val (.ref a1), .val (.ref a2), .unset, .unset] [(.ref by2)]))
  refine Fin.step (fun _ => XS.astoreN Xy2.here hx rfl (hb hby d1_4) rfl rfl (l' := #[.val (.ref a1), .val (.ref a2), .val (.ref by2), .unset]) rfl) ?_
  show Fin p e below s _ _ _ (Ty2.setTop (mkF m 5 #[.val (.ref a1), .val (.ref a2), .val (.ref by2), .unset] []))
  refine Fin.step (fun _ => XS.iconst Xy2.here hx rfl (hb hby d1_5)) ?_
  show Fin p e below s _ _ _ (Ty2.setTop (mkF m 6 #[.val (.ref a1), .val (.ref a2), .val (.ref by2), .unset] [(.int (0 : Int32))]))
  refine Fin.step (fun _ => XS.istoreN Xy2.here hx rfl (hb hby d1_6) rfl (l' := #[.val (.ref a1), .val (.ref a2), .val (.ref by2), .val (.int (0 : Int32))]) rfl) ?_
  show Fin p e below s _ _ _ (Ty2.setTop (mkF m 7 #[.val (.ref a1), .val (.ref a2), .val (.ref by2), .val (.int (0 : Int32))] []))
  refine Fin.step (fun _ => XS.iloadN Xy2.here hx rfl (hb hby d1_7) rfl) ?_
  show Fin p e below s _ _ _ (Ty2.setTop (mkF m 8 #[.val (.ref a1), .val (.ref a2), .val (.ref by2), .val (.int (0 : Int32))] [(.int (0 : Int32))]))
  refine Fin.step (fun _ => XS.aloadN Xy2.here hx rfl (hb hby d1_8) rfl rfl) ?_
  show Fin p e below s _ _ _ (Ty2.setTop (mkF m 9 #[.val (.ref a1), .val (.ref a2), .val (.ref by2), .val (.int (0 : Int32))] [(.ref a2), (.int (0 : Int32))]))
  have voy3 := (HV_a2.ext Ey2)
  obtain ⟨cly3, Ary3, qay3, say3, nay3, hay3, gay3⟩ := voy3
  refine Fin.step (Xy2.arraylength hx (by rw [ey2]; exact Ary3.1) (State.isArrayOf_alike hZ.alike Ary3.2.1) (g := (mkF m 9 #[.val (.ref a1), .val (.ref a2), .val (.ref by2), .val (.int (0 : Int32))] [(.ref a2), (.int (0 : Int32))])) rfl rfl (hb hby d1_9)) ?_
  rw [len_of say3 nay3]
  show Fin p e below s _ _ _ (Ty2.setTop (mkF m 10 #[.val (.ref a1), .val (.ref a2), .val (.ref by2), .val (.int (0 : Int32))] [(.int (0 : Int32)), (.int (0 : Int32))]))
  refine Fin.step (fun _ => XS.icmpYes Xy2.here hx rfl (pc0 := 10) (pc' := 27) rfl (hb hby d1_10) rfl (flt ((by decide) : ¬ ((0 : Int32) < (0 : Int32)))).2.1 (by decide) (by decide)) ?_
  show Fin p e below s _ _ _ (Ty2.setTop (mkF m 27 #[.val (.ref a1), .val (.ref a2), .val (.ref by2), .val (.int (0 : Int32))] []))
  refine Fin.step (fun _ => XS.aloadN Xy2.here hx rfl (hb hby d1_27) rfl rfl) ?_
  show Fin p e below s _ _ _ (Ty2.setTop (mkF m 28 #[.val (.ref a1), .val (.ref a2), .val (.ref by2), .val (.int (0 : Int32))] [(.ref by2)]))
  refine Fin.retR Xy2 hx hret rfl rfl hlk (hb hby d1_28) (by decide) (by decide) ?_
  show Qp0 Z a1 a2 k1 k2 q0 q1 q2 q3 h0 n0 _ Ty2.heap _
  rw [ey2]
  exact ⟨ky2, by2, rfl, szy2, N0, Ky2, Vy2⟩
theorem ef_rmp1 (m : MethodId) (x0 : Addr) (x1 : Addr) : entryFrame m #[(.ref x0), (.ref x1)] 4 = mkF m 0 #[.val (.ref x0), .val (.ref x1), .unset, .unset] [] := by first | (simp [entryFrame, mkF, argsToLocals, Value.category]; done) | rfl
def Qp1 (Z : State) (a1 : Addr) (a2 : Addr) (k1 : ClassId) (k2 : ClassId) (q0 : Int64) (q1 : Int64) (q2 : Int64) (q3 : Int64) (P0 : Int32) (h0 : Heap) (n0 : Nat) (v : Option Value) (h : Heap) (L : List Loc) : Prop := ∃ kk : ClassId, ∃ b : Addr, v = some (.ref b) ∧ h0.size ≤ b ∧ Fr n0 L ∧ Keep h0 h [] ∧ Arv Z h b kk .long (1 : Int32) [(.long (own_ref P0 q0 q1 q2 q3))] (.long (0 : Int64))
set_option maxRecDepth 65536 in
set_option maxHeartbeats 40000000 in
theorem rmp1 (l : Launch) (Z : State) (a0 : Array Value) (hw : ∀ d ∈ tables_1, d.before a0 Z = true) (ws : List Jvm.Cond) (a1 : Addr) (a2 : Addr) (k1 : ClassId) (k2 : ClassId) (q0 : Int64) (q1 : Int64) (q2 : Int64) (q3 : Int64) (P0 : Int32) (h0 : Heap) (n0 : Nat) (Z0 : n0 ≤ h0.size) (HV_a1 : Arv Z h0 a1 k1 .long (4 : Int32) [(.long q0), (.long q1), (.long q2), (.long q3)] (.long (0 : Int64))) (HV_a2 : Arv Z h0 a2 k2 .int (1 : Int32) [(.int P0)] (.int (0 : Int32))) (r0 : ¬ P0 < 0 ∧ P0 < 4) :
    MetFree l (⟨"com/example/uzor/uzor/Row", "pick", "([J[I)[J"⟩ : MethodName) (head1 (Jvm.Cond.code (⟨"com/example/uzor/uzor/Row", "pick", "([J[I)[J"⟩ : MethodName) prog_31_method_7_code 4 (some (.array .long)) :: ws) ({ frames := 0, cells := 1, slots := 1, locals := 0 } : Room)) (fun a U => a = #[(.ref a1), (.ref a2)] ∧ Z.Warmed39 U.vm ∧ U.heap = h0) (fun _ _ _ _ _ => True) (fun _ U o U' => ∃ v L, o = .returned v ∧ Qp1 Z a1 a2 k1 k2 q0 q1 q2 q3 P0 h0 n0 v U'.heap L ∧ FrameEnd U o U' L ({ frames := 0, cells := 1, slots := 1, locals := 0 } : Room).cells ({ frames := 0, cells := 1, slots := 1, locals := 0 } : Room).slots) := by
  refine MetFree.of_bodySF (plainFor_of_name pn_1) hisR ?_
  intro p e s m args below meth c s₁ Bd hml0 hP hK
  obtain ⟨rfl, hZ, hh⟩ := hP
  have hx := Bd.exec
  have hby := Bd.bytes
  have hlk := BodyLoose.notSynchronized Bd
  have hret := Bd.returns
  have hml : c.maxLocals = 4 := hml0
  have hown : s.vm.findClass "com/example/uzor/uzor/Row" = some m.cls := findClass_of_methodNamed Bd.named
  have hnm := (name_of_methodNamed Bd.named Bd.method).1
  have X0 : Stand p l e ({ frames := 0, cells := 1, slots := 1, locals := 0 } : Room) s m #[(.ref a1), (.ref a2)] below meth c s₁ [] 0 0 := Stand.of_body Bd
  have e0 : s₁.heap = h0 := by rw [← hh, Bd.state]; rfl
  have N0 := Fr.nil n0
  have K0 : Keep h0 h0 [] := Keep.refl h0 _
  refine Fin.step (Q := fun v h L => Qp1 Z a1 a2 k1 k2 q0 q1 q2 q3 P0 h0 n0 v h L) (st' := s₁.setTop (mkF m 0 #[.val (.ref a1), .val (.ref a2), .unset, .unset] [])) (fun t k => castTop (ef_rmp1 m a1 a2) k) ?_
  show Fin p e below s _ _ _ (s₁.setTop (mkF m 0 #[.val (.ref a1), .val (.ref a2), .unset, .unset] []))
  refine Fin.step (fun _ => XS.aloadN X0.here hx rfl (hb hby d1_0) rfl rfl) ?_
  show Fin p e below s _ _ _ (s₁.setTop (mkF m 1 #[.val (.ref a1), .val (.ref a2), .unset, .unset] [(.ref a2)]))
  have voy1 := HV_a2
  obtain ⟨cly1, Ary1, qay1, say1, nay1, hay1, gay1⟩ := voy1
  refine Fin.step (X0.arraylength hx (by rw [e0]; exact Ary1.1) (State.isArrayOf_alike hZ.alike Ary1.2.1) (g := (mkF m 1 #[.val (.ref a1), .val (.ref a2), .unset, .unset] [(.ref a2)])) rfl rfl (hb hby d1_1)) ?_
  rw [len_of say1 nay1]
  show Fin p e below s _ _ _ (s₁.setTop (mkF m 2 #[.val (.ref a1), .val (.ref a2), .unset, .unset] [(.int (1 : Int32))]))
  obtain ⟨Ty2, hy2, ky2, Xy2, ey2, Ey2, Ay2, sty2⟩ := newP X0 hx hZ (hw _ (List.mem_of_getElem? (i := 0) rfl)) e0 (g := (mkF m 2 #[.val (.ref a1), .val (.ref a2), .unset, .unset] [(.int (1 : Int32))])) rfl (hb hby d1_2) rfl (by decide) (cap := 1) (by decide) (by decide) (by decide) (by decide)
  obtain ⟨by2, gy2⟩ : ∃ z, z = h0.size := ⟨_, rfl⟩
  rw [← gy2] at Ay2 sty2
  have gzy2 : n0 ≤ by2 := Nat.le_trans Z0 (Nat.le_of_eq gy2.symm)
  have szy2 : h0.size ≤ by2 := Nat.le_trans K0.1 (Nat.le_of_eq gy2.symm)
  have Zy2 : n0 ≤ hy2.size := Nat.le_trans Z0 Ey2.1
  have Ky2 : Keep h0 hy2 [] := K0.ext Ey2
  have Vy2 : Arv Z hy2 by2 ky2 .long (1 : Int32) [(.long (0 : Int64))] (.long (0 : Int64)) := (Arv.new Ay2 (by decide)).pad (pad_rep [] (.long (0 : Int64)) 1)
  refine Fin.step (sty2) ?_
  show Fin p e below s _ _ _ (Ty2.setTop (mkF m 4 #[.val (.ref a1), .val (.ref a2), .unset, .unset] [(.ref by2)]))
  refine Fin.step (fun _ => XS.astoreN Xy2.here hx rfl (hb hby d1_4) rfl rfl (l' := #[.val (.ref a1), .val (.ref a2), .val (.ref by2), .unset]) rfl) ?_
  show Fin p e below s _ _ _ (Ty2.setTop (mkF m 5 #[.val (.ref a1), .val (.ref a2), .val (.ref by2), .unset] []))
  refine Fin.step (fun _ => XS.iconst Xy2.here hx rfl (hb hby d1_5)) ?_
  show Fin p e below s _ _ _ (Ty2.setTop (mkF m 6 #[.val (.ref a1), .val (.ref a2), .val (.ref by2), .unset] [(.int (0 : Int32))]))
  refine Fin.step (fun _ => XS.istoreN Xy2.here hx rfl (hb hby d1_6) rfl (l' := #[.val (.ref a1), .val (.ref a2), .val (.ref by2), .val (.int (0 : Int32))]) rfl) ?_
  show Fin p e below s _ _ _ (Ty2.setTop (mkF m 7 #[.val (.ref a1), .val (.ref a2), .val (.ref by2), .val (.int (0 : Int32))] []))
  refine Fin.step (fun _ => XS.iloadN Xy2.here hx rfl (hb hby d1_7) rfl) ?_
  show Fin p e below s _ _ _ (Ty2.setTop (mkF m 8 #[.val (.ref a1), .val (.ref a2), .val (.ref by2), .val (.int (0 : Int32))] [(.int (0 : Int32))]))
  refine Fin.step (fun _ => XS.aloadN Xy2.here hx rfl (hb hby d1_8) rfl rfl) ?_
  show Fin p e below s _ _ _ (Ty2.setTop (mkF m 9 #[.val (.ref a1), .val (.ref a2), .val (.ref by2), .val (.int (0 : Int32))] [(.ref a2), (.int (0 : Int32))]))
  have voy3 := (HV_a2.ext Ey2)
  obtain ⟨cly3, Ary3, qay3, say3, nay3, hay3, gay3⟩ := voy3
  refine Fin.step (Xy2.arraylength hx (by rw [ey2]; exact Ary3.1) (State.isArrayOf_alike hZ.alike Ary3.2.1) (g := (mkF m 9 #[.val (.ref a1), .val (.ref a2), .val (.ref by2), .val (.int (0 : Int32))] [(.ref a2), (.int (0 : Int32))])) rfl rfl (hb hby d1_9)) ?_
  rw [len_of say3 nay3]
  show Fin p e below s _ _ _ (Ty2.setTop (mkF m 10 #[.val (.ref a1), .val (.ref a2), .val (.ref by2), .val (.int (0 : Int32))] [(.int (1 : Int32)), (.int (0 : Int32))]))
  refine Fin.step (fun _ => XS.icmpNo Xy2.here hx rfl (hb hby d1_10) rfl (tlt ((by decide) : ((0 : Int32) < (1 : Int32)))).2.1) ?_
  show Fin p e below s _ _ _ (Ty2.setTop (mkF m 13 #[.val (.ref a1), .val (.ref a2), .val (.ref by2), .val (.int (0 : Int32))] []))
  refine Fin.step (fun _ => XS.aloadN Xy2.here hx rfl (hb hby d1_13) rfl rfl) ?_
  show Fin p e below s _ _ _ (Ty2.setTop (mkF m 14 #[.val (.ref a1), .val (.ref a2), .val (.ref by2), .val (.int (0 : Int32))] [(.ref by2)]))
  refine Fin.step (fun _ => XS.iloadN Xy2.here hx rfl (hb hby d1_14) rfl) ?_
  show Fin p e below s _ _ _ (Ty2.setTop (mkF m 15 #[.val (.ref a1), .val (.ref a2), .val (.ref by2), .val (.int (0 : Int32))] [(.int (0 : Int32)), (.ref by2)]))
  refine Fin.step (fun _ => XS.aloadN Xy2.here hx rfl (hb hby d1_15) rfl rfl) ?_
  show Fin p e below s _ _ _ (Ty2.setTop (mkF m 16 #[.val (.ref a1), .val (.ref a2), .val (.ref by2), .val (.int (0 : Int32))] [(.ref a1), (.int (0 : Int32)), (.ref by2)]))
  refine Fin.step (fun _ => XS.aloadN Xy2.here hx rfl (hb hby d1_16) rfl rfl) ?_
  show Fin p e below s _ _ _ (Ty2.setTop (mkF m 17 #[.val (.ref a1), .val (.ref a2), .val (.ref by2), .val (.int (0 : Int32))] [(.ref a2), (.ref a1), (.int (0 : Int32)), (.ref by2)]))
  refine Fin.step (fun _ => XS.iloadN Xy2.here hx rfl (hb hby d1_17) rfl) ?_
  show Fin p e below s _ _ _ (Ty2.setTop (mkF m 18 #[.val (.ref a1), .val (.ref a2), .val (.ref by2), .val (.int (0 : Int32))] [(.int (0 : Int32)), (.ref a2), (.ref a1), (.int (0 : Int32)), (.ref by2)]))
  have voy4 := (HV_a2.ext Ey2)
  obtain ⟨cly4, Ary4, qay4, say4, nay4, hay4, gay4⟩ := voy4
  have iny4 := inb_of (j := (0 : Int32)) say4 ⟨by decide, by decide⟩
  refine Fin.step (Xy2.iaload hx (j := (0 : Int32)) (v := (.int P0)) (by rw [ey2]; exact Ary4.1) (State.isArrayOf_alike hZ.alike Ary4.2.1) Ary4.2.2 iny4 (hay4.at iny4 rfl) (g := (mkF m 18 #[.val (.ref a1), .val (.ref a2), .val (.ref by2), .val (.int (0 : Int32))] [(.int (0 : Int32)), (.ref a2), (.ref a1), (.int (0 : Int32)), (.ref by2)])) rfl rfl (hb hby d1_18)) ?_
  show Fin p e below s _ _ _ (Ty2.setTop (mkF m 19 #[.val (.ref a1), .val (.ref a2), .val (.ref by2), .val (.int (0 : Int32))] [(.int P0), (.ref a1), (.int (0 : Int32)), (.ref by2)]))
  have voy5 := (HV_a1.ext Ey2)
  obtain ⟨cly5, Ary5, qay5, say5, nay5, hay5, gay5⟩ := voy5
  have iny5 := inb_of (j := P0) say5 r0
  refine Fin.step (Xy2.laload hx (j := P0) (v := (.long (own_ref P0 q0 q1 q2 q3))) (by rw [ey2]; exact Ary5.1) (State.isArrayOf_alike hZ.alike Ary5.2.1) Ary5.2.2 iny5 (hay5.at iny5 (own_get q0 q1 q2 q3 r0)) (g := (mkF m 19 #[.val (.ref a1), .val (.ref a2), .val (.ref by2), .val (.int (0 : Int32))] [(.int P0), (.ref a1), (.int (0 : Int32)), (.ref by2)])) rfl rfl (hb hby d1_19)) ?_
  show Fin p e below s _ _ _ (Ty2.setTop (mkF m 20 #[.val (.ref a1), .val (.ref a2), .val (.ref by2), .val (.int (0 : Int32))] [(.long (own_ref P0 q0 q1 q2 q3)), (.int (0 : Int32)), (.ref by2)]))
  have voy6 := Vy2
  obtain ⟨cly6, Ary6, qay6, say6, nay6, hay6, gay6⟩ := voy6
  obtain ⟨Ty6, hy6, Xy6, ey6, Wy6, sty6⟩ := stJ Xy2 hx hZ ey2 Ary6 (j := (0 : Int32)) (inb_of say6 ⟨by decide, by decide⟩) (g := (mkF m 20 #[.val (.ref a1), .val (.ref a2), .val (.ref by2), .val (.int (0 : Int32))] [(.long (own_ref P0 q0 q1 q2 q3)), (.int (0 : Int32)), (.ref by2)])) rfl rfl (hb hby d1_20)
  have Vy6 : Arv Z hy6 by2 ky2 .long (1 : Int32) [(.long (own_ref P0 q0 q1 q2 q3))] (.long (0 : Int64)) := Arv.set Ary6 qay6 say6 nay6 hay6 gay6 rfl Wy6 0 rfl (Nat.le_of_ble_eq_true rfl)
  have Zy6 : n0 ≤ hy6.size := Nat.le_trans Zy2 (Keep.of_wr Wy6).1
  have Ky6 : Keep h0 hy6 [] := Ky2.wr Wy6 (Or.inr szy2)
  have Ny6 := Fr.snoc Xy6 N0 gzy2
  refine Fin.step (sty6) ?_
  show Fin p e below s _ _ _ (Ty6.setTop (mkF m 21 #[.val (.ref a1), .val (.ref a2), .val (.ref by2), .val (.int (0 : Int32))] []))
  refine Fin.step (fun _ => XS.iinc Xy6.here hx rfl (hb hby d1_21) rfl (l' := #[.val (.ref a1), .val (.ref a2), .val (.ref by2), .val (.int (1 : Int32))]) rfl) ?_
  show Fin p e below s _ _ _ (Ty6.setTop (mkF m 24 #[.val (.ref a1), .val (.ref a2), .val (.ref by2), .val (.int (1 : Int32))] []))
  refine Fin.step (fun _ => XS.goto Xy6.here hx rfl (pc0 := 24) (pc' := 7) rfl (hb hby d1_24) (by decide) (by decide)) ?_
  show Fin p e below s _ _ _ (Ty6.setTop (mkF m 7 #[.val (.ref a1), .val (.ref a2), .val (.ref by2), .val (.int (1 : Int32))] []))
  refine Fin.step (fun _ => XS.iloadN Xy6.here hx rfl (hb hby d1_7) rfl) ?_
  show Fin p e below s _ _ _ (Ty6.setTop (mkF m 8 #[.val (.ref a1), .val (.ref a2), .val (.ref by2), .val (.int (1 : Int32))] [(.int (1 : Int32))]))
  refine Fin.step (fun _ => XS.aloadN Xy6.here hx rfl (hb hby d1_8) rfl rfl) ?_
  show Fin p e below s _ _ _ (Ty6.setTop (mkF m 9 #[.val (.ref a1), .val (.ref a2), .val (.ref by2), .val (.int (1 : Int32))] [(.ref a2), (.int (1 : Int32))]))
  have voy7 := ((HV_a2.ext Ey2).other Wy6 (Nat.ne_of_lt (Nat.lt_of_lt_of_le HV_a2.lt (Nat.le_of_eq gy2.symm))))
  obtain ⟨cly7, Ary7, qay7, say7, nay7, hay7, gay7⟩ := voy7
  refine Fin.step (Xy6.arraylength hx (by rw [ey6]; exact Ary7.1) (State.isArrayOf_alike hZ.alike Ary7.2.1) (g := (mkF m 9 #[.val (.ref a1), .val (.ref a2), .val (.ref by2), .val (.int (1 : Int32))] [(.ref a2), (.int (1 : Int32))])) rfl rfl (hb hby d1_9)) ?_
  rw [len_of say7 nay7]
  show Fin p e below s _ _ _ (Ty6.setTop (mkF m 10 #[.val (.ref a1), .val (.ref a2), .val (.ref by2), .val (.int (1 : Int32))] [(.int (1 : Int32)), (.int (1 : Int32))]))
  refine Fin.step (fun _ => XS.icmpYes Xy6.here hx rfl (pc0 := 10) (pc' := 27) rfl (hb hby d1_10) rfl (flt ((by decide) : ¬ ((1 : Int32) < (1 : Int32)))).2.1 (by decide) (by decide)) ?_
  show Fin p e below s _ _ _ (Ty6.setTop (mkF m 27 #[.val (.ref a1), .val (.ref a2), .val (.ref by2), .val (.int (1 : Int32))] []))
  refine Fin.step (fun _ => XS.aloadN Xy6.here hx rfl (hb hby d1_27) rfl rfl) ?_
  show Fin p e below s _ _ _ (Ty6.setTop (mkF m 28 #[.val (.ref a1), .val (.ref a2), .val (.ref by2), .val (.int (1 : Int32))] [(.ref by2)]))
  refine Fin.retR Xy6 hx hret rfl rfl hlk (hb hby d1_28) (by decide) (by decide) ?_
  show Qp1 Z a1 a2 k1 k2 q0 q1 q2 q3 P0 h0 n0 _ Ty6.heap _
  rw [ey6]
  exact ⟨ky2, by2, rfl, szy2, Ny6, Ky6, Vy6⟩
theorem ef_rmp2 (m : MethodId) (x0 : Addr) (x1 : Addr) : entryFrame m #[(.ref x0), (.ref x1)] 4 = mkF m 0 #[.val (.ref x0), .val (.ref x1), .unset, .unset] [] := by first | (simp [entryFrame, mkF, argsToLocals, Value.category]; done) | rfl
def Qp2 (Z : State) (a1 : Addr) (a2 : Addr) (k1 : ClassId) (k2 : ClassId) (q0 : Int64) (q1 : Int64) (q2 : Int64) (q3 : Int64) (P0 : Int32) (P1 : Int32) (h0 : Heap) (n0 : Nat) (v : Option Value) (h : Heap) (L : List Loc) : Prop := ∃ kk : ClassId, ∃ b : Addr, v = some (.ref b) ∧ h0.size ≤ b ∧ Fr n0 L ∧ Keep h0 h [] ∧ Arv Z h b kk .long (2 : Int32) [(.long (own_ref P0 q0 q1 q2 q3)), (.long (own_ref P1 q0 q1 q2 q3))] (.long (0 : Int64))
set_option maxRecDepth 65536 in
set_option maxHeartbeats 40000000 in
theorem rmp2 (l : Launch) (Z : State) (a0 : Array Value) (hw : ∀ d ∈ tables_1, d.before a0 Z = true) (ws : List Jvm.Cond) (a1 : Addr) (a2 : Addr) (k1 : ClassId) (k2 : ClassId) (q0 : Int64) (q1 : Int64) (q2 : Int64) (q3 : Int64) (P0 : Int32) (P1 : Int32) (h0 : Heap) (n0 : Nat) (Z0 : n0 ≤ h0.size) (HV_a1 : Arv Z h0 a1 k1 .long (4 : Int32) [(.long q0), (.long q1), (.long q2), (.long q3)] (.long (0 : Int64))) (HV_a2 : Arv Z h0 a2 k2 .int (2 : Int32) [(.int P0), (.int P1)] (.int (0 : Int32))) (r0 : ¬ P0 < 0 ∧ P0 < 4) (r1 : ¬ P1 < 0 ∧ P1 < 4) :
    MetFree l (⟨"com/example/uzor/uzor/Row", "pick", "([J[I)[J"⟩ : MethodName) (head1 (Jvm.Cond.code (⟨"com/example/uzor/uzor/Row", "pick", "([J[I)[J"⟩ : MethodName) prog_31_method_7_code 4 (some (.array .long)) :: ws) ({ frames := 0, cells := 1, slots := 2, locals := 0 } : Room)) (fun a U => a = #[(.ref a1), (.ref a2)] ∧ Z.Warmed39 U.vm ∧ U.heap = h0) (fun _ _ _ _ _ => True) (fun _ U o U' => ∃ v L, o = .returned v ∧ Qp2 Z a1 a2 k1 k2 q0 q1 q2 q3 P0 P1 h0 n0 v U'.heap L ∧ FrameEnd U o U' L ({ frames := 0, cells := 1, slots := 2, locals := 0 } : Room).cells ({ frames := 0, cells := 1, slots := 2, locals := 0 } : Room).slots) := by
  refine MetFree.of_bodySF (plainFor_of_name pn_1) hisR ?_
  intro p e s m args below meth c s₁ Bd hml0 hP hK
  obtain ⟨rfl, hZ, hh⟩ := hP
  have hx := Bd.exec
  have hby := Bd.bytes
  have hlk := BodyLoose.notSynchronized Bd
  have hret := Bd.returns
  have hml : c.maxLocals = 4 := hml0
  have hown : s.vm.findClass "com/example/uzor/uzor/Row" = some m.cls := findClass_of_methodNamed Bd.named
  have hnm := (name_of_methodNamed Bd.named Bd.method).1
  have X0 : Stand p l e ({ frames := 0, cells := 1, slots := 2, locals := 0 } : Room) s m #[(.ref a1), (.ref a2)] below meth c s₁ [] 0 0 := Stand.of_body Bd
  have e0 : s₁.heap = h0 := by rw [← hh, Bd.state]; rfl
  have N0 := Fr.nil n0
  have K0 : Keep h0 h0 [] := Keep.refl h0 _
  refine Fin.step (Q := fun v h L => Qp2 Z a1 a2 k1 k2 q0 q1 q2 q3 P0 P1 h0 n0 v h L) (st' := s₁.setTop (mkF m 0 #[.val (.ref a1), .val (.ref a2), .unset, .unset] [])) (fun t k => castTop (ef_rmp2 m a1 a2) k) ?_
  show Fin p e below s _ _ _ (s₁.setTop (mkF m 0 #[.val (.ref a1), .val (.ref a2), .unset, .unset] []))
  refine Fin.step (fun _ => XS.aloadN X0.here hx rfl (hb hby d1_0) rfl rfl) ?_
  show Fin p e below s _ _ _ (s₁.setTop (mkF m 1 #[.val (.ref a1), .val (.ref a2), .unset, .unset] [(.ref a2)]))
  have voy1 := HV_a2
  obtain ⟨cly1, Ary1, qay1, say1, nay1, hay1, gay1⟩ := voy1
  refine Fin.step (X0.arraylength hx (by rw [e0]; exact Ary1.1) (State.isArrayOf_alike hZ.alike Ary1.2.1) (g := (mkF m 1 #[.val (.ref a1), .val (.ref a2), .unset, .unset] [(.ref a2)])) rfl rfl (hb hby d1_1)) ?_
  rw [len_of say1 nay1]
  show Fin p e below s _ _ _ (s₁.setTop (mkF m 2 #[.val (.ref a1), .val (.ref a2), .unset, .unset] [(.int (2 : Int32))]))
  obtain ⟨Ty2, hy2, ky2, Xy2, ey2, Ey2, Ay2, sty2⟩ := newP X0 hx hZ (hw _ (List.mem_of_getElem? (i := 0) rfl)) e0 (g := (mkF m 2 #[.val (.ref a1), .val (.ref a2), .unset, .unset] [(.int (2 : Int32))])) rfl (hb hby d1_2) rfl (by decide) (cap := 2) (by decide) (by decide) (by decide) (by decide)
  obtain ⟨by2, gy2⟩ : ∃ z, z = h0.size := ⟨_, rfl⟩
  rw [← gy2] at Ay2 sty2
  have gzy2 : n0 ≤ by2 := Nat.le_trans Z0 (Nat.le_of_eq gy2.symm)
  have szy2 : h0.size ≤ by2 := Nat.le_trans K0.1 (Nat.le_of_eq gy2.symm)
  have Zy2 : n0 ≤ hy2.size := Nat.le_trans Z0 Ey2.1
  have Ky2 : Keep h0 hy2 [] := K0.ext Ey2
  have Vy2 : Arv Z hy2 by2 ky2 .long (2 : Int32) [(.long (0 : Int64)), (.long (0 : Int64))] (.long (0 : Int64)) := (Arv.new Ay2 (by decide)).pad (pad_rep [] (.long (0 : Int64)) 2)
  refine Fin.step (sty2) ?_
  show Fin p e below s _ _ _ (Ty2.setTop (mkF m 4 #[.val (.ref a1), .val (.ref a2), .unset, .unset] [(.ref by2)]))
  refine Fin.step (fun _ => XS.astoreN Xy2.here hx rfl (hb hby d1_4) rfl rfl (l' := #[.val (.ref a1), .val (.ref a2), .val (.ref by2), .unset]) rfl) ?_
  show Fin p e below s _ _ _ (Ty2.setTop (mkF m 5 #[.val (.ref a1), .val (.ref a2), .val (.ref by2), .unset] []))
  refine Fin.step (fun _ => XS.iconst Xy2.here hx rfl (hb hby d1_5)) ?_
  show Fin p e below s _ _ _ (Ty2.setTop (mkF m 6 #[.val (.ref a1), .val (.ref a2), .val (.ref by2), .unset] [(.int (0 : Int32))]))
  refine Fin.step (fun _ => XS.istoreN Xy2.here hx rfl (hb hby d1_6) rfl (l' := #[.val (.ref a1), .val (.ref a2), .val (.ref by2), .val (.int (0 : Int32))]) rfl) ?_
  show Fin p e below s _ _ _ (Ty2.setTop (mkF m 7 #[.val (.ref a1), .val (.ref a2), .val (.ref by2), .val (.int (0 : Int32))] []))
  refine Fin.step (fun _ => XS.iloadN Xy2.here hx rfl (hb hby d1_7) rfl) ?_
  show Fin p e below s _ _ _ (Ty2.setTop (mkF m 8 #[.val (.ref a1), .val (.ref a2), .val (.ref by2), .val (.int (0 : Int32))] [(.int (0 : Int32))]))
  refine Fin.step (fun _ => XS.aloadN Xy2.here hx rfl (hb hby d1_8) rfl rfl) ?_
  show Fin p e below s _ _ _ (Ty2.setTop (mkF m 9 #[.val (.ref a1), .val (.ref a2), .val (.ref by2), .val (.int (0 : Int32))] [(.ref a2), (.int (0 : Int32))]))
  have voy3 := (HV_a2.ext Ey2)
  obtain ⟨cly3, Ary3, qay3, say3, nay3, hay3, gay3⟩ := voy3
  refine Fin.step (Xy2.arraylength hx (by rw [ey2]; exact Ary3.1) (State.isArrayOf_alike hZ.alike Ary3.2.1) (g := (mkF m 9 #[.val (.ref a1), .val (.ref a2), .val (.ref by2), .val (.int (0 : Int32))] [(.ref a2), (.int (0 : Int32))])) rfl rfl (hb hby d1_9)) ?_
  rw [len_of say3 nay3]
  show Fin p e below s _ _ _ (Ty2.setTop (mkF m 10 #[.val (.ref a1), .val (.ref a2), .val (.ref by2), .val (.int (0 : Int32))] [(.int (2 : Int32)), (.int (0 : Int32))]))
  refine Fin.step (fun _ => XS.icmpNo Xy2.here hx rfl (hb hby d1_10) rfl (tlt ((by decide) : ((0 : Int32) < (2 : Int32)))).2.1) ?_
  show Fin p e below s _ _ _ (Ty2.setTop (mkF m 13 #[.val (.ref a1), .val (.ref a2), .val (.ref by2), .val (.int (0 : Int32))] []))
  refine Fin.step (fun _ => XS.aloadN Xy2.here hx rfl (hb hby d1_13) rfl rfl) ?_
  show Fin p e below s _ _ _ (Ty2.setTop (mkF m 14 #[.val (.ref a1), .val (.ref a2), .val (.ref by2), .val (.int (0 : Int32))] [(.ref by2)]))
  refine Fin.step (fun _ => XS.iloadN Xy2.here hx rfl (hb hby d1_14) rfl) ?_
  show Fin p e below s _ _ _ (Ty2.setTop (mkF m 15 #[.val (.ref a1), .val (.ref a2), .val (.ref by2), .val (.int (0 : Int32))] [(.int (0 : Int32)), (.ref by2)]))
  refine Fin.step (fun _ => XS.aloadN Xy2.here hx rfl (hb hby d1_15) rfl rfl) ?_
  show Fin p e below s _ _ _ (Ty2.setTop (mkF m 16 #[.val (.ref a1), .val (.ref a2), .val (.ref by2), .val (.int (0 : Int32))] [(.ref a1), (.int (0 : Int32)), (.ref by2)]))
  refine Fin.step (fun _ => XS.aloadN Xy2.here hx rfl (hb hby d1_16) rfl rfl) ?_
  show Fin p e below s _ _ _ (Ty2.setTop (mkF m 17 #[.val (.ref a1), .val (.ref a2), .val (.ref by2), .val (.int (0 : Int32))] [(.ref a2), (.ref a1), (.int (0 : Int32)), (.ref by2)]))
  refine Fin.step (fun _ => XS.iloadN Xy2.here hx rfl (hb hby d1_17) rfl) ?_
  show Fin p e below s _ _ _ (Ty2.setTop (mkF m 18 #[.val (.ref a1), .val (.ref a2), .val (.ref by2), .val (.int (0 : Int32))] [(.int (0 : Int32)), (.ref a2), (.ref a1), (.int (0 : Int32)), (.ref by2)]))
  have voy4 := (HV_a2.ext Ey2)
  obtain ⟨cly4, Ary4, qay4, say4, nay4, hay4, gay4⟩ := voy4
  have iny4 := inb_of (j := (0 : Int32)) say4 ⟨by decide, by decide⟩
  refine Fin.step (Xy2.iaload hx (j := (0 : Int32)) (v := (.int P0)) (by rw [ey2]; exact Ary4.1) (State.isArrayOf_alike hZ.alike Ary4.2.1) Ary4.2.2 iny4 (hay4.at iny4 rfl) (g := (mkF m 18 #[.val (.ref a1), .val (.ref a2), .val (.ref by2), .val (.int (0 : Int32))] [(.int (0 : Int32)), (.ref a2), (.ref a1), (.int (0 : Int32)), (.ref by2)])) rfl rfl (hb hby d1_18)) ?_
  show Fin p e below s _ _ _ (Ty2.setTop (mkF m 19 #[.val (.ref a1), .val (.ref a2), .val (.ref by2), .val (.int (0 : Int32))] [(.int P0), (.ref a1), (.int (0 : Int32)), (.ref by2)]))
  have voy5 := (HV_a1.ext Ey2)
  obtain ⟨cly5, Ary5, qay5, say5, nay5, hay5, gay5⟩ := voy5
  have iny5 := inb_of (j := P0) say5 r0
  refine Fin.step (Xy2.laload hx (j := P0) (v := (.long (own_ref P0 q0 q1 q2 q3))) (by rw [ey2]; exact Ary5.1) (State.isArrayOf_alike hZ.alike Ary5.2.1) Ary5.2.2 iny5 (hay5.at iny5 (own_get q0 q1 q2 q3 r0)) (g := (mkF m 19 #[.val (.ref a1), .val (.ref a2), .val (.ref by2), .val (.int (0 : Int32))] [(.int P0), (.ref a1), (.int (0 : Int32)), (.ref by2)])) rfl rfl (hb hby d1_19)) ?_
  show Fin p e below s _ _ _ (Ty2.setTop (mkF m 20 #[.val (.ref a1), .val (.ref a2), .val (.ref by2), .val (.int (0 : Int32))] [(.long (own_ref P0 q0 q1 q2 q3)), (.int (0 : Int32)), (.ref by2)]))
  have voy6 := Vy2
  obtain ⟨cly6, Ary6, qay6, say6, nay6, hay6, gay6⟩ := voy6
  obtain ⟨Ty6, hy6, Xy6, ey6, Wy6, sty6⟩ := stJ Xy2 hx hZ ey2 Ary6 (j := (0 : Int32)) (inb_of say6 ⟨by decide, by decide⟩) (g := (mkF m 20 #[.val (.ref a1), .val (.ref a2), .val (.ref by2), .val (.int (0 : Int32))] [(.long (own_ref P0 q0 q1 q2 q3)), (.int (0 : Int32)), (.ref by2)])) rfl rfl (hb hby d1_20)
  have Vy6 : Arv Z hy6 by2 ky2 .long (2 : Int32) [(.long (own_ref P0 q0 q1 q2 q3)), (.long (0 : Int64))] (.long (0 : Int64)) := Arv.set Ary6 qay6 say6 nay6 hay6 gay6 rfl Wy6 0 rfl (Nat.le_of_ble_eq_true rfl)
  have Zy6 : n0 ≤ hy6.size := Nat.le_trans Zy2 (Keep.of_wr Wy6).1
  have Ky6 : Keep h0 hy6 [] := Ky2.wr Wy6 (Or.inr szy2)
  have Ny6 := Fr.snoc Xy6 N0 gzy2
  refine Fin.step (sty6) ?_
  show Fin p e below s _ _ _ (Ty6.setTop (mkF m 21 #[.val (.ref a1), .val (.ref a2), .val (.ref by2), .val (.int (0 : Int32))] []))
  refine Fin.step (fun _ => XS.iinc Xy6.here hx rfl (hb hby d1_21) rfl (l' := #[.val (.ref a1), .val (.ref a2), .val (.ref by2), .val (.int (1 : Int32))]) rfl) ?_
  show Fin p e below s _ _ _ (Ty6.setTop (mkF m 24 #[.val (.ref a1), .val (.ref a2), .val (.ref by2), .val (.int (1 : Int32))] []))
  refine Fin.step (fun _ => XS.goto Xy6.here hx rfl (pc0 := 24) (pc' := 7) rfl (hb hby d1_24) (by decide) (by decide)) ?_
  show Fin p e below s _ _ _ (Ty6.setTop (mkF m 7 #[.val (.ref a1), .val (.ref a2), .val (.ref by2), .val (.int (1 : Int32))] []))
  refine Fin.step (fun _ => XS.iloadN Xy6.here hx rfl (hb hby d1_7) rfl) ?_
  show Fin p e below s _ _ _ (Ty6.setTop (mkF m 8 #[.val (.ref a1), .val (.ref a2), .val (.ref by2), .val (.int (1 : Int32))] [(.int (1 : Int32))]))
  refine Fin.step (fun _ => XS.aloadN Xy6.here hx rfl (hb hby d1_8) rfl rfl) ?_
  show Fin p e below s _ _ _ (Ty6.setTop (mkF m 9 #[.val (.ref a1), .val (.ref a2), .val (.ref by2), .val (.int (1 : Int32))] [(.ref a2), (.int (1 : Int32))]))
  have voy7 := ((HV_a2.ext Ey2).other Wy6 (Nat.ne_of_lt (Nat.lt_of_lt_of_le HV_a2.lt (Nat.le_of_eq gy2.symm))))
  obtain ⟨cly7, Ary7, qay7, say7, nay7, hay7, gay7⟩ := voy7
  refine Fin.step (Xy6.arraylength hx (by rw [ey6]; exact Ary7.1) (State.isArrayOf_alike hZ.alike Ary7.2.1) (g := (mkF m 9 #[.val (.ref a1), .val (.ref a2), .val (.ref by2), .val (.int (1 : Int32))] [(.ref a2), (.int (1 : Int32))])) rfl rfl (hb hby d1_9)) ?_
  rw [len_of say7 nay7]
  show Fin p e below s _ _ _ (Ty6.setTop (mkF m 10 #[.val (.ref a1), .val (.ref a2), .val (.ref by2), .val (.int (1 : Int32))] [(.int (2 : Int32)), (.int (1 : Int32))]))
  refine Fin.step (fun _ => XS.icmpNo Xy6.here hx rfl (hb hby d1_10) rfl (tlt ((by decide) : ((1 : Int32) < (2 : Int32)))).2.1) ?_
  show Fin p e below s _ _ _ (Ty6.setTop (mkF m 13 #[.val (.ref a1), .val (.ref a2), .val (.ref by2), .val (.int (1 : Int32))] []))
  refine Fin.step (fun _ => XS.aloadN Xy6.here hx rfl (hb hby d1_13) rfl rfl) ?_
  show Fin p e below s _ _ _ (Ty6.setTop (mkF m 14 #[.val (.ref a1), .val (.ref a2), .val (.ref by2), .val (.int (1 : Int32))] [(.ref by2)]))
  refine Fin.step (fun _ => XS.iloadN Xy6.here hx rfl (hb hby d1_14) rfl) ?_
  show Fin p e below s _ _ _ (Ty6.setTop (mkF m 15 #[.val (.ref a1), .val (.ref a2), .val (.ref by2), .val (.int (1 : Int32))] [(.int (1 : Int32)), (.ref by2)]))
  refine Fin.step (fun _ => XS.aloadN Xy6.here hx rfl (hb hby d1_15) rfl rfl) ?_
  show Fin p e below s _ _ _ (Ty6.setTop (mkF m 16 #[.val (.ref a1), .val (.ref a2), .val (.ref by2), .val (.int (1 : Int32))] [(.ref a1), (.int (1 : Int32)), (.ref by2)]))
  refine Fin.step (fun _ => XS.aloadN Xy6.here hx rfl (hb hby d1_16) rfl rfl) ?_
  show Fin p e below s _ _ _ (Ty6.setTop (mkF m 17 #[.val (.ref a1), .val (.ref a2), .val (.ref by2), .val (.int (1 : Int32))] [(.ref a2), (.ref a1), (.int (1 : Int32)), (.ref by2)]))
  refine Fin.step (fun _ => XS.iloadN Xy6.here hx rfl (hb hby d1_17) rfl) ?_
  show Fin p e below s _ _ _ (Ty6.setTop (mkF m 18 #[.val (.ref a1), .val (.ref a2), .val (.ref by2), .val (.int (1 : Int32))] [(.int (1 : Int32)), (.ref a2), (.ref a1), (.int (1 : Int32)), (.ref by2)]))
  have voy8 := ((HV_a2.ext Ey2).other Wy6 (Nat.ne_of_lt (Nat.lt_of_lt_of_le HV_a2.lt (Nat.le_of_eq gy2.symm))))
  obtain ⟨cly8, Ary8, qay8, say8, nay8, hay8, gay8⟩ := voy8
  have iny8 := inb_of (j := (1 : Int32)) say8 ⟨by decide, by decide⟩
  refine Fin.step (Xy6.iaload hx (j := (1 : Int32)) (v := (.int P1)) (by rw [ey6]; exact Ary8.1) (State.isArrayOf_alike hZ.alike Ary8.2.1) Ary8.2.2 iny8 (hay8.at iny8 rfl) (g := (mkF m 18 #[.val (.ref a1), .val (.ref a2), .val (.ref by2), .val (.int (1 : Int32))] [(.int (1 : Int32)), (.ref a2), (.ref a1), (.int (1 : Int32)), (.ref by2)])) rfl rfl (hb hby d1_18)) ?_
  show Fin p e below s _ _ _ (Ty6.setTop (mkF m 19 #[.val (.ref a1), .val (.ref a2), .val (.ref by2), .val (.int (1 : Int32))] [(.int P1), (.ref a1), (.int (1 : Int32)), (.ref by2)]))
  have voy9 := ((HV_a1.ext Ey2).other Wy6 (Nat.ne_of_lt (Nat.lt_of_lt_of_le HV_a1.lt (Nat.le_of_eq gy2.symm))))
  obtain ⟨cly9, Ary9, qay9, say9, nay9, hay9, gay9⟩ := voy9
  have iny9 := inb_of (j := P1) say9 r1
  refine Fin.step (Xy6.laload hx (j := P1) (v := (.long (own_ref P1 q0 q1 q2 q3))) (by rw [ey6]; exact Ary9.1) (State.isArrayOf_alike hZ.alike Ary9.2.1) Ary9.2.2 iny9 (hay9.at iny9 (own_get q0 q1 q2 q3 r1)) (g := (mkF m 19 #[.val (.ref a1), .val (.ref a2), .val (.ref by2), .val (.int (1 : Int32))] [(.int P1), (.ref a1), (.int (1 : Int32)), (.ref by2)])) rfl rfl (hb hby d1_19)) ?_
  show Fin p e below s _ _ _ (Ty6.setTop (mkF m 20 #[.val (.ref a1), .val (.ref a2), .val (.ref by2), .val (.int (1 : Int32))] [(.long (own_ref P1 q0 q1 q2 q3)), (.int (1 : Int32)), (.ref by2)]))
  have voy10 := Vy6
  obtain ⟨cly10, Ary10, qay10, say10, nay10, hay10, gay10⟩ := voy10
  obtain ⟨Ty10, hy10, Xy10, ey10, Wy10, sty10⟩ := stJ Xy6 hx hZ ey6 Ary10 (j := (1 : Int32)) (inb_of say10 ⟨by decide, by decide⟩) (g := (mkF m 20 #[.val (.ref a1), .val (.ref a2), .val (.ref by2), .val (.int (1 : Int32))] [(.long (own_ref P1 q0 q1 q2 q3)), (.int (1 : Int32)), (.ref by2)])) rfl rfl (hb hby d1_20)
  have Vy10 : Arv Z hy10 by2 ky2 .long (2 : Int32) [(.long (own_ref P0 q0 q1 q2 q3)), (.long (own_ref P1 q0 q1 q2 q3))] (.long (0 : Int64)) := Arv.set Ary10 qay10 say10 nay10 hay10 gay10 rfl Wy10 1 rfl (Nat.le_of_ble_eq_true rfl)
  have Zy10 : n0 ≤ hy10.size := Nat.le_trans Zy6 (Keep.of_wr Wy10).1
  have Ky10 : Keep h0 hy10 [] := Ky6.wr Wy10 (Or.inr szy2)
  have Ny10 := Fr.snoc Xy10 Ny6 gzy2
  refine Fin.step (sty10) ?_
  show Fin p e below s _ _ _ (Ty10.setTop (mkF m 21 #[.val (.ref a1), .val (.ref a2), .val (.ref by2), .val (.int (1 : Int32))] []))
  refine Fin.step (fun _ => XS.iinc Xy10.here hx rfl (hb hby d1_21) rfl (l' := #[.val (.ref a1), .val (.ref a2), .val (.ref by2), .val (.int (2 : Int32))]) rfl) ?_
  show Fin p e below s _ _ _ (Ty10.setTop (mkF m 24 #[.val (.ref a1), .val (.ref a2), .val (.ref by2), .val (.int (2 : Int32))] []))
  refine Fin.step (fun _ => XS.goto Xy10.here hx rfl (pc0 := 24) (pc' := 7) rfl (hb hby d1_24) (by decide) (by decide)) ?_
  show Fin p e below s _ _ _ (Ty10.setTop (mkF m 7 #[.val (.ref a1), .val (.ref a2), .val (.ref by2), .val (.int (2 : Int32))] []))
  refine Fin.step (fun _ => XS.iloadN Xy10.here hx rfl (hb hby d1_7) rfl) ?_
  show Fin p e below s _ _ _ (Ty10.setTop (mkF m 8 #[.val (.ref a1), .val (.ref a2), .val (.ref by2), .val (.int (2 : Int32))] [(.int (2 : Int32))]))
  refine Fin.step (fun _ => XS.aloadN Xy10.here hx rfl (hb hby d1_8) rfl rfl) ?_
  show Fin p e below s _ _ _ (Ty10.setTop (mkF m 9 #[.val (.ref a1), .val (.ref a2), .val (.ref by2), .val (.int (2 : Int32))] [(.ref a2), (.int (2 : Int32))]))
  have voy11 := (((HV_a2.ext Ey2).other Wy6 (Nat.ne_of_lt (Nat.lt_of_lt_of_le HV_a2.lt (Nat.le_of_eq gy2.symm)))).other Wy10 (Nat.ne_of_lt (Nat.lt_of_lt_of_le HV_a2.lt (Nat.le_of_eq gy2.symm))))
  obtain ⟨cly11, Ary11, qay11, say11, nay11, hay11, gay11⟩ := voy11
  refine Fin.step (Xy10.arraylength hx (by rw [ey10]; exact Ary11.1) (State.isArrayOf_alike hZ.alike Ary11.2.1) (g := (mkF m 9 #[.val (.ref a1), .val (.ref a2), .val (.ref by2), .val (.int (2 : Int32))] [(.ref a2), (.int (2 : Int32))])) rfl rfl (hb hby d1_9)) ?_
  rw [len_of say11 nay11]
  show Fin p e below s _ _ _ (Ty10.setTop (mkF m 10 #[.val (.ref a1), .val (.ref a2), .val (.ref by2), .val (.int (2 : Int32))] [(.int (2 : Int32)), (.int (2 : Int32))]))
  refine Fin.step (fun _ => XS.icmpYes Xy10.here hx rfl (pc0 := 10) (pc' := 27) rfl (hb hby d1_10) rfl (flt ((by decide) : ¬ ((2 : Int32) < (2 : Int32)))).2.1 (by decide) (by decide)) ?_
  show Fin p e below s _ _ _ (Ty10.setTop (mkF m 27 #[.val (.ref a1), .val (.ref a2), .val (.ref by2), .val (.int (2 : Int32))] []))
  refine Fin.step (fun _ => XS.aloadN Xy10.here hx rfl (hb hby d1_27) rfl rfl) ?_
  show Fin p e below s _ _ _ (Ty10.setTop (mkF m 28 #[.val (.ref a1), .val (.ref a2), .val (.ref by2), .val (.int (2 : Int32))] [(.ref by2)]))
  refine Fin.retR Xy10 hx hret rfl rfl hlk (hb hby d1_28) (by decide) (by decide) ?_
  show Qp2 Z a1 a2 k1 k2 q0 q1 q2 q3 P0 P1 h0 n0 _ Ty10.heap _
  rw [ey10]
  exact ⟨ky2, by2, rfl, szy2, Ny10, Ky10, Vy10⟩
theorem ef_rmp3 (m : MethodId) (x0 : Addr) (x1 : Addr) : entryFrame m #[(.ref x0), (.ref x1)] 4 = mkF m 0 #[.val (.ref x0), .val (.ref x1), .unset, .unset] [] := by first | (simp [entryFrame, mkF, argsToLocals, Value.category]; done) | rfl
def Qp3 (Z : State) (a1 : Addr) (a2 : Addr) (k1 : ClassId) (k2 : ClassId) (q0 : Int64) (q1 : Int64) (q2 : Int64) (q3 : Int64) (P0 : Int32) (P1 : Int32) (P2 : Int32) (h0 : Heap) (n0 : Nat) (v : Option Value) (h : Heap) (L : List Loc) : Prop := ∃ kk : ClassId, ∃ b : Addr, v = some (.ref b) ∧ h0.size ≤ b ∧ Fr n0 L ∧ Keep h0 h [] ∧ Arv Z h b kk .long (3 : Int32) [(.long (own_ref P0 q0 q1 q2 q3)), (.long (own_ref P1 q0 q1 q2 q3)), (.long (own_ref P2 q0 q1 q2 q3))] (.long (0 : Int64))
set_option maxRecDepth 65536 in
set_option maxHeartbeats 40000000 in
theorem rmp3 (l : Launch) (Z : State) (a0 : Array Value) (hw : ∀ d ∈ tables_1, d.before a0 Z = true) (ws : List Jvm.Cond) (a1 : Addr) (a2 : Addr) (k1 : ClassId) (k2 : ClassId) (q0 : Int64) (q1 : Int64) (q2 : Int64) (q3 : Int64) (P0 : Int32) (P1 : Int32) (P2 : Int32) (h0 : Heap) (n0 : Nat) (Z0 : n0 ≤ h0.size) (HV_a1 : Arv Z h0 a1 k1 .long (4 : Int32) [(.long q0), (.long q1), (.long q2), (.long q3)] (.long (0 : Int64))) (HV_a2 : Arv Z h0 a2 k2 .int (3 : Int32) [(.int P0), (.int P1), (.int P2)] (.int (0 : Int32))) (r0 : ¬ P0 < 0 ∧ P0 < 4) (r1 : ¬ P1 < 0 ∧ P1 < 4) (r2 : ¬ P2 < 0 ∧ P2 < 4) :
    MetFree l (⟨"com/example/uzor/uzor/Row", "pick", "([J[I)[J"⟩ : MethodName) (head1 (Jvm.Cond.code (⟨"com/example/uzor/uzor/Row", "pick", "([J[I)[J"⟩ : MethodName) prog_31_method_7_code 4 (some (.array .long)) :: ws) ({ frames := 0, cells := 1, slots := 3, locals := 0 } : Room)) (fun a U => a = #[(.ref a1), (.ref a2)] ∧ Z.Warmed39 U.vm ∧ U.heap = h0) (fun _ _ _ _ _ => True) (fun _ U o U' => ∃ v L, o = .returned v ∧ Qp3 Z a1 a2 k1 k2 q0 q1 q2 q3 P0 P1 P2 h0 n0 v U'.heap L ∧ FrameEnd U o U' L ({ frames := 0, cells := 1, slots := 3, locals := 0 } : Room).cells ({ frames := 0, cells := 1, slots := 3, locals := 0 } : Room).slots) := by
  refine MetFree.of_bodySF (plainFor_of_name pn_1) hisR ?_
  intro p e s m args below meth c s₁ Bd hml0 hP hK
  obtain ⟨rfl, hZ, hh⟩ := hP
  have hx := Bd.exec
  have hby := Bd.bytes
  have hlk := BodyLoose.notSynchronized Bd
  have hret := Bd.returns
  have hml : c.maxLocals = 4 := hml0
  have hown : s.vm.findClass "com/example/uzor/uzor/Row" = some m.cls := findClass_of_methodNamed Bd.named
  have hnm := (name_of_methodNamed Bd.named Bd.method).1
  have X0 : Stand p l e ({ frames := 0, cells := 1, slots := 3, locals := 0 } : Room) s m #[(.ref a1), (.ref a2)] below meth c s₁ [] 0 0 := Stand.of_body Bd
  have e0 : s₁.heap = h0 := by rw [← hh, Bd.state]; rfl
  have N0 := Fr.nil n0
  have K0 : Keep h0 h0 [] := Keep.refl h0 _
  refine Fin.step (Q := fun v h L => Qp3 Z a1 a2 k1 k2 q0 q1 q2 q3 P0 P1 P2 h0 n0 v h L) (st' := s₁.setTop (mkF m 0 #[.val (.ref a1), .val (.ref a2), .unset, .unset] [])) (fun t k => castTop (ef_rmp3 m a1 a2) k) ?_
  show Fin p e below s _ _ _ (s₁.setTop (mkF m 0 #[.val (.ref a1), .val (.ref a2), .unset, .unset] []))
  refine Fin.step (fun _ => XS.aloadN X0.here hx rfl (hb hby d1_0) rfl rfl) ?_
  show Fin p e below s _ _ _ (s₁.setTop (mkF m 1 #[.val (.ref a1), .val (.ref a2), .unset, .unset] [(.ref a2)]))
  have voy1 := HV_a2
  obtain ⟨cly1, Ary1, qay1, say1, nay1, hay1, gay1⟩ := voy1
  refine Fin.step (X0.arraylength hx (by rw [e0]; exact Ary1.1) (State.isArrayOf_alike hZ.alike Ary1.2.1) (g := (mkF m 1 #[.val (.ref a1), .val (.ref a2), .unset, .unset] [(.ref a2)])) rfl rfl (hb hby d1_1)) ?_
  rw [len_of say1 nay1]
  show Fin p e below s _ _ _ (s₁.setTop (mkF m 2 #[.val (.ref a1), .val (.ref a2), .unset, .unset] [(.int (3 : Int32))]))
  obtain ⟨Ty2, hy2, ky2, Xy2, ey2, Ey2, Ay2, sty2⟩ := newP X0 hx hZ (hw _ (List.mem_of_getElem? (i := 0) rfl)) e0 (g := (mkF m 2 #[.val (.ref a1), .val (.ref a2), .unset, .unset] [(.int (3 : Int32))])) rfl (hb hby d1_2) rfl (by decide) (cap := 3) (by decide) (by decide) (by decide) (by decide)
  obtain ⟨by2, gy2⟩ : ∃ z, z = h0.size := ⟨_, rfl⟩
  rw [← gy2] at Ay2 sty2
  have gzy2 : n0 ≤ by2 := Nat.le_trans Z0 (Nat.le_of_eq gy2.symm)
  have szy2 : h0.size ≤ by2 := Nat.le_trans K0.1 (Nat.le_of_eq gy2.symm)
  have Zy2 : n0 ≤ hy2.size := Nat.le_trans Z0 Ey2.1
  have Ky2 : Keep h0 hy2 [] := K0.ext Ey2
  have Vy2 : Arv Z hy2 by2 ky2 .long (3 : Int32) [(.long (0 : Int64)), (.long (0 : Int64)), (.long (0 : Int64))] (.long (0 : Int64)) := (Arv.new Ay2 (by decide)).pad (pad_rep [] (.long (0 : Int64)) 3)
  refine Fin.step (sty2) ?_
  show Fin p e below s _ _ _ (Ty2.setTop (mkF m 4 #[.val (.ref a1), .val (.ref a2), .unset, .unset] [(.ref by2)]))
  refine Fin.step (fun _ => XS.astoreN Xy2.here hx rfl (hb hby d1_4) rfl rfl (l' := #[.val (.ref a1), .val (.ref a2), .val (.ref by2), .unset]) rfl) ?_
  show Fin p e below s _ _ _ (Ty2.setTop (mkF m 5 #[.val (.ref a1), .val (.ref a2), .val (.ref by2), .unset] []))
  refine Fin.step (fun _ => XS.iconst Xy2.here hx rfl (hb hby d1_5)) ?_
  show Fin p e below s _ _ _ (Ty2.setTop (mkF m 6 #[.val (.ref a1), .val (.ref a2), .val (.ref by2), .unset] [(.int (0 : Int32))]))
  refine Fin.step (fun _ => XS.istoreN Xy2.here hx rfl (hb hby d1_6) rfl (l' := #[.val (.ref a1), .val (.ref a2), .val (.ref by2), .val (.int (0 : Int32))]) rfl) ?_
  show Fin p e below s _ _ _ (Ty2.setTop (mkF m 7 #[.val (.ref a1), .val (.ref a2), .val (.ref by2), .val (.int (0 : Int32))] []))
  refine Fin.step (fun _ => XS.iloadN Xy2.here hx rfl (hb hby d1_7) rfl) ?_
  show Fin p e below s _ _ _ (Ty2.setTop (mkF m 8 #[.val (.ref a1), .val (.ref a2), .val (.ref by2), .val (.int (0 : Int32))] [(.int (0 : Int32))]))
  refine Fin.step (fun _ => XS.aloadN Xy2.here hx rfl (hb hby d1_8) rfl rfl) ?_
  show Fin p e below s _ _ _ (Ty2.setTop (mkF m 9 #[.val (.ref a1), .val (.ref a2), .val (.ref by2), .val (.int (0 : Int32))] [(.ref a2), (.int (0 : Int32))]))
  have voy3 := (HV_a2.ext Ey2)
  obtain ⟨cly3, Ary3, qay3, say3, nay3, hay3, gay3⟩ := voy3
  refine Fin.step (Xy2.arraylength hx (by rw [ey2]; exact Ary3.1) (State.isArrayOf_alike hZ.alike Ary3.2.1) (g := (mkF m 9 #[.val (.ref a1), .val (.ref a2), .val (.ref by2), .val (.int (0 : Int32))] [(.ref a2), (.int (0 : Int32))])) rfl rfl (hb hby d1_9)) ?_
  rw [len_of say3 nay3]
  show Fin p e below s _ _ _ (Ty2.setTop (mkF m 10 #[.val (.ref a1), .val (.ref a2), .val (.ref by2), .val (.int (0 : Int32))] [(.int (3 : Int32)), (.int (0 : Int32))]))
  refine Fin.step (fun _ => XS.icmpNo Xy2.here hx rfl (hb hby d1_10) rfl (tlt ((by decide) : ((0 : Int32) < (3 : Int32)))).2.1) ?_
  show Fin p e below s _ _ _ (Ty2.setTop (mkF m 13 #[.val (.ref a1), .val (.ref a2), .val (.ref by2), .val (.int (0 : Int32))] []))
  refine Fin.step (fun _ => XS.aloadN Xy2.here hx rfl (hb hby d1_13) rfl rfl) ?_
  show Fin p e below s _ _ _ (Ty2.setTop (mkF m 14 #[.val (.ref a1), .val (.ref a2), .val (.ref by2), .val (.int (0 : Int32))] [(.ref by2)]))
  refine Fin.step (fun _ => XS.iloadN Xy2.here hx rfl (hb hby d1_14) rfl) ?_
  show Fin p e below s _ _ _ (Ty2.setTop (mkF m 15 #[.val (.ref a1), .val (.ref a2), .val (.ref by2), .val (.int (0 : Int32))] [(.int (0 : Int32)), (.ref by2)]))
  refine Fin.step (fun _ => XS.aloadN Xy2.here hx rfl (hb hby d1_15) rfl rfl) ?_
  show Fin p e below s _ _ _ (Ty2.setTop (mkF m 16 #[.val (.ref a1), .val (.ref a2), .val (.ref by2), .val (.int (0 : Int32))] [(.ref a1), (.int (0 : Int32)), (.ref by2)]))
  refine Fin.step (fun _ => XS.aloadN Xy2.here hx rfl (hb hby d1_16) rfl rfl) ?_
  show Fin p e below s _ _ _ (Ty2.setTop (mkF m 17 #[.val (.ref a1), .val (.ref a2), .val (.ref by2), .val (.int (0 : Int32))] [(.ref a2), (.ref a1), (.int (0 : Int32)), (.ref by2)]))
  refine Fin.step (fun _ => XS.iloadN Xy2.here hx rfl (hb hby d1_17) rfl) ?_
  show Fin p e below s _ _ _ (Ty2.setTop (mkF m 18 #[.val (.ref a1), .val (.ref a2), .val (.ref by2), .val (.int (0 : Int32))] [(.int (0 : Int32)), (.ref a2), (.ref a1), (.int (0 : Int32)), (.ref by2)]))
  have voy4 := (HV_a2.ext Ey2)
  obtain ⟨cly4, Ary4, qay4, say4, nay4, hay4, gay4⟩ := voy4
  have iny4 := inb_of (j := (0 : Int32)) say4 ⟨by decide, by decide⟩
  refine Fin.step (Xy2.iaload hx (j := (0 : Int32)) (v := (.int P0)) (by rw [ey2]; exact Ary4.1) (State.isArrayOf_alike hZ.alike Ary4.2.1) Ary4.2.2 iny4 (hay4.at iny4 rfl) (g := (mkF m 18 #[.val (.ref a1), .val (.ref a2), .val (.ref by2), .val (.int (0 : Int32))] [(.int (0 : Int32)), (.ref a2), (.ref a1), (.int (0 : Int32)), (.ref by2)])) rfl rfl (hb hby d1_18)) ?_
  show Fin p e below s _ _ _ (Ty2.setTop (mkF m 19 #[.val (.ref a1), .val (.ref a2), .val (.ref by2), .val (.int (0 : Int32))] [(.int P0), (.ref a1), (.int (0 : Int32)), (.ref by2)]))
  have voy5 := (HV_a1.ext Ey2)
  obtain ⟨cly5, Ary5, qay5, say5, nay5, hay5, gay5⟩ := voy5
  have iny5 := inb_of (j := P0) say5 r0
  refine Fin.step (Xy2.laload hx (j := P0) (v := (.long (own_ref P0 q0 q1 q2 q3))) (by rw [ey2]; exact Ary5.1) (State.isArrayOf_alike hZ.alike Ary5.2.1) Ary5.2.2 iny5 (hay5.at iny5 (own_get q0 q1 q2 q3 r0)) (g := (mkF m 19 #[.val (.ref a1), .val (.ref a2), .val (.ref by2), .val (.int (0 : Int32))] [(.int P0), (.ref a1), (.int (0 : Int32)), (.ref by2)])) rfl rfl (hb hby d1_19)) ?_
  show Fin p e below s _ _ _ (Ty2.setTop (mkF m 20 #[.val (.ref a1), .val (.ref a2), .val (.ref by2), .val (.int (0 : Int32))] [(.long (own_ref P0 q0 q1 q2 q3)), (.int (0 : Int32)), (.ref by2)]))
  have voy6 := Vy2
  obtain ⟨cly6, Ary6, qay6, say6, nay6, hay6, gay6⟩ := voy6
  obtain ⟨Ty6, hy6, Xy6, ey6, Wy6, sty6⟩ := stJ Xy2 hx hZ ey2 Ary6 (j := (0 : Int32)) (inb_of say6 ⟨by decide, by decide⟩) (g := (mkF m 20 #[.val (.ref a1), .val (.ref a2), .val (.ref by2), .val (.int (0 : Int32))] [(.long (own_ref P0 q0 q1 q2 q3)), (.int (0 : Int32)), (.ref by2)])) rfl rfl (hb hby d1_20)
  have Vy6 : Arv Z hy6 by2 ky2 .long (3 : Int32) [(.long (own_ref P0 q0 q1 q2 q3)), (.long (0 : Int64)), (.long (0 : Int64))] (.long (0 : Int64)) := Arv.set Ary6 qay6 say6 nay6 hay6 gay6 rfl Wy6 0 rfl (Nat.le_of_ble_eq_true rfl)
  have Zy6 : n0 ≤ hy6.size := Nat.le_trans Zy2 (Keep.of_wr Wy6).1
  have Ky6 : Keep h0 hy6 [] := Ky2.wr Wy6 (Or.inr szy2)
  have Ny6 := Fr.snoc Xy6 N0 gzy2
  refine Fin.step (sty6) ?_
  show Fin p e below s _ _ _ (Ty6.setTop (mkF m 21 #[.val (.ref a1), .val (.ref a2), .val (.ref by2), .val (.int (0 : Int32))] []))
  refine Fin.step (fun _ => XS.iinc Xy6.here hx rfl (hb hby d1_21) rfl (l' := #[.val (.ref a1), .val (.ref a2), .val (.ref by2), .val (.int (1 : Int32))]) rfl) ?_
  show Fin p e below s _ _ _ (Ty6.setTop (mkF m 24 #[.val (.ref a1), .val (.ref a2), .val (.ref by2), .val (.int (1 : Int32))] []))
  refine Fin.step (fun _ => XS.goto Xy6.here hx rfl (pc0 := 24) (pc' := 7) rfl (hb hby d1_24) (by decide) (by decide)) ?_
  show Fin p e below s _ _ _ (Ty6.setTop (mkF m 7 #[.val (.ref a1), .val (.ref a2), .val (.ref by2), .val (.int (1 : Int32))] []))
  refine Fin.step (fun _ => XS.iloadN Xy6.here hx rfl (hb hby d1_7) rfl) ?_
  show Fin p e below s _ _ _ (Ty6.setTop (mkF m 8 #[.val (.ref a1), .val (.ref a2), .val (.ref by2), .val (.int (1 : Int32))] [(.int (1 : Int32))]))
  refine Fin.step (fun _ => XS.aloadN Xy6.here hx rfl (hb hby d1_8) rfl rfl) ?_
  show Fin p e below s _ _ _ (Ty6.setTop (mkF m 9 #[.val (.ref a1), .val (.ref a2), .val (.ref by2), .val (.int (1 : Int32))] [(.ref a2), (.int (1 : Int32))]))
  have voy7 := ((HV_a2.ext Ey2).other Wy6 (Nat.ne_of_lt (Nat.lt_of_lt_of_le HV_a2.lt (Nat.le_of_eq gy2.symm))))
  obtain ⟨cly7, Ary7, qay7, say7, nay7, hay7, gay7⟩ := voy7
  refine Fin.step (Xy6.arraylength hx (by rw [ey6]; exact Ary7.1) (State.isArrayOf_alike hZ.alike Ary7.2.1) (g := (mkF m 9 #[.val (.ref a1), .val (.ref a2), .val (.ref by2), .val (.int (1 : Int32))] [(.ref a2), (.int (1 : Int32))])) rfl rfl (hb hby d1_9)) ?_
  rw [len_of say7 nay7]
  show Fin p e below s _ _ _ (Ty6.setTop (mkF m 10 #[.val (.ref a1), .val (.ref a2), .val (.ref by2), .val (.int (1 : Int32))] [(.int (3 : Int32)), (.int (1 : Int32))]))
  refine Fin.step (fun _ => XS.icmpNo Xy6.here hx rfl (hb hby d1_10) rfl (tlt ((by decide) : ((1 : Int32) < (3 : Int32)))).2.1) ?_
  show Fin p e below s _ _ _ (Ty6.setTop (mkF m 13 #[.val (.ref a1), .val (.ref a2), .val (.ref by2), .val (.int (1 : Int32))] []))
  refine Fin.step (fun _ => XS.aloadN Xy6.here hx rfl (hb hby d1_13) rfl rfl) ?_
  show Fin p e below s _ _ _ (Ty6.setTop (mkF m 14 #[.val (.ref a1), .val (.ref a2), .val (.ref by2), .val (.int (1 : Int32))] [(.ref by2)]))
  refine Fin.step (fun _ => XS.iloadN Xy6.here hx rfl (hb hby d1_14) rfl) ?_
  show Fin p e below s _ _ _ (Ty6.setTop (mkF m 15 #[.val (.ref a1), .val (.ref a2), .val (.ref by2), .val (.int (1 : Int32))] [(.int (1 : Int32)), (.ref by2)]))
  refine Fin.step (fun _ => XS.aloadN Xy6.here hx rfl (hb hby d1_15) rfl rfl) ?_
  show Fin p e below s _ _ _ (Ty6.setTop (mkF m 16 #[.val (.ref a1), .val (.ref a2), .val (.ref by2), .val (.int (1 : Int32))] [(.ref a1), (.int (1 : Int32)), (.ref by2)]))
  refine Fin.step (fun _ => XS.aloadN Xy6.here hx rfl (hb hby d1_16) rfl rfl) ?_
  show Fin p e below s _ _ _ (Ty6.setTop (mkF m 17 #[.val (.ref a1), .val (.ref a2), .val (.ref by2), .val (.int (1 : Int32))] [(.ref a2), (.ref a1), (.int (1 : Int32)), (.ref by2)]))
  refine Fin.step (fun _ => XS.iloadN Xy6.here hx rfl (hb hby d1_17) rfl) ?_
  show Fin p e below s _ _ _ (Ty6.setTop (mkF m 18 #[.val (.ref a1), .val (.ref a2), .val (.ref by2), .val (.int (1 : Int32))] [(.int (1 : Int32)), (.ref a2), (.ref a1), (.int (1 : Int32)), (.ref by2)]))
  have voy8 := ((HV_a2.ext Ey2).other Wy6 (Nat.ne_of_lt (Nat.lt_of_lt_of_le HV_a2.lt (Nat.le_of_eq gy2.symm))))
  obtain ⟨cly8, Ary8, qay8, say8, nay8, hay8, gay8⟩ := voy8
  have iny8 := inb_of (j := (1 : Int32)) say8 ⟨by decide, by decide⟩
  refine Fin.step (Xy6.iaload hx (j := (1 : Int32)) (v := (.int P1)) (by rw [ey6]; exact Ary8.1) (State.isArrayOf_alike hZ.alike Ary8.2.1) Ary8.2.2 iny8 (hay8.at iny8 rfl) (g := (mkF m 18 #[.val (.ref a1), .val (.ref a2), .val (.ref by2), .val (.int (1 : Int32))] [(.int (1 : Int32)), (.ref a2), (.ref a1), (.int (1 : Int32)), (.ref by2)])) rfl rfl (hb hby d1_18)) ?_
  show Fin p e below s _ _ _ (Ty6.setTop (mkF m 19 #[.val (.ref a1), .val (.ref a2), .val (.ref by2), .val (.int (1 : Int32))] [(.int P1), (.ref a1), (.int (1 : Int32)), (.ref by2)]))
  have voy9 := ((HV_a1.ext Ey2).other Wy6 (Nat.ne_of_lt (Nat.lt_of_lt_of_le HV_a1.lt (Nat.le_of_eq gy2.symm))))
  obtain ⟨cly9, Ary9, qay9, say9, nay9, hay9, gay9⟩ := voy9
  have iny9 := inb_of (j := P1) say9 r1
  refine Fin.step (Xy6.laload hx (j := P1) (v := (.long (own_ref P1 q0 q1 q2 q3))) (by rw [ey6]; exact Ary9.1) (State.isArrayOf_alike hZ.alike Ary9.2.1) Ary9.2.2 iny9 (hay9.at iny9 (own_get q0 q1 q2 q3 r1)) (g := (mkF m 19 #[.val (.ref a1), .val (.ref a2), .val (.ref by2), .val (.int (1 : Int32))] [(.int P1), (.ref a1), (.int (1 : Int32)), (.ref by2)])) rfl rfl (hb hby d1_19)) ?_
  show Fin p e below s _ _ _ (Ty6.setTop (mkF m 20 #[.val (.ref a1), .val (.ref a2), .val (.ref by2), .val (.int (1 : Int32))] [(.long (own_ref P1 q0 q1 q2 q3)), (.int (1 : Int32)), (.ref by2)]))
  have voy10 := Vy6
  obtain ⟨cly10, Ary10, qay10, say10, nay10, hay10, gay10⟩ := voy10
  obtain ⟨Ty10, hy10, Xy10, ey10, Wy10, sty10⟩ := stJ Xy6 hx hZ ey6 Ary10 (j := (1 : Int32)) (inb_of say10 ⟨by decide, by decide⟩) (g := (mkF m 20 #[.val (.ref a1), .val (.ref a2), .val (.ref by2), .val (.int (1 : Int32))] [(.long (own_ref P1 q0 q1 q2 q3)), (.int (1 : Int32)), (.ref by2)])) rfl rfl (hb hby d1_20)
  have Vy10 : Arv Z hy10 by2 ky2 .long (3 : Int32) [(.long (own_ref P0 q0 q1 q2 q3)), (.long (own_ref P1 q0 q1 q2 q3)), (.long (0 : Int64))] (.long (0 : Int64)) := Arv.set Ary10 qay10 say10 nay10 hay10 gay10 rfl Wy10 1 rfl (Nat.le_of_ble_eq_true rfl)
  have Zy10 : n0 ≤ hy10.size := Nat.le_trans Zy6 (Keep.of_wr Wy10).1
  have Ky10 : Keep h0 hy10 [] := Ky6.wr Wy10 (Or.inr szy2)
  have Ny10 := Fr.snoc Xy10 Ny6 gzy2
  refine Fin.step (sty10) ?_
  show Fin p e below s _ _ _ (Ty10.setTop (mkF m 21 #[.val (.ref a1), .val (.ref a2), .val (.ref by2), .val (.int (1 : Int32))] []))
  refine Fin.step (fun _ => XS.iinc Xy10.here hx rfl (hb hby d1_21) rfl (l' := #[.val (.ref a1), .val (.ref a2), .val (.ref by2), .val (.int (2 : Int32))]) rfl) ?_
  show Fin p e below s _ _ _ (Ty10.setTop (mkF m 24 #[.val (.ref a1), .val (.ref a2), .val (.ref by2), .val (.int (2 : Int32))] []))
  refine Fin.step (fun _ => XS.goto Xy10.here hx rfl (pc0 := 24) (pc' := 7) rfl (hb hby d1_24) (by decide) (by decide)) ?_
  show Fin p e below s _ _ _ (Ty10.setTop (mkF m 7 #[.val (.ref a1), .val (.ref a2), .val (.ref by2), .val (.int (2 : Int32))] []))
  refine Fin.step (fun _ => XS.iloadN Xy10.here hx rfl (hb hby d1_7) rfl) ?_
  show Fin p e below s _ _ _ (Ty10.setTop (mkF m 8 #[.val (.ref a1), .val (.ref a2), .val (.ref by2), .val (.int (2 : Int32))] [(.int (2 : Int32))]))
  refine Fin.step (fun _ => XS.aloadN Xy10.here hx rfl (hb hby d1_8) rfl rfl) ?_
  show Fin p e below s _ _ _ (Ty10.setTop (mkF m 9 #[.val (.ref a1), .val (.ref a2), .val (.ref by2), .val (.int (2 : Int32))] [(.ref a2), (.int (2 : Int32))]))
  have voy11 := (((HV_a2.ext Ey2).other Wy6 (Nat.ne_of_lt (Nat.lt_of_lt_of_le HV_a2.lt (Nat.le_of_eq gy2.symm)))).other Wy10 (Nat.ne_of_lt (Nat.lt_of_lt_of_le HV_a2.lt (Nat.le_of_eq gy2.symm))))
  obtain ⟨cly11, Ary11, qay11, say11, nay11, hay11, gay11⟩ := voy11
  refine Fin.step (Xy10.arraylength hx (by rw [ey10]; exact Ary11.1) (State.isArrayOf_alike hZ.alike Ary11.2.1) (g := (mkF m 9 #[.val (.ref a1), .val (.ref a2), .val (.ref by2), .val (.int (2 : Int32))] [(.ref a2), (.int (2 : Int32))])) rfl rfl (hb hby d1_9)) ?_
  rw [len_of say11 nay11]
  show Fin p e below s _ _ _ (Ty10.setTop (mkF m 10 #[.val (.ref a1), .val (.ref a2), .val (.ref by2), .val (.int (2 : Int32))] [(.int (3 : Int32)), (.int (2 : Int32))]))
  refine Fin.step (fun _ => XS.icmpNo Xy10.here hx rfl (hb hby d1_10) rfl (tlt ((by decide) : ((2 : Int32) < (3 : Int32)))).2.1) ?_
  show Fin p e below s _ _ _ (Ty10.setTop (mkF m 13 #[.val (.ref a1), .val (.ref a2), .val (.ref by2), .val (.int (2 : Int32))] []))
  refine Fin.step (fun _ => XS.aloadN Xy10.here hx rfl (hb hby d1_13) rfl rfl) ?_
  show Fin p e below s _ _ _ (Ty10.setTop (mkF m 14 #[.val (.ref a1), .val (.ref a2), .val (.ref by2), .val (.int (2 : Int32))] [(.ref by2)]))
  refine Fin.step (fun _ => XS.iloadN Xy10.here hx rfl (hb hby d1_14) rfl) ?_
  show Fin p e below s _ _ _ (Ty10.setTop (mkF m 15 #[.val (.ref a1), .val (.ref a2), .val (.ref by2), .val (.int (2 : Int32))] [(.int (2 : Int32)), (.ref by2)]))
  refine Fin.step (fun _ => XS.aloadN Xy10.here hx rfl (hb hby d1_15) rfl rfl) ?_
  show Fin p e below s _ _ _ (Ty10.setTop (mkF m 16 #[.val (.ref a1), .val (.ref a2), .val (.ref by2), .val (.int (2 : Int32))] [(.ref a1), (.int (2 : Int32)), (.ref by2)]))
  refine Fin.step (fun _ => XS.aloadN Xy10.here hx rfl (hb hby d1_16) rfl rfl) ?_
  show Fin p e below s _ _ _ (Ty10.setTop (mkF m 17 #[.val (.ref a1), .val (.ref a2), .val (.ref by2), .val (.int (2 : Int32))] [(.ref a2), (.ref a1), (.int (2 : Int32)), (.ref by2)]))
  refine Fin.step (fun _ => XS.iloadN Xy10.here hx rfl (hb hby d1_17) rfl) ?_
  show Fin p e below s _ _ _ (Ty10.setTop (mkF m 18 #[.val (.ref a1), .val (.ref a2), .val (.ref by2), .val (.int (2 : Int32))] [(.int (2 : Int32)), (.ref a2), (.ref a1), (.int (2 : Int32)), (.ref by2)]))
  have voy12 := (((HV_a2.ext Ey2).other Wy6 (Nat.ne_of_lt (Nat.lt_of_lt_of_le HV_a2.lt (Nat.le_of_eq gy2.symm)))).other Wy10 (Nat.ne_of_lt (Nat.lt_of_lt_of_le HV_a2.lt (Nat.le_of_eq gy2.symm))))
  obtain ⟨cly12, Ary12, qay12, say12, nay12, hay12, gay12⟩ := voy12
  have iny12 := inb_of (j := (2 : Int32)) say12 ⟨by decide, by decide⟩
  refine Fin.step (Xy10.iaload hx (j := (2 : Int32)) (v := (.int P2)) (by rw [ey10]; exact Ary12.1) (State.isArrayOf_alike hZ.alike Ary12.2.1) Ary12.2.2 iny12 (hay12.at iny12 rfl) (g := (mkF m 18 #[.val (.ref a1), .val (.ref a2), .val (.ref by2), .val (.int (2 : Int32))] [(.int (2 : Int32)), (.ref a2), (.ref a1), (.int (2 : Int32)), (.ref by2)])) rfl rfl (hb hby d1_18)) ?_
  show Fin p e below s _ _ _ (Ty10.setTop (mkF m 19 #[.val (.ref a1), .val (.ref a2), .val (.ref by2), .val (.int (2 : Int32))] [(.int P2), (.ref a1), (.int (2 : Int32)), (.ref by2)]))
  have voy13 := (((HV_a1.ext Ey2).other Wy6 (Nat.ne_of_lt (Nat.lt_of_lt_of_le HV_a1.lt (Nat.le_of_eq gy2.symm)))).other Wy10 (Nat.ne_of_lt (Nat.lt_of_lt_of_le HV_a1.lt (Nat.le_of_eq gy2.symm))))
  obtain ⟨cly13, Ary13, qay13, say13, nay13, hay13, gay13⟩ := voy13
  have iny13 := inb_of (j := P2) say13 r2
  refine Fin.step (Xy10.laload hx (j := P2) (v := (.long (own_ref P2 q0 q1 q2 q3))) (by rw [ey10]; exact Ary13.1) (State.isArrayOf_alike hZ.alike Ary13.2.1) Ary13.2.2 iny13 (hay13.at iny13 (own_get q0 q1 q2 q3 r2)) (g := (mkF m 19 #[.val (.ref a1), .val (.ref a2), .val (.ref by2), .val (.int (2 : Int32))] [(.int P2), (.ref a1), (.int (2 : Int32)), (.ref by2)])) rfl rfl (hb hby d1_19)) ?_
  show Fin p e below s _ _ _ (Ty10.setTop (mkF m 20 #[.val (.ref a1), .val (.ref a2), .val (.ref by2), .val (.int (2 : Int32))] [(.long (own_ref P2 q0 q1 q2 q3)), (.int (2 : Int32)), (.ref by2)]))
  have voy14 := Vy10
  obtain ⟨cly14, Ary14, qay14, say14, nay14, hay14, gay14⟩ := voy14
  obtain ⟨Ty14, hy14, Xy14, ey14, Wy14, sty14⟩ := stJ Xy10 hx hZ ey10 Ary14 (j := (2 : Int32)) (inb_of say14 ⟨by decide, by decide⟩) (g := (mkF m 20 #[.val (.ref a1), .val (.ref a2), .val (.ref by2), .val (.int (2 : Int32))] [(.long (own_ref P2 q0 q1 q2 q3)), (.int (2 : Int32)), (.ref by2)])) rfl rfl (hb hby d1_20)
  have Vy14 : Arv Z hy14 by2 ky2 .long (3 : Int32) [(.long (own_ref P0 q0 q1 q2 q3)), (.long (own_ref P1 q0 q1 q2 q3)), (.long (own_ref P2 q0 q1 q2 q3))] (.long (0 : Int64)) := Arv.set Ary14 qay14 say14 nay14 hay14 gay14 rfl Wy14 2 rfl (Nat.le_of_ble_eq_true rfl)
  have Zy14 : n0 ≤ hy14.size := Nat.le_trans Zy10 (Keep.of_wr Wy14).1
  have Ky14 : Keep h0 hy14 [] := Ky10.wr Wy14 (Or.inr szy2)
  have Ny14 := Fr.snoc Xy14 Ny10 gzy2
  refine Fin.step (sty14) ?_
  show Fin p e below s _ _ _ (Ty14.setTop (mkF m 21 #[.val (.ref a1), .val (.ref a2), .val (.ref by2), .val (.int (2 : Int32))] []))
  refine Fin.step (fun _ => XS.iinc Xy14.here hx rfl (hb hby d1_21) rfl (l' := #[.val (.ref a1), .val (.ref a2), .val (.ref by2), .val (.int (3 : Int32))]) rfl) ?_
  show Fin p e below s _ _ _ (Ty14.setTop (mkF m 24 #[.val (.ref a1), .val (.ref a2), .val (.ref by2), .val (.int (3 : Int32))] []))
  refine Fin.step (fun _ => XS.goto Xy14.here hx rfl (pc0 := 24) (pc' := 7) rfl (hb hby d1_24) (by decide) (by decide)) ?_
  show Fin p e below s _ _ _ (Ty14.setTop (mkF m 7 #[.val (.ref a1), .val (.ref a2), .val (.ref by2), .val (.int (3 : Int32))] []))
  refine Fin.step (fun _ => XS.iloadN Xy14.here hx rfl (hb hby d1_7) rfl) ?_
  show Fin p e below s _ _ _ (Ty14.setTop (mkF m 8 #[.val (.ref a1), .val (.ref a2), .val (.ref by2), .val (.int (3 : Int32))] [(.int (3 : Int32))]))
  refine Fin.step (fun _ => XS.aloadN Xy14.here hx rfl (hb hby d1_8) rfl rfl) ?_
  show Fin p e below s _ _ _ (Ty14.setTop (mkF m 9 #[.val (.ref a1), .val (.ref a2), .val (.ref by2), .val (.int (3 : Int32))] [(.ref a2), (.int (3 : Int32))]))
  have voy15 := ((((HV_a2.ext Ey2).other Wy6 (Nat.ne_of_lt (Nat.lt_of_lt_of_le HV_a2.lt (Nat.le_of_eq gy2.symm)))).other Wy10 (Nat.ne_of_lt (Nat.lt_of_lt_of_le HV_a2.lt (Nat.le_of_eq gy2.symm)))).other Wy14 (Nat.ne_of_lt (Nat.lt_of_lt_of_le HV_a2.lt (Nat.le_of_eq gy2.symm))))
  obtain ⟨cly15, Ary15, qay15, say15, nay15, hay15, gay15⟩ := voy15
  refine Fin.step (Xy14.arraylength hx (by rw [ey14]; exact Ary15.1) (State.isArrayOf_alike hZ.alike Ary15.2.1) (g := (mkF m 9 #[.val (.ref a1), .val (.ref a2), .val (.ref by2), .val (.int (3 : Int32))] [(.ref a2), (.int (3 : Int32))])) rfl rfl (hb hby d1_9)) ?_
  rw [len_of say15 nay15]
  show Fin p e below s _ _ _ (Ty14.setTop (mkF m 10 #[.val (.ref a1), .val (.ref a2), .val (.ref by2), .val (.int (3 : Int32))] [(.int (3 : Int32)), (.int (3 : Int32))]))
  refine Fin.step (fun _ => XS.icmpYes Xy14.here hx rfl (pc0 := 10) (pc' := 27) rfl (hb hby d1_10) rfl (flt ((by decide) : ¬ ((3 : Int32) < (3 : Int32)))).2.1 (by decide) (by decide)) ?_
  show Fin p e below s _ _ _ (Ty14.setTop (mkF m 27 #[.val (.ref a1), .val (.ref a2), .val (.ref by2), .val (.int (3 : Int32))] []))
  refine Fin.step (fun _ => XS.aloadN Xy14.here hx rfl (hb hby d1_27) rfl rfl) ?_
  show Fin p e below s _ _ _ (Ty14.setTop (mkF m 28 #[.val (.ref a1), .val (.ref a2), .val (.ref by2), .val (.int (3 : Int32))] [(.ref by2)]))
  refine Fin.retR Xy14 hx hret rfl rfl hlk (hb hby d1_28) (by decide) (by decide) ?_
  show Qp3 Z a1 a2 k1 k2 q0 q1 q2 q3 P0 P1 P2 h0 n0 _ Ty14.heap _
  rw [ey14]
  exact ⟨ky2, by2, rfl, szy2, Ny14, Ky14, Vy14⟩
theorem ef_rmp4 (m : MethodId) (x0 : Addr) (x1 : Addr) : entryFrame m #[(.ref x0), (.ref x1)] 4 = mkF m 0 #[.val (.ref x0), .val (.ref x1), .unset, .unset] [] := by first | (simp [entryFrame, mkF, argsToLocals, Value.category]; done) | rfl
def Qp4 (Z : State) (a1 : Addr) (a2 : Addr) (k1 : ClassId) (k2 : ClassId) (q0 : Int64) (q1 : Int64) (q2 : Int64) (q3 : Int64) (P0 : Int32) (P1 : Int32) (P2 : Int32) (P3 : Int32) (h0 : Heap) (n0 : Nat) (v : Option Value) (h : Heap) (L : List Loc) : Prop := ∃ kk : ClassId, ∃ b : Addr, v = some (.ref b) ∧ h0.size ≤ b ∧ Fr n0 L ∧ Keep h0 h [] ∧ Arv Z h b kk .long (4 : Int32) [(.long (own_ref P0 q0 q1 q2 q3)), (.long (own_ref P1 q0 q1 q2 q3)), (.long (own_ref P2 q0 q1 q2 q3)), (.long (own_ref P3 q0 q1 q2 q3))] (.long (0 : Int64))
set_option maxRecDepth 65536 in
set_option maxHeartbeats 40000000 in
theorem rmp4 (l : Launch) (Z : State) (a0 : Array Value) (hw : ∀ d ∈ tables_1, d.before a0 Z = true) (ws : List Jvm.Cond) (a1 : Addr) (a2 : Addr) (k1 : ClassId) (k2 : ClassId) (q0 : Int64) (q1 : Int64) (q2 : Int64) (q3 : Int64) (P0 : Int32) (P1 : Int32) (P2 : Int32) (P3 : Int32) (h0 : Heap) (n0 : Nat) (Z0 : n0 ≤ h0.size) (HV_a1 : Arv Z h0 a1 k1 .long (4 : Int32) [(.long q0), (.long q1), (.long q2), (.long q3)] (.long (0 : Int64))) (HV_a2 : Arv Z h0 a2 k2 .int (4 : Int32) [(.int P0), (.int P1), (.int P2), (.int P3)] (.int (0 : Int32))) (r0 : ¬ P0 < 0 ∧ P0 < 4) (r1 : ¬ P1 < 0 ∧ P1 < 4) (r2 : ¬ P2 < 0 ∧ P2 < 4) (r3 : ¬ P3 < 0 ∧ P3 < 4) :
    MetFree l (⟨"com/example/uzor/uzor/Row", "pick", "([J[I)[J"⟩ : MethodName) (head1 (Jvm.Cond.code (⟨"com/example/uzor/uzor/Row", "pick", "([J[I)[J"⟩ : MethodName) prog_31_method_7_code 4 (some (.array .long)) :: ws) ({ frames := 0, cells := 1, slots := 4, locals := 0 } : Room)) (fun a U => a = #[(.ref a1), (.ref a2)] ∧ Z.Warmed39 U.vm ∧ U.heap = h0) (fun _ _ _ _ _ => True) (fun _ U o U' => ∃ v L, o = .returned v ∧ Qp4 Z a1 a2 k1 k2 q0 q1 q2 q3 P0 P1 P2 P3 h0 n0 v U'.heap L ∧ FrameEnd U o U' L ({ frames := 0, cells := 1, slots := 4, locals := 0 } : Room).cells ({ frames := 0, cells := 1, slots := 4, locals := 0 } : Room).slots) := by
  refine MetFree.of_bodySF (plainFor_of_name pn_1) hisR ?_
  intro p e s m args below meth c s₁ Bd hml0 hP hK
  obtain ⟨rfl, hZ, hh⟩ := hP
  have hx := Bd.exec
  have hby := Bd.bytes
  have hlk := BodyLoose.notSynchronized Bd
  have hret := Bd.returns
  have hml : c.maxLocals = 4 := hml0
  have hown : s.vm.findClass "com/example/uzor/uzor/Row" = some m.cls := findClass_of_methodNamed Bd.named
  have hnm := (name_of_methodNamed Bd.named Bd.method).1
  have X0 : Stand p l e ({ frames := 0, cells := 1, slots := 4, locals := 0 } : Room) s m #[(.ref a1), (.ref a2)] below meth c s₁ [] 0 0 := Stand.of_body Bd
  have e0 : s₁.heap = h0 := by rw [← hh, Bd.state]; rfl
  have N0 := Fr.nil n0
  have K0 : Keep h0 h0 [] := Keep.refl h0 _
  refine Fin.step (Q := fun v h L => Qp4 Z a1 a2 k1 k2 q0 q1 q2 q3 P0 P1 P2 P3 h0 n0 v h L) (st' := s₁.setTop (mkF m 0 #[.val (.ref a1), .val (.ref a2), .unset, .unset] [])) (fun t k => castTop (ef_rmp4 m a1 a2) k) ?_
  show Fin p e below s _ _ _ (s₁.setTop (mkF m 0 #[.val (.ref a1), .val (.ref a2), .unset, .unset] []))
  refine Fin.step (fun _ => XS.aloadN X0.here hx rfl (hb hby d1_0) rfl rfl) ?_
  show Fin p e below s _ _ _ (s₁.setTop (mkF m 1 #[.val (.ref a1), .val (.ref a2), .unset, .unset] [(.ref a2)]))
  have voy1 := HV_a2
  obtain ⟨cly1, Ary1, qay1, say1, nay1, hay1, gay1⟩ := voy1
  refine Fin.step (X0.arraylength hx (by rw [e0]; exact Ary1.1) (State.isArrayOf_alike hZ.alike Ary1.2.1) (g := (mkF m 1 #[.val (.ref a1), .val (.ref a2), .unset, .unset] [(.ref a2)])) rfl rfl (hb hby d1_1)) ?_
  rw [len_of say1 nay1]
  show Fin p e below s _ _ _ (s₁.setTop (mkF m 2 #[.val (.ref a1), .val (.ref a2), .unset, .unset] [(.int (4 : Int32))]))
  obtain ⟨Ty2, hy2, ky2, Xy2, ey2, Ey2, Ay2, sty2⟩ := newP X0 hx hZ (hw _ (List.mem_of_getElem? (i := 0) rfl)) e0 (g := (mkF m 2 #[.val (.ref a1), .val (.ref a2), .unset, .unset] [(.int (4 : Int32))])) rfl (hb hby d1_2) rfl (by decide) (cap := 4) (by decide) (by decide) (by decide) (by decide)
  obtain ⟨by2, gy2⟩ : ∃ z, z = h0.size := ⟨_, rfl⟩
  rw [← gy2] at Ay2 sty2
  have gzy2 : n0 ≤ by2 := Nat.le_trans Z0 (Nat.le_of_eq gy2.symm)
  have szy2 : h0.size ≤ by2 := Nat.le_trans K0.1 (Nat.le_of_eq gy2.symm)
  have Zy2 : n0 ≤ hy2.size := Nat.le_trans Z0 Ey2.1
  have Ky2 : Keep h0 hy2 [] := K0.ext Ey2
  have Vy2 : Arv Z hy2 by2 ky2 .long (4 : Int32) [(.long (0 : Int64)), (.long (0 : Int64)), (.long (0 : Int64)), (.long (0 : Int64))] (.long (0 : Int64)) := (Arv.new Ay2 (by decide)).pad (pad_rep [] (.long (0 : Int64)) 4)
  refine Fin.step (sty2) ?_
  show Fin p e below s _ _ _ (Ty2.setTop (mkF m 4 #[.val (.ref a1), .val (.ref a2), .unset, .unset] [(.ref by2)]))
  refine Fin.step (fun _ => XS.astoreN Xy2.here hx rfl (hb hby d1_4) rfl rfl (l' := #[.val (.ref a1), .val (.ref a2), .val (.ref by2), .unset]) rfl) ?_
  show Fin p e below s _ _ _ (Ty2.setTop (mkF m 5 #[.val (.ref a1), .val (.ref a2), .val (.ref by2), .unset] []))
  refine Fin.step (fun _ => XS.iconst Xy2.here hx rfl (hb hby d1_5)) ?_
  show Fin p e below s _ _ _ (Ty2.setTop (mkF m 6 #[.val (.ref a1), .val (.ref a2), .val (.ref by2), .unset] [(.int (0 : Int32))]))
  refine Fin.step (fun _ => XS.istoreN Xy2.here hx rfl (hb hby d1_6) rfl (l' := #[.val (.ref a1), .val (.ref a2), .val (.ref by2), .val (.int (0 : Int32))]) rfl) ?_
  show Fin p e below s _ _ _ (Ty2.setTop (mkF m 7 #[.val (.ref a1), .val (.ref a2), .val (.ref by2), .val (.int (0 : Int32))] []))
  refine Fin.step (fun _ => XS.iloadN Xy2.here hx rfl (hb hby d1_7) rfl) ?_
  show Fin p e below s _ _ _ (Ty2.setTop (mkF m 8 #[.val (.ref a1), .val (.ref a2), .val (.ref by2), .val (.int (0 : Int32))] [(.int (0 : Int32))]))
  refine Fin.step (fun _ => XS.aloadN Xy2.here hx rfl (hb hby d1_8) rfl rfl) ?_
  show Fin p e below s _ _ _ (Ty2.setTop (mkF m 9 #[.val (.ref a1), .val (.ref a2), .val (.ref by2), .val (.int (0 : Int32))] [(.ref a2), (.int (0 : Int32))]))
  have voy3 := (HV_a2.ext Ey2)
  obtain ⟨cly3, Ary3, qay3, say3, nay3, hay3, gay3⟩ := voy3
  refine Fin.step (Xy2.arraylength hx (by rw [ey2]; exact Ary3.1) (State.isArrayOf_alike hZ.alike Ary3.2.1) (g := (mkF m 9 #[.val (.ref a1), .val (.ref a2), .val (.ref by2), .val (.int (0 : Int32))] [(.ref a2), (.int (0 : Int32))])) rfl rfl (hb hby d1_9)) ?_
  rw [len_of say3 nay3]
  show Fin p e below s _ _ _ (Ty2.setTop (mkF m 10 #[.val (.ref a1), .val (.ref a2), .val (.ref by2), .val (.int (0 : Int32))] [(.int (4 : Int32)), (.int (0 : Int32))]))
  refine Fin.step (fun _ => XS.icmpNo Xy2.here hx rfl (hb hby d1_10) rfl (tlt ((by decide) : ((0 : Int32) < (4 : Int32)))).2.1) ?_
  show Fin p e below s _ _ _ (Ty2.setTop (mkF m 13 #[.val (.ref a1), .val (.ref a2), .val (.ref by2), .val (.int (0 : Int32))] []))
  refine Fin.step (fun _ => XS.aloadN Xy2.here hx rfl (hb hby d1_13) rfl rfl) ?_
  show Fin p e below s _ _ _ (Ty2.setTop (mkF m 14 #[.val (.ref a1), .val (.ref a2), .val (.ref by2), .val (.int (0 : Int32))] [(.ref by2)]))
  refine Fin.step (fun _ => XS.iloadN Xy2.here hx rfl (hb hby d1_14) rfl) ?_
  show Fin p e below s _ _ _ (Ty2.setTop (mkF m 15 #[.val (.ref a1), .val (.ref a2), .val (.ref by2), .val (.int (0 : Int32))] [(.int (0 : Int32)), (.ref by2)]))
  refine Fin.step (fun _ => XS.aloadN Xy2.here hx rfl (hb hby d1_15) rfl rfl) ?_
  show Fin p e below s _ _ _ (Ty2.setTop (mkF m 16 #[.val (.ref a1), .val (.ref a2), .val (.ref by2), .val (.int (0 : Int32))] [(.ref a1), (.int (0 : Int32)), (.ref by2)]))
  refine Fin.step (fun _ => XS.aloadN Xy2.here hx rfl (hb hby d1_16) rfl rfl) ?_
  show Fin p e below s _ _ _ (Ty2.setTop (mkF m 17 #[.val (.ref a1), .val (.ref a2), .val (.ref by2), .val (.int (0 : Int32))] [(.ref a2), (.ref a1), (.int (0 : Int32)), (.ref by2)]))
  refine Fin.step (fun _ => XS.iloadN Xy2.here hx rfl (hb hby d1_17) rfl) ?_
  show Fin p e below s _ _ _ (Ty2.setTop (mkF m 18 #[.val (.ref a1), .val (.ref a2), .val (.ref by2), .val (.int (0 : Int32))] [(.int (0 : Int32)), (.ref a2), (.ref a1), (.int (0 : Int32)), (.ref by2)]))
  have voy4 := (HV_a2.ext Ey2)
  obtain ⟨cly4, Ary4, qay4, say4, nay4, hay4, gay4⟩ := voy4
  have iny4 := inb_of (j := (0 : Int32)) say4 ⟨by decide, by decide⟩
  refine Fin.step (Xy2.iaload hx (j := (0 : Int32)) (v := (.int P0)) (by rw [ey2]; exact Ary4.1) (State.isArrayOf_alike hZ.alike Ary4.2.1) Ary4.2.2 iny4 (hay4.at iny4 rfl) (g := (mkF m 18 #[.val (.ref a1), .val (.ref a2), .val (.ref by2), .val (.int (0 : Int32))] [(.int (0 : Int32)), (.ref a2), (.ref a1), (.int (0 : Int32)), (.ref by2)])) rfl rfl (hb hby d1_18)) ?_
  show Fin p e below s _ _ _ (Ty2.setTop (mkF m 19 #[.val (.ref a1), .val (.ref a2), .val (.ref by2), .val (.int (0 : Int32))] [(.int P0), (.ref a1), (.int (0 : Int32)), (.ref by2)]))
  have voy5 := (HV_a1.ext Ey2)
  obtain ⟨cly5, Ary5, qay5, say5, nay5, hay5, gay5⟩ := voy5
  have iny5 := inb_of (j := P0) say5 r0
  refine Fin.step (Xy2.laload hx (j := P0) (v := (.long (own_ref P0 q0 q1 q2 q3))) (by rw [ey2]; exact Ary5.1) (State.isArrayOf_alike hZ.alike Ary5.2.1) Ary5.2.2 iny5 (hay5.at iny5 (own_get q0 q1 q2 q3 r0)) (g := (mkF m 19 #[.val (.ref a1), .val (.ref a2), .val (.ref by2), .val (.int (0 : Int32))] [(.int P0), (.ref a1), (.int (0 : Int32)), (.ref by2)])) rfl rfl (hb hby d1_19)) ?_
  show Fin p e below s _ _ _ (Ty2.setTop (mkF m 20 #[.val (.ref a1), .val (.ref a2), .val (.ref by2), .val (.int (0 : Int32))] [(.long (own_ref P0 q0 q1 q2 q3)), (.int (0 : Int32)), (.ref by2)]))
  have voy6 := Vy2
  obtain ⟨cly6, Ary6, qay6, say6, nay6, hay6, gay6⟩ := voy6
  obtain ⟨Ty6, hy6, Xy6, ey6, Wy6, sty6⟩ := stJ Xy2 hx hZ ey2 Ary6 (j := (0 : Int32)) (inb_of say6 ⟨by decide, by decide⟩) (g := (mkF m 20 #[.val (.ref a1), .val (.ref a2), .val (.ref by2), .val (.int (0 : Int32))] [(.long (own_ref P0 q0 q1 q2 q3)), (.int (0 : Int32)), (.ref by2)])) rfl rfl (hb hby d1_20)
  have Vy6 : Arv Z hy6 by2 ky2 .long (4 : Int32) [(.long (own_ref P0 q0 q1 q2 q3)), (.long (0 : Int64)), (.long (0 : Int64)), (.long (0 : Int64))] (.long (0 : Int64)) := Arv.set Ary6 qay6 say6 nay6 hay6 gay6 rfl Wy6 0 rfl (Nat.le_of_ble_eq_true rfl)
  have Zy6 : n0 ≤ hy6.size := Nat.le_trans Zy2 (Keep.of_wr Wy6).1
  have Ky6 : Keep h0 hy6 [] := Ky2.wr Wy6 (Or.inr szy2)
  have Ny6 := Fr.snoc Xy6 N0 gzy2
  refine Fin.step (sty6) ?_
  show Fin p e below s _ _ _ (Ty6.setTop (mkF m 21 #[.val (.ref a1), .val (.ref a2), .val (.ref by2), .val (.int (0 : Int32))] []))
  refine Fin.step (fun _ => XS.iinc Xy6.here hx rfl (hb hby d1_21) rfl (l' := #[.val (.ref a1), .val (.ref a2), .val (.ref by2), .val (.int (1 : Int32))]) rfl) ?_
  show Fin p e below s _ _ _ (Ty6.setTop (mkF m 24 #[.val (.ref a1), .val (.ref a2), .val (.ref by2), .val (.int (1 : Int32))] []))
  refine Fin.step (fun _ => XS.goto Xy6.here hx rfl (pc0 := 24) (pc' := 7) rfl (hb hby d1_24) (by decide) (by decide)) ?_
  show Fin p e below s _ _ _ (Ty6.setTop (mkF m 7 #[.val (.ref a1), .val (.ref a2), .val (.ref by2), .val (.int (1 : Int32))] []))
  refine Fin.step (fun _ => XS.iloadN Xy6.here hx rfl (hb hby d1_7) rfl) ?_
  show Fin p e below s _ _ _ (Ty6.setTop (mkF m 8 #[.val (.ref a1), .val (.ref a2), .val (.ref by2), .val (.int (1 : Int32))] [(.int (1 : Int32))]))
  refine Fin.step (fun _ => XS.aloadN Xy6.here hx rfl (hb hby d1_8) rfl rfl) ?_
  show Fin p e below s _ _ _ (Ty6.setTop (mkF m 9 #[.val (.ref a1), .val (.ref a2), .val (.ref by2), .val (.int (1 : Int32))] [(.ref a2), (.int (1 : Int32))]))
  have voy7 := ((HV_a2.ext Ey2).other Wy6 (Nat.ne_of_lt (Nat.lt_of_lt_of_le HV_a2.lt (Nat.le_of_eq gy2.symm))))
  obtain ⟨cly7, Ary7, qay7, say7, nay7, hay7, gay7⟩ := voy7
  refine Fin.step (Xy6.arraylength hx (by rw [ey6]; exact Ary7.1) (State.isArrayOf_alike hZ.alike Ary7.2.1) (g := (mkF m 9 #[.val (.ref a1), .val (.ref a2), .val (.ref by2), .val (.int (1 : Int32))] [(.ref a2), (.int (1 : Int32))])) rfl rfl (hb hby d1_9)) ?_
  rw [len_of say7 nay7]
  show Fin p e below s _ _ _ (Ty6.setTop (mkF m 10 #[.val (.ref a1), .val (.ref a2), .val (.ref by2), .val (.int (1 : Int32))] [(.int (4 : Int32)), (.int (1 : Int32))]))
  refine Fin.step (fun _ => XS.icmpNo Xy6.here hx rfl (hb hby d1_10) rfl (tlt ((by decide) : ((1 : Int32) < (4 : Int32)))).2.1) ?_
  show Fin p e below s _ _ _ (Ty6.setTop (mkF m 13 #[.val (.ref a1), .val (.ref a2), .val (.ref by2), .val (.int (1 : Int32))] []))
  refine Fin.step (fun _ => XS.aloadN Xy6.here hx rfl (hb hby d1_13) rfl rfl) ?_
  show Fin p e below s _ _ _ (Ty6.setTop (mkF m 14 #[.val (.ref a1), .val (.ref a2), .val (.ref by2), .val (.int (1 : Int32))] [(.ref by2)]))
  refine Fin.step (fun _ => XS.iloadN Xy6.here hx rfl (hb hby d1_14) rfl) ?_
  show Fin p e below s _ _ _ (Ty6.setTop (mkF m 15 #[.val (.ref a1), .val (.ref a2), .val (.ref by2), .val (.int (1 : Int32))] [(.int (1 : Int32)), (.ref by2)]))
  refine Fin.step (fun _ => XS.aloadN Xy6.here hx rfl (hb hby d1_15) rfl rfl) ?_
  show Fin p e below s _ _ _ (Ty6.setTop (mkF m 16 #[.val (.ref a1), .val (.ref a2), .val (.ref by2), .val (.int (1 : Int32))] [(.ref a1), (.int (1 : Int32)), (.ref by2)]))
  refine Fin.step (fun _ => XS.aloadN Xy6.here hx rfl (hb hby d1_16) rfl rfl) ?_
  show Fin p e below s _ _ _ (Ty6.setTop (mkF m 17 #[.val (.ref a1), .val (.ref a2), .val (.ref by2), .val (.int (1 : Int32))] [(.ref a2), (.ref a1), (.int (1 : Int32)), (.ref by2)]))
  refine Fin.step (fun _ => XS.iloadN Xy6.here hx rfl (hb hby d1_17) rfl) ?_
  show Fin p e below s _ _ _ (Ty6.setTop (mkF m 18 #[.val (.ref a1), .val (.ref a2), .val (.ref by2), .val (.int (1 : Int32))] [(.int (1 : Int32)), (.ref a2), (.ref a1), (.int (1 : Int32)), (.ref by2)]))
  have voy8 := ((HV_a2.ext Ey2).other Wy6 (Nat.ne_of_lt (Nat.lt_of_lt_of_le HV_a2.lt (Nat.le_of_eq gy2.symm))))
  obtain ⟨cly8, Ary8, qay8, say8, nay8, hay8, gay8⟩ := voy8
  have iny8 := inb_of (j := (1 : Int32)) say8 ⟨by decide, by decide⟩
  refine Fin.step (Xy6.iaload hx (j := (1 : Int32)) (v := (.int P1)) (by rw [ey6]; exact Ary8.1) (State.isArrayOf_alike hZ.alike Ary8.2.1) Ary8.2.2 iny8 (hay8.at iny8 rfl) (g := (mkF m 18 #[.val (.ref a1), .val (.ref a2), .val (.ref by2), .val (.int (1 : Int32))] [(.int (1 : Int32)), (.ref a2), (.ref a1), (.int (1 : Int32)), (.ref by2)])) rfl rfl (hb hby d1_18)) ?_
  show Fin p e below s _ _ _ (Ty6.setTop (mkF m 19 #[.val (.ref a1), .val (.ref a2), .val (.ref by2), .val (.int (1 : Int32))] [(.int P1), (.ref a1), (.int (1 : Int32)), (.ref by2)]))
  have voy9 := ((HV_a1.ext Ey2).other Wy6 (Nat.ne_of_lt (Nat.lt_of_lt_of_le HV_a1.lt (Nat.le_of_eq gy2.symm))))
  obtain ⟨cly9, Ary9, qay9, say9, nay9, hay9, gay9⟩ := voy9
  have iny9 := inb_of (j := P1) say9 r1
  refine Fin.step (Xy6.laload hx (j := P1) (v := (.long (own_ref P1 q0 q1 q2 q3))) (by rw [ey6]; exact Ary9.1) (State.isArrayOf_alike hZ.alike Ary9.2.1) Ary9.2.2 iny9 (hay9.at iny9 (own_get q0 q1 q2 q3 r1)) (g := (mkF m 19 #[.val (.ref a1), .val (.ref a2), .val (.ref by2), .val (.int (1 : Int32))] [(.int P1), (.ref a1), (.int (1 : Int32)), (.ref by2)])) rfl rfl (hb hby d1_19)) ?_
  show Fin p e below s _ _ _ (Ty6.setTop (mkF m 20 #[.val (.ref a1), .val (.ref a2), .val (.ref by2), .val (.int (1 : Int32))] [(.long (own_ref P1 q0 q1 q2 q3)), (.int (1 : Int32)), (.ref by2)]))
  have voy10 := Vy6
  obtain ⟨cly10, Ary10, qay10, say10, nay10, hay10, gay10⟩ := voy10
  obtain ⟨Ty10, hy10, Xy10, ey10, Wy10, sty10⟩ := stJ Xy6 hx hZ ey6 Ary10 (j := (1 : Int32)) (inb_of say10 ⟨by decide, by decide⟩) (g := (mkF m 20 #[.val (.ref a1), .val (.ref a2), .val (.ref by2), .val (.int (1 : Int32))] [(.long (own_ref P1 q0 q1 q2 q3)), (.int (1 : Int32)), (.ref by2)])) rfl rfl (hb hby d1_20)
  have Vy10 : Arv Z hy10 by2 ky2 .long (4 : Int32) [(.long (own_ref P0 q0 q1 q2 q3)), (.long (own_ref P1 q0 q1 q2 q3)), (.long (0 : Int64)), (.long (0 : Int64))] (.long (0 : Int64)) := Arv.set Ary10 qay10 say10 nay10 hay10 gay10 rfl Wy10 1 rfl (Nat.le_of_ble_eq_true rfl)
  have Zy10 : n0 ≤ hy10.size := Nat.le_trans Zy6 (Keep.of_wr Wy10).1
  have Ky10 : Keep h0 hy10 [] := Ky6.wr Wy10 (Or.inr szy2)
  have Ny10 := Fr.snoc Xy10 Ny6 gzy2
  refine Fin.step (sty10) ?_
  show Fin p e below s _ _ _ (Ty10.setTop (mkF m 21 #[.val (.ref a1), .val (.ref a2), .val (.ref by2), .val (.int (1 : Int32))] []))
  refine Fin.step (fun _ => XS.iinc Xy10.here hx rfl (hb hby d1_21) rfl (l' := #[.val (.ref a1), .val (.ref a2), .val (.ref by2), .val (.int (2 : Int32))]) rfl) ?_
  show Fin p e below s _ _ _ (Ty10.setTop (mkF m 24 #[.val (.ref a1), .val (.ref a2), .val (.ref by2), .val (.int (2 : Int32))] []))
  refine Fin.step (fun _ => XS.goto Xy10.here hx rfl (pc0 := 24) (pc' := 7) rfl (hb hby d1_24) (by decide) (by decide)) ?_
  show Fin p e below s _ _ _ (Ty10.setTop (mkF m 7 #[.val (.ref a1), .val (.ref a2), .val (.ref by2), .val (.int (2 : Int32))] []))
  refine Fin.step (fun _ => XS.iloadN Xy10.here hx rfl (hb hby d1_7) rfl) ?_
  show Fin p e below s _ _ _ (Ty10.setTop (mkF m 8 #[.val (.ref a1), .val (.ref a2), .val (.ref by2), .val (.int (2 : Int32))] [(.int (2 : Int32))]))
  refine Fin.step (fun _ => XS.aloadN Xy10.here hx rfl (hb hby d1_8) rfl rfl) ?_
  show Fin p e below s _ _ _ (Ty10.setTop (mkF m 9 #[.val (.ref a1), .val (.ref a2), .val (.ref by2), .val (.int (2 : Int32))] [(.ref a2), (.int (2 : Int32))]))
  have voy11 := (((HV_a2.ext Ey2).other Wy6 (Nat.ne_of_lt (Nat.lt_of_lt_of_le HV_a2.lt (Nat.le_of_eq gy2.symm)))).other Wy10 (Nat.ne_of_lt (Nat.lt_of_lt_of_le HV_a2.lt (Nat.le_of_eq gy2.symm))))
  obtain ⟨cly11, Ary11, qay11, say11, nay11, hay11, gay11⟩ := voy11
  refine Fin.step (Xy10.arraylength hx (by rw [ey10]; exact Ary11.1) (State.isArrayOf_alike hZ.alike Ary11.2.1) (g := (mkF m 9 #[.val (.ref a1), .val (.ref a2), .val (.ref by2), .val (.int (2 : Int32))] [(.ref a2), (.int (2 : Int32))])) rfl rfl (hb hby d1_9)) ?_
  rw [len_of say11 nay11]
  show Fin p e below s _ _ _ (Ty10.setTop (mkF m 10 #[.val (.ref a1), .val (.ref a2), .val (.ref by2), .val (.int (2 : Int32))] [(.int (4 : Int32)), (.int (2 : Int32))]))
  refine Fin.step (fun _ => XS.icmpNo Xy10.here hx rfl (hb hby d1_10) rfl (tlt ((by decide) : ((2 : Int32) < (4 : Int32)))).2.1) ?_
  show Fin p e below s _ _ _ (Ty10.setTop (mkF m 13 #[.val (.ref a1), .val (.ref a2), .val (.ref by2), .val (.int (2 : Int32))] []))
  refine Fin.step (fun _ => XS.aloadN Xy10.here hx rfl (hb hby d1_13) rfl rfl) ?_
  show Fin p e below s _ _ _ (Ty10.setTop (mkF m 14 #[.val (.ref a1), .val (.ref a2), .val (.ref by2), .val (.int (2 : Int32))] [(.ref by2)]))
  refine Fin.step (fun _ => XS.iloadN Xy10.here hx rfl (hb hby d1_14) rfl) ?_
  show Fin p e below s _ _ _ (Ty10.setTop (mkF m 15 #[.val (.ref a1), .val (.ref a2), .val (.ref by2), .val (.int (2 : Int32))] [(.int (2 : Int32)), (.ref by2)]))
  refine Fin.step (fun _ => XS.aloadN Xy10.here hx rfl (hb hby d1_15) rfl rfl) ?_
  show Fin p e below s _ _ _ (Ty10.setTop (mkF m 16 #[.val (.ref a1), .val (.ref a2), .val (.ref by2), .val (.int (2 : Int32))] [(.ref a1), (.int (2 : Int32)), (.ref by2)]))
  refine Fin.step (fun _ => XS.aloadN Xy10.here hx rfl (hb hby d1_16) rfl rfl) ?_
  show Fin p e below s _ _ _ (Ty10.setTop (mkF m 17 #[.val (.ref a1), .val (.ref a2), .val (.ref by2), .val (.int (2 : Int32))] [(.ref a2), (.ref a1), (.int (2 : Int32)), (.ref by2)]))
  refine Fin.step (fun _ => XS.iloadN Xy10.here hx rfl (hb hby d1_17) rfl) ?_
  show Fin p e below s _ _ _ (Ty10.setTop (mkF m 18 #[.val (.ref a1), .val (.ref a2), .val (.ref by2), .val (.int (2 : Int32))] [(.int (2 : Int32)), (.ref a2), (.ref a1), (.int (2 : Int32)), (.ref by2)]))
  have voy12 := (((HV_a2.ext Ey2).other Wy6 (Nat.ne_of_lt (Nat.lt_of_lt_of_le HV_a2.lt (Nat.le_of_eq gy2.symm)))).other Wy10 (Nat.ne_of_lt (Nat.lt_of_lt_of_le HV_a2.lt (Nat.le_of_eq gy2.symm))))
  obtain ⟨cly12, Ary12, qay12, say12, nay12, hay12, gay12⟩ := voy12
  have iny12 := inb_of (j := (2 : Int32)) say12 ⟨by decide, by decide⟩
  refine Fin.step (Xy10.iaload hx (j := (2 : Int32)) (v := (.int P2)) (by rw [ey10]; exact Ary12.1) (State.isArrayOf_alike hZ.alike Ary12.2.1) Ary12.2.2 iny12 (hay12.at iny12 rfl) (g := (mkF m 18 #[.val (.ref a1), .val (.ref a2), .val (.ref by2), .val (.int (2 : Int32))] [(.int (2 : Int32)), (.ref a2), (.ref a1), (.int (2 : Int32)), (.ref by2)])) rfl rfl (hb hby d1_18)) ?_
  show Fin p e below s _ _ _ (Ty10.setTop (mkF m 19 #[.val (.ref a1), .val (.ref a2), .val (.ref by2), .val (.int (2 : Int32))] [(.int P2), (.ref a1), (.int (2 : Int32)), (.ref by2)]))
  have voy13 := (((HV_a1.ext Ey2).other Wy6 (Nat.ne_of_lt (Nat.lt_of_lt_of_le HV_a1.lt (Nat.le_of_eq gy2.symm)))).other Wy10 (Nat.ne_of_lt (Nat.lt_of_lt_of_le HV_a1.lt (Nat.le_of_eq gy2.symm))))
  obtain ⟨cly13, Ary13, qay13, say13, nay13, hay13, gay13⟩ := voy13
  have iny13 := inb_of (j := P2) say13 r2
  refine Fin.step (Xy10.laload hx (j := P2) (v := (.long (own_ref P2 q0 q1 q2 q3))) (by rw [ey10]; exact Ary13.1) (State.isArrayOf_alike hZ.alike Ary13.2.1) Ary13.2.2 iny13 (hay13.at iny13 (own_get q0 q1 q2 q3 r2)) (g := (mkF m 19 #[.val (.ref a1), .val (.ref a2), .val (.ref by2), .val (.int (2 : Int32))] [(.int P2), (.ref a1), (.int (2 : Int32)), (.ref by2)])) rfl rfl (hb hby d1_19)) ?_
  show Fin p e below s _ _ _ (Ty10.setTop (mkF m 20 #[.val (.ref a1), .val (.ref a2), .val (.ref by2), .val (.int (2 : Int32))] [(.long (own_ref P2 q0 q1 q2 q3)), (.int (2 : Int32)), (.ref by2)]))
  have voy14 := Vy10
  obtain ⟨cly14, Ary14, qay14, say14, nay14, hay14, gay14⟩ := voy14
  obtain ⟨Ty14, hy14, Xy14, ey14, Wy14, sty14⟩ := stJ Xy10 hx hZ ey10 Ary14 (j := (2 : Int32)) (inb_of say14 ⟨by decide, by decide⟩) (g := (mkF m 20 #[.val (.ref a1), .val (.ref a2), .val (.ref by2), .val (.int (2 : Int32))] [(.long (own_ref P2 q0 q1 q2 q3)), (.int (2 : Int32)), (.ref by2)])) rfl rfl (hb hby d1_20)
  have Vy14 : Arv Z hy14 by2 ky2 .long (4 : Int32) [(.long (own_ref P0 q0 q1 q2 q3)), (.long (own_ref P1 q0 q1 q2 q3)), (.long (own_ref P2 q0 q1 q2 q3)), (.long (0 : Int64))] (.long (0 : Int64)) := Arv.set Ary14 qay14 say14 nay14 hay14 gay14 rfl Wy14 2 rfl (Nat.le_of_ble_eq_true rfl)
  have Zy14 : n0 ≤ hy14.size := Nat.le_trans Zy10 (Keep.of_wr Wy14).1
  have Ky14 : Keep h0 hy14 [] := Ky10.wr Wy14 (Or.inr szy2)
  have Ny14 := Fr.snoc Xy14 Ny10 gzy2
  refine Fin.step (sty14) ?_
  show Fin p e below s _ _ _ (Ty14.setTop (mkF m 21 #[.val (.ref a1), .val (.ref a2), .val (.ref by2), .val (.int (2 : Int32))] []))
  refine Fin.step (fun _ => XS.iinc Xy14.here hx rfl (hb hby d1_21) rfl (l' := #[.val (.ref a1), .val (.ref a2), .val (.ref by2), .val (.int (3 : Int32))]) rfl) ?_
  show Fin p e below s _ _ _ (Ty14.setTop (mkF m 24 #[.val (.ref a1), .val (.ref a2), .val (.ref by2), .val (.int (3 : Int32))] []))
  refine Fin.step (fun _ => XS.goto Xy14.here hx rfl (pc0 := 24) (pc' := 7) rfl (hb hby d1_24) (by decide) (by decide)) ?_
  show Fin p e below s _ _ _ (Ty14.setTop (mkF m 7 #[.val (.ref a1), .val (.ref a2), .val (.ref by2), .val (.int (3 : Int32))] []))
  refine Fin.step (fun _ => XS.iloadN Xy14.here hx rfl (hb hby d1_7) rfl) ?_
  show Fin p e below s _ _ _ (Ty14.setTop (mkF m 8 #[.val (.ref a1), .val (.ref a2), .val (.ref by2), .val (.int (3 : Int32))] [(.int (3 : Int32))]))
  refine Fin.step (fun _ => XS.aloadN Xy14.here hx rfl (hb hby d1_8) rfl rfl) ?_
  show Fin p e below s _ _ _ (Ty14.setTop (mkF m 9 #[.val (.ref a1), .val (.ref a2), .val (.ref by2), .val (.int (3 : Int32))] [(.ref a2), (.int (3 : Int32))]))
  have voy15 := ((((HV_a2.ext Ey2).other Wy6 (Nat.ne_of_lt (Nat.lt_of_lt_of_le HV_a2.lt (Nat.le_of_eq gy2.symm)))).other Wy10 (Nat.ne_of_lt (Nat.lt_of_lt_of_le HV_a2.lt (Nat.le_of_eq gy2.symm)))).other Wy14 (Nat.ne_of_lt (Nat.lt_of_lt_of_le HV_a2.lt (Nat.le_of_eq gy2.symm))))
  obtain ⟨cly15, Ary15, qay15, say15, nay15, hay15, gay15⟩ := voy15
  refine Fin.step (Xy14.arraylength hx (by rw [ey14]; exact Ary15.1) (State.isArrayOf_alike hZ.alike Ary15.2.1) (g := (mkF m 9 #[.val (.ref a1), .val (.ref a2), .val (.ref by2), .val (.int (3 : Int32))] [(.ref a2), (.int (3 : Int32))])) rfl rfl (hb hby d1_9)) ?_
  rw [len_of say15 nay15]
  show Fin p e below s _ _ _ (Ty14.setTop (mkF m 10 #[.val (.ref a1), .val (.ref a2), .val (.ref by2), .val (.int (3 : Int32))] [(.int (4 : Int32)), (.int (3 : Int32))]))
  refine Fin.step (fun _ => XS.icmpNo Xy14.here hx rfl (hb hby d1_10) rfl (tlt ((by decide) : ((3 : Int32) < (4 : Int32)))).2.1) ?_
  show Fin p e below s _ _ _ (Ty14.setTop (mkF m 13 #[.val (.ref a1), .val (.ref a2), .val (.ref by2), .val (.int (3 : Int32))] []))
  refine Fin.step (fun _ => XS.aloadN Xy14.here hx rfl (hb hby d1_13) rfl rfl) ?_
  show Fin p e below s _ _ _ (Ty14.setTop (mkF m 14 #[.val (.ref a1), .val (.ref a2), .val (.ref by2), .val (.int (3 : Int32))] [(.ref by2)]))
  refine Fin.step (fun _ => XS.iloadN Xy14.here hx rfl (hb hby d1_14) rfl) ?_
  show Fin p e below s _ _ _ (Ty14.setTop (mkF m 15 #[.val (.ref a1), .val (.ref a2), .val (.ref by2), .val (.int (3 : Int32))] [(.int (3 : Int32)), (.ref by2)]))
  refine Fin.step (fun _ => XS.aloadN Xy14.here hx rfl (hb hby d1_15) rfl rfl) ?_
  show Fin p e below s _ _ _ (Ty14.setTop (mkF m 16 #[.val (.ref a1), .val (.ref a2), .val (.ref by2), .val (.int (3 : Int32))] [(.ref a1), (.int (3 : Int32)), (.ref by2)]))
  refine Fin.step (fun _ => XS.aloadN Xy14.here hx rfl (hb hby d1_16) rfl rfl) ?_
  show Fin p e below s _ _ _ (Ty14.setTop (mkF m 17 #[.val (.ref a1), .val (.ref a2), .val (.ref by2), .val (.int (3 : Int32))] [(.ref a2), (.ref a1), (.int (3 : Int32)), (.ref by2)]))
  refine Fin.step (fun _ => XS.iloadN Xy14.here hx rfl (hb hby d1_17) rfl) ?_
  show Fin p e below s _ _ _ (Ty14.setTop (mkF m 18 #[.val (.ref a1), .val (.ref a2), .val (.ref by2), .val (.int (3 : Int32))] [(.int (3 : Int32)), (.ref a2), (.ref a1), (.int (3 : Int32)), (.ref by2)]))
  have voy16 := ((((HV_a2.ext Ey2).other Wy6 (Nat.ne_of_lt (Nat.lt_of_lt_of_le HV_a2.lt (Nat.le_of_eq gy2.symm)))).other Wy10 (Nat.ne_of_lt (Nat.lt_of_lt_of_le HV_a2.lt (Nat.le_of_eq gy2.symm)))).other Wy14 (Nat.ne_of_lt (Nat.lt_of_lt_of_le HV_a2.lt (Nat.le_of_eq gy2.symm))))
  obtain ⟨cly16, Ary16, qay16, say16, nay16, hay16, gay16⟩ := voy16
  have iny16 := inb_of (j := (3 : Int32)) say16 ⟨by decide, by decide⟩
  refine Fin.step (Xy14.iaload hx (j := (3 : Int32)) (v := (.int P3)) (by rw [ey14]; exact Ary16.1) (State.isArrayOf_alike hZ.alike Ary16.2.1) Ary16.2.2 iny16 (hay16.at iny16 rfl) (g := (mkF m 18 #[.val (.ref a1), .val (.ref a2), .val (.ref by2), .val (.int (3 : Int32))] [(.int (3 : Int32)), (.ref a2), (.ref a1), (.int (3 : Int32)), (.ref by2)])) rfl rfl (hb hby d1_18)) ?_
  show Fin p e below s _ _ _ (Ty14.setTop (mkF m 19 #[.val (.ref a1), .val (.ref a2), .val (.ref by2), .val (.int (3 : Int32))] [(.int P3), (.ref a1), (.int (3 : Int32)), (.ref by2)]))
  have voy17 := ((((HV_a1.ext Ey2).other Wy6 (Nat.ne_of_lt (Nat.lt_of_lt_of_le HV_a1.lt (Nat.le_of_eq gy2.symm)))).other Wy10 (Nat.ne_of_lt (Nat.lt_of_lt_of_le HV_a1.lt (Nat.le_of_eq gy2.symm)))).other Wy14 (Nat.ne_of_lt (Nat.lt_of_lt_of_le HV_a1.lt (Nat.le_of_eq gy2.symm))))
  obtain ⟨cly17, Ary17, qay17, say17, nay17, hay17, gay17⟩ := voy17
  have iny17 := inb_of (j := P3) say17 r3
  refine Fin.step (Xy14.laload hx (j := P3) (v := (.long (own_ref P3 q0 q1 q2 q3))) (by rw [ey14]; exact Ary17.1) (State.isArrayOf_alike hZ.alike Ary17.2.1) Ary17.2.2 iny17 (hay17.at iny17 (own_get q0 q1 q2 q3 r3)) (g := (mkF m 19 #[.val (.ref a1), .val (.ref a2), .val (.ref by2), .val (.int (3 : Int32))] [(.int P3), (.ref a1), (.int (3 : Int32)), (.ref by2)])) rfl rfl (hb hby d1_19)) ?_
  show Fin p e below s _ _ _ (Ty14.setTop (mkF m 20 #[.val (.ref a1), .val (.ref a2), .val (.ref by2), .val (.int (3 : Int32))] [(.long (own_ref P3 q0 q1 q2 q3)), (.int (3 : Int32)), (.ref by2)]))
  have voy18 := Vy14
  obtain ⟨cly18, Ary18, qay18, say18, nay18, hay18, gay18⟩ := voy18
  obtain ⟨Ty18, hy18, Xy18, ey18, Wy18, sty18⟩ := stJ Xy14 hx hZ ey14 Ary18 (j := (3 : Int32)) (inb_of say18 ⟨by decide, by decide⟩) (g := (mkF m 20 #[.val (.ref a1), .val (.ref a2), .val (.ref by2), .val (.int (3 : Int32))] [(.long (own_ref P3 q0 q1 q2 q3)), (.int (3 : Int32)), (.ref by2)])) rfl rfl (hb hby d1_20)
  have Vy18 : Arv Z hy18 by2 ky2 .long (4 : Int32) [(.long (own_ref P0 q0 q1 q2 q3)), (.long (own_ref P1 q0 q1 q2 q3)), (.long (own_ref P2 q0 q1 q2 q3)), (.long (own_ref P3 q0 q1 q2 q3))] (.long (0 : Int64)) := Arv.set Ary18 qay18 say18 nay18 hay18 gay18 rfl Wy18 3 rfl (Nat.le_of_ble_eq_true rfl)
  have Zy18 : n0 ≤ hy18.size := Nat.le_trans Zy14 (Keep.of_wr Wy18).1
  have Ky18 : Keep h0 hy18 [] := Ky14.wr Wy18 (Or.inr szy2)
  have Ny18 := Fr.snoc Xy18 Ny14 gzy2
  refine Fin.step (sty18) ?_
  show Fin p e below s _ _ _ (Ty18.setTop (mkF m 21 #[.val (.ref a1), .val (.ref a2), .val (.ref by2), .val (.int (3 : Int32))] []))
  refine Fin.step (fun _ => XS.iinc Xy18.here hx rfl (hb hby d1_21) rfl (l' := #[.val (.ref a1), .val (.ref a2), .val (.ref by2), .val (.int (4 : Int32))]) rfl) ?_
  show Fin p e below s _ _ _ (Ty18.setTop (mkF m 24 #[.val (.ref a1), .val (.ref a2), .val (.ref by2), .val (.int (4 : Int32))] []))
  refine Fin.step (fun _ => XS.goto Xy18.here hx rfl (pc0 := 24) (pc' := 7) rfl (hb hby d1_24) (by decide) (by decide)) ?_
  show Fin p e below s _ _ _ (Ty18.setTop (mkF m 7 #[.val (.ref a1), .val (.ref a2), .val (.ref by2), .val (.int (4 : Int32))] []))
  refine Fin.step (fun _ => XS.iloadN Xy18.here hx rfl (hb hby d1_7) rfl) ?_
  show Fin p e below s _ _ _ (Ty18.setTop (mkF m 8 #[.val (.ref a1), .val (.ref a2), .val (.ref by2), .val (.int (4 : Int32))] [(.int (4 : Int32))]))
  refine Fin.step (fun _ => XS.aloadN Xy18.here hx rfl (hb hby d1_8) rfl rfl) ?_
  show Fin p e below s _ _ _ (Ty18.setTop (mkF m 9 #[.val (.ref a1), .val (.ref a2), .val (.ref by2), .val (.int (4 : Int32))] [(.ref a2), (.int (4 : Int32))]))
  have voy19 := (((((HV_a2.ext Ey2).other Wy6 (Nat.ne_of_lt (Nat.lt_of_lt_of_le HV_a2.lt (Nat.le_of_eq gy2.symm)))).other Wy10 (Nat.ne_of_lt (Nat.lt_of_lt_of_le HV_a2.lt (Nat.le_of_eq gy2.symm)))).other Wy14 (Nat.ne_of_lt (Nat.lt_of_lt_of_le HV_a2.lt (Nat.le_of_eq gy2.symm)))).other Wy18 (Nat.ne_of_lt (Nat.lt_of_lt_of_le HV_a2.lt (Nat.le_of_eq gy2.symm))))
  obtain ⟨cly19, Ary19, qay19, say19, nay19, hay19, gay19⟩ := voy19
  refine Fin.step (Xy18.arraylength hx (by rw [ey18]; exact Ary19.1) (State.isArrayOf_alike hZ.alike Ary19.2.1) (g := (mkF m 9 #[.val (.ref a1), .val (.ref a2), .val (.ref by2), .val (.int (4 : Int32))] [(.ref a2), (.int (4 : Int32))])) rfl rfl (hb hby d1_9)) ?_
  rw [len_of say19 nay19]
  show Fin p e below s _ _ _ (Ty18.setTop (mkF m 10 #[.val (.ref a1), .val (.ref a2), .val (.ref by2), .val (.int (4 : Int32))] [(.int (4 : Int32)), (.int (4 : Int32))]))
  refine Fin.step (fun _ => XS.icmpYes Xy18.here hx rfl (pc0 := 10) (pc' := 27) rfl (hb hby d1_10) rfl (flt ((by decide) : ¬ ((4 : Int32) < (4 : Int32)))).2.1 (by decide) (by decide)) ?_
  show Fin p e below s _ _ _ (Ty18.setTop (mkF m 27 #[.val (.ref a1), .val (.ref a2), .val (.ref by2), .val (.int (4 : Int32))] []))
  refine Fin.step (fun _ => XS.aloadN Xy18.here hx rfl (hb hby d1_27) rfl rfl) ?_
  show Fin p e below s _ _ _ (Ty18.setTop (mkF m 28 #[.val (.ref a1), .val (.ref a2), .val (.ref by2), .val (.int (4 : Int32))] [(.ref by2)]))
  refine Fin.retR Xy18 hx hret rfl rfl hlk (hb hby d1_28) (by decide) (by decide) ?_
  show Qp4 Z a1 a2 k1 k2 q0 q1 q2 q3 P0 P1 P2 P3 h0 n0 _ Ty18.heap _
  rw [ey18]
  exact ⟨ky2, by2, rfl, szy2, Ny18, Ky18, Vy18⟩
theorem pn_0 : plainName "com/example/uzor/uzor/RowPickPinLaw" = true := by first | (simp [plainName, overriddenIn]; done) | decide +kernel
theorem pd_0 : parseMethodDescriptor "([J[I)[J" = some ⟨[(.array .long), (.array .int)], some (.array .long)⟩ := by decide +kernel
theorem pd_1 : parseMethodDescriptor "(IJJJJ)J" = some ⟨[.int, .long, .long, .long, .long], some .long⟩ := by decide +kernel
theorem ef_rm0 (m : MethodId) (x0 : Int64) (x1 : Int64) (x2 : Int64) (x3 : Int64) (x4 : Int32) : entryFrame m #[(.long x0), (.long x1), (.long x2), (.long x3), (.int x4)] maxLocals = mkF m 0 #[.val (.long x0), .second, .val (.long x1), .second, .val (.long x2), .second, .val (.long x3), .second, .val (.int x4), .unset, .unset, .unset, .unset, .unset, .unset, .unset, .unset, .unset] [] := by first | (simp [entryFrame, mkF, argsToLocals, Value.category, maxLocals]; done) | rfl
def Q0 (Z : State) (qa : Int64) (qb : Int64) (qc : Int64) (qd : Int64) (kx : Int32) (h0 : Heap) (n0 : Nat) (v : Option Value) (h : Heap) (L : List Loc) : Prop := v = some (.int (1 : Int32)) ∧ Fr n0 L ∧ Keep h0 h []
set_option maxRecDepth 65536 in
set_option maxHeartbeats 40000000 in
theorem rm0 (l : Launch) (Z : State) (a0 : Array Value) (hw : ∀ d ∈ tables_1, d.before a0 Z = true) (ws : List Jvm.Cond) (qa : Int64) (qb : Int64) (qc : Int64) (qd : Int64) (kx : Int32) (h0 : Heap) (n0 : Nat) (Z0 : n0 ≤ h0.size) :
    MetFree l x (head1 (Jvm.Cond.code x code maxLocals ret :: ws) room_1) (fun a U => a = #[(.long qa), (.long qb), (.long qc), (.long qd), (.int kx)] ∧ Z.Warmed39 U.vm ∧ U.heap = h0) (fun _ _ _ _ _ => True) (fun _ U o U' => ∃ v L, o = .returned v ∧ Q0 Z qa qb qc qd kx h0 n0 v U'.heap L ∧ FrameEnd U o U' L room_1.cells room_1.slots) := by
  refine MetFree.of_bodySF (plainFor_of_name pn_0) hisR ?_
  intro p e s m args below meth c s₁ Bd hml0 hP hK
  obtain ⟨rfl, hZ, hh⟩ := hP
  have hx := Bd.exec
  have hby := Bd.bytes
  have hlk := BodyLoose.notSynchronized Bd
  have hret := Bd.returns
  have hml : c.maxLocals = 18 := hml0
  have hown : s.vm.findClass "com/example/uzor/uzor/RowPickPinLaw" = some m.cls := findClass_of_methodNamed Bd.named
  have hnm := (name_of_methodNamed Bd.named Bd.method).1
  have X0 : Stand p l e room_1 s m #[(.long qa), (.long qb), (.long qc), (.long qd), (.int kx)] below meth c s₁ [] 0 0 := Stand.of_body Bd
  have e0 : s₁.heap = h0 := by rw [← hh, Bd.state]; rfl
  have N0 := Fr.nil n0
  have K0 : Keep h0 h0 [] := Keep.refl h0 _
  refine Fin.step (Q := fun v h L => Q0 Z qa qb qc qd kx h0 n0 v h L) (st' := s₁.setTop (mkF m 0 #[.val (.long qa), .second, .val (.long qb), .second, .val (.long qc), .second, .val (.long qd), .second, .val (.int kx), .unset, .unset, .unset, .unset, .unset, .unset, .unset, .unset, .unset] [])) (fun t k => castTop (ef_rm0 m qa qb qc qd kx) k) ?_
  show Fin p e below s _ _ _ (s₁.setTop (mkF m 0 #[.val (.long qa), .second, .val (.long qb), .second, .val (.long qc), .second, .val (.long qd), .second, .val (.int kx), .unset, .unset, .unset, .unset, .unset, .unset, .unset, .unset, .unset] []))
  refine Fin.step (fun _ => XS.iconst X0.here hx rfl (hb hby at_0)) ?_
  show Fin p e below s _ _ _ (s₁.setTop (mkF m 1 #[.val (.long qa), .second, .val (.long qb), .second, .val (.long qc), .second, .val (.long qd), .second, .val (.int kx), .unset, .unset, .unset, .unset, .unset, .unset, .unset, .unset, .unset] [(.int (4 : Int32))]))
  obtain ⟨Ty1, hy1, ky1, Xy1, ey1, Ey1, Ay1, sty1⟩ := newP X0 hx hZ (hw _ (List.mem_of_getElem? (i := 0) rfl)) e0 (g := (mkF m 1 #[.val (.long qa), .second, .val (.long qb), .second, .val (.long qc), .second, .val (.long qd), .second, .val (.int kx), .unset, .unset, .unset, .unset, .unset, .unset, .unset, .unset, .unset] [(.int (4 : Int32))])) rfl (hb hby at_1) rfl (by decide) (cap := 4) (by decide) (by decide) (by decide) (by decide)
  obtain ⟨by1, gy1⟩ : ∃ z, z = h0.size := ⟨_, rfl⟩
  rw [← gy1] at Ay1 sty1
  have gzy1 : n0 ≤ by1 := Nat.le_trans Z0 (Nat.le_of_eq gy1.symm)
  have szy1 : h0.size ≤ by1 := Nat.le_trans K0.1 (Nat.le_of_eq gy1.symm)
  have Zy1 : n0 ≤ hy1.size := Nat.le_trans Z0 Ey1.1
  have Ky1 : Keep h0 hy1 [] := K0.ext Ey1
  have Vy1 : Arv Z hy1 by1 ky1 .long (4 : Int32) [(.long (0 : Int64)), (.long (0 : Int64)), (.long (0 : Int64)), (.long (0 : Int64))] (.long (0 : Int64)) := (Arv.new Ay1 (by decide)).pad (pad_rep [] (.long (0 : Int64)) 4)
  refine Fin.step (sty1) ?_
  show Fin p e below s _ _ _ (Ty1.setTop (mkF m 3 #[.val (.long qa), .second, .val (.long qb), .second, .val (.long qc), .second, .val (.long qd), .second, .val (.int kx), .unset, .unset, .unset, .unset, .unset, .unset, .unset, .unset, .unset] [(.ref by1)]))
  refine Fin.step (fun _ => XS.dup Xy1.here hx rfl (hb hby at_3) rfl rfl) ?_
  show Fin p e below s _ _ _ (Ty1.setTop (mkF m 4 #[.val (.long qa), .second, .val (.long qb), .second, .val (.long qc), .second, .val (.long qd), .second, .val (.int kx), .unset, .unset, .unset, .unset, .unset, .unset, .unset, .unset, .unset] [(.ref by1), (.ref by1)]))
  refine Fin.step (fun _ => XS.iconst Xy1.here hx rfl (hb hby at_4)) ?_
  show Fin p e below s _ _ _ (Ty1.setTop (mkF m 5 #[.val (.long qa), .second, .val (.long qb), .second, .val (.long qc), .second, .val (.long qd), .second, .val (.int kx), .unset, .unset, .unset, .unset, .unset, .unset, .unset, .unset, .unset] [(.int (0 : Int32)), (.ref by1), (.ref by1)]))
  refine Fin.step (fun _ => XS.lloadN Xy1.here hx rfl (hb hby at_5) rfl) ?_
  show Fin p e below s _ _ _ (Ty1.setTop (mkF m 6 #[.val (.long qa), .second, .val (.long qb), .second, .val (.long qc), .second, .val (.long qd), .second, .val (.int kx), .unset, .unset, .unset, .unset, .unset, .unset, .unset, .unset, .unset] [(.long qa), (.int (0 : Int32)), (.ref by1), (.ref by1)]))
  have voy2 := Vy1
  obtain ⟨cly2, Ary2, qay2, say2, nay2, hay2, gay2⟩ := voy2
  obtain ⟨Ty2, hy2, Xy2, ey2, Wy2, sty2⟩ := stJ Xy1 hx hZ ey1 Ary2 (j := (0 : Int32)) (inb_of say2 ⟨by decide, by decide⟩) (g := (mkF m 6 #[.val (.long qa), .second, .val (.long qb), .second, .val (.long qc), .second, .val (.long qd), .second, .val (.int kx), .unset, .unset, .unset, .unset, .unset, .unset, .unset, .unset, .unset] [(.long qa), (.int (0 : Int32)), (.ref by1), (.ref by1)])) rfl rfl (hb hby at_6)
  have Vy2 : Arv Z hy2 by1 ky1 .long (4 : Int32) [(.long qa), (.long (0 : Int64)), (.long (0 : Int64)), (.long (0 : Int64))] (.long (0 : Int64)) := Arv.set Ary2 qay2 say2 nay2 hay2 gay2 rfl Wy2 0 rfl (Nat.le_of_ble_eq_true rfl)
  have Zy2 : n0 ≤ hy2.size := Nat.le_trans Zy1 (Keep.of_wr Wy2).1
  have Ky2 : Keep h0 hy2 [] := Ky1.wr Wy2 (Or.inr szy1)
  have Ny2 := Fr.snoc Xy2 N0 gzy1
  refine Fin.step (sty2) ?_
  show Fin p e below s _ _ _ (Ty2.setTop (mkF m 7 #[.val (.long qa), .second, .val (.long qb), .second, .val (.long qc), .second, .val (.long qd), .second, .val (.int kx), .unset, .unset, .unset, .unset, .unset, .unset, .unset, .unset, .unset] [(.ref by1)]))
  refine Fin.step (fun _ => XS.dup Xy2.here hx rfl (hb hby at_7) rfl rfl) ?_
  show Fin p e below s _ _ _ (Ty2.setTop (mkF m 8 #[.val (.long qa), .second, .val (.long qb), .second, .val (.long qc), .second, .val (.long qd), .second, .val (.int kx), .unset, .unset, .unset, .unset, .unset, .unset, .unset, .unset, .unset] [(.ref by1), (.ref by1)]))
  refine Fin.step (fun _ => XS.iconst Xy2.here hx rfl (hb hby at_8)) ?_
  show Fin p e below s _ _ _ (Ty2.setTop (mkF m 9 #[.val (.long qa), .second, .val (.long qb), .second, .val (.long qc), .second, .val (.long qd), .second, .val (.int kx), .unset, .unset, .unset, .unset, .unset, .unset, .unset, .unset, .unset] [(.int (1 : Int32)), (.ref by1), (.ref by1)]))
  refine Fin.step (fun _ => XS.lloadN Xy2.here hx rfl (hb hby at_9) rfl) ?_
  show Fin p e below s _ _ _ (Ty2.setTop (mkF m 10 #[.val (.long qa), .second, .val (.long qb), .second, .val (.long qc), .second, .val (.long qd), .second, .val (.int kx), .unset, .unset, .unset, .unset, .unset, .unset, .unset, .unset, .unset] [(.long qb), (.int (1 : Int32)), (.ref by1), (.ref by1)]))
  have voy3 := Vy2
  obtain ⟨cly3, Ary3, qay3, say3, nay3, hay3, gay3⟩ := voy3
  obtain ⟨Ty3, hy3, Xy3, ey3, Wy3, sty3⟩ := stJ Xy2 hx hZ ey2 Ary3 (j := (1 : Int32)) (inb_of say3 ⟨by decide, by decide⟩) (g := (mkF m 10 #[.val (.long qa), .second, .val (.long qb), .second, .val (.long qc), .second, .val (.long qd), .second, .val (.int kx), .unset, .unset, .unset, .unset, .unset, .unset, .unset, .unset, .unset] [(.long qb), (.int (1 : Int32)), (.ref by1), (.ref by1)])) rfl rfl (hb hby at_10)
  have Vy3 : Arv Z hy3 by1 ky1 .long (4 : Int32) [(.long qa), (.long qb), (.long (0 : Int64)), (.long (0 : Int64))] (.long (0 : Int64)) := Arv.set Ary3 qay3 say3 nay3 hay3 gay3 rfl Wy3 1 rfl (Nat.le_of_ble_eq_true rfl)
  have Zy3 : n0 ≤ hy3.size := Nat.le_trans Zy2 (Keep.of_wr Wy3).1
  have Ky3 : Keep h0 hy3 [] := Ky2.wr Wy3 (Or.inr szy1)
  have Ny3 := Fr.snoc Xy3 Ny2 gzy1
  refine Fin.step (sty3) ?_
  show Fin p e below s _ _ _ (Ty3.setTop (mkF m 11 #[.val (.long qa), .second, .val (.long qb), .second, .val (.long qc), .second, .val (.long qd), .second, .val (.int kx), .unset, .unset, .unset, .unset, .unset, .unset, .unset, .unset, .unset] [(.ref by1)]))
  refine Fin.step (fun _ => XS.dup Xy3.here hx rfl (hb hby at_11) rfl rfl) ?_
  show Fin p e below s _ _ _ (Ty3.setTop (mkF m 12 #[.val (.long qa), .second, .val (.long qb), .second, .val (.long qc), .second, .val (.long qd), .second, .val (.int kx), .unset, .unset, .unset, .unset, .unset, .unset, .unset, .unset, .unset] [(.ref by1), (.ref by1)]))
  refine Fin.step (fun _ => XS.iconst Xy3.here hx rfl (hb hby at_12)) ?_
  show Fin p e below s _ _ _ (Ty3.setTop (mkF m 13 #[.val (.long qa), .second, .val (.long qb), .second, .val (.long qc), .second, .val (.long qd), .second, .val (.int kx), .unset, .unset, .unset, .unset, .unset, .unset, .unset, .unset, .unset] [(.int (2 : Int32)), (.ref by1), (.ref by1)]))
  refine Fin.step (fun _ => XS.lload Xy3.here hx rfl (hb hby at_13) rfl) ?_
  show Fin p e below s _ _ _ (Ty3.setTop (mkF m 15 #[.val (.long qa), .second, .val (.long qb), .second, .val (.long qc), .second, .val (.long qd), .second, .val (.int kx), .unset, .unset, .unset, .unset, .unset, .unset, .unset, .unset, .unset] [(.long qc), (.int (2 : Int32)), (.ref by1), (.ref by1)]))
  have voy4 := Vy3
  obtain ⟨cly4, Ary4, qay4, say4, nay4, hay4, gay4⟩ := voy4
  obtain ⟨Ty4, hy4, Xy4, ey4, Wy4, sty4⟩ := stJ Xy3 hx hZ ey3 Ary4 (j := (2 : Int32)) (inb_of say4 ⟨by decide, by decide⟩) (g := (mkF m 15 #[.val (.long qa), .second, .val (.long qb), .second, .val (.long qc), .second, .val (.long qd), .second, .val (.int kx), .unset, .unset, .unset, .unset, .unset, .unset, .unset, .unset, .unset] [(.long qc), (.int (2 : Int32)), (.ref by1), (.ref by1)])) rfl rfl (hb hby at_15)
  have Vy4 : Arv Z hy4 by1 ky1 .long (4 : Int32) [(.long qa), (.long qb), (.long qc), (.long (0 : Int64))] (.long (0 : Int64)) := Arv.set Ary4 qay4 say4 nay4 hay4 gay4 rfl Wy4 2 rfl (Nat.le_of_ble_eq_true rfl)
  have Zy4 : n0 ≤ hy4.size := Nat.le_trans Zy3 (Keep.of_wr Wy4).1
  have Ky4 : Keep h0 hy4 [] := Ky3.wr Wy4 (Or.inr szy1)
  have Ny4 := Fr.snoc Xy4 Ny3 gzy1
  refine Fin.step (sty4) ?_
  show Fin p e below s _ _ _ (Ty4.setTop (mkF m 16 #[.val (.long qa), .second, .val (.long qb), .second, .val (.long qc), .second, .val (.long qd), .second, .val (.int kx), .unset, .unset, .unset, .unset, .unset, .unset, .unset, .unset, .unset] [(.ref by1)]))
  refine Fin.step (fun _ => XS.dup Xy4.here hx rfl (hb hby at_16) rfl rfl) ?_
  show Fin p e below s _ _ _ (Ty4.setTop (mkF m 17 #[.val (.long qa), .second, .val (.long qb), .second, .val (.long qc), .second, .val (.long qd), .second, .val (.int kx), .unset, .unset, .unset, .unset, .unset, .unset, .unset, .unset, .unset] [(.ref by1), (.ref by1)]))
  refine Fin.step (fun _ => XS.iconst Xy4.here hx rfl (hb hby at_17)) ?_
  show Fin p e below s _ _ _ (Ty4.setTop (mkF m 18 #[.val (.long qa), .second, .val (.long qb), .second, .val (.long qc), .second, .val (.long qd), .second, .val (.int kx), .unset, .unset, .unset, .unset, .unset, .unset, .unset, .unset, .unset] [(.int (3 : Int32)), (.ref by1), (.ref by1)]))
  refine Fin.step (fun _ => XS.lload Xy4.here hx rfl (hb hby at_18) rfl) ?_
  show Fin p e below s _ _ _ (Ty4.setTop (mkF m 20 #[.val (.long qa), .second, .val (.long qb), .second, .val (.long qc), .second, .val (.long qd), .second, .val (.int kx), .unset, .unset, .unset, .unset, .unset, .unset, .unset, .unset, .unset] [(.long qd), (.int (3 : Int32)), (.ref by1), (.ref by1)]))
  have voy5 := Vy4
  obtain ⟨cly5, Ary5, qay5, say5, nay5, hay5, gay5⟩ := voy5
  obtain ⟨Ty5, hy5, Xy5, ey5, Wy5, sty5⟩ := stJ Xy4 hx hZ ey4 Ary5 (j := (3 : Int32)) (inb_of say5 ⟨by decide, by decide⟩) (g := (mkF m 20 #[.val (.long qa), .second, .val (.long qb), .second, .val (.long qc), .second, .val (.long qd), .second, .val (.int kx), .unset, .unset, .unset, .unset, .unset, .unset, .unset, .unset, .unset] [(.long qd), (.int (3 : Int32)), (.ref by1), (.ref by1)])) rfl rfl (hb hby at_20)
  have Vy5 : Arv Z hy5 by1 ky1 .long (4 : Int32) [(.long qa), (.long qb), (.long qc), (.long qd)] (.long (0 : Int64)) := Arv.set Ary5 qay5 say5 nay5 hay5 gay5 rfl Wy5 3 rfl (Nat.le_of_ble_eq_true rfl)
  have Zy5 : n0 ≤ hy5.size := Nat.le_trans Zy4 (Keep.of_wr Wy5).1
  have Ky5 : Keep h0 hy5 [] := Ky4.wr Wy5 (Or.inr szy1)
  have Ny5 := Fr.snoc Xy5 Ny4 gzy1
  refine Fin.step (sty5) ?_
  show Fin p e below s _ _ _ (Ty5.setTop (mkF m 21 #[.val (.long qa), .second, .val (.long qb), .second, .val (.long qc), .second, .val (.long qd), .second, .val (.int kx), .unset, .unset, .unset, .unset, .unset, .unset, .unset, .unset, .unset] [(.ref by1)]))
  refine Fin.step (fun _ => XS.astore Xy5.here hx rfl (hb hby at_21) rfl rfl (l' := #[.val (.long qa), .second, .val (.long qb), .second, .val (.long qc), .second, .val (.long qd), .second, .val (.int kx), .val (.ref by1), .unset, .unset, .unset, .unset, .unset, .unset, .unset, .unset]) rfl) ?_
  show Fin p e below s _ _ _ (Ty5.setTop (mkF m 23 #[.val (.long qa), .second, .val (.long qb), .second, .val (.long qc), .second, .val (.long qd), .second, .val (.int kx), .val (.ref by1), .unset, .unset, .unset, .unset, .unset, .unset, .unset, .unset] []))
  refine Fin.step (fun _ => XS.iload Xy5.here hx rfl (hb hby at_23) rfl) ?_
  show Fin p e below s _ _ _ (Ty5.setTop (mkF m 25 #[.val (.long qa), .second, .val (.long qb), .second, .val (.long qc), .second, .val (.long qd), .second, .val (.int kx), .val (.ref by1), .unset, .unset, .unset, .unset, .unset, .unset, .unset, .unset] [(.int kx)]))
  refine Fin.step (fun _ => XS.bipush Xy5.here hx rfl (hb hby at_25)) ?_
  show Fin p e below s _ _ _ (Ty5.setTop (mkF m 27 #[.val (.long qa), .second, .val (.long qb), .second, .val (.long qc), .second, .val (.long qd), .second, .val (.int kx), .val (.ref by1), .unset, .unset, .unset, .unset, .unset, .unset, .unset, .unset] [(.int (7 : Int32)), (.int kx)]))
  refine Fin.step (fun _ => XS.iand Xy5.here hx rfl (hb hby at_27) rfl) ?_
  show Fin p e below s _ _ _ (Ty5.setTop (mkF m 28 #[.val (.long qa), .second, .val (.long qb), .second, .val (.long qc), .second, .val (.long qd), .second, .val (.int kx), .val (.ref by1), .unset, .unset, .unset, .unset, .unset, .unset, .unset, .unset] [(.int (kx &&& (7 : Int32)))]))
  refine Fin.step (fun _ => XS.iconst Xy5.here hx rfl (hb hby at_28)) ?_
  show Fin p e below s _ _ _ (Ty5.setTop (mkF m 29 #[.val (.long qa), .second, .val (.long qb), .second, .val (.long qc), .second, .val (.long qd), .second, .val (.int kx), .val (.ref by1), .unset, .unset, .unset, .unset, .unset, .unset, .unset, .unset] [(.int (5 : Int32)), (.int (kx &&& (7 : Int32)))]))
  refine Fin.step (fun _ => iremM Xy5 hx (g := (mkF m 29 #[.val (.long qa), .second, .val (.long qb), .second, .val (.long qc), .second, .val (.long qd), .second, .val (.int kx), .val (.ref by1), .unset, .unset, .unset, .unset, .unset, .unset, .unset, .unset] [(.int (5 : Int32)), (.int (kx &&& (7 : Int32)))])) rfl (hb hby at_29) rfl (by decide)) ?_
  show Fin p e below s _ _ _ (Ty5.setTop (mkF m 30 #[.val (.long qa), .second, .val (.long qb), .second, .val (.long qc), .second, .val (.long qd), .second, .val (.int kx), .val (.ref by1), .unset, .unset, .unset, .unset, .unset, .unset, .unset, .unset] [(.int ((kx &&& (7 : Int32)) % (5 : Int32)))]))
  refine Fin.step (fun _ => XS.istore Xy5.here hx rfl (hb hby at_30) rfl (l' := #[.val (.long qa), .second, .val (.long qb), .second, .val (.long qc), .second, .val (.long qd), .second, .val (.int kx), .val (.ref by1), .val (.int ((kx &&& (7 : Int32)) % (5 : Int32))), .unset, .unset, .unset, .unset, .unset, .unset, .unset]) rfl) ?_
  show Fin p e below s _ _ _ (Ty5.setTop (mkF m 32 #[.val (.long qa), .second, .val (.long qb), .second, .val (.long qc), .second, .val (.long qd), .second, .val (.int kx), .val (.ref by1), .val (.int ((kx &&& (7 : Int32)) % (5 : Int32))), .unset, .unset, .unset, .unset, .unset, .unset, .unset] []))
  refine Fin.step (fun _ => XS.iload Xy5.here hx rfl (hb hby at_32) rfl) ?_
  show Fin p e below s _ _ _ (Ty5.setTop (mkF m 34 #[.val (.long qa), .second, .val (.long qb), .second, .val (.long qc), .second, .val (.long qd), .second, .val (.int kx), .val (.ref by1), .val (.int ((kx &&& (7 : Int32)) % (5 : Int32))), .unset, .unset, .unset, .unset, .unset, .unset, .unset] [(.int kx)]))
  refine Fin.step (fun _ => XS.iconst Xy5.here hx rfl (hb hby at_34)) ?_
  show Fin p e below s _ _ _ (Ty5.setTop (mkF m 35 #[.val (.long qa), .second, .val (.long qb), .second, .val (.long qc), .second, .val (.long qd), .second, .val (.int kx), .val (.ref by1), .val (.int ((kx &&& (7 : Int32)) % (5 : Int32))), .unset, .unset, .unset, .unset, .unset, .unset, .unset] [(.int (3 : Int32)), (.int kx)]))
  refine Fin.step (fun _ => XS.iushr Xy5.here hx rfl (hb hby at_35) rfl) ?_
  show Fin p e below s _ _ _ (Ty5.setTop (mkF m 36 #[.val (.long qa), .second, .val (.long qb), .second, .val (.long qc), .second, .val (.long qd), .second, .val (.int kx), .val (.ref by1), .val (.int ((kx &&& (7 : Int32)) % (5 : Int32))), .unset, .unset, .unset, .unset, .unset, .unset, .unset] [(.int (ushI kx (3 : Int32)))]))
  refine Fin.step (fun _ => XS.iconst Xy5.here hx rfl (hb hby at_36)) ?_
  show Fin p e below s _ _ _ (Ty5.setTop (mkF m 37 #[.val (.long qa), .second, .val (.long qb), .second, .val (.long qc), .second, .val (.long qd), .second, .val (.int kx), .val (.ref by1), .val (.int ((kx &&& (7 : Int32)) % (5 : Int32))), .unset, .unset, .unset, .unset, .unset, .unset, .unset] [(.int (3 : Int32)), (.int (ushI kx (3 : Int32)))]))
  refine Fin.step (fun _ => XS.iand Xy5.here hx rfl (hb hby at_37) rfl) ?_
  show Fin p e below s _ _ _ (Ty5.setTop (mkF m 38 #[.val (.long qa), .second, .val (.long qb), .second, .val (.long qc), .second, .val (.long qd), .second, .val (.int kx), .val (.ref by1), .val (.int ((kx &&& (7 : Int32)) % (5 : Int32))), .unset, .unset, .unset, .unset, .unset, .unset, .unset] [(.int ((ushI kx (3 : Int32)) &&& (3 : Int32)))]))
  refine Fin.step (fun _ => XS.istore Xy5.here hx rfl (hb hby at_38) rfl (l' := #[.val (.long qa), .second, .val (.long qb), .second, .val (.long qc), .second, .val (.long qd), .second, .val (.int kx), .val (.ref by1), .val (.int ((kx &&& (7 : Int32)) % (5 : Int32))), .val (.int ((ushI kx (3 : Int32)) &&& (3 : Int32))), .unset, .unset, .unset, .unset, .unset, .unset]) rfl) ?_
  show Fin p e below s _ _ _ (Ty5.setTop (mkF m 40 #[.val (.long qa), .second, .val (.long qb), .second, .val (.long qc), .second, .val (.long qd), .second, .val (.int kx), .val (.ref by1), .val (.int ((kx &&& (7 : Int32)) % (5 : Int32))), .val (.int ((ushI kx (3 : Int32)) &&& (3 : Int32))), .unset, .unset, .unset, .unset, .unset, .unset] []))
  refine Fin.step (fun _ => XS.iload Xy5.here hx rfl (hb hby at_40) rfl) ?_
  show Fin p e below s _ _ _ (Ty5.setTop (mkF m 42 #[.val (.long qa), .second, .val (.long qb), .second, .val (.long qc), .second, .val (.long qd), .second, .val (.int kx), .val (.ref by1), .val (.int ((kx &&& (7 : Int32)) % (5 : Int32))), .val (.int ((ushI kx (3 : Int32)) &&& (3 : Int32))), .unset, .unset, .unset, .unset, .unset, .unset] [(.int kx)]))
  refine Fin.step (fun _ => XS.iconst Xy5.here hx rfl (hb hby at_42)) ?_
  show Fin p e below s _ _ _ (Ty5.setTop (mkF m 43 #[.val (.long qa), .second, .val (.long qb), .second, .val (.long qc), .second, .val (.long qd), .second, .val (.int kx), .val (.ref by1), .val (.int ((kx &&& (7 : Int32)) % (5 : Int32))), .val (.int ((ushI kx (3 : Int32)) &&& (3 : Int32))), .unset, .unset, .unset, .unset, .unset, .unset] [(.int (5 : Int32)), (.int kx)]))
  refine Fin.step (fun _ => XS.iushr Xy5.here hx rfl (hb hby at_43) rfl) ?_
  show Fin p e below s _ _ _ (Ty5.setTop (mkF m 44 #[.val (.long qa), .second, .val (.long qb), .second, .val (.long qc), .second, .val (.long qd), .second, .val (.int kx), .val (.ref by1), .val (.int ((kx &&& (7 : Int32)) % (5 : Int32))), .val (.int ((ushI kx (3 : Int32)) &&& (3 : Int32))), .unset, .unset, .unset, .unset, .unset, .unset] [(.int (ushI kx (5 : Int32)))]))
  refine Fin.step (fun _ => XS.iconst Xy5.here hx rfl (hb hby at_44)) ?_
  show Fin p e below s _ _ _ (Ty5.setTop (mkF m 45 #[.val (.long qa), .second, .val (.long qb), .second, .val (.long qc), .second, .val (.long qd), .second, .val (.int kx), .val (.ref by1), .val (.int ((kx &&& (7 : Int32)) % (5 : Int32))), .val (.int ((ushI kx (3 : Int32)) &&& (3 : Int32))), .unset, .unset, .unset, .unset, .unset, .unset] [(.int (3 : Int32)), (.int (ushI kx (5 : Int32)))]))
  refine Fin.step (fun _ => XS.iand Xy5.here hx rfl (hb hby at_45) rfl) ?_
  show Fin p e below s _ _ _ (Ty5.setTop (mkF m 46 #[.val (.long qa), .second, .val (.long qb), .second, .val (.long qc), .second, .val (.long qd), .second, .val (.int kx), .val (.ref by1), .val (.int ((kx &&& (7 : Int32)) % (5 : Int32))), .val (.int ((ushI kx (3 : Int32)) &&& (3 : Int32))), .unset, .unset, .unset, .unset, .unset, .unset] [(.int ((ushI kx (5 : Int32)) &&& (3 : Int32)))]))
  refine Fin.step (fun _ => XS.istore Xy5.here hx rfl (hb hby at_46) rfl (l' := #[.val (.long qa), .second, .val (.long qb), .second, .val (.long qc), .second, .val (.long qd), .second, .val (.int kx), .val (.ref by1), .val (.int ((kx &&& (7 : Int32)) % (5 : Int32))), .val (.int ((ushI kx (3 : Int32)) &&& (3 : Int32))), .val (.int ((ushI kx (5 : Int32)) &&& (3 : Int32))), .unset, .unset, .unset, .unset, .unset]) rfl) ?_
  show Fin p e below s _ _ _ (Ty5.setTop (mkF m 48 #[.val (.long qa), .second, .val (.long qb), .second, .val (.long qc), .second, .val (.long qd), .second, .val (.int kx), .val (.ref by1), .val (.int ((kx &&& (7 : Int32)) % (5 : Int32))), .val (.int ((ushI kx (3 : Int32)) &&& (3 : Int32))), .val (.int ((ushI kx (5 : Int32)) &&& (3 : Int32))), .unset, .unset, .unset, .unset, .unset] []))
  refine Fin.step (fun _ => XS.iload Xy5.here hx rfl (hb hby at_48) rfl) ?_
  show Fin p e below s _ _ _ (Ty5.setTop (mkF m 50 #[.val (.long qa), .second, .val (.long qb), .second, .val (.long qc), .second, .val (.long qd), .second, .val (.int kx), .val (.ref by1), .val (.int ((kx &&& (7 : Int32)) % (5 : Int32))), .val (.int ((ushI kx (3 : Int32)) &&& (3 : Int32))), .val (.int ((ushI kx (5 : Int32)) &&& (3 : Int32))), .unset, .unset, .unset, .unset, .unset] [(.int kx)]))
  refine Fin.step (fun _ => XS.bipush Xy5.here hx rfl (hb hby at_50)) ?_
  show Fin p e below s _ _ _ (Ty5.setTop (mkF m 52 #[.val (.long qa), .second, .val (.long qb), .second, .val (.long qc), .second, .val (.long qd), .second, .val (.int kx), .val (.ref by1), .val (.int ((kx &&& (7 : Int32)) % (5 : Int32))), .val (.int ((ushI kx (3 : Int32)) &&& (3 : Int32))), .val (.int ((ushI kx (5 : Int32)) &&& (3 : Int32))), .unset, .unset, .unset, .unset, .unset] [(.int (7 : Int32)), (.int kx)]))
  refine Fin.step (fun _ => XS.iushr Xy5.here hx rfl (hb hby at_52) rfl) ?_
  show Fin p e below s _ _ _ (Ty5.setTop (mkF m 53 #[.val (.long qa), .second, .val (.long qb), .second, .val (.long qc), .second, .val (.long qd), .second, .val (.int kx), .val (.ref by1), .val (.int ((kx &&& (7 : Int32)) % (5 : Int32))), .val (.int ((ushI kx (3 : Int32)) &&& (3 : Int32))), .val (.int ((ushI kx (5 : Int32)) &&& (3 : Int32))), .unset, .unset, .unset, .unset, .unset] [(.int (ushI kx (7 : Int32)))]))
  refine Fin.step (fun _ => XS.iconst Xy5.here hx rfl (hb hby at_53)) ?_
  show Fin p e below s _ _ _ (Ty5.setTop (mkF m 54 #[.val (.long qa), .second, .val (.long qb), .second, .val (.long qc), .second, .val (.long qd), .second, .val (.int kx), .val (.ref by1), .val (.int ((kx &&& (7 : Int32)) % (5 : Int32))), .val (.int ((ushI kx (3 : Int32)) &&& (3 : Int32))), .val (.int ((ushI kx (5 : Int32)) &&& (3 : Int32))), .unset, .unset, .unset, .unset, .unset] [(.int (3 : Int32)), (.int (ushI kx (7 : Int32)))]))
  refine Fin.step (fun _ => XS.iand Xy5.here hx rfl (hb hby at_54) rfl) ?_
  show Fin p e below s _ _ _ (Ty5.setTop (mkF m 55 #[.val (.long qa), .second, .val (.long qb), .second, .val (.long qc), .second, .val (.long qd), .second, .val (.int kx), .val (.ref by1), .val (.int ((kx &&& (7 : Int32)) % (5 : Int32))), .val (.int ((ushI kx (3 : Int32)) &&& (3 : Int32))), .val (.int ((ushI kx (5 : Int32)) &&& (3 : Int32))), .unset, .unset, .unset, .unset, .unset] [(.int ((ushI kx (7 : Int32)) &&& (3 : Int32)))]))
  refine Fin.step (fun _ => XS.istore Xy5.here hx rfl (hb hby at_55) rfl (l' := #[.val (.long qa), .second, .val (.long qb), .second, .val (.long qc), .second, .val (.long qd), .second, .val (.int kx), .val (.ref by1), .val (.int ((kx &&& (7 : Int32)) % (5 : Int32))), .val (.int ((ushI kx (3 : Int32)) &&& (3 : Int32))), .val (.int ((ushI kx (5 : Int32)) &&& (3 : Int32))), .val (.int ((ushI kx (7 : Int32)) &&& (3 : Int32))), .unset, .unset, .unset, .unset]) rfl) ?_
  show Fin p e below s _ _ _ (Ty5.setTop (mkF m 57 #[.val (.long qa), .second, .val (.long qb), .second, .val (.long qc), .second, .val (.long qd), .second, .val (.int kx), .val (.ref by1), .val (.int ((kx &&& (7 : Int32)) % (5 : Int32))), .val (.int ((ushI kx (3 : Int32)) &&& (3 : Int32))), .val (.int ((ushI kx (5 : Int32)) &&& (3 : Int32))), .val (.int ((ushI kx (7 : Int32)) &&& (3 : Int32))), .unset, .unset, .unset, .unset] []))
  refine Fin.step (fun _ => XS.iload Xy5.here hx rfl (hb hby at_57) rfl) ?_
  show Fin p e below s _ _ _ (Ty5.setTop (mkF m 59 #[.val (.long qa), .second, .val (.long qb), .second, .val (.long qc), .second, .val (.long qd), .second, .val (.int kx), .val (.ref by1), .val (.int ((kx &&& (7 : Int32)) % (5 : Int32))), .val (.int ((ushI kx (3 : Int32)) &&& (3 : Int32))), .val (.int ((ushI kx (5 : Int32)) &&& (3 : Int32))), .val (.int ((ushI kx (7 : Int32)) &&& (3 : Int32))), .unset, .unset, .unset, .unset] [(.int kx)]))
  refine Fin.step (fun _ => XS.bipush Xy5.here hx rfl (hb hby at_59)) ?_
  show Fin p e below s _ _ _ (Ty5.setTop (mkF m 61 #[.val (.long qa), .second, .val (.long qb), .second, .val (.long qc), .second, .val (.long qd), .second, .val (.int kx), .val (.ref by1), .val (.int ((kx &&& (7 : Int32)) % (5 : Int32))), .val (.int ((ushI kx (3 : Int32)) &&& (3 : Int32))), .val (.int ((ushI kx (5 : Int32)) &&& (3 : Int32))), .val (.int ((ushI kx (7 : Int32)) &&& (3 : Int32))), .unset, .unset, .unset, .unset] [(.int (9 : Int32)), (.int kx)]))
  refine Fin.step (fun _ => XS.iushr Xy5.here hx rfl (hb hby at_61) rfl) ?_
  show Fin p e below s _ _ _ (Ty5.setTop (mkF m 62 #[.val (.long qa), .second, .val (.long qb), .second, .val (.long qc), .second, .val (.long qd), .second, .val (.int kx), .val (.ref by1), .val (.int ((kx &&& (7 : Int32)) % (5 : Int32))), .val (.int ((ushI kx (3 : Int32)) &&& (3 : Int32))), .val (.int ((ushI kx (5 : Int32)) &&& (3 : Int32))), .val (.int ((ushI kx (7 : Int32)) &&& (3 : Int32))), .unset, .unset, .unset, .unset] [(.int (ushI kx (9 : Int32)))]))
  refine Fin.step (fun _ => XS.iconst Xy5.here hx rfl (hb hby at_62)) ?_
  show Fin p e below s _ _ _ (Ty5.setTop (mkF m 63 #[.val (.long qa), .second, .val (.long qb), .second, .val (.long qc), .second, .val (.long qd), .second, .val (.int kx), .val (.ref by1), .val (.int ((kx &&& (7 : Int32)) % (5 : Int32))), .val (.int ((ushI kx (3 : Int32)) &&& (3 : Int32))), .val (.int ((ushI kx (5 : Int32)) &&& (3 : Int32))), .val (.int ((ushI kx (7 : Int32)) &&& (3 : Int32))), .unset, .unset, .unset, .unset] [(.int (3 : Int32)), (.int (ushI kx (9 : Int32)))]))
  refine Fin.step (fun _ => XS.iand Xy5.here hx rfl (hb hby at_63) rfl) ?_
  show Fin p e below s _ _ _ (Ty5.setTop (mkF m 64 #[.val (.long qa), .second, .val (.long qb), .second, .val (.long qc), .second, .val (.long qd), .second, .val (.int kx), .val (.ref by1), .val (.int ((kx &&& (7 : Int32)) % (5 : Int32))), .val (.int ((ushI kx (3 : Int32)) &&& (3 : Int32))), .val (.int ((ushI kx (5 : Int32)) &&& (3 : Int32))), .val (.int ((ushI kx (7 : Int32)) &&& (3 : Int32))), .unset, .unset, .unset, .unset] [(.int ((ushI kx (9 : Int32)) &&& (3 : Int32)))]))
  refine Fin.step (fun _ => XS.istore Xy5.here hx rfl (hb hby at_64) rfl (l' := #[.val (.long qa), .second, .val (.long qb), .second, .val (.long qc), .second, .val (.long qd), .second, .val (.int kx), .val (.ref by1), .val (.int ((kx &&& (7 : Int32)) % (5 : Int32))), .val (.int ((ushI kx (3 : Int32)) &&& (3 : Int32))), .val (.int ((ushI kx (5 : Int32)) &&& (3 : Int32))), .val (.int ((ushI kx (7 : Int32)) &&& (3 : Int32))), .val (.int ((ushI kx (9 : Int32)) &&& (3 : Int32))), .unset, .unset, .unset]) rfl) ?_
  show Fin p e below s _ _ _ (Ty5.setTop (mkF m 66 #[.val (.long qa), .second, .val (.long qb), .second, .val (.long qc), .second, .val (.long qd), .second, .val (.int kx), .val (.ref by1), .val (.int ((kx &&& (7 : Int32)) % (5 : Int32))), .val (.int ((ushI kx (3 : Int32)) &&& (3 : Int32))), .val (.int ((ushI kx (5 : Int32)) &&& (3 : Int32))), .val (.int ((ushI kx (7 : Int32)) &&& (3 : Int32))), .val (.int ((ushI kx (9 : Int32)) &&& (3 : Int32))), .unset, .unset, .unset] []))
  obtain ⟨P0, h_P0⟩ : ∃ z : Int32, z = ((ushI kx (3 : Int32)) &&& (3 : Int32)) := ⟨_, rfl⟩
  rw [← h_P0]
  show Fin p e below s _ _ _ (Ty5.setTop (mkF m 66 #[.val (.long qa), .second, .val (.long qb), .second, .val (.long qc), .second, .val (.long qd), .second, .val (.int kx), .val (.ref by1), .val (.int ((kx &&& (7 : Int32)) % (5 : Int32))), .val (.int P0), .val (.int ((ushI kx (5 : Int32)) &&& (3 : Int32))), .val (.int ((ushI kx (7 : Int32)) &&& (3 : Int32))), .val (.int ((ushI kx (9 : Int32)) &&& (3 : Int32))), .unset, .unset, .unset] []))
  have r0 : ¬ P0 < 0 ∧ P0 < 4 := by rw [h_P0]; exact own_r3 _
  obtain ⟨P1, h_P1⟩ : ∃ z : Int32, z = ((ushI kx (5 : Int32)) &&& (3 : Int32)) := ⟨_, rfl⟩
  rw [← h_P1]
  show Fin p e below s _ _ _ (Ty5.setTop (mkF m 66 #[.val (.long qa), .second, .val (.long qb), .second, .val (.long qc), .second, .val (.long qd), .second, .val (.int kx), .val (.ref by1), .val (.int ((kx &&& (7 : Int32)) % (5 : Int32))), .val (.int P0), .val (.int P1), .val (.int ((ushI kx (7 : Int32)) &&& (3 : Int32))), .val (.int ((ushI kx (9 : Int32)) &&& (3 : Int32))), .unset, .unset, .unset] []))
  have r1 : ¬ P1 < 0 ∧ P1 < 4 := by rw [h_P1]; exact own_r3 _
  obtain ⟨P2, h_P2⟩ : ∃ z : Int32, z = ((ushI kx (7 : Int32)) &&& (3 : Int32)) := ⟨_, rfl⟩
  rw [← h_P2]
  show Fin p e below s _ _ _ (Ty5.setTop (mkF m 66 #[.val (.long qa), .second, .val (.long qb), .second, .val (.long qc), .second, .val (.long qd), .second, .val (.int kx), .val (.ref by1), .val (.int ((kx &&& (7 : Int32)) % (5 : Int32))), .val (.int P0), .val (.int P1), .val (.int P2), .val (.int ((ushI kx (9 : Int32)) &&& (3 : Int32))), .unset, .unset, .unset] []))
  have r2 : ¬ P2 < 0 ∧ P2 < 4 := by rw [h_P2]; exact own_r3 _
  obtain ⟨P3, h_P3⟩ : ∃ z : Int32, z = ((ushI kx (9 : Int32)) &&& (3 : Int32)) := ⟨_, rfl⟩
  rw [← h_P3]
  show Fin p e below s _ _ _ (Ty5.setTop (mkF m 66 #[.val (.long qa), .second, .val (.long qb), .second, .val (.long qc), .second, .val (.long qd), .second, .val (.int kx), .val (.ref by1), .val (.int ((kx &&& (7 : Int32)) % (5 : Int32))), .val (.int P0), .val (.int P1), .val (.int P2), .val (.int P3), .unset, .unset, .unset] []))
  have r3 : ¬ P3 < 0 ∧ P3 < 4 := by rw [h_P3]; exact own_r3 _
  rcases own_n5 kx with qn | qn | qn | qn | qn
  · rw [qn]
    show Fin p e below s _ _ _ (Ty5.setTop (mkF m 66 #[.val (.long qa), .second, .val (.long qb), .second, .val (.long qc), .second, .val (.long qd), .second, .val (.int kx), .val (.ref by1), .val (.int (0 : Int32)), .val (.int P0), .val (.int P1), .val (.int P2), .val (.int P3), .unset, .unset, .unset] []))
    refine Fin.step (fun _ => XS.iload Xy5.here hx rfl (hb hby at_66) rfl) ?_
    show Fin p e below s _ _ _ (Ty5.setTop (mkF m 68 #[.val (.long qa), .second, .val (.long qb), .second, .val (.long qc), .second, .val (.long qd), .second, .val (.int kx), .val (.ref by1), .val (.int (0 : Int32)), .val (.int P0), .val (.int P1), .val (.int P2), .val (.int P3), .unset, .unset, .unset] [(.int (0 : Int32))]))
    obtain ⟨Ty6, hy6, ky6, Xy6, ey6, Ey6, Ay6, sty6⟩ := newP Xy5 hx hZ (hw _ (List.mem_of_getElem? (i := 1) rfl)) ey5 (g := (mkF m 68 #[.val (.long qa), .second, .val (.long qb), .second, .val (.long qc), .second, .val (.long qd), .second, .val (.int kx), .val (.ref by1), .val (.int (0 : Int32)), .val (.int P0), .val (.int P1), .val (.int P2), .val (.int P3), .unset, .unset, .unset] [(.int (0 : Int32))])) rfl (hb hby at_68) rfl (by decide) (cap := 0) (by decide) (by decide) (by decide) (by decide)
    obtain ⟨by6, gy6⟩ : ∃ z, z = hy5.size := ⟨_, rfl⟩
    rw [← gy6] at Ay6 sty6
    have gzy6 : n0 ≤ by6 := Nat.le_trans Zy5 (Nat.le_of_eq gy6.symm)
    have szy6 : h0.size ≤ by6 := Nat.le_trans Ky5.1 (Nat.le_of_eq gy6.symm)
    have Zy6 : n0 ≤ hy6.size := Nat.le_trans Zy5 Ey6.1
    have Ky6 : Keep h0 hy6 [] := Ky5.ext Ey6
    have Vy6 : Arv Z hy6 by6 ky6 .int (0 : Int32) [] (.int (0 : Int32)) := (Arv.new Ay6 (by decide)).pad (pad_rep [] (.int (0 : Int32)) 0)
    refine Fin.step (sty6) ?_
    show Fin p e below s _ _ _ (Ty6.setTop (mkF m 70 #[.val (.long qa), .second, .val (.long qb), .second, .val (.long qc), .second, .val (.long qd), .second, .val (.int kx), .val (.ref by1), .val (.int (0 : Int32)), .val (.int P0), .val (.int P1), .val (.int P2), .val (.int P3), .unset, .unset, .unset] [(.ref by6)]))
    refine Fin.step (fun _ => XS.astore Xy6.here hx rfl (hb hby at_70) rfl rfl (l' := #[.val (.long qa), .second, .val (.long qb), .second, .val (.long qc), .second, .val (.long qd), .second, .val (.int kx), .val (.ref by1), .val (.int (0 : Int32)), .val (.int P0), .val (.int P1), .val (.int P2), .val (.int P3), .val (.ref by6), .unset, .unset]) rfl) ?_
    show Fin p e below s _ _ _ (Ty6.setTop (mkF m 72 #[.val (.long qa), .second, .val (.long qb), .second, .val (.long qc), .second, .val (.long qd), .second, .val (.int kx), .val (.ref by1), .val (.int (0 : Int32)), .val (.int P0), .val (.int P1), .val (.int P2), .val (.int P3), .val (.ref by6), .unset, .unset] []))
    refine Fin.step (fun _ => XS.iload Xy6.here hx rfl (hb hby at_72) rfl) ?_
    show Fin p e below s _ _ _ (Ty6.setTop (mkF m 74 #[.val (.long qa), .second, .val (.long qb), .second, .val (.long qc), .second, .val (.long qd), .second, .val (.int kx), .val (.ref by1), .val (.int (0 : Int32)), .val (.int P0), .val (.int P1), .val (.int P2), .val (.int P3), .val (.ref by6), .unset, .unset] [(.int (0 : Int32))]))
    refine Fin.step (fun _ => XS.ifYes Xy6.here hx rfl (pc0 := 74) (pc' := 83) rfl (hb hby at_74) rfl ((if0 _ _).trans (flt ((by decide) : ¬ ((0 : Int32) < (0 : Int32)))).2.2.2) (by decide) (by decide)) ?_
    show Fin p e below s _ _ _ (Ty6.setTop (mkF m 83 #[.val (.long qa), .second, .val (.long qb), .second, .val (.long qc), .second, .val (.long qd), .second, .val (.int kx), .val (.ref by1), .val (.int (0 : Int32)), .val (.int P0), .val (.int P1), .val (.int P2), .val (.int P3), .val (.ref by6), .unset, .unset] []))
    refine Fin.step (fun _ => XS.iload Xy6.here hx rfl (hb hby at_83) rfl) ?_
    show Fin p e below s _ _ _ (Ty6.setTop (mkF m 85 #[.val (.long qa), .second, .val (.long qb), .second, .val (.long qc), .second, .val (.long qd), .second, .val (.int kx), .val (.ref by1), .val (.int (0 : Int32)), .val (.int P0), .val (.int P1), .val (.int P2), .val (.int P3), .val (.ref by6), .unset, .unset] [(.int (0 : Int32))]))
    refine Fin.step (fun _ => XS.iconst Xy6.here hx rfl (hb hby at_85)) ?_
    show Fin p e below s _ _ _ (Ty6.setTop (mkF m 86 #[.val (.long qa), .second, .val (.long qb), .second, .val (.long qc), .second, .val (.long qd), .second, .val (.int kx), .val (.ref by1), .val (.int (0 : Int32)), .val (.int P0), .val (.int P1), .val (.int P2), .val (.int P3), .val (.ref by6), .unset, .unset] [(.int (1 : Int32)), (.int (0 : Int32))]))
    refine Fin.step (fun _ => XS.icmpYes Xy6.here hx rfl (pc0 := 86) (pc' := 95) rfl (hb hby at_86) rfl (flt ((by decide) : ¬ ((1 : Int32) < (0 : Int32)))).2.2.2 (by decide) (by decide)) ?_
    show Fin p e below s _ _ _ (Ty6.setTop (mkF m 95 #[.val (.long qa), .second, .val (.long qb), .second, .val (.long qc), .second, .val (.long qd), .second, .val (.int kx), .val (.ref by1), .val (.int (0 : Int32)), .val (.int P0), .val (.int P1), .val (.int P2), .val (.int P3), .val (.ref by6), .unset, .unset] []))
    refine Fin.step (fun _ => XS.iload Xy6.here hx rfl (hb hby at_95) rfl) ?_
    show Fin p e below s _ _ _ (Ty6.setTop (mkF m 97 #[.val (.long qa), .second, .val (.long qb), .second, .val (.long qc), .second, .val (.long qd), .second, .val (.int kx), .val (.ref by1), .val (.int (0 : Int32)), .val (.int P0), .val (.int P1), .val (.int P2), .val (.int P3), .val (.ref by6), .unset, .unset] [(.int (0 : Int32))]))
    refine Fin.step (fun _ => XS.iconst Xy6.here hx rfl (hb hby at_97)) ?_
    show Fin p e below s _ _ _ (Ty6.setTop (mkF m 98 #[.val (.long qa), .second, .val (.long qb), .second, .val (.long qc), .second, .val (.long qd), .second, .val (.int kx), .val (.ref by1), .val (.int (0 : Int32)), .val (.int P0), .val (.int P1), .val (.int P2), .val (.int P3), .val (.ref by6), .unset, .unset] [(.int (2 : Int32)), (.int (0 : Int32))]))
    refine Fin.step (fun _ => XS.icmpYes Xy6.here hx rfl (pc0 := 98) (pc' := 107) rfl (hb hby at_98) rfl (flt ((by decide) : ¬ ((2 : Int32) < (0 : Int32)))).2.2.2 (by decide) (by decide)) ?_
    show Fin p e below s _ _ _ (Ty6.setTop (mkF m 107 #[.val (.long qa), .second, .val (.long qb), .second, .val (.long qc), .second, .val (.long qd), .second, .val (.int kx), .val (.ref by1), .val (.int (0 : Int32)), .val (.int P0), .val (.int P1), .val (.int P2), .val (.int P3), .val (.ref by6), .unset, .unset] []))
    refine Fin.step (fun _ => XS.iload Xy6.here hx rfl (hb hby at_107) rfl) ?_
    show Fin p e below s _ _ _ (Ty6.setTop (mkF m 109 #[.val (.long qa), .second, .val (.long qb), .second, .val (.long qc), .second, .val (.long qd), .second, .val (.int kx), .val (.ref by1), .val (.int (0 : Int32)), .val (.int P0), .val (.int P1), .val (.int P2), .val (.int P3), .val (.ref by6), .unset, .unset] [(.int (0 : Int32))]))
    refine Fin.step (fun _ => XS.iconst Xy6.here hx rfl (hb hby at_109)) ?_
    show Fin p e below s _ _ _ (Ty6.setTop (mkF m 110 #[.val (.long qa), .second, .val (.long qb), .second, .val (.long qc), .second, .val (.long qd), .second, .val (.int kx), .val (.ref by1), .val (.int (0 : Int32)), .val (.int P0), .val (.int P1), .val (.int P2), .val (.int P3), .val (.ref by6), .unset, .unset] [(.int (3 : Int32)), (.int (0 : Int32))]))
    refine Fin.step (fun _ => XS.icmpYes Xy6.here hx rfl (pc0 := 110) (pc' := 119) rfl (hb hby at_110) rfl (flt ((by decide) : ¬ ((3 : Int32) < (0 : Int32)))).2.2.2 (by decide) (by decide)) ?_
    show Fin p e below s _ _ _ (Ty6.setTop (mkF m 119 #[.val (.long qa), .second, .val (.long qb), .second, .val (.long qc), .second, .val (.long qd), .second, .val (.int kx), .val (.ref by1), .val (.int (0 : Int32)), .val (.int P0), .val (.int P1), .val (.int P2), .val (.int P3), .val (.ref by6), .unset, .unset] []))
    refine Fin.step (fun _ => XS.aload Xy6.here hx rfl (hb hby at_119) rfl rfl) ?_
    show Fin p e below s _ _ _ (Ty6.setTop (mkF m 121 #[.val (.long qa), .second, .val (.long qb), .second, .val (.long qc), .second, .val (.long qd), .second, .val (.int kx), .val (.ref by1), .val (.int (0 : Int32)), .val (.int P0), .val (.int P1), .val (.int P2), .val (.int P3), .val (.ref by6), .unset, .unset] [(.ref by1)]))
    refine Fin.step (fun _ => XS.aload Xy6.here hx rfl (hb hby at_121) rfl rfl) ?_
    show Fin p e below s _ _ _ (Ty6.setTop (mkF m 123 #[.val (.long qa), .second, .val (.long qb), .second, .val (.long qc), .second, .val (.long qd), .second, .val (.int kx), .val (.ref by1), .val (.int (0 : Int32)), .val (.int P0), .val (.int P1), .val (.int P2), .val (.int P3), .val (.ref by6), .unset, .unset] [(.ref by6), (.ref by1)]))
    obtain ⟨_, _, ⟨Ty7, Ly7, ky7, ny7⟩, -, Xy7, ⟨Lcy7, hQy7, ly7, yy7, zy7⟩, sty7⟩ := Jvm.LawKit.callS Xy6 hx (y := (⟨"com/example/uzor/uzor/Row", "pick", "([J[I)[J"⟩ : MethodName)) hown (mvT hZ (hw _ (List.mem_of_getElem? (i := 2) rfl))) (mvT hZ (hw _ (List.mem_of_getElem? (i := 3) rfl))) (mvT hZ (hw _ (List.mem_of_getElem? (i := 4) rfl))) (mvT hZ (hw _ (List.mem_of_getElem? (i := 5) rfl))) (by decide) (backOf (W := 0) (rmp0 l Z a0 hw [] by1 by6 ky1 ky6 qa qb qc qd hy6 n0 Zy6 (Vy5.ext Ey6) Vy6) hZ (hw _ (List.mem_of_getElem? (i := 5) rfl)) (hw _ (List.mem_of_getElem? (i := 4) rfl)) (by decide) (by decide)) (g := (mkF m 123 #[.val (.long qa), .second, .val (.long qb), .second, .val (.long qc), .second, .val (.long qd), .second, .val (.int kx), .val (.ref by1), .val (.int (0 : Int32)), .val (.int P0), .val (.int P1), .val (.int P2), .val (.int P3), .val (.ref by6), .unset, .unset] [(.ref by6), (.ref by1)])) rfl (by rw [hml]; rfl) (argsL := [(.ref by1), (.ref by6)]) (rest := []) (lenOf pd_0 rfl) rfl (by show 2 * 0 + _ ≤ _; exact Nat.le_of_eq rfl) (hb hby at_123) (fun _ _ => ⟨rfl, ey6, (by decide : 2 + 1 ≤ _), (by decide : 4 + 0 ≤ _)⟩)
    dsimp only [Pt.U, Pt.locs, Pt.cells, Pt.slots] at Xy7 ly7 yy7 zy7 sty7 hQy7
    subst ly7 yy7 zy7
    obtain ⟨kk_y7, by7, rfl, bzy7, Nqy7, Kcy7, fy7_0⟩ := hQy7
    have Ny7 := Fr.app Ny5 Nqy7
    have gzy7 : n0 ≤ by7 := Nat.le_trans Zy6 bzy7
    have szy7 : h0.size ≤ by7 := Nat.le_trans Ky6.1 bzy7
    have Zy7 : n0 ≤ Ty7.heap.size := Nat.le_trans Zy6 Kcy7.1
    have Ky7 : Keep h0 Ty7.heap [] := Ky6.trans Kcy7 all0
    refine Fin.step (sty7) ?_
    show Fin p e below s _ _ _ (Ty7.setTop (mkF m 126 #[.val (.long qa), .second, .val (.long qb), .second, .val (.long qc), .second, .val (.long qd), .second, .val (.int kx), .val (.ref by1), .val (.int (0 : Int32)), .val (.int P0), .val (.int P1), .val (.int P2), .val (.int P3), .val (.ref by6), .unset, .unset] [(.ref by7)]))
    refine Fin.step (fun _ => XS.astore Xy7.here hx rfl (hb hby at_126) rfl rfl (l' := #[.val (.long qa), .second, .val (.long qb), .second, .val (.long qc), .second, .val (.long qd), .second, .val (.int kx), .val (.ref by1), .val (.int (0 : Int32)), .val (.int P0), .val (.int P1), .val (.int P2), .val (.int P3), .val (.ref by6), .val (.ref by7), .unset]) rfl) ?_
    show Fin p e below s _ _ _ (Ty7.setTop (mkF m 128 #[.val (.long qa), .second, .val (.long qb), .second, .val (.long qc), .second, .val (.long qd), .second, .val (.int kx), .val (.ref by1), .val (.int (0 : Int32)), .val (.int P0), .val (.int P1), .val (.int P2), .val (.int P3), .val (.ref by6), .val (.ref by7), .unset] []))
    refine Fin.step (fun _ => XS.aload Xy7.here hx rfl (hb hby at_128) rfl rfl) ?_
    show Fin p e below s _ _ _ (Ty7.setTop (mkF m 130 #[.val (.long qa), .second, .val (.long qb), .second, .val (.long qc), .second, .val (.long qd), .second, .val (.int kx), .val (.ref by1), .val (.int (0 : Int32)), .val (.int P0), .val (.int P1), .val (.int P2), .val (.int P3), .val (.ref by6), .val (.ref by7), .unset] [(.ref by7)]))
    refine Fin.step (fun _ => XS.ifnullNo Xy7.here hx rfl (hb hby at_130) rfl) ?_
    show Fin p e below s _ _ _ (Ty7.setTop (mkF m 133 #[.val (.long qa), .second, .val (.long qb), .second, .val (.long qc), .second, .val (.long qd), .second, .val (.int kx), .val (.ref by1), .val (.int (0 : Int32)), .val (.int P0), .val (.int P1), .val (.int P2), .val (.int P3), .val (.ref by6), .val (.ref by7), .unset] []))
    refine Fin.step (fun _ => XS.aload Xy7.here hx rfl (hb hby at_133) rfl rfl) ?_
    show Fin p e below s _ _ _ (Ty7.setTop (mkF m 135 #[.val (.long qa), .second, .val (.long qb), .second, .val (.long qc), .second, .val (.long qd), .second, .val (.int kx), .val (.ref by1), .val (.int (0 : Int32)), .val (.int P0), .val (.int P1), .val (.int P2), .val (.int P3), .val (.ref by6), .val (.ref by7), .unset] [(.ref by7)]))
    have voy8 := fy7_0
    obtain ⟨cly8, Ary8, qay8, say8, nay8, hay8, gay8⟩ := voy8
    refine Fin.step (Xy7.arraylength hx Ary8.1 (State.isArrayOf_alike hZ.alike Ary8.2.1) (g := (mkF m 135 #[.val (.long qa), .second, .val (.long qb), .second, .val (.long qc), .second, .val (.long qd), .second, .val (.int kx), .val (.ref by1), .val (.int (0 : Int32)), .val (.int P0), .val (.int P1), .val (.int P2), .val (.int P3), .val (.ref by6), .val (.ref by7), .unset] [(.ref by7)])) rfl rfl (hb hby at_135)) ?_
    rw [len_of say8 nay8]
    show Fin p e below s _ _ _ (Ty7.setTop (mkF m 136 #[.val (.long qa), .second, .val (.long qb), .second, .val (.long qc), .second, .val (.long qd), .second, .val (.int kx), .val (.ref by1), .val (.int (0 : Int32)), .val (.int P0), .val (.int P1), .val (.int P2), .val (.int P3), .val (.ref by6), .val (.ref by7), .unset] [(.int (0 : Int32))]))
    refine Fin.step (fun _ => XS.iload Xy7.here hx rfl (hb hby at_136) rfl) ?_
    show Fin p e below s _ _ _ (Ty7.setTop (mkF m 138 #[.val (.long qa), .second, .val (.long qb), .second, .val (.long qc), .second, .val (.long qd), .second, .val (.int kx), .val (.ref by1), .val (.int (0 : Int32)), .val (.int P0), .val (.int P1), .val (.int P2), .val (.int P3), .val (.ref by6), .val (.ref by7), .unset] [(.int (0 : Int32)), (.int (0 : Int32))]))
    refine Fin.step (fun _ => XS.icmpYes Xy7.here hx rfl (pc0 := 138) (pc' := 143) rfl (hb hby at_138) rfl (teq ((by decide) : ((0 : Int32) = (0 : Int32)))).1 (by decide) (by decide)) ?_
    show Fin p e below s _ _ _ (Ty7.setTop (mkF m 143 #[.val (.long qa), .second, .val (.long qb), .second, .val (.long qc), .second, .val (.long qd), .second, .val (.int kx), .val (.ref by1), .val (.int (0 : Int32)), .val (.int P0), .val (.int P1), .val (.int P2), .val (.int P3), .val (.ref by6), .val (.ref by7), .unset] []))
    refine Fin.step (fun _ => XS.aload Xy7.here hx rfl (hb hby at_143) rfl rfl) ?_
    show Fin p e below s _ _ _ (Ty7.setTop (mkF m 145 #[.val (.long qa), .second, .val (.long qb), .second, .val (.long qc), .second, .val (.long qd), .second, .val (.int kx), .val (.ref by1), .val (.int (0 : Int32)), .val (.int P0), .val (.int P1), .val (.int P2), .val (.int P3), .val (.ref by6), .val (.ref by7), .unset] [(.ref by1)]))
    refine Fin.step (fun _ => XS.iconst Xy7.here hx rfl (hb hby at_145)) ?_
    show Fin p e below s _ _ _ (Ty7.setTop (mkF m 146 #[.val (.long qa), .second, .val (.long qb), .second, .val (.long qc), .second, .val (.long qd), .second, .val (.int kx), .val (.ref by1), .val (.int (0 : Int32)), .val (.int P0), .val (.int P1), .val (.int P2), .val (.int P3), .val (.ref by6), .val (.ref by7), .unset] [(.int (0 : Int32)), (.ref by1)]))
    have voy9 := ((Vy5.ext Ey6).keep Kcy7 nin0)
    obtain ⟨cly9, Ary9, qay9, say9, nay9, hay9, gay9⟩ := voy9
    have iny9 := inb_of (j := (0 : Int32)) say9 ⟨by decide, by decide⟩
    refine Fin.step (Xy7.laload hx (j := (0 : Int32)) (v := (.long qa)) Ary9.1 (State.isArrayOf_alike hZ.alike Ary9.2.1) Ary9.2.2 iny9 (hay9.at iny9 rfl) (g := (mkF m 146 #[.val (.long qa), .second, .val (.long qb), .second, .val (.long qc), .second, .val (.long qd), .second, .val (.int kx), .val (.ref by1), .val (.int (0 : Int32)), .val (.int P0), .val (.int P1), .val (.int P2), .val (.int P3), .val (.ref by6), .val (.ref by7), .unset] [(.int (0 : Int32)), (.ref by1)])) rfl rfl (hb hby at_146)) ?_
    show Fin p e below s _ _ _ (Ty7.setTop (mkF m 147 #[.val (.long qa), .second, .val (.long qb), .second, .val (.long qc), .second, .val (.long qd), .second, .val (.int kx), .val (.ref by1), .val (.int (0 : Int32)), .val (.int P0), .val (.int P1), .val (.int P2), .val (.int P3), .val (.ref by6), .val (.ref by7), .unset] [(.long qa)]))
    refine Fin.step (fun _ => XS.lloadN Xy7.here hx rfl (hb hby at_147) rfl) ?_
    show Fin p e below s _ _ _ (Ty7.setTop (mkF m 148 #[.val (.long qa), .second, .val (.long qb), .second, .val (.long qc), .second, .val (.long qd), .second, .val (.int kx), .val (.ref by1), .val (.int (0 : Int32)), .val (.int P0), .val (.int P1), .val (.int P2), .val (.int P3), .val (.ref by6), .val (.ref by7), .unset] [(.long qa), (.long qa)]))
    refine Fin.step (fun _ => XS.lcmp Xy7.here hx rfl (hb hby at_148) rfl) ?_
    show Fin p e below s _ _ _ (Ty7.setTop (mkF m 149 #[.val (.long qa), .second, .val (.long qb), .second, .val (.long qc), .second, .val (.long qd), .second, .val (.int kx), .val (.ref by1), .val (.int (0 : Int32)), .val (.int P0), .val (.int P1), .val (.int P2), .val (.int P3), .val (.ref by6), .val (.ref by7), .unset] [(.int (lcmpW qa qa))]))
    refine Fin.step (fun _ => XS.ifNo Xy7.here hx rfl (hb hby at_149) rfl ((if0 _ _).trans (teq ((lcE rfl) : ((lcmpW qa qa) = (0 : Int32)))).2)) ?_
    show Fin p e below s _ _ _ (Ty7.setTop (mkF m 152 #[.val (.long qa), .second, .val (.long qb), .second, .val (.long qc), .second, .val (.long qd), .second, .val (.int kx), .val (.ref by1), .val (.int (0 : Int32)), .val (.int P0), .val (.int P1), .val (.int P2), .val (.int P3), .val (.ref by6), .val (.ref by7), .unset] []))
    refine Fin.step (fun _ => XS.aload Xy7.here hx rfl (hb hby at_152) rfl rfl) ?_
    show Fin p e below s _ _ _ (Ty7.setTop (mkF m 154 #[.val (.long qa), .second, .val (.long qb), .second, .val (.long qc), .second, .val (.long qd), .second, .val (.int kx), .val (.ref by1), .val (.int (0 : Int32)), .val (.int P0), .val (.int P1), .val (.int P2), .val (.int P3), .val (.ref by6), .val (.ref by7), .unset] [(.ref by1)]))
    refine Fin.step (fun _ => XS.iconst Xy7.here hx rfl (hb hby at_154)) ?_
    show Fin p e below s _ _ _ (Ty7.setTop (mkF m 155 #[.val (.long qa), .second, .val (.long qb), .second, .val (.long qc), .second, .val (.long qd), .second, .val (.int kx), .val (.ref by1), .val (.int (0 : Int32)), .val (.int P0), .val (.int P1), .val (.int P2), .val (.int P3), .val (.ref by6), .val (.ref by7), .unset] [(.int (1 : Int32)), (.ref by1)]))
    have voy10 := ((Vy5.ext Ey6).keep Kcy7 nin0)
    obtain ⟨cly10, Ary10, qay10, say10, nay10, hay10, gay10⟩ := voy10
    have iny10 := inb_of (j := (1 : Int32)) say10 ⟨by decide, by decide⟩
    refine Fin.step (Xy7.laload hx (j := (1 : Int32)) (v := (.long qb)) Ary10.1 (State.isArrayOf_alike hZ.alike Ary10.2.1) Ary10.2.2 iny10 (hay10.at iny10 rfl) (g := (mkF m 155 #[.val (.long qa), .second, .val (.long qb), .second, .val (.long qc), .second, .val (.long qd), .second, .val (.int kx), .val (.ref by1), .val (.int (0 : Int32)), .val (.int P0), .val (.int P1), .val (.int P2), .val (.int P3), .val (.ref by6), .val (.ref by7), .unset] [(.int (1 : Int32)), (.ref by1)])) rfl rfl (hb hby at_155)) ?_
    show Fin p e below s _ _ _ (Ty7.setTop (mkF m 156 #[.val (.long qa), .second, .val (.long qb), .second, .val (.long qc), .second, .val (.long qd), .second, .val (.int kx), .val (.ref by1), .val (.int (0 : Int32)), .val (.int P0), .val (.int P1), .val (.int P2), .val (.int P3), .val (.ref by6), .val (.ref by7), .unset] [(.long qb)]))
    refine Fin.step (fun _ => XS.lloadN Xy7.here hx rfl (hb hby at_156) rfl) ?_
    show Fin p e below s _ _ _ (Ty7.setTop (mkF m 157 #[.val (.long qa), .second, .val (.long qb), .second, .val (.long qc), .second, .val (.long qd), .second, .val (.int kx), .val (.ref by1), .val (.int (0 : Int32)), .val (.int P0), .val (.int P1), .val (.int P2), .val (.int P3), .val (.ref by6), .val (.ref by7), .unset] [(.long qb), (.long qb)]))
    refine Fin.step (fun _ => XS.lcmp Xy7.here hx rfl (hb hby at_157) rfl) ?_
    show Fin p e below s _ _ _ (Ty7.setTop (mkF m 158 #[.val (.long qa), .second, .val (.long qb), .second, .val (.long qc), .second, .val (.long qd), .second, .val (.int kx), .val (.ref by1), .val (.int (0 : Int32)), .val (.int P0), .val (.int P1), .val (.int P2), .val (.int P3), .val (.ref by6), .val (.ref by7), .unset] [(.int (lcmpW qb qb))]))
    refine Fin.step (fun _ => XS.ifNo Xy7.here hx rfl (hb hby at_158) rfl ((if0 _ _).trans (teq ((lcE rfl) : ((lcmpW qb qb) = (0 : Int32)))).2)) ?_
    show Fin p e below s _ _ _ (Ty7.setTop (mkF m 161 #[.val (.long qa), .second, .val (.long qb), .second, .val (.long qc), .second, .val (.long qd), .second, .val (.int kx), .val (.ref by1), .val (.int (0 : Int32)), .val (.int P0), .val (.int P1), .val (.int P2), .val (.int P3), .val (.ref by6), .val (.ref by7), .unset] []))
    refine Fin.step (fun _ => XS.aload Xy7.here hx rfl (hb hby at_161) rfl rfl) ?_
    show Fin p e below s _ _ _ (Ty7.setTop (mkF m 163 #[.val (.long qa), .second, .val (.long qb), .second, .val (.long qc), .second, .val (.long qd), .second, .val (.int kx), .val (.ref by1), .val (.int (0 : Int32)), .val (.int P0), .val (.int P1), .val (.int P2), .val (.int P3), .val (.ref by6), .val (.ref by7), .unset] [(.ref by1)]))
    refine Fin.step (fun _ => XS.iconst Xy7.here hx rfl (hb hby at_163)) ?_
    show Fin p e below s _ _ _ (Ty7.setTop (mkF m 164 #[.val (.long qa), .second, .val (.long qb), .second, .val (.long qc), .second, .val (.long qd), .second, .val (.int kx), .val (.ref by1), .val (.int (0 : Int32)), .val (.int P0), .val (.int P1), .val (.int P2), .val (.int P3), .val (.ref by6), .val (.ref by7), .unset] [(.int (2 : Int32)), (.ref by1)]))
    have voy11 := ((Vy5.ext Ey6).keep Kcy7 nin0)
    obtain ⟨cly11, Ary11, qay11, say11, nay11, hay11, gay11⟩ := voy11
    have iny11 := inb_of (j := (2 : Int32)) say11 ⟨by decide, by decide⟩
    refine Fin.step (Xy7.laload hx (j := (2 : Int32)) (v := (.long qc)) Ary11.1 (State.isArrayOf_alike hZ.alike Ary11.2.1) Ary11.2.2 iny11 (hay11.at iny11 rfl) (g := (mkF m 164 #[.val (.long qa), .second, .val (.long qb), .second, .val (.long qc), .second, .val (.long qd), .second, .val (.int kx), .val (.ref by1), .val (.int (0 : Int32)), .val (.int P0), .val (.int P1), .val (.int P2), .val (.int P3), .val (.ref by6), .val (.ref by7), .unset] [(.int (2 : Int32)), (.ref by1)])) rfl rfl (hb hby at_164)) ?_
    show Fin p e below s _ _ _ (Ty7.setTop (mkF m 165 #[.val (.long qa), .second, .val (.long qb), .second, .val (.long qc), .second, .val (.long qd), .second, .val (.int kx), .val (.ref by1), .val (.int (0 : Int32)), .val (.int P0), .val (.int P1), .val (.int P2), .val (.int P3), .val (.ref by6), .val (.ref by7), .unset] [(.long qc)]))
    refine Fin.step (fun _ => XS.lload Xy7.here hx rfl (hb hby at_165) rfl) ?_
    show Fin p e below s _ _ _ (Ty7.setTop (mkF m 167 #[.val (.long qa), .second, .val (.long qb), .second, .val (.long qc), .second, .val (.long qd), .second, .val (.int kx), .val (.ref by1), .val (.int (0 : Int32)), .val (.int P0), .val (.int P1), .val (.int P2), .val (.int P3), .val (.ref by6), .val (.ref by7), .unset] [(.long qc), (.long qc)]))
    refine Fin.step (fun _ => XS.lcmp Xy7.here hx rfl (hb hby at_167) rfl) ?_
    show Fin p e below s _ _ _ (Ty7.setTop (mkF m 168 #[.val (.long qa), .second, .val (.long qb), .second, .val (.long qc), .second, .val (.long qd), .second, .val (.int kx), .val (.ref by1), .val (.int (0 : Int32)), .val (.int P0), .val (.int P1), .val (.int P2), .val (.int P3), .val (.ref by6), .val (.ref by7), .unset] [(.int (lcmpW qc qc))]))
    refine Fin.step (fun _ => XS.ifNo Xy7.here hx rfl (hb hby at_168) rfl ((if0 _ _).trans (teq ((lcE rfl) : ((lcmpW qc qc) = (0 : Int32)))).2)) ?_
    show Fin p e below s _ _ _ (Ty7.setTop (mkF m 171 #[.val (.long qa), .second, .val (.long qb), .second, .val (.long qc), .second, .val (.long qd), .second, .val (.int kx), .val (.ref by1), .val (.int (0 : Int32)), .val (.int P0), .val (.int P1), .val (.int P2), .val (.int P3), .val (.ref by6), .val (.ref by7), .unset] []))
    refine Fin.step (fun _ => XS.aload Xy7.here hx rfl (hb hby at_171) rfl rfl) ?_
    show Fin p e below s _ _ _ (Ty7.setTop (mkF m 173 #[.val (.long qa), .second, .val (.long qb), .second, .val (.long qc), .second, .val (.long qd), .second, .val (.int kx), .val (.ref by1), .val (.int (0 : Int32)), .val (.int P0), .val (.int P1), .val (.int P2), .val (.int P3), .val (.ref by6), .val (.ref by7), .unset] [(.ref by1)]))
    refine Fin.step (fun _ => XS.iconst Xy7.here hx rfl (hb hby at_173)) ?_
    show Fin p e below s _ _ _ (Ty7.setTop (mkF m 174 #[.val (.long qa), .second, .val (.long qb), .second, .val (.long qc), .second, .val (.long qd), .second, .val (.int kx), .val (.ref by1), .val (.int (0 : Int32)), .val (.int P0), .val (.int P1), .val (.int P2), .val (.int P3), .val (.ref by6), .val (.ref by7), .unset] [(.int (3 : Int32)), (.ref by1)]))
    have voy12 := ((Vy5.ext Ey6).keep Kcy7 nin0)
    obtain ⟨cly12, Ary12, qay12, say12, nay12, hay12, gay12⟩ := voy12
    have iny12 := inb_of (j := (3 : Int32)) say12 ⟨by decide, by decide⟩
    refine Fin.step (Xy7.laload hx (j := (3 : Int32)) (v := (.long qd)) Ary12.1 (State.isArrayOf_alike hZ.alike Ary12.2.1) Ary12.2.2 iny12 (hay12.at iny12 rfl) (g := (mkF m 174 #[.val (.long qa), .second, .val (.long qb), .second, .val (.long qc), .second, .val (.long qd), .second, .val (.int kx), .val (.ref by1), .val (.int (0 : Int32)), .val (.int P0), .val (.int P1), .val (.int P2), .val (.int P3), .val (.ref by6), .val (.ref by7), .unset] [(.int (3 : Int32)), (.ref by1)])) rfl rfl (hb hby at_174)) ?_
    show Fin p e below s _ _ _ (Ty7.setTop (mkF m 175 #[.val (.long qa), .second, .val (.long qb), .second, .val (.long qc), .second, .val (.long qd), .second, .val (.int kx), .val (.ref by1), .val (.int (0 : Int32)), .val (.int P0), .val (.int P1), .val (.int P2), .val (.int P3), .val (.ref by6), .val (.ref by7), .unset] [(.long qd)]))
    refine Fin.step (fun _ => XS.lload Xy7.here hx rfl (hb hby at_175) rfl) ?_
    show Fin p e below s _ _ _ (Ty7.setTop (mkF m 177 #[.val (.long qa), .second, .val (.long qb), .second, .val (.long qc), .second, .val (.long qd), .second, .val (.int kx), .val (.ref by1), .val (.int (0 : Int32)), .val (.int P0), .val (.int P1), .val (.int P2), .val (.int P3), .val (.ref by6), .val (.ref by7), .unset] [(.long qd), (.long qd)]))
    refine Fin.step (fun _ => XS.lcmp Xy7.here hx rfl (hb hby at_177) rfl) ?_
    show Fin p e below s _ _ _ (Ty7.setTop (mkF m 178 #[.val (.long qa), .second, .val (.long qb), .second, .val (.long qc), .second, .val (.long qd), .second, .val (.int kx), .val (.ref by1), .val (.int (0 : Int32)), .val (.int P0), .val (.int P1), .val (.int P2), .val (.int P3), .val (.ref by6), .val (.ref by7), .unset] [(.int (lcmpW qd qd))]))
    refine Fin.step (fun _ => XS.ifNo Xy7.here hx rfl (hb hby at_178) rfl ((if0 _ _).trans (teq ((lcE rfl) : ((lcmpW qd qd) = (0 : Int32)))).2)) ?_
    show Fin p e below s _ _ _ (Ty7.setTop (mkF m 181 #[.val (.long qa), .second, .val (.long qb), .second, .val (.long qc), .second, .val (.long qd), .second, .val (.int kx), .val (.ref by1), .val (.int (0 : Int32)), .val (.int P0), .val (.int P1), .val (.int P2), .val (.int P3), .val (.ref by6), .val (.ref by7), .unset] []))
    refine Fin.step (fun _ => XS.iconst Xy7.here hx rfl (hb hby at_181)) ?_
    show Fin p e below s _ _ _ (Ty7.setTop (mkF m 182 #[.val (.long qa), .second, .val (.long qb), .second, .val (.long qc), .second, .val (.long qd), .second, .val (.int kx), .val (.ref by1), .val (.int (0 : Int32)), .val (.int P0), .val (.int P1), .val (.int P2), .val (.int P3), .val (.ref by6), .val (.ref by7), .unset] [(.int (1 : Int32))]))
    refine Fin.step (fun _ => XS.goto Xy7.here hx rfl (pc0 := 182) (pc' := 186) rfl (hb hby at_182) (by decide) (by decide)) ?_
    show Fin p e below s _ _ _ (Ty7.setTop (mkF m 186 #[.val (.long qa), .second, .val (.long qb), .second, .val (.long qc), .second, .val (.long qd), .second, .val (.int kx), .val (.ref by1), .val (.int (0 : Int32)), .val (.int P0), .val (.int P1), .val (.int P2), .val (.int P3), .val (.ref by6), .val (.ref by7), .unset] [(.int (1 : Int32))]))
    refine Fin.step (fun _ => XS.istore Xy7.here hx rfl (hb hby at_186) rfl (l' := #[.val (.long qa), .second, .val (.long qb), .second, .val (.long qc), .second, .val (.long qd), .second, .val (.int kx), .val (.ref by1), .val (.int (0 : Int32)), .val (.int P0), .val (.int P1), .val (.int P2), .val (.int P3), .val (.ref by6), .val (.ref by7), .val (.int (1 : Int32))]) rfl) ?_
    show Fin p e below s _ _ _ (Ty7.setTop (mkF m 188 #[.val (.long qa), .second, .val (.long qb), .second, .val (.long qc), .second, .val (.long qd), .second, .val (.int kx), .val (.ref by1), .val (.int (0 : Int32)), .val (.int P0), .val (.int P1), .val (.int P2), .val (.int P3), .val (.ref by6), .val (.ref by7), .val (.int (1 : Int32))] []))
    refine Fin.step (fun _ => XS.iload Xy7.here hx rfl (hb hby at_188) rfl) ?_
    show Fin p e below s _ _ _ (Ty7.setTop (mkF m 190 #[.val (.long qa), .second, .val (.long qb), .second, .val (.long qc), .second, .val (.long qd), .second, .val (.int kx), .val (.ref by1), .val (.int (0 : Int32)), .val (.int P0), .val (.int P1), .val (.int P2), .val (.int P3), .val (.ref by6), .val (.ref by7), .val (.int (1 : Int32))] [(.int (0 : Int32))]))
    refine Fin.step (fun _ => XS.ifYes Xy7.here hx rfl (pc0 := 190) (pc' := 233) rfl (hb hby at_190) rfl ((if0 _ _).trans (flt ((by decide) : ¬ ((0 : Int32) < (0 : Int32)))).2.2.2) (by decide) (by decide)) ?_
    show Fin p e below s _ _ _ (Ty7.setTop (mkF m 233 #[.val (.long qa), .second, .val (.long qb), .second, .val (.long qc), .second, .val (.long qd), .second, .val (.int kx), .val (.ref by1), .val (.int (0 : Int32)), .val (.int P0), .val (.int P1), .val (.int P2), .val (.int P3), .val (.ref by6), .val (.ref by7), .val (.int (1 : Int32))] []))
    refine Fin.step (fun _ => XS.iload Xy7.here hx rfl (hb hby at_233) rfl) ?_
    show Fin p e below s _ _ _ (Ty7.setTop (mkF m 235 #[.val (.long qa), .second, .val (.long qb), .second, .val (.long qc), .second, .val (.long qd), .second, .val (.int kx), .val (.ref by1), .val (.int (0 : Int32)), .val (.int P0), .val (.int P1), .val (.int P2), .val (.int P3), .val (.ref by6), .val (.ref by7), .val (.int (1 : Int32))] [(.int (0 : Int32))]))
    refine Fin.step (fun _ => XS.iconst Xy7.here hx rfl (hb hby at_235)) ?_
    show Fin p e below s _ _ _ (Ty7.setTop (mkF m 236 #[.val (.long qa), .second, .val (.long qb), .second, .val (.long qc), .second, .val (.long qd), .second, .val (.int kx), .val (.ref by1), .val (.int (0 : Int32)), .val (.int P0), .val (.int P1), .val (.int P2), .val (.int P3), .val (.ref by6), .val (.ref by7), .val (.int (1 : Int32))] [(.int (1 : Int32)), (.int (0 : Int32))]))
    refine Fin.step (fun _ => XS.icmpYes Xy7.here hx rfl (pc0 := 236) (pc' := 279) rfl (hb hby at_236) rfl (flt ((by decide) : ¬ ((1 : Int32) < (0 : Int32)))).2.2.2 (by decide) (by decide)) ?_
    show Fin p e below s _ _ _ (Ty7.setTop (mkF m 279 #[.val (.long qa), .second, .val (.long qb), .second, .val (.long qc), .second, .val (.long qd), .second, .val (.int kx), .val (.ref by1), .val (.int (0 : Int32)), .val (.int P0), .val (.int P1), .val (.int P2), .val (.int P3), .val (.ref by6), .val (.ref by7), .val (.int (1 : Int32))] []))
    refine Fin.step (fun _ => XS.iload Xy7.here hx rfl (hb hby at_279) rfl) ?_
    show Fin p e below s _ _ _ (Ty7.setTop (mkF m 281 #[.val (.long qa), .second, .val (.long qb), .second, .val (.long qc), .second, .val (.long qd), .second, .val (.int kx), .val (.ref by1), .val (.int (0 : Int32)), .val (.int P0), .val (.int P1), .val (.int P2), .val (.int P3), .val (.ref by6), .val (.ref by7), .val (.int (1 : Int32))] [(.int (0 : Int32))]))
    refine Fin.step (fun _ => XS.iconst Xy7.here hx rfl (hb hby at_281)) ?_
    show Fin p e below s _ _ _ (Ty7.setTop (mkF m 282 #[.val (.long qa), .second, .val (.long qb), .second, .val (.long qc), .second, .val (.long qd), .second, .val (.int kx), .val (.ref by1), .val (.int (0 : Int32)), .val (.int P0), .val (.int P1), .val (.int P2), .val (.int P3), .val (.ref by6), .val (.ref by7), .val (.int (1 : Int32))] [(.int (2 : Int32)), (.int (0 : Int32))]))
    refine Fin.step (fun _ => XS.icmpYes Xy7.here hx rfl (pc0 := 282) (pc' := 325) rfl (hb hby at_282) rfl (flt ((by decide) : ¬ ((2 : Int32) < (0 : Int32)))).2.2.2 (by decide) (by decide)) ?_
    show Fin p e below s _ _ _ (Ty7.setTop (mkF m 325 #[.val (.long qa), .second, .val (.long qb), .second, .val (.long qc), .second, .val (.long qd), .second, .val (.int kx), .val (.ref by1), .val (.int (0 : Int32)), .val (.int P0), .val (.int P1), .val (.int P2), .val (.int P3), .val (.ref by6), .val (.ref by7), .val (.int (1 : Int32))] []))
    refine Fin.step (fun _ => XS.iload Xy7.here hx rfl (hb hby at_325) rfl) ?_
    show Fin p e below s _ _ _ (Ty7.setTop (mkF m 327 #[.val (.long qa), .second, .val (.long qb), .second, .val (.long qc), .second, .val (.long qd), .second, .val (.int kx), .val (.ref by1), .val (.int (0 : Int32)), .val (.int P0), .val (.int P1), .val (.int P2), .val (.int P3), .val (.ref by6), .val (.ref by7), .val (.int (1 : Int32))] [(.int (0 : Int32))]))
    refine Fin.step (fun _ => XS.iconst Xy7.here hx rfl (hb hby at_327)) ?_
    show Fin p e below s _ _ _ (Ty7.setTop (mkF m 328 #[.val (.long qa), .second, .val (.long qb), .second, .val (.long qc), .second, .val (.long qd), .second, .val (.int kx), .val (.ref by1), .val (.int (0 : Int32)), .val (.int P0), .val (.int P1), .val (.int P2), .val (.int P3), .val (.ref by6), .val (.ref by7), .val (.int (1 : Int32))] [(.int (3 : Int32)), (.int (0 : Int32))]))
    refine Fin.step (fun _ => XS.icmpYes Xy7.here hx rfl (pc0 := 328) (pc' := 371) rfl (hb hby at_328) rfl (flt ((by decide) : ¬ ((3 : Int32) < (0 : Int32)))).2.2.2 (by decide) (by decide)) ?_
    show Fin p e below s _ _ _ (Ty7.setTop (mkF m 371 #[.val (.long qa), .second, .val (.long qb), .second, .val (.long qc), .second, .val (.long qd), .second, .val (.int kx), .val (.ref by1), .val (.int (0 : Int32)), .val (.int P0), .val (.int P1), .val (.int P2), .val (.int P3), .val (.ref by6), .val (.ref by7), .val (.int (1 : Int32))] []))
    refine Fin.step (fun _ => XS.iload Xy7.here hx rfl (hb hby at_371) rfl) ?_
    show Fin p e below s _ _ _ (Ty7.setTop (mkF m 373 #[.val (.long qa), .second, .val (.long qb), .second, .val (.long qc), .second, .val (.long qd), .second, .val (.int kx), .val (.ref by1), .val (.int (0 : Int32)), .val (.int P0), .val (.int P1), .val (.int P2), .val (.int P3), .val (.ref by6), .val (.ref by7), .val (.int (1 : Int32))] [(.int (1 : Int32))]))
    refine Fin.retN Xy7 hx (t := .boolean) hret (by simp) hlk (hb hby at_373) (by decide) (by decide) ?_
    show Q0 Z qa qb qc qd kx h0 n0 _ Ty7.heap _
    exact ⟨rfl, Ny7, Ky7⟩
  · rw [qn]
    show Fin p e below s _ _ _ (Ty5.setTop (mkF m 66 #[.val (.long qa), .second, .val (.long qb), .second, .val (.long qc), .second, .val (.long qd), .second, .val (.int kx), .val (.ref by1), .val (.int (1 : Int32)), .val (.int P0), .val (.int P1), .val (.int P2), .val (.int P3), .unset, .unset, .unset] []))
    refine Fin.step (fun _ => XS.iload Xy5.here hx rfl (hb hby at_66) rfl) ?_
    show Fin p e below s _ _ _ (Ty5.setTop (mkF m 68 #[.val (.long qa), .second, .val (.long qb), .second, .val (.long qc), .second, .val (.long qd), .second, .val (.int kx), .val (.ref by1), .val (.int (1 : Int32)), .val (.int P0), .val (.int P1), .val (.int P2), .val (.int P3), .unset, .unset, .unset] [(.int (1 : Int32))]))
    obtain ⟨Ty13, hy13, ky13, Xy13, ey13, Ey13, Ay13, sty13⟩ := newP Xy5 hx hZ (hw _ (List.mem_of_getElem? (i := 1) rfl)) ey5 (g := (mkF m 68 #[.val (.long qa), .second, .val (.long qb), .second, .val (.long qc), .second, .val (.long qd), .second, .val (.int kx), .val (.ref by1), .val (.int (1 : Int32)), .val (.int P0), .val (.int P1), .val (.int P2), .val (.int P3), .unset, .unset, .unset] [(.int (1 : Int32))])) rfl (hb hby at_68) rfl (by decide) (cap := 1) (by decide) (by decide) (by decide) (by decide)
    obtain ⟨by13, gy13⟩ : ∃ z, z = hy5.size := ⟨_, rfl⟩
    rw [← gy13] at Ay13 sty13
    have gzy13 : n0 ≤ by13 := Nat.le_trans Zy5 (Nat.le_of_eq gy13.symm)
    have szy13 : h0.size ≤ by13 := Nat.le_trans Ky5.1 (Nat.le_of_eq gy13.symm)
    have Zy13 : n0 ≤ hy13.size := Nat.le_trans Zy5 Ey13.1
    have Ky13 : Keep h0 hy13 [] := Ky5.ext Ey13
    have Vy13 : Arv Z hy13 by13 ky13 .int (1 : Int32) [(.int (0 : Int32))] (.int (0 : Int32)) := (Arv.new Ay13 (by decide)).pad (pad_rep [] (.int (0 : Int32)) 1)
    refine Fin.step (sty13) ?_
    show Fin p e below s _ _ _ (Ty13.setTop (mkF m 70 #[.val (.long qa), .second, .val (.long qb), .second, .val (.long qc), .second, .val (.long qd), .second, .val (.int kx), .val (.ref by1), .val (.int (1 : Int32)), .val (.int P0), .val (.int P1), .val (.int P2), .val (.int P3), .unset, .unset, .unset] [(.ref by13)]))
    refine Fin.step (fun _ => XS.astore Xy13.here hx rfl (hb hby at_70) rfl rfl (l' := #[.val (.long qa), .second, .val (.long qb), .second, .val (.long qc), .second, .val (.long qd), .second, .val (.int kx), .val (.ref by1), .val (.int (1 : Int32)), .val (.int P0), .val (.int P1), .val (.int P2), .val (.int P3), .val (.ref by13), .unset, .unset]) rfl) ?_
    show Fin p e below s _ _ _ (Ty13.setTop (mkF m 72 #[.val (.long qa), .second, .val (.long qb), .second, .val (.long qc), .second, .val (.long qd), .second, .val (.int kx), .val (.ref by1), .val (.int (1 : Int32)), .val (.int P0), .val (.int P1), .val (.int P2), .val (.int P3), .val (.ref by13), .unset, .unset] []))
    refine Fin.step (fun _ => XS.iload Xy13.here hx rfl (hb hby at_72) rfl) ?_
    show Fin p e below s _ _ _ (Ty13.setTop (mkF m 74 #[.val (.long qa), .second, .val (.long qb), .second, .val (.long qc), .second, .val (.long qd), .second, .val (.int kx), .val (.ref by1), .val (.int (1 : Int32)), .val (.int P0), .val (.int P1), .val (.int P2), .val (.int P3), .val (.ref by13), .unset, .unset] [(.int (1 : Int32))]))
    refine Fin.step (fun _ => XS.ifNo Xy13.here hx rfl (hb hby at_74) rfl ((if0 _ _).trans (tlt ((by decide) : ((0 : Int32) < (1 : Int32)))).2.2.2)) ?_
    show Fin p e below s _ _ _ (Ty13.setTop (mkF m 77 #[.val (.long qa), .second, .val (.long qb), .second, .val (.long qc), .second, .val (.long qd), .second, .val (.int kx), .val (.ref by1), .val (.int (1 : Int32)), .val (.int P0), .val (.int P1), .val (.int P2), .val (.int P3), .val (.ref by13), .unset, .unset] []))
    refine Fin.step (fun _ => XS.aload Xy13.here hx rfl (hb hby at_77) rfl rfl) ?_
    show Fin p e below s _ _ _ (Ty13.setTop (mkF m 79 #[.val (.long qa), .second, .val (.long qb), .second, .val (.long qc), .second, .val (.long qd), .second, .val (.int kx), .val (.ref by1), .val (.int (1 : Int32)), .val (.int P0), .val (.int P1), .val (.int P2), .val (.int P3), .val (.ref by13), .unset, .unset] [(.ref by13)]))
    refine Fin.step (fun _ => XS.iconst Xy13.here hx rfl (hb hby at_79)) ?_
    show Fin p e below s _ _ _ (Ty13.setTop (mkF m 80 #[.val (.long qa), .second, .val (.long qb), .second, .val (.long qc), .second, .val (.long qd), .second, .val (.int kx), .val (.ref by1), .val (.int (1 : Int32)), .val (.int P0), .val (.int P1), .val (.int P2), .val (.int P3), .val (.ref by13), .unset, .unset] [(.int (0 : Int32)), (.ref by13)]))
    refine Fin.step (fun _ => XS.iload Xy13.here hx rfl (hb hby at_80) rfl) ?_
    show Fin p e below s _ _ _ (Ty13.setTop (mkF m 82 #[.val (.long qa), .second, .val (.long qb), .second, .val (.long qc), .second, .val (.long qd), .second, .val (.int kx), .val (.ref by1), .val (.int (1 : Int32)), .val (.int P0), .val (.int P1), .val (.int P2), .val (.int P3), .val (.ref by13), .unset, .unset] [(.int P0), (.int (0 : Int32)), (.ref by13)]))
    have voy14 := Vy13
    obtain ⟨cly14, Ary14, qay14, say14, nay14, hay14, gay14⟩ := voy14
    obtain ⟨Ty14, hy14, Xy14, ey14, Wy14, sty14⟩ := stI Xy13 hx hZ ey13 Ary14 (j := (0 : Int32)) (inb_of say14 ⟨by decide, by decide⟩) (g := (mkF m 82 #[.val (.long qa), .second, .val (.long qb), .second, .val (.long qc), .second, .val (.long qd), .second, .val (.int kx), .val (.ref by1), .val (.int (1 : Int32)), .val (.int P0), .val (.int P1), .val (.int P2), .val (.int P3), .val (.ref by13), .unset, .unset] [(.int P0), (.int (0 : Int32)), (.ref by13)])) rfl rfl (hb hby at_82)
    have Vy14 : Arv Z hy14 by13 ky13 .int (1 : Int32) [(.int P0)] (.int (0 : Int32)) := Arv.set Ary14 qay14 say14 nay14 hay14 gay14 rfl Wy14 0 rfl (Nat.le_of_ble_eq_true rfl)
    have Zy14 : n0 ≤ hy14.size := Nat.le_trans Zy13 (Keep.of_wr Wy14).1
    have Ky14 : Keep h0 hy14 [] := Ky13.wr Wy14 (Or.inr szy13)
    have Ny14 := Fr.snoc Xy14 Ny5 gzy13
    refine Fin.step (sty14) ?_
    show Fin p e below s _ _ _ (Ty14.setTop (mkF m 83 #[.val (.long qa), .second, .val (.long qb), .second, .val (.long qc), .second, .val (.long qd), .second, .val (.int kx), .val (.ref by1), .val (.int (1 : Int32)), .val (.int P0), .val (.int P1), .val (.int P2), .val (.int P3), .val (.ref by13), .unset, .unset] []))
    refine Fin.step (fun _ => XS.iload Xy14.here hx rfl (hb hby at_83) rfl) ?_
    show Fin p e below s _ _ _ (Ty14.setTop (mkF m 85 #[.val (.long qa), .second, .val (.long qb), .second, .val (.long qc), .second, .val (.long qd), .second, .val (.int kx), .val (.ref by1), .val (.int (1 : Int32)), .val (.int P0), .val (.int P1), .val (.int P2), .val (.int P3), .val (.ref by13), .unset, .unset] [(.int (1 : Int32))]))
    refine Fin.step (fun _ => XS.iconst Xy14.here hx rfl (hb hby at_85)) ?_
    show Fin p e below s _ _ _ (Ty14.setTop (mkF m 86 #[.val (.long qa), .second, .val (.long qb), .second, .val (.long qc), .second, .val (.long qd), .second, .val (.int kx), .val (.ref by1), .val (.int (1 : Int32)), .val (.int P0), .val (.int P1), .val (.int P2), .val (.int P3), .val (.ref by13), .unset, .unset] [(.int (1 : Int32)), (.int (1 : Int32))]))
    refine Fin.step (fun _ => XS.icmpYes Xy14.here hx rfl (pc0 := 86) (pc' := 95) rfl (hb hby at_86) rfl (flt ((by decide) : ¬ ((1 : Int32) < (1 : Int32)))).2.2.2 (by decide) (by decide)) ?_
    show Fin p e below s _ _ _ (Ty14.setTop (mkF m 95 #[.val (.long qa), .second, .val (.long qb), .second, .val (.long qc), .second, .val (.long qd), .second, .val (.int kx), .val (.ref by1), .val (.int (1 : Int32)), .val (.int P0), .val (.int P1), .val (.int P2), .val (.int P3), .val (.ref by13), .unset, .unset] []))
    refine Fin.step (fun _ => XS.iload Xy14.here hx rfl (hb hby at_95) rfl) ?_
    show Fin p e below s _ _ _ (Ty14.setTop (mkF m 97 #[.val (.long qa), .second, .val (.long qb), .second, .val (.long qc), .second, .val (.long qd), .second, .val (.int kx), .val (.ref by1), .val (.int (1 : Int32)), .val (.int P0), .val (.int P1), .val (.int P2), .val (.int P3), .val (.ref by13), .unset, .unset] [(.int (1 : Int32))]))
    refine Fin.step (fun _ => XS.iconst Xy14.here hx rfl (hb hby at_97)) ?_
    show Fin p e below s _ _ _ (Ty14.setTop (mkF m 98 #[.val (.long qa), .second, .val (.long qb), .second, .val (.long qc), .second, .val (.long qd), .second, .val (.int kx), .val (.ref by1), .val (.int (1 : Int32)), .val (.int P0), .val (.int P1), .val (.int P2), .val (.int P3), .val (.ref by13), .unset, .unset] [(.int (2 : Int32)), (.int (1 : Int32))]))
    refine Fin.step (fun _ => XS.icmpYes Xy14.here hx rfl (pc0 := 98) (pc' := 107) rfl (hb hby at_98) rfl (flt ((by decide) : ¬ ((2 : Int32) < (1 : Int32)))).2.2.2 (by decide) (by decide)) ?_
    show Fin p e below s _ _ _ (Ty14.setTop (mkF m 107 #[.val (.long qa), .second, .val (.long qb), .second, .val (.long qc), .second, .val (.long qd), .second, .val (.int kx), .val (.ref by1), .val (.int (1 : Int32)), .val (.int P0), .val (.int P1), .val (.int P2), .val (.int P3), .val (.ref by13), .unset, .unset] []))
    refine Fin.step (fun _ => XS.iload Xy14.here hx rfl (hb hby at_107) rfl) ?_
    show Fin p e below s _ _ _ (Ty14.setTop (mkF m 109 #[.val (.long qa), .second, .val (.long qb), .second, .val (.long qc), .second, .val (.long qd), .second, .val (.int kx), .val (.ref by1), .val (.int (1 : Int32)), .val (.int P0), .val (.int P1), .val (.int P2), .val (.int P3), .val (.ref by13), .unset, .unset] [(.int (1 : Int32))]))
    refine Fin.step (fun _ => XS.iconst Xy14.here hx rfl (hb hby at_109)) ?_
    show Fin p e below s _ _ _ (Ty14.setTop (mkF m 110 #[.val (.long qa), .second, .val (.long qb), .second, .val (.long qc), .second, .val (.long qd), .second, .val (.int kx), .val (.ref by1), .val (.int (1 : Int32)), .val (.int P0), .val (.int P1), .val (.int P2), .val (.int P3), .val (.ref by13), .unset, .unset] [(.int (3 : Int32)), (.int (1 : Int32))]))
    refine Fin.step (fun _ => XS.icmpYes Xy14.here hx rfl (pc0 := 110) (pc' := 119) rfl (hb hby at_110) rfl (flt ((by decide) : ¬ ((3 : Int32) < (1 : Int32)))).2.2.2 (by decide) (by decide)) ?_
    show Fin p e below s _ _ _ (Ty14.setTop (mkF m 119 #[.val (.long qa), .second, .val (.long qb), .second, .val (.long qc), .second, .val (.long qd), .second, .val (.int kx), .val (.ref by1), .val (.int (1 : Int32)), .val (.int P0), .val (.int P1), .val (.int P2), .val (.int P3), .val (.ref by13), .unset, .unset] []))
    refine Fin.step (fun _ => XS.aload Xy14.here hx rfl (hb hby at_119) rfl rfl) ?_
    show Fin p e below s _ _ _ (Ty14.setTop (mkF m 121 #[.val (.long qa), .second, .val (.long qb), .second, .val (.long qc), .second, .val (.long qd), .second, .val (.int kx), .val (.ref by1), .val (.int (1 : Int32)), .val (.int P0), .val (.int P1), .val (.int P2), .val (.int P3), .val (.ref by13), .unset, .unset] [(.ref by1)]))
    refine Fin.step (fun _ => XS.aload Xy14.here hx rfl (hb hby at_121) rfl rfl) ?_
    show Fin p e below s _ _ _ (Ty14.setTop (mkF m 123 #[.val (.long qa), .second, .val (.long qb), .second, .val (.long qc), .second, .val (.long qd), .second, .val (.int kx), .val (.ref by1), .val (.int (1 : Int32)), .val (.int P0), .val (.int P1), .val (.int P2), .val (.int P3), .val (.ref by13), .unset, .unset] [(.ref by13), (.ref by1)]))
    obtain ⟨_, _, ⟨Ty15, Ly15, ky15, ny15⟩, -, Xy15, ⟨Lcy15, hQy15, ly15, yy15, zy15⟩, sty15⟩ := Jvm.LawKit.callS Xy14 hx (y := (⟨"com/example/uzor/uzor/Row", "pick", "([J[I)[J"⟩ : MethodName)) hown (mvT hZ (hw _ (List.mem_of_getElem? (i := 2) rfl))) (mvT hZ (hw _ (List.mem_of_getElem? (i := 3) rfl))) (mvT hZ (hw _ (List.mem_of_getElem? (i := 4) rfl))) (mvT hZ (hw _ (List.mem_of_getElem? (i := 5) rfl))) (by decide) (backOf (W := 0) (rmp1 l Z a0 hw [] by1 by13 ky1 ky13 qa qb qc qd P0 hy14 n0 Zy14 ((Vy5.ext Ey13).other Wy14 (Nat.ne_of_lt (Nat.lt_of_lt_of_le Vy5.lt (Nat.le_of_eq gy13.symm)))) Vy14 r0) hZ (hw _ (List.mem_of_getElem? (i := 5) rfl)) (hw _ (List.mem_of_getElem? (i := 4) rfl)) (by decide) (by decide)) (g := (mkF m 123 #[.val (.long qa), .second, .val (.long qb), .second, .val (.long qc), .second, .val (.long qd), .second, .val (.int kx), .val (.ref by1), .val (.int (1 : Int32)), .val (.int P0), .val (.int P1), .val (.int P2), .val (.int P3), .val (.ref by13), .unset, .unset] [(.ref by13), (.ref by1)])) rfl (by rw [hml]; rfl) (argsL := [(.ref by1), (.ref by13)]) (rest := []) (lenOf pd_0 rfl) rfl (by show 2 * 0 + _ ≤ _; exact Nat.le_of_eq rfl) (hb hby at_123) (fun _ _ => ⟨rfl, ey14, (by decide : 2 + 1 ≤ _), (by decide : 5 + 1 ≤ _)⟩)
    dsimp only [Pt.U, Pt.locs, Pt.cells, Pt.slots] at Xy15 ly15 yy15 zy15 sty15 hQy15
    subst ly15 yy15 zy15
    obtain ⟨kk_y15, by15, rfl, bzy15, Nqy15, Kcy15, fy15_0⟩ := hQy15
    have Ny15 := Fr.app Ny14 Nqy15
    have gzy15 : n0 ≤ by15 := Nat.le_trans Zy14 bzy15
    have szy15 : h0.size ≤ by15 := Nat.le_trans Ky14.1 bzy15
    have Zy15 : n0 ≤ Ty15.heap.size := Nat.le_trans Zy14 Kcy15.1
    have Ky15 : Keep h0 Ty15.heap [] := Ky14.trans Kcy15 all0
    refine Fin.step (sty15) ?_
    show Fin p e below s _ _ _ (Ty15.setTop (mkF m 126 #[.val (.long qa), .second, .val (.long qb), .second, .val (.long qc), .second, .val (.long qd), .second, .val (.int kx), .val (.ref by1), .val (.int (1 : Int32)), .val (.int P0), .val (.int P1), .val (.int P2), .val (.int P3), .val (.ref by13), .unset, .unset] [(.ref by15)]))
    refine Fin.step (fun _ => XS.astore Xy15.here hx rfl (hb hby at_126) rfl rfl (l' := #[.val (.long qa), .second, .val (.long qb), .second, .val (.long qc), .second, .val (.long qd), .second, .val (.int kx), .val (.ref by1), .val (.int (1 : Int32)), .val (.int P0), .val (.int P1), .val (.int P2), .val (.int P3), .val (.ref by13), .val (.ref by15), .unset]) rfl) ?_
    show Fin p e below s _ _ _ (Ty15.setTop (mkF m 128 #[.val (.long qa), .second, .val (.long qb), .second, .val (.long qc), .second, .val (.long qd), .second, .val (.int kx), .val (.ref by1), .val (.int (1 : Int32)), .val (.int P0), .val (.int P1), .val (.int P2), .val (.int P3), .val (.ref by13), .val (.ref by15), .unset] []))
    refine Fin.step (fun _ => XS.aload Xy15.here hx rfl (hb hby at_128) rfl rfl) ?_
    show Fin p e below s _ _ _ (Ty15.setTop (mkF m 130 #[.val (.long qa), .second, .val (.long qb), .second, .val (.long qc), .second, .val (.long qd), .second, .val (.int kx), .val (.ref by1), .val (.int (1 : Int32)), .val (.int P0), .val (.int P1), .val (.int P2), .val (.int P3), .val (.ref by13), .val (.ref by15), .unset] [(.ref by15)]))
    refine Fin.step (fun _ => XS.ifnullNo Xy15.here hx rfl (hb hby at_130) rfl) ?_
    show Fin p e below s _ _ _ (Ty15.setTop (mkF m 133 #[.val (.long qa), .second, .val (.long qb), .second, .val (.long qc), .second, .val (.long qd), .second, .val (.int kx), .val (.ref by1), .val (.int (1 : Int32)), .val (.int P0), .val (.int P1), .val (.int P2), .val (.int P3), .val (.ref by13), .val (.ref by15), .unset] []))
    refine Fin.step (fun _ => XS.aload Xy15.here hx rfl (hb hby at_133) rfl rfl) ?_
    show Fin p e below s _ _ _ (Ty15.setTop (mkF m 135 #[.val (.long qa), .second, .val (.long qb), .second, .val (.long qc), .second, .val (.long qd), .second, .val (.int kx), .val (.ref by1), .val (.int (1 : Int32)), .val (.int P0), .val (.int P1), .val (.int P2), .val (.int P3), .val (.ref by13), .val (.ref by15), .unset] [(.ref by15)]))
    have voy16 := fy15_0
    obtain ⟨cly16, Ary16, qay16, say16, nay16, hay16, gay16⟩ := voy16
    refine Fin.step (Xy15.arraylength hx Ary16.1 (State.isArrayOf_alike hZ.alike Ary16.2.1) (g := (mkF m 135 #[.val (.long qa), .second, .val (.long qb), .second, .val (.long qc), .second, .val (.long qd), .second, .val (.int kx), .val (.ref by1), .val (.int (1 : Int32)), .val (.int P0), .val (.int P1), .val (.int P2), .val (.int P3), .val (.ref by13), .val (.ref by15), .unset] [(.ref by15)])) rfl rfl (hb hby at_135)) ?_
    rw [len_of say16 nay16]
    show Fin p e below s _ _ _ (Ty15.setTop (mkF m 136 #[.val (.long qa), .second, .val (.long qb), .second, .val (.long qc), .second, .val (.long qd), .second, .val (.int kx), .val (.ref by1), .val (.int (1 : Int32)), .val (.int P0), .val (.int P1), .val (.int P2), .val (.int P3), .val (.ref by13), .val (.ref by15), .unset] [(.int (1 : Int32))]))
    refine Fin.step (fun _ => XS.iload Xy15.here hx rfl (hb hby at_136) rfl) ?_
    show Fin p e below s _ _ _ (Ty15.setTop (mkF m 138 #[.val (.long qa), .second, .val (.long qb), .second, .val (.long qc), .second, .val (.long qd), .second, .val (.int kx), .val (.ref by1), .val (.int (1 : Int32)), .val (.int P0), .val (.int P1), .val (.int P2), .val (.int P3), .val (.ref by13), .val (.ref by15), .unset] [(.int (1 : Int32)), (.int (1 : Int32))]))
    refine Fin.step (fun _ => XS.icmpYes Xy15.here hx rfl (pc0 := 138) (pc' := 143) rfl (hb hby at_138) rfl (teq ((by decide) : ((1 : Int32) = (1 : Int32)))).1 (by decide) (by decide)) ?_
    show Fin p e below s _ _ _ (Ty15.setTop (mkF m 143 #[.val (.long qa), .second, .val (.long qb), .second, .val (.long qc), .second, .val (.long qd), .second, .val (.int kx), .val (.ref by1), .val (.int (1 : Int32)), .val (.int P0), .val (.int P1), .val (.int P2), .val (.int P3), .val (.ref by13), .val (.ref by15), .unset] []))
    refine Fin.step (fun _ => XS.aload Xy15.here hx rfl (hb hby at_143) rfl rfl) ?_
    show Fin p e below s _ _ _ (Ty15.setTop (mkF m 145 #[.val (.long qa), .second, .val (.long qb), .second, .val (.long qc), .second, .val (.long qd), .second, .val (.int kx), .val (.ref by1), .val (.int (1 : Int32)), .val (.int P0), .val (.int P1), .val (.int P2), .val (.int P3), .val (.ref by13), .val (.ref by15), .unset] [(.ref by1)]))
    refine Fin.step (fun _ => XS.iconst Xy15.here hx rfl (hb hby at_145)) ?_
    show Fin p e below s _ _ _ (Ty15.setTop (mkF m 146 #[.val (.long qa), .second, .val (.long qb), .second, .val (.long qc), .second, .val (.long qd), .second, .val (.int kx), .val (.ref by1), .val (.int (1 : Int32)), .val (.int P0), .val (.int P1), .val (.int P2), .val (.int P3), .val (.ref by13), .val (.ref by15), .unset] [(.int (0 : Int32)), (.ref by1)]))
    have voy17 := (((Vy5.ext Ey13).other Wy14 (Nat.ne_of_lt (Nat.lt_of_lt_of_le Vy5.lt (Nat.le_of_eq gy13.symm)))).keep Kcy15 nin0)
    obtain ⟨cly17, Ary17, qay17, say17, nay17, hay17, gay17⟩ := voy17
    have iny17 := inb_of (j := (0 : Int32)) say17 ⟨by decide, by decide⟩
    refine Fin.step (Xy15.laload hx (j := (0 : Int32)) (v := (.long qa)) Ary17.1 (State.isArrayOf_alike hZ.alike Ary17.2.1) Ary17.2.2 iny17 (hay17.at iny17 rfl) (g := (mkF m 146 #[.val (.long qa), .second, .val (.long qb), .second, .val (.long qc), .second, .val (.long qd), .second, .val (.int kx), .val (.ref by1), .val (.int (1 : Int32)), .val (.int P0), .val (.int P1), .val (.int P2), .val (.int P3), .val (.ref by13), .val (.ref by15), .unset] [(.int (0 : Int32)), (.ref by1)])) rfl rfl (hb hby at_146)) ?_
    show Fin p e below s _ _ _ (Ty15.setTop (mkF m 147 #[.val (.long qa), .second, .val (.long qb), .second, .val (.long qc), .second, .val (.long qd), .second, .val (.int kx), .val (.ref by1), .val (.int (1 : Int32)), .val (.int P0), .val (.int P1), .val (.int P2), .val (.int P3), .val (.ref by13), .val (.ref by15), .unset] [(.long qa)]))
    refine Fin.step (fun _ => XS.lloadN Xy15.here hx rfl (hb hby at_147) rfl) ?_
    show Fin p e below s _ _ _ (Ty15.setTop (mkF m 148 #[.val (.long qa), .second, .val (.long qb), .second, .val (.long qc), .second, .val (.long qd), .second, .val (.int kx), .val (.ref by1), .val (.int (1 : Int32)), .val (.int P0), .val (.int P1), .val (.int P2), .val (.int P3), .val (.ref by13), .val (.ref by15), .unset] [(.long qa), (.long qa)]))
    refine Fin.step (fun _ => XS.lcmp Xy15.here hx rfl (hb hby at_148) rfl) ?_
    show Fin p e below s _ _ _ (Ty15.setTop (mkF m 149 #[.val (.long qa), .second, .val (.long qb), .second, .val (.long qc), .second, .val (.long qd), .second, .val (.int kx), .val (.ref by1), .val (.int (1 : Int32)), .val (.int P0), .val (.int P1), .val (.int P2), .val (.int P3), .val (.ref by13), .val (.ref by15), .unset] [(.int (lcmpW qa qa))]))
    refine Fin.step (fun _ => XS.ifNo Xy15.here hx rfl (hb hby at_149) rfl ((if0 _ _).trans (teq ((lcE rfl) : ((lcmpW qa qa) = (0 : Int32)))).2)) ?_
    show Fin p e below s _ _ _ (Ty15.setTop (mkF m 152 #[.val (.long qa), .second, .val (.long qb), .second, .val (.long qc), .second, .val (.long qd), .second, .val (.int kx), .val (.ref by1), .val (.int (1 : Int32)), .val (.int P0), .val (.int P1), .val (.int P2), .val (.int P3), .val (.ref by13), .val (.ref by15), .unset] []))
    refine Fin.step (fun _ => XS.aload Xy15.here hx rfl (hb hby at_152) rfl rfl) ?_
    show Fin p e below s _ _ _ (Ty15.setTop (mkF m 154 #[.val (.long qa), .second, .val (.long qb), .second, .val (.long qc), .second, .val (.long qd), .second, .val (.int kx), .val (.ref by1), .val (.int (1 : Int32)), .val (.int P0), .val (.int P1), .val (.int P2), .val (.int P3), .val (.ref by13), .val (.ref by15), .unset] [(.ref by1)]))
    refine Fin.step (fun _ => XS.iconst Xy15.here hx rfl (hb hby at_154)) ?_
    show Fin p e below s _ _ _ (Ty15.setTop (mkF m 155 #[.val (.long qa), .second, .val (.long qb), .second, .val (.long qc), .second, .val (.long qd), .second, .val (.int kx), .val (.ref by1), .val (.int (1 : Int32)), .val (.int P0), .val (.int P1), .val (.int P2), .val (.int P3), .val (.ref by13), .val (.ref by15), .unset] [(.int (1 : Int32)), (.ref by1)]))
    have voy18 := (((Vy5.ext Ey13).other Wy14 (Nat.ne_of_lt (Nat.lt_of_lt_of_le Vy5.lt (Nat.le_of_eq gy13.symm)))).keep Kcy15 nin0)
    obtain ⟨cly18, Ary18, qay18, say18, nay18, hay18, gay18⟩ := voy18
    have iny18 := inb_of (j := (1 : Int32)) say18 ⟨by decide, by decide⟩
    refine Fin.step (Xy15.laload hx (j := (1 : Int32)) (v := (.long qb)) Ary18.1 (State.isArrayOf_alike hZ.alike Ary18.2.1) Ary18.2.2 iny18 (hay18.at iny18 rfl) (g := (mkF m 155 #[.val (.long qa), .second, .val (.long qb), .second, .val (.long qc), .second, .val (.long qd), .second, .val (.int kx), .val (.ref by1), .val (.int (1 : Int32)), .val (.int P0), .val (.int P1), .val (.int P2), .val (.int P3), .val (.ref by13), .val (.ref by15), .unset] [(.int (1 : Int32)), (.ref by1)])) rfl rfl (hb hby at_155)) ?_
    show Fin p e below s _ _ _ (Ty15.setTop (mkF m 156 #[.val (.long qa), .second, .val (.long qb), .second, .val (.long qc), .second, .val (.long qd), .second, .val (.int kx), .val (.ref by1), .val (.int (1 : Int32)), .val (.int P0), .val (.int P1), .val (.int P2), .val (.int P3), .val (.ref by13), .val (.ref by15), .unset] [(.long qb)]))
    refine Fin.step (fun _ => XS.lloadN Xy15.here hx rfl (hb hby at_156) rfl) ?_
    show Fin p e below s _ _ _ (Ty15.setTop (mkF m 157 #[.val (.long qa), .second, .val (.long qb), .second, .val (.long qc), .second, .val (.long qd), .second, .val (.int kx), .val (.ref by1), .val (.int (1 : Int32)), .val (.int P0), .val (.int P1), .val (.int P2), .val (.int P3), .val (.ref by13), .val (.ref by15), .unset] [(.long qb), (.long qb)]))
    refine Fin.step (fun _ => XS.lcmp Xy15.here hx rfl (hb hby at_157) rfl) ?_
    show Fin p e below s _ _ _ (Ty15.setTop (mkF m 158 #[.val (.long qa), .second, .val (.long qb), .second, .val (.long qc), .second, .val (.long qd), .second, .val (.int kx), .val (.ref by1), .val (.int (1 : Int32)), .val (.int P0), .val (.int P1), .val (.int P2), .val (.int P3), .val (.ref by13), .val (.ref by15), .unset] [(.int (lcmpW qb qb))]))
    refine Fin.step (fun _ => XS.ifNo Xy15.here hx rfl (hb hby at_158) rfl ((if0 _ _).trans (teq ((lcE rfl) : ((lcmpW qb qb) = (0 : Int32)))).2)) ?_
    show Fin p e below s _ _ _ (Ty15.setTop (mkF m 161 #[.val (.long qa), .second, .val (.long qb), .second, .val (.long qc), .second, .val (.long qd), .second, .val (.int kx), .val (.ref by1), .val (.int (1 : Int32)), .val (.int P0), .val (.int P1), .val (.int P2), .val (.int P3), .val (.ref by13), .val (.ref by15), .unset] []))
    refine Fin.step (fun _ => XS.aload Xy15.here hx rfl (hb hby at_161) rfl rfl) ?_
    show Fin p e below s _ _ _ (Ty15.setTop (mkF m 163 #[.val (.long qa), .second, .val (.long qb), .second, .val (.long qc), .second, .val (.long qd), .second, .val (.int kx), .val (.ref by1), .val (.int (1 : Int32)), .val (.int P0), .val (.int P1), .val (.int P2), .val (.int P3), .val (.ref by13), .val (.ref by15), .unset] [(.ref by1)]))
    refine Fin.step (fun _ => XS.iconst Xy15.here hx rfl (hb hby at_163)) ?_
    show Fin p e below s _ _ _ (Ty15.setTop (mkF m 164 #[.val (.long qa), .second, .val (.long qb), .second, .val (.long qc), .second, .val (.long qd), .second, .val (.int kx), .val (.ref by1), .val (.int (1 : Int32)), .val (.int P0), .val (.int P1), .val (.int P2), .val (.int P3), .val (.ref by13), .val (.ref by15), .unset] [(.int (2 : Int32)), (.ref by1)]))
    have voy19 := (((Vy5.ext Ey13).other Wy14 (Nat.ne_of_lt (Nat.lt_of_lt_of_le Vy5.lt (Nat.le_of_eq gy13.symm)))).keep Kcy15 nin0)
    obtain ⟨cly19, Ary19, qay19, say19, nay19, hay19, gay19⟩ := voy19
    have iny19 := inb_of (j := (2 : Int32)) say19 ⟨by decide, by decide⟩
    refine Fin.step (Xy15.laload hx (j := (2 : Int32)) (v := (.long qc)) Ary19.1 (State.isArrayOf_alike hZ.alike Ary19.2.1) Ary19.2.2 iny19 (hay19.at iny19 rfl) (g := (mkF m 164 #[.val (.long qa), .second, .val (.long qb), .second, .val (.long qc), .second, .val (.long qd), .second, .val (.int kx), .val (.ref by1), .val (.int (1 : Int32)), .val (.int P0), .val (.int P1), .val (.int P2), .val (.int P3), .val (.ref by13), .val (.ref by15), .unset] [(.int (2 : Int32)), (.ref by1)])) rfl rfl (hb hby at_164)) ?_
    show Fin p e below s _ _ _ (Ty15.setTop (mkF m 165 #[.val (.long qa), .second, .val (.long qb), .second, .val (.long qc), .second, .val (.long qd), .second, .val (.int kx), .val (.ref by1), .val (.int (1 : Int32)), .val (.int P0), .val (.int P1), .val (.int P2), .val (.int P3), .val (.ref by13), .val (.ref by15), .unset] [(.long qc)]))
    refine Fin.step (fun _ => XS.lload Xy15.here hx rfl (hb hby at_165) rfl) ?_
    show Fin p e below s _ _ _ (Ty15.setTop (mkF m 167 #[.val (.long qa), .second, .val (.long qb), .second, .val (.long qc), .second, .val (.long qd), .second, .val (.int kx), .val (.ref by1), .val (.int (1 : Int32)), .val (.int P0), .val (.int P1), .val (.int P2), .val (.int P3), .val (.ref by13), .val (.ref by15), .unset] [(.long qc), (.long qc)]))
    refine Fin.step (fun _ => XS.lcmp Xy15.here hx rfl (hb hby at_167) rfl) ?_
    show Fin p e below s _ _ _ (Ty15.setTop (mkF m 168 #[.val (.long qa), .second, .val (.long qb), .second, .val (.long qc), .second, .val (.long qd), .second, .val (.int kx), .val (.ref by1), .val (.int (1 : Int32)), .val (.int P0), .val (.int P1), .val (.int P2), .val (.int P3), .val (.ref by13), .val (.ref by15), .unset] [(.int (lcmpW qc qc))]))
    refine Fin.step (fun _ => XS.ifNo Xy15.here hx rfl (hb hby at_168) rfl ((if0 _ _).trans (teq ((lcE rfl) : ((lcmpW qc qc) = (0 : Int32)))).2)) ?_
    show Fin p e below s _ _ _ (Ty15.setTop (mkF m 171 #[.val (.long qa), .second, .val (.long qb), .second, .val (.long qc), .second, .val (.long qd), .second, .val (.int kx), .val (.ref by1), .val (.int (1 : Int32)), .val (.int P0), .val (.int P1), .val (.int P2), .val (.int P3), .val (.ref by13), .val (.ref by15), .unset] []))
    refine Fin.step (fun _ => XS.aload Xy15.here hx rfl (hb hby at_171) rfl rfl) ?_
    show Fin p e below s _ _ _ (Ty15.setTop (mkF m 173 #[.val (.long qa), .second, .val (.long qb), .second, .val (.long qc), .second, .val (.long qd), .second, .val (.int kx), .val (.ref by1), .val (.int (1 : Int32)), .val (.int P0), .val (.int P1), .val (.int P2), .val (.int P3), .val (.ref by13), .val (.ref by15), .unset] [(.ref by1)]))
    refine Fin.step (fun _ => XS.iconst Xy15.here hx rfl (hb hby at_173)) ?_
    show Fin p e below s _ _ _ (Ty15.setTop (mkF m 174 #[.val (.long qa), .second, .val (.long qb), .second, .val (.long qc), .second, .val (.long qd), .second, .val (.int kx), .val (.ref by1), .val (.int (1 : Int32)), .val (.int P0), .val (.int P1), .val (.int P2), .val (.int P3), .val (.ref by13), .val (.ref by15), .unset] [(.int (3 : Int32)), (.ref by1)]))
    have voy20 := (((Vy5.ext Ey13).other Wy14 (Nat.ne_of_lt (Nat.lt_of_lt_of_le Vy5.lt (Nat.le_of_eq gy13.symm)))).keep Kcy15 nin0)
    obtain ⟨cly20, Ary20, qay20, say20, nay20, hay20, gay20⟩ := voy20
    have iny20 := inb_of (j := (3 : Int32)) say20 ⟨by decide, by decide⟩
    refine Fin.step (Xy15.laload hx (j := (3 : Int32)) (v := (.long qd)) Ary20.1 (State.isArrayOf_alike hZ.alike Ary20.2.1) Ary20.2.2 iny20 (hay20.at iny20 rfl) (g := (mkF m 174 #[.val (.long qa), .second, .val (.long qb), .second, .val (.long qc), .second, .val (.long qd), .second, .val (.int kx), .val (.ref by1), .val (.int (1 : Int32)), .val (.int P0), .val (.int P1), .val (.int P2), .val (.int P3), .val (.ref by13), .val (.ref by15), .unset] [(.int (3 : Int32)), (.ref by1)])) rfl rfl (hb hby at_174)) ?_
    show Fin p e below s _ _ _ (Ty15.setTop (mkF m 175 #[.val (.long qa), .second, .val (.long qb), .second, .val (.long qc), .second, .val (.long qd), .second, .val (.int kx), .val (.ref by1), .val (.int (1 : Int32)), .val (.int P0), .val (.int P1), .val (.int P2), .val (.int P3), .val (.ref by13), .val (.ref by15), .unset] [(.long qd)]))
    refine Fin.step (fun _ => XS.lload Xy15.here hx rfl (hb hby at_175) rfl) ?_
    show Fin p e below s _ _ _ (Ty15.setTop (mkF m 177 #[.val (.long qa), .second, .val (.long qb), .second, .val (.long qc), .second, .val (.long qd), .second, .val (.int kx), .val (.ref by1), .val (.int (1 : Int32)), .val (.int P0), .val (.int P1), .val (.int P2), .val (.int P3), .val (.ref by13), .val (.ref by15), .unset] [(.long qd), (.long qd)]))
    refine Fin.step (fun _ => XS.lcmp Xy15.here hx rfl (hb hby at_177) rfl) ?_
    show Fin p e below s _ _ _ (Ty15.setTop (mkF m 178 #[.val (.long qa), .second, .val (.long qb), .second, .val (.long qc), .second, .val (.long qd), .second, .val (.int kx), .val (.ref by1), .val (.int (1 : Int32)), .val (.int P0), .val (.int P1), .val (.int P2), .val (.int P3), .val (.ref by13), .val (.ref by15), .unset] [(.int (lcmpW qd qd))]))
    refine Fin.step (fun _ => XS.ifNo Xy15.here hx rfl (hb hby at_178) rfl ((if0 _ _).trans (teq ((lcE rfl) : ((lcmpW qd qd) = (0 : Int32)))).2)) ?_
    show Fin p e below s _ _ _ (Ty15.setTop (mkF m 181 #[.val (.long qa), .second, .val (.long qb), .second, .val (.long qc), .second, .val (.long qd), .second, .val (.int kx), .val (.ref by1), .val (.int (1 : Int32)), .val (.int P0), .val (.int P1), .val (.int P2), .val (.int P3), .val (.ref by13), .val (.ref by15), .unset] []))
    refine Fin.step (fun _ => XS.iconst Xy15.here hx rfl (hb hby at_181)) ?_
    show Fin p e below s _ _ _ (Ty15.setTop (mkF m 182 #[.val (.long qa), .second, .val (.long qb), .second, .val (.long qc), .second, .val (.long qd), .second, .val (.int kx), .val (.ref by1), .val (.int (1 : Int32)), .val (.int P0), .val (.int P1), .val (.int P2), .val (.int P3), .val (.ref by13), .val (.ref by15), .unset] [(.int (1 : Int32))]))
    refine Fin.step (fun _ => XS.goto Xy15.here hx rfl (pc0 := 182) (pc' := 186) rfl (hb hby at_182) (by decide) (by decide)) ?_
    show Fin p e below s _ _ _ (Ty15.setTop (mkF m 186 #[.val (.long qa), .second, .val (.long qb), .second, .val (.long qc), .second, .val (.long qd), .second, .val (.int kx), .val (.ref by1), .val (.int (1 : Int32)), .val (.int P0), .val (.int P1), .val (.int P2), .val (.int P3), .val (.ref by13), .val (.ref by15), .unset] [(.int (1 : Int32))]))
    refine Fin.step (fun _ => XS.istore Xy15.here hx rfl (hb hby at_186) rfl (l' := #[.val (.long qa), .second, .val (.long qb), .second, .val (.long qc), .second, .val (.long qd), .second, .val (.int kx), .val (.ref by1), .val (.int (1 : Int32)), .val (.int P0), .val (.int P1), .val (.int P2), .val (.int P3), .val (.ref by13), .val (.ref by15), .val (.int (1 : Int32))]) rfl) ?_
    show Fin p e below s _ _ _ (Ty15.setTop (mkF m 188 #[.val (.long qa), .second, .val (.long qb), .second, .val (.long qc), .second, .val (.long qd), .second, .val (.int kx), .val (.ref by1), .val (.int (1 : Int32)), .val (.int P0), .val (.int P1), .val (.int P2), .val (.int P3), .val (.ref by13), .val (.ref by15), .val (.int (1 : Int32))] []))
    refine Fin.step (fun _ => XS.iload Xy15.here hx rfl (hb hby at_188) rfl) ?_
    show Fin p e below s _ _ _ (Ty15.setTop (mkF m 190 #[.val (.long qa), .second, .val (.long qb), .second, .val (.long qc), .second, .val (.long qd), .second, .val (.int kx), .val (.ref by1), .val (.int (1 : Int32)), .val (.int P0), .val (.int P1), .val (.int P2), .val (.int P3), .val (.ref by13), .val (.ref by15), .val (.int (1 : Int32))] [(.int (1 : Int32))]))
    refine Fin.step (fun _ => XS.ifNo Xy15.here hx rfl (hb hby at_190) rfl ((if0 _ _).trans (tlt ((by decide) : ((0 : Int32) < (1 : Int32)))).2.2.2)) ?_
    show Fin p e below s _ _ _ (Ty15.setTop (mkF m 193 #[.val (.long qa), .second, .val (.long qb), .second, .val (.long qc), .second, .val (.long qd), .second, .val (.int kx), .val (.ref by1), .val (.int (1 : Int32)), .val (.int P0), .val (.int P1), .val (.int P2), .val (.int P3), .val (.ref by13), .val (.ref by15), .val (.int (1 : Int32))] []))
    refine Fin.step (fun _ => XS.iload Xy15.here hx rfl (hb hby at_193) rfl) ?_
    show Fin p e below s _ _ _ (Ty15.setTop (mkF m 195 #[.val (.long qa), .second, .val (.long qb), .second, .val (.long qc), .second, .val (.long qd), .second, .val (.int kx), .val (.ref by1), .val (.int (1 : Int32)), .val (.int P0), .val (.int P1), .val (.int P2), .val (.int P3), .val (.ref by13), .val (.ref by15), .val (.int (1 : Int32))] [(.int (1 : Int32))]))
    refine Fin.step (fun _ => XS.ifNo Xy15.here hx rfl (hb hby at_195) rfl ((if0 _ _).trans (feq ((by decide) : ¬ ((1 : Int32) = (0 : Int32)))).1)) ?_
    show Fin p e below s _ _ _ (Ty15.setTop (mkF m 198 #[.val (.long qa), .second, .val (.long qb), .second, .val (.long qc), .second, .val (.long qd), .second, .val (.int kx), .val (.ref by1), .val (.int (1 : Int32)), .val (.int P0), .val (.int P1), .val (.int P2), .val (.int P3), .val (.ref by13), .val (.ref by15), .val (.int (1 : Int32))] []))
    refine Fin.step (fun _ => XS.aload Xy15.here hx rfl (hb hby at_198) rfl rfl) ?_
    show Fin p e below s _ _ _ (Ty15.setTop (mkF m 200 #[.val (.long qa), .second, .val (.long qb), .second, .val (.long qc), .second, .val (.long qd), .second, .val (.int kx), .val (.ref by1), .val (.int (1 : Int32)), .val (.int P0), .val (.int P1), .val (.int P2), .val (.int P3), .val (.ref by13), .val (.ref by15), .val (.int (1 : Int32))] [(.ref by13)]))
    refine Fin.step (fun _ => XS.iconst Xy15.here hx rfl (hb hby at_200)) ?_
    show Fin p e below s _ _ _ (Ty15.setTop (mkF m 201 #[.val (.long qa), .second, .val (.long qb), .second, .val (.long qc), .second, .val (.long qd), .second, .val (.int kx), .val (.ref by1), .val (.int (1 : Int32)), .val (.int P0), .val (.int P1), .val (.int P2), .val (.int P3), .val (.ref by13), .val (.ref by15), .val (.int (1 : Int32))] [(.int (0 : Int32)), (.ref by13)]))
    have voy21 := (Vy14.keep Kcy15 nin0)
    obtain ⟨cly21, Ary21, qay21, say21, nay21, hay21, gay21⟩ := voy21
    have iny21 := inb_of (j := (0 : Int32)) say21 ⟨by decide, by decide⟩
    refine Fin.step (Xy15.iaload hx (j := (0 : Int32)) (v := (.int P0)) Ary21.1 (State.isArrayOf_alike hZ.alike Ary21.2.1) Ary21.2.2 iny21 (hay21.at iny21 rfl) (g := (mkF m 201 #[.val (.long qa), .second, .val (.long qb), .second, .val (.long qc), .second, .val (.long qd), .second, .val (.int kx), .val (.ref by1), .val (.int (1 : Int32)), .val (.int P0), .val (.int P1), .val (.int P2), .val (.int P3), .val (.ref by13), .val (.ref by15), .val (.int (1 : Int32))] [(.int (0 : Int32)), (.ref by13)])) rfl rfl (hb hby at_201)) ?_
    show Fin p e below s _ _ _ (Ty15.setTop (mkF m 202 #[.val (.long qa), .second, .val (.long qb), .second, .val (.long qc), .second, .val (.long qd), .second, .val (.int kx), .val (.ref by1), .val (.int (1 : Int32)), .val (.int P0), .val (.int P1), .val (.int P2), .val (.int P3), .val (.ref by13), .val (.ref by15), .val (.int (1 : Int32))] [(.int P0)]))
    refine Fin.step (fun _ => XS.iload Xy15.here hx rfl (hb hby at_202) rfl) ?_
    show Fin p e below s _ _ _ (Ty15.setTop (mkF m 204 #[.val (.long qa), .second, .val (.long qb), .second, .val (.long qc), .second, .val (.long qd), .second, .val (.int kx), .val (.ref by1), .val (.int (1 : Int32)), .val (.int P0), .val (.int P1), .val (.int P2), .val (.int P3), .val (.ref by13), .val (.ref by15), .val (.int (1 : Int32))] [(.int P0), (.int P0)]))
    refine Fin.step (fun _ => XS.icmpNo Xy15.here hx rfl (hb hby at_204) rfl (teq (rfl : (P0 = P0))).2) ?_
    show Fin p e below s _ _ _ (Ty15.setTop (mkF m 207 #[.val (.long qa), .second, .val (.long qb), .second, .val (.long qc), .second, .val (.long qd), .second, .val (.int kx), .val (.ref by1), .val (.int (1 : Int32)), .val (.int P0), .val (.int P1), .val (.int P2), .val (.int P3), .val (.ref by13), .val (.ref by15), .val (.int (1 : Int32))] []))
    refine Fin.step (fun _ => XS.aload Xy15.here hx rfl (hb hby at_207) rfl rfl) ?_
    show Fin p e below s _ _ _ (Ty15.setTop (mkF m 209 #[.val (.long qa), .second, .val (.long qb), .second, .val (.long qc), .second, .val (.long qd), .second, .val (.int kx), .val (.ref by1), .val (.int (1 : Int32)), .val (.int P0), .val (.int P1), .val (.int P2), .val (.int P3), .val (.ref by13), .val (.ref by15), .val (.int (1 : Int32))] [(.ref by15)]))
    refine Fin.step (fun _ => XS.iconst Xy15.here hx rfl (hb hby at_209)) ?_
    show Fin p e below s _ _ _ (Ty15.setTop (mkF m 210 #[.val (.long qa), .second, .val (.long qb), .second, .val (.long qc), .second, .val (.long qd), .second, .val (.int kx), .val (.ref by1), .val (.int (1 : Int32)), .val (.int P0), .val (.int P1), .val (.int P2), .val (.int P3), .val (.ref by13), .val (.ref by15), .val (.int (1 : Int32))] [(.int (0 : Int32)), (.ref by15)]))
    have voy22 := fy15_0
    obtain ⟨cly22, Ary22, qay22, say22, nay22, hay22, gay22⟩ := voy22
    have iny22 := inb_of (j := (0 : Int32)) say22 ⟨by decide, by decide⟩
    refine Fin.step (Xy15.laload hx (j := (0 : Int32)) (v := (.long (own_ref P0 qa qb qc qd))) Ary22.1 (State.isArrayOf_alike hZ.alike Ary22.2.1) Ary22.2.2 iny22 (hay22.at iny22 rfl) (g := (mkF m 210 #[.val (.long qa), .second, .val (.long qb), .second, .val (.long qc), .second, .val (.long qd), .second, .val (.int kx), .val (.ref by1), .val (.int (1 : Int32)), .val (.int P0), .val (.int P1), .val (.int P2), .val (.int P3), .val (.ref by13), .val (.ref by15), .val (.int (1 : Int32))] [(.int (0 : Int32)), (.ref by15)])) rfl rfl (hb hby at_210)) ?_
    show Fin p e below s _ _ _ (Ty15.setTop (mkF m 211 #[.val (.long qa), .second, .val (.long qb), .second, .val (.long qc), .second, .val (.long qd), .second, .val (.int kx), .val (.ref by1), .val (.int (1 : Int32)), .val (.int P0), .val (.int P1), .val (.int P2), .val (.int P3), .val (.ref by13), .val (.ref by15), .val (.int (1 : Int32))] [(.long (own_ref P0 qa qb qc qd))]))
    refine Fin.step (fun _ => XS.iload Xy15.here hx rfl (hb hby at_211) rfl) ?_
    show Fin p e below s _ _ _ (Ty15.setTop (mkF m 213 #[.val (.long qa), .second, .val (.long qb), .second, .val (.long qc), .second, .val (.long qd), .second, .val (.int kx), .val (.ref by1), .val (.int (1 : Int32)), .val (.int P0), .val (.int P1), .val (.int P2), .val (.int P3), .val (.ref by13), .val (.ref by15), .val (.int (1 : Int32))] [(.int P0), (.long (own_ref P0 qa qb qc qd))]))
    refine Fin.step (fun _ => XS.lloadN Xy15.here hx rfl (hb hby at_213) rfl) ?_
    show Fin p e below s _ _ _ (Ty15.setTop (mkF m 214 #[.val (.long qa), .second, .val (.long qb), .second, .val (.long qc), .second, .val (.long qd), .second, .val (.int kx), .val (.ref by1), .val (.int (1 : Int32)), .val (.int P0), .val (.int P1), .val (.int P2), .val (.int P3), .val (.ref by13), .val (.ref by15), .val (.int (1 : Int32))] [(.long qa), (.int P0), (.long (own_ref P0 qa qb qc qd))]))
    refine Fin.step (fun _ => XS.lloadN Xy15.here hx rfl (hb hby at_214) rfl) ?_
    show Fin p e below s _ _ _ (Ty15.setTop (mkF m 215 #[.val (.long qa), .second, .val (.long qb), .second, .val (.long qc), .second, .val (.long qd), .second, .val (.int kx), .val (.ref by1), .val (.int (1 : Int32)), .val (.int P0), .val (.int P1), .val (.int P2), .val (.int P3), .val (.ref by13), .val (.ref by15), .val (.int (1 : Int32))] [(.long qb), (.long qa), (.int P0), (.long (own_ref P0 qa qb qc qd))]))
    refine Fin.step (fun _ => XS.lload Xy15.here hx rfl (hb hby at_215) rfl) ?_
    show Fin p e below s _ _ _ (Ty15.setTop (mkF m 217 #[.val (.long qa), .second, .val (.long qb), .second, .val (.long qc), .second, .val (.long qd), .second, .val (.int kx), .val (.ref by1), .val (.int (1 : Int32)), .val (.int P0), .val (.int P1), .val (.int P2), .val (.int P3), .val (.ref by13), .val (.ref by15), .val (.int (1 : Int32))] [(.long qc), (.long qb), (.long qa), (.int P0), (.long (own_ref P0 qa qb qc qd))]))
    refine Fin.step (fun _ => XS.lload Xy15.here hx rfl (hb hby at_217) rfl) ?_
    show Fin p e below s _ _ _ (Ty15.setTop (mkF m 219 #[.val (.long qa), .second, .val (.long qb), .second, .val (.long qc), .second, .val (.long qd), .second, .val (.int kx), .val (.ref by1), .val (.int (1 : Int32)), .val (.int P0), .val (.int P1), .val (.int P2), .val (.int P3), .val (.ref by13), .val (.ref by15), .val (.int (1 : Int32))] [(.long qd), (.long qc), (.long qb), (.long qa), (.int P0), (.long (own_ref P0 qa qb qc qd))]))
    obtain ⟨_, _, ⟨Ty23, Ly23, ky23, ny23⟩, -, Xy23, ⟨Lcy23, hQy23, ly23, yy23, zy23⟩, sty23⟩ := Jvm.LawKit.callS Xy15 hx (y := (⟨"com/example/uzor/uzor/RowPickPinLaw", "ref", "(IJJJJ)J"⟩ : MethodName)) hown (mvT hZ (hw _ (List.mem_of_getElem? (i := 6) rfl))) (mvT hZ (hw _ (List.mem_of_getElem? (i := 7) rfl))) (mvT hZ (hw _ (List.mem_of_getElem? (i := 8) rfl))) (mvT hZ (hw _ (List.mem_of_getElem? (i := 9) rfl))) (by decide) (backOf (W := 2) (rm2 l Z a0 hw [] P0 qa qb qc qd Ty15.heap n0 Zy15 ) hZ (hw _ (List.mem_of_getElem? (i := 9) rfl)) (hw _ (List.mem_of_getElem? (i := 8) rfl)) (by decide) (by decide)) (g := (mkF m 219 #[.val (.long qa), .second, .val (.long qb), .second, .val (.long qc), .second, .val (.long qd), .second, .val (.int kx), .val (.ref by1), .val (.int (1 : Int32)), .val (.int P0), .val (.int P1), .val (.int P2), .val (.int P3), .val (.ref by13), .val (.ref by15), .val (.int (1 : Int32))] [(.long qd), (.long qc), (.long qb), (.long qa), (.int P0), (.long (own_ref P0 qa qb qc qd))])) rfl (by rw [hml]; rfl) (argsL := [(.int P0), (.long qa), (.long qb), (.long qc), (.long qd)]) (rest := [(.long (own_ref P0 qa qb qc qd))]) (lenOf pd_1 rfl) rfl (by show 2 * 0 + _ ≤ _; exact Nat.le_of_eq rfl) (hb hby at_219) (fun _ _ => ⟨rfl, rfl, (by decide : 3 + 0 ≤ _), (by decide : 6 + 0 ≤ _)⟩)
    dsimp only [Pt.U, Pt.locs, Pt.cells, Pt.slots] at Xy23 ly23 yy23 zy23 sty23 hQy23
    subst ly23 yy23 zy23
    obtain ⟨rfl, Nqy23, eqy23⟩ := hQy23
    have Ny23 := Fr.app Ny15 Nqy23
    refine Fin.step (sty23) ?_
    show Fin p e below s _ _ _ (Ty23.setTop (mkF m 222 #[.val (.long qa), .second, .val (.long qb), .second, .val (.long qc), .second, .val (.long qd), .second, .val (.int kx), .val (.ref by1), .val (.int (1 : Int32)), .val (.int P0), .val (.int P1), .val (.int P2), .val (.int P3), .val (.ref by13), .val (.ref by15), .val (.int (1 : Int32))] [(.long (own_ref P0 qa qb qc qd)), (.long (own_ref P0 qa qb qc qd))]))
    refine Fin.step (fun _ => XS.lcmp Xy23.here hx rfl (hb hby at_222) rfl) ?_
    show Fin p e below s _ _ _ (Ty23.setTop (mkF m 223 #[.val (.long qa), .second, .val (.long qb), .second, .val (.long qc), .second, .val (.long qd), .second, .val (.int kx), .val (.ref by1), .val (.int (1 : Int32)), .val (.int P0), .val (.int P1), .val (.int P2), .val (.int P3), .val (.ref by13), .val (.ref by15), .val (.int (1 : Int32))] [(.int (lcmpW (own_ref P0 qa qb qc qd) (own_ref P0 qa qb qc qd)))]))
    refine Fin.step (fun _ => XS.ifNo Xy23.here hx rfl (hb hby at_223) rfl ((if0 _ _).trans (teq ((lcE rfl) : ((lcmpW (own_ref P0 qa qb qc qd) (own_ref P0 qa qb qc qd)) = (0 : Int32)))).2)) ?_
    show Fin p e below s _ _ _ (Ty23.setTop (mkF m 226 #[.val (.long qa), .second, .val (.long qb), .second, .val (.long qc), .second, .val (.long qd), .second, .val (.int kx), .val (.ref by1), .val (.int (1 : Int32)), .val (.int P0), .val (.int P1), .val (.int P2), .val (.int P3), .val (.ref by13), .val (.ref by15), .val (.int (1 : Int32))] []))
    refine Fin.step (fun _ => XS.iconst Xy23.here hx rfl (hb hby at_226)) ?_
    show Fin p e below s _ _ _ (Ty23.setTop (mkF m 227 #[.val (.long qa), .second, .val (.long qb), .second, .val (.long qc), .second, .val (.long qd), .second, .val (.int kx), .val (.ref by1), .val (.int (1 : Int32)), .val (.int P0), .val (.int P1), .val (.int P2), .val (.int P3), .val (.ref by13), .val (.ref by15), .val (.int (1 : Int32))] [(.int (1 : Int32))]))
    refine Fin.step (fun _ => XS.goto Xy23.here hx rfl (pc0 := 227) (pc' := 231) rfl (hb hby at_227) (by decide) (by decide)) ?_
    show Fin p e below s _ _ _ (Ty23.setTop (mkF m 231 #[.val (.long qa), .second, .val (.long qb), .second, .val (.long qc), .second, .val (.long qd), .second, .val (.int kx), .val (.ref by1), .val (.int (1 : Int32)), .val (.int P0), .val (.int P1), .val (.int P2), .val (.int P3), .val (.ref by13), .val (.ref by15), .val (.int (1 : Int32))] [(.int (1 : Int32))]))
    refine Fin.step (fun _ => XS.istore Xy23.here hx rfl (hb hby at_231) rfl (l' := #[.val (.long qa), .second, .val (.long qb), .second, .val (.long qc), .second, .val (.long qd), .second, .val (.int kx), .val (.ref by1), .val (.int (1 : Int32)), .val (.int P0), .val (.int P1), .val (.int P2), .val (.int P3), .val (.ref by13), .val (.ref by15), .val (.int (1 : Int32))]) rfl) ?_
    show Fin p e below s _ _ _ (Ty23.setTop (mkF m 233 #[.val (.long qa), .second, .val (.long qb), .second, .val (.long qc), .second, .val (.long qd), .second, .val (.int kx), .val (.ref by1), .val (.int (1 : Int32)), .val (.int P0), .val (.int P1), .val (.int P2), .val (.int P3), .val (.ref by13), .val (.ref by15), .val (.int (1 : Int32))] []))
    refine Fin.step (fun _ => XS.iload Xy23.here hx rfl (hb hby at_233) rfl) ?_
    show Fin p e below s _ _ _ (Ty23.setTop (mkF m 235 #[.val (.long qa), .second, .val (.long qb), .second, .val (.long qc), .second, .val (.long qd), .second, .val (.int kx), .val (.ref by1), .val (.int (1 : Int32)), .val (.int P0), .val (.int P1), .val (.int P2), .val (.int P3), .val (.ref by13), .val (.ref by15), .val (.int (1 : Int32))] [(.int (1 : Int32))]))
    refine Fin.step (fun _ => XS.iconst Xy23.here hx rfl (hb hby at_235)) ?_
    show Fin p e below s _ _ _ (Ty23.setTop (mkF m 236 #[.val (.long qa), .second, .val (.long qb), .second, .val (.long qc), .second, .val (.long qd), .second, .val (.int kx), .val (.ref by1), .val (.int (1 : Int32)), .val (.int P0), .val (.int P1), .val (.int P2), .val (.int P3), .val (.ref by13), .val (.ref by15), .val (.int (1 : Int32))] [(.int (1 : Int32)), (.int (1 : Int32))]))
    refine Fin.step (fun _ => XS.icmpYes Xy23.here hx rfl (pc0 := 236) (pc' := 279) rfl (hb hby at_236) rfl (flt ((by decide) : ¬ ((1 : Int32) < (1 : Int32)))).2.2.2 (by decide) (by decide)) ?_
    show Fin p e below s _ _ _ (Ty23.setTop (mkF m 279 #[.val (.long qa), .second, .val (.long qb), .second, .val (.long qc), .second, .val (.long qd), .second, .val (.int kx), .val (.ref by1), .val (.int (1 : Int32)), .val (.int P0), .val (.int P1), .val (.int P2), .val (.int P3), .val (.ref by13), .val (.ref by15), .val (.int (1 : Int32))] []))
    refine Fin.step (fun _ => XS.iload Xy23.here hx rfl (hb hby at_279) rfl) ?_
    show Fin p e below s _ _ _ (Ty23.setTop (mkF m 281 #[.val (.long qa), .second, .val (.long qb), .second, .val (.long qc), .second, .val (.long qd), .second, .val (.int kx), .val (.ref by1), .val (.int (1 : Int32)), .val (.int P0), .val (.int P1), .val (.int P2), .val (.int P3), .val (.ref by13), .val (.ref by15), .val (.int (1 : Int32))] [(.int (1 : Int32))]))
    refine Fin.step (fun _ => XS.iconst Xy23.here hx rfl (hb hby at_281)) ?_
    show Fin p e below s _ _ _ (Ty23.setTop (mkF m 282 #[.val (.long qa), .second, .val (.long qb), .second, .val (.long qc), .second, .val (.long qd), .second, .val (.int kx), .val (.ref by1), .val (.int (1 : Int32)), .val (.int P0), .val (.int P1), .val (.int P2), .val (.int P3), .val (.ref by13), .val (.ref by15), .val (.int (1 : Int32))] [(.int (2 : Int32)), (.int (1 : Int32))]))
    refine Fin.step (fun _ => XS.icmpYes Xy23.here hx rfl (pc0 := 282) (pc' := 325) rfl (hb hby at_282) rfl (flt ((by decide) : ¬ ((2 : Int32) < (1 : Int32)))).2.2.2 (by decide) (by decide)) ?_
    show Fin p e below s _ _ _ (Ty23.setTop (mkF m 325 #[.val (.long qa), .second, .val (.long qb), .second, .val (.long qc), .second, .val (.long qd), .second, .val (.int kx), .val (.ref by1), .val (.int (1 : Int32)), .val (.int P0), .val (.int P1), .val (.int P2), .val (.int P3), .val (.ref by13), .val (.ref by15), .val (.int (1 : Int32))] []))
    refine Fin.step (fun _ => XS.iload Xy23.here hx rfl (hb hby at_325) rfl) ?_
    show Fin p e below s _ _ _ (Ty23.setTop (mkF m 327 #[.val (.long qa), .second, .val (.long qb), .second, .val (.long qc), .second, .val (.long qd), .second, .val (.int kx), .val (.ref by1), .val (.int (1 : Int32)), .val (.int P0), .val (.int P1), .val (.int P2), .val (.int P3), .val (.ref by13), .val (.ref by15), .val (.int (1 : Int32))] [(.int (1 : Int32))]))
    refine Fin.step (fun _ => XS.iconst Xy23.here hx rfl (hb hby at_327)) ?_
    show Fin p e below s _ _ _ (Ty23.setTop (mkF m 328 #[.val (.long qa), .second, .val (.long qb), .second, .val (.long qc), .second, .val (.long qd), .second, .val (.int kx), .val (.ref by1), .val (.int (1 : Int32)), .val (.int P0), .val (.int P1), .val (.int P2), .val (.int P3), .val (.ref by13), .val (.ref by15), .val (.int (1 : Int32))] [(.int (3 : Int32)), (.int (1 : Int32))]))
    refine Fin.step (fun _ => XS.icmpYes Xy23.here hx rfl (pc0 := 328) (pc' := 371) rfl (hb hby at_328) rfl (flt ((by decide) : ¬ ((3 : Int32) < (1 : Int32)))).2.2.2 (by decide) (by decide)) ?_
    show Fin p e below s _ _ _ (Ty23.setTop (mkF m 371 #[.val (.long qa), .second, .val (.long qb), .second, .val (.long qc), .second, .val (.long qd), .second, .val (.int kx), .val (.ref by1), .val (.int (1 : Int32)), .val (.int P0), .val (.int P1), .val (.int P2), .val (.int P3), .val (.ref by13), .val (.ref by15), .val (.int (1 : Int32))] []))
    refine Fin.step (fun _ => XS.iload Xy23.here hx rfl (hb hby at_371) rfl) ?_
    show Fin p e below s _ _ _ (Ty23.setTop (mkF m 373 #[.val (.long qa), .second, .val (.long qb), .second, .val (.long qc), .second, .val (.long qd), .second, .val (.int kx), .val (.ref by1), .val (.int (1 : Int32)), .val (.int P0), .val (.int P1), .val (.int P2), .val (.int P3), .val (.ref by13), .val (.ref by15), .val (.int (1 : Int32))] [(.int (1 : Int32))]))
    refine Fin.retN Xy23 hx (t := .boolean) hret (by simp) hlk (hb hby at_373) (by decide) (by decide) ?_
    show Q0 Z qa qb qc qd kx h0 n0 _ Ty23.heap _
    rw [eqy23]
    exact ⟨rfl, Ny23, Ky15⟩
  · rw [qn]
    show Fin p e below s _ _ _ (Ty5.setTop (mkF m 66 #[.val (.long qa), .second, .val (.long qb), .second, .val (.long qc), .second, .val (.long qd), .second, .val (.int kx), .val (.ref by1), .val (.int (2 : Int32)), .val (.int P0), .val (.int P1), .val (.int P2), .val (.int P3), .unset, .unset, .unset] []))
    refine Fin.step (fun _ => XS.iload Xy5.here hx rfl (hb hby at_66) rfl) ?_
    show Fin p e below s _ _ _ (Ty5.setTop (mkF m 68 #[.val (.long qa), .second, .val (.long qb), .second, .val (.long qc), .second, .val (.long qd), .second, .val (.int kx), .val (.ref by1), .val (.int (2 : Int32)), .val (.int P0), .val (.int P1), .val (.int P2), .val (.int P3), .unset, .unset, .unset] [(.int (2 : Int32))]))
    obtain ⟨Ty24, hy24, ky24, Xy24, ey24, Ey24, Ay24, sty24⟩ := newP Xy5 hx hZ (hw _ (List.mem_of_getElem? (i := 1) rfl)) ey5 (g := (mkF m 68 #[.val (.long qa), .second, .val (.long qb), .second, .val (.long qc), .second, .val (.long qd), .second, .val (.int kx), .val (.ref by1), .val (.int (2 : Int32)), .val (.int P0), .val (.int P1), .val (.int P2), .val (.int P3), .unset, .unset, .unset] [(.int (2 : Int32))])) rfl (hb hby at_68) rfl (by decide) (cap := 2) (by decide) (by decide) (by decide) (by decide)
    obtain ⟨by24, gy24⟩ : ∃ z, z = hy5.size := ⟨_, rfl⟩
    rw [← gy24] at Ay24 sty24
    have gzy24 : n0 ≤ by24 := Nat.le_trans Zy5 (Nat.le_of_eq gy24.symm)
    have szy24 : h0.size ≤ by24 := Nat.le_trans Ky5.1 (Nat.le_of_eq gy24.symm)
    have Zy24 : n0 ≤ hy24.size := Nat.le_trans Zy5 Ey24.1
    have Ky24 : Keep h0 hy24 [] := Ky5.ext Ey24
    have Vy24 : Arv Z hy24 by24 ky24 .int (2 : Int32) [(.int (0 : Int32)), (.int (0 : Int32))] (.int (0 : Int32)) := (Arv.new Ay24 (by decide)).pad (pad_rep [] (.int (0 : Int32)) 2)
    refine Fin.step (sty24) ?_
    show Fin p e below s _ _ _ (Ty24.setTop (mkF m 70 #[.val (.long qa), .second, .val (.long qb), .second, .val (.long qc), .second, .val (.long qd), .second, .val (.int kx), .val (.ref by1), .val (.int (2 : Int32)), .val (.int P0), .val (.int P1), .val (.int P2), .val (.int P3), .unset, .unset, .unset] [(.ref by24)]))
    refine Fin.step (fun _ => XS.astore Xy24.here hx rfl (hb hby at_70) rfl rfl (l' := #[.val (.long qa), .second, .val (.long qb), .second, .val (.long qc), .second, .val (.long qd), .second, .val (.int kx), .val (.ref by1), .val (.int (2 : Int32)), .val (.int P0), .val (.int P1), .val (.int P2), .val (.int P3), .val (.ref by24), .unset, .unset]) rfl) ?_
    show Fin p e below s _ _ _ (Ty24.setTop (mkF m 72 #[.val (.long qa), .second, .val (.long qb), .second, .val (.long qc), .second, .val (.long qd), .second, .val (.int kx), .val (.ref by1), .val (.int (2 : Int32)), .val (.int P0), .val (.int P1), .val (.int P2), .val (.int P3), .val (.ref by24), .unset, .unset] []))
    refine Fin.step (fun _ => XS.iload Xy24.here hx rfl (hb hby at_72) rfl) ?_
    show Fin p e below s _ _ _ (Ty24.setTop (mkF m 74 #[.val (.long qa), .second, .val (.long qb), .second, .val (.long qc), .second, .val (.long qd), .second, .val (.int kx), .val (.ref by1), .val (.int (2 : Int32)), .val (.int P0), .val (.int P1), .val (.int P2), .val (.int P3), .val (.ref by24), .unset, .unset] [(.int (2 : Int32))]))
    refine Fin.step (fun _ => XS.ifNo Xy24.here hx rfl (hb hby at_74) rfl ((if0 _ _).trans (tlt ((by decide) : ((0 : Int32) < (2 : Int32)))).2.2.2)) ?_
    show Fin p e below s _ _ _ (Ty24.setTop (mkF m 77 #[.val (.long qa), .second, .val (.long qb), .second, .val (.long qc), .second, .val (.long qd), .second, .val (.int kx), .val (.ref by1), .val (.int (2 : Int32)), .val (.int P0), .val (.int P1), .val (.int P2), .val (.int P3), .val (.ref by24), .unset, .unset] []))
    refine Fin.step (fun _ => XS.aload Xy24.here hx rfl (hb hby at_77) rfl rfl) ?_
    show Fin p e below s _ _ _ (Ty24.setTop (mkF m 79 #[.val (.long qa), .second, .val (.long qb), .second, .val (.long qc), .second, .val (.long qd), .second, .val (.int kx), .val (.ref by1), .val (.int (2 : Int32)), .val (.int P0), .val (.int P1), .val (.int P2), .val (.int P3), .val (.ref by24), .unset, .unset] [(.ref by24)]))
    refine Fin.step (fun _ => XS.iconst Xy24.here hx rfl (hb hby at_79)) ?_
    show Fin p e below s _ _ _ (Ty24.setTop (mkF m 80 #[.val (.long qa), .second, .val (.long qb), .second, .val (.long qc), .second, .val (.long qd), .second, .val (.int kx), .val (.ref by1), .val (.int (2 : Int32)), .val (.int P0), .val (.int P1), .val (.int P2), .val (.int P3), .val (.ref by24), .unset, .unset] [(.int (0 : Int32)), (.ref by24)]))
    refine Fin.step (fun _ => XS.iload Xy24.here hx rfl (hb hby at_80) rfl) ?_
    show Fin p e below s _ _ _ (Ty24.setTop (mkF m 82 #[.val (.long qa), .second, .val (.long qb), .second, .val (.long qc), .second, .val (.long qd), .second, .val (.int kx), .val (.ref by1), .val (.int (2 : Int32)), .val (.int P0), .val (.int P1), .val (.int P2), .val (.int P3), .val (.ref by24), .unset, .unset] [(.int P0), (.int (0 : Int32)), (.ref by24)]))
    have voy25 := Vy24
    obtain ⟨cly25, Ary25, qay25, say25, nay25, hay25, gay25⟩ := voy25
    obtain ⟨Ty25, hy25, Xy25, ey25, Wy25, sty25⟩ := stI Xy24 hx hZ ey24 Ary25 (j := (0 : Int32)) (inb_of say25 ⟨by decide, by decide⟩) (g := (mkF m 82 #[.val (.long qa), .second, .val (.long qb), .second, .val (.long qc), .second, .val (.long qd), .second, .val (.int kx), .val (.ref by1), .val (.int (2 : Int32)), .val (.int P0), .val (.int P1), .val (.int P2), .val (.int P3), .val (.ref by24), .unset, .unset] [(.int P0), (.int (0 : Int32)), (.ref by24)])) rfl rfl (hb hby at_82)
    have Vy25 : Arv Z hy25 by24 ky24 .int (2 : Int32) [(.int P0), (.int (0 : Int32))] (.int (0 : Int32)) := Arv.set Ary25 qay25 say25 nay25 hay25 gay25 rfl Wy25 0 rfl (Nat.le_of_ble_eq_true rfl)
    have Zy25 : n0 ≤ hy25.size := Nat.le_trans Zy24 (Keep.of_wr Wy25).1
    have Ky25 : Keep h0 hy25 [] := Ky24.wr Wy25 (Or.inr szy24)
    have Ny25 := Fr.snoc Xy25 Ny5 gzy24
    refine Fin.step (sty25) ?_
    show Fin p e below s _ _ _ (Ty25.setTop (mkF m 83 #[.val (.long qa), .second, .val (.long qb), .second, .val (.long qc), .second, .val (.long qd), .second, .val (.int kx), .val (.ref by1), .val (.int (2 : Int32)), .val (.int P0), .val (.int P1), .val (.int P2), .val (.int P3), .val (.ref by24), .unset, .unset] []))
    refine Fin.step (fun _ => XS.iload Xy25.here hx rfl (hb hby at_83) rfl) ?_
    show Fin p e below s _ _ _ (Ty25.setTop (mkF m 85 #[.val (.long qa), .second, .val (.long qb), .second, .val (.long qc), .second, .val (.long qd), .second, .val (.int kx), .val (.ref by1), .val (.int (2 : Int32)), .val (.int P0), .val (.int P1), .val (.int P2), .val (.int P3), .val (.ref by24), .unset, .unset] [(.int (2 : Int32))]))
    refine Fin.step (fun _ => XS.iconst Xy25.here hx rfl (hb hby at_85)) ?_
    show Fin p e below s _ _ _ (Ty25.setTop (mkF m 86 #[.val (.long qa), .second, .val (.long qb), .second, .val (.long qc), .second, .val (.long qd), .second, .val (.int kx), .val (.ref by1), .val (.int (2 : Int32)), .val (.int P0), .val (.int P1), .val (.int P2), .val (.int P3), .val (.ref by24), .unset, .unset] [(.int (1 : Int32)), (.int (2 : Int32))]))
    refine Fin.step (fun _ => XS.icmpNo Xy25.here hx rfl (hb hby at_86) rfl (tlt ((by decide) : ((1 : Int32) < (2 : Int32)))).2.2.2) ?_
    show Fin p e below s _ _ _ (Ty25.setTop (mkF m 89 #[.val (.long qa), .second, .val (.long qb), .second, .val (.long qc), .second, .val (.long qd), .second, .val (.int kx), .val (.ref by1), .val (.int (2 : Int32)), .val (.int P0), .val (.int P1), .val (.int P2), .val (.int P3), .val (.ref by24), .unset, .unset] []))
    refine Fin.step (fun _ => XS.aload Xy25.here hx rfl (hb hby at_89) rfl rfl) ?_
    show Fin p e below s _ _ _ (Ty25.setTop (mkF m 91 #[.val (.long qa), .second, .val (.long qb), .second, .val (.long qc), .second, .val (.long qd), .second, .val (.int kx), .val (.ref by1), .val (.int (2 : Int32)), .val (.int P0), .val (.int P1), .val (.int P2), .val (.int P3), .val (.ref by24), .unset, .unset] [(.ref by24)]))
    refine Fin.step (fun _ => XS.iconst Xy25.here hx rfl (hb hby at_91)) ?_
    show Fin p e below s _ _ _ (Ty25.setTop (mkF m 92 #[.val (.long qa), .second, .val (.long qb), .second, .val (.long qc), .second, .val (.long qd), .second, .val (.int kx), .val (.ref by1), .val (.int (2 : Int32)), .val (.int P0), .val (.int P1), .val (.int P2), .val (.int P3), .val (.ref by24), .unset, .unset] [(.int (1 : Int32)), (.ref by24)]))
    refine Fin.step (fun _ => XS.iload Xy25.here hx rfl (hb hby at_92) rfl) ?_
    show Fin p e below s _ _ _ (Ty25.setTop (mkF m 94 #[.val (.long qa), .second, .val (.long qb), .second, .val (.long qc), .second, .val (.long qd), .second, .val (.int kx), .val (.ref by1), .val (.int (2 : Int32)), .val (.int P0), .val (.int P1), .val (.int P2), .val (.int P3), .val (.ref by24), .unset, .unset] [(.int P1), (.int (1 : Int32)), (.ref by24)]))
    have voy26 := Vy25
    obtain ⟨cly26, Ary26, qay26, say26, nay26, hay26, gay26⟩ := voy26
    obtain ⟨Ty26, hy26, Xy26, ey26, Wy26, sty26⟩ := stI Xy25 hx hZ ey25 Ary26 (j := (1 : Int32)) (inb_of say26 ⟨by decide, by decide⟩) (g := (mkF m 94 #[.val (.long qa), .second, .val (.long qb), .second, .val (.long qc), .second, .val (.long qd), .second, .val (.int kx), .val (.ref by1), .val (.int (2 : Int32)), .val (.int P0), .val (.int P1), .val (.int P2), .val (.int P3), .val (.ref by24), .unset, .unset] [(.int P1), (.int (1 : Int32)), (.ref by24)])) rfl rfl (hb hby at_94)
    have Vy26 : Arv Z hy26 by24 ky24 .int (2 : Int32) [(.int P0), (.int P1)] (.int (0 : Int32)) := Arv.set Ary26 qay26 say26 nay26 hay26 gay26 rfl Wy26 1 rfl (Nat.le_of_ble_eq_true rfl)
    have Zy26 : n0 ≤ hy26.size := Nat.le_trans Zy25 (Keep.of_wr Wy26).1
    have Ky26 : Keep h0 hy26 [] := Ky25.wr Wy26 (Or.inr szy24)
    have Ny26 := Fr.snoc Xy26 Ny25 gzy24
    refine Fin.step (sty26) ?_
    show Fin p e below s _ _ _ (Ty26.setTop (mkF m 95 #[.val (.long qa), .second, .val (.long qb), .second, .val (.long qc), .second, .val (.long qd), .second, .val (.int kx), .val (.ref by1), .val (.int (2 : Int32)), .val (.int P0), .val (.int P1), .val (.int P2), .val (.int P3), .val (.ref by24), .unset, .unset] []))
    refine Fin.step (fun _ => XS.iload Xy26.here hx rfl (hb hby at_95) rfl) ?_
    show Fin p e below s _ _ _ (Ty26.setTop (mkF m 97 #[.val (.long qa), .second, .val (.long qb), .second, .val (.long qc), .second, .val (.long qd), .second, .val (.int kx), .val (.ref by1), .val (.int (2 : Int32)), .val (.int P0), .val (.int P1), .val (.int P2), .val (.int P3), .val (.ref by24), .unset, .unset] [(.int (2 : Int32))]))
    refine Fin.step (fun _ => XS.iconst Xy26.here hx rfl (hb hby at_97)) ?_
    show Fin p e below s _ _ _ (Ty26.setTop (mkF m 98 #[.val (.long qa), .second, .val (.long qb), .second, .val (.long qc), .second, .val (.long qd), .second, .val (.int kx), .val (.ref by1), .val (.int (2 : Int32)), .val (.int P0), .val (.int P1), .val (.int P2), .val (.int P3), .val (.ref by24), .unset, .unset] [(.int (2 : Int32)), (.int (2 : Int32))]))
    refine Fin.step (fun _ => XS.icmpYes Xy26.here hx rfl (pc0 := 98) (pc' := 107) rfl (hb hby at_98) rfl (flt ((by decide) : ¬ ((2 : Int32) < (2 : Int32)))).2.2.2 (by decide) (by decide)) ?_
    show Fin p e below s _ _ _ (Ty26.setTop (mkF m 107 #[.val (.long qa), .second, .val (.long qb), .second, .val (.long qc), .second, .val (.long qd), .second, .val (.int kx), .val (.ref by1), .val (.int (2 : Int32)), .val (.int P0), .val (.int P1), .val (.int P2), .val (.int P3), .val (.ref by24), .unset, .unset] []))
    refine Fin.step (fun _ => XS.iload Xy26.here hx rfl (hb hby at_107) rfl) ?_
    show Fin p e below s _ _ _ (Ty26.setTop (mkF m 109 #[.val (.long qa), .second, .val (.long qb), .second, .val (.long qc), .second, .val (.long qd), .second, .val (.int kx), .val (.ref by1), .val (.int (2 : Int32)), .val (.int P0), .val (.int P1), .val (.int P2), .val (.int P3), .val (.ref by24), .unset, .unset] [(.int (2 : Int32))]))
    refine Fin.step (fun _ => XS.iconst Xy26.here hx rfl (hb hby at_109)) ?_
    show Fin p e below s _ _ _ (Ty26.setTop (mkF m 110 #[.val (.long qa), .second, .val (.long qb), .second, .val (.long qc), .second, .val (.long qd), .second, .val (.int kx), .val (.ref by1), .val (.int (2 : Int32)), .val (.int P0), .val (.int P1), .val (.int P2), .val (.int P3), .val (.ref by24), .unset, .unset] [(.int (3 : Int32)), (.int (2 : Int32))]))
    refine Fin.step (fun _ => XS.icmpYes Xy26.here hx rfl (pc0 := 110) (pc' := 119) rfl (hb hby at_110) rfl (flt ((by decide) : ¬ ((3 : Int32) < (2 : Int32)))).2.2.2 (by decide) (by decide)) ?_
    show Fin p e below s _ _ _ (Ty26.setTop (mkF m 119 #[.val (.long qa), .second, .val (.long qb), .second, .val (.long qc), .second, .val (.long qd), .second, .val (.int kx), .val (.ref by1), .val (.int (2 : Int32)), .val (.int P0), .val (.int P1), .val (.int P2), .val (.int P3), .val (.ref by24), .unset, .unset] []))
    refine Fin.step (fun _ => XS.aload Xy26.here hx rfl (hb hby at_119) rfl rfl) ?_
    show Fin p e below s _ _ _ (Ty26.setTop (mkF m 121 #[.val (.long qa), .second, .val (.long qb), .second, .val (.long qc), .second, .val (.long qd), .second, .val (.int kx), .val (.ref by1), .val (.int (2 : Int32)), .val (.int P0), .val (.int P1), .val (.int P2), .val (.int P3), .val (.ref by24), .unset, .unset] [(.ref by1)]))
    refine Fin.step (fun _ => XS.aload Xy26.here hx rfl (hb hby at_121) rfl rfl) ?_
    show Fin p e below s _ _ _ (Ty26.setTop (mkF m 123 #[.val (.long qa), .second, .val (.long qb), .second, .val (.long qc), .second, .val (.long qd), .second, .val (.int kx), .val (.ref by1), .val (.int (2 : Int32)), .val (.int P0), .val (.int P1), .val (.int P2), .val (.int P3), .val (.ref by24), .unset, .unset] [(.ref by24), (.ref by1)]))
    obtain ⟨_, _, ⟨Ty27, Ly27, ky27, ny27⟩, -, Xy27, ⟨Lcy27, hQy27, ly27, yy27, zy27⟩, sty27⟩ := Jvm.LawKit.callS Xy26 hx (y := (⟨"com/example/uzor/uzor/Row", "pick", "([J[I)[J"⟩ : MethodName)) hown (mvT hZ (hw _ (List.mem_of_getElem? (i := 2) rfl))) (mvT hZ (hw _ (List.mem_of_getElem? (i := 3) rfl))) (mvT hZ (hw _ (List.mem_of_getElem? (i := 4) rfl))) (mvT hZ (hw _ (List.mem_of_getElem? (i := 5) rfl))) (by decide) (backOf (W := 0) (rmp2 l Z a0 hw [] by1 by24 ky1 ky24 qa qb qc qd P0 P1 hy26 n0 Zy26 (((Vy5.ext Ey24).other Wy25 (Nat.ne_of_lt (Nat.lt_of_lt_of_le Vy5.lt (Nat.le_of_eq gy24.symm)))).other Wy26 (Nat.ne_of_lt (Nat.lt_of_lt_of_le Vy5.lt (Nat.le_of_eq gy24.symm)))) Vy26 r0 r1) hZ (hw _ (List.mem_of_getElem? (i := 5) rfl)) (hw _ (List.mem_of_getElem? (i := 4) rfl)) (by decide) (by decide)) (g := (mkF m 123 #[.val (.long qa), .second, .val (.long qb), .second, .val (.long qc), .second, .val (.long qd), .second, .val (.int kx), .val (.ref by1), .val (.int (2 : Int32)), .val (.int P0), .val (.int P1), .val (.int P2), .val (.int P3), .val (.ref by24), .unset, .unset] [(.ref by24), (.ref by1)])) rfl (by rw [hml]; rfl) (argsL := [(.ref by1), (.ref by24)]) (rest := []) (lenOf pd_0 rfl) rfl (by show 2 * 0 + _ ≤ _; exact Nat.le_of_eq rfl) (hb hby at_123) (fun _ _ => ⟨rfl, ey26, (by decide : 2 + 1 ≤ _), (by decide : 6 + 2 ≤ _)⟩)
    dsimp only [Pt.U, Pt.locs, Pt.cells, Pt.slots] at Xy27 ly27 yy27 zy27 sty27 hQy27
    subst ly27 yy27 zy27
    obtain ⟨kk_y27, by27, rfl, bzy27, Nqy27, Kcy27, fy27_0⟩ := hQy27
    have Ny27 := Fr.app Ny26 Nqy27
    have gzy27 : n0 ≤ by27 := Nat.le_trans Zy26 bzy27
    have szy27 : h0.size ≤ by27 := Nat.le_trans Ky26.1 bzy27
    have Zy27 : n0 ≤ Ty27.heap.size := Nat.le_trans Zy26 Kcy27.1
    have Ky27 : Keep h0 Ty27.heap [] := Ky26.trans Kcy27 all0
    refine Fin.step (sty27) ?_
    show Fin p e below s _ _ _ (Ty27.setTop (mkF m 126 #[.val (.long qa), .second, .val (.long qb), .second, .val (.long qc), .second, .val (.long qd), .second, .val (.int kx), .val (.ref by1), .val (.int (2 : Int32)), .val (.int P0), .val (.int P1), .val (.int P2), .val (.int P3), .val (.ref by24), .unset, .unset] [(.ref by27)]))
    refine Fin.step (fun _ => XS.astore Xy27.here hx rfl (hb hby at_126) rfl rfl (l' := #[.val (.long qa), .second, .val (.long qb), .second, .val (.long qc), .second, .val (.long qd), .second, .val (.int kx), .val (.ref by1), .val (.int (2 : Int32)), .val (.int P0), .val (.int P1), .val (.int P2), .val (.int P3), .val (.ref by24), .val (.ref by27), .unset]) rfl) ?_
    show Fin p e below s _ _ _ (Ty27.setTop (mkF m 128 #[.val (.long qa), .second, .val (.long qb), .second, .val (.long qc), .second, .val (.long qd), .second, .val (.int kx), .val (.ref by1), .val (.int (2 : Int32)), .val (.int P0), .val (.int P1), .val (.int P2), .val (.int P3), .val (.ref by24), .val (.ref by27), .unset] []))
    refine Fin.step (fun _ => XS.aload Xy27.here hx rfl (hb hby at_128) rfl rfl) ?_
    show Fin p e below s _ _ _ (Ty27.setTop (mkF m 130 #[.val (.long qa), .second, .val (.long qb), .second, .val (.long qc), .second, .val (.long qd), .second, .val (.int kx), .val (.ref by1), .val (.int (2 : Int32)), .val (.int P0), .val (.int P1), .val (.int P2), .val (.int P3), .val (.ref by24), .val (.ref by27), .unset] [(.ref by27)]))
    refine Fin.step (fun _ => XS.ifnullNo Xy27.here hx rfl (hb hby at_130) rfl) ?_
    show Fin p e below s _ _ _ (Ty27.setTop (mkF m 133 #[.val (.long qa), .second, .val (.long qb), .second, .val (.long qc), .second, .val (.long qd), .second, .val (.int kx), .val (.ref by1), .val (.int (2 : Int32)), .val (.int P0), .val (.int P1), .val (.int P2), .val (.int P3), .val (.ref by24), .val (.ref by27), .unset] []))
    refine Fin.step (fun _ => XS.aload Xy27.here hx rfl (hb hby at_133) rfl rfl) ?_
    show Fin p e below s _ _ _ (Ty27.setTop (mkF m 135 #[.val (.long qa), .second, .val (.long qb), .second, .val (.long qc), .second, .val (.long qd), .second, .val (.int kx), .val (.ref by1), .val (.int (2 : Int32)), .val (.int P0), .val (.int P1), .val (.int P2), .val (.int P3), .val (.ref by24), .val (.ref by27), .unset] [(.ref by27)]))
    have voy28 := fy27_0
    obtain ⟨cly28, Ary28, qay28, say28, nay28, hay28, gay28⟩ := voy28
    refine Fin.step (Xy27.arraylength hx Ary28.1 (State.isArrayOf_alike hZ.alike Ary28.2.1) (g := (mkF m 135 #[.val (.long qa), .second, .val (.long qb), .second, .val (.long qc), .second, .val (.long qd), .second, .val (.int kx), .val (.ref by1), .val (.int (2 : Int32)), .val (.int P0), .val (.int P1), .val (.int P2), .val (.int P3), .val (.ref by24), .val (.ref by27), .unset] [(.ref by27)])) rfl rfl (hb hby at_135)) ?_
    rw [len_of say28 nay28]
    show Fin p e below s _ _ _ (Ty27.setTop (mkF m 136 #[.val (.long qa), .second, .val (.long qb), .second, .val (.long qc), .second, .val (.long qd), .second, .val (.int kx), .val (.ref by1), .val (.int (2 : Int32)), .val (.int P0), .val (.int P1), .val (.int P2), .val (.int P3), .val (.ref by24), .val (.ref by27), .unset] [(.int (2 : Int32))]))
    refine Fin.step (fun _ => XS.iload Xy27.here hx rfl (hb hby at_136) rfl) ?_
    show Fin p e below s _ _ _ (Ty27.setTop (mkF m 138 #[.val (.long qa), .second, .val (.long qb), .second, .val (.long qc), .second, .val (.long qd), .second, .val (.int kx), .val (.ref by1), .val (.int (2 : Int32)), .val (.int P0), .val (.int P1), .val (.int P2), .val (.int P3), .val (.ref by24), .val (.ref by27), .unset] [(.int (2 : Int32)), (.int (2 : Int32))]))
    refine Fin.step (fun _ => XS.icmpYes Xy27.here hx rfl (pc0 := 138) (pc' := 143) rfl (hb hby at_138) rfl (teq ((by decide) : ((2 : Int32) = (2 : Int32)))).1 (by decide) (by decide)) ?_
    show Fin p e below s _ _ _ (Ty27.setTop (mkF m 143 #[.val (.long qa), .second, .val (.long qb), .second, .val (.long qc), .second, .val (.long qd), .second, .val (.int kx), .val (.ref by1), .val (.int (2 : Int32)), .val (.int P0), .val (.int P1), .val (.int P2), .val (.int P3), .val (.ref by24), .val (.ref by27), .unset] []))
    refine Fin.step (fun _ => XS.aload Xy27.here hx rfl (hb hby at_143) rfl rfl) ?_
    show Fin p e below s _ _ _ (Ty27.setTop (mkF m 145 #[.val (.long qa), .second, .val (.long qb), .second, .val (.long qc), .second, .val (.long qd), .second, .val (.int kx), .val (.ref by1), .val (.int (2 : Int32)), .val (.int P0), .val (.int P1), .val (.int P2), .val (.int P3), .val (.ref by24), .val (.ref by27), .unset] [(.ref by1)]))
    refine Fin.step (fun _ => XS.iconst Xy27.here hx rfl (hb hby at_145)) ?_
    show Fin p e below s _ _ _ (Ty27.setTop (mkF m 146 #[.val (.long qa), .second, .val (.long qb), .second, .val (.long qc), .second, .val (.long qd), .second, .val (.int kx), .val (.ref by1), .val (.int (2 : Int32)), .val (.int P0), .val (.int P1), .val (.int P2), .val (.int P3), .val (.ref by24), .val (.ref by27), .unset] [(.int (0 : Int32)), (.ref by1)]))
    have voy29 := ((((Vy5.ext Ey24).other Wy25 (Nat.ne_of_lt (Nat.lt_of_lt_of_le Vy5.lt (Nat.le_of_eq gy24.symm)))).other Wy26 (Nat.ne_of_lt (Nat.lt_of_lt_of_le Vy5.lt (Nat.le_of_eq gy24.symm)))).keep Kcy27 nin0)
    obtain ⟨cly29, Ary29, qay29, say29, nay29, hay29, gay29⟩ := voy29
    have iny29 := inb_of (j := (0 : Int32)) say29 ⟨by decide, by decide⟩
    refine Fin.step (Xy27.laload hx (j := (0 : Int32)) (v := (.long qa)) Ary29.1 (State.isArrayOf_alike hZ.alike Ary29.2.1) Ary29.2.2 iny29 (hay29.at iny29 rfl) (g := (mkF m 146 #[.val (.long qa), .second, .val (.long qb), .second, .val (.long qc), .second, .val (.long qd), .second, .val (.int kx), .val (.ref by1), .val (.int (2 : Int32)), .val (.int P0), .val (.int P1), .val (.int P2), .val (.int P3), .val (.ref by24), .val (.ref by27), .unset] [(.int (0 : Int32)), (.ref by1)])) rfl rfl (hb hby at_146)) ?_
    show Fin p e below s _ _ _ (Ty27.setTop (mkF m 147 #[.val (.long qa), .second, .val (.long qb), .second, .val (.long qc), .second, .val (.long qd), .second, .val (.int kx), .val (.ref by1), .val (.int (2 : Int32)), .val (.int P0), .val (.int P1), .val (.int P2), .val (.int P3), .val (.ref by24), .val (.ref by27), .unset] [(.long qa)]))
    refine Fin.step (fun _ => XS.lloadN Xy27.here hx rfl (hb hby at_147) rfl) ?_
    show Fin p e below s _ _ _ (Ty27.setTop (mkF m 148 #[.val (.long qa), .second, .val (.long qb), .second, .val (.long qc), .second, .val (.long qd), .second, .val (.int kx), .val (.ref by1), .val (.int (2 : Int32)), .val (.int P0), .val (.int P1), .val (.int P2), .val (.int P3), .val (.ref by24), .val (.ref by27), .unset] [(.long qa), (.long qa)]))
    refine Fin.step (fun _ => XS.lcmp Xy27.here hx rfl (hb hby at_148) rfl) ?_
    show Fin p e below s _ _ _ (Ty27.setTop (mkF m 149 #[.val (.long qa), .second, .val (.long qb), .second, .val (.long qc), .second, .val (.long qd), .second, .val (.int kx), .val (.ref by1), .val (.int (2 : Int32)), .val (.int P0), .val (.int P1), .val (.int P2), .val (.int P3), .val (.ref by24), .val (.ref by27), .unset] [(.int (lcmpW qa qa))]))
    refine Fin.step (fun _ => XS.ifNo Xy27.here hx rfl (hb hby at_149) rfl ((if0 _ _).trans (teq ((lcE rfl) : ((lcmpW qa qa) = (0 : Int32)))).2)) ?_
    show Fin p e below s _ _ _ (Ty27.setTop (mkF m 152 #[.val (.long qa), .second, .val (.long qb), .second, .val (.long qc), .second, .val (.long qd), .second, .val (.int kx), .val (.ref by1), .val (.int (2 : Int32)), .val (.int P0), .val (.int P1), .val (.int P2), .val (.int P3), .val (.ref by24), .val (.ref by27), .unset] []))
    refine Fin.step (fun _ => XS.aload Xy27.here hx rfl (hb hby at_152) rfl rfl) ?_
    show Fin p e below s _ _ _ (Ty27.setTop (mkF m 154 #[.val (.long qa), .second, .val (.long qb), .second, .val (.long qc), .second, .val (.long qd), .second, .val (.int kx), .val (.ref by1), .val (.int (2 : Int32)), .val (.int P0), .val (.int P1), .val (.int P2), .val (.int P3), .val (.ref by24), .val (.ref by27), .unset] [(.ref by1)]))
    refine Fin.step (fun _ => XS.iconst Xy27.here hx rfl (hb hby at_154)) ?_
    show Fin p e below s _ _ _ (Ty27.setTop (mkF m 155 #[.val (.long qa), .second, .val (.long qb), .second, .val (.long qc), .second, .val (.long qd), .second, .val (.int kx), .val (.ref by1), .val (.int (2 : Int32)), .val (.int P0), .val (.int P1), .val (.int P2), .val (.int P3), .val (.ref by24), .val (.ref by27), .unset] [(.int (1 : Int32)), (.ref by1)]))
    have voy30 := ((((Vy5.ext Ey24).other Wy25 (Nat.ne_of_lt (Nat.lt_of_lt_of_le Vy5.lt (Nat.le_of_eq gy24.symm)))).other Wy26 (Nat.ne_of_lt (Nat.lt_of_lt_of_le Vy5.lt (Nat.le_of_eq gy24.symm)))).keep Kcy27 nin0)
    obtain ⟨cly30, Ary30, qay30, say30, nay30, hay30, gay30⟩ := voy30
    have iny30 := inb_of (j := (1 : Int32)) say30 ⟨by decide, by decide⟩
    refine Fin.step (Xy27.laload hx (j := (1 : Int32)) (v := (.long qb)) Ary30.1 (State.isArrayOf_alike hZ.alike Ary30.2.1) Ary30.2.2 iny30 (hay30.at iny30 rfl) (g := (mkF m 155 #[.val (.long qa), .second, .val (.long qb), .second, .val (.long qc), .second, .val (.long qd), .second, .val (.int kx), .val (.ref by1), .val (.int (2 : Int32)), .val (.int P0), .val (.int P1), .val (.int P2), .val (.int P3), .val (.ref by24), .val (.ref by27), .unset] [(.int (1 : Int32)), (.ref by1)])) rfl rfl (hb hby at_155)) ?_
    show Fin p e below s _ _ _ (Ty27.setTop (mkF m 156 #[.val (.long qa), .second, .val (.long qb), .second, .val (.long qc), .second, .val (.long qd), .second, .val (.int kx), .val (.ref by1), .val (.int (2 : Int32)), .val (.int P0), .val (.int P1), .val (.int P2), .val (.int P3), .val (.ref by24), .val (.ref by27), .unset] [(.long qb)]))
    refine Fin.step (fun _ => XS.lloadN Xy27.here hx rfl (hb hby at_156) rfl) ?_
    show Fin p e below s _ _ _ (Ty27.setTop (mkF m 157 #[.val (.long qa), .second, .val (.long qb), .second, .val (.long qc), .second, .val (.long qd), .second, .val (.int kx), .val (.ref by1), .val (.int (2 : Int32)), .val (.int P0), .val (.int P1), .val (.int P2), .val (.int P3), .val (.ref by24), .val (.ref by27), .unset] [(.long qb), (.long qb)]))
    refine Fin.step (fun _ => XS.lcmp Xy27.here hx rfl (hb hby at_157) rfl) ?_
    show Fin p e below s _ _ _ (Ty27.setTop (mkF m 158 #[.val (.long qa), .second, .val (.long qb), .second, .val (.long qc), .second, .val (.long qd), .second, .val (.int kx), .val (.ref by1), .val (.int (2 : Int32)), .val (.int P0), .val (.int P1), .val (.int P2), .val (.int P3), .val (.ref by24), .val (.ref by27), .unset] [(.int (lcmpW qb qb))]))
    refine Fin.step (fun _ => XS.ifNo Xy27.here hx rfl (hb hby at_158) rfl ((if0 _ _).trans (teq ((lcE rfl) : ((lcmpW qb qb) = (0 : Int32)))).2)) ?_
    show Fin p e below s _ _ _ (Ty27.setTop (mkF m 161 #[.val (.long qa), .second, .val (.long qb), .second, .val (.long qc), .second, .val (.long qd), .second, .val (.int kx), .val (.ref by1), .val (.int (2 : Int32)), .val (.int P0), .val (.int P1), .val (.int P2), .val (.int P3), .val (.ref by24), .val (.ref by27), .unset] []))
    refine Fin.step (fun _ => XS.aload Xy27.here hx rfl (hb hby at_161) rfl rfl) ?_
    show Fin p e below s _ _ _ (Ty27.setTop (mkF m 163 #[.val (.long qa), .second, .val (.long qb), .second, .val (.long qc), .second, .val (.long qd), .second, .val (.int kx), .val (.ref by1), .val (.int (2 : Int32)), .val (.int P0), .val (.int P1), .val (.int P2), .val (.int P3), .val (.ref by24), .val (.ref by27), .unset] [(.ref by1)]))
    refine Fin.step (fun _ => XS.iconst Xy27.here hx rfl (hb hby at_163)) ?_
    show Fin p e below s _ _ _ (Ty27.setTop (mkF m 164 #[.val (.long qa), .second, .val (.long qb), .second, .val (.long qc), .second, .val (.long qd), .second, .val (.int kx), .val (.ref by1), .val (.int (2 : Int32)), .val (.int P0), .val (.int P1), .val (.int P2), .val (.int P3), .val (.ref by24), .val (.ref by27), .unset] [(.int (2 : Int32)), (.ref by1)]))
    have voy31 := ((((Vy5.ext Ey24).other Wy25 (Nat.ne_of_lt (Nat.lt_of_lt_of_le Vy5.lt (Nat.le_of_eq gy24.symm)))).other Wy26 (Nat.ne_of_lt (Nat.lt_of_lt_of_le Vy5.lt (Nat.le_of_eq gy24.symm)))).keep Kcy27 nin0)
    obtain ⟨cly31, Ary31, qay31, say31, nay31, hay31, gay31⟩ := voy31
    have iny31 := inb_of (j := (2 : Int32)) say31 ⟨by decide, by decide⟩
    refine Fin.step (Xy27.laload hx (j := (2 : Int32)) (v := (.long qc)) Ary31.1 (State.isArrayOf_alike hZ.alike Ary31.2.1) Ary31.2.2 iny31 (hay31.at iny31 rfl) (g := (mkF m 164 #[.val (.long qa), .second, .val (.long qb), .second, .val (.long qc), .second, .val (.long qd), .second, .val (.int kx), .val (.ref by1), .val (.int (2 : Int32)), .val (.int P0), .val (.int P1), .val (.int P2), .val (.int P3), .val (.ref by24), .val (.ref by27), .unset] [(.int (2 : Int32)), (.ref by1)])) rfl rfl (hb hby at_164)) ?_
    show Fin p e below s _ _ _ (Ty27.setTop (mkF m 165 #[.val (.long qa), .second, .val (.long qb), .second, .val (.long qc), .second, .val (.long qd), .second, .val (.int kx), .val (.ref by1), .val (.int (2 : Int32)), .val (.int P0), .val (.int P1), .val (.int P2), .val (.int P3), .val (.ref by24), .val (.ref by27), .unset] [(.long qc)]))
    refine Fin.step (fun _ => XS.lload Xy27.here hx rfl (hb hby at_165) rfl) ?_
    show Fin p e below s _ _ _ (Ty27.setTop (mkF m 167 #[.val (.long qa), .second, .val (.long qb), .second, .val (.long qc), .second, .val (.long qd), .second, .val (.int kx), .val (.ref by1), .val (.int (2 : Int32)), .val (.int P0), .val (.int P1), .val (.int P2), .val (.int P3), .val (.ref by24), .val (.ref by27), .unset] [(.long qc), (.long qc)]))
    refine Fin.step (fun _ => XS.lcmp Xy27.here hx rfl (hb hby at_167) rfl) ?_
    show Fin p e below s _ _ _ (Ty27.setTop (mkF m 168 #[.val (.long qa), .second, .val (.long qb), .second, .val (.long qc), .second, .val (.long qd), .second, .val (.int kx), .val (.ref by1), .val (.int (2 : Int32)), .val (.int P0), .val (.int P1), .val (.int P2), .val (.int P3), .val (.ref by24), .val (.ref by27), .unset] [(.int (lcmpW qc qc))]))
    refine Fin.step (fun _ => XS.ifNo Xy27.here hx rfl (hb hby at_168) rfl ((if0 _ _).trans (teq ((lcE rfl) : ((lcmpW qc qc) = (0 : Int32)))).2)) ?_
    show Fin p e below s _ _ _ (Ty27.setTop (mkF m 171 #[.val (.long qa), .second, .val (.long qb), .second, .val (.long qc), .second, .val (.long qd), .second, .val (.int kx), .val (.ref by1), .val (.int (2 : Int32)), .val (.int P0), .val (.int P1), .val (.int P2), .val (.int P3), .val (.ref by24), .val (.ref by27), .unset] []))
    refine Fin.step (fun _ => XS.aload Xy27.here hx rfl (hb hby at_171) rfl rfl) ?_
    show Fin p e below s _ _ _ (Ty27.setTop (mkF m 173 #[.val (.long qa), .second, .val (.long qb), .second, .val (.long qc), .second, .val (.long qd), .second, .val (.int kx), .val (.ref by1), .val (.int (2 : Int32)), .val (.int P0), .val (.int P1), .val (.int P2), .val (.int P3), .val (.ref by24), .val (.ref by27), .unset] [(.ref by1)]))
    refine Fin.step (fun _ => XS.iconst Xy27.here hx rfl (hb hby at_173)) ?_
    show Fin p e below s _ _ _ (Ty27.setTop (mkF m 174 #[.val (.long qa), .second, .val (.long qb), .second, .val (.long qc), .second, .val (.long qd), .second, .val (.int kx), .val (.ref by1), .val (.int (2 : Int32)), .val (.int P0), .val (.int P1), .val (.int P2), .val (.int P3), .val (.ref by24), .val (.ref by27), .unset] [(.int (3 : Int32)), (.ref by1)]))
    have voy32 := ((((Vy5.ext Ey24).other Wy25 (Nat.ne_of_lt (Nat.lt_of_lt_of_le Vy5.lt (Nat.le_of_eq gy24.symm)))).other Wy26 (Nat.ne_of_lt (Nat.lt_of_lt_of_le Vy5.lt (Nat.le_of_eq gy24.symm)))).keep Kcy27 nin0)
    obtain ⟨cly32, Ary32, qay32, say32, nay32, hay32, gay32⟩ := voy32
    have iny32 := inb_of (j := (3 : Int32)) say32 ⟨by decide, by decide⟩
    refine Fin.step (Xy27.laload hx (j := (3 : Int32)) (v := (.long qd)) Ary32.1 (State.isArrayOf_alike hZ.alike Ary32.2.1) Ary32.2.2 iny32 (hay32.at iny32 rfl) (g := (mkF m 174 #[.val (.long qa), .second, .val (.long qb), .second, .val (.long qc), .second, .val (.long qd), .second, .val (.int kx), .val (.ref by1), .val (.int (2 : Int32)), .val (.int P0), .val (.int P1), .val (.int P2), .val (.int P3), .val (.ref by24), .val (.ref by27), .unset] [(.int (3 : Int32)), (.ref by1)])) rfl rfl (hb hby at_174)) ?_
    show Fin p e below s _ _ _ (Ty27.setTop (mkF m 175 #[.val (.long qa), .second, .val (.long qb), .second, .val (.long qc), .second, .val (.long qd), .second, .val (.int kx), .val (.ref by1), .val (.int (2 : Int32)), .val (.int P0), .val (.int P1), .val (.int P2), .val (.int P3), .val (.ref by24), .val (.ref by27), .unset] [(.long qd)]))
    refine Fin.step (fun _ => XS.lload Xy27.here hx rfl (hb hby at_175) rfl) ?_
    show Fin p e below s _ _ _ (Ty27.setTop (mkF m 177 #[.val (.long qa), .second, .val (.long qb), .second, .val (.long qc), .second, .val (.long qd), .second, .val (.int kx), .val (.ref by1), .val (.int (2 : Int32)), .val (.int P0), .val (.int P1), .val (.int P2), .val (.int P3), .val (.ref by24), .val (.ref by27), .unset] [(.long qd), (.long qd)]))
    refine Fin.step (fun _ => XS.lcmp Xy27.here hx rfl (hb hby at_177) rfl) ?_
    show Fin p e below s _ _ _ (Ty27.setTop (mkF m 178 #[.val (.long qa), .second, .val (.long qb), .second, .val (.long qc), .second, .val (.long qd), .second, .val (.int kx), .val (.ref by1), .val (.int (2 : Int32)), .val (.int P0), .val (.int P1), .val (.int P2), .val (.int P3), .val (.ref by24), .val (.ref by27), .unset] [(.int (lcmpW qd qd))]))
    refine Fin.step (fun _ => XS.ifNo Xy27.here hx rfl (hb hby at_178) rfl ((if0 _ _).trans (teq ((lcE rfl) : ((lcmpW qd qd) = (0 : Int32)))).2)) ?_
    show Fin p e below s _ _ _ (Ty27.setTop (mkF m 181 #[.val (.long qa), .second, .val (.long qb), .second, .val (.long qc), .second, .val (.long qd), .second, .val (.int kx), .val (.ref by1), .val (.int (2 : Int32)), .val (.int P0), .val (.int P1), .val (.int P2), .val (.int P3), .val (.ref by24), .val (.ref by27), .unset] []))
    refine Fin.step (fun _ => XS.iconst Xy27.here hx rfl (hb hby at_181)) ?_
    show Fin p e below s _ _ _ (Ty27.setTop (mkF m 182 #[.val (.long qa), .second, .val (.long qb), .second, .val (.long qc), .second, .val (.long qd), .second, .val (.int kx), .val (.ref by1), .val (.int (2 : Int32)), .val (.int P0), .val (.int P1), .val (.int P2), .val (.int P3), .val (.ref by24), .val (.ref by27), .unset] [(.int (1 : Int32))]))
    refine Fin.step (fun _ => XS.goto Xy27.here hx rfl (pc0 := 182) (pc' := 186) rfl (hb hby at_182) (by decide) (by decide)) ?_
    show Fin p e below s _ _ _ (Ty27.setTop (mkF m 186 #[.val (.long qa), .second, .val (.long qb), .second, .val (.long qc), .second, .val (.long qd), .second, .val (.int kx), .val (.ref by1), .val (.int (2 : Int32)), .val (.int P0), .val (.int P1), .val (.int P2), .val (.int P3), .val (.ref by24), .val (.ref by27), .unset] [(.int (1 : Int32))]))
    refine Fin.step (fun _ => XS.istore Xy27.here hx rfl (hb hby at_186) rfl (l' := #[.val (.long qa), .second, .val (.long qb), .second, .val (.long qc), .second, .val (.long qd), .second, .val (.int kx), .val (.ref by1), .val (.int (2 : Int32)), .val (.int P0), .val (.int P1), .val (.int P2), .val (.int P3), .val (.ref by24), .val (.ref by27), .val (.int (1 : Int32))]) rfl) ?_
    show Fin p e below s _ _ _ (Ty27.setTop (mkF m 188 #[.val (.long qa), .second, .val (.long qb), .second, .val (.long qc), .second, .val (.long qd), .second, .val (.int kx), .val (.ref by1), .val (.int (2 : Int32)), .val (.int P0), .val (.int P1), .val (.int P2), .val (.int P3), .val (.ref by24), .val (.ref by27), .val (.int (1 : Int32))] []))
    refine Fin.step (fun _ => XS.iload Xy27.here hx rfl (hb hby at_188) rfl) ?_
    show Fin p e below s _ _ _ (Ty27.setTop (mkF m 190 #[.val (.long qa), .second, .val (.long qb), .second, .val (.long qc), .second, .val (.long qd), .second, .val (.int kx), .val (.ref by1), .val (.int (2 : Int32)), .val (.int P0), .val (.int P1), .val (.int P2), .val (.int P3), .val (.ref by24), .val (.ref by27), .val (.int (1 : Int32))] [(.int (2 : Int32))]))
    refine Fin.step (fun _ => XS.ifNo Xy27.here hx rfl (hb hby at_190) rfl ((if0 _ _).trans (tlt ((by decide) : ((0 : Int32) < (2 : Int32)))).2.2.2)) ?_
    show Fin p e below s _ _ _ (Ty27.setTop (mkF m 193 #[.val (.long qa), .second, .val (.long qb), .second, .val (.long qc), .second, .val (.long qd), .second, .val (.int kx), .val (.ref by1), .val (.int (2 : Int32)), .val (.int P0), .val (.int P1), .val (.int P2), .val (.int P3), .val (.ref by24), .val (.ref by27), .val (.int (1 : Int32))] []))
    refine Fin.step (fun _ => XS.iload Xy27.here hx rfl (hb hby at_193) rfl) ?_
    show Fin p e below s _ _ _ (Ty27.setTop (mkF m 195 #[.val (.long qa), .second, .val (.long qb), .second, .val (.long qc), .second, .val (.long qd), .second, .val (.int kx), .val (.ref by1), .val (.int (2 : Int32)), .val (.int P0), .val (.int P1), .val (.int P2), .val (.int P3), .val (.ref by24), .val (.ref by27), .val (.int (1 : Int32))] [(.int (1 : Int32))]))
    refine Fin.step (fun _ => XS.ifNo Xy27.here hx rfl (hb hby at_195) rfl ((if0 _ _).trans (feq ((by decide) : ¬ ((1 : Int32) = (0 : Int32)))).1)) ?_
    show Fin p e below s _ _ _ (Ty27.setTop (mkF m 198 #[.val (.long qa), .second, .val (.long qb), .second, .val (.long qc), .second, .val (.long qd), .second, .val (.int kx), .val (.ref by1), .val (.int (2 : Int32)), .val (.int P0), .val (.int P1), .val (.int P2), .val (.int P3), .val (.ref by24), .val (.ref by27), .val (.int (1 : Int32))] []))
    refine Fin.step (fun _ => XS.aload Xy27.here hx rfl (hb hby at_198) rfl rfl) ?_
    show Fin p e below s _ _ _ (Ty27.setTop (mkF m 200 #[.val (.long qa), .second, .val (.long qb), .second, .val (.long qc), .second, .val (.long qd), .second, .val (.int kx), .val (.ref by1), .val (.int (2 : Int32)), .val (.int P0), .val (.int P1), .val (.int P2), .val (.int P3), .val (.ref by24), .val (.ref by27), .val (.int (1 : Int32))] [(.ref by24)]))
    refine Fin.step (fun _ => XS.iconst Xy27.here hx rfl (hb hby at_200)) ?_
    show Fin p e below s _ _ _ (Ty27.setTop (mkF m 201 #[.val (.long qa), .second, .val (.long qb), .second, .val (.long qc), .second, .val (.long qd), .second, .val (.int kx), .val (.ref by1), .val (.int (2 : Int32)), .val (.int P0), .val (.int P1), .val (.int P2), .val (.int P3), .val (.ref by24), .val (.ref by27), .val (.int (1 : Int32))] [(.int (0 : Int32)), (.ref by24)]))
    have voy33 := (Vy26.keep Kcy27 nin0)
    obtain ⟨cly33, Ary33, qay33, say33, nay33, hay33, gay33⟩ := voy33
    have iny33 := inb_of (j := (0 : Int32)) say33 ⟨by decide, by decide⟩
    refine Fin.step (Xy27.iaload hx (j := (0 : Int32)) (v := (.int P0)) Ary33.1 (State.isArrayOf_alike hZ.alike Ary33.2.1) Ary33.2.2 iny33 (hay33.at iny33 rfl) (g := (mkF m 201 #[.val (.long qa), .second, .val (.long qb), .second, .val (.long qc), .second, .val (.long qd), .second, .val (.int kx), .val (.ref by1), .val (.int (2 : Int32)), .val (.int P0), .val (.int P1), .val (.int P2), .val (.int P3), .val (.ref by24), .val (.ref by27), .val (.int (1 : Int32))] [(.int (0 : Int32)), (.ref by24)])) rfl rfl (hb hby at_201)) ?_
    show Fin p e below s _ _ _ (Ty27.setTop (mkF m 202 #[.val (.long qa), .second, .val (.long qb), .second, .val (.long qc), .second, .val (.long qd), .second, .val (.int kx), .val (.ref by1), .val (.int (2 : Int32)), .val (.int P0), .val (.int P1), .val (.int P2), .val (.int P3), .val (.ref by24), .val (.ref by27), .val (.int (1 : Int32))] [(.int P0)]))
    refine Fin.step (fun _ => XS.iload Xy27.here hx rfl (hb hby at_202) rfl) ?_
    show Fin p e below s _ _ _ (Ty27.setTop (mkF m 204 #[.val (.long qa), .second, .val (.long qb), .second, .val (.long qc), .second, .val (.long qd), .second, .val (.int kx), .val (.ref by1), .val (.int (2 : Int32)), .val (.int P0), .val (.int P1), .val (.int P2), .val (.int P3), .val (.ref by24), .val (.ref by27), .val (.int (1 : Int32))] [(.int P0), (.int P0)]))
    refine Fin.step (fun _ => XS.icmpNo Xy27.here hx rfl (hb hby at_204) rfl (teq (rfl : (P0 = P0))).2) ?_
    show Fin p e below s _ _ _ (Ty27.setTop (mkF m 207 #[.val (.long qa), .second, .val (.long qb), .second, .val (.long qc), .second, .val (.long qd), .second, .val (.int kx), .val (.ref by1), .val (.int (2 : Int32)), .val (.int P0), .val (.int P1), .val (.int P2), .val (.int P3), .val (.ref by24), .val (.ref by27), .val (.int (1 : Int32))] []))
    refine Fin.step (fun _ => XS.aload Xy27.here hx rfl (hb hby at_207) rfl rfl) ?_
    show Fin p e below s _ _ _ (Ty27.setTop (mkF m 209 #[.val (.long qa), .second, .val (.long qb), .second, .val (.long qc), .second, .val (.long qd), .second, .val (.int kx), .val (.ref by1), .val (.int (2 : Int32)), .val (.int P0), .val (.int P1), .val (.int P2), .val (.int P3), .val (.ref by24), .val (.ref by27), .val (.int (1 : Int32))] [(.ref by27)]))
    refine Fin.step (fun _ => XS.iconst Xy27.here hx rfl (hb hby at_209)) ?_
    show Fin p e below s _ _ _ (Ty27.setTop (mkF m 210 #[.val (.long qa), .second, .val (.long qb), .second, .val (.long qc), .second, .val (.long qd), .second, .val (.int kx), .val (.ref by1), .val (.int (2 : Int32)), .val (.int P0), .val (.int P1), .val (.int P2), .val (.int P3), .val (.ref by24), .val (.ref by27), .val (.int (1 : Int32))] [(.int (0 : Int32)), (.ref by27)]))
    have voy34 := fy27_0
    obtain ⟨cly34, Ary34, qay34, say34, nay34, hay34, gay34⟩ := voy34
    have iny34 := inb_of (j := (0 : Int32)) say34 ⟨by decide, by decide⟩
    refine Fin.step (Xy27.laload hx (j := (0 : Int32)) (v := (.long (own_ref P0 qa qb qc qd))) Ary34.1 (State.isArrayOf_alike hZ.alike Ary34.2.1) Ary34.2.2 iny34 (hay34.at iny34 rfl) (g := (mkF m 210 #[.val (.long qa), .second, .val (.long qb), .second, .val (.long qc), .second, .val (.long qd), .second, .val (.int kx), .val (.ref by1), .val (.int (2 : Int32)), .val (.int P0), .val (.int P1), .val (.int P2), .val (.int P3), .val (.ref by24), .val (.ref by27), .val (.int (1 : Int32))] [(.int (0 : Int32)), (.ref by27)])) rfl rfl (hb hby at_210)) ?_
    show Fin p e below s _ _ _ (Ty27.setTop (mkF m 211 #[.val (.long qa), .second, .val (.long qb), .second, .val (.long qc), .second, .val (.long qd), .second, .val (.int kx), .val (.ref by1), .val (.int (2 : Int32)), .val (.int P0), .val (.int P1), .val (.int P2), .val (.int P3), .val (.ref by24), .val (.ref by27), .val (.int (1 : Int32))] [(.long (own_ref P0 qa qb qc qd))]))
    refine Fin.step (fun _ => XS.iload Xy27.here hx rfl (hb hby at_211) rfl) ?_
    show Fin p e below s _ _ _ (Ty27.setTop (mkF m 213 #[.val (.long qa), .second, .val (.long qb), .second, .val (.long qc), .second, .val (.long qd), .second, .val (.int kx), .val (.ref by1), .val (.int (2 : Int32)), .val (.int P0), .val (.int P1), .val (.int P2), .val (.int P3), .val (.ref by24), .val (.ref by27), .val (.int (1 : Int32))] [(.int P0), (.long (own_ref P0 qa qb qc qd))]))
    refine Fin.step (fun _ => XS.lloadN Xy27.here hx rfl (hb hby at_213) rfl) ?_
    show Fin p e below s _ _ _ (Ty27.setTop (mkF m 214 #[.val (.long qa), .second, .val (.long qb), .second, .val (.long qc), .second, .val (.long qd), .second, .val (.int kx), .val (.ref by1), .val (.int (2 : Int32)), .val (.int P0), .val (.int P1), .val (.int P2), .val (.int P3), .val (.ref by24), .val (.ref by27), .val (.int (1 : Int32))] [(.long qa), (.int P0), (.long (own_ref P0 qa qb qc qd))]))
    refine Fin.step (fun _ => XS.lloadN Xy27.here hx rfl (hb hby at_214) rfl) ?_
    show Fin p e below s _ _ _ (Ty27.setTop (mkF m 215 #[.val (.long qa), .second, .val (.long qb), .second, .val (.long qc), .second, .val (.long qd), .second, .val (.int kx), .val (.ref by1), .val (.int (2 : Int32)), .val (.int P0), .val (.int P1), .val (.int P2), .val (.int P3), .val (.ref by24), .val (.ref by27), .val (.int (1 : Int32))] [(.long qb), (.long qa), (.int P0), (.long (own_ref P0 qa qb qc qd))]))
    refine Fin.step (fun _ => XS.lload Xy27.here hx rfl (hb hby at_215) rfl) ?_
    show Fin p e below s _ _ _ (Ty27.setTop (mkF m 217 #[.val (.long qa), .second, .val (.long qb), .second, .val (.long qc), .second, .val (.long qd), .second, .val (.int kx), .val (.ref by1), .val (.int (2 : Int32)), .val (.int P0), .val (.int P1), .val (.int P2), .val (.int P3), .val (.ref by24), .val (.ref by27), .val (.int (1 : Int32))] [(.long qc), (.long qb), (.long qa), (.int P0), (.long (own_ref P0 qa qb qc qd))]))
    refine Fin.step (fun _ => XS.lload Xy27.here hx rfl (hb hby at_217) rfl) ?_
    show Fin p e below s _ _ _ (Ty27.setTop (mkF m 219 #[.val (.long qa), .second, .val (.long qb), .second, .val (.long qc), .second, .val (.long qd), .second, .val (.int kx), .val (.ref by1), .val (.int (2 : Int32)), .val (.int P0), .val (.int P1), .val (.int P2), .val (.int P3), .val (.ref by24), .val (.ref by27), .val (.int (1 : Int32))] [(.long qd), (.long qc), (.long qb), (.long qa), (.int P0), (.long (own_ref P0 qa qb qc qd))]))
    obtain ⟨_, _, ⟨Ty35, Ly35, ky35, ny35⟩, -, Xy35, ⟨Lcy35, hQy35, ly35, yy35, zy35⟩, sty35⟩ := Jvm.LawKit.callS Xy27 hx (y := (⟨"com/example/uzor/uzor/RowPickPinLaw", "ref", "(IJJJJ)J"⟩ : MethodName)) hown (mvT hZ (hw _ (List.mem_of_getElem? (i := 6) rfl))) (mvT hZ (hw _ (List.mem_of_getElem? (i := 7) rfl))) (mvT hZ (hw _ (List.mem_of_getElem? (i := 8) rfl))) (mvT hZ (hw _ (List.mem_of_getElem? (i := 9) rfl))) (by decide) (backOf (W := 2) (rm2 l Z a0 hw [] P0 qa qb qc qd Ty27.heap n0 Zy27 ) hZ (hw _ (List.mem_of_getElem? (i := 9) rfl)) (hw _ (List.mem_of_getElem? (i := 8) rfl)) (by decide) (by decide)) (g := (mkF m 219 #[.val (.long qa), .second, .val (.long qb), .second, .val (.long qc), .second, .val (.long qd), .second, .val (.int kx), .val (.ref by1), .val (.int (2 : Int32)), .val (.int P0), .val (.int P1), .val (.int P2), .val (.int P3), .val (.ref by24), .val (.ref by27), .val (.int (1 : Int32))] [(.long qd), (.long qc), (.long qb), (.long qa), (.int P0), (.long (own_ref P0 qa qb qc qd))])) rfl (by rw [hml]; rfl) (argsL := [(.int P0), (.long qa), (.long qb), (.long qc), (.long qd)]) (rest := [(.long (own_ref P0 qa qb qc qd))]) (lenOf pd_1 rfl) rfl (by show 2 * 0 + _ ≤ _; exact Nat.le_of_eq rfl) (hb hby at_219) (fun _ _ => ⟨rfl, rfl, (by decide : 3 + 0 ≤ _), (by decide : 8 + 0 ≤ _)⟩)
    dsimp only [Pt.U, Pt.locs, Pt.cells, Pt.slots] at Xy35 ly35 yy35 zy35 sty35 hQy35
    subst ly35 yy35 zy35
    obtain ⟨rfl, Nqy35, eqy35⟩ := hQy35
    have Ny35 := Fr.app Ny27 Nqy35
    refine Fin.step (sty35) ?_
    show Fin p e below s _ _ _ (Ty35.setTop (mkF m 222 #[.val (.long qa), .second, .val (.long qb), .second, .val (.long qc), .second, .val (.long qd), .second, .val (.int kx), .val (.ref by1), .val (.int (2 : Int32)), .val (.int P0), .val (.int P1), .val (.int P2), .val (.int P3), .val (.ref by24), .val (.ref by27), .val (.int (1 : Int32))] [(.long (own_ref P0 qa qb qc qd)), (.long (own_ref P0 qa qb qc qd))]))
    refine Fin.step (fun _ => XS.lcmp Xy35.here hx rfl (hb hby at_222) rfl) ?_
    show Fin p e below s _ _ _ (Ty35.setTop (mkF m 223 #[.val (.long qa), .second, .val (.long qb), .second, .val (.long qc), .second, .val (.long qd), .second, .val (.int kx), .val (.ref by1), .val (.int (2 : Int32)), .val (.int P0), .val (.int P1), .val (.int P2), .val (.int P3), .val (.ref by24), .val (.ref by27), .val (.int (1 : Int32))] [(.int (lcmpW (own_ref P0 qa qb qc qd) (own_ref P0 qa qb qc qd)))]))
    refine Fin.step (fun _ => XS.ifNo Xy35.here hx rfl (hb hby at_223) rfl ((if0 _ _).trans (teq ((lcE rfl) : ((lcmpW (own_ref P0 qa qb qc qd) (own_ref P0 qa qb qc qd)) = (0 : Int32)))).2)) ?_
    show Fin p e below s _ _ _ (Ty35.setTop (mkF m 226 #[.val (.long qa), .second, .val (.long qb), .second, .val (.long qc), .second, .val (.long qd), .second, .val (.int kx), .val (.ref by1), .val (.int (2 : Int32)), .val (.int P0), .val (.int P1), .val (.int P2), .val (.int P3), .val (.ref by24), .val (.ref by27), .val (.int (1 : Int32))] []))
    refine Fin.step (fun _ => XS.iconst Xy35.here hx rfl (hb hby at_226)) ?_
    show Fin p e below s _ _ _ (Ty35.setTop (mkF m 227 #[.val (.long qa), .second, .val (.long qb), .second, .val (.long qc), .second, .val (.long qd), .second, .val (.int kx), .val (.ref by1), .val (.int (2 : Int32)), .val (.int P0), .val (.int P1), .val (.int P2), .val (.int P3), .val (.ref by24), .val (.ref by27), .val (.int (1 : Int32))] [(.int (1 : Int32))]))
    refine Fin.step (fun _ => XS.goto Xy35.here hx rfl (pc0 := 227) (pc' := 231) rfl (hb hby at_227) (by decide) (by decide)) ?_
    show Fin p e below s _ _ _ (Ty35.setTop (mkF m 231 #[.val (.long qa), .second, .val (.long qb), .second, .val (.long qc), .second, .val (.long qd), .second, .val (.int kx), .val (.ref by1), .val (.int (2 : Int32)), .val (.int P0), .val (.int P1), .val (.int P2), .val (.int P3), .val (.ref by24), .val (.ref by27), .val (.int (1 : Int32))] [(.int (1 : Int32))]))
    refine Fin.step (fun _ => XS.istore Xy35.here hx rfl (hb hby at_231) rfl (l' := #[.val (.long qa), .second, .val (.long qb), .second, .val (.long qc), .second, .val (.long qd), .second, .val (.int kx), .val (.ref by1), .val (.int (2 : Int32)), .val (.int P0), .val (.int P1), .val (.int P2), .val (.int P3), .val (.ref by24), .val (.ref by27), .val (.int (1 : Int32))]) rfl) ?_
    show Fin p e below s _ _ _ (Ty35.setTop (mkF m 233 #[.val (.long qa), .second, .val (.long qb), .second, .val (.long qc), .second, .val (.long qd), .second, .val (.int kx), .val (.ref by1), .val (.int (2 : Int32)), .val (.int P0), .val (.int P1), .val (.int P2), .val (.int P3), .val (.ref by24), .val (.ref by27), .val (.int (1 : Int32))] []))
    refine Fin.step (fun _ => XS.iload Xy35.here hx rfl (hb hby at_233) rfl) ?_
    show Fin p e below s _ _ _ (Ty35.setTop (mkF m 235 #[.val (.long qa), .second, .val (.long qb), .second, .val (.long qc), .second, .val (.long qd), .second, .val (.int kx), .val (.ref by1), .val (.int (2 : Int32)), .val (.int P0), .val (.int P1), .val (.int P2), .val (.int P3), .val (.ref by24), .val (.ref by27), .val (.int (1 : Int32))] [(.int (2 : Int32))]))
    refine Fin.step (fun _ => XS.iconst Xy35.here hx rfl (hb hby at_235)) ?_
    show Fin p e below s _ _ _ (Ty35.setTop (mkF m 236 #[.val (.long qa), .second, .val (.long qb), .second, .val (.long qc), .second, .val (.long qd), .second, .val (.int kx), .val (.ref by1), .val (.int (2 : Int32)), .val (.int P0), .val (.int P1), .val (.int P2), .val (.int P3), .val (.ref by24), .val (.ref by27), .val (.int (1 : Int32))] [(.int (1 : Int32)), (.int (2 : Int32))]))
    refine Fin.step (fun _ => XS.icmpNo Xy35.here hx rfl (hb hby at_236) rfl (tlt ((by decide) : ((1 : Int32) < (2 : Int32)))).2.2.2) ?_
    show Fin p e below s _ _ _ (Ty35.setTop (mkF m 239 #[.val (.long qa), .second, .val (.long qb), .second, .val (.long qc), .second, .val (.long qd), .second, .val (.int kx), .val (.ref by1), .val (.int (2 : Int32)), .val (.int P0), .val (.int P1), .val (.int P2), .val (.int P3), .val (.ref by24), .val (.ref by27), .val (.int (1 : Int32))] []))
    refine Fin.step (fun _ => XS.iload Xy35.here hx rfl (hb hby at_239) rfl) ?_
    show Fin p e below s _ _ _ (Ty35.setTop (mkF m 241 #[.val (.long qa), .second, .val (.long qb), .second, .val (.long qc), .second, .val (.long qd), .second, .val (.int kx), .val (.ref by1), .val (.int (2 : Int32)), .val (.int P0), .val (.int P1), .val (.int P2), .val (.int P3), .val (.ref by24), .val (.ref by27), .val (.int (1 : Int32))] [(.int (1 : Int32))]))
    refine Fin.step (fun _ => XS.ifNo Xy35.here hx rfl (hb hby at_241) rfl ((if0 _ _).trans (feq ((by decide) : ¬ ((1 : Int32) = (0 : Int32)))).1)) ?_
    show Fin p e below s _ _ _ (Ty35.setTop (mkF m 244 #[.val (.long qa), .second, .val (.long qb), .second, .val (.long qc), .second, .val (.long qd), .second, .val (.int kx), .val (.ref by1), .val (.int (2 : Int32)), .val (.int P0), .val (.int P1), .val (.int P2), .val (.int P3), .val (.ref by24), .val (.ref by27), .val (.int (1 : Int32))] []))
    refine Fin.step (fun _ => XS.aload Xy35.here hx rfl (hb hby at_244) rfl rfl) ?_
    show Fin p e below s _ _ _ (Ty35.setTop (mkF m 246 #[.val (.long qa), .second, .val (.long qb), .second, .val (.long qc), .second, .val (.long qd), .second, .val (.int kx), .val (.ref by1), .val (.int (2 : Int32)), .val (.int P0), .val (.int P1), .val (.int P2), .val (.int P3), .val (.ref by24), .val (.ref by27), .val (.int (1 : Int32))] [(.ref by24)]))
    refine Fin.step (fun _ => XS.iconst Xy35.here hx rfl (hb hby at_246)) ?_
    show Fin p e below s _ _ _ (Ty35.setTop (mkF m 247 #[.val (.long qa), .second, .val (.long qb), .second, .val (.long qc), .second, .val (.long qd), .second, .val (.int kx), .val (.ref by1), .val (.int (2 : Int32)), .val (.int P0), .val (.int P1), .val (.int P2), .val (.int P3), .val (.ref by24), .val (.ref by27), .val (.int (1 : Int32))] [(.int (1 : Int32)), (.ref by24)]))
    have voy36 := (Vy26.keep Kcy27 nin0)
    obtain ⟨cly36, Ary36, qay36, say36, nay36, hay36, gay36⟩ := voy36
    have iny36 := inb_of (j := (1 : Int32)) say36 ⟨by decide, by decide⟩
    refine Fin.step (Xy35.iaload hx (j := (1 : Int32)) (v := (.int P1)) (by rw [eqy35]; exact Ary36.1) (State.isArrayOf_alike hZ.alike Ary36.2.1) Ary36.2.2 iny36 (hay36.at iny36 rfl) (g := (mkF m 247 #[.val (.long qa), .second, .val (.long qb), .second, .val (.long qc), .second, .val (.long qd), .second, .val (.int kx), .val (.ref by1), .val (.int (2 : Int32)), .val (.int P0), .val (.int P1), .val (.int P2), .val (.int P3), .val (.ref by24), .val (.ref by27), .val (.int (1 : Int32))] [(.int (1 : Int32)), (.ref by24)])) rfl rfl (hb hby at_247)) ?_
    show Fin p e below s _ _ _ (Ty35.setTop (mkF m 248 #[.val (.long qa), .second, .val (.long qb), .second, .val (.long qc), .second, .val (.long qd), .second, .val (.int kx), .val (.ref by1), .val (.int (2 : Int32)), .val (.int P0), .val (.int P1), .val (.int P2), .val (.int P3), .val (.ref by24), .val (.ref by27), .val (.int (1 : Int32))] [(.int P1)]))
    refine Fin.step (fun _ => XS.iload Xy35.here hx rfl (hb hby at_248) rfl) ?_
    show Fin p e below s _ _ _ (Ty35.setTop (mkF m 250 #[.val (.long qa), .second, .val (.long qb), .second, .val (.long qc), .second, .val (.long qd), .second, .val (.int kx), .val (.ref by1), .val (.int (2 : Int32)), .val (.int P0), .val (.int P1), .val (.int P2), .val (.int P3), .val (.ref by24), .val (.ref by27), .val (.int (1 : Int32))] [(.int P1), (.int P1)]))
    refine Fin.step (fun _ => XS.icmpNo Xy35.here hx rfl (hb hby at_250) rfl (teq (rfl : (P1 = P1))).2) ?_
    show Fin p e below s _ _ _ (Ty35.setTop (mkF m 253 #[.val (.long qa), .second, .val (.long qb), .second, .val (.long qc), .second, .val (.long qd), .second, .val (.int kx), .val (.ref by1), .val (.int (2 : Int32)), .val (.int P0), .val (.int P1), .val (.int P2), .val (.int P3), .val (.ref by24), .val (.ref by27), .val (.int (1 : Int32))] []))
    refine Fin.step (fun _ => XS.aload Xy35.here hx rfl (hb hby at_253) rfl rfl) ?_
    show Fin p e below s _ _ _ (Ty35.setTop (mkF m 255 #[.val (.long qa), .second, .val (.long qb), .second, .val (.long qc), .second, .val (.long qd), .second, .val (.int kx), .val (.ref by1), .val (.int (2 : Int32)), .val (.int P0), .val (.int P1), .val (.int P2), .val (.int P3), .val (.ref by24), .val (.ref by27), .val (.int (1 : Int32))] [(.ref by27)]))
    refine Fin.step (fun _ => XS.iconst Xy35.here hx rfl (hb hby at_255)) ?_
    show Fin p e below s _ _ _ (Ty35.setTop (mkF m 256 #[.val (.long qa), .second, .val (.long qb), .second, .val (.long qc), .second, .val (.long qd), .second, .val (.int kx), .val (.ref by1), .val (.int (2 : Int32)), .val (.int P0), .val (.int P1), .val (.int P2), .val (.int P3), .val (.ref by24), .val (.ref by27), .val (.int (1 : Int32))] [(.int (1 : Int32)), (.ref by27)]))
    have voy37 := fy27_0
    obtain ⟨cly37, Ary37, qay37, say37, nay37, hay37, gay37⟩ := voy37
    have iny37 := inb_of (j := (1 : Int32)) say37 ⟨by decide, by decide⟩
    refine Fin.step (Xy35.laload hx (j := (1 : Int32)) (v := (.long (own_ref P1 qa qb qc qd))) (by rw [eqy35]; exact Ary37.1) (State.isArrayOf_alike hZ.alike Ary37.2.1) Ary37.2.2 iny37 (hay37.at iny37 rfl) (g := (mkF m 256 #[.val (.long qa), .second, .val (.long qb), .second, .val (.long qc), .second, .val (.long qd), .second, .val (.int kx), .val (.ref by1), .val (.int (2 : Int32)), .val (.int P0), .val (.int P1), .val (.int P2), .val (.int P3), .val (.ref by24), .val (.ref by27), .val (.int (1 : Int32))] [(.int (1 : Int32)), (.ref by27)])) rfl rfl (hb hby at_256)) ?_
    show Fin p e below s _ _ _ (Ty35.setTop (mkF m 257 #[.val (.long qa), .second, .val (.long qb), .second, .val (.long qc), .second, .val (.long qd), .second, .val (.int kx), .val (.ref by1), .val (.int (2 : Int32)), .val (.int P0), .val (.int P1), .val (.int P2), .val (.int P3), .val (.ref by24), .val (.ref by27), .val (.int (1 : Int32))] [(.long (own_ref P1 qa qb qc qd))]))
    refine Fin.step (fun _ => XS.iload Xy35.here hx rfl (hb hby at_257) rfl) ?_
    show Fin p e below s _ _ _ (Ty35.setTop (mkF m 259 #[.val (.long qa), .second, .val (.long qb), .second, .val (.long qc), .second, .val (.long qd), .second, .val (.int kx), .val (.ref by1), .val (.int (2 : Int32)), .val (.int P0), .val (.int P1), .val (.int P2), .val (.int P3), .val (.ref by24), .val (.ref by27), .val (.int (1 : Int32))] [(.int P1), (.long (own_ref P1 qa qb qc qd))]))
    refine Fin.step (fun _ => XS.lloadN Xy35.here hx rfl (hb hby at_259) rfl) ?_
    show Fin p e below s _ _ _ (Ty35.setTop (mkF m 260 #[.val (.long qa), .second, .val (.long qb), .second, .val (.long qc), .second, .val (.long qd), .second, .val (.int kx), .val (.ref by1), .val (.int (2 : Int32)), .val (.int P0), .val (.int P1), .val (.int P2), .val (.int P3), .val (.ref by24), .val (.ref by27), .val (.int (1 : Int32))] [(.long qa), (.int P1), (.long (own_ref P1 qa qb qc qd))]))
    refine Fin.step (fun _ => XS.lloadN Xy35.here hx rfl (hb hby at_260) rfl) ?_
    show Fin p e below s _ _ _ (Ty35.setTop (mkF m 261 #[.val (.long qa), .second, .val (.long qb), .second, .val (.long qc), .second, .val (.long qd), .second, .val (.int kx), .val (.ref by1), .val (.int (2 : Int32)), .val (.int P0), .val (.int P1), .val (.int P2), .val (.int P3), .val (.ref by24), .val (.ref by27), .val (.int (1 : Int32))] [(.long qb), (.long qa), (.int P1), (.long (own_ref P1 qa qb qc qd))]))
    refine Fin.step (fun _ => XS.lload Xy35.here hx rfl (hb hby at_261) rfl) ?_
    show Fin p e below s _ _ _ (Ty35.setTop (mkF m 263 #[.val (.long qa), .second, .val (.long qb), .second, .val (.long qc), .second, .val (.long qd), .second, .val (.int kx), .val (.ref by1), .val (.int (2 : Int32)), .val (.int P0), .val (.int P1), .val (.int P2), .val (.int P3), .val (.ref by24), .val (.ref by27), .val (.int (1 : Int32))] [(.long qc), (.long qb), (.long qa), (.int P1), (.long (own_ref P1 qa qb qc qd))]))
    refine Fin.step (fun _ => XS.lload Xy35.here hx rfl (hb hby at_263) rfl) ?_
    show Fin p e below s _ _ _ (Ty35.setTop (mkF m 265 #[.val (.long qa), .second, .val (.long qb), .second, .val (.long qc), .second, .val (.long qd), .second, .val (.int kx), .val (.ref by1), .val (.int (2 : Int32)), .val (.int P0), .val (.int P1), .val (.int P2), .val (.int P3), .val (.ref by24), .val (.ref by27), .val (.int (1 : Int32))] [(.long qd), (.long qc), (.long qb), (.long qa), (.int P1), (.long (own_ref P1 qa qb qc qd))]))
    obtain ⟨_, _, ⟨Ty38, Ly38, ky38, ny38⟩, -, Xy38, ⟨Lcy38, hQy38, ly38, yy38, zy38⟩, sty38⟩ := Jvm.LawKit.callS Xy35 hx (y := (⟨"com/example/uzor/uzor/RowPickPinLaw", "ref", "(IJJJJ)J"⟩ : MethodName)) hown (mvT hZ (hw _ (List.mem_of_getElem? (i := 6) rfl))) (mvT hZ (hw _ (List.mem_of_getElem? (i := 7) rfl))) (mvT hZ (hw _ (List.mem_of_getElem? (i := 8) rfl))) (mvT hZ (hw _ (List.mem_of_getElem? (i := 9) rfl))) (by decide) (backOf (W := 2) (rm2 l Z a0 hw [] P1 qa qb qc qd Ty27.heap n0 Zy27 ) hZ (hw _ (List.mem_of_getElem? (i := 9) rfl)) (hw _ (List.mem_of_getElem? (i := 8) rfl)) (by decide) (by decide)) (g := (mkF m 265 #[.val (.long qa), .second, .val (.long qb), .second, .val (.long qc), .second, .val (.long qd), .second, .val (.int kx), .val (.ref by1), .val (.int (2 : Int32)), .val (.int P0), .val (.int P1), .val (.int P2), .val (.int P3), .val (.ref by24), .val (.ref by27), .val (.int (1 : Int32))] [(.long qd), (.long qc), (.long qb), (.long qa), (.int P1), (.long (own_ref P1 qa qb qc qd))])) rfl (by rw [hml]; rfl) (argsL := [(.int P1), (.long qa), (.long qb), (.long qc), (.long qd)]) (rest := [(.long (own_ref P1 qa qb qc qd))]) (lenOf pd_1 rfl) rfl (by show 2 * 0 + _ ≤ _; exact Nat.le_of_eq rfl) (hb hby at_265) (fun _ _ => ⟨rfl, eqy35, (by decide : 3 + 0 ≤ _), (by decide : 8 + 0 ≤ _)⟩)
    dsimp only [Pt.U, Pt.locs, Pt.cells, Pt.slots] at Xy38 ly38 yy38 zy38 sty38 hQy38
    subst ly38 yy38 zy38
    obtain ⟨rfl, Nqy38, eqy38⟩ := hQy38
    have Ny38 := Fr.app Ny35 Nqy38
    refine Fin.step (sty38) ?_
    show Fin p e below s _ _ _ (Ty38.setTop (mkF m 268 #[.val (.long qa), .second, .val (.long qb), .second, .val (.long qc), .second, .val (.long qd), .second, .val (.int kx), .val (.ref by1), .val (.int (2 : Int32)), .val (.int P0), .val (.int P1), .val (.int P2), .val (.int P3), .val (.ref by24), .val (.ref by27), .val (.int (1 : Int32))] [(.long (own_ref P1 qa qb qc qd)), (.long (own_ref P1 qa qb qc qd))]))
    refine Fin.step (fun _ => XS.lcmp Xy38.here hx rfl (hb hby at_268) rfl) ?_
    show Fin p e below s _ _ _ (Ty38.setTop (mkF m 269 #[.val (.long qa), .second, .val (.long qb), .second, .val (.long qc), .second, .val (.long qd), .second, .val (.int kx), .val (.ref by1), .val (.int (2 : Int32)), .val (.int P0), .val (.int P1), .val (.int P2), .val (.int P3), .val (.ref by24), .val (.ref by27), .val (.int (1 : Int32))] [(.int (lcmpW (own_ref P1 qa qb qc qd) (own_ref P1 qa qb qc qd)))]))
    refine Fin.step (fun _ => XS.ifNo Xy38.here hx rfl (hb hby at_269) rfl ((if0 _ _).trans (teq ((lcE rfl) : ((lcmpW (own_ref P1 qa qb qc qd) (own_ref P1 qa qb qc qd)) = (0 : Int32)))).2)) ?_
    show Fin p e below s _ _ _ (Ty38.setTop (mkF m 272 #[.val (.long qa), .second, .val (.long qb), .second, .val (.long qc), .second, .val (.long qd), .second, .val (.int kx), .val (.ref by1), .val (.int (2 : Int32)), .val (.int P0), .val (.int P1), .val (.int P2), .val (.int P3), .val (.ref by24), .val (.ref by27), .val (.int (1 : Int32))] []))
    refine Fin.step (fun _ => XS.iconst Xy38.here hx rfl (hb hby at_272)) ?_
    show Fin p e below s _ _ _ (Ty38.setTop (mkF m 273 #[.val (.long qa), .second, .val (.long qb), .second, .val (.long qc), .second, .val (.long qd), .second, .val (.int kx), .val (.ref by1), .val (.int (2 : Int32)), .val (.int P0), .val (.int P1), .val (.int P2), .val (.int P3), .val (.ref by24), .val (.ref by27), .val (.int (1 : Int32))] [(.int (1 : Int32))]))
    refine Fin.step (fun _ => XS.goto Xy38.here hx rfl (pc0 := 273) (pc' := 277) rfl (hb hby at_273) (by decide) (by decide)) ?_
    show Fin p e below s _ _ _ (Ty38.setTop (mkF m 277 #[.val (.long qa), .second, .val (.long qb), .second, .val (.long qc), .second, .val (.long qd), .second, .val (.int kx), .val (.ref by1), .val (.int (2 : Int32)), .val (.int P0), .val (.int P1), .val (.int P2), .val (.int P3), .val (.ref by24), .val (.ref by27), .val (.int (1 : Int32))] [(.int (1 : Int32))]))
    refine Fin.step (fun _ => XS.istore Xy38.here hx rfl (hb hby at_277) rfl (l' := #[.val (.long qa), .second, .val (.long qb), .second, .val (.long qc), .second, .val (.long qd), .second, .val (.int kx), .val (.ref by1), .val (.int (2 : Int32)), .val (.int P0), .val (.int P1), .val (.int P2), .val (.int P3), .val (.ref by24), .val (.ref by27), .val (.int (1 : Int32))]) rfl) ?_
    show Fin p e below s _ _ _ (Ty38.setTop (mkF m 279 #[.val (.long qa), .second, .val (.long qb), .second, .val (.long qc), .second, .val (.long qd), .second, .val (.int kx), .val (.ref by1), .val (.int (2 : Int32)), .val (.int P0), .val (.int P1), .val (.int P2), .val (.int P3), .val (.ref by24), .val (.ref by27), .val (.int (1 : Int32))] []))
    refine Fin.step (fun _ => XS.iload Xy38.here hx rfl (hb hby at_279) rfl) ?_
    show Fin p e below s _ _ _ (Ty38.setTop (mkF m 281 #[.val (.long qa), .second, .val (.long qb), .second, .val (.long qc), .second, .val (.long qd), .second, .val (.int kx), .val (.ref by1), .val (.int (2 : Int32)), .val (.int P0), .val (.int P1), .val (.int P2), .val (.int P3), .val (.ref by24), .val (.ref by27), .val (.int (1 : Int32))] [(.int (2 : Int32))]))
    refine Fin.step (fun _ => XS.iconst Xy38.here hx rfl (hb hby at_281)) ?_
    show Fin p e below s _ _ _ (Ty38.setTop (mkF m 282 #[.val (.long qa), .second, .val (.long qb), .second, .val (.long qc), .second, .val (.long qd), .second, .val (.int kx), .val (.ref by1), .val (.int (2 : Int32)), .val (.int P0), .val (.int P1), .val (.int P2), .val (.int P3), .val (.ref by24), .val (.ref by27), .val (.int (1 : Int32))] [(.int (2 : Int32)), (.int (2 : Int32))]))
    refine Fin.step (fun _ => XS.icmpYes Xy38.here hx rfl (pc0 := 282) (pc' := 325) rfl (hb hby at_282) rfl (flt ((by decide) : ¬ ((2 : Int32) < (2 : Int32)))).2.2.2 (by decide) (by decide)) ?_
    show Fin p e below s _ _ _ (Ty38.setTop (mkF m 325 #[.val (.long qa), .second, .val (.long qb), .second, .val (.long qc), .second, .val (.long qd), .second, .val (.int kx), .val (.ref by1), .val (.int (2 : Int32)), .val (.int P0), .val (.int P1), .val (.int P2), .val (.int P3), .val (.ref by24), .val (.ref by27), .val (.int (1 : Int32))] []))
    refine Fin.step (fun _ => XS.iload Xy38.here hx rfl (hb hby at_325) rfl) ?_
    show Fin p e below s _ _ _ (Ty38.setTop (mkF m 327 #[.val (.long qa), .second, .val (.long qb), .second, .val (.long qc), .second, .val (.long qd), .second, .val (.int kx), .val (.ref by1), .val (.int (2 : Int32)), .val (.int P0), .val (.int P1), .val (.int P2), .val (.int P3), .val (.ref by24), .val (.ref by27), .val (.int (1 : Int32))] [(.int (2 : Int32))]))
    refine Fin.step (fun _ => XS.iconst Xy38.here hx rfl (hb hby at_327)) ?_
    show Fin p e below s _ _ _ (Ty38.setTop (mkF m 328 #[.val (.long qa), .second, .val (.long qb), .second, .val (.long qc), .second, .val (.long qd), .second, .val (.int kx), .val (.ref by1), .val (.int (2 : Int32)), .val (.int P0), .val (.int P1), .val (.int P2), .val (.int P3), .val (.ref by24), .val (.ref by27), .val (.int (1 : Int32))] [(.int (3 : Int32)), (.int (2 : Int32))]))
    refine Fin.step (fun _ => XS.icmpYes Xy38.here hx rfl (pc0 := 328) (pc' := 371) rfl (hb hby at_328) rfl (flt ((by decide) : ¬ ((3 : Int32) < (2 : Int32)))).2.2.2 (by decide) (by decide)) ?_
    show Fin p e below s _ _ _ (Ty38.setTop (mkF m 371 #[.val (.long qa), .second, .val (.long qb), .second, .val (.long qc), .second, .val (.long qd), .second, .val (.int kx), .val (.ref by1), .val (.int (2 : Int32)), .val (.int P0), .val (.int P1), .val (.int P2), .val (.int P3), .val (.ref by24), .val (.ref by27), .val (.int (1 : Int32))] []))
    refine Fin.step (fun _ => XS.iload Xy38.here hx rfl (hb hby at_371) rfl) ?_
    show Fin p e below s _ _ _ (Ty38.setTop (mkF m 373 #[.val (.long qa), .second, .val (.long qb), .second, .val (.long qc), .second, .val (.long qd), .second, .val (.int kx), .val (.ref by1), .val (.int (2 : Int32)), .val (.int P0), .val (.int P1), .val (.int P2), .val (.int P3), .val (.ref by24), .val (.ref by27), .val (.int (1 : Int32))] [(.int (1 : Int32))]))
    refine Fin.retN Xy38 hx (t := .boolean) hret (by simp) hlk (hb hby at_373) (by decide) (by decide) ?_
    show Q0 Z qa qb qc qd kx h0 n0 _ Ty38.heap _
    rw [eqy38]
    exact ⟨rfl, Ny38, Ky27⟩
  · rw [qn]
    show Fin p e below s _ _ _ (Ty5.setTop (mkF m 66 #[.val (.long qa), .second, .val (.long qb), .second, .val (.long qc), .second, .val (.long qd), .second, .val (.int kx), .val (.ref by1), .val (.int (3 : Int32)), .val (.int P0), .val (.int P1), .val (.int P2), .val (.int P3), .unset, .unset, .unset] []))
    refine Fin.step (fun _ => XS.iload Xy5.here hx rfl (hb hby at_66) rfl) ?_
    show Fin p e below s _ _ _ (Ty5.setTop (mkF m 68 #[.val (.long qa), .second, .val (.long qb), .second, .val (.long qc), .second, .val (.long qd), .second, .val (.int kx), .val (.ref by1), .val (.int (3 : Int32)), .val (.int P0), .val (.int P1), .val (.int P2), .val (.int P3), .unset, .unset, .unset] [(.int (3 : Int32))]))
    obtain ⟨Ty39, hy39, ky39, Xy39, ey39, Ey39, Ay39, sty39⟩ := newP Xy5 hx hZ (hw _ (List.mem_of_getElem? (i := 1) rfl)) ey5 (g := (mkF m 68 #[.val (.long qa), .second, .val (.long qb), .second, .val (.long qc), .second, .val (.long qd), .second, .val (.int kx), .val (.ref by1), .val (.int (3 : Int32)), .val (.int P0), .val (.int P1), .val (.int P2), .val (.int P3), .unset, .unset, .unset] [(.int (3 : Int32))])) rfl (hb hby at_68) rfl (by decide) (cap := 3) (by decide) (by decide) (by decide) (by decide)
    obtain ⟨by39, gy39⟩ : ∃ z, z = hy5.size := ⟨_, rfl⟩
    rw [← gy39] at Ay39 sty39
    have gzy39 : n0 ≤ by39 := Nat.le_trans Zy5 (Nat.le_of_eq gy39.symm)
    have szy39 : h0.size ≤ by39 := Nat.le_trans Ky5.1 (Nat.le_of_eq gy39.symm)
    have Zy39 : n0 ≤ hy39.size := Nat.le_trans Zy5 Ey39.1
    have Ky39 : Keep h0 hy39 [] := Ky5.ext Ey39
    have Vy39 : Arv Z hy39 by39 ky39 .int (3 : Int32) [(.int (0 : Int32)), (.int (0 : Int32)), (.int (0 : Int32))] (.int (0 : Int32)) := (Arv.new Ay39 (by decide)).pad (pad_rep [] (.int (0 : Int32)) 3)
    refine Fin.step (sty39) ?_
    show Fin p e below s _ _ _ (Ty39.setTop (mkF m 70 #[.val (.long qa), .second, .val (.long qb), .second, .val (.long qc), .second, .val (.long qd), .second, .val (.int kx), .val (.ref by1), .val (.int (3 : Int32)), .val (.int P0), .val (.int P1), .val (.int P2), .val (.int P3), .unset, .unset, .unset] [(.ref by39)]))
    refine Fin.step (fun _ => XS.astore Xy39.here hx rfl (hb hby at_70) rfl rfl (l' := #[.val (.long qa), .second, .val (.long qb), .second, .val (.long qc), .second, .val (.long qd), .second, .val (.int kx), .val (.ref by1), .val (.int (3 : Int32)), .val (.int P0), .val (.int P1), .val (.int P2), .val (.int P3), .val (.ref by39), .unset, .unset]) rfl) ?_
    show Fin p e below s _ _ _ (Ty39.setTop (mkF m 72 #[.val (.long qa), .second, .val (.long qb), .second, .val (.long qc), .second, .val (.long qd), .second, .val (.int kx), .val (.ref by1), .val (.int (3 : Int32)), .val (.int P0), .val (.int P1), .val (.int P2), .val (.int P3), .val (.ref by39), .unset, .unset] []))
    refine Fin.step (fun _ => XS.iload Xy39.here hx rfl (hb hby at_72) rfl) ?_
    show Fin p e below s _ _ _ (Ty39.setTop (mkF m 74 #[.val (.long qa), .second, .val (.long qb), .second, .val (.long qc), .second, .val (.long qd), .second, .val (.int kx), .val (.ref by1), .val (.int (3 : Int32)), .val (.int P0), .val (.int P1), .val (.int P2), .val (.int P3), .val (.ref by39), .unset, .unset] [(.int (3 : Int32))]))
    refine Fin.step (fun _ => XS.ifNo Xy39.here hx rfl (hb hby at_74) rfl ((if0 _ _).trans (tlt ((by decide) : ((0 : Int32) < (3 : Int32)))).2.2.2)) ?_
    show Fin p e below s _ _ _ (Ty39.setTop (mkF m 77 #[.val (.long qa), .second, .val (.long qb), .second, .val (.long qc), .second, .val (.long qd), .second, .val (.int kx), .val (.ref by1), .val (.int (3 : Int32)), .val (.int P0), .val (.int P1), .val (.int P2), .val (.int P3), .val (.ref by39), .unset, .unset] []))
    refine Fin.step (fun _ => XS.aload Xy39.here hx rfl (hb hby at_77) rfl rfl) ?_
    show Fin p e below s _ _ _ (Ty39.setTop (mkF m 79 #[.val (.long qa), .second, .val (.long qb), .second, .val (.long qc), .second, .val (.long qd), .second, .val (.int kx), .val (.ref by1), .val (.int (3 : Int32)), .val (.int P0), .val (.int P1), .val (.int P2), .val (.int P3), .val (.ref by39), .unset, .unset] [(.ref by39)]))
    refine Fin.step (fun _ => XS.iconst Xy39.here hx rfl (hb hby at_79)) ?_
    show Fin p e below s _ _ _ (Ty39.setTop (mkF m 80 #[.val (.long qa), .second, .val (.long qb), .second, .val (.long qc), .second, .val (.long qd), .second, .val (.int kx), .val (.ref by1), .val (.int (3 : Int32)), .val (.int P0), .val (.int P1), .val (.int P2), .val (.int P3), .val (.ref by39), .unset, .unset] [(.int (0 : Int32)), (.ref by39)]))
    refine Fin.step (fun _ => XS.iload Xy39.here hx rfl (hb hby at_80) rfl) ?_
    show Fin p e below s _ _ _ (Ty39.setTop (mkF m 82 #[.val (.long qa), .second, .val (.long qb), .second, .val (.long qc), .second, .val (.long qd), .second, .val (.int kx), .val (.ref by1), .val (.int (3 : Int32)), .val (.int P0), .val (.int P1), .val (.int P2), .val (.int P3), .val (.ref by39), .unset, .unset] [(.int P0), (.int (0 : Int32)), (.ref by39)]))
    have voy40 := Vy39
    obtain ⟨cly40, Ary40, qay40, say40, nay40, hay40, gay40⟩ := voy40
    obtain ⟨Ty40, hy40, Xy40, ey40, Wy40, sty40⟩ := stI Xy39 hx hZ ey39 Ary40 (j := (0 : Int32)) (inb_of say40 ⟨by decide, by decide⟩) (g := (mkF m 82 #[.val (.long qa), .second, .val (.long qb), .second, .val (.long qc), .second, .val (.long qd), .second, .val (.int kx), .val (.ref by1), .val (.int (3 : Int32)), .val (.int P0), .val (.int P1), .val (.int P2), .val (.int P3), .val (.ref by39), .unset, .unset] [(.int P0), (.int (0 : Int32)), (.ref by39)])) rfl rfl (hb hby at_82)
    have Vy40 : Arv Z hy40 by39 ky39 .int (3 : Int32) [(.int P0), (.int (0 : Int32)), (.int (0 : Int32))] (.int (0 : Int32)) := Arv.set Ary40 qay40 say40 nay40 hay40 gay40 rfl Wy40 0 rfl (Nat.le_of_ble_eq_true rfl)
    have Zy40 : n0 ≤ hy40.size := Nat.le_trans Zy39 (Keep.of_wr Wy40).1
    have Ky40 : Keep h0 hy40 [] := Ky39.wr Wy40 (Or.inr szy39)
    have Ny40 := Fr.snoc Xy40 Ny5 gzy39
    refine Fin.step (sty40) ?_
    show Fin p e below s _ _ _ (Ty40.setTop (mkF m 83 #[.val (.long qa), .second, .val (.long qb), .second, .val (.long qc), .second, .val (.long qd), .second, .val (.int kx), .val (.ref by1), .val (.int (3 : Int32)), .val (.int P0), .val (.int P1), .val (.int P2), .val (.int P3), .val (.ref by39), .unset, .unset] []))
    refine Fin.step (fun _ => XS.iload Xy40.here hx rfl (hb hby at_83) rfl) ?_
    show Fin p e below s _ _ _ (Ty40.setTop (mkF m 85 #[.val (.long qa), .second, .val (.long qb), .second, .val (.long qc), .second, .val (.long qd), .second, .val (.int kx), .val (.ref by1), .val (.int (3 : Int32)), .val (.int P0), .val (.int P1), .val (.int P2), .val (.int P3), .val (.ref by39), .unset, .unset] [(.int (3 : Int32))]))
    refine Fin.step (fun _ => XS.iconst Xy40.here hx rfl (hb hby at_85)) ?_
    show Fin p e below s _ _ _ (Ty40.setTop (mkF m 86 #[.val (.long qa), .second, .val (.long qb), .second, .val (.long qc), .second, .val (.long qd), .second, .val (.int kx), .val (.ref by1), .val (.int (3 : Int32)), .val (.int P0), .val (.int P1), .val (.int P2), .val (.int P3), .val (.ref by39), .unset, .unset] [(.int (1 : Int32)), (.int (3 : Int32))]))
    refine Fin.step (fun _ => XS.icmpNo Xy40.here hx rfl (hb hby at_86) rfl (tlt ((by decide) : ((1 : Int32) < (3 : Int32)))).2.2.2) ?_
    show Fin p e below s _ _ _ (Ty40.setTop (mkF m 89 #[.val (.long qa), .second, .val (.long qb), .second, .val (.long qc), .second, .val (.long qd), .second, .val (.int kx), .val (.ref by1), .val (.int (3 : Int32)), .val (.int P0), .val (.int P1), .val (.int P2), .val (.int P3), .val (.ref by39), .unset, .unset] []))
    refine Fin.step (fun _ => XS.aload Xy40.here hx rfl (hb hby at_89) rfl rfl) ?_
    show Fin p e below s _ _ _ (Ty40.setTop (mkF m 91 #[.val (.long qa), .second, .val (.long qb), .second, .val (.long qc), .second, .val (.long qd), .second, .val (.int kx), .val (.ref by1), .val (.int (3 : Int32)), .val (.int P0), .val (.int P1), .val (.int P2), .val (.int P3), .val (.ref by39), .unset, .unset] [(.ref by39)]))
    refine Fin.step (fun _ => XS.iconst Xy40.here hx rfl (hb hby at_91)) ?_
    show Fin p e below s _ _ _ (Ty40.setTop (mkF m 92 #[.val (.long qa), .second, .val (.long qb), .second, .val (.long qc), .second, .val (.long qd), .second, .val (.int kx), .val (.ref by1), .val (.int (3 : Int32)), .val (.int P0), .val (.int P1), .val (.int P2), .val (.int P3), .val (.ref by39), .unset, .unset] [(.int (1 : Int32)), (.ref by39)]))
    refine Fin.step (fun _ => XS.iload Xy40.here hx rfl (hb hby at_92) rfl) ?_
    show Fin p e below s _ _ _ (Ty40.setTop (mkF m 94 #[.val (.long qa), .second, .val (.long qb), .second, .val (.long qc), .second, .val (.long qd), .second, .val (.int kx), .val (.ref by1), .val (.int (3 : Int32)), .val (.int P0), .val (.int P1), .val (.int P2), .val (.int P3), .val (.ref by39), .unset, .unset] [(.int P1), (.int (1 : Int32)), (.ref by39)]))
    have voy41 := Vy40
    obtain ⟨cly41, Ary41, qay41, say41, nay41, hay41, gay41⟩ := voy41
    obtain ⟨Ty41, hy41, Xy41, ey41, Wy41, sty41⟩ := stI Xy40 hx hZ ey40 Ary41 (j := (1 : Int32)) (inb_of say41 ⟨by decide, by decide⟩) (g := (mkF m 94 #[.val (.long qa), .second, .val (.long qb), .second, .val (.long qc), .second, .val (.long qd), .second, .val (.int kx), .val (.ref by1), .val (.int (3 : Int32)), .val (.int P0), .val (.int P1), .val (.int P2), .val (.int P3), .val (.ref by39), .unset, .unset] [(.int P1), (.int (1 : Int32)), (.ref by39)])) rfl rfl (hb hby at_94)
    have Vy41 : Arv Z hy41 by39 ky39 .int (3 : Int32) [(.int P0), (.int P1), (.int (0 : Int32))] (.int (0 : Int32)) := Arv.set Ary41 qay41 say41 nay41 hay41 gay41 rfl Wy41 1 rfl (Nat.le_of_ble_eq_true rfl)
    have Zy41 : n0 ≤ hy41.size := Nat.le_trans Zy40 (Keep.of_wr Wy41).1
    have Ky41 : Keep h0 hy41 [] := Ky40.wr Wy41 (Or.inr szy39)
    have Ny41 := Fr.snoc Xy41 Ny40 gzy39
    refine Fin.step (sty41) ?_
    show Fin p e below s _ _ _ (Ty41.setTop (mkF m 95 #[.val (.long qa), .second, .val (.long qb), .second, .val (.long qc), .second, .val (.long qd), .second, .val (.int kx), .val (.ref by1), .val (.int (3 : Int32)), .val (.int P0), .val (.int P1), .val (.int P2), .val (.int P3), .val (.ref by39), .unset, .unset] []))
    refine Fin.step (fun _ => XS.iload Xy41.here hx rfl (hb hby at_95) rfl) ?_
    show Fin p e below s _ _ _ (Ty41.setTop (mkF m 97 #[.val (.long qa), .second, .val (.long qb), .second, .val (.long qc), .second, .val (.long qd), .second, .val (.int kx), .val (.ref by1), .val (.int (3 : Int32)), .val (.int P0), .val (.int P1), .val (.int P2), .val (.int P3), .val (.ref by39), .unset, .unset] [(.int (3 : Int32))]))
    refine Fin.step (fun _ => XS.iconst Xy41.here hx rfl (hb hby at_97)) ?_
    show Fin p e below s _ _ _ (Ty41.setTop (mkF m 98 #[.val (.long qa), .second, .val (.long qb), .second, .val (.long qc), .second, .val (.long qd), .second, .val (.int kx), .val (.ref by1), .val (.int (3 : Int32)), .val (.int P0), .val (.int P1), .val (.int P2), .val (.int P3), .val (.ref by39), .unset, .unset] [(.int (2 : Int32)), (.int (3 : Int32))]))
    refine Fin.step (fun _ => XS.icmpNo Xy41.here hx rfl (hb hby at_98) rfl (tlt ((by decide) : ((2 : Int32) < (3 : Int32)))).2.2.2) ?_
    show Fin p e below s _ _ _ (Ty41.setTop (mkF m 101 #[.val (.long qa), .second, .val (.long qb), .second, .val (.long qc), .second, .val (.long qd), .second, .val (.int kx), .val (.ref by1), .val (.int (3 : Int32)), .val (.int P0), .val (.int P1), .val (.int P2), .val (.int P3), .val (.ref by39), .unset, .unset] []))
    refine Fin.step (fun _ => XS.aload Xy41.here hx rfl (hb hby at_101) rfl rfl) ?_
    show Fin p e below s _ _ _ (Ty41.setTop (mkF m 103 #[.val (.long qa), .second, .val (.long qb), .second, .val (.long qc), .second, .val (.long qd), .second, .val (.int kx), .val (.ref by1), .val (.int (3 : Int32)), .val (.int P0), .val (.int P1), .val (.int P2), .val (.int P3), .val (.ref by39), .unset, .unset] [(.ref by39)]))
    refine Fin.step (fun _ => XS.iconst Xy41.here hx rfl (hb hby at_103)) ?_
    show Fin p e below s _ _ _ (Ty41.setTop (mkF m 104 #[.val (.long qa), .second, .val (.long qb), .second, .val (.long qc), .second, .val (.long qd), .second, .val (.int kx), .val (.ref by1), .val (.int (3 : Int32)), .val (.int P0), .val (.int P1), .val (.int P2), .val (.int P3), .val (.ref by39), .unset, .unset] [(.int (2 : Int32)), (.ref by39)]))
    refine Fin.step (fun _ => XS.iload Xy41.here hx rfl (hb hby at_104) rfl) ?_
    show Fin p e below s _ _ _ (Ty41.setTop (mkF m 106 #[.val (.long qa), .second, .val (.long qb), .second, .val (.long qc), .second, .val (.long qd), .second, .val (.int kx), .val (.ref by1), .val (.int (3 : Int32)), .val (.int P0), .val (.int P1), .val (.int P2), .val (.int P3), .val (.ref by39), .unset, .unset] [(.int P2), (.int (2 : Int32)), (.ref by39)]))
    have voy42 := Vy41
    obtain ⟨cly42, Ary42, qay42, say42, nay42, hay42, gay42⟩ := voy42
    obtain ⟨Ty42, hy42, Xy42, ey42, Wy42, sty42⟩ := stI Xy41 hx hZ ey41 Ary42 (j := (2 : Int32)) (inb_of say42 ⟨by decide, by decide⟩) (g := (mkF m 106 #[.val (.long qa), .second, .val (.long qb), .second, .val (.long qc), .second, .val (.long qd), .second, .val (.int kx), .val (.ref by1), .val (.int (3 : Int32)), .val (.int P0), .val (.int P1), .val (.int P2), .val (.int P3), .val (.ref by39), .unset, .unset] [(.int P2), (.int (2 : Int32)), (.ref by39)])) rfl rfl (hb hby at_106)
    have Vy42 : Arv Z hy42 by39 ky39 .int (3 : Int32) [(.int P0), (.int P1), (.int P2)] (.int (0 : Int32)) := Arv.set Ary42 qay42 say42 nay42 hay42 gay42 rfl Wy42 2 rfl (Nat.le_of_ble_eq_true rfl)
    have Zy42 : n0 ≤ hy42.size := Nat.le_trans Zy41 (Keep.of_wr Wy42).1
    have Ky42 : Keep h0 hy42 [] := Ky41.wr Wy42 (Or.inr szy39)
    have Ny42 := Fr.snoc Xy42 Ny41 gzy39
    refine Fin.step (sty42) ?_
    show Fin p e below s _ _ _ (Ty42.setTop (mkF m 107 #[.val (.long qa), .second, .val (.long qb), .second, .val (.long qc), .second, .val (.long qd), .second, .val (.int kx), .val (.ref by1), .val (.int (3 : Int32)), .val (.int P0), .val (.int P1), .val (.int P2), .val (.int P3), .val (.ref by39), .unset, .unset] []))
    refine Fin.step (fun _ => XS.iload Xy42.here hx rfl (hb hby at_107) rfl) ?_
    show Fin p e below s _ _ _ (Ty42.setTop (mkF m 109 #[.val (.long qa), .second, .val (.long qb), .second, .val (.long qc), .second, .val (.long qd), .second, .val (.int kx), .val (.ref by1), .val (.int (3 : Int32)), .val (.int P0), .val (.int P1), .val (.int P2), .val (.int P3), .val (.ref by39), .unset, .unset] [(.int (3 : Int32))]))
    refine Fin.step (fun _ => XS.iconst Xy42.here hx rfl (hb hby at_109)) ?_
    show Fin p e below s _ _ _ (Ty42.setTop (mkF m 110 #[.val (.long qa), .second, .val (.long qb), .second, .val (.long qc), .second, .val (.long qd), .second, .val (.int kx), .val (.ref by1), .val (.int (3 : Int32)), .val (.int P0), .val (.int P1), .val (.int P2), .val (.int P3), .val (.ref by39), .unset, .unset] [(.int (3 : Int32)), (.int (3 : Int32))]))
    refine Fin.step (fun _ => XS.icmpYes Xy42.here hx rfl (pc0 := 110) (pc' := 119) rfl (hb hby at_110) rfl (flt ((by decide) : ¬ ((3 : Int32) < (3 : Int32)))).2.2.2 (by decide) (by decide)) ?_
    show Fin p e below s _ _ _ (Ty42.setTop (mkF m 119 #[.val (.long qa), .second, .val (.long qb), .second, .val (.long qc), .second, .val (.long qd), .second, .val (.int kx), .val (.ref by1), .val (.int (3 : Int32)), .val (.int P0), .val (.int P1), .val (.int P2), .val (.int P3), .val (.ref by39), .unset, .unset] []))
    refine Fin.step (fun _ => XS.aload Xy42.here hx rfl (hb hby at_119) rfl rfl) ?_
    show Fin p e below s _ _ _ (Ty42.setTop (mkF m 121 #[.val (.long qa), .second, .val (.long qb), .second, .val (.long qc), .second, .val (.long qd), .second, .val (.int kx), .val (.ref by1), .val (.int (3 : Int32)), .val (.int P0), .val (.int P1), .val (.int P2), .val (.int P3), .val (.ref by39), .unset, .unset] [(.ref by1)]))
    refine Fin.step (fun _ => XS.aload Xy42.here hx rfl (hb hby at_121) rfl rfl) ?_
    show Fin p e below s _ _ _ (Ty42.setTop (mkF m 123 #[.val (.long qa), .second, .val (.long qb), .second, .val (.long qc), .second, .val (.long qd), .second, .val (.int kx), .val (.ref by1), .val (.int (3 : Int32)), .val (.int P0), .val (.int P1), .val (.int P2), .val (.int P3), .val (.ref by39), .unset, .unset] [(.ref by39), (.ref by1)]))
    obtain ⟨_, _, ⟨Ty43, Ly43, ky43, ny43⟩, -, Xy43, ⟨Lcy43, hQy43, ly43, yy43, zy43⟩, sty43⟩ := Jvm.LawKit.callS Xy42 hx (y := (⟨"com/example/uzor/uzor/Row", "pick", "([J[I)[J"⟩ : MethodName)) hown (mvT hZ (hw _ (List.mem_of_getElem? (i := 2) rfl))) (mvT hZ (hw _ (List.mem_of_getElem? (i := 3) rfl))) (mvT hZ (hw _ (List.mem_of_getElem? (i := 4) rfl))) (mvT hZ (hw _ (List.mem_of_getElem? (i := 5) rfl))) (by decide) (backOf (W := 0) (rmp3 l Z a0 hw [] by1 by39 ky1 ky39 qa qb qc qd P0 P1 P2 hy42 n0 Zy42 ((((Vy5.ext Ey39).other Wy40 (Nat.ne_of_lt (Nat.lt_of_lt_of_le Vy5.lt (Nat.le_of_eq gy39.symm)))).other Wy41 (Nat.ne_of_lt (Nat.lt_of_lt_of_le Vy5.lt (Nat.le_of_eq gy39.symm)))).other Wy42 (Nat.ne_of_lt (Nat.lt_of_lt_of_le Vy5.lt (Nat.le_of_eq gy39.symm)))) Vy42 r0 r1 r2) hZ (hw _ (List.mem_of_getElem? (i := 5) rfl)) (hw _ (List.mem_of_getElem? (i := 4) rfl)) (by decide) (by decide)) (g := (mkF m 123 #[.val (.long qa), .second, .val (.long qb), .second, .val (.long qc), .second, .val (.long qd), .second, .val (.int kx), .val (.ref by1), .val (.int (3 : Int32)), .val (.int P0), .val (.int P1), .val (.int P2), .val (.int P3), .val (.ref by39), .unset, .unset] [(.ref by39), (.ref by1)])) rfl (by rw [hml]; rfl) (argsL := [(.ref by1), (.ref by39)]) (rest := []) (lenOf pd_0 rfl) rfl (by show 2 * 0 + _ ≤ _; exact Nat.le_of_eq rfl) (hb hby at_123) (fun _ _ => ⟨rfl, ey42, (by decide : 2 + 1 ≤ _), (by decide : 7 + 3 ≤ _)⟩)
    dsimp only [Pt.U, Pt.locs, Pt.cells, Pt.slots] at Xy43 ly43 yy43 zy43 sty43 hQy43
    subst ly43 yy43 zy43
    obtain ⟨kk_y43, by43, rfl, bzy43, Nqy43, Kcy43, fy43_0⟩ := hQy43
    have Ny43 := Fr.app Ny42 Nqy43
    have gzy43 : n0 ≤ by43 := Nat.le_trans Zy42 bzy43
    have szy43 : h0.size ≤ by43 := Nat.le_trans Ky42.1 bzy43
    have Zy43 : n0 ≤ Ty43.heap.size := Nat.le_trans Zy42 Kcy43.1
    have Ky43 : Keep h0 Ty43.heap [] := Ky42.trans Kcy43 all0
    refine Fin.step (sty43) ?_
    show Fin p e below s _ _ _ (Ty43.setTop (mkF m 126 #[.val (.long qa), .second, .val (.long qb), .second, .val (.long qc), .second, .val (.long qd), .second, .val (.int kx), .val (.ref by1), .val (.int (3 : Int32)), .val (.int P0), .val (.int P1), .val (.int P2), .val (.int P3), .val (.ref by39), .unset, .unset] [(.ref by43)]))
    refine Fin.step (fun _ => XS.astore Xy43.here hx rfl (hb hby at_126) rfl rfl (l' := #[.val (.long qa), .second, .val (.long qb), .second, .val (.long qc), .second, .val (.long qd), .second, .val (.int kx), .val (.ref by1), .val (.int (3 : Int32)), .val (.int P0), .val (.int P1), .val (.int P2), .val (.int P3), .val (.ref by39), .val (.ref by43), .unset]) rfl) ?_
    show Fin p e below s _ _ _ (Ty43.setTop (mkF m 128 #[.val (.long qa), .second, .val (.long qb), .second, .val (.long qc), .second, .val (.long qd), .second, .val (.int kx), .val (.ref by1), .val (.int (3 : Int32)), .val (.int P0), .val (.int P1), .val (.int P2), .val (.int P3), .val (.ref by39), .val (.ref by43), .unset] []))
    refine Fin.step (fun _ => XS.aload Xy43.here hx rfl (hb hby at_128) rfl rfl) ?_
    show Fin p e below s _ _ _ (Ty43.setTop (mkF m 130 #[.val (.long qa), .second, .val (.long qb), .second, .val (.long qc), .second, .val (.long qd), .second, .val (.int kx), .val (.ref by1), .val (.int (3 : Int32)), .val (.int P0), .val (.int P1), .val (.int P2), .val (.int P3), .val (.ref by39), .val (.ref by43), .unset] [(.ref by43)]))
    refine Fin.step (fun _ => XS.ifnullNo Xy43.here hx rfl (hb hby at_130) rfl) ?_
    show Fin p e below s _ _ _ (Ty43.setTop (mkF m 133 #[.val (.long qa), .second, .val (.long qb), .second, .val (.long qc), .second, .val (.long qd), .second, .val (.int kx), .val (.ref by1), .val (.int (3 : Int32)), .val (.int P0), .val (.int P1), .val (.int P2), .val (.int P3), .val (.ref by39), .val (.ref by43), .unset] []))
    refine Fin.step (fun _ => XS.aload Xy43.here hx rfl (hb hby at_133) rfl rfl) ?_
    show Fin p e below s _ _ _ (Ty43.setTop (mkF m 135 #[.val (.long qa), .second, .val (.long qb), .second, .val (.long qc), .second, .val (.long qd), .second, .val (.int kx), .val (.ref by1), .val (.int (3 : Int32)), .val (.int P0), .val (.int P1), .val (.int P2), .val (.int P3), .val (.ref by39), .val (.ref by43), .unset] [(.ref by43)]))
    have voy44 := fy43_0
    obtain ⟨cly44, Ary44, qay44, say44, nay44, hay44, gay44⟩ := voy44
    refine Fin.step (Xy43.arraylength hx Ary44.1 (State.isArrayOf_alike hZ.alike Ary44.2.1) (g := (mkF m 135 #[.val (.long qa), .second, .val (.long qb), .second, .val (.long qc), .second, .val (.long qd), .second, .val (.int kx), .val (.ref by1), .val (.int (3 : Int32)), .val (.int P0), .val (.int P1), .val (.int P2), .val (.int P3), .val (.ref by39), .val (.ref by43), .unset] [(.ref by43)])) rfl rfl (hb hby at_135)) ?_
    rw [len_of say44 nay44]
    show Fin p e below s _ _ _ (Ty43.setTop (mkF m 136 #[.val (.long qa), .second, .val (.long qb), .second, .val (.long qc), .second, .val (.long qd), .second, .val (.int kx), .val (.ref by1), .val (.int (3 : Int32)), .val (.int P0), .val (.int P1), .val (.int P2), .val (.int P3), .val (.ref by39), .val (.ref by43), .unset] [(.int (3 : Int32))]))
    refine Fin.step (fun _ => XS.iload Xy43.here hx rfl (hb hby at_136) rfl) ?_
    show Fin p e below s _ _ _ (Ty43.setTop (mkF m 138 #[.val (.long qa), .second, .val (.long qb), .second, .val (.long qc), .second, .val (.long qd), .second, .val (.int kx), .val (.ref by1), .val (.int (3 : Int32)), .val (.int P0), .val (.int P1), .val (.int P2), .val (.int P3), .val (.ref by39), .val (.ref by43), .unset] [(.int (3 : Int32)), (.int (3 : Int32))]))
    refine Fin.step (fun _ => XS.icmpYes Xy43.here hx rfl (pc0 := 138) (pc' := 143) rfl (hb hby at_138) rfl (teq ((by decide) : ((3 : Int32) = (3 : Int32)))).1 (by decide) (by decide)) ?_
    show Fin p e below s _ _ _ (Ty43.setTop (mkF m 143 #[.val (.long qa), .second, .val (.long qb), .second, .val (.long qc), .second, .val (.long qd), .second, .val (.int kx), .val (.ref by1), .val (.int (3 : Int32)), .val (.int P0), .val (.int P1), .val (.int P2), .val (.int P3), .val (.ref by39), .val (.ref by43), .unset] []))
    refine Fin.step (fun _ => XS.aload Xy43.here hx rfl (hb hby at_143) rfl rfl) ?_
    show Fin p e below s _ _ _ (Ty43.setTop (mkF m 145 #[.val (.long qa), .second, .val (.long qb), .second, .val (.long qc), .second, .val (.long qd), .second, .val (.int kx), .val (.ref by1), .val (.int (3 : Int32)), .val (.int P0), .val (.int P1), .val (.int P2), .val (.int P3), .val (.ref by39), .val (.ref by43), .unset] [(.ref by1)]))
    refine Fin.step (fun _ => XS.iconst Xy43.here hx rfl (hb hby at_145)) ?_
    show Fin p e below s _ _ _ (Ty43.setTop (mkF m 146 #[.val (.long qa), .second, .val (.long qb), .second, .val (.long qc), .second, .val (.long qd), .second, .val (.int kx), .val (.ref by1), .val (.int (3 : Int32)), .val (.int P0), .val (.int P1), .val (.int P2), .val (.int P3), .val (.ref by39), .val (.ref by43), .unset] [(.int (0 : Int32)), (.ref by1)]))
    have voy45 := (((((Vy5.ext Ey39).other Wy40 (Nat.ne_of_lt (Nat.lt_of_lt_of_le Vy5.lt (Nat.le_of_eq gy39.symm)))).other Wy41 (Nat.ne_of_lt (Nat.lt_of_lt_of_le Vy5.lt (Nat.le_of_eq gy39.symm)))).other Wy42 (Nat.ne_of_lt (Nat.lt_of_lt_of_le Vy5.lt (Nat.le_of_eq gy39.symm)))).keep Kcy43 nin0)
    obtain ⟨cly45, Ary45, qay45, say45, nay45, hay45, gay45⟩ := voy45
    have iny45 := inb_of (j := (0 : Int32)) say45 ⟨by decide, by decide⟩
    refine Fin.step (Xy43.laload hx (j := (0 : Int32)) (v := (.long qa)) Ary45.1 (State.isArrayOf_alike hZ.alike Ary45.2.1) Ary45.2.2 iny45 (hay45.at iny45 rfl) (g := (mkF m 146 #[.val (.long qa), .second, .val (.long qb), .second, .val (.long qc), .second, .val (.long qd), .second, .val (.int kx), .val (.ref by1), .val (.int (3 : Int32)), .val (.int P0), .val (.int P1), .val (.int P2), .val (.int P3), .val (.ref by39), .val (.ref by43), .unset] [(.int (0 : Int32)), (.ref by1)])) rfl rfl (hb hby at_146)) ?_
    show Fin p e below s _ _ _ (Ty43.setTop (mkF m 147 #[.val (.long qa), .second, .val (.long qb), .second, .val (.long qc), .second, .val (.long qd), .second, .val (.int kx), .val (.ref by1), .val (.int (3 : Int32)), .val (.int P0), .val (.int P1), .val (.int P2), .val (.int P3), .val (.ref by39), .val (.ref by43), .unset] [(.long qa)]))
    refine Fin.step (fun _ => XS.lloadN Xy43.here hx rfl (hb hby at_147) rfl) ?_
    show Fin p e below s _ _ _ (Ty43.setTop (mkF m 148 #[.val (.long qa), .second, .val (.long qb), .second, .val (.long qc), .second, .val (.long qd), .second, .val (.int kx), .val (.ref by1), .val (.int (3 : Int32)), .val (.int P0), .val (.int P1), .val (.int P2), .val (.int P3), .val (.ref by39), .val (.ref by43), .unset] [(.long qa), (.long qa)]))
    refine Fin.step (fun _ => XS.lcmp Xy43.here hx rfl (hb hby at_148) rfl) ?_
    show Fin p e below s _ _ _ (Ty43.setTop (mkF m 149 #[.val (.long qa), .second, .val (.long qb), .second, .val (.long qc), .second, .val (.long qd), .second, .val (.int kx), .val (.ref by1), .val (.int (3 : Int32)), .val (.int P0), .val (.int P1), .val (.int P2), .val (.int P3), .val (.ref by39), .val (.ref by43), .unset] [(.int (lcmpW qa qa))]))
    refine Fin.step (fun _ => XS.ifNo Xy43.here hx rfl (hb hby at_149) rfl ((if0 _ _).trans (teq ((lcE rfl) : ((lcmpW qa qa) = (0 : Int32)))).2)) ?_
    show Fin p e below s _ _ _ (Ty43.setTop (mkF m 152 #[.val (.long qa), .second, .val (.long qb), .second, .val (.long qc), .second, .val (.long qd), .second, .val (.int kx), .val (.ref by1), .val (.int (3 : Int32)), .val (.int P0), .val (.int P1), .val (.int P2), .val (.int P3), .val (.ref by39), .val (.ref by43), .unset] []))
    refine Fin.step (fun _ => XS.aload Xy43.here hx rfl (hb hby at_152) rfl rfl) ?_
    show Fin p e below s _ _ _ (Ty43.setTop (mkF m 154 #[.val (.long qa), .second, .val (.long qb), .second, .val (.long qc), .second, .val (.long qd), .second, .val (.int kx), .val (.ref by1), .val (.int (3 : Int32)), .val (.int P0), .val (.int P1), .val (.int P2), .val (.int P3), .val (.ref by39), .val (.ref by43), .unset] [(.ref by1)]))
    refine Fin.step (fun _ => XS.iconst Xy43.here hx rfl (hb hby at_154)) ?_
    show Fin p e below s _ _ _ (Ty43.setTop (mkF m 155 #[.val (.long qa), .second, .val (.long qb), .second, .val (.long qc), .second, .val (.long qd), .second, .val (.int kx), .val (.ref by1), .val (.int (3 : Int32)), .val (.int P0), .val (.int P1), .val (.int P2), .val (.int P3), .val (.ref by39), .val (.ref by43), .unset] [(.int (1 : Int32)), (.ref by1)]))
    have voy46 := (((((Vy5.ext Ey39).other Wy40 (Nat.ne_of_lt (Nat.lt_of_lt_of_le Vy5.lt (Nat.le_of_eq gy39.symm)))).other Wy41 (Nat.ne_of_lt (Nat.lt_of_lt_of_le Vy5.lt (Nat.le_of_eq gy39.symm)))).other Wy42 (Nat.ne_of_lt (Nat.lt_of_lt_of_le Vy5.lt (Nat.le_of_eq gy39.symm)))).keep Kcy43 nin0)
    obtain ⟨cly46, Ary46, qay46, say46, nay46, hay46, gay46⟩ := voy46
    have iny46 := inb_of (j := (1 : Int32)) say46 ⟨by decide, by decide⟩
    refine Fin.step (Xy43.laload hx (j := (1 : Int32)) (v := (.long qb)) Ary46.1 (State.isArrayOf_alike hZ.alike Ary46.2.1) Ary46.2.2 iny46 (hay46.at iny46 rfl) (g := (mkF m 155 #[.val (.long qa), .second, .val (.long qb), .second, .val (.long qc), .second, .val (.long qd), .second, .val (.int kx), .val (.ref by1), .val (.int (3 : Int32)), .val (.int P0), .val (.int P1), .val (.int P2), .val (.int P3), .val (.ref by39), .val (.ref by43), .unset] [(.int (1 : Int32)), (.ref by1)])) rfl rfl (hb hby at_155)) ?_
    show Fin p e below s _ _ _ (Ty43.setTop (mkF m 156 #[.val (.long qa), .second, .val (.long qb), .second, .val (.long qc), .second, .val (.long qd), .second, .val (.int kx), .val (.ref by1), .val (.int (3 : Int32)), .val (.int P0), .val (.int P1), .val (.int P2), .val (.int P3), .val (.ref by39), .val (.ref by43), .unset] [(.long qb)]))
    refine Fin.step (fun _ => XS.lloadN Xy43.here hx rfl (hb hby at_156) rfl) ?_
    show Fin p e below s _ _ _ (Ty43.setTop (mkF m 157 #[.val (.long qa), .second, .val (.long qb), .second, .val (.long qc), .second, .val (.long qd), .second, .val (.int kx), .val (.ref by1), .val (.int (3 : Int32)), .val (.int P0), .val (.int P1), .val (.int P2), .val (.int P3), .val (.ref by39), .val (.ref by43), .unset] [(.long qb), (.long qb)]))
    refine Fin.step (fun _ => XS.lcmp Xy43.here hx rfl (hb hby at_157) rfl) ?_
    show Fin p e below s _ _ _ (Ty43.setTop (mkF m 158 #[.val (.long qa), .second, .val (.long qb), .second, .val (.long qc), .second, .val (.long qd), .second, .val (.int kx), .val (.ref by1), .val (.int (3 : Int32)), .val (.int P0), .val (.int P1), .val (.int P2), .val (.int P3), .val (.ref by39), .val (.ref by43), .unset] [(.int (lcmpW qb qb))]))
    refine Fin.step (fun _ => XS.ifNo Xy43.here hx rfl (hb hby at_158) rfl ((if0 _ _).trans (teq ((lcE rfl) : ((lcmpW qb qb) = (0 : Int32)))).2)) ?_
    show Fin p e below s _ _ _ (Ty43.setTop (mkF m 161 #[.val (.long qa), .second, .val (.long qb), .second, .val (.long qc), .second, .val (.long qd), .second, .val (.int kx), .val (.ref by1), .val (.int (3 : Int32)), .val (.int P0), .val (.int P1), .val (.int P2), .val (.int P3), .val (.ref by39), .val (.ref by43), .unset] []))
    refine Fin.step (fun _ => XS.aload Xy43.here hx rfl (hb hby at_161) rfl rfl) ?_
    show Fin p e below s _ _ _ (Ty43.setTop (mkF m 163 #[.val (.long qa), .second, .val (.long qb), .second, .val (.long qc), .second, .val (.long qd), .second, .val (.int kx), .val (.ref by1), .val (.int (3 : Int32)), .val (.int P0), .val (.int P1), .val (.int P2), .val (.int P3), .val (.ref by39), .val (.ref by43), .unset] [(.ref by1)]))
    refine Fin.step (fun _ => XS.iconst Xy43.here hx rfl (hb hby at_163)) ?_
    show Fin p e below s _ _ _ (Ty43.setTop (mkF m 164 #[.val (.long qa), .second, .val (.long qb), .second, .val (.long qc), .second, .val (.long qd), .second, .val (.int kx), .val (.ref by1), .val (.int (3 : Int32)), .val (.int P0), .val (.int P1), .val (.int P2), .val (.int P3), .val (.ref by39), .val (.ref by43), .unset] [(.int (2 : Int32)), (.ref by1)]))
    have voy47 := (((((Vy5.ext Ey39).other Wy40 (Nat.ne_of_lt (Nat.lt_of_lt_of_le Vy5.lt (Nat.le_of_eq gy39.symm)))).other Wy41 (Nat.ne_of_lt (Nat.lt_of_lt_of_le Vy5.lt (Nat.le_of_eq gy39.symm)))).other Wy42 (Nat.ne_of_lt (Nat.lt_of_lt_of_le Vy5.lt (Nat.le_of_eq gy39.symm)))).keep Kcy43 nin0)
    obtain ⟨cly47, Ary47, qay47, say47, nay47, hay47, gay47⟩ := voy47
    have iny47 := inb_of (j := (2 : Int32)) say47 ⟨by decide, by decide⟩
    refine Fin.step (Xy43.laload hx (j := (2 : Int32)) (v := (.long qc)) Ary47.1 (State.isArrayOf_alike hZ.alike Ary47.2.1) Ary47.2.2 iny47 (hay47.at iny47 rfl) (g := (mkF m 164 #[.val (.long qa), .second, .val (.long qb), .second, .val (.long qc), .second, .val (.long qd), .second, .val (.int kx), .val (.ref by1), .val (.int (3 : Int32)), .val (.int P0), .val (.int P1), .val (.int P2), .val (.int P3), .val (.ref by39), .val (.ref by43), .unset] [(.int (2 : Int32)), (.ref by1)])) rfl rfl (hb hby at_164)) ?_
    show Fin p e below s _ _ _ (Ty43.setTop (mkF m 165 #[.val (.long qa), .second, .val (.long qb), .second, .val (.long qc), .second, .val (.long qd), .second, .val (.int kx), .val (.ref by1), .val (.int (3 : Int32)), .val (.int P0), .val (.int P1), .val (.int P2), .val (.int P3), .val (.ref by39), .val (.ref by43), .unset] [(.long qc)]))
    refine Fin.step (fun _ => XS.lload Xy43.here hx rfl (hb hby at_165) rfl) ?_
    show Fin p e below s _ _ _ (Ty43.setTop (mkF m 167 #[.val (.long qa), .second, .val (.long qb), .second, .val (.long qc), .second, .val (.long qd), .second, .val (.int kx), .val (.ref by1), .val (.int (3 : Int32)), .val (.int P0), .val (.int P1), .val (.int P2), .val (.int P3), .val (.ref by39), .val (.ref by43), .unset] [(.long qc), (.long qc)]))
    refine Fin.step (fun _ => XS.lcmp Xy43.here hx rfl (hb hby at_167) rfl) ?_
    show Fin p e below s _ _ _ (Ty43.setTop (mkF m 168 #[.val (.long qa), .second, .val (.long qb), .second, .val (.long qc), .second, .val (.long qd), .second, .val (.int kx), .val (.ref by1), .val (.int (3 : Int32)), .val (.int P0), .val (.int P1), .val (.int P2), .val (.int P3), .val (.ref by39), .val (.ref by43), .unset] [(.int (lcmpW qc qc))]))
    refine Fin.step (fun _ => XS.ifNo Xy43.here hx rfl (hb hby at_168) rfl ((if0 _ _).trans (teq ((lcE rfl) : ((lcmpW qc qc) = (0 : Int32)))).2)) ?_
    show Fin p e below s _ _ _ (Ty43.setTop (mkF m 171 #[.val (.long qa), .second, .val (.long qb), .second, .val (.long qc), .second, .val (.long qd), .second, .val (.int kx), .val (.ref by1), .val (.int (3 : Int32)), .val (.int P0), .val (.int P1), .val (.int P2), .val (.int P3), .val (.ref by39), .val (.ref by43), .unset] []))
    refine Fin.step (fun _ => XS.aload Xy43.here hx rfl (hb hby at_171) rfl rfl) ?_
    show Fin p e below s _ _ _ (Ty43.setTop (mkF m 173 #[.val (.long qa), .second, .val (.long qb), .second, .val (.long qc), .second, .val (.long qd), .second, .val (.int kx), .val (.ref by1), .val (.int (3 : Int32)), .val (.int P0), .val (.int P1), .val (.int P2), .val (.int P3), .val (.ref by39), .val (.ref by43), .unset] [(.ref by1)]))
    refine Fin.step (fun _ => XS.iconst Xy43.here hx rfl (hb hby at_173)) ?_
    show Fin p e below s _ _ _ (Ty43.setTop (mkF m 174 #[.val (.long qa), .second, .val (.long qb), .second, .val (.long qc), .second, .val (.long qd), .second, .val (.int kx), .val (.ref by1), .val (.int (3 : Int32)), .val (.int P0), .val (.int P1), .val (.int P2), .val (.int P3), .val (.ref by39), .val (.ref by43), .unset] [(.int (3 : Int32)), (.ref by1)]))
    have voy48 := (((((Vy5.ext Ey39).other Wy40 (Nat.ne_of_lt (Nat.lt_of_lt_of_le Vy5.lt (Nat.le_of_eq gy39.symm)))).other Wy41 (Nat.ne_of_lt (Nat.lt_of_lt_of_le Vy5.lt (Nat.le_of_eq gy39.symm)))).other Wy42 (Nat.ne_of_lt (Nat.lt_of_lt_of_le Vy5.lt (Nat.le_of_eq gy39.symm)))).keep Kcy43 nin0)
    obtain ⟨cly48, Ary48, qay48, say48, nay48, hay48, gay48⟩ := voy48
    have iny48 := inb_of (j := (3 : Int32)) say48 ⟨by decide, by decide⟩
    refine Fin.step (Xy43.laload hx (j := (3 : Int32)) (v := (.long qd)) Ary48.1 (State.isArrayOf_alike hZ.alike Ary48.2.1) Ary48.2.2 iny48 (hay48.at iny48 rfl) (g := (mkF m 174 #[.val (.long qa), .second, .val (.long qb), .second, .val (.long qc), .second, .val (.long qd), .second, .val (.int kx), .val (.ref by1), .val (.int (3 : Int32)), .val (.int P0), .val (.int P1), .val (.int P2), .val (.int P3), .val (.ref by39), .val (.ref by43), .unset] [(.int (3 : Int32)), (.ref by1)])) rfl rfl (hb hby at_174)) ?_
    show Fin p e below s _ _ _ (Ty43.setTop (mkF m 175 #[.val (.long qa), .second, .val (.long qb), .second, .val (.long qc), .second, .val (.long qd), .second, .val (.int kx), .val (.ref by1), .val (.int (3 : Int32)), .val (.int P0), .val (.int P1), .val (.int P2), .val (.int P3), .val (.ref by39), .val (.ref by43), .unset] [(.long qd)]))
    refine Fin.step (fun _ => XS.lload Xy43.here hx rfl (hb hby at_175) rfl) ?_
    show Fin p e below s _ _ _ (Ty43.setTop (mkF m 177 #[.val (.long qa), .second, .val (.long qb), .second, .val (.long qc), .second, .val (.long qd), .second, .val (.int kx), .val (.ref by1), .val (.int (3 : Int32)), .val (.int P0), .val (.int P1), .val (.int P2), .val (.int P3), .val (.ref by39), .val (.ref by43), .unset] [(.long qd), (.long qd)]))
    refine Fin.step (fun _ => XS.lcmp Xy43.here hx rfl (hb hby at_177) rfl) ?_
    show Fin p e below s _ _ _ (Ty43.setTop (mkF m 178 #[.val (.long qa), .second, .val (.long qb), .second, .val (.long qc), .second, .val (.long qd), .second, .val (.int kx), .val (.ref by1), .val (.int (3 : Int32)), .val (.int P0), .val (.int P1), .val (.int P2), .val (.int P3), .val (.ref by39), .val (.ref by43), .unset] [(.int (lcmpW qd qd))]))
    refine Fin.step (fun _ => XS.ifNo Xy43.here hx rfl (hb hby at_178) rfl ((if0 _ _).trans (teq ((lcE rfl) : ((lcmpW qd qd) = (0 : Int32)))).2)) ?_
    show Fin p e below s _ _ _ (Ty43.setTop (mkF m 181 #[.val (.long qa), .second, .val (.long qb), .second, .val (.long qc), .second, .val (.long qd), .second, .val (.int kx), .val (.ref by1), .val (.int (3 : Int32)), .val (.int P0), .val (.int P1), .val (.int P2), .val (.int P3), .val (.ref by39), .val (.ref by43), .unset] []))
    refine Fin.step (fun _ => XS.iconst Xy43.here hx rfl (hb hby at_181)) ?_
    show Fin p e below s _ _ _ (Ty43.setTop (mkF m 182 #[.val (.long qa), .second, .val (.long qb), .second, .val (.long qc), .second, .val (.long qd), .second, .val (.int kx), .val (.ref by1), .val (.int (3 : Int32)), .val (.int P0), .val (.int P1), .val (.int P2), .val (.int P3), .val (.ref by39), .val (.ref by43), .unset] [(.int (1 : Int32))]))
    refine Fin.step (fun _ => XS.goto Xy43.here hx rfl (pc0 := 182) (pc' := 186) rfl (hb hby at_182) (by decide) (by decide)) ?_
    show Fin p e below s _ _ _ (Ty43.setTop (mkF m 186 #[.val (.long qa), .second, .val (.long qb), .second, .val (.long qc), .second, .val (.long qd), .second, .val (.int kx), .val (.ref by1), .val (.int (3 : Int32)), .val (.int P0), .val (.int P1), .val (.int P2), .val (.int P3), .val (.ref by39), .val (.ref by43), .unset] [(.int (1 : Int32))]))
    refine Fin.step (fun _ => XS.istore Xy43.here hx rfl (hb hby at_186) rfl (l' := #[.val (.long qa), .second, .val (.long qb), .second, .val (.long qc), .second, .val (.long qd), .second, .val (.int kx), .val (.ref by1), .val (.int (3 : Int32)), .val (.int P0), .val (.int P1), .val (.int P2), .val (.int P3), .val (.ref by39), .val (.ref by43), .val (.int (1 : Int32))]) rfl) ?_
    show Fin p e below s _ _ _ (Ty43.setTop (mkF m 188 #[.val (.long qa), .second, .val (.long qb), .second, .val (.long qc), .second, .val (.long qd), .second, .val (.int kx), .val (.ref by1), .val (.int (3 : Int32)), .val (.int P0), .val (.int P1), .val (.int P2), .val (.int P3), .val (.ref by39), .val (.ref by43), .val (.int (1 : Int32))] []))
    refine Fin.step (fun _ => XS.iload Xy43.here hx rfl (hb hby at_188) rfl) ?_
    show Fin p e below s _ _ _ (Ty43.setTop (mkF m 190 #[.val (.long qa), .second, .val (.long qb), .second, .val (.long qc), .second, .val (.long qd), .second, .val (.int kx), .val (.ref by1), .val (.int (3 : Int32)), .val (.int P0), .val (.int P1), .val (.int P2), .val (.int P3), .val (.ref by39), .val (.ref by43), .val (.int (1 : Int32))] [(.int (3 : Int32))]))
    refine Fin.step (fun _ => XS.ifNo Xy43.here hx rfl (hb hby at_190) rfl ((if0 _ _).trans (tlt ((by decide) : ((0 : Int32) < (3 : Int32)))).2.2.2)) ?_
    show Fin p e below s _ _ _ (Ty43.setTop (mkF m 193 #[.val (.long qa), .second, .val (.long qb), .second, .val (.long qc), .second, .val (.long qd), .second, .val (.int kx), .val (.ref by1), .val (.int (3 : Int32)), .val (.int P0), .val (.int P1), .val (.int P2), .val (.int P3), .val (.ref by39), .val (.ref by43), .val (.int (1 : Int32))] []))
    refine Fin.step (fun _ => XS.iload Xy43.here hx rfl (hb hby at_193) rfl) ?_
    show Fin p e below s _ _ _ (Ty43.setTop (mkF m 195 #[.val (.long qa), .second, .val (.long qb), .second, .val (.long qc), .second, .val (.long qd), .second, .val (.int kx), .val (.ref by1), .val (.int (3 : Int32)), .val (.int P0), .val (.int P1), .val (.int P2), .val (.int P3), .val (.ref by39), .val (.ref by43), .val (.int (1 : Int32))] [(.int (1 : Int32))]))
    refine Fin.step (fun _ => XS.ifNo Xy43.here hx rfl (hb hby at_195) rfl ((if0 _ _).trans (feq ((by decide) : ¬ ((1 : Int32) = (0 : Int32)))).1)) ?_
    show Fin p e below s _ _ _ (Ty43.setTop (mkF m 198 #[.val (.long qa), .second, .val (.long qb), .second, .val (.long qc), .second, .val (.long qd), .second, .val (.int kx), .val (.ref by1), .val (.int (3 : Int32)), .val (.int P0), .val (.int P1), .val (.int P2), .val (.int P3), .val (.ref by39), .val (.ref by43), .val (.int (1 : Int32))] []))
    refine Fin.step (fun _ => XS.aload Xy43.here hx rfl (hb hby at_198) rfl rfl) ?_
    show Fin p e below s _ _ _ (Ty43.setTop (mkF m 200 #[.val (.long qa), .second, .val (.long qb), .second, .val (.long qc), .second, .val (.long qd), .second, .val (.int kx), .val (.ref by1), .val (.int (3 : Int32)), .val (.int P0), .val (.int P1), .val (.int P2), .val (.int P3), .val (.ref by39), .val (.ref by43), .val (.int (1 : Int32))] [(.ref by39)]))
    refine Fin.step (fun _ => XS.iconst Xy43.here hx rfl (hb hby at_200)) ?_
    show Fin p e below s _ _ _ (Ty43.setTop (mkF m 201 #[.val (.long qa), .second, .val (.long qb), .second, .val (.long qc), .second, .val (.long qd), .second, .val (.int kx), .val (.ref by1), .val (.int (3 : Int32)), .val (.int P0), .val (.int P1), .val (.int P2), .val (.int P3), .val (.ref by39), .val (.ref by43), .val (.int (1 : Int32))] [(.int (0 : Int32)), (.ref by39)]))
    have voy49 := (Vy42.keep Kcy43 nin0)
    obtain ⟨cly49, Ary49, qay49, say49, nay49, hay49, gay49⟩ := voy49
    have iny49 := inb_of (j := (0 : Int32)) say49 ⟨by decide, by decide⟩
    refine Fin.step (Xy43.iaload hx (j := (0 : Int32)) (v := (.int P0)) Ary49.1 (State.isArrayOf_alike hZ.alike Ary49.2.1) Ary49.2.2 iny49 (hay49.at iny49 rfl) (g := (mkF m 201 #[.val (.long qa), .second, .val (.long qb), .second, .val (.long qc), .second, .val (.long qd), .second, .val (.int kx), .val (.ref by1), .val (.int (3 : Int32)), .val (.int P0), .val (.int P1), .val (.int P2), .val (.int P3), .val (.ref by39), .val (.ref by43), .val (.int (1 : Int32))] [(.int (0 : Int32)), (.ref by39)])) rfl rfl (hb hby at_201)) ?_
    show Fin p e below s _ _ _ (Ty43.setTop (mkF m 202 #[.val (.long qa), .second, .val (.long qb), .second, .val (.long qc), .second, .val (.long qd), .second, .val (.int kx), .val (.ref by1), .val (.int (3 : Int32)), .val (.int P0), .val (.int P1), .val (.int P2), .val (.int P3), .val (.ref by39), .val (.ref by43), .val (.int (1 : Int32))] [(.int P0)]))
    refine Fin.step (fun _ => XS.iload Xy43.here hx rfl (hb hby at_202) rfl) ?_
    show Fin p e below s _ _ _ (Ty43.setTop (mkF m 204 #[.val (.long qa), .second, .val (.long qb), .second, .val (.long qc), .second, .val (.long qd), .second, .val (.int kx), .val (.ref by1), .val (.int (3 : Int32)), .val (.int P0), .val (.int P1), .val (.int P2), .val (.int P3), .val (.ref by39), .val (.ref by43), .val (.int (1 : Int32))] [(.int P0), (.int P0)]))
    refine Fin.step (fun _ => XS.icmpNo Xy43.here hx rfl (hb hby at_204) rfl (teq (rfl : (P0 = P0))).2) ?_
    show Fin p e below s _ _ _ (Ty43.setTop (mkF m 207 #[.val (.long qa), .second, .val (.long qb), .second, .val (.long qc), .second, .val (.long qd), .second, .val (.int kx), .val (.ref by1), .val (.int (3 : Int32)), .val (.int P0), .val (.int P1), .val (.int P2), .val (.int P3), .val (.ref by39), .val (.ref by43), .val (.int (1 : Int32))] []))
    refine Fin.step (fun _ => XS.aload Xy43.here hx rfl (hb hby at_207) rfl rfl) ?_
    show Fin p e below s _ _ _ (Ty43.setTop (mkF m 209 #[.val (.long qa), .second, .val (.long qb), .second, .val (.long qc), .second, .val (.long qd), .second, .val (.int kx), .val (.ref by1), .val (.int (3 : Int32)), .val (.int P0), .val (.int P1), .val (.int P2), .val (.int P3), .val (.ref by39), .val (.ref by43), .val (.int (1 : Int32))] [(.ref by43)]))
    refine Fin.step (fun _ => XS.iconst Xy43.here hx rfl (hb hby at_209)) ?_
    show Fin p e below s _ _ _ (Ty43.setTop (mkF m 210 #[.val (.long qa), .second, .val (.long qb), .second, .val (.long qc), .second, .val (.long qd), .second, .val (.int kx), .val (.ref by1), .val (.int (3 : Int32)), .val (.int P0), .val (.int P1), .val (.int P2), .val (.int P3), .val (.ref by39), .val (.ref by43), .val (.int (1 : Int32))] [(.int (0 : Int32)), (.ref by43)]))
    have voy50 := fy43_0
    obtain ⟨cly50, Ary50, qay50, say50, nay50, hay50, gay50⟩ := voy50
    have iny50 := inb_of (j := (0 : Int32)) say50 ⟨by decide, by decide⟩
    refine Fin.step (Xy43.laload hx (j := (0 : Int32)) (v := (.long (own_ref P0 qa qb qc qd))) Ary50.1 (State.isArrayOf_alike hZ.alike Ary50.2.1) Ary50.2.2 iny50 (hay50.at iny50 rfl) (g := (mkF m 210 #[.val (.long qa), .second, .val (.long qb), .second, .val (.long qc), .second, .val (.long qd), .second, .val (.int kx), .val (.ref by1), .val (.int (3 : Int32)), .val (.int P0), .val (.int P1), .val (.int P2), .val (.int P3), .val (.ref by39), .val (.ref by43), .val (.int (1 : Int32))] [(.int (0 : Int32)), (.ref by43)])) rfl rfl (hb hby at_210)) ?_
    show Fin p e below s _ _ _ (Ty43.setTop (mkF m 211 #[.val (.long qa), .second, .val (.long qb), .second, .val (.long qc), .second, .val (.long qd), .second, .val (.int kx), .val (.ref by1), .val (.int (3 : Int32)), .val (.int P0), .val (.int P1), .val (.int P2), .val (.int P3), .val (.ref by39), .val (.ref by43), .val (.int (1 : Int32))] [(.long (own_ref P0 qa qb qc qd))]))
    refine Fin.step (fun _ => XS.iload Xy43.here hx rfl (hb hby at_211) rfl) ?_
    show Fin p e below s _ _ _ (Ty43.setTop (mkF m 213 #[.val (.long qa), .second, .val (.long qb), .second, .val (.long qc), .second, .val (.long qd), .second, .val (.int kx), .val (.ref by1), .val (.int (3 : Int32)), .val (.int P0), .val (.int P1), .val (.int P2), .val (.int P3), .val (.ref by39), .val (.ref by43), .val (.int (1 : Int32))] [(.int P0), (.long (own_ref P0 qa qb qc qd))]))
    refine Fin.step (fun _ => XS.lloadN Xy43.here hx rfl (hb hby at_213) rfl) ?_
    show Fin p e below s _ _ _ (Ty43.setTop (mkF m 214 #[.val (.long qa), .second, .val (.long qb), .second, .val (.long qc), .second, .val (.long qd), .second, .val (.int kx), .val (.ref by1), .val (.int (3 : Int32)), .val (.int P0), .val (.int P1), .val (.int P2), .val (.int P3), .val (.ref by39), .val (.ref by43), .val (.int (1 : Int32))] [(.long qa), (.int P0), (.long (own_ref P0 qa qb qc qd))]))
    refine Fin.step (fun _ => XS.lloadN Xy43.here hx rfl (hb hby at_214) rfl) ?_
    show Fin p e below s _ _ _ (Ty43.setTop (mkF m 215 #[.val (.long qa), .second, .val (.long qb), .second, .val (.long qc), .second, .val (.long qd), .second, .val (.int kx), .val (.ref by1), .val (.int (3 : Int32)), .val (.int P0), .val (.int P1), .val (.int P2), .val (.int P3), .val (.ref by39), .val (.ref by43), .val (.int (1 : Int32))] [(.long qb), (.long qa), (.int P0), (.long (own_ref P0 qa qb qc qd))]))
    refine Fin.step (fun _ => XS.lload Xy43.here hx rfl (hb hby at_215) rfl) ?_
    show Fin p e below s _ _ _ (Ty43.setTop (mkF m 217 #[.val (.long qa), .second, .val (.long qb), .second, .val (.long qc), .second, .val (.long qd), .second, .val (.int kx), .val (.ref by1), .val (.int (3 : Int32)), .val (.int P0), .val (.int P1), .val (.int P2), .val (.int P3), .val (.ref by39), .val (.ref by43), .val (.int (1 : Int32))] [(.long qc), (.long qb), (.long qa), (.int P0), (.long (own_ref P0 qa qb qc qd))]))
    refine Fin.step (fun _ => XS.lload Xy43.here hx rfl (hb hby at_217) rfl) ?_
    show Fin p e below s _ _ _ (Ty43.setTop (mkF m 219 #[.val (.long qa), .second, .val (.long qb), .second, .val (.long qc), .second, .val (.long qd), .second, .val (.int kx), .val (.ref by1), .val (.int (3 : Int32)), .val (.int P0), .val (.int P1), .val (.int P2), .val (.int P3), .val (.ref by39), .val (.ref by43), .val (.int (1 : Int32))] [(.long qd), (.long qc), (.long qb), (.long qa), (.int P0), (.long (own_ref P0 qa qb qc qd))]))
    obtain ⟨_, _, ⟨Ty51, Ly51, ky51, ny51⟩, -, Xy51, ⟨Lcy51, hQy51, ly51, yy51, zy51⟩, sty51⟩ := Jvm.LawKit.callS Xy43 hx (y := (⟨"com/example/uzor/uzor/RowPickPinLaw", "ref", "(IJJJJ)J"⟩ : MethodName)) hown (mvT hZ (hw _ (List.mem_of_getElem? (i := 6) rfl))) (mvT hZ (hw _ (List.mem_of_getElem? (i := 7) rfl))) (mvT hZ (hw _ (List.mem_of_getElem? (i := 8) rfl))) (mvT hZ (hw _ (List.mem_of_getElem? (i := 9) rfl))) (by decide) (backOf (W := 2) (rm2 l Z a0 hw [] P0 qa qb qc qd Ty43.heap n0 Zy43 ) hZ (hw _ (List.mem_of_getElem? (i := 9) rfl)) (hw _ (List.mem_of_getElem? (i := 8) rfl)) (by decide) (by decide)) (g := (mkF m 219 #[.val (.long qa), .second, .val (.long qb), .second, .val (.long qc), .second, .val (.long qd), .second, .val (.int kx), .val (.ref by1), .val (.int (3 : Int32)), .val (.int P0), .val (.int P1), .val (.int P2), .val (.int P3), .val (.ref by39), .val (.ref by43), .val (.int (1 : Int32))] [(.long qd), (.long qc), (.long qb), (.long qa), (.int P0), (.long (own_ref P0 qa qb qc qd))])) rfl (by rw [hml]; rfl) (argsL := [(.int P0), (.long qa), (.long qb), (.long qc), (.long qd)]) (rest := [(.long (own_ref P0 qa qb qc qd))]) (lenOf pd_1 rfl) rfl (by show 2 * 0 + _ ≤ _; exact Nat.le_of_eq rfl) (hb hby at_219) (fun _ _ => ⟨rfl, rfl, (by decide : 3 + 0 ≤ _), (by decide : 10 + 0 ≤ _)⟩)
    dsimp only [Pt.U, Pt.locs, Pt.cells, Pt.slots] at Xy51 ly51 yy51 zy51 sty51 hQy51
    subst ly51 yy51 zy51
    obtain ⟨rfl, Nqy51, eqy51⟩ := hQy51
    have Ny51 := Fr.app Ny43 Nqy51
    refine Fin.step (sty51) ?_
    show Fin p e below s _ _ _ (Ty51.setTop (mkF m 222 #[.val (.long qa), .second, .val (.long qb), .second, .val (.long qc), .second, .val (.long qd), .second, .val (.int kx), .val (.ref by1), .val (.int (3 : Int32)), .val (.int P0), .val (.int P1), .val (.int P2), .val (.int P3), .val (.ref by39), .val (.ref by43), .val (.int (1 : Int32))] [(.long (own_ref P0 qa qb qc qd)), (.long (own_ref P0 qa qb qc qd))]))
    refine Fin.step (fun _ => XS.lcmp Xy51.here hx rfl (hb hby at_222) rfl) ?_
    show Fin p e below s _ _ _ (Ty51.setTop (mkF m 223 #[.val (.long qa), .second, .val (.long qb), .second, .val (.long qc), .second, .val (.long qd), .second, .val (.int kx), .val (.ref by1), .val (.int (3 : Int32)), .val (.int P0), .val (.int P1), .val (.int P2), .val (.int P3), .val (.ref by39), .val (.ref by43), .val (.int (1 : Int32))] [(.int (lcmpW (own_ref P0 qa qb qc qd) (own_ref P0 qa qb qc qd)))]))
    refine Fin.step (fun _ => XS.ifNo Xy51.here hx rfl (hb hby at_223) rfl ((if0 _ _).trans (teq ((lcE rfl) : ((lcmpW (own_ref P0 qa qb qc qd) (own_ref P0 qa qb qc qd)) = (0 : Int32)))).2)) ?_
    show Fin p e below s _ _ _ (Ty51.setTop (mkF m 226 #[.val (.long qa), .second, .val (.long qb), .second, .val (.long qc), .second, .val (.long qd), .second, .val (.int kx), .val (.ref by1), .val (.int (3 : Int32)), .val (.int P0), .val (.int P1), .val (.int P2), .val (.int P3), .val (.ref by39), .val (.ref by43), .val (.int (1 : Int32))] []))
    refine Fin.step (fun _ => XS.iconst Xy51.here hx rfl (hb hby at_226)) ?_
    show Fin p e below s _ _ _ (Ty51.setTop (mkF m 227 #[.val (.long qa), .second, .val (.long qb), .second, .val (.long qc), .second, .val (.long qd), .second, .val (.int kx), .val (.ref by1), .val (.int (3 : Int32)), .val (.int P0), .val (.int P1), .val (.int P2), .val (.int P3), .val (.ref by39), .val (.ref by43), .val (.int (1 : Int32))] [(.int (1 : Int32))]))
    refine Fin.step (fun _ => XS.goto Xy51.here hx rfl (pc0 := 227) (pc' := 231) rfl (hb hby at_227) (by decide) (by decide)) ?_
    show Fin p e below s _ _ _ (Ty51.setTop (mkF m 231 #[.val (.long qa), .second, .val (.long qb), .second, .val (.long qc), .second, .val (.long qd), .second, .val (.int kx), .val (.ref by1), .val (.int (3 : Int32)), .val (.int P0), .val (.int P1), .val (.int P2), .val (.int P3), .val (.ref by39), .val (.ref by43), .val (.int (1 : Int32))] [(.int (1 : Int32))]))
    refine Fin.step (fun _ => XS.istore Xy51.here hx rfl (hb hby at_231) rfl (l' := #[.val (.long qa), .second, .val (.long qb), .second, .val (.long qc), .second, .val (.long qd), .second, .val (.int kx), .val (.ref by1), .val (.int (3 : Int32)), .val (.int P0), .val (.int P1), .val (.int P2), .val (.int P3), .val (.ref by39), .val (.ref by43), .val (.int (1 : Int32))]) rfl) ?_
    show Fin p e below s _ _ _ (Ty51.setTop (mkF m 233 #[.val (.long qa), .second, .val (.long qb), .second, .val (.long qc), .second, .val (.long qd), .second, .val (.int kx), .val (.ref by1), .val (.int (3 : Int32)), .val (.int P0), .val (.int P1), .val (.int P2), .val (.int P3), .val (.ref by39), .val (.ref by43), .val (.int (1 : Int32))] []))
    refine Fin.step (fun _ => XS.iload Xy51.here hx rfl (hb hby at_233) rfl) ?_
    show Fin p e below s _ _ _ (Ty51.setTop (mkF m 235 #[.val (.long qa), .second, .val (.long qb), .second, .val (.long qc), .second, .val (.long qd), .second, .val (.int kx), .val (.ref by1), .val (.int (3 : Int32)), .val (.int P0), .val (.int P1), .val (.int P2), .val (.int P3), .val (.ref by39), .val (.ref by43), .val (.int (1 : Int32))] [(.int (3 : Int32))]))
    refine Fin.step (fun _ => XS.iconst Xy51.here hx rfl (hb hby at_235)) ?_
    show Fin p e below s _ _ _ (Ty51.setTop (mkF m 236 #[.val (.long qa), .second, .val (.long qb), .second, .val (.long qc), .second, .val (.long qd), .second, .val (.int kx), .val (.ref by1), .val (.int (3 : Int32)), .val (.int P0), .val (.int P1), .val (.int P2), .val (.int P3), .val (.ref by39), .val (.ref by43), .val (.int (1 : Int32))] [(.int (1 : Int32)), (.int (3 : Int32))]))
    refine Fin.step (fun _ => XS.icmpNo Xy51.here hx rfl (hb hby at_236) rfl (tlt ((by decide) : ((1 : Int32) < (3 : Int32)))).2.2.2) ?_
    show Fin p e below s _ _ _ (Ty51.setTop (mkF m 239 #[.val (.long qa), .second, .val (.long qb), .second, .val (.long qc), .second, .val (.long qd), .second, .val (.int kx), .val (.ref by1), .val (.int (3 : Int32)), .val (.int P0), .val (.int P1), .val (.int P2), .val (.int P3), .val (.ref by39), .val (.ref by43), .val (.int (1 : Int32))] []))
    refine Fin.step (fun _ => XS.iload Xy51.here hx rfl (hb hby at_239) rfl) ?_
    show Fin p e below s _ _ _ (Ty51.setTop (mkF m 241 #[.val (.long qa), .second, .val (.long qb), .second, .val (.long qc), .second, .val (.long qd), .second, .val (.int kx), .val (.ref by1), .val (.int (3 : Int32)), .val (.int P0), .val (.int P1), .val (.int P2), .val (.int P3), .val (.ref by39), .val (.ref by43), .val (.int (1 : Int32))] [(.int (1 : Int32))]))
    refine Fin.step (fun _ => XS.ifNo Xy51.here hx rfl (hb hby at_241) rfl ((if0 _ _).trans (feq ((by decide) : ¬ ((1 : Int32) = (0 : Int32)))).1)) ?_
    show Fin p e below s _ _ _ (Ty51.setTop (mkF m 244 #[.val (.long qa), .second, .val (.long qb), .second, .val (.long qc), .second, .val (.long qd), .second, .val (.int kx), .val (.ref by1), .val (.int (3 : Int32)), .val (.int P0), .val (.int P1), .val (.int P2), .val (.int P3), .val (.ref by39), .val (.ref by43), .val (.int (1 : Int32))] []))
    refine Fin.step (fun _ => XS.aload Xy51.here hx rfl (hb hby at_244) rfl rfl) ?_
    show Fin p e below s _ _ _ (Ty51.setTop (mkF m 246 #[.val (.long qa), .second, .val (.long qb), .second, .val (.long qc), .second, .val (.long qd), .second, .val (.int kx), .val (.ref by1), .val (.int (3 : Int32)), .val (.int P0), .val (.int P1), .val (.int P2), .val (.int P3), .val (.ref by39), .val (.ref by43), .val (.int (1 : Int32))] [(.ref by39)]))
    refine Fin.step (fun _ => XS.iconst Xy51.here hx rfl (hb hby at_246)) ?_
    show Fin p e below s _ _ _ (Ty51.setTop (mkF m 247 #[.val (.long qa), .second, .val (.long qb), .second, .val (.long qc), .second, .val (.long qd), .second, .val (.int kx), .val (.ref by1), .val (.int (3 : Int32)), .val (.int P0), .val (.int P1), .val (.int P2), .val (.int P3), .val (.ref by39), .val (.ref by43), .val (.int (1 : Int32))] [(.int (1 : Int32)), (.ref by39)]))
    have voy52 := (Vy42.keep Kcy43 nin0)
    obtain ⟨cly52, Ary52, qay52, say52, nay52, hay52, gay52⟩ := voy52
    have iny52 := inb_of (j := (1 : Int32)) say52 ⟨by decide, by decide⟩
    refine Fin.step (Xy51.iaload hx (j := (1 : Int32)) (v := (.int P1)) (by rw [eqy51]; exact Ary52.1) (State.isArrayOf_alike hZ.alike Ary52.2.1) Ary52.2.2 iny52 (hay52.at iny52 rfl) (g := (mkF m 247 #[.val (.long qa), .second, .val (.long qb), .second, .val (.long qc), .second, .val (.long qd), .second, .val (.int kx), .val (.ref by1), .val (.int (3 : Int32)), .val (.int P0), .val (.int P1), .val (.int P2), .val (.int P3), .val (.ref by39), .val (.ref by43), .val (.int (1 : Int32))] [(.int (1 : Int32)), (.ref by39)])) rfl rfl (hb hby at_247)) ?_
    show Fin p e below s _ _ _ (Ty51.setTop (mkF m 248 #[.val (.long qa), .second, .val (.long qb), .second, .val (.long qc), .second, .val (.long qd), .second, .val (.int kx), .val (.ref by1), .val (.int (3 : Int32)), .val (.int P0), .val (.int P1), .val (.int P2), .val (.int P3), .val (.ref by39), .val (.ref by43), .val (.int (1 : Int32))] [(.int P1)]))
    refine Fin.step (fun _ => XS.iload Xy51.here hx rfl (hb hby at_248) rfl) ?_
    show Fin p e below s _ _ _ (Ty51.setTop (mkF m 250 #[.val (.long qa), .second, .val (.long qb), .second, .val (.long qc), .second, .val (.long qd), .second, .val (.int kx), .val (.ref by1), .val (.int (3 : Int32)), .val (.int P0), .val (.int P1), .val (.int P2), .val (.int P3), .val (.ref by39), .val (.ref by43), .val (.int (1 : Int32))] [(.int P1), (.int P1)]))
    refine Fin.step (fun _ => XS.icmpNo Xy51.here hx rfl (hb hby at_250) rfl (teq (rfl : (P1 = P1))).2) ?_
    show Fin p e below s _ _ _ (Ty51.setTop (mkF m 253 #[.val (.long qa), .second, .val (.long qb), .second, .val (.long qc), .second, .val (.long qd), .second, .val (.int kx), .val (.ref by1), .val (.int (3 : Int32)), .val (.int P0), .val (.int P1), .val (.int P2), .val (.int P3), .val (.ref by39), .val (.ref by43), .val (.int (1 : Int32))] []))
    refine Fin.step (fun _ => XS.aload Xy51.here hx rfl (hb hby at_253) rfl rfl) ?_
    show Fin p e below s _ _ _ (Ty51.setTop (mkF m 255 #[.val (.long qa), .second, .val (.long qb), .second, .val (.long qc), .second, .val (.long qd), .second, .val (.int kx), .val (.ref by1), .val (.int (3 : Int32)), .val (.int P0), .val (.int P1), .val (.int P2), .val (.int P3), .val (.ref by39), .val (.ref by43), .val (.int (1 : Int32))] [(.ref by43)]))
    refine Fin.step (fun _ => XS.iconst Xy51.here hx rfl (hb hby at_255)) ?_
    show Fin p e below s _ _ _ (Ty51.setTop (mkF m 256 #[.val (.long qa), .second, .val (.long qb), .second, .val (.long qc), .second, .val (.long qd), .second, .val (.int kx), .val (.ref by1), .val (.int (3 : Int32)), .val (.int P0), .val (.int P1), .val (.int P2), .val (.int P3), .val (.ref by39), .val (.ref by43), .val (.int (1 : Int32))] [(.int (1 : Int32)), (.ref by43)]))
    have voy53 := fy43_0
    obtain ⟨cly53, Ary53, qay53, say53, nay53, hay53, gay53⟩ := voy53
    have iny53 := inb_of (j := (1 : Int32)) say53 ⟨by decide, by decide⟩
    refine Fin.step (Xy51.laload hx (j := (1 : Int32)) (v := (.long (own_ref P1 qa qb qc qd))) (by rw [eqy51]; exact Ary53.1) (State.isArrayOf_alike hZ.alike Ary53.2.1) Ary53.2.2 iny53 (hay53.at iny53 rfl) (g := (mkF m 256 #[.val (.long qa), .second, .val (.long qb), .second, .val (.long qc), .second, .val (.long qd), .second, .val (.int kx), .val (.ref by1), .val (.int (3 : Int32)), .val (.int P0), .val (.int P1), .val (.int P2), .val (.int P3), .val (.ref by39), .val (.ref by43), .val (.int (1 : Int32))] [(.int (1 : Int32)), (.ref by43)])) rfl rfl (hb hby at_256)) ?_
    show Fin p e below s _ _ _ (Ty51.setTop (mkF m 257 #[.val (.long qa), .second, .val (.long qb), .second, .val (.long qc), .second, .val (.long qd), .second, .val (.int kx), .val (.ref by1), .val (.int (3 : Int32)), .val (.int P0), .val (.int P1), .val (.int P2), .val (.int P3), .val (.ref by39), .val (.ref by43), .val (.int (1 : Int32))] [(.long (own_ref P1 qa qb qc qd))]))
    refine Fin.step (fun _ => XS.iload Xy51.here hx rfl (hb hby at_257) rfl) ?_
    show Fin p e below s _ _ _ (Ty51.setTop (mkF m 259 #[.val (.long qa), .second, .val (.long qb), .second, .val (.long qc), .second, .val (.long qd), .second, .val (.int kx), .val (.ref by1), .val (.int (3 : Int32)), .val (.int P0), .val (.int P1), .val (.int P2), .val (.int P3), .val (.ref by39), .val (.ref by43), .val (.int (1 : Int32))] [(.int P1), (.long (own_ref P1 qa qb qc qd))]))
    refine Fin.step (fun _ => XS.lloadN Xy51.here hx rfl (hb hby at_259) rfl) ?_
    show Fin p e below s _ _ _ (Ty51.setTop (mkF m 260 #[.val (.long qa), .second, .val (.long qb), .second, .val (.long qc), .second, .val (.long qd), .second, .val (.int kx), .val (.ref by1), .val (.int (3 : Int32)), .val (.int P0), .val (.int P1), .val (.int P2), .val (.int P3), .val (.ref by39), .val (.ref by43), .val (.int (1 : Int32))] [(.long qa), (.int P1), (.long (own_ref P1 qa qb qc qd))]))
    refine Fin.step (fun _ => XS.lloadN Xy51.here hx rfl (hb hby at_260) rfl) ?_
    show Fin p e below s _ _ _ (Ty51.setTop (mkF m 261 #[.val (.long qa), .second, .val (.long qb), .second, .val (.long qc), .second, .val (.long qd), .second, .val (.int kx), .val (.ref by1), .val (.int (3 : Int32)), .val (.int P0), .val (.int P1), .val (.int P2), .val (.int P3), .val (.ref by39), .val (.ref by43), .val (.int (1 : Int32))] [(.long qb), (.long qa), (.int P1), (.long (own_ref P1 qa qb qc qd))]))
    refine Fin.step (fun _ => XS.lload Xy51.here hx rfl (hb hby at_261) rfl) ?_
    show Fin p e below s _ _ _ (Ty51.setTop (mkF m 263 #[.val (.long qa), .second, .val (.long qb), .second, .val (.long qc), .second, .val (.long qd), .second, .val (.int kx), .val (.ref by1), .val (.int (3 : Int32)), .val (.int P0), .val (.int P1), .val (.int P2), .val (.int P3), .val (.ref by39), .val (.ref by43), .val (.int (1 : Int32))] [(.long qc), (.long qb), (.long qa), (.int P1), (.long (own_ref P1 qa qb qc qd))]))
    refine Fin.step (fun _ => XS.lload Xy51.here hx rfl (hb hby at_263) rfl) ?_
    show Fin p e below s _ _ _ (Ty51.setTop (mkF m 265 #[.val (.long qa), .second, .val (.long qb), .second, .val (.long qc), .second, .val (.long qd), .second, .val (.int kx), .val (.ref by1), .val (.int (3 : Int32)), .val (.int P0), .val (.int P1), .val (.int P2), .val (.int P3), .val (.ref by39), .val (.ref by43), .val (.int (1 : Int32))] [(.long qd), (.long qc), (.long qb), (.long qa), (.int P1), (.long (own_ref P1 qa qb qc qd))]))
    obtain ⟨_, _, ⟨Ty54, Ly54, ky54, ny54⟩, -, Xy54, ⟨Lcy54, hQy54, ly54, yy54, zy54⟩, sty54⟩ := Jvm.LawKit.callS Xy51 hx (y := (⟨"com/example/uzor/uzor/RowPickPinLaw", "ref", "(IJJJJ)J"⟩ : MethodName)) hown (mvT hZ (hw _ (List.mem_of_getElem? (i := 6) rfl))) (mvT hZ (hw _ (List.mem_of_getElem? (i := 7) rfl))) (mvT hZ (hw _ (List.mem_of_getElem? (i := 8) rfl))) (mvT hZ (hw _ (List.mem_of_getElem? (i := 9) rfl))) (by decide) (backOf (W := 2) (rm2 l Z a0 hw [] P1 qa qb qc qd Ty43.heap n0 Zy43 ) hZ (hw _ (List.mem_of_getElem? (i := 9) rfl)) (hw _ (List.mem_of_getElem? (i := 8) rfl)) (by decide) (by decide)) (g := (mkF m 265 #[.val (.long qa), .second, .val (.long qb), .second, .val (.long qc), .second, .val (.long qd), .second, .val (.int kx), .val (.ref by1), .val (.int (3 : Int32)), .val (.int P0), .val (.int P1), .val (.int P2), .val (.int P3), .val (.ref by39), .val (.ref by43), .val (.int (1 : Int32))] [(.long qd), (.long qc), (.long qb), (.long qa), (.int P1), (.long (own_ref P1 qa qb qc qd))])) rfl (by rw [hml]; rfl) (argsL := [(.int P1), (.long qa), (.long qb), (.long qc), (.long qd)]) (rest := [(.long (own_ref P1 qa qb qc qd))]) (lenOf pd_1 rfl) rfl (by show 2 * 0 + _ ≤ _; exact Nat.le_of_eq rfl) (hb hby at_265) (fun _ _ => ⟨rfl, eqy51, (by decide : 3 + 0 ≤ _), (by decide : 10 + 0 ≤ _)⟩)
    dsimp only [Pt.U, Pt.locs, Pt.cells, Pt.slots] at Xy54 ly54 yy54 zy54 sty54 hQy54
    subst ly54 yy54 zy54
    obtain ⟨rfl, Nqy54, eqy54⟩ := hQy54
    have Ny54 := Fr.app Ny51 Nqy54
    refine Fin.step (sty54) ?_
    show Fin p e below s _ _ _ (Ty54.setTop (mkF m 268 #[.val (.long qa), .second, .val (.long qb), .second, .val (.long qc), .second, .val (.long qd), .second, .val (.int kx), .val (.ref by1), .val (.int (3 : Int32)), .val (.int P0), .val (.int P1), .val (.int P2), .val (.int P3), .val (.ref by39), .val (.ref by43), .val (.int (1 : Int32))] [(.long (own_ref P1 qa qb qc qd)), (.long (own_ref P1 qa qb qc qd))]))
    refine Fin.step (fun _ => XS.lcmp Xy54.here hx rfl (hb hby at_268) rfl) ?_
    show Fin p e below s _ _ _ (Ty54.setTop (mkF m 269 #[.val (.long qa), .second, .val (.long qb), .second, .val (.long qc), .second, .val (.long qd), .second, .val (.int kx), .val (.ref by1), .val (.int (3 : Int32)), .val (.int P0), .val (.int P1), .val (.int P2), .val (.int P3), .val (.ref by39), .val (.ref by43), .val (.int (1 : Int32))] [(.int (lcmpW (own_ref P1 qa qb qc qd) (own_ref P1 qa qb qc qd)))]))
    refine Fin.step (fun _ => XS.ifNo Xy54.here hx rfl (hb hby at_269) rfl ((if0 _ _).trans (teq ((lcE rfl) : ((lcmpW (own_ref P1 qa qb qc qd) (own_ref P1 qa qb qc qd)) = (0 : Int32)))).2)) ?_
    show Fin p e below s _ _ _ (Ty54.setTop (mkF m 272 #[.val (.long qa), .second, .val (.long qb), .second, .val (.long qc), .second, .val (.long qd), .second, .val (.int kx), .val (.ref by1), .val (.int (3 : Int32)), .val (.int P0), .val (.int P1), .val (.int P2), .val (.int P3), .val (.ref by39), .val (.ref by43), .val (.int (1 : Int32))] []))
    refine Fin.step (fun _ => XS.iconst Xy54.here hx rfl (hb hby at_272)) ?_
    show Fin p e below s _ _ _ (Ty54.setTop (mkF m 273 #[.val (.long qa), .second, .val (.long qb), .second, .val (.long qc), .second, .val (.long qd), .second, .val (.int kx), .val (.ref by1), .val (.int (3 : Int32)), .val (.int P0), .val (.int P1), .val (.int P2), .val (.int P3), .val (.ref by39), .val (.ref by43), .val (.int (1 : Int32))] [(.int (1 : Int32))]))
    refine Fin.step (fun _ => XS.goto Xy54.here hx rfl (pc0 := 273) (pc' := 277) rfl (hb hby at_273) (by decide) (by decide)) ?_
    show Fin p e below s _ _ _ (Ty54.setTop (mkF m 277 #[.val (.long qa), .second, .val (.long qb), .second, .val (.long qc), .second, .val (.long qd), .second, .val (.int kx), .val (.ref by1), .val (.int (3 : Int32)), .val (.int P0), .val (.int P1), .val (.int P2), .val (.int P3), .val (.ref by39), .val (.ref by43), .val (.int (1 : Int32))] [(.int (1 : Int32))]))
    refine Fin.step (fun _ => XS.istore Xy54.here hx rfl (hb hby at_277) rfl (l' := #[.val (.long qa), .second, .val (.long qb), .second, .val (.long qc), .second, .val (.long qd), .second, .val (.int kx), .val (.ref by1), .val (.int (3 : Int32)), .val (.int P0), .val (.int P1), .val (.int P2), .val (.int P3), .val (.ref by39), .val (.ref by43), .val (.int (1 : Int32))]) rfl) ?_
    show Fin p e below s _ _ _ (Ty54.setTop (mkF m 279 #[.val (.long qa), .second, .val (.long qb), .second, .val (.long qc), .second, .val (.long qd), .second, .val (.int kx), .val (.ref by1), .val (.int (3 : Int32)), .val (.int P0), .val (.int P1), .val (.int P2), .val (.int P3), .val (.ref by39), .val (.ref by43), .val (.int (1 : Int32))] []))
    refine Fin.step (fun _ => XS.iload Xy54.here hx rfl (hb hby at_279) rfl) ?_
    show Fin p e below s _ _ _ (Ty54.setTop (mkF m 281 #[.val (.long qa), .second, .val (.long qb), .second, .val (.long qc), .second, .val (.long qd), .second, .val (.int kx), .val (.ref by1), .val (.int (3 : Int32)), .val (.int P0), .val (.int P1), .val (.int P2), .val (.int P3), .val (.ref by39), .val (.ref by43), .val (.int (1 : Int32))] [(.int (3 : Int32))]))
    refine Fin.step (fun _ => XS.iconst Xy54.here hx rfl (hb hby at_281)) ?_
    show Fin p e below s _ _ _ (Ty54.setTop (mkF m 282 #[.val (.long qa), .second, .val (.long qb), .second, .val (.long qc), .second, .val (.long qd), .second, .val (.int kx), .val (.ref by1), .val (.int (3 : Int32)), .val (.int P0), .val (.int P1), .val (.int P2), .val (.int P3), .val (.ref by39), .val (.ref by43), .val (.int (1 : Int32))] [(.int (2 : Int32)), (.int (3 : Int32))]))
    refine Fin.step (fun _ => XS.icmpNo Xy54.here hx rfl (hb hby at_282) rfl (tlt ((by decide) : ((2 : Int32) < (3 : Int32)))).2.2.2) ?_
    show Fin p e below s _ _ _ (Ty54.setTop (mkF m 285 #[.val (.long qa), .second, .val (.long qb), .second, .val (.long qc), .second, .val (.long qd), .second, .val (.int kx), .val (.ref by1), .val (.int (3 : Int32)), .val (.int P0), .val (.int P1), .val (.int P2), .val (.int P3), .val (.ref by39), .val (.ref by43), .val (.int (1 : Int32))] []))
    refine Fin.step (fun _ => XS.iload Xy54.here hx rfl (hb hby at_285) rfl) ?_
    show Fin p e below s _ _ _ (Ty54.setTop (mkF m 287 #[.val (.long qa), .second, .val (.long qb), .second, .val (.long qc), .second, .val (.long qd), .second, .val (.int kx), .val (.ref by1), .val (.int (3 : Int32)), .val (.int P0), .val (.int P1), .val (.int P2), .val (.int P3), .val (.ref by39), .val (.ref by43), .val (.int (1 : Int32))] [(.int (1 : Int32))]))
    refine Fin.step (fun _ => XS.ifNo Xy54.here hx rfl (hb hby at_287) rfl ((if0 _ _).trans (feq ((by decide) : ¬ ((1 : Int32) = (0 : Int32)))).1)) ?_
    show Fin p e below s _ _ _ (Ty54.setTop (mkF m 290 #[.val (.long qa), .second, .val (.long qb), .second, .val (.long qc), .second, .val (.long qd), .second, .val (.int kx), .val (.ref by1), .val (.int (3 : Int32)), .val (.int P0), .val (.int P1), .val (.int P2), .val (.int P3), .val (.ref by39), .val (.ref by43), .val (.int (1 : Int32))] []))
    refine Fin.step (fun _ => XS.aload Xy54.here hx rfl (hb hby at_290) rfl rfl) ?_
    show Fin p e below s _ _ _ (Ty54.setTop (mkF m 292 #[.val (.long qa), .second, .val (.long qb), .second, .val (.long qc), .second, .val (.long qd), .second, .val (.int kx), .val (.ref by1), .val (.int (3 : Int32)), .val (.int P0), .val (.int P1), .val (.int P2), .val (.int P3), .val (.ref by39), .val (.ref by43), .val (.int (1 : Int32))] [(.ref by39)]))
    refine Fin.step (fun _ => XS.iconst Xy54.here hx rfl (hb hby at_292)) ?_
    show Fin p e below s _ _ _ (Ty54.setTop (mkF m 293 #[.val (.long qa), .second, .val (.long qb), .second, .val (.long qc), .second, .val (.long qd), .second, .val (.int kx), .val (.ref by1), .val (.int (3 : Int32)), .val (.int P0), .val (.int P1), .val (.int P2), .val (.int P3), .val (.ref by39), .val (.ref by43), .val (.int (1 : Int32))] [(.int (2 : Int32)), (.ref by39)]))
    have voy55 := (Vy42.keep Kcy43 nin0)
    obtain ⟨cly55, Ary55, qay55, say55, nay55, hay55, gay55⟩ := voy55
    have iny55 := inb_of (j := (2 : Int32)) say55 ⟨by decide, by decide⟩
    refine Fin.step (Xy54.iaload hx (j := (2 : Int32)) (v := (.int P2)) (by rw [eqy54]; exact Ary55.1) (State.isArrayOf_alike hZ.alike Ary55.2.1) Ary55.2.2 iny55 (hay55.at iny55 rfl) (g := (mkF m 293 #[.val (.long qa), .second, .val (.long qb), .second, .val (.long qc), .second, .val (.long qd), .second, .val (.int kx), .val (.ref by1), .val (.int (3 : Int32)), .val (.int P0), .val (.int P1), .val (.int P2), .val (.int P3), .val (.ref by39), .val (.ref by43), .val (.int (1 : Int32))] [(.int (2 : Int32)), (.ref by39)])) rfl rfl (hb hby at_293)) ?_
    show Fin p e below s _ _ _ (Ty54.setTop (mkF m 294 #[.val (.long qa), .second, .val (.long qb), .second, .val (.long qc), .second, .val (.long qd), .second, .val (.int kx), .val (.ref by1), .val (.int (3 : Int32)), .val (.int P0), .val (.int P1), .val (.int P2), .val (.int P3), .val (.ref by39), .val (.ref by43), .val (.int (1 : Int32))] [(.int P2)]))
    refine Fin.step (fun _ => XS.iload Xy54.here hx rfl (hb hby at_294) rfl) ?_
    show Fin p e below s _ _ _ (Ty54.setTop (mkF m 296 #[.val (.long qa), .second, .val (.long qb), .second, .val (.long qc), .second, .val (.long qd), .second, .val (.int kx), .val (.ref by1), .val (.int (3 : Int32)), .val (.int P0), .val (.int P1), .val (.int P2), .val (.int P3), .val (.ref by39), .val (.ref by43), .val (.int (1 : Int32))] [(.int P2), (.int P2)]))
    refine Fin.step (fun _ => XS.icmpNo Xy54.here hx rfl (hb hby at_296) rfl (teq (rfl : (P2 = P2))).2) ?_
    show Fin p e below s _ _ _ (Ty54.setTop (mkF m 299 #[.val (.long qa), .second, .val (.long qb), .second, .val (.long qc), .second, .val (.long qd), .second, .val (.int kx), .val (.ref by1), .val (.int (3 : Int32)), .val (.int P0), .val (.int P1), .val (.int P2), .val (.int P3), .val (.ref by39), .val (.ref by43), .val (.int (1 : Int32))] []))
    refine Fin.step (fun _ => XS.aload Xy54.here hx rfl (hb hby at_299) rfl rfl) ?_
    show Fin p e below s _ _ _ (Ty54.setTop (mkF m 301 #[.val (.long qa), .second, .val (.long qb), .second, .val (.long qc), .second, .val (.long qd), .second, .val (.int kx), .val (.ref by1), .val (.int (3 : Int32)), .val (.int P0), .val (.int P1), .val (.int P2), .val (.int P3), .val (.ref by39), .val (.ref by43), .val (.int (1 : Int32))] [(.ref by43)]))
    refine Fin.step (fun _ => XS.iconst Xy54.here hx rfl (hb hby at_301)) ?_
    show Fin p e below s _ _ _ (Ty54.setTop (mkF m 302 #[.val (.long qa), .second, .val (.long qb), .second, .val (.long qc), .second, .val (.long qd), .second, .val (.int kx), .val (.ref by1), .val (.int (3 : Int32)), .val (.int P0), .val (.int P1), .val (.int P2), .val (.int P3), .val (.ref by39), .val (.ref by43), .val (.int (1 : Int32))] [(.int (2 : Int32)), (.ref by43)]))
    have voy56 := fy43_0
    obtain ⟨cly56, Ary56, qay56, say56, nay56, hay56, gay56⟩ := voy56
    have iny56 := inb_of (j := (2 : Int32)) say56 ⟨by decide, by decide⟩
    refine Fin.step (Xy54.laload hx (j := (2 : Int32)) (v := (.long (own_ref P2 qa qb qc qd))) (by rw [eqy54]; exact Ary56.1) (State.isArrayOf_alike hZ.alike Ary56.2.1) Ary56.2.2 iny56 (hay56.at iny56 rfl) (g := (mkF m 302 #[.val (.long qa), .second, .val (.long qb), .second, .val (.long qc), .second, .val (.long qd), .second, .val (.int kx), .val (.ref by1), .val (.int (3 : Int32)), .val (.int P0), .val (.int P1), .val (.int P2), .val (.int P3), .val (.ref by39), .val (.ref by43), .val (.int (1 : Int32))] [(.int (2 : Int32)), (.ref by43)])) rfl rfl (hb hby at_302)) ?_
    show Fin p e below s _ _ _ (Ty54.setTop (mkF m 303 #[.val (.long qa), .second, .val (.long qb), .second, .val (.long qc), .second, .val (.long qd), .second, .val (.int kx), .val (.ref by1), .val (.int (3 : Int32)), .val (.int P0), .val (.int P1), .val (.int P2), .val (.int P3), .val (.ref by39), .val (.ref by43), .val (.int (1 : Int32))] [(.long (own_ref P2 qa qb qc qd))]))
    refine Fin.step (fun _ => XS.iload Xy54.here hx rfl (hb hby at_303) rfl) ?_
    show Fin p e below s _ _ _ (Ty54.setTop (mkF m 305 #[.val (.long qa), .second, .val (.long qb), .second, .val (.long qc), .second, .val (.long qd), .second, .val (.int kx), .val (.ref by1), .val (.int (3 : Int32)), .val (.int P0), .val (.int P1), .val (.int P2), .val (.int P3), .val (.ref by39), .val (.ref by43), .val (.int (1 : Int32))] [(.int P2), (.long (own_ref P2 qa qb qc qd))]))
    refine Fin.step (fun _ => XS.lloadN Xy54.here hx rfl (hb hby at_305) rfl) ?_
    show Fin p e below s _ _ _ (Ty54.setTop (mkF m 306 #[.val (.long qa), .second, .val (.long qb), .second, .val (.long qc), .second, .val (.long qd), .second, .val (.int kx), .val (.ref by1), .val (.int (3 : Int32)), .val (.int P0), .val (.int P1), .val (.int P2), .val (.int P3), .val (.ref by39), .val (.ref by43), .val (.int (1 : Int32))] [(.long qa), (.int P2), (.long (own_ref P2 qa qb qc qd))]))
    refine Fin.step (fun _ => XS.lloadN Xy54.here hx rfl (hb hby at_306) rfl) ?_
    show Fin p e below s _ _ _ (Ty54.setTop (mkF m 307 #[.val (.long qa), .second, .val (.long qb), .second, .val (.long qc), .second, .val (.long qd), .second, .val (.int kx), .val (.ref by1), .val (.int (3 : Int32)), .val (.int P0), .val (.int P1), .val (.int P2), .val (.int P3), .val (.ref by39), .val (.ref by43), .val (.int (1 : Int32))] [(.long qb), (.long qa), (.int P2), (.long (own_ref P2 qa qb qc qd))]))
    refine Fin.step (fun _ => XS.lload Xy54.here hx rfl (hb hby at_307) rfl) ?_
    show Fin p e below s _ _ _ (Ty54.setTop (mkF m 309 #[.val (.long qa), .second, .val (.long qb), .second, .val (.long qc), .second, .val (.long qd), .second, .val (.int kx), .val (.ref by1), .val (.int (3 : Int32)), .val (.int P0), .val (.int P1), .val (.int P2), .val (.int P3), .val (.ref by39), .val (.ref by43), .val (.int (1 : Int32))] [(.long qc), (.long qb), (.long qa), (.int P2), (.long (own_ref P2 qa qb qc qd))]))
    refine Fin.step (fun _ => XS.lload Xy54.here hx rfl (hb hby at_309) rfl) ?_
    show Fin p e below s _ _ _ (Ty54.setTop (mkF m 311 #[.val (.long qa), .second, .val (.long qb), .second, .val (.long qc), .second, .val (.long qd), .second, .val (.int kx), .val (.ref by1), .val (.int (3 : Int32)), .val (.int P0), .val (.int P1), .val (.int P2), .val (.int P3), .val (.ref by39), .val (.ref by43), .val (.int (1 : Int32))] [(.long qd), (.long qc), (.long qb), (.long qa), (.int P2), (.long (own_ref P2 qa qb qc qd))]))
    obtain ⟨_, _, ⟨Ty57, Ly57, ky57, ny57⟩, -, Xy57, ⟨Lcy57, hQy57, ly57, yy57, zy57⟩, sty57⟩ := Jvm.LawKit.callS Xy54 hx (y := (⟨"com/example/uzor/uzor/RowPickPinLaw", "ref", "(IJJJJ)J"⟩ : MethodName)) hown (mvT hZ (hw _ (List.mem_of_getElem? (i := 6) rfl))) (mvT hZ (hw _ (List.mem_of_getElem? (i := 7) rfl))) (mvT hZ (hw _ (List.mem_of_getElem? (i := 8) rfl))) (mvT hZ (hw _ (List.mem_of_getElem? (i := 9) rfl))) (by decide) (backOf (W := 2) (rm2 l Z a0 hw [] P2 qa qb qc qd Ty43.heap n0 Zy43 ) hZ (hw _ (List.mem_of_getElem? (i := 9) rfl)) (hw _ (List.mem_of_getElem? (i := 8) rfl)) (by decide) (by decide)) (g := (mkF m 311 #[.val (.long qa), .second, .val (.long qb), .second, .val (.long qc), .second, .val (.long qd), .second, .val (.int kx), .val (.ref by1), .val (.int (3 : Int32)), .val (.int P0), .val (.int P1), .val (.int P2), .val (.int P3), .val (.ref by39), .val (.ref by43), .val (.int (1 : Int32))] [(.long qd), (.long qc), (.long qb), (.long qa), (.int P2), (.long (own_ref P2 qa qb qc qd))])) rfl (by rw [hml]; rfl) (argsL := [(.int P2), (.long qa), (.long qb), (.long qc), (.long qd)]) (rest := [(.long (own_ref P2 qa qb qc qd))]) (lenOf pd_1 rfl) rfl (by show 2 * 0 + _ ≤ _; exact Nat.le_of_eq rfl) (hb hby at_311) (fun _ _ => ⟨rfl, eqy54, (by decide : 3 + 0 ≤ _), (by decide : 10 + 0 ≤ _)⟩)
    dsimp only [Pt.U, Pt.locs, Pt.cells, Pt.slots] at Xy57 ly57 yy57 zy57 sty57 hQy57
    subst ly57 yy57 zy57
    obtain ⟨rfl, Nqy57, eqy57⟩ := hQy57
    have Ny57 := Fr.app Ny54 Nqy57
    refine Fin.step (sty57) ?_
    show Fin p e below s _ _ _ (Ty57.setTop (mkF m 314 #[.val (.long qa), .second, .val (.long qb), .second, .val (.long qc), .second, .val (.long qd), .second, .val (.int kx), .val (.ref by1), .val (.int (3 : Int32)), .val (.int P0), .val (.int P1), .val (.int P2), .val (.int P3), .val (.ref by39), .val (.ref by43), .val (.int (1 : Int32))] [(.long (own_ref P2 qa qb qc qd)), (.long (own_ref P2 qa qb qc qd))]))
    refine Fin.step (fun _ => XS.lcmp Xy57.here hx rfl (hb hby at_314) rfl) ?_
    show Fin p e below s _ _ _ (Ty57.setTop (mkF m 315 #[.val (.long qa), .second, .val (.long qb), .second, .val (.long qc), .second, .val (.long qd), .second, .val (.int kx), .val (.ref by1), .val (.int (3 : Int32)), .val (.int P0), .val (.int P1), .val (.int P2), .val (.int P3), .val (.ref by39), .val (.ref by43), .val (.int (1 : Int32))] [(.int (lcmpW (own_ref P2 qa qb qc qd) (own_ref P2 qa qb qc qd)))]))
    refine Fin.step (fun _ => XS.ifNo Xy57.here hx rfl (hb hby at_315) rfl ((if0 _ _).trans (teq ((lcE rfl) : ((lcmpW (own_ref P2 qa qb qc qd) (own_ref P2 qa qb qc qd)) = (0 : Int32)))).2)) ?_
    show Fin p e below s _ _ _ (Ty57.setTop (mkF m 318 #[.val (.long qa), .second, .val (.long qb), .second, .val (.long qc), .second, .val (.long qd), .second, .val (.int kx), .val (.ref by1), .val (.int (3 : Int32)), .val (.int P0), .val (.int P1), .val (.int P2), .val (.int P3), .val (.ref by39), .val (.ref by43), .val (.int (1 : Int32))] []))
    refine Fin.step (fun _ => XS.iconst Xy57.here hx rfl (hb hby at_318)) ?_
    show Fin p e below s _ _ _ (Ty57.setTop (mkF m 319 #[.val (.long qa), .second, .val (.long qb), .second, .val (.long qc), .second, .val (.long qd), .second, .val (.int kx), .val (.ref by1), .val (.int (3 : Int32)), .val (.int P0), .val (.int P1), .val (.int P2), .val (.int P3), .val (.ref by39), .val (.ref by43), .val (.int (1 : Int32))] [(.int (1 : Int32))]))
    refine Fin.step (fun _ => XS.goto Xy57.here hx rfl (pc0 := 319) (pc' := 323) rfl (hb hby at_319) (by decide) (by decide)) ?_
    show Fin p e below s _ _ _ (Ty57.setTop (mkF m 323 #[.val (.long qa), .second, .val (.long qb), .second, .val (.long qc), .second, .val (.long qd), .second, .val (.int kx), .val (.ref by1), .val (.int (3 : Int32)), .val (.int P0), .val (.int P1), .val (.int P2), .val (.int P3), .val (.ref by39), .val (.ref by43), .val (.int (1 : Int32))] [(.int (1 : Int32))]))
    refine Fin.step (fun _ => XS.istore Xy57.here hx rfl (hb hby at_323) rfl (l' := #[.val (.long qa), .second, .val (.long qb), .second, .val (.long qc), .second, .val (.long qd), .second, .val (.int kx), .val (.ref by1), .val (.int (3 : Int32)), .val (.int P0), .val (.int P1), .val (.int P2), .val (.int P3), .val (.ref by39), .val (.ref by43), .val (.int (1 : Int32))]) rfl) ?_
    show Fin p e below s _ _ _ (Ty57.setTop (mkF m 325 #[.val (.long qa), .second, .val (.long qb), .second, .val (.long qc), .second, .val (.long qd), .second, .val (.int kx), .val (.ref by1), .val (.int (3 : Int32)), .val (.int P0), .val (.int P1), .val (.int P2), .val (.int P3), .val (.ref by39), .val (.ref by43), .val (.int (1 : Int32))] []))
    refine Fin.step (fun _ => XS.iload Xy57.here hx rfl (hb hby at_325) rfl) ?_
    show Fin p e below s _ _ _ (Ty57.setTop (mkF m 327 #[.val (.long qa), .second, .val (.long qb), .second, .val (.long qc), .second, .val (.long qd), .second, .val (.int kx), .val (.ref by1), .val (.int (3 : Int32)), .val (.int P0), .val (.int P1), .val (.int P2), .val (.int P3), .val (.ref by39), .val (.ref by43), .val (.int (1 : Int32))] [(.int (3 : Int32))]))
    refine Fin.step (fun _ => XS.iconst Xy57.here hx rfl (hb hby at_327)) ?_
    show Fin p e below s _ _ _ (Ty57.setTop (mkF m 328 #[.val (.long qa), .second, .val (.long qb), .second, .val (.long qc), .second, .val (.long qd), .second, .val (.int kx), .val (.ref by1), .val (.int (3 : Int32)), .val (.int P0), .val (.int P1), .val (.int P2), .val (.int P3), .val (.ref by39), .val (.ref by43), .val (.int (1 : Int32))] [(.int (3 : Int32)), (.int (3 : Int32))]))
    refine Fin.step (fun _ => XS.icmpYes Xy57.here hx rfl (pc0 := 328) (pc' := 371) rfl (hb hby at_328) rfl (flt ((by decide) : ¬ ((3 : Int32) < (3 : Int32)))).2.2.2 (by decide) (by decide)) ?_
    show Fin p e below s _ _ _ (Ty57.setTop (mkF m 371 #[.val (.long qa), .second, .val (.long qb), .second, .val (.long qc), .second, .val (.long qd), .second, .val (.int kx), .val (.ref by1), .val (.int (3 : Int32)), .val (.int P0), .val (.int P1), .val (.int P2), .val (.int P3), .val (.ref by39), .val (.ref by43), .val (.int (1 : Int32))] []))
    refine Fin.step (fun _ => XS.iload Xy57.here hx rfl (hb hby at_371) rfl) ?_
    show Fin p e below s _ _ _ (Ty57.setTop (mkF m 373 #[.val (.long qa), .second, .val (.long qb), .second, .val (.long qc), .second, .val (.long qd), .second, .val (.int kx), .val (.ref by1), .val (.int (3 : Int32)), .val (.int P0), .val (.int P1), .val (.int P2), .val (.int P3), .val (.ref by39), .val (.ref by43), .val (.int (1 : Int32))] [(.int (1 : Int32))]))
    refine Fin.retN Xy57 hx (t := .boolean) hret (by simp) hlk (hb hby at_373) (by decide) (by decide) ?_
    show Q0 Z qa qb qc qd kx h0 n0 _ Ty57.heap _
    rw [eqy57]
    exact ⟨rfl, Ny57, Ky43⟩
  · rw [qn]
    show Fin p e below s _ _ _ (Ty5.setTop (mkF m 66 #[.val (.long qa), .second, .val (.long qb), .second, .val (.long qc), .second, .val (.long qd), .second, .val (.int kx), .val (.ref by1), .val (.int (4 : Int32)), .val (.int P0), .val (.int P1), .val (.int P2), .val (.int P3), .unset, .unset, .unset] []))
    refine Fin.step (fun _ => XS.iload Xy5.here hx rfl (hb hby at_66) rfl) ?_
    show Fin p e below s _ _ _ (Ty5.setTop (mkF m 68 #[.val (.long qa), .second, .val (.long qb), .second, .val (.long qc), .second, .val (.long qd), .second, .val (.int kx), .val (.ref by1), .val (.int (4 : Int32)), .val (.int P0), .val (.int P1), .val (.int P2), .val (.int P3), .unset, .unset, .unset] [(.int (4 : Int32))]))
    obtain ⟨Ty58, hy58, ky58, Xy58, ey58, Ey58, Ay58, sty58⟩ := newP Xy5 hx hZ (hw _ (List.mem_of_getElem? (i := 1) rfl)) ey5 (g := (mkF m 68 #[.val (.long qa), .second, .val (.long qb), .second, .val (.long qc), .second, .val (.long qd), .second, .val (.int kx), .val (.ref by1), .val (.int (4 : Int32)), .val (.int P0), .val (.int P1), .val (.int P2), .val (.int P3), .unset, .unset, .unset] [(.int (4 : Int32))])) rfl (hb hby at_68) rfl (by decide) (cap := 4) (by decide) (by decide) (by decide) (by decide)
    obtain ⟨by58, gy58⟩ : ∃ z, z = hy5.size := ⟨_, rfl⟩
    rw [← gy58] at Ay58 sty58
    have gzy58 : n0 ≤ by58 := Nat.le_trans Zy5 (Nat.le_of_eq gy58.symm)
    have szy58 : h0.size ≤ by58 := Nat.le_trans Ky5.1 (Nat.le_of_eq gy58.symm)
    have Zy58 : n0 ≤ hy58.size := Nat.le_trans Zy5 Ey58.1
    have Ky58 : Keep h0 hy58 [] := Ky5.ext Ey58
    have Vy58 : Arv Z hy58 by58 ky58 .int (4 : Int32) [(.int (0 : Int32)), (.int (0 : Int32)), (.int (0 : Int32)), (.int (0 : Int32))] (.int (0 : Int32)) := (Arv.new Ay58 (by decide)).pad (pad_rep [] (.int (0 : Int32)) 4)
    refine Fin.step (sty58) ?_
    show Fin p e below s _ _ _ (Ty58.setTop (mkF m 70 #[.val (.long qa), .second, .val (.long qb), .second, .val (.long qc), .second, .val (.long qd), .second, .val (.int kx), .val (.ref by1), .val (.int (4 : Int32)), .val (.int P0), .val (.int P1), .val (.int P2), .val (.int P3), .unset, .unset, .unset] [(.ref by58)]))
    refine Fin.step (fun _ => XS.astore Xy58.here hx rfl (hb hby at_70) rfl rfl (l' := #[.val (.long qa), .second, .val (.long qb), .second, .val (.long qc), .second, .val (.long qd), .second, .val (.int kx), .val (.ref by1), .val (.int (4 : Int32)), .val (.int P0), .val (.int P1), .val (.int P2), .val (.int P3), .val (.ref by58), .unset, .unset]) rfl) ?_
    show Fin p e below s _ _ _ (Ty58.setTop (mkF m 72 #[.val (.long qa), .second, .val (.long qb), .second, .val (.long qc), .second, .val (.long qd), .second, .val (.int kx), .val (.ref by1), .val (.int (4 : Int32)), .val (.int P0), .val (.int P1), .val (.int P2), .val (.int P3), .val (.ref by58), .unset, .unset] []))
    refine Fin.step (fun _ => XS.iload Xy58.here hx rfl (hb hby at_72) rfl) ?_
    show Fin p e below s _ _ _ (Ty58.setTop (mkF m 74 #[.val (.long qa), .second, .val (.long qb), .second, .val (.long qc), .second, .val (.long qd), .second, .val (.int kx), .val (.ref by1), .val (.int (4 : Int32)), .val (.int P0), .val (.int P1), .val (.int P2), .val (.int P3), .val (.ref by58), .unset, .unset] [(.int (4 : Int32))]))
    refine Fin.step (fun _ => XS.ifNo Xy58.here hx rfl (hb hby at_74) rfl ((if0 _ _).trans (tlt ((by decide) : ((0 : Int32) < (4 : Int32)))).2.2.2)) ?_
    show Fin p e below s _ _ _ (Ty58.setTop (mkF m 77 #[.val (.long qa), .second, .val (.long qb), .second, .val (.long qc), .second, .val (.long qd), .second, .val (.int kx), .val (.ref by1), .val (.int (4 : Int32)), .val (.int P0), .val (.int P1), .val (.int P2), .val (.int P3), .val (.ref by58), .unset, .unset] []))
    refine Fin.step (fun _ => XS.aload Xy58.here hx rfl (hb hby at_77) rfl rfl) ?_
    show Fin p e below s _ _ _ (Ty58.setTop (mkF m 79 #[.val (.long qa), .second, .val (.long qb), .second, .val (.long qc), .second, .val (.long qd), .second, .val (.int kx), .val (.ref by1), .val (.int (4 : Int32)), .val (.int P0), .val (.int P1), .val (.int P2), .val (.int P3), .val (.ref by58), .unset, .unset] [(.ref by58)]))
    refine Fin.step (fun _ => XS.iconst Xy58.here hx rfl (hb hby at_79)) ?_
    show Fin p e below s _ _ _ (Ty58.setTop (mkF m 80 #[.val (.long qa), .second, .val (.long qb), .second, .val (.long qc), .second, .val (.long qd), .second, .val (.int kx), .val (.ref by1), .val (.int (4 : Int32)), .val (.int P0), .val (.int P1), .val (.int P2), .val (.int P3), .val (.ref by58), .unset, .unset] [(.int (0 : Int32)), (.ref by58)]))
    refine Fin.step (fun _ => XS.iload Xy58.here hx rfl (hb hby at_80) rfl) ?_
    show Fin p e below s _ _ _ (Ty58.setTop (mkF m 82 #[.val (.long qa), .second, .val (.long qb), .second, .val (.long qc), .second, .val (.long qd), .second, .val (.int kx), .val (.ref by1), .val (.int (4 : Int32)), .val (.int P0), .val (.int P1), .val (.int P2), .val (.int P3), .val (.ref by58), .unset, .unset] [(.int P0), (.int (0 : Int32)), (.ref by58)]))
    have voy59 := Vy58
    obtain ⟨cly59, Ary59, qay59, say59, nay59, hay59, gay59⟩ := voy59
    obtain ⟨Ty59, hy59, Xy59, ey59, Wy59, sty59⟩ := stI Xy58 hx hZ ey58 Ary59 (j := (0 : Int32)) (inb_of say59 ⟨by decide, by decide⟩) (g := (mkF m 82 #[.val (.long qa), .second, .val (.long qb), .second, .val (.long qc), .second, .val (.long qd), .second, .val (.int kx), .val (.ref by1), .val (.int (4 : Int32)), .val (.int P0), .val (.int P1), .val (.int P2), .val (.int P3), .val (.ref by58), .unset, .unset] [(.int P0), (.int (0 : Int32)), (.ref by58)])) rfl rfl (hb hby at_82)
    have Vy59 : Arv Z hy59 by58 ky58 .int (4 : Int32) [(.int P0), (.int (0 : Int32)), (.int (0 : Int32)), (.int (0 : Int32))] (.int (0 : Int32)) := Arv.set Ary59 qay59 say59 nay59 hay59 gay59 rfl Wy59 0 rfl (Nat.le_of_ble_eq_true rfl)
    have Zy59 : n0 ≤ hy59.size := Nat.le_trans Zy58 (Keep.of_wr Wy59).1
    have Ky59 : Keep h0 hy59 [] := Ky58.wr Wy59 (Or.inr szy58)
    have Ny59 := Fr.snoc Xy59 Ny5 gzy58
    refine Fin.step (sty59) ?_
    show Fin p e below s _ _ _ (Ty59.setTop (mkF m 83 #[.val (.long qa), .second, .val (.long qb), .second, .val (.long qc), .second, .val (.long qd), .second, .val (.int kx), .val (.ref by1), .val (.int (4 : Int32)), .val (.int P0), .val (.int P1), .val (.int P2), .val (.int P3), .val (.ref by58), .unset, .unset] []))
    refine Fin.step (fun _ => XS.iload Xy59.here hx rfl (hb hby at_83) rfl) ?_
    show Fin p e below s _ _ _ (Ty59.setTop (mkF m 85 #[.val (.long qa), .second, .val (.long qb), .second, .val (.long qc), .second, .val (.long qd), .second, .val (.int kx), .val (.ref by1), .val (.int (4 : Int32)), .val (.int P0), .val (.int P1), .val (.int P2), .val (.int P3), .val (.ref by58), .unset, .unset] [(.int (4 : Int32))]))
    refine Fin.step (fun _ => XS.iconst Xy59.here hx rfl (hb hby at_85)) ?_
    show Fin p e below s _ _ _ (Ty59.setTop (mkF m 86 #[.val (.long qa), .second, .val (.long qb), .second, .val (.long qc), .second, .val (.long qd), .second, .val (.int kx), .val (.ref by1), .val (.int (4 : Int32)), .val (.int P0), .val (.int P1), .val (.int P2), .val (.int P3), .val (.ref by58), .unset, .unset] [(.int (1 : Int32)), (.int (4 : Int32))]))
    refine Fin.step (fun _ => XS.icmpNo Xy59.here hx rfl (hb hby at_86) rfl (tlt ((by decide) : ((1 : Int32) < (4 : Int32)))).2.2.2) ?_
    show Fin p e below s _ _ _ (Ty59.setTop (mkF m 89 #[.val (.long qa), .second, .val (.long qb), .second, .val (.long qc), .second, .val (.long qd), .second, .val (.int kx), .val (.ref by1), .val (.int (4 : Int32)), .val (.int P0), .val (.int P1), .val (.int P2), .val (.int P3), .val (.ref by58), .unset, .unset] []))
    refine Fin.step (fun _ => XS.aload Xy59.here hx rfl (hb hby at_89) rfl rfl) ?_
    show Fin p e below s _ _ _ (Ty59.setTop (mkF m 91 #[.val (.long qa), .second, .val (.long qb), .second, .val (.long qc), .second, .val (.long qd), .second, .val (.int kx), .val (.ref by1), .val (.int (4 : Int32)), .val (.int P0), .val (.int P1), .val (.int P2), .val (.int P3), .val (.ref by58), .unset, .unset] [(.ref by58)]))
    refine Fin.step (fun _ => XS.iconst Xy59.here hx rfl (hb hby at_91)) ?_
    show Fin p e below s _ _ _ (Ty59.setTop (mkF m 92 #[.val (.long qa), .second, .val (.long qb), .second, .val (.long qc), .second, .val (.long qd), .second, .val (.int kx), .val (.ref by1), .val (.int (4 : Int32)), .val (.int P0), .val (.int P1), .val (.int P2), .val (.int P3), .val (.ref by58), .unset, .unset] [(.int (1 : Int32)), (.ref by58)]))
    refine Fin.step (fun _ => XS.iload Xy59.here hx rfl (hb hby at_92) rfl) ?_
    show Fin p e below s _ _ _ (Ty59.setTop (mkF m 94 #[.val (.long qa), .second, .val (.long qb), .second, .val (.long qc), .second, .val (.long qd), .second, .val (.int kx), .val (.ref by1), .val (.int (4 : Int32)), .val (.int P0), .val (.int P1), .val (.int P2), .val (.int P3), .val (.ref by58), .unset, .unset] [(.int P1), (.int (1 : Int32)), (.ref by58)]))
    have voy60 := Vy59
    obtain ⟨cly60, Ary60, qay60, say60, nay60, hay60, gay60⟩ := voy60
    obtain ⟨Ty60, hy60, Xy60, ey60, Wy60, sty60⟩ := stI Xy59 hx hZ ey59 Ary60 (j := (1 : Int32)) (inb_of say60 ⟨by decide, by decide⟩) (g := (mkF m 94 #[.val (.long qa), .second, .val (.long qb), .second, .val (.long qc), .second, .val (.long qd), .second, .val (.int kx), .val (.ref by1), .val (.int (4 : Int32)), .val (.int P0), .val (.int P1), .val (.int P2), .val (.int P3), .val (.ref by58), .unset, .unset] [(.int P1), (.int (1 : Int32)), (.ref by58)])) rfl rfl (hb hby at_94)
    have Vy60 : Arv Z hy60 by58 ky58 .int (4 : Int32) [(.int P0), (.int P1), (.int (0 : Int32)), (.int (0 : Int32))] (.int (0 : Int32)) := Arv.set Ary60 qay60 say60 nay60 hay60 gay60 rfl Wy60 1 rfl (Nat.le_of_ble_eq_true rfl)
    have Zy60 : n0 ≤ hy60.size := Nat.le_trans Zy59 (Keep.of_wr Wy60).1
    have Ky60 : Keep h0 hy60 [] := Ky59.wr Wy60 (Or.inr szy58)
    have Ny60 := Fr.snoc Xy60 Ny59 gzy58
    refine Fin.step (sty60) ?_
    show Fin p e below s _ _ _ (Ty60.setTop (mkF m 95 #[.val (.long qa), .second, .val (.long qb), .second, .val (.long qc), .second, .val (.long qd), .second, .val (.int kx), .val (.ref by1), .val (.int (4 : Int32)), .val (.int P0), .val (.int P1), .val (.int P2), .val (.int P3), .val (.ref by58), .unset, .unset] []))
    refine Fin.step (fun _ => XS.iload Xy60.here hx rfl (hb hby at_95) rfl) ?_
    show Fin p e below s _ _ _ (Ty60.setTop (mkF m 97 #[.val (.long qa), .second, .val (.long qb), .second, .val (.long qc), .second, .val (.long qd), .second, .val (.int kx), .val (.ref by1), .val (.int (4 : Int32)), .val (.int P0), .val (.int P1), .val (.int P2), .val (.int P3), .val (.ref by58), .unset, .unset] [(.int (4 : Int32))]))
    refine Fin.step (fun _ => XS.iconst Xy60.here hx rfl (hb hby at_97)) ?_
    show Fin p e below s _ _ _ (Ty60.setTop (mkF m 98 #[.val (.long qa), .second, .val (.long qb), .second, .val (.long qc), .second, .val (.long qd), .second, .val (.int kx), .val (.ref by1), .val (.int (4 : Int32)), .val (.int P0), .val (.int P1), .val (.int P2), .val (.int P3), .val (.ref by58), .unset, .unset] [(.int (2 : Int32)), (.int (4 : Int32))]))
    refine Fin.step (fun _ => XS.icmpNo Xy60.here hx rfl (hb hby at_98) rfl (tlt ((by decide) : ((2 : Int32) < (4 : Int32)))).2.2.2) ?_
    show Fin p e below s _ _ _ (Ty60.setTop (mkF m 101 #[.val (.long qa), .second, .val (.long qb), .second, .val (.long qc), .second, .val (.long qd), .second, .val (.int kx), .val (.ref by1), .val (.int (4 : Int32)), .val (.int P0), .val (.int P1), .val (.int P2), .val (.int P3), .val (.ref by58), .unset, .unset] []))
    refine Fin.step (fun _ => XS.aload Xy60.here hx rfl (hb hby at_101) rfl rfl) ?_
    show Fin p e below s _ _ _ (Ty60.setTop (mkF m 103 #[.val (.long qa), .second, .val (.long qb), .second, .val (.long qc), .second, .val (.long qd), .second, .val (.int kx), .val (.ref by1), .val (.int (4 : Int32)), .val (.int P0), .val (.int P1), .val (.int P2), .val (.int P3), .val (.ref by58), .unset, .unset] [(.ref by58)]))
    refine Fin.step (fun _ => XS.iconst Xy60.here hx rfl (hb hby at_103)) ?_
    show Fin p e below s _ _ _ (Ty60.setTop (mkF m 104 #[.val (.long qa), .second, .val (.long qb), .second, .val (.long qc), .second, .val (.long qd), .second, .val (.int kx), .val (.ref by1), .val (.int (4 : Int32)), .val (.int P0), .val (.int P1), .val (.int P2), .val (.int P3), .val (.ref by58), .unset, .unset] [(.int (2 : Int32)), (.ref by58)]))
    refine Fin.step (fun _ => XS.iload Xy60.here hx rfl (hb hby at_104) rfl) ?_
    show Fin p e below s _ _ _ (Ty60.setTop (mkF m 106 #[.val (.long qa), .second, .val (.long qb), .second, .val (.long qc), .second, .val (.long qd), .second, .val (.int kx), .val (.ref by1), .val (.int (4 : Int32)), .val (.int P0), .val (.int P1), .val (.int P2), .val (.int P3), .val (.ref by58), .unset, .unset] [(.int P2), (.int (2 : Int32)), (.ref by58)]))
    have voy61 := Vy60
    obtain ⟨cly61, Ary61, qay61, say61, nay61, hay61, gay61⟩ := voy61
    obtain ⟨Ty61, hy61, Xy61, ey61, Wy61, sty61⟩ := stI Xy60 hx hZ ey60 Ary61 (j := (2 : Int32)) (inb_of say61 ⟨by decide, by decide⟩) (g := (mkF m 106 #[.val (.long qa), .second, .val (.long qb), .second, .val (.long qc), .second, .val (.long qd), .second, .val (.int kx), .val (.ref by1), .val (.int (4 : Int32)), .val (.int P0), .val (.int P1), .val (.int P2), .val (.int P3), .val (.ref by58), .unset, .unset] [(.int P2), (.int (2 : Int32)), (.ref by58)])) rfl rfl (hb hby at_106)
    have Vy61 : Arv Z hy61 by58 ky58 .int (4 : Int32) [(.int P0), (.int P1), (.int P2), (.int (0 : Int32))] (.int (0 : Int32)) := Arv.set Ary61 qay61 say61 nay61 hay61 gay61 rfl Wy61 2 rfl (Nat.le_of_ble_eq_true rfl)
    have Zy61 : n0 ≤ hy61.size := Nat.le_trans Zy60 (Keep.of_wr Wy61).1
    have Ky61 : Keep h0 hy61 [] := Ky60.wr Wy61 (Or.inr szy58)
    have Ny61 := Fr.snoc Xy61 Ny60 gzy58
    refine Fin.step (sty61) ?_
    show Fin p e below s _ _ _ (Ty61.setTop (mkF m 107 #[.val (.long qa), .second, .val (.long qb), .second, .val (.long qc), .second, .val (.long qd), .second, .val (.int kx), .val (.ref by1), .val (.int (4 : Int32)), .val (.int P0), .val (.int P1), .val (.int P2), .val (.int P3), .val (.ref by58), .unset, .unset] []))
    refine Fin.step (fun _ => XS.iload Xy61.here hx rfl (hb hby at_107) rfl) ?_
    show Fin p e below s _ _ _ (Ty61.setTop (mkF m 109 #[.val (.long qa), .second, .val (.long qb), .second, .val (.long qc), .second, .val (.long qd), .second, .val (.int kx), .val (.ref by1), .val (.int (4 : Int32)), .val (.int P0), .val (.int P1), .val (.int P2), .val (.int P3), .val (.ref by58), .unset, .unset] [(.int (4 : Int32))]))
    refine Fin.step (fun _ => XS.iconst Xy61.here hx rfl (hb hby at_109)) ?_
    show Fin p e below s _ _ _ (Ty61.setTop (mkF m 110 #[.val (.long qa), .second, .val (.long qb), .second, .val (.long qc), .second, .val (.long qd), .second, .val (.int kx), .val (.ref by1), .val (.int (4 : Int32)), .val (.int P0), .val (.int P1), .val (.int P2), .val (.int P3), .val (.ref by58), .unset, .unset] [(.int (3 : Int32)), (.int (4 : Int32))]))
    refine Fin.step (fun _ => XS.icmpNo Xy61.here hx rfl (hb hby at_110) rfl (tlt ((by decide) : ((3 : Int32) < (4 : Int32)))).2.2.2) ?_
    show Fin p e below s _ _ _ (Ty61.setTop (mkF m 113 #[.val (.long qa), .second, .val (.long qb), .second, .val (.long qc), .second, .val (.long qd), .second, .val (.int kx), .val (.ref by1), .val (.int (4 : Int32)), .val (.int P0), .val (.int P1), .val (.int P2), .val (.int P3), .val (.ref by58), .unset, .unset] []))
    refine Fin.step (fun _ => XS.aload Xy61.here hx rfl (hb hby at_113) rfl rfl) ?_
    show Fin p e below s _ _ _ (Ty61.setTop (mkF m 115 #[.val (.long qa), .second, .val (.long qb), .second, .val (.long qc), .second, .val (.long qd), .second, .val (.int kx), .val (.ref by1), .val (.int (4 : Int32)), .val (.int P0), .val (.int P1), .val (.int P2), .val (.int P3), .val (.ref by58), .unset, .unset] [(.ref by58)]))
    refine Fin.step (fun _ => XS.iconst Xy61.here hx rfl (hb hby at_115)) ?_
    show Fin p e below s _ _ _ (Ty61.setTop (mkF m 116 #[.val (.long qa), .second, .val (.long qb), .second, .val (.long qc), .second, .val (.long qd), .second, .val (.int kx), .val (.ref by1), .val (.int (4 : Int32)), .val (.int P0), .val (.int P1), .val (.int P2), .val (.int P3), .val (.ref by58), .unset, .unset] [(.int (3 : Int32)), (.ref by58)]))
    refine Fin.step (fun _ => XS.iload Xy61.here hx rfl (hb hby at_116) rfl) ?_
    show Fin p e below s _ _ _ (Ty61.setTop (mkF m 118 #[.val (.long qa), .second, .val (.long qb), .second, .val (.long qc), .second, .val (.long qd), .second, .val (.int kx), .val (.ref by1), .val (.int (4 : Int32)), .val (.int P0), .val (.int P1), .val (.int P2), .val (.int P3), .val (.ref by58), .unset, .unset] [(.int P3), (.int (3 : Int32)), (.ref by58)]))
    have voy62 := Vy61
    obtain ⟨cly62, Ary62, qay62, say62, nay62, hay62, gay62⟩ := voy62
    obtain ⟨Ty62, hy62, Xy62, ey62, Wy62, sty62⟩ := stI Xy61 hx hZ ey61 Ary62 (j := (3 : Int32)) (inb_of say62 ⟨by decide, by decide⟩) (g := (mkF m 118 #[.val (.long qa), .second, .val (.long qb), .second, .val (.long qc), .second, .val (.long qd), .second, .val (.int kx), .val (.ref by1), .val (.int (4 : Int32)), .val (.int P0), .val (.int P1), .val (.int P2), .val (.int P3), .val (.ref by58), .unset, .unset] [(.int P3), (.int (3 : Int32)), (.ref by58)])) rfl rfl (hb hby at_118)
    have Vy62 : Arv Z hy62 by58 ky58 .int (4 : Int32) [(.int P0), (.int P1), (.int P2), (.int P3)] (.int (0 : Int32)) := Arv.set Ary62 qay62 say62 nay62 hay62 gay62 rfl Wy62 3 rfl (Nat.le_of_ble_eq_true rfl)
    have Zy62 : n0 ≤ hy62.size := Nat.le_trans Zy61 (Keep.of_wr Wy62).1
    have Ky62 : Keep h0 hy62 [] := Ky61.wr Wy62 (Or.inr szy58)
    have Ny62 := Fr.snoc Xy62 Ny61 gzy58
    refine Fin.step (sty62) ?_
    show Fin p e below s _ _ _ (Ty62.setTop (mkF m 119 #[.val (.long qa), .second, .val (.long qb), .second, .val (.long qc), .second, .val (.long qd), .second, .val (.int kx), .val (.ref by1), .val (.int (4 : Int32)), .val (.int P0), .val (.int P1), .val (.int P2), .val (.int P3), .val (.ref by58), .unset, .unset] []))
    refine Fin.step (fun _ => XS.aload Xy62.here hx rfl (hb hby at_119) rfl rfl) ?_
    show Fin p e below s _ _ _ (Ty62.setTop (mkF m 121 #[.val (.long qa), .second, .val (.long qb), .second, .val (.long qc), .second, .val (.long qd), .second, .val (.int kx), .val (.ref by1), .val (.int (4 : Int32)), .val (.int P0), .val (.int P1), .val (.int P2), .val (.int P3), .val (.ref by58), .unset, .unset] [(.ref by1)]))
    refine Fin.step (fun _ => XS.aload Xy62.here hx rfl (hb hby at_121) rfl rfl) ?_
    show Fin p e below s _ _ _ (Ty62.setTop (mkF m 123 #[.val (.long qa), .second, .val (.long qb), .second, .val (.long qc), .second, .val (.long qd), .second, .val (.int kx), .val (.ref by1), .val (.int (4 : Int32)), .val (.int P0), .val (.int P1), .val (.int P2), .val (.int P3), .val (.ref by58), .unset, .unset] [(.ref by58), (.ref by1)]))
    obtain ⟨_, _, ⟨Ty63, Ly63, ky63, ny63⟩, -, Xy63, ⟨Lcy63, hQy63, ly63, yy63, zy63⟩, sty63⟩ := Jvm.LawKit.callS Xy62 hx (y := (⟨"com/example/uzor/uzor/Row", "pick", "([J[I)[J"⟩ : MethodName)) hown (mvT hZ (hw _ (List.mem_of_getElem? (i := 2) rfl))) (mvT hZ (hw _ (List.mem_of_getElem? (i := 3) rfl))) (mvT hZ (hw _ (List.mem_of_getElem? (i := 4) rfl))) (mvT hZ (hw _ (List.mem_of_getElem? (i := 5) rfl))) (by decide) (backOf (W := 0) (rmp4 l Z a0 hw [] by1 by58 ky1 ky58 qa qb qc qd P0 P1 P2 P3 hy62 n0 Zy62 (((((Vy5.ext Ey58).other Wy59 (Nat.ne_of_lt (Nat.lt_of_lt_of_le Vy5.lt (Nat.le_of_eq gy58.symm)))).other Wy60 (Nat.ne_of_lt (Nat.lt_of_lt_of_le Vy5.lt (Nat.le_of_eq gy58.symm)))).other Wy61 (Nat.ne_of_lt (Nat.lt_of_lt_of_le Vy5.lt (Nat.le_of_eq gy58.symm)))).other Wy62 (Nat.ne_of_lt (Nat.lt_of_lt_of_le Vy5.lt (Nat.le_of_eq gy58.symm)))) Vy62 r0 r1 r2 r3) hZ (hw _ (List.mem_of_getElem? (i := 5) rfl)) (hw _ (List.mem_of_getElem? (i := 4) rfl)) (by decide) (by decide)) (g := (mkF m 123 #[.val (.long qa), .second, .val (.long qb), .second, .val (.long qc), .second, .val (.long qd), .second, .val (.int kx), .val (.ref by1), .val (.int (4 : Int32)), .val (.int P0), .val (.int P1), .val (.int P2), .val (.int P3), .val (.ref by58), .unset, .unset] [(.ref by58), (.ref by1)])) rfl (by rw [hml]; rfl) (argsL := [(.ref by1), (.ref by58)]) (rest := []) (lenOf pd_0 rfl) rfl (by show 2 * 0 + _ ≤ _; exact Nat.le_of_eq rfl) (hb hby at_123) (fun _ _ => ⟨rfl, ey62, (by decide : 2 + 1 ≤ _), (by decide : 8 + 4 ≤ _)⟩)
    dsimp only [Pt.U, Pt.locs, Pt.cells, Pt.slots] at Xy63 ly63 yy63 zy63 sty63 hQy63
    subst ly63 yy63 zy63
    obtain ⟨kk_y63, by63, rfl, bzy63, Nqy63, Kcy63, fy63_0⟩ := hQy63
    have Ny63 := Fr.app Ny62 Nqy63
    have gzy63 : n0 ≤ by63 := Nat.le_trans Zy62 bzy63
    have szy63 : h0.size ≤ by63 := Nat.le_trans Ky62.1 bzy63
    have Zy63 : n0 ≤ Ty63.heap.size := Nat.le_trans Zy62 Kcy63.1
    have Ky63 : Keep h0 Ty63.heap [] := Ky62.trans Kcy63 all0
    refine Fin.step (sty63) ?_
    show Fin p e below s _ _ _ (Ty63.setTop (mkF m 126 #[.val (.long qa), .second, .val (.long qb), .second, .val (.long qc), .second, .val (.long qd), .second, .val (.int kx), .val (.ref by1), .val (.int (4 : Int32)), .val (.int P0), .val (.int P1), .val (.int P2), .val (.int P3), .val (.ref by58), .unset, .unset] [(.ref by63)]))
    refine Fin.step (fun _ => XS.astore Xy63.here hx rfl (hb hby at_126) rfl rfl (l' := #[.val (.long qa), .second, .val (.long qb), .second, .val (.long qc), .second, .val (.long qd), .second, .val (.int kx), .val (.ref by1), .val (.int (4 : Int32)), .val (.int P0), .val (.int P1), .val (.int P2), .val (.int P3), .val (.ref by58), .val (.ref by63), .unset]) rfl) ?_
    show Fin p e below s _ _ _ (Ty63.setTop (mkF m 128 #[.val (.long qa), .second, .val (.long qb), .second, .val (.long qc), .second, .val (.long qd), .second, .val (.int kx), .val (.ref by1), .val (.int (4 : Int32)), .val (.int P0), .val (.int P1), .val (.int P2), .val (.int P3), .val (.ref by58), .val (.ref by63), .unset] []))
    refine Fin.step (fun _ => XS.aload Xy63.here hx rfl (hb hby at_128) rfl rfl) ?_
    show Fin p e below s _ _ _ (Ty63.setTop (mkF m 130 #[.val (.long qa), .second, .val (.long qb), .second, .val (.long qc), .second, .val (.long qd), .second, .val (.int kx), .val (.ref by1), .val (.int (4 : Int32)), .val (.int P0), .val (.int P1), .val (.int P2), .val (.int P3), .val (.ref by58), .val (.ref by63), .unset] [(.ref by63)]))
    refine Fin.step (fun _ => XS.ifnullNo Xy63.here hx rfl (hb hby at_130) rfl) ?_
    show Fin p e below s _ _ _ (Ty63.setTop (mkF m 133 #[.val (.long qa), .second, .val (.long qb), .second, .val (.long qc), .second, .val (.long qd), .second, .val (.int kx), .val (.ref by1), .val (.int (4 : Int32)), .val (.int P0), .val (.int P1), .val (.int P2), .val (.int P3), .val (.ref by58), .val (.ref by63), .unset] []))
    refine Fin.step (fun _ => XS.aload Xy63.here hx rfl (hb hby at_133) rfl rfl) ?_
    show Fin p e below s _ _ _ (Ty63.setTop (mkF m 135 #[.val (.long qa), .second, .val (.long qb), .second, .val (.long qc), .second, .val (.long qd), .second, .val (.int kx), .val (.ref by1), .val (.int (4 : Int32)), .val (.int P0), .val (.int P1), .val (.int P2), .val (.int P3), .val (.ref by58), .val (.ref by63), .unset] [(.ref by63)]))
    have voy64 := fy63_0
    obtain ⟨cly64, Ary64, qay64, say64, nay64, hay64, gay64⟩ := voy64
    refine Fin.step (Xy63.arraylength hx Ary64.1 (State.isArrayOf_alike hZ.alike Ary64.2.1) (g := (mkF m 135 #[.val (.long qa), .second, .val (.long qb), .second, .val (.long qc), .second, .val (.long qd), .second, .val (.int kx), .val (.ref by1), .val (.int (4 : Int32)), .val (.int P0), .val (.int P1), .val (.int P2), .val (.int P3), .val (.ref by58), .val (.ref by63), .unset] [(.ref by63)])) rfl rfl (hb hby at_135)) ?_
    rw [len_of say64 nay64]
    show Fin p e below s _ _ _ (Ty63.setTop (mkF m 136 #[.val (.long qa), .second, .val (.long qb), .second, .val (.long qc), .second, .val (.long qd), .second, .val (.int kx), .val (.ref by1), .val (.int (4 : Int32)), .val (.int P0), .val (.int P1), .val (.int P2), .val (.int P3), .val (.ref by58), .val (.ref by63), .unset] [(.int (4 : Int32))]))
    refine Fin.step (fun _ => XS.iload Xy63.here hx rfl (hb hby at_136) rfl) ?_
    show Fin p e below s _ _ _ (Ty63.setTop (mkF m 138 #[.val (.long qa), .second, .val (.long qb), .second, .val (.long qc), .second, .val (.long qd), .second, .val (.int kx), .val (.ref by1), .val (.int (4 : Int32)), .val (.int P0), .val (.int P1), .val (.int P2), .val (.int P3), .val (.ref by58), .val (.ref by63), .unset] [(.int (4 : Int32)), (.int (4 : Int32))]))
    refine Fin.step (fun _ => XS.icmpYes Xy63.here hx rfl (pc0 := 138) (pc' := 143) rfl (hb hby at_138) rfl (teq ((by decide) : ((4 : Int32) = (4 : Int32)))).1 (by decide) (by decide)) ?_
    show Fin p e below s _ _ _ (Ty63.setTop (mkF m 143 #[.val (.long qa), .second, .val (.long qb), .second, .val (.long qc), .second, .val (.long qd), .second, .val (.int kx), .val (.ref by1), .val (.int (4 : Int32)), .val (.int P0), .val (.int P1), .val (.int P2), .val (.int P3), .val (.ref by58), .val (.ref by63), .unset] []))
    refine Fin.step (fun _ => XS.aload Xy63.here hx rfl (hb hby at_143) rfl rfl) ?_
    show Fin p e below s _ _ _ (Ty63.setTop (mkF m 145 #[.val (.long qa), .second, .val (.long qb), .second, .val (.long qc), .second, .val (.long qd), .second, .val (.int kx), .val (.ref by1), .val (.int (4 : Int32)), .val (.int P0), .val (.int P1), .val (.int P2), .val (.int P3), .val (.ref by58), .val (.ref by63), .unset] [(.ref by1)]))
    refine Fin.step (fun _ => XS.iconst Xy63.here hx rfl (hb hby at_145)) ?_
    show Fin p e below s _ _ _ (Ty63.setTop (mkF m 146 #[.val (.long qa), .second, .val (.long qb), .second, .val (.long qc), .second, .val (.long qd), .second, .val (.int kx), .val (.ref by1), .val (.int (4 : Int32)), .val (.int P0), .val (.int P1), .val (.int P2), .val (.int P3), .val (.ref by58), .val (.ref by63), .unset] [(.int (0 : Int32)), (.ref by1)]))
    have voy65 := ((((((Vy5.ext Ey58).other Wy59 (Nat.ne_of_lt (Nat.lt_of_lt_of_le Vy5.lt (Nat.le_of_eq gy58.symm)))).other Wy60 (Nat.ne_of_lt (Nat.lt_of_lt_of_le Vy5.lt (Nat.le_of_eq gy58.symm)))).other Wy61 (Nat.ne_of_lt (Nat.lt_of_lt_of_le Vy5.lt (Nat.le_of_eq gy58.symm)))).other Wy62 (Nat.ne_of_lt (Nat.lt_of_lt_of_le Vy5.lt (Nat.le_of_eq gy58.symm)))).keep Kcy63 nin0)
    obtain ⟨cly65, Ary65, qay65, say65, nay65, hay65, gay65⟩ := voy65
    have iny65 := inb_of (j := (0 : Int32)) say65 ⟨by decide, by decide⟩
    refine Fin.step (Xy63.laload hx (j := (0 : Int32)) (v := (.long qa)) Ary65.1 (State.isArrayOf_alike hZ.alike Ary65.2.1) Ary65.2.2 iny65 (hay65.at iny65 rfl) (g := (mkF m 146 #[.val (.long qa), .second, .val (.long qb), .second, .val (.long qc), .second, .val (.long qd), .second, .val (.int kx), .val (.ref by1), .val (.int (4 : Int32)), .val (.int P0), .val (.int P1), .val (.int P2), .val (.int P3), .val (.ref by58), .val (.ref by63), .unset] [(.int (0 : Int32)), (.ref by1)])) rfl rfl (hb hby at_146)) ?_
    show Fin p e below s _ _ _ (Ty63.setTop (mkF m 147 #[.val (.long qa), .second, .val (.long qb), .second, .val (.long qc), .second, .val (.long qd), .second, .val (.int kx), .val (.ref by1), .val (.int (4 : Int32)), .val (.int P0), .val (.int P1), .val (.int P2), .val (.int P3), .val (.ref by58), .val (.ref by63), .unset] [(.long qa)]))
    refine Fin.step (fun _ => XS.lloadN Xy63.here hx rfl (hb hby at_147) rfl) ?_
    show Fin p e below s _ _ _ (Ty63.setTop (mkF m 148 #[.val (.long qa), .second, .val (.long qb), .second, .val (.long qc), .second, .val (.long qd), .second, .val (.int kx), .val (.ref by1), .val (.int (4 : Int32)), .val (.int P0), .val (.int P1), .val (.int P2), .val (.int P3), .val (.ref by58), .val (.ref by63), .unset] [(.long qa), (.long qa)]))
    refine Fin.step (fun _ => XS.lcmp Xy63.here hx rfl (hb hby at_148) rfl) ?_
    show Fin p e below s _ _ _ (Ty63.setTop (mkF m 149 #[.val (.long qa), .second, .val (.long qb), .second, .val (.long qc), .second, .val (.long qd), .second, .val (.int kx), .val (.ref by1), .val (.int (4 : Int32)), .val (.int P0), .val (.int P1), .val (.int P2), .val (.int P3), .val (.ref by58), .val (.ref by63), .unset] [(.int (lcmpW qa qa))]))
    refine Fin.step (fun _ => XS.ifNo Xy63.here hx rfl (hb hby at_149) rfl ((if0 _ _).trans (teq ((lcE rfl) : ((lcmpW qa qa) = (0 : Int32)))).2)) ?_
    show Fin p e below s _ _ _ (Ty63.setTop (mkF m 152 #[.val (.long qa), .second, .val (.long qb), .second, .val (.long qc), .second, .val (.long qd), .second, .val (.int kx), .val (.ref by1), .val (.int (4 : Int32)), .val (.int P0), .val (.int P1), .val (.int P2), .val (.int P3), .val (.ref by58), .val (.ref by63), .unset] []))
    refine Fin.step (fun _ => XS.aload Xy63.here hx rfl (hb hby at_152) rfl rfl) ?_
    show Fin p e below s _ _ _ (Ty63.setTop (mkF m 154 #[.val (.long qa), .second, .val (.long qb), .second, .val (.long qc), .second, .val (.long qd), .second, .val (.int kx), .val (.ref by1), .val (.int (4 : Int32)), .val (.int P0), .val (.int P1), .val (.int P2), .val (.int P3), .val (.ref by58), .val (.ref by63), .unset] [(.ref by1)]))
    refine Fin.step (fun _ => XS.iconst Xy63.here hx rfl (hb hby at_154)) ?_
    show Fin p e below s _ _ _ (Ty63.setTop (mkF m 155 #[.val (.long qa), .second, .val (.long qb), .second, .val (.long qc), .second, .val (.long qd), .second, .val (.int kx), .val (.ref by1), .val (.int (4 : Int32)), .val (.int P0), .val (.int P1), .val (.int P2), .val (.int P3), .val (.ref by58), .val (.ref by63), .unset] [(.int (1 : Int32)), (.ref by1)]))
    have voy66 := ((((((Vy5.ext Ey58).other Wy59 (Nat.ne_of_lt (Nat.lt_of_lt_of_le Vy5.lt (Nat.le_of_eq gy58.symm)))).other Wy60 (Nat.ne_of_lt (Nat.lt_of_lt_of_le Vy5.lt (Nat.le_of_eq gy58.symm)))).other Wy61 (Nat.ne_of_lt (Nat.lt_of_lt_of_le Vy5.lt (Nat.le_of_eq gy58.symm)))).other Wy62 (Nat.ne_of_lt (Nat.lt_of_lt_of_le Vy5.lt (Nat.le_of_eq gy58.symm)))).keep Kcy63 nin0)
    obtain ⟨cly66, Ary66, qay66, say66, nay66, hay66, gay66⟩ := voy66
    have iny66 := inb_of (j := (1 : Int32)) say66 ⟨by decide, by decide⟩
    refine Fin.step (Xy63.laload hx (j := (1 : Int32)) (v := (.long qb)) Ary66.1 (State.isArrayOf_alike hZ.alike Ary66.2.1) Ary66.2.2 iny66 (hay66.at iny66 rfl) (g := (mkF m 155 #[.val (.long qa), .second, .val (.long qb), .second, .val (.long qc), .second, .val (.long qd), .second, .val (.int kx), .val (.ref by1), .val (.int (4 : Int32)), .val (.int P0), .val (.int P1), .val (.int P2), .val (.int P3), .val (.ref by58), .val (.ref by63), .unset] [(.int (1 : Int32)), (.ref by1)])) rfl rfl (hb hby at_155)) ?_
    show Fin p e below s _ _ _ (Ty63.setTop (mkF m 156 #[.val (.long qa), .second, .val (.long qb), .second, .val (.long qc), .second, .val (.long qd), .second, .val (.int kx), .val (.ref by1), .val (.int (4 : Int32)), .val (.int P0), .val (.int P1), .val (.int P2), .val (.int P3), .val (.ref by58), .val (.ref by63), .unset] [(.long qb)]))
    refine Fin.step (fun _ => XS.lloadN Xy63.here hx rfl (hb hby at_156) rfl) ?_
    show Fin p e below s _ _ _ (Ty63.setTop (mkF m 157 #[.val (.long qa), .second, .val (.long qb), .second, .val (.long qc), .second, .val (.long qd), .second, .val (.int kx), .val (.ref by1), .val (.int (4 : Int32)), .val (.int P0), .val (.int P1), .val (.int P2), .val (.int P3), .val (.ref by58), .val (.ref by63), .unset] [(.long qb), (.long qb)]))
    refine Fin.step (fun _ => XS.lcmp Xy63.here hx rfl (hb hby at_157) rfl) ?_
    show Fin p e below s _ _ _ (Ty63.setTop (mkF m 158 #[.val (.long qa), .second, .val (.long qb), .second, .val (.long qc), .second, .val (.long qd), .second, .val (.int kx), .val (.ref by1), .val (.int (4 : Int32)), .val (.int P0), .val (.int P1), .val (.int P2), .val (.int P3), .val (.ref by58), .val (.ref by63), .unset] [(.int (lcmpW qb qb))]))
    refine Fin.step (fun _ => XS.ifNo Xy63.here hx rfl (hb hby at_158) rfl ((if0 _ _).trans (teq ((lcE rfl) : ((lcmpW qb qb) = (0 : Int32)))).2)) ?_
    show Fin p e below s _ _ _ (Ty63.setTop (mkF m 161 #[.val (.long qa), .second, .val (.long qb), .second, .val (.long qc), .second, .val (.long qd), .second, .val (.int kx), .val (.ref by1), .val (.int (4 : Int32)), .val (.int P0), .val (.int P1), .val (.int P2), .val (.int P3), .val (.ref by58), .val (.ref by63), .unset] []))
    refine Fin.step (fun _ => XS.aload Xy63.here hx rfl (hb hby at_161) rfl rfl) ?_
    show Fin p e below s _ _ _ (Ty63.setTop (mkF m 163 #[.val (.long qa), .second, .val (.long qb), .second, .val (.long qc), .second, .val (.long qd), .second, .val (.int kx), .val (.ref by1), .val (.int (4 : Int32)), .val (.int P0), .val (.int P1), .val (.int P2), .val (.int P3), .val (.ref by58), .val (.ref by63), .unset] [(.ref by1)]))
    refine Fin.step (fun _ => XS.iconst Xy63.here hx rfl (hb hby at_163)) ?_
    show Fin p e below s _ _ _ (Ty63.setTop (mkF m 164 #[.val (.long qa), .second, .val (.long qb), .second, .val (.long qc), .second, .val (.long qd), .second, .val (.int kx), .val (.ref by1), .val (.int (4 : Int32)), .val (.int P0), .val (.int P1), .val (.int P2), .val (.int P3), .val (.ref by58), .val (.ref by63), .unset] [(.int (2 : Int32)), (.ref by1)]))
    have voy67 := ((((((Vy5.ext Ey58).other Wy59 (Nat.ne_of_lt (Nat.lt_of_lt_of_le Vy5.lt (Nat.le_of_eq gy58.symm)))).other Wy60 (Nat.ne_of_lt (Nat.lt_of_lt_of_le Vy5.lt (Nat.le_of_eq gy58.symm)))).other Wy61 (Nat.ne_of_lt (Nat.lt_of_lt_of_le Vy5.lt (Nat.le_of_eq gy58.symm)))).other Wy62 (Nat.ne_of_lt (Nat.lt_of_lt_of_le Vy5.lt (Nat.le_of_eq gy58.symm)))).keep Kcy63 nin0)
    obtain ⟨cly67, Ary67, qay67, say67, nay67, hay67, gay67⟩ := voy67
    have iny67 := inb_of (j := (2 : Int32)) say67 ⟨by decide, by decide⟩
    refine Fin.step (Xy63.laload hx (j := (2 : Int32)) (v := (.long qc)) Ary67.1 (State.isArrayOf_alike hZ.alike Ary67.2.1) Ary67.2.2 iny67 (hay67.at iny67 rfl) (g := (mkF m 164 #[.val (.long qa), .second, .val (.long qb), .second, .val (.long qc), .second, .val (.long qd), .second, .val (.int kx), .val (.ref by1), .val (.int (4 : Int32)), .val (.int P0), .val (.int P1), .val (.int P2), .val (.int P3), .val (.ref by58), .val (.ref by63), .unset] [(.int (2 : Int32)), (.ref by1)])) rfl rfl (hb hby at_164)) ?_
    show Fin p e below s _ _ _ (Ty63.setTop (mkF m 165 #[.val (.long qa), .second, .val (.long qb), .second, .val (.long qc), .second, .val (.long qd), .second, .val (.int kx), .val (.ref by1), .val (.int (4 : Int32)), .val (.int P0), .val (.int P1), .val (.int P2), .val (.int P3), .val (.ref by58), .val (.ref by63), .unset] [(.long qc)]))
    refine Fin.step (fun _ => XS.lload Xy63.here hx rfl (hb hby at_165) rfl) ?_
    show Fin p e below s _ _ _ (Ty63.setTop (mkF m 167 #[.val (.long qa), .second, .val (.long qb), .second, .val (.long qc), .second, .val (.long qd), .second, .val (.int kx), .val (.ref by1), .val (.int (4 : Int32)), .val (.int P0), .val (.int P1), .val (.int P2), .val (.int P3), .val (.ref by58), .val (.ref by63), .unset] [(.long qc), (.long qc)]))
    refine Fin.step (fun _ => XS.lcmp Xy63.here hx rfl (hb hby at_167) rfl) ?_
    show Fin p e below s _ _ _ (Ty63.setTop (mkF m 168 #[.val (.long qa), .second, .val (.long qb), .second, .val (.long qc), .second, .val (.long qd), .second, .val (.int kx), .val (.ref by1), .val (.int (4 : Int32)), .val (.int P0), .val (.int P1), .val (.int P2), .val (.int P3), .val (.ref by58), .val (.ref by63), .unset] [(.int (lcmpW qc qc))]))
    refine Fin.step (fun _ => XS.ifNo Xy63.here hx rfl (hb hby at_168) rfl ((if0 _ _).trans (teq ((lcE rfl) : ((lcmpW qc qc) = (0 : Int32)))).2)) ?_
    show Fin p e below s _ _ _ (Ty63.setTop (mkF m 171 #[.val (.long qa), .second, .val (.long qb), .second, .val (.long qc), .second, .val (.long qd), .second, .val (.int kx), .val (.ref by1), .val (.int (4 : Int32)), .val (.int P0), .val (.int P1), .val (.int P2), .val (.int P3), .val (.ref by58), .val (.ref by63), .unset] []))
    refine Fin.step (fun _ => XS.aload Xy63.here hx rfl (hb hby at_171) rfl rfl) ?_
    show Fin p e below s _ _ _ (Ty63.setTop (mkF m 173 #[.val (.long qa), .second, .val (.long qb), .second, .val (.long qc), .second, .val (.long qd), .second, .val (.int kx), .val (.ref by1), .val (.int (4 : Int32)), .val (.int P0), .val (.int P1), .val (.int P2), .val (.int P3), .val (.ref by58), .val (.ref by63), .unset] [(.ref by1)]))
    refine Fin.step (fun _ => XS.iconst Xy63.here hx rfl (hb hby at_173)) ?_
    show Fin p e below s _ _ _ (Ty63.setTop (mkF m 174 #[.val (.long qa), .second, .val (.long qb), .second, .val (.long qc), .second, .val (.long qd), .second, .val (.int kx), .val (.ref by1), .val (.int (4 : Int32)), .val (.int P0), .val (.int P1), .val (.int P2), .val (.int P3), .val (.ref by58), .val (.ref by63), .unset] [(.int (3 : Int32)), (.ref by1)]))
    have voy68 := ((((((Vy5.ext Ey58).other Wy59 (Nat.ne_of_lt (Nat.lt_of_lt_of_le Vy5.lt (Nat.le_of_eq gy58.symm)))).other Wy60 (Nat.ne_of_lt (Nat.lt_of_lt_of_le Vy5.lt (Nat.le_of_eq gy58.symm)))).other Wy61 (Nat.ne_of_lt (Nat.lt_of_lt_of_le Vy5.lt (Nat.le_of_eq gy58.symm)))).other Wy62 (Nat.ne_of_lt (Nat.lt_of_lt_of_le Vy5.lt (Nat.le_of_eq gy58.symm)))).keep Kcy63 nin0)
    obtain ⟨cly68, Ary68, qay68, say68, nay68, hay68, gay68⟩ := voy68
    have iny68 := inb_of (j := (3 : Int32)) say68 ⟨by decide, by decide⟩
    refine Fin.step (Xy63.laload hx (j := (3 : Int32)) (v := (.long qd)) Ary68.1 (State.isArrayOf_alike hZ.alike Ary68.2.1) Ary68.2.2 iny68 (hay68.at iny68 rfl) (g := (mkF m 174 #[.val (.long qa), .second, .val (.long qb), .second, .val (.long qc), .second, .val (.long qd), .second, .val (.int kx), .val (.ref by1), .val (.int (4 : Int32)), .val (.int P0), .val (.int P1), .val (.int P2), .val (.int P3), .val (.ref by58), .val (.ref by63), .unset] [(.int (3 : Int32)), (.ref by1)])) rfl rfl (hb hby at_174)) ?_
    show Fin p e below s _ _ _ (Ty63.setTop (mkF m 175 #[.val (.long qa), .second, .val (.long qb), .second, .val (.long qc), .second, .val (.long qd), .second, .val (.int kx), .val (.ref by1), .val (.int (4 : Int32)), .val (.int P0), .val (.int P1), .val (.int P2), .val (.int P3), .val (.ref by58), .val (.ref by63), .unset] [(.long qd)]))
    refine Fin.step (fun _ => XS.lload Xy63.here hx rfl (hb hby at_175) rfl) ?_
    show Fin p e below s _ _ _ (Ty63.setTop (mkF m 177 #[.val (.long qa), .second, .val (.long qb), .second, .val (.long qc), .second, .val (.long qd), .second, .val (.int kx), .val (.ref by1), .val (.int (4 : Int32)), .val (.int P0), .val (.int P1), .val (.int P2), .val (.int P3), .val (.ref by58), .val (.ref by63), .unset] [(.long qd), (.long qd)]))
    refine Fin.step (fun _ => XS.lcmp Xy63.here hx rfl (hb hby at_177) rfl) ?_
    show Fin p e below s _ _ _ (Ty63.setTop (mkF m 178 #[.val (.long qa), .second, .val (.long qb), .second, .val (.long qc), .second, .val (.long qd), .second, .val (.int kx), .val (.ref by1), .val (.int (4 : Int32)), .val (.int P0), .val (.int P1), .val (.int P2), .val (.int P3), .val (.ref by58), .val (.ref by63), .unset] [(.int (lcmpW qd qd))]))
    refine Fin.step (fun _ => XS.ifNo Xy63.here hx rfl (hb hby at_178) rfl ((if0 _ _).trans (teq ((lcE rfl) : ((lcmpW qd qd) = (0 : Int32)))).2)) ?_
    show Fin p e below s _ _ _ (Ty63.setTop (mkF m 181 #[.val (.long qa), .second, .val (.long qb), .second, .val (.long qc), .second, .val (.long qd), .second, .val (.int kx), .val (.ref by1), .val (.int (4 : Int32)), .val (.int P0), .val (.int P1), .val (.int P2), .val (.int P3), .val (.ref by58), .val (.ref by63), .unset] []))
    refine Fin.step (fun _ => XS.iconst Xy63.here hx rfl (hb hby at_181)) ?_
    show Fin p e below s _ _ _ (Ty63.setTop (mkF m 182 #[.val (.long qa), .second, .val (.long qb), .second, .val (.long qc), .second, .val (.long qd), .second, .val (.int kx), .val (.ref by1), .val (.int (4 : Int32)), .val (.int P0), .val (.int P1), .val (.int P2), .val (.int P3), .val (.ref by58), .val (.ref by63), .unset] [(.int (1 : Int32))]))
    refine Fin.step (fun _ => XS.goto Xy63.here hx rfl (pc0 := 182) (pc' := 186) rfl (hb hby at_182) (by decide) (by decide)) ?_
    show Fin p e below s _ _ _ (Ty63.setTop (mkF m 186 #[.val (.long qa), .second, .val (.long qb), .second, .val (.long qc), .second, .val (.long qd), .second, .val (.int kx), .val (.ref by1), .val (.int (4 : Int32)), .val (.int P0), .val (.int P1), .val (.int P2), .val (.int P3), .val (.ref by58), .val (.ref by63), .unset] [(.int (1 : Int32))]))
    refine Fin.step (fun _ => XS.istore Xy63.here hx rfl (hb hby at_186) rfl (l' := #[.val (.long qa), .second, .val (.long qb), .second, .val (.long qc), .second, .val (.long qd), .second, .val (.int kx), .val (.ref by1), .val (.int (4 : Int32)), .val (.int P0), .val (.int P1), .val (.int P2), .val (.int P3), .val (.ref by58), .val (.ref by63), .val (.int (1 : Int32))]) rfl) ?_
    show Fin p e below s _ _ _ (Ty63.setTop (mkF m 188 #[.val (.long qa), .second, .val (.long qb), .second, .val (.long qc), .second, .val (.long qd), .second, .val (.int kx), .val (.ref by1), .val (.int (4 : Int32)), .val (.int P0), .val (.int P1), .val (.int P2), .val (.int P3), .val (.ref by58), .val (.ref by63), .val (.int (1 : Int32))] []))
    refine Fin.step (fun _ => XS.iload Xy63.here hx rfl (hb hby at_188) rfl) ?_
    show Fin p e below s _ _ _ (Ty63.setTop (mkF m 190 #[.val (.long qa), .second, .val (.long qb), .second, .val (.long qc), .second, .val (.long qd), .second, .val (.int kx), .val (.ref by1), .val (.int (4 : Int32)), .val (.int P0), .val (.int P1), .val (.int P2), .val (.int P3), .val (.ref by58), .val (.ref by63), .val (.int (1 : Int32))] [(.int (4 : Int32))]))
    refine Fin.step (fun _ => XS.ifNo Xy63.here hx rfl (hb hby at_190) rfl ((if0 _ _).trans (tlt ((by decide) : ((0 : Int32) < (4 : Int32)))).2.2.2)) ?_
    show Fin p e below s _ _ _ (Ty63.setTop (mkF m 193 #[.val (.long qa), .second, .val (.long qb), .second, .val (.long qc), .second, .val (.long qd), .second, .val (.int kx), .val (.ref by1), .val (.int (4 : Int32)), .val (.int P0), .val (.int P1), .val (.int P2), .val (.int P3), .val (.ref by58), .val (.ref by63), .val (.int (1 : Int32))] []))
    refine Fin.step (fun _ => XS.iload Xy63.here hx rfl (hb hby at_193) rfl) ?_
    show Fin p e below s _ _ _ (Ty63.setTop (mkF m 195 #[.val (.long qa), .second, .val (.long qb), .second, .val (.long qc), .second, .val (.long qd), .second, .val (.int kx), .val (.ref by1), .val (.int (4 : Int32)), .val (.int P0), .val (.int P1), .val (.int P2), .val (.int P3), .val (.ref by58), .val (.ref by63), .val (.int (1 : Int32))] [(.int (1 : Int32))]))
    refine Fin.step (fun _ => XS.ifNo Xy63.here hx rfl (hb hby at_195) rfl ((if0 _ _).trans (feq ((by decide) : ¬ ((1 : Int32) = (0 : Int32)))).1)) ?_
    show Fin p e below s _ _ _ (Ty63.setTop (mkF m 198 #[.val (.long qa), .second, .val (.long qb), .second, .val (.long qc), .second, .val (.long qd), .second, .val (.int kx), .val (.ref by1), .val (.int (4 : Int32)), .val (.int P0), .val (.int P1), .val (.int P2), .val (.int P3), .val (.ref by58), .val (.ref by63), .val (.int (1 : Int32))] []))
    refine Fin.step (fun _ => XS.aload Xy63.here hx rfl (hb hby at_198) rfl rfl) ?_
    show Fin p e below s _ _ _ (Ty63.setTop (mkF m 200 #[.val (.long qa), .second, .val (.long qb), .second, .val (.long qc), .second, .val (.long qd), .second, .val (.int kx), .val (.ref by1), .val (.int (4 : Int32)), .val (.int P0), .val (.int P1), .val (.int P2), .val (.int P3), .val (.ref by58), .val (.ref by63), .val (.int (1 : Int32))] [(.ref by58)]))
    refine Fin.step (fun _ => XS.iconst Xy63.here hx rfl (hb hby at_200)) ?_
    show Fin p e below s _ _ _ (Ty63.setTop (mkF m 201 #[.val (.long qa), .second, .val (.long qb), .second, .val (.long qc), .second, .val (.long qd), .second, .val (.int kx), .val (.ref by1), .val (.int (4 : Int32)), .val (.int P0), .val (.int P1), .val (.int P2), .val (.int P3), .val (.ref by58), .val (.ref by63), .val (.int (1 : Int32))] [(.int (0 : Int32)), (.ref by58)]))
    have voy69 := (Vy62.keep Kcy63 nin0)
    obtain ⟨cly69, Ary69, qay69, say69, nay69, hay69, gay69⟩ := voy69
    have iny69 := inb_of (j := (0 : Int32)) say69 ⟨by decide, by decide⟩
    refine Fin.step (Xy63.iaload hx (j := (0 : Int32)) (v := (.int P0)) Ary69.1 (State.isArrayOf_alike hZ.alike Ary69.2.1) Ary69.2.2 iny69 (hay69.at iny69 rfl) (g := (mkF m 201 #[.val (.long qa), .second, .val (.long qb), .second, .val (.long qc), .second, .val (.long qd), .second, .val (.int kx), .val (.ref by1), .val (.int (4 : Int32)), .val (.int P0), .val (.int P1), .val (.int P2), .val (.int P3), .val (.ref by58), .val (.ref by63), .val (.int (1 : Int32))] [(.int (0 : Int32)), (.ref by58)])) rfl rfl (hb hby at_201)) ?_
    show Fin p e below s _ _ _ (Ty63.setTop (mkF m 202 #[.val (.long qa), .second, .val (.long qb), .second, .val (.long qc), .second, .val (.long qd), .second, .val (.int kx), .val (.ref by1), .val (.int (4 : Int32)), .val (.int P0), .val (.int P1), .val (.int P2), .val (.int P3), .val (.ref by58), .val (.ref by63), .val (.int (1 : Int32))] [(.int P0)]))
    refine Fin.step (fun _ => XS.iload Xy63.here hx rfl (hb hby at_202) rfl) ?_
    show Fin p e below s _ _ _ (Ty63.setTop (mkF m 204 #[.val (.long qa), .second, .val (.long qb), .second, .val (.long qc), .second, .val (.long qd), .second, .val (.int kx), .val (.ref by1), .val (.int (4 : Int32)), .val (.int P0), .val (.int P1), .val (.int P2), .val (.int P3), .val (.ref by58), .val (.ref by63), .val (.int (1 : Int32))] [(.int P0), (.int P0)]))
    refine Fin.step (fun _ => XS.icmpNo Xy63.here hx rfl (hb hby at_204) rfl (teq (rfl : (P0 = P0))).2) ?_
    show Fin p e below s _ _ _ (Ty63.setTop (mkF m 207 #[.val (.long qa), .second, .val (.long qb), .second, .val (.long qc), .second, .val (.long qd), .second, .val (.int kx), .val (.ref by1), .val (.int (4 : Int32)), .val (.int P0), .val (.int P1), .val (.int P2), .val (.int P3), .val (.ref by58), .val (.ref by63), .val (.int (1 : Int32))] []))
    refine Fin.step (fun _ => XS.aload Xy63.here hx rfl (hb hby at_207) rfl rfl) ?_
    show Fin p e below s _ _ _ (Ty63.setTop (mkF m 209 #[.val (.long qa), .second, .val (.long qb), .second, .val (.long qc), .second, .val (.long qd), .second, .val (.int kx), .val (.ref by1), .val (.int (4 : Int32)), .val (.int P0), .val (.int P1), .val (.int P2), .val (.int P3), .val (.ref by58), .val (.ref by63), .val (.int (1 : Int32))] [(.ref by63)]))
    refine Fin.step (fun _ => XS.iconst Xy63.here hx rfl (hb hby at_209)) ?_
    show Fin p e below s _ _ _ (Ty63.setTop (mkF m 210 #[.val (.long qa), .second, .val (.long qb), .second, .val (.long qc), .second, .val (.long qd), .second, .val (.int kx), .val (.ref by1), .val (.int (4 : Int32)), .val (.int P0), .val (.int P1), .val (.int P2), .val (.int P3), .val (.ref by58), .val (.ref by63), .val (.int (1 : Int32))] [(.int (0 : Int32)), (.ref by63)]))
    have voy70 := fy63_0
    obtain ⟨cly70, Ary70, qay70, say70, nay70, hay70, gay70⟩ := voy70
    have iny70 := inb_of (j := (0 : Int32)) say70 ⟨by decide, by decide⟩
    refine Fin.step (Xy63.laload hx (j := (0 : Int32)) (v := (.long (own_ref P0 qa qb qc qd))) Ary70.1 (State.isArrayOf_alike hZ.alike Ary70.2.1) Ary70.2.2 iny70 (hay70.at iny70 rfl) (g := (mkF m 210 #[.val (.long qa), .second, .val (.long qb), .second, .val (.long qc), .second, .val (.long qd), .second, .val (.int kx), .val (.ref by1), .val (.int (4 : Int32)), .val (.int P0), .val (.int P1), .val (.int P2), .val (.int P3), .val (.ref by58), .val (.ref by63), .val (.int (1 : Int32))] [(.int (0 : Int32)), (.ref by63)])) rfl rfl (hb hby at_210)) ?_
    show Fin p e below s _ _ _ (Ty63.setTop (mkF m 211 #[.val (.long qa), .second, .val (.long qb), .second, .val (.long qc), .second, .val (.long qd), .second, .val (.int kx), .val (.ref by1), .val (.int (4 : Int32)), .val (.int P0), .val (.int P1), .val (.int P2), .val (.int P3), .val (.ref by58), .val (.ref by63), .val (.int (1 : Int32))] [(.long (own_ref P0 qa qb qc qd))]))
    refine Fin.step (fun _ => XS.iload Xy63.here hx rfl (hb hby at_211) rfl) ?_
    show Fin p e below s _ _ _ (Ty63.setTop (mkF m 213 #[.val (.long qa), .second, .val (.long qb), .second, .val (.long qc), .second, .val (.long qd), .second, .val (.int kx), .val (.ref by1), .val (.int (4 : Int32)), .val (.int P0), .val (.int P1), .val (.int P2), .val (.int P3), .val (.ref by58), .val (.ref by63), .val (.int (1 : Int32))] [(.int P0), (.long (own_ref P0 qa qb qc qd))]))
    refine Fin.step (fun _ => XS.lloadN Xy63.here hx rfl (hb hby at_213) rfl) ?_
    show Fin p e below s _ _ _ (Ty63.setTop (mkF m 214 #[.val (.long qa), .second, .val (.long qb), .second, .val (.long qc), .second, .val (.long qd), .second, .val (.int kx), .val (.ref by1), .val (.int (4 : Int32)), .val (.int P0), .val (.int P1), .val (.int P2), .val (.int P3), .val (.ref by58), .val (.ref by63), .val (.int (1 : Int32))] [(.long qa), (.int P0), (.long (own_ref P0 qa qb qc qd))]))
    refine Fin.step (fun _ => XS.lloadN Xy63.here hx rfl (hb hby at_214) rfl) ?_
    show Fin p e below s _ _ _ (Ty63.setTop (mkF m 215 #[.val (.long qa), .second, .val (.long qb), .second, .val (.long qc), .second, .val (.long qd), .second, .val (.int kx), .val (.ref by1), .val (.int (4 : Int32)), .val (.int P0), .val (.int P1), .val (.int P2), .val (.int P3), .val (.ref by58), .val (.ref by63), .val (.int (1 : Int32))] [(.long qb), (.long qa), (.int P0), (.long (own_ref P0 qa qb qc qd))]))
    refine Fin.step (fun _ => XS.lload Xy63.here hx rfl (hb hby at_215) rfl) ?_
    show Fin p e below s _ _ _ (Ty63.setTop (mkF m 217 #[.val (.long qa), .second, .val (.long qb), .second, .val (.long qc), .second, .val (.long qd), .second, .val (.int kx), .val (.ref by1), .val (.int (4 : Int32)), .val (.int P0), .val (.int P1), .val (.int P2), .val (.int P3), .val (.ref by58), .val (.ref by63), .val (.int (1 : Int32))] [(.long qc), (.long qb), (.long qa), (.int P0), (.long (own_ref P0 qa qb qc qd))]))
    refine Fin.step (fun _ => XS.lload Xy63.here hx rfl (hb hby at_217) rfl) ?_
    show Fin p e below s _ _ _ (Ty63.setTop (mkF m 219 #[.val (.long qa), .second, .val (.long qb), .second, .val (.long qc), .second, .val (.long qd), .second, .val (.int kx), .val (.ref by1), .val (.int (4 : Int32)), .val (.int P0), .val (.int P1), .val (.int P2), .val (.int P3), .val (.ref by58), .val (.ref by63), .val (.int (1 : Int32))] [(.long qd), (.long qc), (.long qb), (.long qa), (.int P0), (.long (own_ref P0 qa qb qc qd))]))
    obtain ⟨_, _, ⟨Ty71, Ly71, ky71, ny71⟩, -, Xy71, ⟨Lcy71, hQy71, ly71, yy71, zy71⟩, sty71⟩ := Jvm.LawKit.callS Xy63 hx (y := (⟨"com/example/uzor/uzor/RowPickPinLaw", "ref", "(IJJJJ)J"⟩ : MethodName)) hown (mvT hZ (hw _ (List.mem_of_getElem? (i := 6) rfl))) (mvT hZ (hw _ (List.mem_of_getElem? (i := 7) rfl))) (mvT hZ (hw _ (List.mem_of_getElem? (i := 8) rfl))) (mvT hZ (hw _ (List.mem_of_getElem? (i := 9) rfl))) (by decide) (backOf (W := 2) (rm2 l Z a0 hw [] P0 qa qb qc qd Ty63.heap n0 Zy63 ) hZ (hw _ (List.mem_of_getElem? (i := 9) rfl)) (hw _ (List.mem_of_getElem? (i := 8) rfl)) (by decide) (by decide)) (g := (mkF m 219 #[.val (.long qa), .second, .val (.long qb), .second, .val (.long qc), .second, .val (.long qd), .second, .val (.int kx), .val (.ref by1), .val (.int (4 : Int32)), .val (.int P0), .val (.int P1), .val (.int P2), .val (.int P3), .val (.ref by58), .val (.ref by63), .val (.int (1 : Int32))] [(.long qd), (.long qc), (.long qb), (.long qa), (.int P0), (.long (own_ref P0 qa qb qc qd))])) rfl (by rw [hml]; rfl) (argsL := [(.int P0), (.long qa), (.long qb), (.long qc), (.long qd)]) (rest := [(.long (own_ref P0 qa qb qc qd))]) (lenOf pd_1 rfl) rfl (by show 2 * 0 + _ ≤ _; exact Nat.le_of_eq rfl) (hb hby at_219) (fun _ _ => ⟨rfl, rfl, (by decide : 3 + 0 ≤ _), (by decide : 12 + 0 ≤ _)⟩)
    dsimp only [Pt.U, Pt.locs, Pt.cells, Pt.slots] at Xy71 ly71 yy71 zy71 sty71 hQy71
    subst ly71 yy71 zy71
    obtain ⟨rfl, Nqy71, eqy71⟩ := hQy71
    have Ny71 := Fr.app Ny63 Nqy71
    refine Fin.step (sty71) ?_
    show Fin p e below s _ _ _ (Ty71.setTop (mkF m 222 #[.val (.long qa), .second, .val (.long qb), .second, .val (.long qc), .second, .val (.long qd), .second, .val (.int kx), .val (.ref by1), .val (.int (4 : Int32)), .val (.int P0), .val (.int P1), .val (.int P2), .val (.int P3), .val (.ref by58), .val (.ref by63), .val (.int (1 : Int32))] [(.long (own_ref P0 qa qb qc qd)), (.long (own_ref P0 qa qb qc qd))]))
    refine Fin.step (fun _ => XS.lcmp Xy71.here hx rfl (hb hby at_222) rfl) ?_
    show Fin p e below s _ _ _ (Ty71.setTop (mkF m 223 #[.val (.long qa), .second, .val (.long qb), .second, .val (.long qc), .second, .val (.long qd), .second, .val (.int kx), .val (.ref by1), .val (.int (4 : Int32)), .val (.int P0), .val (.int P1), .val (.int P2), .val (.int P3), .val (.ref by58), .val (.ref by63), .val (.int (1 : Int32))] [(.int (lcmpW (own_ref P0 qa qb qc qd) (own_ref P0 qa qb qc qd)))]))
    refine Fin.step (fun _ => XS.ifNo Xy71.here hx rfl (hb hby at_223) rfl ((if0 _ _).trans (teq ((lcE rfl) : ((lcmpW (own_ref P0 qa qb qc qd) (own_ref P0 qa qb qc qd)) = (0 : Int32)))).2)) ?_
    show Fin p e below s _ _ _ (Ty71.setTop (mkF m 226 #[.val (.long qa), .second, .val (.long qb), .second, .val (.long qc), .second, .val (.long qd), .second, .val (.int kx), .val (.ref by1), .val (.int (4 : Int32)), .val (.int P0), .val (.int P1), .val (.int P2), .val (.int P3), .val (.ref by58), .val (.ref by63), .val (.int (1 : Int32))] []))
    refine Fin.step (fun _ => XS.iconst Xy71.here hx rfl (hb hby at_226)) ?_
    show Fin p e below s _ _ _ (Ty71.setTop (mkF m 227 #[.val (.long qa), .second, .val (.long qb), .second, .val (.long qc), .second, .val (.long qd), .second, .val (.int kx), .val (.ref by1), .val (.int (4 : Int32)), .val (.int P0), .val (.int P1), .val (.int P2), .val (.int P3), .val (.ref by58), .val (.ref by63), .val (.int (1 : Int32))] [(.int (1 : Int32))]))
    refine Fin.step (fun _ => XS.goto Xy71.here hx rfl (pc0 := 227) (pc' := 231) rfl (hb hby at_227) (by decide) (by decide)) ?_
    show Fin p e below s _ _ _ (Ty71.setTop (mkF m 231 #[.val (.long qa), .second, .val (.long qb), .second, .val (.long qc), .second, .val (.long qd), .second, .val (.int kx), .val (.ref by1), .val (.int (4 : Int32)), .val (.int P0), .val (.int P1), .val (.int P2), .val (.int P3), .val (.ref by58), .val (.ref by63), .val (.int (1 : Int32))] [(.int (1 : Int32))]))
    refine Fin.step (fun _ => XS.istore Xy71.here hx rfl (hb hby at_231) rfl (l' := #[.val (.long qa), .second, .val (.long qb), .second, .val (.long qc), .second, .val (.long qd), .second, .val (.int kx), .val (.ref by1), .val (.int (4 : Int32)), .val (.int P0), .val (.int P1), .val (.int P2), .val (.int P3), .val (.ref by58), .val (.ref by63), .val (.int (1 : Int32))]) rfl) ?_
    show Fin p e below s _ _ _ (Ty71.setTop (mkF m 233 #[.val (.long qa), .second, .val (.long qb), .second, .val (.long qc), .second, .val (.long qd), .second, .val (.int kx), .val (.ref by1), .val (.int (4 : Int32)), .val (.int P0), .val (.int P1), .val (.int P2), .val (.int P3), .val (.ref by58), .val (.ref by63), .val (.int (1 : Int32))] []))
    refine Fin.step (fun _ => XS.iload Xy71.here hx rfl (hb hby at_233) rfl) ?_
    show Fin p e below s _ _ _ (Ty71.setTop (mkF m 235 #[.val (.long qa), .second, .val (.long qb), .second, .val (.long qc), .second, .val (.long qd), .second, .val (.int kx), .val (.ref by1), .val (.int (4 : Int32)), .val (.int P0), .val (.int P1), .val (.int P2), .val (.int P3), .val (.ref by58), .val (.ref by63), .val (.int (1 : Int32))] [(.int (4 : Int32))]))
    refine Fin.step (fun _ => XS.iconst Xy71.here hx rfl (hb hby at_235)) ?_
    show Fin p e below s _ _ _ (Ty71.setTop (mkF m 236 #[.val (.long qa), .second, .val (.long qb), .second, .val (.long qc), .second, .val (.long qd), .second, .val (.int kx), .val (.ref by1), .val (.int (4 : Int32)), .val (.int P0), .val (.int P1), .val (.int P2), .val (.int P3), .val (.ref by58), .val (.ref by63), .val (.int (1 : Int32))] [(.int (1 : Int32)), (.int (4 : Int32))]))
    refine Fin.step (fun _ => XS.icmpNo Xy71.here hx rfl (hb hby at_236) rfl (tlt ((by decide) : ((1 : Int32) < (4 : Int32)))).2.2.2) ?_
    show Fin p e below s _ _ _ (Ty71.setTop (mkF m 239 #[.val (.long qa), .second, .val (.long qb), .second, .val (.long qc), .second, .val (.long qd), .second, .val (.int kx), .val (.ref by1), .val (.int (4 : Int32)), .val (.int P0), .val (.int P1), .val (.int P2), .val (.int P3), .val (.ref by58), .val (.ref by63), .val (.int (1 : Int32))] []))
    refine Fin.step (fun _ => XS.iload Xy71.here hx rfl (hb hby at_239) rfl) ?_
    show Fin p e below s _ _ _ (Ty71.setTop (mkF m 241 #[.val (.long qa), .second, .val (.long qb), .second, .val (.long qc), .second, .val (.long qd), .second, .val (.int kx), .val (.ref by1), .val (.int (4 : Int32)), .val (.int P0), .val (.int P1), .val (.int P2), .val (.int P3), .val (.ref by58), .val (.ref by63), .val (.int (1 : Int32))] [(.int (1 : Int32))]))
    refine Fin.step (fun _ => XS.ifNo Xy71.here hx rfl (hb hby at_241) rfl ((if0 _ _).trans (feq ((by decide) : ¬ ((1 : Int32) = (0 : Int32)))).1)) ?_
    show Fin p e below s _ _ _ (Ty71.setTop (mkF m 244 #[.val (.long qa), .second, .val (.long qb), .second, .val (.long qc), .second, .val (.long qd), .second, .val (.int kx), .val (.ref by1), .val (.int (4 : Int32)), .val (.int P0), .val (.int P1), .val (.int P2), .val (.int P3), .val (.ref by58), .val (.ref by63), .val (.int (1 : Int32))] []))
    refine Fin.step (fun _ => XS.aload Xy71.here hx rfl (hb hby at_244) rfl rfl) ?_
    show Fin p e below s _ _ _ (Ty71.setTop (mkF m 246 #[.val (.long qa), .second, .val (.long qb), .second, .val (.long qc), .second, .val (.long qd), .second, .val (.int kx), .val (.ref by1), .val (.int (4 : Int32)), .val (.int P0), .val (.int P1), .val (.int P2), .val (.int P3), .val (.ref by58), .val (.ref by63), .val (.int (1 : Int32))] [(.ref by58)]))
    refine Fin.step (fun _ => XS.iconst Xy71.here hx rfl (hb hby at_246)) ?_
    show Fin p e below s _ _ _ (Ty71.setTop (mkF m 247 #[.val (.long qa), .second, .val (.long qb), .second, .val (.long qc), .second, .val (.long qd), .second, .val (.int kx), .val (.ref by1), .val (.int (4 : Int32)), .val (.int P0), .val (.int P1), .val (.int P2), .val (.int P3), .val (.ref by58), .val (.ref by63), .val (.int (1 : Int32))] [(.int (1 : Int32)), (.ref by58)]))
    have voy72 := (Vy62.keep Kcy63 nin0)
    obtain ⟨cly72, Ary72, qay72, say72, nay72, hay72, gay72⟩ := voy72
    have iny72 := inb_of (j := (1 : Int32)) say72 ⟨by decide, by decide⟩
    refine Fin.step (Xy71.iaload hx (j := (1 : Int32)) (v := (.int P1)) (by rw [eqy71]; exact Ary72.1) (State.isArrayOf_alike hZ.alike Ary72.2.1) Ary72.2.2 iny72 (hay72.at iny72 rfl) (g := (mkF m 247 #[.val (.long qa), .second, .val (.long qb), .second, .val (.long qc), .second, .val (.long qd), .second, .val (.int kx), .val (.ref by1), .val (.int (4 : Int32)), .val (.int P0), .val (.int P1), .val (.int P2), .val (.int P3), .val (.ref by58), .val (.ref by63), .val (.int (1 : Int32))] [(.int (1 : Int32)), (.ref by58)])) rfl rfl (hb hby at_247)) ?_
    show Fin p e below s _ _ _ (Ty71.setTop (mkF m 248 #[.val (.long qa), .second, .val (.long qb), .second, .val (.long qc), .second, .val (.long qd), .second, .val (.int kx), .val (.ref by1), .val (.int (4 : Int32)), .val (.int P0), .val (.int P1), .val (.int P2), .val (.int P3), .val (.ref by58), .val (.ref by63), .val (.int (1 : Int32))] [(.int P1)]))
    refine Fin.step (fun _ => XS.iload Xy71.here hx rfl (hb hby at_248) rfl) ?_
    show Fin p e below s _ _ _ (Ty71.setTop (mkF m 250 #[.val (.long qa), .second, .val (.long qb), .second, .val (.long qc), .second, .val (.long qd), .second, .val (.int kx), .val (.ref by1), .val (.int (4 : Int32)), .val (.int P0), .val (.int P1), .val (.int P2), .val (.int P3), .val (.ref by58), .val (.ref by63), .val (.int (1 : Int32))] [(.int P1), (.int P1)]))
    refine Fin.step (fun _ => XS.icmpNo Xy71.here hx rfl (hb hby at_250) rfl (teq (rfl : (P1 = P1))).2) ?_
    show Fin p e below s _ _ _ (Ty71.setTop (mkF m 253 #[.val (.long qa), .second, .val (.long qb), .second, .val (.long qc), .second, .val (.long qd), .second, .val (.int kx), .val (.ref by1), .val (.int (4 : Int32)), .val (.int P0), .val (.int P1), .val (.int P2), .val (.int P3), .val (.ref by58), .val (.ref by63), .val (.int (1 : Int32))] []))
    refine Fin.step (fun _ => XS.aload Xy71.here hx rfl (hb hby at_253) rfl rfl) ?_
    show Fin p e below s _ _ _ (Ty71.setTop (mkF m 255 #[.val (.long qa), .second, .val (.long qb), .second, .val (.long qc), .second, .val (.long qd), .second, .val (.int kx), .val (.ref by1), .val (.int (4 : Int32)), .val (.int P0), .val (.int P1), .val (.int P2), .val (.int P3), .val (.ref by58), .val (.ref by63), .val (.int (1 : Int32))] [(.ref by63)]))
    refine Fin.step (fun _ => XS.iconst Xy71.here hx rfl (hb hby at_255)) ?_
    show Fin p e below s _ _ _ (Ty71.setTop (mkF m 256 #[.val (.long qa), .second, .val (.long qb), .second, .val (.long qc), .second, .val (.long qd), .second, .val (.int kx), .val (.ref by1), .val (.int (4 : Int32)), .val (.int P0), .val (.int P1), .val (.int P2), .val (.int P3), .val (.ref by58), .val (.ref by63), .val (.int (1 : Int32))] [(.int (1 : Int32)), (.ref by63)]))
    have voy73 := fy63_0
    obtain ⟨cly73, Ary73, qay73, say73, nay73, hay73, gay73⟩ := voy73
    have iny73 := inb_of (j := (1 : Int32)) say73 ⟨by decide, by decide⟩
    refine Fin.step (Xy71.laload hx (j := (1 : Int32)) (v := (.long (own_ref P1 qa qb qc qd))) (by rw [eqy71]; exact Ary73.1) (State.isArrayOf_alike hZ.alike Ary73.2.1) Ary73.2.2 iny73 (hay73.at iny73 rfl) (g := (mkF m 256 #[.val (.long qa), .second, .val (.long qb), .second, .val (.long qc), .second, .val (.long qd), .second, .val (.int kx), .val (.ref by1), .val (.int (4 : Int32)), .val (.int P0), .val (.int P1), .val (.int P2), .val (.int P3), .val (.ref by58), .val (.ref by63), .val (.int (1 : Int32))] [(.int (1 : Int32)), (.ref by63)])) rfl rfl (hb hby at_256)) ?_
    show Fin p e below s _ _ _ (Ty71.setTop (mkF m 257 #[.val (.long qa), .second, .val (.long qb), .second, .val (.long qc), .second, .val (.long qd), .second, .val (.int kx), .val (.ref by1), .val (.int (4 : Int32)), .val (.int P0), .val (.int P1), .val (.int P2), .val (.int P3), .val (.ref by58), .val (.ref by63), .val (.int (1 : Int32))] [(.long (own_ref P1 qa qb qc qd))]))
    refine Fin.step (fun _ => XS.iload Xy71.here hx rfl (hb hby at_257) rfl) ?_
    show Fin p e below s _ _ _ (Ty71.setTop (mkF m 259 #[.val (.long qa), .second, .val (.long qb), .second, .val (.long qc), .second, .val (.long qd), .second, .val (.int kx), .val (.ref by1), .val (.int (4 : Int32)), .val (.int P0), .val (.int P1), .val (.int P2), .val (.int P3), .val (.ref by58), .val (.ref by63), .val (.int (1 : Int32))] [(.int P1), (.long (own_ref P1 qa qb qc qd))]))
    refine Fin.step (fun _ => XS.lloadN Xy71.here hx rfl (hb hby at_259) rfl) ?_
    show Fin p e below s _ _ _ (Ty71.setTop (mkF m 260 #[.val (.long qa), .second, .val (.long qb), .second, .val (.long qc), .second, .val (.long qd), .second, .val (.int kx), .val (.ref by1), .val (.int (4 : Int32)), .val (.int P0), .val (.int P1), .val (.int P2), .val (.int P3), .val (.ref by58), .val (.ref by63), .val (.int (1 : Int32))] [(.long qa), (.int P1), (.long (own_ref P1 qa qb qc qd))]))
    refine Fin.step (fun _ => XS.lloadN Xy71.here hx rfl (hb hby at_260) rfl) ?_
    show Fin p e below s _ _ _ (Ty71.setTop (mkF m 261 #[.val (.long qa), .second, .val (.long qb), .second, .val (.long qc), .second, .val (.long qd), .second, .val (.int kx), .val (.ref by1), .val (.int (4 : Int32)), .val (.int P0), .val (.int P1), .val (.int P2), .val (.int P3), .val (.ref by58), .val (.ref by63), .val (.int (1 : Int32))] [(.long qb), (.long qa), (.int P1), (.long (own_ref P1 qa qb qc qd))]))
    refine Fin.step (fun _ => XS.lload Xy71.here hx rfl (hb hby at_261) rfl) ?_
    show Fin p e below s _ _ _ (Ty71.setTop (mkF m 263 #[.val (.long qa), .second, .val (.long qb), .second, .val (.long qc), .second, .val (.long qd), .second, .val (.int kx), .val (.ref by1), .val (.int (4 : Int32)), .val (.int P0), .val (.int P1), .val (.int P2), .val (.int P3), .val (.ref by58), .val (.ref by63), .val (.int (1 : Int32))] [(.long qc), (.long qb), (.long qa), (.int P1), (.long (own_ref P1 qa qb qc qd))]))
    refine Fin.step (fun _ => XS.lload Xy71.here hx rfl (hb hby at_263) rfl) ?_
    show Fin p e below s _ _ _ (Ty71.setTop (mkF m 265 #[.val (.long qa), .second, .val (.long qb), .second, .val (.long qc), .second, .val (.long qd), .second, .val (.int kx), .val (.ref by1), .val (.int (4 : Int32)), .val (.int P0), .val (.int P1), .val (.int P2), .val (.int P3), .val (.ref by58), .val (.ref by63), .val (.int (1 : Int32))] [(.long qd), (.long qc), (.long qb), (.long qa), (.int P1), (.long (own_ref P1 qa qb qc qd))]))
    obtain ⟨_, _, ⟨Ty74, Ly74, ky74, ny74⟩, -, Xy74, ⟨Lcy74, hQy74, ly74, yy74, zy74⟩, sty74⟩ := Jvm.LawKit.callS Xy71 hx (y := (⟨"com/example/uzor/uzor/RowPickPinLaw", "ref", "(IJJJJ)J"⟩ : MethodName)) hown (mvT hZ (hw _ (List.mem_of_getElem? (i := 6) rfl))) (mvT hZ (hw _ (List.mem_of_getElem? (i := 7) rfl))) (mvT hZ (hw _ (List.mem_of_getElem? (i := 8) rfl))) (mvT hZ (hw _ (List.mem_of_getElem? (i := 9) rfl))) (by decide) (backOf (W := 2) (rm2 l Z a0 hw [] P1 qa qb qc qd Ty63.heap n0 Zy63 ) hZ (hw _ (List.mem_of_getElem? (i := 9) rfl)) (hw _ (List.mem_of_getElem? (i := 8) rfl)) (by decide) (by decide)) (g := (mkF m 265 #[.val (.long qa), .second, .val (.long qb), .second, .val (.long qc), .second, .val (.long qd), .second, .val (.int kx), .val (.ref by1), .val (.int (4 : Int32)), .val (.int P0), .val (.int P1), .val (.int P2), .val (.int P3), .val (.ref by58), .val (.ref by63), .val (.int (1 : Int32))] [(.long qd), (.long qc), (.long qb), (.long qa), (.int P1), (.long (own_ref P1 qa qb qc qd))])) rfl (by rw [hml]; rfl) (argsL := [(.int P1), (.long qa), (.long qb), (.long qc), (.long qd)]) (rest := [(.long (own_ref P1 qa qb qc qd))]) (lenOf pd_1 rfl) rfl (by show 2 * 0 + _ ≤ _; exact Nat.le_of_eq rfl) (hb hby at_265) (fun _ _ => ⟨rfl, eqy71, (by decide : 3 + 0 ≤ _), (by decide : 12 + 0 ≤ _)⟩)
    dsimp only [Pt.U, Pt.locs, Pt.cells, Pt.slots] at Xy74 ly74 yy74 zy74 sty74 hQy74
    subst ly74 yy74 zy74
    obtain ⟨rfl, Nqy74, eqy74⟩ := hQy74
    have Ny74 := Fr.app Ny71 Nqy74
    refine Fin.step (sty74) ?_
    show Fin p e below s _ _ _ (Ty74.setTop (mkF m 268 #[.val (.long qa), .second, .val (.long qb), .second, .val (.long qc), .second, .val (.long qd), .second, .val (.int kx), .val (.ref by1), .val (.int (4 : Int32)), .val (.int P0), .val (.int P1), .val (.int P2), .val (.int P3), .val (.ref by58), .val (.ref by63), .val (.int (1 : Int32))] [(.long (own_ref P1 qa qb qc qd)), (.long (own_ref P1 qa qb qc qd))]))
    refine Fin.step (fun _ => XS.lcmp Xy74.here hx rfl (hb hby at_268) rfl) ?_
    show Fin p e below s _ _ _ (Ty74.setTop (mkF m 269 #[.val (.long qa), .second, .val (.long qb), .second, .val (.long qc), .second, .val (.long qd), .second, .val (.int kx), .val (.ref by1), .val (.int (4 : Int32)), .val (.int P0), .val (.int P1), .val (.int P2), .val (.int P3), .val (.ref by58), .val (.ref by63), .val (.int (1 : Int32))] [(.int (lcmpW (own_ref P1 qa qb qc qd) (own_ref P1 qa qb qc qd)))]))
    refine Fin.step (fun _ => XS.ifNo Xy74.here hx rfl (hb hby at_269) rfl ((if0 _ _).trans (teq ((lcE rfl) : ((lcmpW (own_ref P1 qa qb qc qd) (own_ref P1 qa qb qc qd)) = (0 : Int32)))).2)) ?_
    show Fin p e below s _ _ _ (Ty74.setTop (mkF m 272 #[.val (.long qa), .second, .val (.long qb), .second, .val (.long qc), .second, .val (.long qd), .second, .val (.int kx), .val (.ref by1), .val (.int (4 : Int32)), .val (.int P0), .val (.int P1), .val (.int P2), .val (.int P3), .val (.ref by58), .val (.ref by63), .val (.int (1 : Int32))] []))
    refine Fin.step (fun _ => XS.iconst Xy74.here hx rfl (hb hby at_272)) ?_
    show Fin p e below s _ _ _ (Ty74.setTop (mkF m 273 #[.val (.long qa), .second, .val (.long qb), .second, .val (.long qc), .second, .val (.long qd), .second, .val (.int kx), .val (.ref by1), .val (.int (4 : Int32)), .val (.int P0), .val (.int P1), .val (.int P2), .val (.int P3), .val (.ref by58), .val (.ref by63), .val (.int (1 : Int32))] [(.int (1 : Int32))]))
    refine Fin.step (fun _ => XS.goto Xy74.here hx rfl (pc0 := 273) (pc' := 277) rfl (hb hby at_273) (by decide) (by decide)) ?_
    show Fin p e below s _ _ _ (Ty74.setTop (mkF m 277 #[.val (.long qa), .second, .val (.long qb), .second, .val (.long qc), .second, .val (.long qd), .second, .val (.int kx), .val (.ref by1), .val (.int (4 : Int32)), .val (.int P0), .val (.int P1), .val (.int P2), .val (.int P3), .val (.ref by58), .val (.ref by63), .val (.int (1 : Int32))] [(.int (1 : Int32))]))
    refine Fin.step (fun _ => XS.istore Xy74.here hx rfl (hb hby at_277) rfl (l' := #[.val (.long qa), .second, .val (.long qb), .second, .val (.long qc), .second, .val (.long qd), .second, .val (.int kx), .val (.ref by1), .val (.int (4 : Int32)), .val (.int P0), .val (.int P1), .val (.int P2), .val (.int P3), .val (.ref by58), .val (.ref by63), .val (.int (1 : Int32))]) rfl) ?_
    show Fin p e below s _ _ _ (Ty74.setTop (mkF m 279 #[.val (.long qa), .second, .val (.long qb), .second, .val (.long qc), .second, .val (.long qd), .second, .val (.int kx), .val (.ref by1), .val (.int (4 : Int32)), .val (.int P0), .val (.int P1), .val (.int P2), .val (.int P3), .val (.ref by58), .val (.ref by63), .val (.int (1 : Int32))] []))
    refine Fin.step (fun _ => XS.iload Xy74.here hx rfl (hb hby at_279) rfl) ?_
    show Fin p e below s _ _ _ (Ty74.setTop (mkF m 281 #[.val (.long qa), .second, .val (.long qb), .second, .val (.long qc), .second, .val (.long qd), .second, .val (.int kx), .val (.ref by1), .val (.int (4 : Int32)), .val (.int P0), .val (.int P1), .val (.int P2), .val (.int P3), .val (.ref by58), .val (.ref by63), .val (.int (1 : Int32))] [(.int (4 : Int32))]))
    refine Fin.step (fun _ => XS.iconst Xy74.here hx rfl (hb hby at_281)) ?_
    show Fin p e below s _ _ _ (Ty74.setTop (mkF m 282 #[.val (.long qa), .second, .val (.long qb), .second, .val (.long qc), .second, .val (.long qd), .second, .val (.int kx), .val (.ref by1), .val (.int (4 : Int32)), .val (.int P0), .val (.int P1), .val (.int P2), .val (.int P3), .val (.ref by58), .val (.ref by63), .val (.int (1 : Int32))] [(.int (2 : Int32)), (.int (4 : Int32))]))
    refine Fin.step (fun _ => XS.icmpNo Xy74.here hx rfl (hb hby at_282) rfl (tlt ((by decide) : ((2 : Int32) < (4 : Int32)))).2.2.2) ?_
    show Fin p e below s _ _ _ (Ty74.setTop (mkF m 285 #[.val (.long qa), .second, .val (.long qb), .second, .val (.long qc), .second, .val (.long qd), .second, .val (.int kx), .val (.ref by1), .val (.int (4 : Int32)), .val (.int P0), .val (.int P1), .val (.int P2), .val (.int P3), .val (.ref by58), .val (.ref by63), .val (.int (1 : Int32))] []))
    refine Fin.step (fun _ => XS.iload Xy74.here hx rfl (hb hby at_285) rfl) ?_
    show Fin p e below s _ _ _ (Ty74.setTop (mkF m 287 #[.val (.long qa), .second, .val (.long qb), .second, .val (.long qc), .second, .val (.long qd), .second, .val (.int kx), .val (.ref by1), .val (.int (4 : Int32)), .val (.int P0), .val (.int P1), .val (.int P2), .val (.int P3), .val (.ref by58), .val (.ref by63), .val (.int (1 : Int32))] [(.int (1 : Int32))]))
    refine Fin.step (fun _ => XS.ifNo Xy74.here hx rfl (hb hby at_287) rfl ((if0 _ _).trans (feq ((by decide) : ¬ ((1 : Int32) = (0 : Int32)))).1)) ?_
    show Fin p e below s _ _ _ (Ty74.setTop (mkF m 290 #[.val (.long qa), .second, .val (.long qb), .second, .val (.long qc), .second, .val (.long qd), .second, .val (.int kx), .val (.ref by1), .val (.int (4 : Int32)), .val (.int P0), .val (.int P1), .val (.int P2), .val (.int P3), .val (.ref by58), .val (.ref by63), .val (.int (1 : Int32))] []))
    refine Fin.step (fun _ => XS.aload Xy74.here hx rfl (hb hby at_290) rfl rfl) ?_
    show Fin p e below s _ _ _ (Ty74.setTop (mkF m 292 #[.val (.long qa), .second, .val (.long qb), .second, .val (.long qc), .second, .val (.long qd), .second, .val (.int kx), .val (.ref by1), .val (.int (4 : Int32)), .val (.int P0), .val (.int P1), .val (.int P2), .val (.int P3), .val (.ref by58), .val (.ref by63), .val (.int (1 : Int32))] [(.ref by58)]))
    refine Fin.step (fun _ => XS.iconst Xy74.here hx rfl (hb hby at_292)) ?_
    show Fin p e below s _ _ _ (Ty74.setTop (mkF m 293 #[.val (.long qa), .second, .val (.long qb), .second, .val (.long qc), .second, .val (.long qd), .second, .val (.int kx), .val (.ref by1), .val (.int (4 : Int32)), .val (.int P0), .val (.int P1), .val (.int P2), .val (.int P3), .val (.ref by58), .val (.ref by63), .val (.int (1 : Int32))] [(.int (2 : Int32)), (.ref by58)]))
    have voy75 := (Vy62.keep Kcy63 nin0)
    obtain ⟨cly75, Ary75, qay75, say75, nay75, hay75, gay75⟩ := voy75
    have iny75 := inb_of (j := (2 : Int32)) say75 ⟨by decide, by decide⟩
    refine Fin.step (Xy74.iaload hx (j := (2 : Int32)) (v := (.int P2)) (by rw [eqy74]; exact Ary75.1) (State.isArrayOf_alike hZ.alike Ary75.2.1) Ary75.2.2 iny75 (hay75.at iny75 rfl) (g := (mkF m 293 #[.val (.long qa), .second, .val (.long qb), .second, .val (.long qc), .second, .val (.long qd), .second, .val (.int kx), .val (.ref by1), .val (.int (4 : Int32)), .val (.int P0), .val (.int P1), .val (.int P2), .val (.int P3), .val (.ref by58), .val (.ref by63), .val (.int (1 : Int32))] [(.int (2 : Int32)), (.ref by58)])) rfl rfl (hb hby at_293)) ?_
    show Fin p e below s _ _ _ (Ty74.setTop (mkF m 294 #[.val (.long qa), .second, .val (.long qb), .second, .val (.long qc), .second, .val (.long qd), .second, .val (.int kx), .val (.ref by1), .val (.int (4 : Int32)), .val (.int P0), .val (.int P1), .val (.int P2), .val (.int P3), .val (.ref by58), .val (.ref by63), .val (.int (1 : Int32))] [(.int P2)]))
    refine Fin.step (fun _ => XS.iload Xy74.here hx rfl (hb hby at_294) rfl) ?_
    show Fin p e below s _ _ _ (Ty74.setTop (mkF m 296 #[.val (.long qa), .second, .val (.long qb), .second, .val (.long qc), .second, .val (.long qd), .second, .val (.int kx), .val (.ref by1), .val (.int (4 : Int32)), .val (.int P0), .val (.int P1), .val (.int P2), .val (.int P3), .val (.ref by58), .val (.ref by63), .val (.int (1 : Int32))] [(.int P2), (.int P2)]))
    refine Fin.step (fun _ => XS.icmpNo Xy74.here hx rfl (hb hby at_296) rfl (teq (rfl : (P2 = P2))).2) ?_
    show Fin p e below s _ _ _ (Ty74.setTop (mkF m 299 #[.val (.long qa), .second, .val (.long qb), .second, .val (.long qc), .second, .val (.long qd), .second, .val (.int kx), .val (.ref by1), .val (.int (4 : Int32)), .val (.int P0), .val (.int P1), .val (.int P2), .val (.int P3), .val (.ref by58), .val (.ref by63), .val (.int (1 : Int32))] []))
    refine Fin.step (fun _ => XS.aload Xy74.here hx rfl (hb hby at_299) rfl rfl) ?_
    show Fin p e below s _ _ _ (Ty74.setTop (mkF m 301 #[.val (.long qa), .second, .val (.long qb), .second, .val (.long qc), .second, .val (.long qd), .second, .val (.int kx), .val (.ref by1), .val (.int (4 : Int32)), .val (.int P0), .val (.int P1), .val (.int P2), .val (.int P3), .val (.ref by58), .val (.ref by63), .val (.int (1 : Int32))] [(.ref by63)]))
    refine Fin.step (fun _ => XS.iconst Xy74.here hx rfl (hb hby at_301)) ?_
    show Fin p e below s _ _ _ (Ty74.setTop (mkF m 302 #[.val (.long qa), .second, .val (.long qb), .second, .val (.long qc), .second, .val (.long qd), .second, .val (.int kx), .val (.ref by1), .val (.int (4 : Int32)), .val (.int P0), .val (.int P1), .val (.int P2), .val (.int P3), .val (.ref by58), .val (.ref by63), .val (.int (1 : Int32))] [(.int (2 : Int32)), (.ref by63)]))
    have voy76 := fy63_0
    obtain ⟨cly76, Ary76, qay76, say76, nay76, hay76, gay76⟩ := voy76
    have iny76 := inb_of (j := (2 : Int32)) say76 ⟨by decide, by decide⟩
    refine Fin.step (Xy74.laload hx (j := (2 : Int32)) (v := (.long (own_ref P2 qa qb qc qd))) (by rw [eqy74]; exact Ary76.1) (State.isArrayOf_alike hZ.alike Ary76.2.1) Ary76.2.2 iny76 (hay76.at iny76 rfl) (g := (mkF m 302 #[.val (.long qa), .second, .val (.long qb), .second, .val (.long qc), .second, .val (.long qd), .second, .val (.int kx), .val (.ref by1), .val (.int (4 : Int32)), .val (.int P0), .val (.int P1), .val (.int P2), .val (.int P3), .val (.ref by58), .val (.ref by63), .val (.int (1 : Int32))] [(.int (2 : Int32)), (.ref by63)])) rfl rfl (hb hby at_302)) ?_
    show Fin p e below s _ _ _ (Ty74.setTop (mkF m 303 #[.val (.long qa), .second, .val (.long qb), .second, .val (.long qc), .second, .val (.long qd), .second, .val (.int kx), .val (.ref by1), .val (.int (4 : Int32)), .val (.int P0), .val (.int P1), .val (.int P2), .val (.int P3), .val (.ref by58), .val (.ref by63), .val (.int (1 : Int32))] [(.long (own_ref P2 qa qb qc qd))]))
    refine Fin.step (fun _ => XS.iload Xy74.here hx rfl (hb hby at_303) rfl) ?_
    show Fin p e below s _ _ _ (Ty74.setTop (mkF m 305 #[.val (.long qa), .second, .val (.long qb), .second, .val (.long qc), .second, .val (.long qd), .second, .val (.int kx), .val (.ref by1), .val (.int (4 : Int32)), .val (.int P0), .val (.int P1), .val (.int P2), .val (.int P3), .val (.ref by58), .val (.ref by63), .val (.int (1 : Int32))] [(.int P2), (.long (own_ref P2 qa qb qc qd))]))
    refine Fin.step (fun _ => XS.lloadN Xy74.here hx rfl (hb hby at_305) rfl) ?_
    show Fin p e below s _ _ _ (Ty74.setTop (mkF m 306 #[.val (.long qa), .second, .val (.long qb), .second, .val (.long qc), .second, .val (.long qd), .second, .val (.int kx), .val (.ref by1), .val (.int (4 : Int32)), .val (.int P0), .val (.int P1), .val (.int P2), .val (.int P3), .val (.ref by58), .val (.ref by63), .val (.int (1 : Int32))] [(.long qa), (.int P2), (.long (own_ref P2 qa qb qc qd))]))
    refine Fin.step (fun _ => XS.lloadN Xy74.here hx rfl (hb hby at_306) rfl) ?_
    show Fin p e below s _ _ _ (Ty74.setTop (mkF m 307 #[.val (.long qa), .second, .val (.long qb), .second, .val (.long qc), .second, .val (.long qd), .second, .val (.int kx), .val (.ref by1), .val (.int (4 : Int32)), .val (.int P0), .val (.int P1), .val (.int P2), .val (.int P3), .val (.ref by58), .val (.ref by63), .val (.int (1 : Int32))] [(.long qb), (.long qa), (.int P2), (.long (own_ref P2 qa qb qc qd))]))
    refine Fin.step (fun _ => XS.lload Xy74.here hx rfl (hb hby at_307) rfl) ?_
    show Fin p e below s _ _ _ (Ty74.setTop (mkF m 309 #[.val (.long qa), .second, .val (.long qb), .second, .val (.long qc), .second, .val (.long qd), .second, .val (.int kx), .val (.ref by1), .val (.int (4 : Int32)), .val (.int P0), .val (.int P1), .val (.int P2), .val (.int P3), .val (.ref by58), .val (.ref by63), .val (.int (1 : Int32))] [(.long qc), (.long qb), (.long qa), (.int P2), (.long (own_ref P2 qa qb qc qd))]))
    refine Fin.step (fun _ => XS.lload Xy74.here hx rfl (hb hby at_309) rfl) ?_
    show Fin p e below s _ _ _ (Ty74.setTop (mkF m 311 #[.val (.long qa), .second, .val (.long qb), .second, .val (.long qc), .second, .val (.long qd), .second, .val (.int kx), .val (.ref by1), .val (.int (4 : Int32)), .val (.int P0), .val (.int P1), .val (.int P2), .val (.int P3), .val (.ref by58), .val (.ref by63), .val (.int (1 : Int32))] [(.long qd), (.long qc), (.long qb), (.long qa), (.int P2), (.long (own_ref P2 qa qb qc qd))]))
    obtain ⟨_, _, ⟨Ty77, Ly77, ky77, ny77⟩, -, Xy77, ⟨Lcy77, hQy77, ly77, yy77, zy77⟩, sty77⟩ := Jvm.LawKit.callS Xy74 hx (y := (⟨"com/example/uzor/uzor/RowPickPinLaw", "ref", "(IJJJJ)J"⟩ : MethodName)) hown (mvT hZ (hw _ (List.mem_of_getElem? (i := 6) rfl))) (mvT hZ (hw _ (List.mem_of_getElem? (i := 7) rfl))) (mvT hZ (hw _ (List.mem_of_getElem? (i := 8) rfl))) (mvT hZ (hw _ (List.mem_of_getElem? (i := 9) rfl))) (by decide) (backOf (W := 2) (rm2 l Z a0 hw [] P2 qa qb qc qd Ty63.heap n0 Zy63 ) hZ (hw _ (List.mem_of_getElem? (i := 9) rfl)) (hw _ (List.mem_of_getElem? (i := 8) rfl)) (by decide) (by decide)) (g := (mkF m 311 #[.val (.long qa), .second, .val (.long qb), .second, .val (.long qc), .second, .val (.long qd), .second, .val (.int kx), .val (.ref by1), .val (.int (4 : Int32)), .val (.int P0), .val (.int P1), .val (.int P2), .val (.int P3), .val (.ref by58), .val (.ref by63), .val (.int (1 : Int32))] [(.long qd), (.long qc), (.long qb), (.long qa), (.int P2), (.long (own_ref P2 qa qb qc qd))])) rfl (by rw [hml]; rfl) (argsL := [(.int P2), (.long qa), (.long qb), (.long qc), (.long qd)]) (rest := [(.long (own_ref P2 qa qb qc qd))]) (lenOf pd_1 rfl) rfl (by show 2 * 0 + _ ≤ _; exact Nat.le_of_eq rfl) (hb hby at_311) (fun _ _ => ⟨rfl, eqy74, (by decide : 3 + 0 ≤ _), (by decide : 12 + 0 ≤ _)⟩)
    dsimp only [Pt.U, Pt.locs, Pt.cells, Pt.slots] at Xy77 ly77 yy77 zy77 sty77 hQy77
    subst ly77 yy77 zy77
    obtain ⟨rfl, Nqy77, eqy77⟩ := hQy77
    have Ny77 := Fr.app Ny74 Nqy77
    refine Fin.step (sty77) ?_
    show Fin p e below s _ _ _ (Ty77.setTop (mkF m 314 #[.val (.long qa), .second, .val (.long qb), .second, .val (.long qc), .second, .val (.long qd), .second, .val (.int kx), .val (.ref by1), .val (.int (4 : Int32)), .val (.int P0), .val (.int P1), .val (.int P2), .val (.int P3), .val (.ref by58), .val (.ref by63), .val (.int (1 : Int32))] [(.long (own_ref P2 qa qb qc qd)), (.long (own_ref P2 qa qb qc qd))]))
    refine Fin.step (fun _ => XS.lcmp Xy77.here hx rfl (hb hby at_314) rfl) ?_
    show Fin p e below s _ _ _ (Ty77.setTop (mkF m 315 #[.val (.long qa), .second, .val (.long qb), .second, .val (.long qc), .second, .val (.long qd), .second, .val (.int kx), .val (.ref by1), .val (.int (4 : Int32)), .val (.int P0), .val (.int P1), .val (.int P2), .val (.int P3), .val (.ref by58), .val (.ref by63), .val (.int (1 : Int32))] [(.int (lcmpW (own_ref P2 qa qb qc qd) (own_ref P2 qa qb qc qd)))]))
    refine Fin.step (fun _ => XS.ifNo Xy77.here hx rfl (hb hby at_315) rfl ((if0 _ _).trans (teq ((lcE rfl) : ((lcmpW (own_ref P2 qa qb qc qd) (own_ref P2 qa qb qc qd)) = (0 : Int32)))).2)) ?_
    show Fin p e below s _ _ _ (Ty77.setTop (mkF m 318 #[.val (.long qa), .second, .val (.long qb), .second, .val (.long qc), .second, .val (.long qd), .second, .val (.int kx), .val (.ref by1), .val (.int (4 : Int32)), .val (.int P0), .val (.int P1), .val (.int P2), .val (.int P3), .val (.ref by58), .val (.ref by63), .val (.int (1 : Int32))] []))
    refine Fin.step (fun _ => XS.iconst Xy77.here hx rfl (hb hby at_318)) ?_
    show Fin p e below s _ _ _ (Ty77.setTop (mkF m 319 #[.val (.long qa), .second, .val (.long qb), .second, .val (.long qc), .second, .val (.long qd), .second, .val (.int kx), .val (.ref by1), .val (.int (4 : Int32)), .val (.int P0), .val (.int P1), .val (.int P2), .val (.int P3), .val (.ref by58), .val (.ref by63), .val (.int (1 : Int32))] [(.int (1 : Int32))]))
    refine Fin.step (fun _ => XS.goto Xy77.here hx rfl (pc0 := 319) (pc' := 323) rfl (hb hby at_319) (by decide) (by decide)) ?_
    show Fin p e below s _ _ _ (Ty77.setTop (mkF m 323 #[.val (.long qa), .second, .val (.long qb), .second, .val (.long qc), .second, .val (.long qd), .second, .val (.int kx), .val (.ref by1), .val (.int (4 : Int32)), .val (.int P0), .val (.int P1), .val (.int P2), .val (.int P3), .val (.ref by58), .val (.ref by63), .val (.int (1 : Int32))] [(.int (1 : Int32))]))
    refine Fin.step (fun _ => XS.istore Xy77.here hx rfl (hb hby at_323) rfl (l' := #[.val (.long qa), .second, .val (.long qb), .second, .val (.long qc), .second, .val (.long qd), .second, .val (.int kx), .val (.ref by1), .val (.int (4 : Int32)), .val (.int P0), .val (.int P1), .val (.int P2), .val (.int P3), .val (.ref by58), .val (.ref by63), .val (.int (1 : Int32))]) rfl) ?_
    show Fin p e below s _ _ _ (Ty77.setTop (mkF m 325 #[.val (.long qa), .second, .val (.long qb), .second, .val (.long qc), .second, .val (.long qd), .second, .val (.int kx), .val (.ref by1), .val (.int (4 : Int32)), .val (.int P0), .val (.int P1), .val (.int P2), .val (.int P3), .val (.ref by58), .val (.ref by63), .val (.int (1 : Int32))] []))
    refine Fin.step (fun _ => XS.iload Xy77.here hx rfl (hb hby at_325) rfl) ?_
    show Fin p e below s _ _ _ (Ty77.setTop (mkF m 327 #[.val (.long qa), .second, .val (.long qb), .second, .val (.long qc), .second, .val (.long qd), .second, .val (.int kx), .val (.ref by1), .val (.int (4 : Int32)), .val (.int P0), .val (.int P1), .val (.int P2), .val (.int P3), .val (.ref by58), .val (.ref by63), .val (.int (1 : Int32))] [(.int (4 : Int32))]))
    refine Fin.step (fun _ => XS.iconst Xy77.here hx rfl (hb hby at_327)) ?_
    show Fin p e below s _ _ _ (Ty77.setTop (mkF m 328 #[.val (.long qa), .second, .val (.long qb), .second, .val (.long qc), .second, .val (.long qd), .second, .val (.int kx), .val (.ref by1), .val (.int (4 : Int32)), .val (.int P0), .val (.int P1), .val (.int P2), .val (.int P3), .val (.ref by58), .val (.ref by63), .val (.int (1 : Int32))] [(.int (3 : Int32)), (.int (4 : Int32))]))
    refine Fin.step (fun _ => XS.icmpNo Xy77.here hx rfl (hb hby at_328) rfl (tlt ((by decide) : ((3 : Int32) < (4 : Int32)))).2.2.2) ?_
    show Fin p e below s _ _ _ (Ty77.setTop (mkF m 331 #[.val (.long qa), .second, .val (.long qb), .second, .val (.long qc), .second, .val (.long qd), .second, .val (.int kx), .val (.ref by1), .val (.int (4 : Int32)), .val (.int P0), .val (.int P1), .val (.int P2), .val (.int P3), .val (.ref by58), .val (.ref by63), .val (.int (1 : Int32))] []))
    refine Fin.step (fun _ => XS.iload Xy77.here hx rfl (hb hby at_331) rfl) ?_
    show Fin p e below s _ _ _ (Ty77.setTop (mkF m 333 #[.val (.long qa), .second, .val (.long qb), .second, .val (.long qc), .second, .val (.long qd), .second, .val (.int kx), .val (.ref by1), .val (.int (4 : Int32)), .val (.int P0), .val (.int P1), .val (.int P2), .val (.int P3), .val (.ref by58), .val (.ref by63), .val (.int (1 : Int32))] [(.int (1 : Int32))]))
    refine Fin.step (fun _ => XS.ifNo Xy77.here hx rfl (hb hby at_333) rfl ((if0 _ _).trans (feq ((by decide) : ¬ ((1 : Int32) = (0 : Int32)))).1)) ?_
    show Fin p e below s _ _ _ (Ty77.setTop (mkF m 336 #[.val (.long qa), .second, .val (.long qb), .second, .val (.long qc), .second, .val (.long qd), .second, .val (.int kx), .val (.ref by1), .val (.int (4 : Int32)), .val (.int P0), .val (.int P1), .val (.int P2), .val (.int P3), .val (.ref by58), .val (.ref by63), .val (.int (1 : Int32))] []))
    refine Fin.step (fun _ => XS.aload Xy77.here hx rfl (hb hby at_336) rfl rfl) ?_
    show Fin p e below s _ _ _ (Ty77.setTop (mkF m 338 #[.val (.long qa), .second, .val (.long qb), .second, .val (.long qc), .second, .val (.long qd), .second, .val (.int kx), .val (.ref by1), .val (.int (4 : Int32)), .val (.int P0), .val (.int P1), .val (.int P2), .val (.int P3), .val (.ref by58), .val (.ref by63), .val (.int (1 : Int32))] [(.ref by58)]))
    refine Fin.step (fun _ => XS.iconst Xy77.here hx rfl (hb hby at_338)) ?_
    show Fin p e below s _ _ _ (Ty77.setTop (mkF m 339 #[.val (.long qa), .second, .val (.long qb), .second, .val (.long qc), .second, .val (.long qd), .second, .val (.int kx), .val (.ref by1), .val (.int (4 : Int32)), .val (.int P0), .val (.int P1), .val (.int P2), .val (.int P3), .val (.ref by58), .val (.ref by63), .val (.int (1 : Int32))] [(.int (3 : Int32)), (.ref by58)]))
    have voy78 := (Vy62.keep Kcy63 nin0)
    obtain ⟨cly78, Ary78, qay78, say78, nay78, hay78, gay78⟩ := voy78
    have iny78 := inb_of (j := (3 : Int32)) say78 ⟨by decide, by decide⟩
    refine Fin.step (Xy77.iaload hx (j := (3 : Int32)) (v := (.int P3)) (by rw [eqy77]; exact Ary78.1) (State.isArrayOf_alike hZ.alike Ary78.2.1) Ary78.2.2 iny78 (hay78.at iny78 rfl) (g := (mkF m 339 #[.val (.long qa), .second, .val (.long qb), .second, .val (.long qc), .second, .val (.long qd), .second, .val (.int kx), .val (.ref by1), .val (.int (4 : Int32)), .val (.int P0), .val (.int P1), .val (.int P2), .val (.int P3), .val (.ref by58), .val (.ref by63), .val (.int (1 : Int32))] [(.int (3 : Int32)), (.ref by58)])) rfl rfl (hb hby at_339)) ?_
    show Fin p e below s _ _ _ (Ty77.setTop (mkF m 340 #[.val (.long qa), .second, .val (.long qb), .second, .val (.long qc), .second, .val (.long qd), .second, .val (.int kx), .val (.ref by1), .val (.int (4 : Int32)), .val (.int P0), .val (.int P1), .val (.int P2), .val (.int P3), .val (.ref by58), .val (.ref by63), .val (.int (1 : Int32))] [(.int P3)]))
    refine Fin.step (fun _ => XS.iload Xy77.here hx rfl (hb hby at_340) rfl) ?_
    show Fin p e below s _ _ _ (Ty77.setTop (mkF m 342 #[.val (.long qa), .second, .val (.long qb), .second, .val (.long qc), .second, .val (.long qd), .second, .val (.int kx), .val (.ref by1), .val (.int (4 : Int32)), .val (.int P0), .val (.int P1), .val (.int P2), .val (.int P3), .val (.ref by58), .val (.ref by63), .val (.int (1 : Int32))] [(.int P3), (.int P3)]))
    refine Fin.step (fun _ => XS.icmpNo Xy77.here hx rfl (hb hby at_342) rfl (teq (rfl : (P3 = P3))).2) ?_
    show Fin p e below s _ _ _ (Ty77.setTop (mkF m 345 #[.val (.long qa), .second, .val (.long qb), .second, .val (.long qc), .second, .val (.long qd), .second, .val (.int kx), .val (.ref by1), .val (.int (4 : Int32)), .val (.int P0), .val (.int P1), .val (.int P2), .val (.int P3), .val (.ref by58), .val (.ref by63), .val (.int (1 : Int32))] []))
    refine Fin.step (fun _ => XS.aload Xy77.here hx rfl (hb hby at_345) rfl rfl) ?_
    show Fin p e below s _ _ _ (Ty77.setTop (mkF m 347 #[.val (.long qa), .second, .val (.long qb), .second, .val (.long qc), .second, .val (.long qd), .second, .val (.int kx), .val (.ref by1), .val (.int (4 : Int32)), .val (.int P0), .val (.int P1), .val (.int P2), .val (.int P3), .val (.ref by58), .val (.ref by63), .val (.int (1 : Int32))] [(.ref by63)]))
    refine Fin.step (fun _ => XS.iconst Xy77.here hx rfl (hb hby at_347)) ?_
    show Fin p e below s _ _ _ (Ty77.setTop (mkF m 348 #[.val (.long qa), .second, .val (.long qb), .second, .val (.long qc), .second, .val (.long qd), .second, .val (.int kx), .val (.ref by1), .val (.int (4 : Int32)), .val (.int P0), .val (.int P1), .val (.int P2), .val (.int P3), .val (.ref by58), .val (.ref by63), .val (.int (1 : Int32))] [(.int (3 : Int32)), (.ref by63)]))
    have voy79 := fy63_0
    obtain ⟨cly79, Ary79, qay79, say79, nay79, hay79, gay79⟩ := voy79
    have iny79 := inb_of (j := (3 : Int32)) say79 ⟨by decide, by decide⟩
    refine Fin.step (Xy77.laload hx (j := (3 : Int32)) (v := (.long (own_ref P3 qa qb qc qd))) (by rw [eqy77]; exact Ary79.1) (State.isArrayOf_alike hZ.alike Ary79.2.1) Ary79.2.2 iny79 (hay79.at iny79 rfl) (g := (mkF m 348 #[.val (.long qa), .second, .val (.long qb), .second, .val (.long qc), .second, .val (.long qd), .second, .val (.int kx), .val (.ref by1), .val (.int (4 : Int32)), .val (.int P0), .val (.int P1), .val (.int P2), .val (.int P3), .val (.ref by58), .val (.ref by63), .val (.int (1 : Int32))] [(.int (3 : Int32)), (.ref by63)])) rfl rfl (hb hby at_348)) ?_
    show Fin p e below s _ _ _ (Ty77.setTop (mkF m 349 #[.val (.long qa), .second, .val (.long qb), .second, .val (.long qc), .second, .val (.long qd), .second, .val (.int kx), .val (.ref by1), .val (.int (4 : Int32)), .val (.int P0), .val (.int P1), .val (.int P2), .val (.int P3), .val (.ref by58), .val (.ref by63), .val (.int (1 : Int32))] [(.long (own_ref P3 qa qb qc qd))]))
    refine Fin.step (fun _ => XS.iload Xy77.here hx rfl (hb hby at_349) rfl) ?_
    show Fin p e below s _ _ _ (Ty77.setTop (mkF m 351 #[.val (.long qa), .second, .val (.long qb), .second, .val (.long qc), .second, .val (.long qd), .second, .val (.int kx), .val (.ref by1), .val (.int (4 : Int32)), .val (.int P0), .val (.int P1), .val (.int P2), .val (.int P3), .val (.ref by58), .val (.ref by63), .val (.int (1 : Int32))] [(.int P3), (.long (own_ref P3 qa qb qc qd))]))
    refine Fin.step (fun _ => XS.lloadN Xy77.here hx rfl (hb hby at_351) rfl) ?_
    show Fin p e below s _ _ _ (Ty77.setTop (mkF m 352 #[.val (.long qa), .second, .val (.long qb), .second, .val (.long qc), .second, .val (.long qd), .second, .val (.int kx), .val (.ref by1), .val (.int (4 : Int32)), .val (.int P0), .val (.int P1), .val (.int P2), .val (.int P3), .val (.ref by58), .val (.ref by63), .val (.int (1 : Int32))] [(.long qa), (.int P3), (.long (own_ref P3 qa qb qc qd))]))
    refine Fin.step (fun _ => XS.lloadN Xy77.here hx rfl (hb hby at_352) rfl) ?_
    show Fin p e below s _ _ _ (Ty77.setTop (mkF m 353 #[.val (.long qa), .second, .val (.long qb), .second, .val (.long qc), .second, .val (.long qd), .second, .val (.int kx), .val (.ref by1), .val (.int (4 : Int32)), .val (.int P0), .val (.int P1), .val (.int P2), .val (.int P3), .val (.ref by58), .val (.ref by63), .val (.int (1 : Int32))] [(.long qb), (.long qa), (.int P3), (.long (own_ref P3 qa qb qc qd))]))
    refine Fin.step (fun _ => XS.lload Xy77.here hx rfl (hb hby at_353) rfl) ?_
    show Fin p e below s _ _ _ (Ty77.setTop (mkF m 355 #[.val (.long qa), .second, .val (.long qb), .second, .val (.long qc), .second, .val (.long qd), .second, .val (.int kx), .val (.ref by1), .val (.int (4 : Int32)), .val (.int P0), .val (.int P1), .val (.int P2), .val (.int P3), .val (.ref by58), .val (.ref by63), .val (.int (1 : Int32))] [(.long qc), (.long qb), (.long qa), (.int P3), (.long (own_ref P3 qa qb qc qd))]))
    refine Fin.step (fun _ => XS.lload Xy77.here hx rfl (hb hby at_355) rfl) ?_
    show Fin p e below s _ _ _ (Ty77.setTop (mkF m 357 #[.val (.long qa), .second, .val (.long qb), .second, .val (.long qc), .second, .val (.long qd), .second, .val (.int kx), .val (.ref by1), .val (.int (4 : Int32)), .val (.int P0), .val (.int P1), .val (.int P2), .val (.int P3), .val (.ref by58), .val (.ref by63), .val (.int (1 : Int32))] [(.long qd), (.long qc), (.long qb), (.long qa), (.int P3), (.long (own_ref P3 qa qb qc qd))]))
    obtain ⟨_, _, ⟨Ty80, Ly80, ky80, ny80⟩, -, Xy80, ⟨Lcy80, hQy80, ly80, yy80, zy80⟩, sty80⟩ := Jvm.LawKit.callS Xy77 hx (y := (⟨"com/example/uzor/uzor/RowPickPinLaw", "ref", "(IJJJJ)J"⟩ : MethodName)) hown (mvT hZ (hw _ (List.mem_of_getElem? (i := 6) rfl))) (mvT hZ (hw _ (List.mem_of_getElem? (i := 7) rfl))) (mvT hZ (hw _ (List.mem_of_getElem? (i := 8) rfl))) (mvT hZ (hw _ (List.mem_of_getElem? (i := 9) rfl))) (by decide) (backOf (W := 2) (rm2 l Z a0 hw [] P3 qa qb qc qd Ty63.heap n0 Zy63 ) hZ (hw _ (List.mem_of_getElem? (i := 9) rfl)) (hw _ (List.mem_of_getElem? (i := 8) rfl)) (by decide) (by decide)) (g := (mkF m 357 #[.val (.long qa), .second, .val (.long qb), .second, .val (.long qc), .second, .val (.long qd), .second, .val (.int kx), .val (.ref by1), .val (.int (4 : Int32)), .val (.int P0), .val (.int P1), .val (.int P2), .val (.int P3), .val (.ref by58), .val (.ref by63), .val (.int (1 : Int32))] [(.long qd), (.long qc), (.long qb), (.long qa), (.int P3), (.long (own_ref P3 qa qb qc qd))])) rfl (by rw [hml]; rfl) (argsL := [(.int P3), (.long qa), (.long qb), (.long qc), (.long qd)]) (rest := [(.long (own_ref P3 qa qb qc qd))]) (lenOf pd_1 rfl) rfl (by show 2 * 0 + _ ≤ _; exact Nat.le_of_eq rfl) (hb hby at_357) (fun _ _ => ⟨rfl, eqy77, (by decide : 3 + 0 ≤ _), (by decide : 12 + 0 ≤ _)⟩)
    dsimp only [Pt.U, Pt.locs, Pt.cells, Pt.slots] at Xy80 ly80 yy80 zy80 sty80 hQy80
    subst ly80 yy80 zy80
    obtain ⟨rfl, Nqy80, eqy80⟩ := hQy80
    have Ny80 := Fr.app Ny77 Nqy80
    refine Fin.step (sty80) ?_
    show Fin p e below s _ _ _ (Ty80.setTop (mkF m 360 #[.val (.long qa), .second, .val (.long qb), .second, .val (.long qc), .second, .val (.long qd), .second, .val (.int kx), .val (.ref by1), .val (.int (4 : Int32)), .val (.int P0), .val (.int P1), .val (.int P2), .val (.int P3), .val (.ref by58), .val (.ref by63), .val (.int (1 : Int32))] [(.long (own_ref P3 qa qb qc qd)), (.long (own_ref P3 qa qb qc qd))]))
    refine Fin.step (fun _ => XS.lcmp Xy80.here hx rfl (hb hby at_360) rfl) ?_
    show Fin p e below s _ _ _ (Ty80.setTop (mkF m 361 #[.val (.long qa), .second, .val (.long qb), .second, .val (.long qc), .second, .val (.long qd), .second, .val (.int kx), .val (.ref by1), .val (.int (4 : Int32)), .val (.int P0), .val (.int P1), .val (.int P2), .val (.int P3), .val (.ref by58), .val (.ref by63), .val (.int (1 : Int32))] [(.int (lcmpW (own_ref P3 qa qb qc qd) (own_ref P3 qa qb qc qd)))]))
    refine Fin.step (fun _ => XS.ifNo Xy80.here hx rfl (hb hby at_361) rfl ((if0 _ _).trans (teq ((lcE rfl) : ((lcmpW (own_ref P3 qa qb qc qd) (own_ref P3 qa qb qc qd)) = (0 : Int32)))).2)) ?_
    show Fin p e below s _ _ _ (Ty80.setTop (mkF m 364 #[.val (.long qa), .second, .val (.long qb), .second, .val (.long qc), .second, .val (.long qd), .second, .val (.int kx), .val (.ref by1), .val (.int (4 : Int32)), .val (.int P0), .val (.int P1), .val (.int P2), .val (.int P3), .val (.ref by58), .val (.ref by63), .val (.int (1 : Int32))] []))
    refine Fin.step (fun _ => XS.iconst Xy80.here hx rfl (hb hby at_364)) ?_
    show Fin p e below s _ _ _ (Ty80.setTop (mkF m 365 #[.val (.long qa), .second, .val (.long qb), .second, .val (.long qc), .second, .val (.long qd), .second, .val (.int kx), .val (.ref by1), .val (.int (4 : Int32)), .val (.int P0), .val (.int P1), .val (.int P2), .val (.int P3), .val (.ref by58), .val (.ref by63), .val (.int (1 : Int32))] [(.int (1 : Int32))]))
    refine Fin.step (fun _ => XS.goto Xy80.here hx rfl (pc0 := 365) (pc' := 369) rfl (hb hby at_365) (by decide) (by decide)) ?_
    show Fin p e below s _ _ _ (Ty80.setTop (mkF m 369 #[.val (.long qa), .second, .val (.long qb), .second, .val (.long qc), .second, .val (.long qd), .second, .val (.int kx), .val (.ref by1), .val (.int (4 : Int32)), .val (.int P0), .val (.int P1), .val (.int P2), .val (.int P3), .val (.ref by58), .val (.ref by63), .val (.int (1 : Int32))] [(.int (1 : Int32))]))
    refine Fin.step (fun _ => XS.istore Xy80.here hx rfl (hb hby at_369) rfl (l' := #[.val (.long qa), .second, .val (.long qb), .second, .val (.long qc), .second, .val (.long qd), .second, .val (.int kx), .val (.ref by1), .val (.int (4 : Int32)), .val (.int P0), .val (.int P1), .val (.int P2), .val (.int P3), .val (.ref by58), .val (.ref by63), .val (.int (1 : Int32))]) rfl) ?_
    show Fin p e below s _ _ _ (Ty80.setTop (mkF m 371 #[.val (.long qa), .second, .val (.long qb), .second, .val (.long qc), .second, .val (.long qd), .second, .val (.int kx), .val (.ref by1), .val (.int (4 : Int32)), .val (.int P0), .val (.int P1), .val (.int P2), .val (.int P3), .val (.ref by58), .val (.ref by63), .val (.int (1 : Int32))] []))
    refine Fin.step (fun _ => XS.iload Xy80.here hx rfl (hb hby at_371) rfl) ?_
    show Fin p e below s _ _ _ (Ty80.setTop (mkF m 373 #[.val (.long qa), .second, .val (.long qb), .second, .val (.long qc), .second, .val (.long qd), .second, .val (.int kx), .val (.ref by1), .val (.int (4 : Int32)), .val (.int P0), .val (.int P1), .val (.int P2), .val (.int P3), .val (.ref by58), .val (.ref by63), .val (.int (1 : Int32))] [(.int (1 : Int32))]))
    refine Fin.retN Xy80 hx (t := .boolean) hret (by simp) hlk (hb hby at_373) (by decide) (by decide) ?_
    show Q0 Z qa qb qc qd kx h0 n0 _ Ty80.heap _
    rw [eqy80]
    exact ⟨rfl, Ny80, Ky63⟩
set_option maxRecDepth 65536 in
set_option maxHeartbeats 40000000 in
theorem comes_1 {Post : Tables → Env → Array Value → State → Outcome → State → Prop} (hpost : ∀ tb e args s v u, (limb_1_1.after args s (.returned v) u = true ∧ limb_1_2.after args s (.returned v) u = true ∧ True) → FrameEnd s (.returned v) u (Jvm.fieldLocs frame_1_writes args s ++ Jvm.arrayLocs frame_1_arrays args s ++ Jvm.staticLocs frame_1_statics s) 16 128 → Post tb e args s (.returned v) u) :
    ArmFor flags0 classFile x code maxLocals ret World_1 tables_1 room_1 Calls_1 rest_1 Pre_1 Post := by
  intro l hfl _ _ p e ha hc hk s m args below hf hA hF happ hP
  obtain ⟨hcalls, hrest, hpre⟩ := hP
  obtain ⟨-, -, -, hnamed, -, -, -, hat⟩ := (Spec.applies_iff hf).mp happ
  obtain ⟨hg, hn⟩ := and_e (Cond.before_iff.mp (show (Jvm.Cond.and given_1 narrow_1).before args s = true from hpre))
  obtain ⟨gc, gr0⟩ := and_e hg
  obtain ⟨ga0, gr1⟩ := and_e gr0
  obtain ⟨ga1, gr2⟩ := and_e gr1
  obtain ⟨ga2, gr3⟩ := and_e gr2
  obtain ⟨ga3, gr4⟩ := and_e gr3
  have ga4 := gr4
  obtain ⟨w0, w1, w2, w3, w4, rfl⟩ : ∃ w0 w1 w2 w3 w4 : Value, args = #[w0, w1, w2, w3, w4] := by
    have hs : args.size = 5 := by simpa [Cond.value, given_1] using gc
    obtain ⟨L⟩ := args
    match L, hs with
    | [w0, w1, w2, w3, w4], _ => exact ⟨w0, w1, w2, w3, w4, rfl⟩
  have hw := fun d (hd : d ∈ tables_1) => atoms_spec (ws := Jvm.Cond.code x code maxLocals ret :: tables_1) hat d (List.mem_cons_of_mem _ hd)
  have hfit : Fit s := fun {y c} hc i hi => by
    obtain ⟨ha, rfl⟩ := Array.getElem?_eq_some_iff.mp hc
    have q := List.all_eq_true.mp ((Array.all_eq_true_iff_forall_mem.mp hF) _ (Array.getElem_mem ha)) i (List.mem_range.mpr hi)
    simpa [Array.getElem?_eq_getElem hi] using q
  obtain ⟨i0, ei0⟩ := isL_v ga0
  obtain rfl : w0 = (.long i0) := Option.some.inj ei0
  obtain ⟨i1, ei1⟩ := isL_v ga1
  obtain rfl : w1 = (.long i1) := Option.some.inj ei1
  obtain ⟨i2, ei2⟩ := isL_v ga2
  obtain rfl : w2 = (.long i2) := Option.some.inj ei2
  obtain ⟨i3, ei3⟩ := isL_v ga3
  obtain rfl : w3 = (.long i3) := Option.some.inj ei3
  obtain ⟨i4, ei4⟩ := is_v ga4
  obtain rfl : w4 = (.int i4) := Option.some.inj ei4
  obtain ⟨n, o, h1, h2, h3, _, L, rfl, ⟨rfl, N, _⟩, hq⟩ := rm0 l s _ hw tables_1 i0 i1 i2 i3 i4  s.heap s.heap.size (Nat.le_refl _)  p e ha hc hk s m _ below hf ((Spec.applies_iff_loose hf).mp happ).1 ⟨rfl, State.Warmed39.refl s, rfl⟩ trivial
  refine ⟨n, _, h1, h2, h3, hpost _ _ _ _ _ _ ⟨Cond.after_iff.mpr rfl, Cond.after_iff.mpr (eq_i res_at (Term.int_eval (1)) rfl), trivial⟩ ⟨hq.1, hq.2.1, (hq.2.2.sift fun y hy => Or.inr (N y hy)).mono (by decide) (by decide)⟩⟩
theorem main_1_1 : Claimed_1_1 := comes_1 fun _ _ _ _ _ _ h hF => ⟨h.1, hF⟩
theorem main_1_2 : Claimed_1_2 := comes_1 fun _ _ _ _ _ _ h hF => ⟨h.2.1, hF⟩
end Jvm.Pilot.@@N@@
namespace Jvm.Pilot.@@N@@
open Jvm Jvm.ClassFile Sem Op Lib Jvm.Free Jvm.Stand Jvm.Pilot.@@N@@.Jvm.D
/-! MADE BY PROGRAM (witnessworld.py) out of the Statement's table words and the real class files: 12 classes; the members and pool entries that the words name. The judged class is class 1, her method 2. -/
namespace start1
open Jvm.ClassFile
def u (s : String) : CpInfo := .utf8 (stringToUtf16 s)
/-- a pool by its gaps: so many unusable entries, then the entry; so many at the end -/
def gap : Nat → List CpInfo → List CpInfo
  | 0, r => r
  | n + 1, r => .unusable :: gap n r
def poolList (es : List (Nat × CpInfo)) (last : Nat) : List CpInfo := es.foldr (fun e r => gap e.1 (e.2 :: r)) (gap last [])
def pool (es : List (Nat × CpInfo)) (last : Nat) : Array CpInfo := ⟨poolList es last⟩
def fileOf (pool : Array CpInfo) (this : Nat) (attrs : Array Attribute := #[]) (ms : Array MethodInfo := #[]) (fl : Nat := 33) (sup : Nat := 0) (ifs : Array Nat := #[]) (fds : Array FieldInfo := #[]) : ClassFile where
  minorVersion := 0
  majorVersion := 65
  constantPool := pool
  accessFlags := fl
  thisClass := this
  superClass := sup
  interfaces := ifs
  fields := fds
  methods := ms
  attributes := attrs
def plain (name : String) (sup : Option ClassId) : Class where
  name := name
  kind := .ordinary
  loader := none
  accessFlags := 33
  super := sup
  interfaces := #[]
  cf := none
  fields := #[]
  methods := #[]
  instanceTypes := #[]
  staticTypes := #[]
  resolved := #[]
  callSites := []
  init := .initialized
  statics := none
  mirror := none

def pool0 : Array CpInfo := pool [(5, u "<init>"), (0, u "()V"), (1, .class_ 10), (1, u "java/lang/Object")] 113

def k0m0 : Method := { name := "<init>", desc := "()V", sig := { parameters := [], returnType := none }, accessFlags := 1, code := none }
/-- java/lang/Object -/
def k0 : Class := { plain "java/lang/Object" none with
  accessFlags := 33
  interfaces := #[]
  cf := some (fileOf pool0 8 #[] #[{ accessFlags := 1, nameIndex := 5, descriptorIndex := 6, attributes := #[] }] 33 0 #[] #[])
  fields := #[]
  methods := #[k0m0]
  instanceTypes := #[]
  staticTypes := #[]
  resolved := Array.replicate 124 none
  statics := none }

def pool1 : Array CpInfo := pool [(2, .class_ 4), (1, u "java/lang/Object"), (0, u "<init>"), (0, u "()V"), (0, .methodref 8 9), (0, .class_ 10), (0, .nameAndType 11 12), (0, u "com/example/uzor/uzor/Row"), (0, u "pick"), (0, u "([J[I)[J"), (0, .methodref 14 15), (0, .class_ 16), (0, .nameAndType 17 18), (0, u "com/example/uzor/uzor/RowPickPinLaw"), (0, u "ref"), (0, u "(IJJJJ)J"), (3, u "law"), (0, u "(JJJJI)Z")] 6

def k1m0 : Method := { name := "<init>", desc := "()V", sig := { parameters := [], returnType := none }, accessFlags := 1, code := none }
def k1c1 : Code := { maxStack := 2, maxLocals := 9, code := method_2_code, exceptionTable := #[], attributes := #[] }
def k1m1 : Method := { name := "ref", desc := "(IJJJJ)J", sig := { parameters := [.int, .long, .long, .long, .long], returnType := some .long }, accessFlags := 10, code := some k1c1 }
def k1c2 : Code := { maxStack := 11, maxLocals := 18, code := code, exceptionTable := #[], attributes := #[] }
def k1m2 : Method := { name := "law", desc := "(JJJJI)Z", sig := { parameters := [.long, .long, .long, .long, .int], returnType := some .boolean }, accessFlags := 9, code := some k1c2 }
/-- com/example/uzor/uzor/RowPickPinLaw -/
def k1 : Class := { plain "com/example/uzor/uzor/RowPickPinLaw" (some 0) with
  accessFlags := 49
  interfaces := #[]
  cf := some (fileOf pool1 14 #[] #[{ accessFlags := 1, nameIndex := 5, descriptorIndex := 6, attributes := #[] }, { accessFlags := 10, nameIndex := 17, descriptorIndex := 18, attributes := #[] }, { accessFlags := 9, nameIndex := 22, descriptorIndex := 23, attributes := #[] }] 49 2 #[] #[])
  fields := #[]
  methods := #[k1m0, k1m1, k1m2]
  instanceTypes := #[]
  staticTypes := #[]
  resolved := Array.replicate 30 none
  statics := none }

def pool2 : Array CpInfo := pool [(2, .class_ 4), (1, u "java/lang/Object"), (0, u "<init>"), (0, u "()V"), (0, .class_ 8), (0, u "java/lang/Record")] 13

def k2m0 : Method := { name := "<init>", desc := "()V", sig := { parameters := [], returnType := none }, accessFlags := 4, code := none }
/-- java/lang/Record -/
def k2 : Class := { plain "java/lang/Record" (some 0) with
  accessFlags := 1057
  interfaces := #[]
  cf := some (fileOf pool2 7 #[] #[{ accessFlags := 4, nameIndex := 5, descriptorIndex := 6, attributes := #[] }] 1057 2 #[] #[])
  fields := #[]
  methods := #[k2m0]
  instanceTypes := #[]
  staticTypes := #[]
  resolved := Array.replicate 22 none
  statics := none }

def pool3 : Array CpInfo := pool [(2, .class_ 4), (1, u "java/lang/Record"), (3, .class_ 10), (1, u "com/example/uzor/uzor/Row"), (0, u "nodes"), (0, u "[J"), (28, u "UNBOUND"), (0, u "J"), (15, u "pick"), (0, u "([J[I)[J")] 4

def k3c0 : Code := { maxStack := 5, maxLocals := 4, code := prog_31_method_7_code, exceptionTable := #[], attributes := #[] }
def k3m0 : Method := { name := "pick", desc := "([J[I)[J", sig := { parameters := [(.array .long), (.array .int)], returnType := some (.array .long) }, accessFlags := 8, code := some k3c0 }
/-- com/example/uzor/uzor/Row -/
def k3 : Class := { plain "com/example/uzor/uzor/Row" (some 2) with
  accessFlags := 48
  interfaces := #[]
  cf := some (fileOf pool3 8 #[] #[{ accessFlags := 8, nameIndex := 58, descriptorIndex := 59, attributes := #[] }] 48 2 #[] #[{ accessFlags := 18, nameIndex := 11, descriptorIndex := 12, attributes := #[] }, { accessFlags := 24, nameIndex := 41, descriptorIndex := 42, attributes := #[] }])
  fields := #[{ name := "nodes", type := (.array .long), accessFlags := 18, slot := 0, constantValue := 0 }, { name := "UNBOUND", type := .long, accessFlags := 24, slot := 0, constantValue := 0 }]
  methods := #[k3m0]
  instanceTypes := #[(.array .long)]
  staticTypes := #[.long]
  resolved := Array.replicate 64 none
  statics := none }

def pool4 : Array CpInfo := pool [(1, u "java/lang/Cloneable"), (0, .class_ 1), (0, u "java/lang/Object"), (0, .class_ 3)] 3

/-- java/lang/Cloneable -/
def k4 : Class := { plain "java/lang/Cloneable" (some 0) with
  accessFlags := 1537
  interfaces := #[]
  cf := some (fileOf pool4 2 #[] #[] 1537 4 #[] #[])
  fields := #[]
  methods := #[]
  instanceTypes := #[]
  staticTypes := #[]
  resolved := Array.replicate 8 none
  statics := none }

def pool5 : Array CpInfo := pool [(1, u "java/io/Serializable"), (0, .class_ 1), (0, u "java/lang/Object"), (0, .class_ 3)] 3

/-- java/io/Serializable -/
def k5 : Class := { plain "java/io/Serializable" (some 0) with
  accessFlags := 1537
  interfaces := #[]
  cf := some (fileOf pool5 2 #[] #[] 1537 4 #[] #[])
  fields := #[]
  methods := #[]
  instanceTypes := #[]
  staticTypes := #[]
  resolved := Array.replicate 8 none
  statics := none }

/-- the primitive byte -/
def k6 : Class := { plain "byte" none with kind := .primitive 'B', accessFlags := 0x411 }
/-- [B -/
def k7 : Class := { plain "[B" (some 0) with kind := .array 6 .byte, interfaces := #[4, 5], accessFlags := 1041 }

/-- the primitive int -/
def k8 : Class := { plain "int" none with kind := .primitive 'I', accessFlags := 0x411 }
/-- [I -/
def k9 : Class := { plain "[I" (some 0) with kind := .array 8 .int, interfaces := #[4, 5], accessFlags := 1041 }

/-- the primitive long -/
def k10 : Class := { plain "long" none with kind := .primitive 'J', accessFlags := 0x411 }
/-- [J -/
def k11 : Class := { plain "[J" (some 0) with kind := .array 10 .long, interfaces := #[4, 5], accessFlags := 1041 }

def heap : Heap := #[]
def classes : Array Class := #[k0, k1, k2, k3, k4, k5, k6, k7, k8, k9, k10, k11]
def interned : List (Array UInt16 × Addr) := []
def slotsUsed : Nat := 0
def theMethod : MethodId := ⟨1, 2⟩
def args0 : Array Value := #[.long 5, .long 7, .long (-3), .long 100, .int 12]
def aboutOver (below : List Frame) : State where
  vm := { classes := classes, interned := interned.toArray }
  heap := heap
  slotsUsed := slotsUsed
  threads := #[{ frames := .invoking theMethod args0 :: below }]
def below0 : List Frame := [.native { method := ⟨0, 0⟩, args := #[] }]
def about1 : State := aboutOver below0
def p0 : Program := .bare "" "" ""
def e0 : Env := launch0.env 0 0 0
theorem w_frames : about1.frames = Frame.invoking theMethod args0 :: below0 := rfl
set_option maxRecDepth 65536 in
theorem w_args : argsFit about1.vm theMethod args0 = true := by decide +kernel
set_option maxRecDepth 65536 in
theorem w_heap : heapFits about1 = true := by decide +kernel
set_option maxRecDepth 65536 in
theorem w_runnable : about1.curStatus? = some .runnable := by decide +kernel
set_option maxRecDepth 65536 in
theorem w_alone : about1.alone = true := by decide +kernel
set_option maxRecDepth 65536 in
theorem w_named : about1.methodNamed? x = some theMethod := by decide +kernel
set_option maxRecDepth 65536 in
theorem w_hears : about1.hears theMethod below0 = true := by decide +kernel
set_option maxRecDepth 65536 in
theorem w_ripe : about1.ripe theMethod args0 below0 = true := by decide +kernel
theorem w_running : about1.status = .running := rfl
set_option maxRecDepth 65536 in
theorem w_room : about1.hasRoom e0.platform room_1 = true :=
  launch0.hasRoom_least _ room_1 (by decide +kernel) (by decide +kernel) (by decide +kernel) (by decide +kernel) (by decide +kernel) (by decide +kernel)
theorem allAtoms_all (ts : List Jvm.Cond) (a : Array Jvm.Value) (st : Jvm.State) : (allAtoms ts).before a st = ts.all (fun c => c.before a st) := by
  induction ts with
  | nil => rfl
  | cons c t ih =>
    show (Jvm.Cond.and c (allAtoms t)).before a st = _
    rw [Jvm.Cond.before_and, ih, List.all_cons]
def words1 : List Jvm.Cond := Jvm.Cond.code x code maxLocals ret :: tables_1
/-- a 'code' word, met by the world's own term for the bytes: nothing is compared byte by byte -/
theorem code_word {y : MethodName} {bytes : ByteArray} {mx : Nat} {rt : Option FieldType} {a : Array Value} {s : State} {m : MethodId} {meth : Method} {c : Code} (h1 : s.methodNamed? y = some m) (h2 : s.vm.method? m = some meth) (h3 : meth.code = some c) (h4 : c.code = bytes)
    (h5 : (c.maxLocals == mx && c.exceptionTable.isEmpty && decide (c.maxStack ≤ mostOperands) && decide (meth.sig.returnType = rt) && !meth.locks && decide (parseMethodDescriptor y.desc = some meth.sig)) = true) : (Jvm.Cond.code y bytes mx rt).before a s = true := by
  simp only [Bool.and_eq_true, beq_iff_eq, Bool.not_eq_true', decide_eq_true_eq] at h5
  obtain ⟨⟨⟨⟨⟨g1, g2⟩, g3⟩, g4⟩, g5⟩, g6⟩ := h5
  simp [Cond.before, Cond.holds, Cond.value, h1, h2, h3, h4, g1, g2, g3, g4, g5, g6]
def isCode : Jvm.Cond → Bool
  | .code _ _ _ _ => true
  | _ => false
theorem all_split {L : List Jvm.Cond} {P : Jvm.Cond → Bool} (h1 : L.all (fun c => isCode c || P c) = true) (h2 : ∀ c ∈ L.filter isCode, P c = true) : L.all P = true := by
  refine List.all_eq_true.mpr fun c hc => ?_
  have h := List.all_eq_true.mp h1 c hc
  rcases Bool.eq_false_or_eq_true (isCode c) with hi | hi
  · exact h2 c (List.mem_filter.mpr ⟨hc, hi⟩)
  · simpa [hi] using h
set_option maxRecDepth 65536 in
theorem w_c0 : (Jvm.Cond.code x code maxLocals ret).before args0 about1 = true := code_word (m := ⟨1, 2⟩) (meth := k1m2) (c := k1c2) (by decide +kernel) rfl rfl rfl (by decide +kernel)
set_option maxRecDepth 65536 in
theorem w_c1 : (Jvm.Cond.code ({ cls := "com/example/uzor/uzor/Row", name := "pick", desc := "([J[I)[J" } : Jvm.MethodName) prog_31_method_7_code (4 : Nat) (Option.some (Jvm.ClassFile.FieldType.array Jvm.ClassFile.FieldType.long))).before args0 about1 = true := code_word (m := ⟨3, 0⟩) (meth := k3m0) (c := k3c0) (by decide +kernel) rfl rfl rfl (by decide +kernel)
set_option maxRecDepth 65536 in
theorem w_c2 : (Jvm.Cond.code ({ cls := "com/example/uzor/uzor/RowPickPinLaw", name := "ref", desc := "(IJJJJ)J" } : Jvm.MethodName) method_2_code (9 : Nat) (Option.some Jvm.ClassFile.FieldType.long)).before args0 about1 = true := code_word (m := ⟨1, 1⟩) (meth := k1m1) (c := k1c1) (by decide +kernel) rfl rfl rfl (by decide +kernel)
def codes1 : List Jvm.Cond := [Jvm.Cond.code x code maxLocals ret, Jvm.Cond.code ({ cls := "com/example/uzor/uzor/Row", name := "pick", desc := "([J[I)[J" } : Jvm.MethodName) prog_31_method_7_code (4 : Nat) (Option.some (Jvm.ClassFile.FieldType.array Jvm.ClassFile.FieldType.long)), Jvm.Cond.code ({ cls := "com/example/uzor/uzor/RowPickPinLaw", name := "ref", desc := "(IJJJJ)J" } : Jvm.MethodName) method_2_code (9 : Nat) (Option.some Jvm.ClassFile.FieldType.long)]
set_option maxRecDepth 65536 in
theorem codes_eq : words1.filter isCode = codes1 := rfl
theorem w_codes : ∀ c ∈ words1.filter isCode, c.before args0 about1 = true := by
  rw [codes_eq]
  intro c hc
  simp only [codes1, List.mem_cons, List.not_mem_nil, or_false] at hc
  rcases hc with rfl | rfl | rfl
  · exact w_c0
  · exact w_c1
  · exact w_c2
set_option maxRecDepth 65536 in
theorem w_t1 : words1.all (fun c => isCode c || c.before args0 about1) = true := by decide +kernel
theorem w_tables : (allAtoms (Jvm.Cond.code x code maxLocals ret :: tables_1)).before args0 about1 = true := by
  rw [allAtoms_all]
  show words1.all (fun c => c.before args0 about1) = true
  refine all_split ?_ w_codes
  rw [w_t1]
set_option maxRecDepth 65536 in
theorem w_case : (Jvm.Cond.and given_1 narrow_1).before args0 about1 = true := by decide +kernel
theorem w_applies : (headSpec (Jvm.Cond.code x code maxLocals ret :: tables_1) room_1).applies x e0.platform about1 = true :=
  (Spec.applies_iff w_frames).mpr ⟨w_running, w_runnable, w_alone, w_named, w_hears, w_ripe, w_room, w_tables⟩
theorem atStart : AtStart classFile x code maxLocals ret World_1 tables_1 room_1 Calls_1 rest_1 Pre_1 launch0 p0 e0 about1 theMethod args0 below0 :=
  ⟨lists_1, trivial, launch0.admits_env _ _ _, launch0.least_env, fairChoices_fair.cas, fairChoices_fair.clock, w_frames, w_args, w_heap, w_applies, trivial, trivial, w_case⟩
end start1
theorem witness_1 : WitnessClaimed_1 := ⟨start1.p0, start1.e0, start1.about1, start1.theMethod, start1.args0, start1.below0, start1.atStart⟩
end Jvm.Pilot.@@N@@
