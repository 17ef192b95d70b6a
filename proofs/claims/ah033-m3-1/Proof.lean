import JvmDerived
import JvmDerived.Pilot.@@N@@Statement
import JvmDerived.Pilot.@@N@@Code
set_option linter.unusedVariables false
set_option linter.unusedSimpArgs false
@@BLOCK:NumsL.lean.txt@@

namespace Jvm.OwnKit
open Sem ClassFile Op Lib Jvm.Stand Jvm.Free Jvm.LawKit Jvm.RoadKit
section Own
variable {p : Program} {l : Launch} {e : Env} {R : Room} {s : State} {m : MethodId} {args : Array Value} {below : List Frame} {meth : Method} {c : Code} {T : State} {locs : List Loc} {cells slots : Nat} {Q : Option Value → Heap → List Loc → Prop} {C S : Nat}
/-- what a body owes from a state on -/
def Fin (p : Program) (e : Env) (below : List Frame) (s : State) (Q : Option Value → Heap → List Loc → Prop) (C S : Nat) (st : State) : Prop :=
  ∃ s₂ o, Steps p.tables e below st s₂ ∧ s₂.status = .running ∧ Ended s₂ below o ∧ ∃ v L, o = .returned v ∧ Q v s₂.heap L ∧ FrameEnd s o s₂ L C S
theorem Fin.step {st st' : State} (h : ∀ t, Steps p.tables e below st' t → Steps p.tables e below st t) (k : Fin p e below s Q C S st') : Fin p e below s Q C S st := by
  obtain ⟨s₂, o, h1, h2⟩ := k
  exact ⟨s₂, o, h _ h1, h2⟩
theorem Fin.ret (X : Stand p l e R s m args below meth c T locs cells slots) {v : Option Value} {g : JFrame} (hv : meth.sig.returnType = none → v = none) (hlocks : meth.locks = false)
    (hst : ∀ fs, (∀ (f : JFrame) (acts : List Action), f.method = m → f.locked = none → f.entered = [] → (doReturn e (T.setTop f) acts v).1 = T.setFrames fs) → Steps p.tables e below (T.setTop g) (T.setFrames fs))
    (hC : cells ≤ C) (hS : slots ≤ S) (q : Q v T.heap locs) : Fin p e below s Q C S (T.setTop g) := by
  obtain ⟨fs, hr, hrun, hended, hW, hsame⟩ := X.leave (v := v) hv hlocks
  exact ⟨_, _, hst fs hr, hrun, hended, _, _, rfl, q, ⟨_, rfl⟩, hW, hsame.mono hC hS⟩
theorem Fin.retI (X : Stand p l e R s m args below meth c T locs cells slots) (hx : p.tables.exec = Jvm.exec) {pc : Nat} {Ls : Array Slot} {z : Int32} {rest : List Value} (hret : meth.sig.returnType = some .int) (hlocks : meth.locks = false) (hd : decode c.code pc = .ok (.ireturn, 1))
    (hC : cells ≤ C) (hS : slots ≤ S) (q : Q (some (.int z)) T.heap locs) : Fin p e below s Q C S (T.setTop (mkF m pc Ls (.int z :: rest))) :=
  Fin.ret X (fun h => by rw [hret] at h; cases h) hlocks (fun fs hl => retOut X hx hret rfl (Or.inl ⟨rfl, Or.inl rfl, z, rfl⟩) hd hl) hC hS q
theorem Fin.retJ (X : Stand p l e R s m args below meth c T locs cells slots) (hx : p.tables.exec = Jvm.exec) {pc : Nat} {Ls : Array Slot} {z : Int64} {rest : List Value} (hret : meth.sig.returnType = some .long) (hlocks : meth.locks = false) (hd : decode c.code pc = .ok (.lreturn, 1))
    (hC : cells ≤ C) (hS : slots ≤ S) (q : Q (some (.long z)) T.heap locs) : Fin p e below s Q C S (T.setTop (mkF m pc Ls (.long z :: rest))) :=
  Fin.ret X (fun h => by rw [hret] at h; cases h) hlocks (fun fs hl => retOut X hx hret rfl (Or.inr (Or.inl ⟨rfl, rfl, z, rfl⟩)) hd hl) hC hS q
theorem Fin.retD (X : Stand p l e R s m args below meth c T locs cells slots) (hx : p.tables.exec = Jvm.exec) {pc : Nat} {Ls : Array Slot} {z : UInt64} {rest : List Value} (hret : meth.sig.returnType = some .double) (hlocks : meth.locks = false) (hd : decode c.code pc = .ok (.dreturn, 1))
    (hC : cells ≤ C) (hS : slots ≤ S) (q : Q (some (.double z)) T.heap locs) : Fin p e below s Q C S (T.setTop (mkF m pc Ls (.double z :: rest))) :=
  Fin.ret X (fun h => by rw [hret] at h; cases h) hlocks (fun fs hl => retOut X hx hret rfl (Or.inr (Or.inr (Or.inl ⟨rfl, rfl, z, rfl⟩))) hd hl) hC hS q
theorem Fin.retR (X : Stand p l e R s m args below meth c T locs cells slots) (hx : p.tables.exec = Jvm.exec) {pc : Nat} {Ls : Array Slot} {w : Value} {t : FieldType} {rest : List Value} (hret : meth.sig.returnType = some t) (ht : t.isReference = true) (hw : w.isRef = true) (hlocks : meth.locks = false) (hd : decode c.code pc = .ok (.areturn, 1))
    (hC : cells ≤ C) (hS : slots ≤ S) (q : Q (some w) T.heap locs) : Fin p e below s Q C S (T.setTop (mkF m pc Ls (w :: rest))) :=
  Fin.ret X (fun h => by rw [hret] at h; cases h) hlocks (fun fs hl => retOut X hx hret (by cases t <;> simp [FieldType.isReference] at ht <;> cases w <;> simp [Value.isRef] at hw <;> rfl) (Or.inr (Or.inr (Or.inr (Or.inr ⟨rfl, ht, hw⟩)))) hd hl) hC hS q
theorem Fin.retN (X : Stand p l e R s m args below meth c T locs cells slots) (hx : p.tables.exec = Jvm.exec) {pc : Nat} {Ls : Array Slot} {z : Int32} {t : FieldType} {rest : List Value} (hret : meth.sig.returnType = some t) (ht : t = .boolean ∨ t = .byte ∨ t = .char ∨ t = .short) (hlocks : meth.locks = false) (hd : decode c.code pc = .ok (.ireturn, 1))
    (hC : cells ≤ C) (hS : slots ≤ S) (q : Q (some (.int (nar t z))) T.heap locs) : Fin p e below s Q C S (T.setTop (mkF m pc Ls (.int z :: rest))) :=
  Fin.ret X (fun h => by rw [hret] at h; cases h) hlocks (fun fs hl => RoadKit.retN X hx hret ht hd hl) hC hS q
theorem Fin.retV (X : Stand p l e R s m args below meth c T locs cells slots) (hx : p.tables.exec = Jvm.exec) {pc : Nat} {Ls : Array Slot} (hret : meth.sig.returnType = none) (hlocks : meth.locks = false) (hd : decode c.code pc = .ok (.return_, 1))
    (hC : cells ≤ C) (hS : slots ≤ S) (q : Q none T.heap locs) : Fin p e below s Q C S (T.setTop (mkF m pc Ls [])) :=
  Fin.ret X (fun _ => rfl) hlocks (fun fs hl => X.returnOut hx hret hd hl) hC hS q
/-- the same where the walk may intern: the end's frame is ReturnedEndW -/
def FinW (p : Program) (e : Env) (below : List Frame) (s : State) (Q : Option Value → Heap → List Loc → Prop) (C S : Nat) (st : State) : Prop :=
  ∃ s₂ o, Steps p.tables e below st s₂ ∧ s₂.status = .running ∧ Ended s₂ below o ∧ ∃ v L, o = .returned v ∧ Q v s₂.heap L ∧ ReturnedEndW s o s₂ L C S
theorem FinW.step {st st' : State} (h : ∀ t, Steps p.tables e below st' t → Steps p.tables e below st t) (k : FinW p e below s Q C S st') : FinW p e below s Q C S st := by
  obtain ⟨s₂, o, h1, h2⟩ := k
  exact ⟨s₂, o, h _ h1, h2⟩
theorem FinW.ret {vm₁ : Vm} (X : Stand p l e R (s.setVm vm₁) m args below meth c T locs cells slots) {n : Nat} (hS : s.Since vm₁ n) (hn : n ≤ T.heap.size) {v : Option Value} {g : JFrame} (hv : meth.sig.returnType = none → v = none) (hlocks : meth.locks = false)
    (hst : ∀ fs, (∀ (f : JFrame) (acts : List Action), f.method = m → f.locked = none → f.entered = [] → (doReturn e (T.setTop f) acts v).1 = T.setFrames fs) → Steps p.tables e below (T.setTop g) (T.setFrames fs))
    (hC : cells ≤ C) (hS' : slots ≤ S) (q : Q v T.heap locs) : FinW p e below s Q C S (T.setTop g) := by
  obtain ⟨fs, hr, hrun, hended, hW⟩ := X.leaveW hS hn (v := v) hv hlocks
  exact ⟨_, _, hst fs hr, hrun, hended, _, _, rfl, q, hW.1, hW.2.1, hW.2.2.1, hW.2.2.2.mono hC hS'⟩
theorem FinW.retN {vm₁ : Vm} (X : Stand p l e R (s.setVm vm₁) m args below meth c T locs cells slots) {n : Nat} (hS : s.Since vm₁ n) (hn : n ≤ T.heap.size) (hx : p.tables.exec = Jvm.exec) {pc : Nat} {Ls : Array Slot} {z : Int32} {t : FieldType} {rest : List Value} (hret : meth.sig.returnType = some t) (ht : t = .boolean ∨ t = .byte ∨ t = .char ∨ t = .short) (hlocks : meth.locks = false) (hd : decode c.code pc = .ok (.ireturn, 1))
    (hC : cells ≤ C) (hS' : slots ≤ S) (q : Q (some (.int (nar t z))) T.heap locs) : FinW p e below s Q C S (T.setTop (mkF m pc Ls (.int z :: rest))) :=
  FinW.ret X hS hn (fun h => by rw [hret] at h; cases h) hlocks (fun fs hl => RoadKit.retN X hx hret ht hd hl) hC hS' q
theorem FinW.retR {vm₁ : Vm} (X : Stand p l e R (s.setVm vm₁) m args below meth c T locs cells slots) {n : Nat} (hS : s.Since vm₁ n) (hn : n ≤ T.heap.size) (hx : p.tables.exec = Jvm.exec) {pc : Nat} {Ls : Array Slot} {w : Value} {t : FieldType} {rest : List Value} (hret : meth.sig.returnType = some t) (ht : t.isReference = true) (hw : w.isRef = true) (hlocks : meth.locks = false) (hd : decode c.code pc = .ok (.areturn, 1))
    (hC : cells ≤ C) (hS' : slots ≤ S) (q : Q (some w) T.heap locs) : FinW p e below s Q C S (T.setTop (mkF m pc Ls (w :: rest))) :=
  FinW.ret X hS hn (fun h => by rw [hret] at h; cases h) hlocks (fun fs hl => retOut X hx hret (by cases t <;> simp [FieldType.isReference] at ht <;> cases w <;> simp [Value.isRef] at hw <;> rfl) (Or.inr (Or.inr (Or.inr (Or.inr ⟨rfl, ht, hw⟩)))) hd hl) hC hS' q
theorem Fld.cast {Z : State} {h : Heap} {a : Addr} {C n d : String} {v w : Value} (F : Fld Z h a C n d v) (e : v = w) : Fld Z h a C n d w := e ▸ F
theorem Sta_keep {Z : State} {h h' : Heap} {C n d : String} {v : Value} (F : Sta Z h C n d v) (K : Keep h h' []) : Sta Z h' C n d v := by
  obtain ⟨cf, i, k, f, st, cell, h1, h2, h3, h4, h5, r⟩ := F
  exact ⟨cf, i, k, f, st, cell, h1, h2, h3, h4, K.2.1 _ _ h5 nin0, r⟩
theorem Arr_keep {Z : State} {h h' : Heap} {a : Addr} {c : Cell} {ty : FieldType} (F : Arr Z h a c ty) (K : Keep h h' []) : Arr Z h' a c ty := ⟨K.2.1 _ _ F.1 nin0, F.2⟩
/-- the shifts without sign -/
def ushL (x : Int64) (k : Int32) : Int64 := (x.toUInt64 >>> (k &&& 0x3f).toInt64.toUInt64).toInt64
def ushI (x k : Int32) : Int32 := (x.toUInt32 >>> (k &&& 31).toUInt32).toInt32
theorem lcE {x y : Int64} (h : x = y) : lcmpW x y = 0 := by rw [lcW]; exact (lc_eq x y).mpr h
theorem lcNE {x y : Int64} (h : ¬ x = y) : ¬ lcmpW x y = 0 := fun q => h ((lc_eq x y).mp (by rw [← lcW]; exact q))
theorem lcL {x y : Int64} (h : x < y) : lcmpW x y < 0 := by rw [lcW]; exact (lc_lt x y).mpr h
theorem lcNL {x y : Int64} (h : ¬ x < y) : ¬ lcmpW x y < 0 := fun q => h ((lc_lt x y).mp (by rw [← lcW]; exact q))
theorem lcG {x y : Int64} (h : y < x) : 0 < lcmpW x y := by rw [lcW]; exact (lc_gt x y).mpr h
theorem lcNG {x y : Int64} (h : ¬ y < x) : ¬ 0 < lcmpW x y := fun q => h ((lc_gt x y).mp (by rw [← lcW]; exact q))
end Own
end Jvm.OwnKit
namespace Jvm.Pilot.@@N@@
open Jvm Jvm.ClassFile Sem Op Lib Jvm.Free Jvm.Stand Jvm.LawKit Jvm.RoadKit Jvm.OwnKit Bundle Jvm.Pilot.@@N@@.Jvm.D
theorem own_k18 (x : Int32) : (x &&& 2147483647) % 18 = 0 ∨ (x &&& 2147483647) % 18 = 1 ∨ (x &&& 2147483647) % 18 = 2 ∨ (x &&& 2147483647) % 18 = 3 ∨ (x &&& 2147483647) % 18 = 4 ∨ (x &&& 2147483647) % 18 = 5 ∨ (x &&& 2147483647) % 18 = 6 ∨ (x &&& 2147483647) % 18 = 7 ∨ (x &&& 2147483647) % 18 = 8 ∨ (x &&& 2147483647) % 18 = 9 ∨ (x &&& 2147483647) % 18 = 10 ∨ (x &&& 2147483647) % 18 = 11 ∨ (x &&& 2147483647) % 18 = 12 ∨ (x &&& 2147483647) % 18 = 13 ∨ (x &&& 2147483647) % 18 = 14 ∨ (x &&& 2147483647) % 18 = 15 ∨ (x &&& 2147483647) % 18 = 16 ∨ (x &&& 2147483647) % 18 = 17 := by
  have h : (x &&& 2147483647).toInt = x.toInt % 2 ^ 31 := Jvm.Kit.i32_mask x 2147483647 (k := 31) (by decide) (by decide)
  have h2 : ((x &&& 2147483647) % 18).toInt = (x &&& 2147483647).toInt % 18 := Jvm.Kit.i32_rem_nonneg (y := 18) (by omega)
  generalize (x &&& 2147483647) % 18 = y at *
  have back : ∀ k : Int32, y.toInt = k.toInt → y = k := fun k e => Int32.toInt_inj.mp e
  have e : y.toInt = 0 ∨ y.toInt = 1 ∨ y.toInt = 2 ∨ y.toInt = 3 ∨ y.toInt = 4 ∨ y.toInt = 5 ∨ y.toInt = 6 ∨ y.toInt = 7 ∨ y.toInt = 8 ∨ y.toInt = 9 ∨ y.toInt = 10 ∨ y.toInt = 11 ∨ y.toInt = 12 ∨ y.toInt = 13 ∨ y.toInt = 14 ∨ y.toInt = 15 ∨ y.toInt = 16 ∨ y.toInt = 17 := by omega
  rcases e with e | e | e | e | e | e | e | e | e | e | e | e | e | e | e | e | e | e
  · exact Or.inl (back 0 e)
  · exact Or.inr (Or.inl (back 1 e))
  · exact Or.inr (Or.inr (Or.inl (back 2 e)))
  · exact Or.inr (Or.inr (Or.inr (Or.inl (back 3 e))))
  · exact Or.inr (Or.inr (Or.inr (Or.inr (Or.inl (back 4 e)))))
  · exact Or.inr (Or.inr (Or.inr (Or.inr (Or.inr (Or.inl (back 5 e))))))
  · exact Or.inr (Or.inr (Or.inr (Or.inr (Or.inr (Or.inr (Or.inl (back 6 e)))))))
  · exact Or.inr (Or.inr (Or.inr (Or.inr (Or.inr (Or.inr (Or.inr (Or.inl (back 7 e))))))))
  · exact Or.inr (Or.inr (Or.inr (Or.inr (Or.inr (Or.inr (Or.inr (Or.inr (Or.inl (back 8 e)))))))))
  · exact Or.inr (Or.inr (Or.inr (Or.inr (Or.inr (Or.inr (Or.inr (Or.inr (Or.inr (Or.inl (back 9 e))))))))))
  · exact Or.inr (Or.inr (Or.inr (Or.inr (Or.inr (Or.inr (Or.inr (Or.inr (Or.inr (Or.inr (Or.inl (back 10 e)))))))))))
  · exact Or.inr (Or.inr (Or.inr (Or.inr (Or.inr (Or.inr (Or.inr (Or.inr (Or.inr (Or.inr (Or.inr (Or.inl (back 11 e))))))))))))
  · exact Or.inr (Or.inr (Or.inr (Or.inr (Or.inr (Or.inr (Or.inr (Or.inr (Or.inr (Or.inr (Or.inr (Or.inr (Or.inl (back 12 e)))))))))))))
  · exact Or.inr (Or.inr (Or.inr (Or.inr (Or.inr (Or.inr (Or.inr (Or.inr (Or.inr (Or.inr (Or.inr (Or.inr (Or.inr (Or.inl (back 13 e))))))))))))))
  · exact Or.inr (Or.inr (Or.inr (Or.inr (Or.inr (Or.inr (Or.inr (Or.inr (Or.inr (Or.inr (Or.inr (Or.inr (Or.inr (Or.inr (Or.inl (back 14 e)))))))))))))))
  · exact Or.inr (Or.inr (Or.inr (Or.inr (Or.inr (Or.inr (Or.inr (Or.inr (Or.inr (Or.inr (Or.inr (Or.inr (Or.inr (Or.inr (Or.inr (Or.inl (back 15 e))))))))))))))))
  · exact Or.inr (Or.inr (Or.inr (Or.inr (Or.inr (Or.inr (Or.inr (Or.inr (Or.inr (Or.inr (Or.inr (Or.inr (Or.inr (Or.inr (Or.inr (Or.inr (Or.inl (back 16 e)))))))))))))))))
  · exact Or.inr (Or.inr (Or.inr (Or.inr (Or.inr (Or.inr (Or.inr (Or.inr (Or.inr (Or.inr (Or.inr (Or.inr (Or.inr (Or.inr (Or.inr (Or.inr (Or.inr ((back 17 e))))))))))))))))))
theorem own_eqv {args : Array Value} {s : State} {t : Term} {k : Int32} (h : (Cond.eq t (.int k)).value args s none s [] = some true) : t.eval args s none [] s = some (.int k) := by
  obtain ⟨x, y, hx, hy, h1, h2⟩ := cmp_v (Or.inl h)
  cases (Option.some.inj ((Term.int_eval k).symm.trans hy))
  obtain ⟨z, rfl⟩ := h2
  rw [hx]
  exact congrArg (fun z => some (Value.int z)) (gotT (Cond.eq_ints hx hy) h)
theorem d1_0 : decode method_2_code 0 = .ok (.iload_n 0, 1) := by decide +kernel
theorem d1_1 : decode method_2_code 1 = .ok (.ifCond .ne 7, 3) := by decide +kernel
theorem d1_4 : decode method_2_code 4 = .ok (.getstatic 7, 3) := by decide +kernel
theorem d1_7 : decode method_2_code 7 = .ok (.areturn, 1) := by decide +kernel
theorem d1_8 : decode method_2_code 8 = .ok (.iload_n 0, 1) := by decide +kernel
theorem d1_9 : decode method_2_code 9 = .ok (.iconst 1, 1) := by decide +kernel
theorem d1_10 : decode method_2_code 10 = .ok (.if_icmp .ne 7, 3) := by decide +kernel
theorem d1_13 : decode method_2_code 13 = .ok (.getstatic 13, 3) := by decide +kernel
theorem d1_16 : decode method_2_code 16 = .ok (.areturn, 1) := by decide +kernel
theorem d1_17 : decode method_2_code 17 = .ok (.iload_n 0, 1) := by decide +kernel
theorem d1_18 : decode method_2_code 18 = .ok (.iconst 2, 1) := by decide +kernel
theorem d1_19 : decode method_2_code 19 = .ok (.if_icmp .ne 7, 3) := by decide +kernel
theorem d1_22 : decode method_2_code 22 = .ok (.getstatic 16, 3) := by decide +kernel
theorem d1_25 : decode method_2_code 25 = .ok (.areturn, 1) := by decide +kernel
theorem d1_26 : decode method_2_code 26 = .ok (.iload_n 0, 1) := by decide +kernel
theorem d1_27 : decode method_2_code 27 = .ok (.iconst 3, 1) := by decide +kernel
theorem d1_28 : decode method_2_code 28 = .ok (.if_icmp .ne 7, 3) := by decide +kernel
theorem d1_31 : decode method_2_code 31 = .ok (.getstatic 19, 3) := by decide +kernel
theorem d1_34 : decode method_2_code 34 = .ok (.areturn, 1) := by decide +kernel
theorem d1_35 : decode method_2_code 35 = .ok (.iload_n 0, 1) := by decide +kernel
theorem d1_36 : decode method_2_code 36 = .ok (.iconst 4, 1) := by decide +kernel
theorem d1_37 : decode method_2_code 37 = .ok (.if_icmp .ne 7, 3) := by decide +kernel
theorem d1_40 : decode method_2_code 40 = .ok (.getstatic 22, 3) := by decide +kernel
theorem d1_43 : decode method_2_code 43 = .ok (.areturn, 1) := by decide +kernel
theorem d1_44 : decode method_2_code 44 = .ok (.iload_n 0, 1) := by decide +kernel
theorem d1_45 : decode method_2_code 45 = .ok (.iconst 5, 1) := by decide +kernel
theorem d1_46 : decode method_2_code 46 = .ok (.if_icmp .ne 7, 3) := by decide +kernel
theorem d1_49 : decode method_2_code 49 = .ok (.getstatic 25, 3) := by decide +kernel
theorem d1_52 : decode method_2_code 52 = .ok (.areturn, 1) := by decide +kernel
theorem d1_53 : decode method_2_code 53 = .ok (.iload_n 0, 1) := by decide +kernel
theorem d1_54 : decode method_2_code 54 = .ok (.bipush 6, 2) := by decide +kernel
theorem d1_56 : decode method_2_code 56 = .ok (.if_icmp .ne 7, 3) := by decide +kernel
theorem d1_59 : decode method_2_code 59 = .ok (.getstatic 28, 3) := by decide +kernel
theorem d1_62 : decode method_2_code 62 = .ok (.areturn, 1) := by decide +kernel
theorem d1_63 : decode method_2_code 63 = .ok (.iload_n 0, 1) := by decide +kernel
theorem d1_64 : decode method_2_code 64 = .ok (.bipush 7, 2) := by decide +kernel
theorem d1_66 : decode method_2_code 66 = .ok (.if_icmp .ne 7, 3) := by decide +kernel
theorem d1_69 : decode method_2_code 69 = .ok (.getstatic 31, 3) := by decide +kernel
theorem d1_72 : decode method_2_code 72 = .ok (.areturn, 1) := by decide +kernel
theorem d1_73 : decode method_2_code 73 = .ok (.iload_n 0, 1) := by decide +kernel
theorem d1_74 : decode method_2_code 74 = .ok (.bipush 8, 2) := by decide +kernel
theorem d1_76 : decode method_2_code 76 = .ok (.if_icmp .ne 7, 3) := by decide +kernel
theorem d1_79 : decode method_2_code 79 = .ok (.getstatic 34, 3) := by decide +kernel
theorem d1_82 : decode method_2_code 82 = .ok (.areturn, 1) := by decide +kernel
theorem d1_83 : decode method_2_code 83 = .ok (.iload_n 0, 1) := by decide +kernel
theorem d1_84 : decode method_2_code 84 = .ok (.bipush 9, 2) := by decide +kernel
theorem d1_86 : decode method_2_code 86 = .ok (.if_icmp .ne 7, 3) := by decide +kernel
theorem d1_89 : decode method_2_code 89 = .ok (.getstatic 37, 3) := by decide +kernel
theorem d1_92 : decode method_2_code 92 = .ok (.areturn, 1) := by decide +kernel
theorem d1_93 : decode method_2_code 93 = .ok (.iload_n 0, 1) := by decide +kernel
theorem d1_94 : decode method_2_code 94 = .ok (.bipush 10, 2) := by decide +kernel
theorem d1_96 : decode method_2_code 96 = .ok (.if_icmp .ne 7, 3) := by decide +kernel
theorem d1_99 : decode method_2_code 99 = .ok (.getstatic 40, 3) := by decide +kernel
theorem d1_102 : decode method_2_code 102 = .ok (.areturn, 1) := by decide +kernel
theorem d1_103 : decode method_2_code 103 = .ok (.iload_n 0, 1) := by decide +kernel
theorem d1_104 : decode method_2_code 104 = .ok (.bipush 11, 2) := by decide +kernel
theorem d1_106 : decode method_2_code 106 = .ok (.if_icmp .ne 7, 3) := by decide +kernel
theorem d1_109 : decode method_2_code 109 = .ok (.getstatic 43, 3) := by decide +kernel
theorem d1_112 : decode method_2_code 112 = .ok (.areturn, 1) := by decide +kernel
theorem d1_113 : decode method_2_code 113 = .ok (.iload_n 0, 1) := by decide +kernel
theorem d1_114 : decode method_2_code 114 = .ok (.bipush 12, 2) := by decide +kernel
theorem d1_116 : decode method_2_code 116 = .ok (.if_icmp .ne 7, 3) := by decide +kernel
theorem d1_119 : decode method_2_code 119 = .ok (.getstatic 46, 3) := by decide +kernel
theorem d1_122 : decode method_2_code 122 = .ok (.areturn, 1) := by decide +kernel
theorem d1_123 : decode method_2_code 123 = .ok (.iload_n 0, 1) := by decide +kernel
theorem d1_124 : decode method_2_code 124 = .ok (.bipush 13, 2) := by decide +kernel
theorem d1_126 : decode method_2_code 126 = .ok (.if_icmp .ne 7, 3) := by decide +kernel
theorem d1_129 : decode method_2_code 129 = .ok (.getstatic 49, 3) := by decide +kernel
theorem d1_132 : decode method_2_code 132 = .ok (.areturn, 1) := by decide +kernel
theorem d1_133 : decode method_2_code 133 = .ok (.iload_n 0, 1) := by decide +kernel
theorem d1_134 : decode method_2_code 134 = .ok (.bipush 14, 2) := by decide +kernel
theorem d1_136 : decode method_2_code 136 = .ok (.if_icmp .ne 7, 3) := by decide +kernel
theorem d1_139 : decode method_2_code 139 = .ok (.getstatic 52, 3) := by decide +kernel
theorem d1_142 : decode method_2_code 142 = .ok (.areturn, 1) := by decide +kernel
theorem d1_143 : decode method_2_code 143 = .ok (.iload_n 0, 1) := by decide +kernel
theorem d1_144 : decode method_2_code 144 = .ok (.bipush 15, 2) := by decide +kernel
theorem d1_146 : decode method_2_code 146 = .ok (.if_icmp .ne 7, 3) := by decide +kernel
theorem d1_149 : decode method_2_code 149 = .ok (.getstatic 55, 3) := by decide +kernel
theorem d1_152 : decode method_2_code 152 = .ok (.areturn, 1) := by decide +kernel
theorem d1_153 : decode method_2_code 153 = .ok (.iload_n 0, 1) := by decide +kernel
theorem d1_154 : decode method_2_code 154 = .ok (.bipush 16, 2) := by decide +kernel
theorem d1_156 : decode method_2_code 156 = .ok (.if_icmp .ne 7, 3) := by decide +kernel
theorem d1_159 : decode method_2_code 159 = .ok (.getstatic 58, 3) := by decide +kernel
theorem d1_162 : decode method_2_code 162 = .ok (.areturn, 1) := by decide +kernel
theorem d1_163 : decode method_2_code 163 = .ok (.getstatic 61, 3) := by decide +kernel
theorem d1_166 : decode method_2_code 166 = .ok (.areturn, 1) := by decide +kernel
theorem pn_1 : plainName "com/example/wicketgate/wicketgate/core/lds/LdsFileIsDataGroupPinLaw" = true := by first | (simp [plainName, overriddenIn]; done) | decide +kernel
theorem ef_rmp0 (m : MethodId) (x0 : Int32) : entryFrame m #[(.int x0)] 1 = mkF m 0 #[.val (.int x0)] [] := by first | (simp [entryFrame, mkF, argsToLocals, Value.category]; done) | rfl
def Qp0 (Z : State) (p1 : Int32) (o1 : Addr) (h0 : Heap) (n0 : Nat) (v : Option Value) (h : Heap) (L : List Loc) : Prop := v = some (.ref o1) ∧ Fr n0 L ∧ h = h0
set_option maxRecDepth 65536 in
set_option maxHeartbeats 40000000 in
theorem rmp0 (l : Launch) (Z : State) (a0 : Array Value) (hw : ∀ d ∈ tables_1, d.before a0 Z = true) (ws : List Jvm.Cond) (p1 : Int32) (o1 : Addr) (h0 : Heap) (n0 : Nat) (Z0 : n0 ≤ h0.size) (HS_com_example_wicketgate_wicketgate_core_lds_LdsFile_COM : Sta Z h0 "com/example/wicketgate/wicketgate/core/lds/LdsFile" "COM" "Lcom/example/wicketgate/wicketgate/core/lds/LdsFile;" (.ref o1)) (hp : p1 = (0 : Int32)) :
    MetFree l (⟨"com/example/wicketgate/wicketgate/core/lds/LdsFileIsDataGroupPinLaw", "pick", "(I)Lcom/example/wicketgate/wicketgate/core/lds/LdsFile;"⟩ : MethodName) (head1 (Jvm.Cond.code (⟨"com/example/wicketgate/wicketgate/core/lds/LdsFileIsDataGroupPinLaw", "pick", "(I)Lcom/example/wicketgate/wicketgate/core/lds/LdsFile;"⟩ : MethodName) method_2_code 1 (some (.object "com/example/wicketgate/wicketgate/core/lds/LdsFile")) :: ws) ({ frames := 0, cells := 0, slots := 0, locals := 0 } : Room)) (fun a U => a = #[(.int p1)] ∧ Z.Warmed39 U.vm ∧ U.heap = h0) (fun _ _ _ _ _ => True) (fun _ U o U' => ∃ v L, o = .returned v ∧ Qp0 Z p1 o1 h0 n0 v U'.heap L ∧ FrameEnd U o U' L ({ frames := 0, cells := 0, slots := 0, locals := 0 } : Room).cells ({ frames := 0, cells := 0, slots := 0, locals := 0 } : Room).slots) := by
  refine MetFree.of_bodySF (plainFor_of_name pn_1) hisR ?_
  intro p e s m args below meth c s₁ Bd hml0 hP hK
  obtain ⟨rfl, hZ, hh⟩ := hP
  have hx := Bd.exec
  have hby := Bd.bytes
  have hlk := BodyLoose.notSynchronized Bd
  have hret := Bd.returns
  have hml : c.maxLocals = 1 := hml0
  have hown : s.vm.findClass "com/example/wicketgate/wicketgate/core/lds/LdsFileIsDataGroupPinLaw" = some m.cls := findClass_of_methodNamed Bd.named
  have hnm := (name_of_methodNamed Bd.named Bd.method).1
  have X0 : Stand p l e ({ frames := 0, cells := 0, slots := 0, locals := 0 } : Room) s m #[(.int p1)] below meth c s₁ [] 0 0 := Stand.of_body Bd
  have e0 : s₁.heap = h0 := by rw [← hh, Bd.state]; rfl
  have N0 := Fr.nil n0
  have K0 : Keep h0 h0 [] := Keep.refl h0 _
  refine Fin.step (Q := fun v h L => Qp0 Z p1 o1 h0 n0 v h L) (st' := s₁.setTop (mkF m 0 #[.val (.int p1)] [])) (fun t k => castTop (ef_rmp0 m p1) k) ?_
  show Fin p e below s _ _ _ (s₁.setTop (mkF m 0 #[.val (.int p1)] []))
  refine Fin.step (fun _ => XS.iloadN X0.here hx rfl (hb hby d1_0) rfl) ?_
  show Fin p e below s _ _ _ (s₁.setTop (mkF m 1 #[.val (.int p1)] [(.int p1)]))
  refine Fin.step (fun _ => XS.ifNo X0.here hx rfl (hb hby d1_1) rfl ((if0 _ _).trans (teq (hp : (p1 = (0 : Int32)))).2)) ?_
  show Fin p e below s _ _ _ (s₁.setTop (mkF m 4 #[.val (.int p1)] []))
  obtain ⟨Ty1, Xy1, ey1, sty1⟩ := getS2 X0 hx hZ hown (host := "") (Or.inl (hw _ (List.mem_of_getElem? (i := 5) rfl))) Via.refl e0 HS_com_example_wicketgate_wicketgate_core_lds_LdsFile_COM (g := (mkF m 4 #[.val (.int p1)] [])) rfl (hb hby d1_4)
  refine Fin.step (sty1) ?_
  show Fin p e below s _ _ _ (Ty1.setTop (mkF m 7 #[.val (.int p1)] [(.ref o1)]))
  refine Fin.retR Xy1 hx hret rfl rfl hlk (hb hby d1_7) (by decide) (by decide) ?_
  show Qp0 Z p1 o1 h0 n0 _ Ty1.heap _
  rw [ey1]
  exact ⟨rfl, N0, rfl⟩
theorem ef_rmp1 (m : MethodId) (x0 : Int32) : entryFrame m #[(.int x0)] 1 = mkF m 0 #[.val (.int x0)] [] := by first | (simp [entryFrame, mkF, argsToLocals, Value.category]; done) | rfl
def Qp1 (Z : State) (p1 : Int32) (o1 : Addr) (h0 : Heap) (n0 : Nat) (v : Option Value) (h : Heap) (L : List Loc) : Prop := v = some (.ref o1) ∧ Fr n0 L ∧ h = h0
set_option maxRecDepth 65536 in
set_option maxHeartbeats 40000000 in
theorem rmp1 (l : Launch) (Z : State) (a0 : Array Value) (hw : ∀ d ∈ tables_1, d.before a0 Z = true) (ws : List Jvm.Cond) (p1 : Int32) (o1 : Addr) (h0 : Heap) (n0 : Nat) (Z0 : n0 ≤ h0.size) (HS_com_example_wicketgate_wicketgate_core_lds_LdsFile_DG1 : Sta Z h0 "com/example/wicketgate/wicketgate/core/lds/LdsFile" "DG1" "Lcom/example/wicketgate/wicketgate/core/lds/LdsFile;" (.ref o1)) (hp : p1 = (1 : Int32)) :
    MetFree l (⟨"com/example/wicketgate/wicketgate/core/lds/LdsFileIsDataGroupPinLaw", "pick", "(I)Lcom/example/wicketgate/wicketgate/core/lds/LdsFile;"⟩ : MethodName) (head1 (Jvm.Cond.code (⟨"com/example/wicketgate/wicketgate/core/lds/LdsFileIsDataGroupPinLaw", "pick", "(I)Lcom/example/wicketgate/wicketgate/core/lds/LdsFile;"⟩ : MethodName) method_2_code 1 (some (.object "com/example/wicketgate/wicketgate/core/lds/LdsFile")) :: ws) ({ frames := 0, cells := 0, slots := 0, locals := 0 } : Room)) (fun a U => a = #[(.int p1)] ∧ Z.Warmed39 U.vm ∧ U.heap = h0) (fun _ _ _ _ _ => True) (fun _ U o U' => ∃ v L, o = .returned v ∧ Qp1 Z p1 o1 h0 n0 v U'.heap L ∧ FrameEnd U o U' L ({ frames := 0, cells := 0, slots := 0, locals := 0 } : Room).cells ({ frames := 0, cells := 0, slots := 0, locals := 0 } : Room).slots) := by
  refine MetFree.of_bodySF (plainFor_of_name pn_1) hisR ?_
  intro p e s m args below meth c s₁ Bd hml0 hP hK
  obtain ⟨rfl, hZ, hh⟩ := hP
  have hx := Bd.exec
  have hby := Bd.bytes
  have hlk := BodyLoose.notSynchronized Bd
  have hret := Bd.returns
  have hml : c.maxLocals = 1 := hml0
  have hown : s.vm.findClass "com/example/wicketgate/wicketgate/core/lds/LdsFileIsDataGroupPinLaw" = some m.cls := findClass_of_methodNamed Bd.named
  have hnm := (name_of_methodNamed Bd.named Bd.method).1
  have X0 : Stand p l e ({ frames := 0, cells := 0, slots := 0, locals := 0 } : Room) s m #[(.int p1)] below meth c s₁ [] 0 0 := Stand.of_body Bd
  have e0 : s₁.heap = h0 := by rw [← hh, Bd.state]; rfl
  have N0 := Fr.nil n0
  have K0 : Keep h0 h0 [] := Keep.refl h0 _
  refine Fin.step (Q := fun v h L => Qp1 Z p1 o1 h0 n0 v h L) (st' := s₁.setTop (mkF m 0 #[.val (.int p1)] [])) (fun t k => castTop (ef_rmp1 m p1) k) ?_
  show Fin p e below s _ _ _ (s₁.setTop (mkF m 0 #[.val (.int p1)] []))
  refine Fin.step (fun _ => XS.iloadN X0.here hx rfl (hb hby d1_0) rfl) ?_
  show Fin p e below s _ _ _ (s₁.setTop (mkF m 1 #[.val (.int p1)] [(.int p1)]))
  refine Fin.step (fun _ => XS.ifYes X0.here hx rfl (pc0 := 1) (pc' := 8) rfl (hb hby d1_1) rfl ((if0 _ _).trans (feq ((by rw [hp]; decide) : ¬ (p1 = (0 : Int32)))).2) (by decide) (by decide)) ?_
  show Fin p e below s _ _ _ (s₁.setTop (mkF m 8 #[.val (.int p1)] []))
  refine Fin.step (fun _ => XS.iloadN X0.here hx rfl (hb hby d1_8) rfl) ?_
  show Fin p e below s _ _ _ (s₁.setTop (mkF m 9 #[.val (.int p1)] [(.int p1)]))
  refine Fin.step (fun _ => XS.iconst X0.here hx rfl (hb hby d1_9)) ?_
  show Fin p e below s _ _ _ (s₁.setTop (mkF m 10 #[.val (.int p1)] [(.int (1 : Int32)), (.int p1)]))
  refine Fin.step (fun _ => XS.icmpNo X0.here hx rfl (hb hby d1_10) rfl (teq (hp : (p1 = (1 : Int32)))).2) ?_
  show Fin p e below s _ _ _ (s₁.setTop (mkF m 13 #[.val (.int p1)] []))
  obtain ⟨Ty1, Xy1, ey1, sty1⟩ := getS2 X0 hx hZ hown (host := "") (Or.inl (hw _ (List.mem_of_getElem? (i := 20) rfl))) Via.refl e0 HS_com_example_wicketgate_wicketgate_core_lds_LdsFile_DG1 (g := (mkF m 13 #[.val (.int p1)] [])) rfl (hb hby d1_13)
  refine Fin.step (sty1) ?_
  show Fin p e below s _ _ _ (Ty1.setTop (mkF m 16 #[.val (.int p1)] [(.ref o1)]))
  refine Fin.retR Xy1 hx hret rfl rfl hlk (hb hby d1_16) (by decide) (by decide) ?_
  show Qp1 Z p1 o1 h0 n0 _ Ty1.heap _
  rw [ey1]
  exact ⟨rfl, N0, rfl⟩
theorem ef_rmp2 (m : MethodId) (x0 : Int32) : entryFrame m #[(.int x0)] 1 = mkF m 0 #[.val (.int x0)] [] := by first | (simp [entryFrame, mkF, argsToLocals, Value.category]; done) | rfl
def Qp2 (Z : State) (p1 : Int32) (o1 : Addr) (h0 : Heap) (n0 : Nat) (v : Option Value) (h : Heap) (L : List Loc) : Prop := v = some (.ref o1) ∧ Fr n0 L ∧ h = h0
set_option maxRecDepth 65536 in
set_option maxHeartbeats 40000000 in
theorem rmp2 (l : Launch) (Z : State) (a0 : Array Value) (hw : ∀ d ∈ tables_1, d.before a0 Z = true) (ws : List Jvm.Cond) (p1 : Int32) (o1 : Addr) (h0 : Heap) (n0 : Nat) (Z0 : n0 ≤ h0.size) (HS_com_example_wicketgate_wicketgate_core_lds_LdsFile_DG2 : Sta Z h0 "com/example/wicketgate/wicketgate/core/lds/LdsFile" "DG2" "Lcom/example/wicketgate/wicketgate/core/lds/LdsFile;" (.ref o1)) (hp : p1 = (2 : Int32)) :
    MetFree l (⟨"com/example/wicketgate/wicketgate/core/lds/LdsFileIsDataGroupPinLaw", "pick", "(I)Lcom/example/wicketgate/wicketgate/core/lds/LdsFile;"⟩ : MethodName) (head1 (Jvm.Cond.code (⟨"com/example/wicketgate/wicketgate/core/lds/LdsFileIsDataGroupPinLaw", "pick", "(I)Lcom/example/wicketgate/wicketgate/core/lds/LdsFile;"⟩ : MethodName) method_2_code 1 (some (.object "com/example/wicketgate/wicketgate/core/lds/LdsFile")) :: ws) ({ frames := 0, cells := 0, slots := 0, locals := 0 } : Room)) (fun a U => a = #[(.int p1)] ∧ Z.Warmed39 U.vm ∧ U.heap = h0) (fun _ _ _ _ _ => True) (fun _ U o U' => ∃ v L, o = .returned v ∧ Qp2 Z p1 o1 h0 n0 v U'.heap L ∧ FrameEnd U o U' L ({ frames := 0, cells := 0, slots := 0, locals := 0 } : Room).cells ({ frames := 0, cells := 0, slots := 0, locals := 0 } : Room).slots) := by
  refine MetFree.of_bodySF (plainFor_of_name pn_1) hisR ?_
  intro p e s m args below meth c s₁ Bd hml0 hP hK
  obtain ⟨rfl, hZ, hh⟩ := hP
  have hx := Bd.exec
  have hby := Bd.bytes
  have hlk := BodyLoose.notSynchronized Bd
  have hret := Bd.returns
  have hml : c.maxLocals = 1 := hml0
  have hown : s.vm.findClass "com/example/wicketgate/wicketgate/core/lds/LdsFileIsDataGroupPinLaw" = some m.cls := findClass_of_methodNamed Bd.named
  have hnm := (name_of_methodNamed Bd.named Bd.method).1
  have X0 : Stand p l e ({ frames := 0, cells := 0, slots := 0, locals := 0 } : Room) s m #[(.int p1)] below meth c s₁ [] 0 0 := Stand.of_body Bd
  have e0 : s₁.heap = h0 := by rw [← hh, Bd.state]; rfl
  have N0 := Fr.nil n0
  have K0 : Keep h0 h0 [] := Keep.refl h0 _
  refine Fin.step (Q := fun v h L => Qp2 Z p1 o1 h0 n0 v h L) (st' := s₁.setTop (mkF m 0 #[.val (.int p1)] [])) (fun t k => castTop (ef_rmp2 m p1) k) ?_
  show Fin p e below s _ _ _ (s₁.setTop (mkF m 0 #[.val (.int p1)] []))
  refine Fin.step (fun _ => XS.iloadN X0.here hx rfl (hb hby d1_0) rfl) ?_
  show Fin p e below s _ _ _ (s₁.setTop (mkF m 1 #[.val (.int p1)] [(.int p1)]))
  refine Fin.step (fun _ => XS.ifYes X0.here hx rfl (pc0 := 1) (pc' := 8) rfl (hb hby d1_1) rfl ((if0 _ _).trans (feq ((by rw [hp]; decide) : ¬ (p1 = (0 : Int32)))).2) (by decide) (by decide)) ?_
  show Fin p e below s _ _ _ (s₁.setTop (mkF m 8 #[.val (.int p1)] []))
  refine Fin.step (fun _ => XS.iloadN X0.here hx rfl (hb hby d1_8) rfl) ?_
  show Fin p e below s _ _ _ (s₁.setTop (mkF m 9 #[.val (.int p1)] [(.int p1)]))
  refine Fin.step (fun _ => XS.iconst X0.here hx rfl (hb hby d1_9)) ?_
  show Fin p e below s _ _ _ (s₁.setTop (mkF m 10 #[.val (.int p1)] [(.int (1 : Int32)), (.int p1)]))
  refine Fin.step (fun _ => XS.icmpYes X0.here hx rfl (pc0 := 10) (pc' := 17) rfl (hb hby d1_10) rfl (feq ((by rw [hp]; decide) : ¬ (p1 = (1 : Int32)))).2 (by decide) (by decide)) ?_
  show Fin p e below s _ _ _ (s₁.setTop (mkF m 17 #[.val (.int p1)] []))
  refine Fin.step (fun _ => XS.iloadN X0.here hx rfl (hb hby d1_17) rfl) ?_
  show Fin p e below s _ _ _ (s₁.setTop (mkF m 18 #[.val (.int p1)] [(.int p1)]))
  refine Fin.step (fun _ => XS.iconst X0.here hx rfl (hb hby d1_18)) ?_
  show Fin p e below s _ _ _ (s₁.setTop (mkF m 19 #[.val (.int p1)] [(.int (2 : Int32)), (.int p1)]))
  refine Fin.step (fun _ => XS.icmpNo X0.here hx rfl (hb hby d1_19) rfl (teq (hp : (p1 = (2 : Int32)))).2) ?_
  show Fin p e below s _ _ _ (s₁.setTop (mkF m 22 #[.val (.int p1)] []))
  obtain ⟨Ty1, Xy1, ey1, sty1⟩ := getS2 X0 hx hZ hown (host := "") (Or.inl (hw _ (List.mem_of_getElem? (i := 18) rfl))) Via.refl e0 HS_com_example_wicketgate_wicketgate_core_lds_LdsFile_DG2 (g := (mkF m 22 #[.val (.int p1)] [])) rfl (hb hby d1_22)
  refine Fin.step (sty1) ?_
  show Fin p e below s _ _ _ (Ty1.setTop (mkF m 25 #[.val (.int p1)] [(.ref o1)]))
  refine Fin.retR Xy1 hx hret rfl rfl hlk (hb hby d1_25) (by decide) (by decide) ?_
  show Qp2 Z p1 o1 h0 n0 _ Ty1.heap _
  rw [ey1]
  exact ⟨rfl, N0, rfl⟩
theorem ef_rmp3 (m : MethodId) (x0 : Int32) : entryFrame m #[(.int x0)] 1 = mkF m 0 #[.val (.int x0)] [] := by first | (simp [entryFrame, mkF, argsToLocals, Value.category]; done) | rfl
def Qp3 (Z : State) (p1 : Int32) (o1 : Addr) (h0 : Heap) (n0 : Nat) (v : Option Value) (h : Heap) (L : List Loc) : Prop := v = some (.ref o1) ∧ Fr n0 L ∧ h = h0
set_option maxRecDepth 65536 in
set_option maxHeartbeats 40000000 in
theorem rmp3 (l : Launch) (Z : State) (a0 : Array Value) (hw : ∀ d ∈ tables_1, d.before a0 Z = true) (ws : List Jvm.Cond) (p1 : Int32) (o1 : Addr) (h0 : Heap) (n0 : Nat) (Z0 : n0 ≤ h0.size) (HS_com_example_wicketgate_wicketgate_core_lds_LdsFile_DG3 : Sta Z h0 "com/example/wicketgate/wicketgate/core/lds/LdsFile" "DG3" "Lcom/example/wicketgate/wicketgate/core/lds/LdsFile;" (.ref o1)) (hp : p1 = (3 : Int32)) :
    MetFree l (⟨"com/example/wicketgate/wicketgate/core/lds/LdsFileIsDataGroupPinLaw", "pick", "(I)Lcom/example/wicketgate/wicketgate/core/lds/LdsFile;"⟩ : MethodName) (head1 (Jvm.Cond.code (⟨"com/example/wicketgate/wicketgate/core/lds/LdsFileIsDataGroupPinLaw", "pick", "(I)Lcom/example/wicketgate/wicketgate/core/lds/LdsFile;"⟩ : MethodName) method_2_code 1 (some (.object "com/example/wicketgate/wicketgate/core/lds/LdsFile")) :: ws) ({ frames := 0, cells := 0, slots := 0, locals := 0 } : Room)) (fun a U => a = #[(.int p1)] ∧ Z.Warmed39 U.vm ∧ U.heap = h0) (fun _ _ _ _ _ => True) (fun _ U o U' => ∃ v L, o = .returned v ∧ Qp3 Z p1 o1 h0 n0 v U'.heap L ∧ FrameEnd U o U' L ({ frames := 0, cells := 0, slots := 0, locals := 0 } : Room).cells ({ frames := 0, cells := 0, slots := 0, locals := 0 } : Room).slots) := by
  refine MetFree.of_bodySF (plainFor_of_name pn_1) hisR ?_
  intro p e s m args below meth c s₁ Bd hml0 hP hK
  obtain ⟨rfl, hZ, hh⟩ := hP
  have hx := Bd.exec
  have hby := Bd.bytes
  have hlk := BodyLoose.notSynchronized Bd
  have hret := Bd.returns
  have hml : c.maxLocals = 1 := hml0
  have hown : s.vm.findClass "com/example/wicketgate/wicketgate/core/lds/LdsFileIsDataGroupPinLaw" = some m.cls := findClass_of_methodNamed Bd.named
  have hnm := (name_of_methodNamed Bd.named Bd.method).1
  have X0 : Stand p l e ({ frames := 0, cells := 0, slots := 0, locals := 0 } : Room) s m #[(.int p1)] below meth c s₁ [] 0 0 := Stand.of_body Bd
  have e0 : s₁.heap = h0 := by rw [← hh, Bd.state]; rfl
  have N0 := Fr.nil n0
  have K0 : Keep h0 h0 [] := Keep.refl h0 _
  refine Fin.step (Q := fun v h L => Qp3 Z p1 o1 h0 n0 v h L) (st' := s₁.setTop (mkF m 0 #[.val (.int p1)] [])) (fun t k => castTop (ef_rmp3 m p1) k) ?_
  show Fin p e below s _ _ _ (s₁.setTop (mkF m 0 #[.val (.int p1)] []))
  refine Fin.step (fun _ => XS.iloadN X0.here hx rfl (hb hby d1_0) rfl) ?_
  show Fin p e below s _ _ _ (s₁.setTop (mkF m 1 #[.val (.int p1)] [(.int p1)]))
  refine Fin.step (fun _ => XS.ifYes X0.here hx rfl (pc0 := 1) (pc' := 8) rfl (hb hby d1_1) rfl ((if0 _ _).trans (feq ((by rw [hp]; decide) : ¬ (p1 = (0 : Int32)))).2) (by decide) (by decide)) ?_
  show Fin p e below s _ _ _ (s₁.setTop (mkF m 8 #[.val (.int p1)] []))
  refine Fin.step (fun _ => XS.iloadN X0.here hx rfl (hb hby d1_8) rfl) ?_
  show Fin p e below s _ _ _ (s₁.setTop (mkF m 9 #[.val (.int p1)] [(.int p1)]))
  refine Fin.step (fun _ => XS.iconst X0.here hx rfl (hb hby d1_9)) ?_
  show Fin p e below s _ _ _ (s₁.setTop (mkF m 10 #[.val (.int p1)] [(.int (1 : Int32)), (.int p1)]))
  refine Fin.step (fun _ => XS.icmpYes X0.here hx rfl (pc0 := 10) (pc' := 17) rfl (hb hby d1_10) rfl (feq ((by rw [hp]; decide) : ¬ (p1 = (1 : Int32)))).2 (by decide) (by decide)) ?_
  show Fin p e below s _ _ _ (s₁.setTop (mkF m 17 #[.val (.int p1)] []))
  refine Fin.step (fun _ => XS.iloadN X0.here hx rfl (hb hby d1_17) rfl) ?_
  show Fin p e below s _ _ _ (s₁.setTop (mkF m 18 #[.val (.int p1)] [(.int p1)]))
  refine Fin.step (fun _ => XS.iconst X0.here hx rfl (hb hby d1_18)) ?_
  show Fin p e below s _ _ _ (s₁.setTop (mkF m 19 #[.val (.int p1)] [(.int (2 : Int32)), (.int p1)]))
  refine Fin.step (fun _ => XS.icmpYes X0.here hx rfl (pc0 := 19) (pc' := 26) rfl (hb hby d1_19) rfl (feq ((by rw [hp]; decide) : ¬ (p1 = (2 : Int32)))).2 (by decide) (by decide)) ?_
  show Fin p e below s _ _ _ (s₁.setTop (mkF m 26 #[.val (.int p1)] []))
  refine Fin.step (fun _ => XS.iloadN X0.here hx rfl (hb hby d1_26) rfl) ?_
  show Fin p e below s _ _ _ (s₁.setTop (mkF m 27 #[.val (.int p1)] [(.int p1)]))
  refine Fin.step (fun _ => XS.iconst X0.here hx rfl (hb hby d1_27)) ?_
  show Fin p e below s _ _ _ (s₁.setTop (mkF m 28 #[.val (.int p1)] [(.int (3 : Int32)), (.int p1)]))
  refine Fin.step (fun _ => XS.icmpNo X0.here hx rfl (hb hby d1_28) rfl (teq (hp : (p1 = (3 : Int32)))).2) ?_
  show Fin p e below s _ _ _ (s₁.setTop (mkF m 31 #[.val (.int p1)] []))
  obtain ⟨Ty1, Xy1, ey1, sty1⟩ := getS2 X0 hx hZ hown (host := "") (Or.inl (hw _ (List.mem_of_getElem? (i := 14) rfl))) Via.refl e0 HS_com_example_wicketgate_wicketgate_core_lds_LdsFile_DG3 (g := (mkF m 31 #[.val (.int p1)] [])) rfl (hb hby d1_31)
  refine Fin.step (sty1) ?_
  show Fin p e below s _ _ _ (Ty1.setTop (mkF m 34 #[.val (.int p1)] [(.ref o1)]))
  refine Fin.retR Xy1 hx hret rfl rfl hlk (hb hby d1_34) (by decide) (by decide) ?_
  show Qp3 Z p1 o1 h0 n0 _ Ty1.heap _
  rw [ey1]
  exact ⟨rfl, N0, rfl⟩
theorem ef_rmp4 (m : MethodId) (x0 : Int32) : entryFrame m #[(.int x0)] 1 = mkF m 0 #[.val (.int x0)] [] := by first | (simp [entryFrame, mkF, argsToLocals, Value.category]; done) | rfl
def Qp4 (Z : State) (p1 : Int32) (o1 : Addr) (h0 : Heap) (n0 : Nat) (v : Option Value) (h : Heap) (L : List Loc) : Prop := v = some (.ref o1) ∧ Fr n0 L ∧ h = h0
set_option maxRecDepth 65536 in
set_option maxHeartbeats 40000000 in
theorem rmp4 (l : Launch) (Z : State) (a0 : Array Value) (hw : ∀ d ∈ tables_1, d.before a0 Z = true) (ws : List Jvm.Cond) (p1 : Int32) (o1 : Addr) (h0 : Heap) (n0 : Nat) (Z0 : n0 ≤ h0.size) (HS_com_example_wicketgate_wicketgate_core_lds_LdsFile_DG4 : Sta Z h0 "com/example/wicketgate/wicketgate/core/lds/LdsFile" "DG4" "Lcom/example/wicketgate/wicketgate/core/lds/LdsFile;" (.ref o1)) (hp : p1 = (4 : Int32)) :
    MetFree l (⟨"com/example/wicketgate/wicketgate/core/lds/LdsFileIsDataGroupPinLaw", "pick", "(I)Lcom/example/wicketgate/wicketgate/core/lds/LdsFile;"⟩ : MethodName) (head1 (Jvm.Cond.code (⟨"com/example/wicketgate/wicketgate/core/lds/LdsFileIsDataGroupPinLaw", "pick", "(I)Lcom/example/wicketgate/wicketgate/core/lds/LdsFile;"⟩ : MethodName) method_2_code 1 (some (.object "com/example/wicketgate/wicketgate/core/lds/LdsFile")) :: ws) ({ frames := 0, cells := 0, slots := 0, locals := 0 } : Room)) (fun a U => a = #[(.int p1)] ∧ Z.Warmed39 U.vm ∧ U.heap = h0) (fun _ _ _ _ _ => True) (fun _ U o U' => ∃ v L, o = .returned v ∧ Qp4 Z p1 o1 h0 n0 v U'.heap L ∧ FrameEnd U o U' L ({ frames := 0, cells := 0, slots := 0, locals := 0 } : Room).cells ({ frames := 0, cells := 0, slots := 0, locals := 0 } : Room).slots) := by
  refine MetFree.of_bodySF (plainFor_of_name pn_1) hisR ?_
  intro p e s m args below meth c s₁ Bd hml0 hP hK
  obtain ⟨rfl, hZ, hh⟩ := hP
  have hx := Bd.exec
  have hby := Bd.bytes
  have hlk := BodyLoose.notSynchronized Bd
  have hret := Bd.returns
  have hml : c.maxLocals = 1 := hml0
  have hown : s.vm.findClass "com/example/wicketgate/wicketgate/core/lds/LdsFileIsDataGroupPinLaw" = some m.cls := findClass_of_methodNamed Bd.named
  have hnm := (name_of_methodNamed Bd.named Bd.method).1
  have X0 : Stand p l e ({ frames := 0, cells := 0, slots := 0, locals := 0 } : Room) s m #[(.int p1)] below meth c s₁ [] 0 0 := Stand.of_body Bd
  have e0 : s₁.heap = h0 := by rw [← hh, Bd.state]; rfl
  have N0 := Fr.nil n0
  have K0 : Keep h0 h0 [] := Keep.refl h0 _
  refine Fin.step (Q := fun v h L => Qp4 Z p1 o1 h0 n0 v h L) (st' := s₁.setTop (mkF m 0 #[.val (.int p1)] [])) (fun t k => castTop (ef_rmp4 m p1) k) ?_
  show Fin p e below s _ _ _ (s₁.setTop (mkF m 0 #[.val (.int p1)] []))
  refine Fin.step (fun _ => XS.iloadN X0.here hx rfl (hb hby d1_0) rfl) ?_
  show Fin p e below s _ _ _ (s₁.setTop (mkF m 1 #[.val (.int p1)] [(.int p1)]))
  refine Fin.step (fun _ => XS.ifYes X0.here hx rfl (pc0 := 1) (pc' := 8) rfl (hb hby d1_1) rfl ((if0 _ _).trans (feq ((by rw [hp]; decide) : ¬ (p1 = (0 : Int32)))).2) (by decide) (by decide)) ?_
  show Fin p e below s _ _ _ (s₁.setTop (mkF m 8 #[.val (.int p1)] []))
  refine Fin.step (fun _ => XS.iloadN X0.here hx rfl (hb hby d1_8) rfl) ?_
  show Fin p e below s _ _ _ (s₁.setTop (mkF m 9 #[.val (.int p1)] [(.int p1)]))
  refine Fin.step (fun _ => XS.iconst X0.here hx rfl (hb hby d1_9)) ?_
  show Fin p e below s _ _ _ (s₁.setTop (mkF m 10 #[.val (.int p1)] [(.int (1 : Int32)), (.int p1)]))
  refine Fin.step (fun _ => XS.icmpYes X0.here hx rfl (pc0 := 10) (pc' := 17) rfl (hb hby d1_10) rfl (feq ((by rw [hp]; decide) : ¬ (p1 = (1 : Int32)))).2 (by decide) (by decide)) ?_
  show Fin p e below s _ _ _ (s₁.setTop (mkF m 17 #[.val (.int p1)] []))
  refine Fin.step (fun _ => XS.iloadN X0.here hx rfl (hb hby d1_17) rfl) ?_
  show Fin p e below s _ _ _ (s₁.setTop (mkF m 18 #[.val (.int p1)] [(.int p1)]))
  refine Fin.step (fun _ => XS.iconst X0.here hx rfl (hb hby d1_18)) ?_
  show Fin p e below s _ _ _ (s₁.setTop (mkF m 19 #[.val (.int p1)] [(.int (2 : Int32)), (.int p1)]))
  refine Fin.step (fun _ => XS.icmpYes X0.here hx rfl (pc0 := 19) (pc' := 26) rfl (hb hby d1_19) rfl (feq ((by rw [hp]; decide) : ¬ (p1 = (2 : Int32)))).2 (by decide) (by decide)) ?_
  show Fin p e below s _ _ _ (s₁.setTop (mkF m 26 #[.val (.int p1)] []))
  refine Fin.step (fun _ => XS.iloadN X0.here hx rfl (hb hby d1_26) rfl) ?_
  show Fin p e below s _ _ _ (s₁.setTop (mkF m 27 #[.val (.int p1)] [(.int p1)]))
  refine Fin.step (fun _ => XS.iconst X0.here hx rfl (hb hby d1_27)) ?_
  show Fin p e below s _ _ _ (s₁.setTop (mkF m 28 #[.val (.int p1)] [(.int (3 : Int32)), (.int p1)]))
  refine Fin.step (fun _ => XS.icmpYes X0.here hx rfl (pc0 := 28) (pc' := 35) rfl (hb hby d1_28) rfl (feq ((by rw [hp]; decide) : ¬ (p1 = (3 : Int32)))).2 (by decide) (by decide)) ?_
  show Fin p e below s _ _ _ (s₁.setTop (mkF m 35 #[.val (.int p1)] []))
  refine Fin.step (fun _ => XS.iloadN X0.here hx rfl (hb hby d1_35) rfl) ?_
  show Fin p e below s _ _ _ (s₁.setTop (mkF m 36 #[.val (.int p1)] [(.int p1)]))
  refine Fin.step (fun _ => XS.iconst X0.here hx rfl (hb hby d1_36)) ?_
  show Fin p e below s _ _ _ (s₁.setTop (mkF m 37 #[.val (.int p1)] [(.int (4 : Int32)), (.int p1)]))
  refine Fin.step (fun _ => XS.icmpNo X0.here hx rfl (hb hby d1_37) rfl (teq (hp : (p1 = (4 : Int32)))).2) ?_
  show Fin p e below s _ _ _ (s₁.setTop (mkF m 40 #[.val (.int p1)] []))
  obtain ⟨Ty1, Xy1, ey1, sty1⟩ := getS2 X0 hx hZ hown (host := "") (Or.inl (hw _ (List.mem_of_getElem? (i := 26) rfl))) Via.refl e0 HS_com_example_wicketgate_wicketgate_core_lds_LdsFile_DG4 (g := (mkF m 40 #[.val (.int p1)] [])) rfl (hb hby d1_40)
  refine Fin.step (sty1) ?_
  show Fin p e below s _ _ _ (Ty1.setTop (mkF m 43 #[.val (.int p1)] [(.ref o1)]))
  refine Fin.retR Xy1 hx hret rfl rfl hlk (hb hby d1_43) (by decide) (by decide) ?_
  show Qp4 Z p1 o1 h0 n0 _ Ty1.heap _
  rw [ey1]
  exact ⟨rfl, N0, rfl⟩
theorem ef_rmp5 (m : MethodId) (x0 : Int32) : entryFrame m #[(.int x0)] 1 = mkF m 0 #[.val (.int x0)] [] := by first | (simp [entryFrame, mkF, argsToLocals, Value.category]; done) | rfl
def Qp5 (Z : State) (p1 : Int32) (o1 : Addr) (h0 : Heap) (n0 : Nat) (v : Option Value) (h : Heap) (L : List Loc) : Prop := v = some (.ref o1) ∧ Fr n0 L ∧ h = h0
set_option maxRecDepth 65536 in
set_option maxHeartbeats 40000000 in
theorem rmp5 (l : Launch) (Z : State) (a0 : Array Value) (hw : ∀ d ∈ tables_1, d.before a0 Z = true) (ws : List Jvm.Cond) (p1 : Int32) (o1 : Addr) (h0 : Heap) (n0 : Nat) (Z0 : n0 ≤ h0.size) (HS_com_example_wicketgate_wicketgate_core_lds_LdsFile_DG5 : Sta Z h0 "com/example/wicketgate/wicketgate/core/lds/LdsFile" "DG5" "Lcom/example/wicketgate/wicketgate/core/lds/LdsFile;" (.ref o1)) (hp : p1 = (5 : Int32)) :
    MetFree l (⟨"com/example/wicketgate/wicketgate/core/lds/LdsFileIsDataGroupPinLaw", "pick", "(I)Lcom/example/wicketgate/wicketgate/core/lds/LdsFile;"⟩ : MethodName) (head1 (Jvm.Cond.code (⟨"com/example/wicketgate/wicketgate/core/lds/LdsFileIsDataGroupPinLaw", "pick", "(I)Lcom/example/wicketgate/wicketgate/core/lds/LdsFile;"⟩ : MethodName) method_2_code 1 (some (.object "com/example/wicketgate/wicketgate/core/lds/LdsFile")) :: ws) ({ frames := 0, cells := 0, slots := 0, locals := 0 } : Room)) (fun a U => a = #[(.int p1)] ∧ Z.Warmed39 U.vm ∧ U.heap = h0) (fun _ _ _ _ _ => True) (fun _ U o U' => ∃ v L, o = .returned v ∧ Qp5 Z p1 o1 h0 n0 v U'.heap L ∧ FrameEnd U o U' L ({ frames := 0, cells := 0, slots := 0, locals := 0 } : Room).cells ({ frames := 0, cells := 0, slots := 0, locals := 0 } : Room).slots) := by
  refine MetFree.of_bodySF (plainFor_of_name pn_1) hisR ?_
  intro p e s m args below meth c s₁ Bd hml0 hP hK
  obtain ⟨rfl, hZ, hh⟩ := hP
  have hx := Bd.exec
  have hby := Bd.bytes
  have hlk := BodyLoose.notSynchronized Bd
  have hret := Bd.returns
  have hml : c.maxLocals = 1 := hml0
  have hown : s.vm.findClass "com/example/wicketgate/wicketgate/core/lds/LdsFileIsDataGroupPinLaw" = some m.cls := findClass_of_methodNamed Bd.named
  have hnm := (name_of_methodNamed Bd.named Bd.method).1
  have X0 : Stand p l e ({ frames := 0, cells := 0, slots := 0, locals := 0 } : Room) s m #[(.int p1)] below meth c s₁ [] 0 0 := Stand.of_body Bd
  have e0 : s₁.heap = h0 := by rw [← hh, Bd.state]; rfl
  have N0 := Fr.nil n0
  have K0 : Keep h0 h0 [] := Keep.refl h0 _
  refine Fin.step (Q := fun v h L => Qp5 Z p1 o1 h0 n0 v h L) (st' := s₁.setTop (mkF m 0 #[.val (.int p1)] [])) (fun t k => castTop (ef_rmp5 m p1) k) ?_
  show Fin p e below s _ _ _ (s₁.setTop (mkF m 0 #[.val (.int p1)] []))
  refine Fin.step (fun _ => XS.iloadN X0.here hx rfl (hb hby d1_0) rfl) ?_
  show Fin p e below s _ _ _ (s₁.setTop (mkF m 1 #[.val (.int p1)] [(.int p1)]))
  refine Fin.step (fun _ => XS.ifYes X0.here hx rfl (pc0 := 1) (pc' := 8) rfl (hb hby d1_1) rfl ((if0 _ _).trans (feq ((by rw [hp]; decide) : ¬ (p1 = (0 : Int32)))).2) (by decide) (by decide)) ?_
  show Fin p e below s _ _ _ (s₁.setTop (mkF m 8 #[.val (.int p1)] []))
  refine Fin.step (fun _ => XS.iloadN X0.here hx rfl (hb hby d1_8) rfl) ?_
  show Fin p e below s _ _ _ (s₁.setTop (mkF m 9 #[.val (.int p1)] [(.int p1)]))
  refine Fin.step (fun _ => XS.iconst X0.here hx rfl (hb hby d1_9)) ?_
  show Fin p e below s _ _ _ (s₁.setTop (mkF m 10 #[.val (.int p1)] [(.int (1 : Int32)), (.int p1)]))
  refine Fin.step (fun _ => XS.icmpYes X0.here hx rfl (pc0 := 10) (pc' := 17) rfl (hb hby d1_10) rfl (feq ((by rw [hp]; decide) : ¬ (p1 = (1 : Int32)))).2 (by decide) (by decide)) ?_
  show Fin p e below s _ _ _ (s₁.setTop (mkF m 17 #[.val (.int p1)] []))
  refine Fin.step (fun _ => XS.iloadN X0.here hx rfl (hb hby d1_17) rfl) ?_
  show Fin p e below s _ _ _ (s₁.setTop (mkF m 18 #[.val (.int p1)] [(.int p1)]))
  refine Fin.step (fun _ => XS.iconst X0.here hx rfl (hb hby d1_18)) ?_
  show Fin p e below s _ _ _ (s₁.setTop (mkF m 19 #[.val (.int p1)] [(.int (2 : Int32)), (.int p1)]))
  refine Fin.step (fun _ => XS.icmpYes X0.here hx rfl (pc0 := 19) (pc' := 26) rfl (hb hby d1_19) rfl (feq ((by rw [hp]; decide) : ¬ (p1 = (2 : Int32)))).2 (by decide) (by decide)) ?_
  show Fin p e below s _ _ _ (s₁.setTop (mkF m 26 #[.val (.int p1)] []))
  refine Fin.step (fun _ => XS.iloadN X0.here hx rfl (hb hby d1_26) rfl) ?_
  show Fin p e below s _ _ _ (s₁.setTop (mkF m 27 #[.val (.int p1)] [(.int p1)]))
  refine Fin.step (fun _ => XS.iconst X0.here hx rfl (hb hby d1_27)) ?_
  show Fin p e below s _ _ _ (s₁.setTop (mkF m 28 #[.val (.int p1)] [(.int (3 : Int32)), (.int p1)]))
  refine Fin.step (fun _ => XS.icmpYes X0.here hx rfl (pc0 := 28) (pc' := 35) rfl (hb hby d1_28) rfl (feq ((by rw [hp]; decide) : ¬ (p1 = (3 : Int32)))).2 (by decide) (by decide)) ?_
  show Fin p e below s _ _ _ (s₁.setTop (mkF m 35 #[.val (.int p1)] []))
  refine Fin.step (fun _ => XS.iloadN X0.here hx rfl (hb hby d1_35) rfl) ?_
  show Fin p e below s _ _ _ (s₁.setTop (mkF m 36 #[.val (.int p1)] [(.int p1)]))
  refine Fin.step (fun _ => XS.iconst X0.here hx rfl (hb hby d1_36)) ?_
  show Fin p e below s _ _ _ (s₁.setTop (mkF m 37 #[.val (.int p1)] [(.int (4 : Int32)), (.int p1)]))
  refine Fin.step (fun _ => XS.icmpYes X0.here hx rfl (pc0 := 37) (pc' := 44) rfl (hb hby d1_37) rfl (feq ((by rw [hp]; decide) : ¬ (p1 = (4 : Int32)))).2 (by decide) (by decide)) ?_
  show Fin p e below s _ _ _ (s₁.setTop (mkF m 44 #[.val (.int p1)] []))
  refine Fin.step (fun _ => XS.iloadN X0.here hx rfl (hb hby d1_44) rfl) ?_
  show Fin p e below s _ _ _ (s₁.setTop (mkF m 45 #[.val (.int p1)] [(.int p1)]))
  refine Fin.step (fun _ => XS.iconst X0.here hx rfl (hb hby d1_45)) ?_
  show Fin p e below s _ _ _ (s₁.setTop (mkF m 46 #[.val (.int p1)] [(.int (5 : Int32)), (.int p1)]))
  refine Fin.step (fun _ => XS.icmpNo X0.here hx rfl (hb hby d1_46) rfl (teq (hp : (p1 = (5 : Int32)))).2) ?_
  show Fin p e below s _ _ _ (s₁.setTop (mkF m 49 #[.val (.int p1)] []))
  obtain ⟨Ty1, Xy1, ey1, sty1⟩ := getS2 X0 hx hZ hown (host := "") (Or.inl (hw _ (List.mem_of_getElem? (i := 45) rfl))) Via.refl e0 HS_com_example_wicketgate_wicketgate_core_lds_LdsFile_DG5 (g := (mkF m 49 #[.val (.int p1)] [])) rfl (hb hby d1_49)
  refine Fin.step (sty1) ?_
  show Fin p e below s _ _ _ (Ty1.setTop (mkF m 52 #[.val (.int p1)] [(.ref o1)]))
  refine Fin.retR Xy1 hx hret rfl rfl hlk (hb hby d1_52) (by decide) (by decide) ?_
  show Qp5 Z p1 o1 h0 n0 _ Ty1.heap _
  rw [ey1]
  exact ⟨rfl, N0, rfl⟩
theorem ef_rmp6 (m : MethodId) (x0 : Int32) : entryFrame m #[(.int x0)] 1 = mkF m 0 #[.val (.int x0)] [] := by first | (simp [entryFrame, mkF, argsToLocals, Value.category]; done) | rfl
def Qp6 (Z : State) (p1 : Int32) (o1 : Addr) (h0 : Heap) (n0 : Nat) (v : Option Value) (h : Heap) (L : List Loc) : Prop := v = some (.ref o1) ∧ Fr n0 L ∧ h = h0
set_option maxRecDepth 65536 in
set_option maxHeartbeats 40000000 in
theorem rmp6 (l : Launch) (Z : State) (a0 : Array Value) (hw : ∀ d ∈ tables_1, d.before a0 Z = true) (ws : List Jvm.Cond) (p1 : Int32) (o1 : Addr) (h0 : Heap) (n0 : Nat) (Z0 : n0 ≤ h0.size) (HS_com_example_wicketgate_wicketgate_core_lds_LdsFile_DG6 : Sta Z h0 "com/example/wicketgate/wicketgate/core/lds/LdsFile" "DG6" "Lcom/example/wicketgate/wicketgate/core/lds/LdsFile;" (.ref o1)) (hp : p1 = (6 : Int32)) :
    MetFree l (⟨"com/example/wicketgate/wicketgate/core/lds/LdsFileIsDataGroupPinLaw", "pick", "(I)Lcom/example/wicketgate/wicketgate/core/lds/LdsFile;"⟩ : MethodName) (head1 (Jvm.Cond.code (⟨"com/example/wicketgate/wicketgate/core/lds/LdsFileIsDataGroupPinLaw", "pick", "(I)Lcom/example/wicketgate/wicketgate/core/lds/LdsFile;"⟩ : MethodName) method_2_code 1 (some (.object "com/example/wicketgate/wicketgate/core/lds/LdsFile")) :: ws) ({ frames := 0, cells := 0, slots := 0, locals := 0 } : Room)) (fun a U => a = #[(.int p1)] ∧ Z.Warmed39 U.vm ∧ U.heap = h0) (fun _ _ _ _ _ => True) (fun _ U o U' => ∃ v L, o = .returned v ∧ Qp6 Z p1 o1 h0 n0 v U'.heap L ∧ FrameEnd U o U' L ({ frames := 0, cells := 0, slots := 0, locals := 0 } : Room).cells ({ frames := 0, cells := 0, slots := 0, locals := 0 } : Room).slots) := by
  refine MetFree.of_bodySF (plainFor_of_name pn_1) hisR ?_
  intro p e s m args below meth c s₁ Bd hml0 hP hK
  obtain ⟨rfl, hZ, hh⟩ := hP
  have hx := Bd.exec
  have hby := Bd.bytes
  have hlk := BodyLoose.notSynchronized Bd
  have hret := Bd.returns
  have hml : c.maxLocals = 1 := hml0
  have hown : s.vm.findClass "com/example/wicketgate/wicketgate/core/lds/LdsFileIsDataGroupPinLaw" = some m.cls := findClass_of_methodNamed Bd.named
  have hnm := (name_of_methodNamed Bd.named Bd.method).1
  have X0 : Stand p l e ({ frames := 0, cells := 0, slots := 0, locals := 0 } : Room) s m #[(.int p1)] below meth c s₁ [] 0 0 := Stand.of_body Bd
  have e0 : s₁.heap = h0 := by rw [← hh, Bd.state]; rfl
  have N0 := Fr.nil n0
  have K0 : Keep h0 h0 [] := Keep.refl h0 _
  refine Fin.step (Q := fun v h L => Qp6 Z p1 o1 h0 n0 v h L) (st' := s₁.setTop (mkF m 0 #[.val (.int p1)] [])) (fun t k => castTop (ef_rmp6 m p1) k) ?_
  show Fin p e below s _ _ _ (s₁.setTop (mkF m 0 #[.val (.int p1)] []))
  refine Fin.step (fun _ => XS.iloadN X0.here hx rfl (hb hby d1_0) rfl) ?_
  show Fin p e below s _ _ _ (s₁.setTop (mkF m 1 #[.val (.int p1)] [(.int p1)]))
  refine Fin.step (fun _ => XS.ifYes X0.here hx rfl (pc0 := 1) (pc' := 8) rfl (hb hby d1_1) rfl ((if0 _ _).trans (feq ((by rw [hp]; decide) : ¬ (p1 = (0 : Int32)))).2) (by decide) (by decide)) ?_
  show Fin p e below s _ _ _ (s₁.setTop (mkF m 8 #[.val (.int p1)] []))
  refine Fin.step (fun _ => XS.iloadN X0.here hx rfl (hb hby d1_8) rfl) ?_
  show Fin p e below s _ _ _ (s₁.setTop (mkF m 9 #[.val (.int p1)] [(.int p1)]))
  refine Fin.step (fun _ => XS.iconst X0.here hx rfl (hb hby d1_9)) ?_
  show Fin p e below s _ _ _ (s₁.setTop (mkF m 10 #[.val (.int p1)] [(.int (1 : Int32)), (.int p1)]))
  refine Fin.step (fun _ => XS.icmpYes X0.here hx rfl (pc0 := 10) (pc' := 17) rfl (hb hby d1_10) rfl (feq ((by rw [hp]; decide) : ¬ (p1 = (1 : Int32)))).2 (by decide) (by decide)) ?_
  show Fin p e below s _ _ _ (s₁.setTop (mkF m 17 #[.val (.int p1)] []))
  refine Fin.step (fun _ => XS.iloadN X0.here hx rfl (hb hby d1_17) rfl) ?_
  show Fin p e below s _ _ _ (s₁.setTop (mkF m 18 #[.val (.int p1)] [(.int p1)]))
  refine Fin.step (fun _ => XS.iconst X0.here hx rfl (hb hby d1_18)) ?_
  show Fin p e below s _ _ _ (s₁.setTop (mkF m 19 #[.val (.int p1)] [(.int (2 : Int32)), (.int p1)]))
  refine Fin.step (fun _ => XS.icmpYes X0.here hx rfl (pc0 := 19) (pc' := 26) rfl (hb hby d1_19) rfl (feq ((by rw [hp]; decide) : ¬ (p1 = (2 : Int32)))).2 (by decide) (by decide)) ?_
  show Fin p e below s _ _ _ (s₁.setTop (mkF m 26 #[.val (.int p1)] []))
  refine Fin.step (fun _ => XS.iloadN X0.here hx rfl (hb hby d1_26) rfl) ?_
  show Fin p e below s _ _ _ (s₁.setTop (mkF m 27 #[.val (.int p1)] [(.int p1)]))
  refine Fin.step (fun _ => XS.iconst X0.here hx rfl (hb hby d1_27)) ?_
  show Fin p e below s _ _ _ (s₁.setTop (mkF m 28 #[.val (.int p1)] [(.int (3 : Int32)), (.int p1)]))
  refine Fin.step (fun _ => XS.icmpYes X0.here hx rfl (pc0 := 28) (pc' := 35) rfl (hb hby d1_28) rfl (feq ((by rw [hp]; decide) : ¬ (p1 = (3 : Int32)))).2 (by decide) (by decide)) ?_
  show Fin p e below s _ _ _ (s₁.setTop (mkF m 35 #[.val (.int p1)] []))
  refine Fin.step (fun _ => XS.iloadN X0.here hx rfl (hb hby d1_35) rfl) ?_
  show Fin p e below s _ _ _ (s₁.setTop (mkF m 36 #[.val (.int p1)] [(.int p1)]))
  refine Fin.step (fun _ => XS.iconst X0.here hx rfl (hb hby d1_36)) ?_
  show Fin p e below s _ _ _ (s₁.setTop (mkF m 37 #[.val (.int p1)] [(.int (4 : Int32)), (.int p1)]))
  refine Fin.step (fun _ => XS.icmpYes X0.here hx rfl (pc0 := 37) (pc' := 44) rfl (hb hby d1_37) rfl (feq ((by rw [hp]; decide) : ¬ (p1 = (4 : Int32)))).2 (by decide) (by decide)) ?_
  show Fin p e below s _ _ _ (s₁.setTop (mkF m 44 #[.val (.int p1)] []))
  refine Fin.step (fun _ => XS.iloadN X0.here hx rfl (hb hby d1_44) rfl) ?_
  show Fin p e below s _ _ _ (s₁.setTop (mkF m 45 #[.val (.int p1)] [(.int p1)]))
  refine Fin.step (fun _ => XS.iconst X0.here hx rfl (hb hby d1_45)) ?_
  show Fin p e below s _ _ _ (s₁.setTop (mkF m 46 #[.val (.int p1)] [(.int (5 : Int32)), (.int p1)]))
  refine Fin.step (fun _ => XS.icmpYes X0.here hx rfl (pc0 := 46) (pc' := 53) rfl (hb hby d1_46) rfl (feq ((by rw [hp]; decide) : ¬ (p1 = (5 : Int32)))).2 (by decide) (by decide)) ?_
  show Fin p e below s _ _ _ (s₁.setTop (mkF m 53 #[.val (.int p1)] []))
  refine Fin.step (fun _ => XS.iloadN X0.here hx rfl (hb hby d1_53) rfl) ?_
  show Fin p e below s _ _ _ (s₁.setTop (mkF m 54 #[.val (.int p1)] [(.int p1)]))
  refine Fin.step (fun _ => XS.bipush X0.here hx rfl (hb hby d1_54)) ?_
  show Fin p e below s _ _ _ (s₁.setTop (mkF m 56 #[.val (.int p1)] [(.int (6 : Int32)), (.int p1)]))
  refine Fin.step (fun _ => XS.icmpNo X0.here hx rfl (hb hby d1_56) rfl (teq (hp : (p1 = (6 : Int32)))).2) ?_
  show Fin p e below s _ _ _ (s₁.setTop (mkF m 59 #[.val (.int p1)] []))
  obtain ⟨Ty1, Xy1, ey1, sty1⟩ := getS2 X0 hx hZ hown (host := "") (Or.inl (hw _ (List.mem_of_getElem? (i := 40) rfl))) Via.refl e0 HS_com_example_wicketgate_wicketgate_core_lds_LdsFile_DG6 (g := (mkF m 59 #[.val (.int p1)] [])) rfl (hb hby d1_59)
  refine Fin.step (sty1) ?_
  show Fin p e below s _ _ _ (Ty1.setTop (mkF m 62 #[.val (.int p1)] [(.ref o1)]))
  refine Fin.retR Xy1 hx hret rfl rfl hlk (hb hby d1_62) (by decide) (by decide) ?_
  show Qp6 Z p1 o1 h0 n0 _ Ty1.heap _
  rw [ey1]
  exact ⟨rfl, N0, rfl⟩
theorem ef_rmp7 (m : MethodId) (x0 : Int32) : entryFrame m #[(.int x0)] 1 = mkF m 0 #[.val (.int x0)] [] := by first | (simp [entryFrame, mkF, argsToLocals, Value.category]; done) | rfl
def Qp7 (Z : State) (p1 : Int32) (o1 : Addr) (h0 : Heap) (n0 : Nat) (v : Option Value) (h : Heap) (L : List Loc) : Prop := v = some (.ref o1) ∧ Fr n0 L ∧ h = h0
set_option maxRecDepth 65536 in
set_option maxHeartbeats 40000000 in
theorem rmp7 (l : Launch) (Z : State) (a0 : Array Value) (hw : ∀ d ∈ tables_1, d.before a0 Z = true) (ws : List Jvm.Cond) (p1 : Int32) (o1 : Addr) (h0 : Heap) (n0 : Nat) (Z0 : n0 ≤ h0.size) (HS_com_example_wicketgate_wicketgate_core_lds_LdsFile_DG7 : Sta Z h0 "com/example/wicketgate/wicketgate/core/lds/LdsFile" "DG7" "Lcom/example/wicketgate/wicketgate/core/lds/LdsFile;" (.ref o1)) (hp : p1 = (7 : Int32)) :
    MetFree l (⟨"com/example/wicketgate/wicketgate/core/lds/LdsFileIsDataGroupPinLaw", "pick", "(I)Lcom/example/wicketgate/wicketgate/core/lds/LdsFile;"⟩ : MethodName) (head1 (Jvm.Cond.code (⟨"com/example/wicketgate/wicketgate/core/lds/LdsFileIsDataGroupPinLaw", "pick", "(I)Lcom/example/wicketgate/wicketgate/core/lds/LdsFile;"⟩ : MethodName) method_2_code 1 (some (.object "com/example/wicketgate/wicketgate/core/lds/LdsFile")) :: ws) ({ frames := 0, cells := 0, slots := 0, locals := 0 } : Room)) (fun a U => a = #[(.int p1)] ∧ Z.Warmed39 U.vm ∧ U.heap = h0) (fun _ _ _ _ _ => True) (fun _ U o U' => ∃ v L, o = .returned v ∧ Qp7 Z p1 o1 h0 n0 v U'.heap L ∧ FrameEnd U o U' L ({ frames := 0, cells := 0, slots := 0, locals := 0 } : Room).cells ({ frames := 0, cells := 0, slots := 0, locals := 0 } : Room).slots) := by
  refine MetFree.of_bodySF (plainFor_of_name pn_1) hisR ?_
  intro p e s m args below meth c s₁ Bd hml0 hP hK
  obtain ⟨rfl, hZ, hh⟩ := hP
  have hx := Bd.exec
  have hby := Bd.bytes
  have hlk := BodyLoose.notSynchronized Bd
  have hret := Bd.returns
  have hml : c.maxLocals = 1 := hml0
  have hown : s.vm.findClass "com/example/wicketgate/wicketgate/core/lds/LdsFileIsDataGroupPinLaw" = some m.cls := findClass_of_methodNamed Bd.named
  have hnm := (name_of_methodNamed Bd.named Bd.method).1
  have X0 : Stand p l e ({ frames := 0, cells := 0, slots := 0, locals := 0 } : Room) s m #[(.int p1)] below meth c s₁ [] 0 0 := Stand.of_body Bd
  have e0 : s₁.heap = h0 := by rw [← hh, Bd.state]; rfl
  have N0 := Fr.nil n0
  have K0 : Keep h0 h0 [] := Keep.refl h0 _
  refine Fin.step (Q := fun v h L => Qp7 Z p1 o1 h0 n0 v h L) (st' := s₁.setTop (mkF m 0 #[.val (.int p1)] [])) (fun t k => castTop (ef_rmp7 m p1) k) ?_
  show Fin p e below s _ _ _ (s₁.setTop (mkF m 0 #[.val (.int p1)] []))
  refine Fin.step (fun _ => XS.iloadN X0.here hx rfl (hb hby d1_0) rfl) ?_
  show Fin p e below s _ _ _ (s₁.setTop (mkF m 1 #[.val (.int p1)] [(.int p1)]))
  refine Fin.step (fun _ => XS.ifYes X0.here hx rfl (pc0 := 1) (pc' := 8) rfl (hb hby d1_1) rfl ((if0 _ _).trans (feq ((by rw [hp]; decide) : ¬ (p1 = (0 : Int32)))).2) (by decide) (by decide)) ?_
  show Fin p e below s _ _ _ (s₁.setTop (mkF m 8 #[.val (.int p1)] []))
  refine Fin.step (fun _ => XS.iloadN X0.here hx rfl (hb hby d1_8) rfl) ?_
  show Fin p e below s _ _ _ (s₁.setTop (mkF m 9 #[.val (.int p1)] [(.int p1)]))
  refine Fin.step (fun _ => XS.iconst X0.here hx rfl (hb hby d1_9)) ?_
  show Fin p e below s _ _ _ (s₁.setTop (mkF m 10 #[.val (.int p1)] [(.int (1 : Int32)), (.int p1)]))
  refine Fin.step (fun _ => XS.icmpYes X0.here hx rfl (pc0 := 10) (pc' := 17) rfl (hb hby d1_10) rfl (feq ((by rw [hp]; decide) : ¬ (p1 = (1 : Int32)))).2 (by decide) (by decide)) ?_
  show Fin p e below s _ _ _ (s₁.setTop (mkF m 17 #[.val (.int p1)] []))
  refine Fin.step (fun _ => XS.iloadN X0.here hx rfl (hb hby d1_17) rfl) ?_
  show Fin p e below s _ _ _ (s₁.setTop (mkF m 18 #[.val (.int p1)] [(.int p1)]))
  refine Fin.step (fun _ => XS.iconst X0.here hx rfl (hb hby d1_18)) ?_
  show Fin p e below s _ _ _ (s₁.setTop (mkF m 19 #[.val (.int p1)] [(.int (2 : Int32)), (.int p1)]))
  refine Fin.step (fun _ => XS.icmpYes X0.here hx rfl (pc0 := 19) (pc' := 26) rfl (hb hby d1_19) rfl (feq ((by rw [hp]; decide) : ¬ (p1 = (2 : Int32)))).2 (by decide) (by decide)) ?_
  show Fin p e below s _ _ _ (s₁.setTop (mkF m 26 #[.val (.int p1)] []))
  refine Fin.step (fun _ => XS.iloadN X0.here hx rfl (hb hby d1_26) rfl) ?_
  show Fin p e below s _ _ _ (s₁.setTop (mkF m 27 #[.val (.int p1)] [(.int p1)]))
  refine Fin.step (fun _ => XS.iconst X0.here hx rfl (hb hby d1_27)) ?_
  show Fin p e below s _ _ _ (s₁.setTop (mkF m 28 #[.val (.int p1)] [(.int (3 : Int32)), (.int p1)]))
  refine Fin.step (fun _ => XS.icmpYes X0.here hx rfl (pc0 := 28) (pc' := 35) rfl (hb hby d1_28) rfl (feq ((by rw [hp]; decide) : ¬ (p1 = (3 : Int32)))).2 (by decide) (by decide)) ?_
  show Fin p e below s _ _ _ (s₁.setTop (mkF m 35 #[.val (.int p1)] []))
  refine Fin.step (fun _ => XS.iloadN X0.here hx rfl (hb hby d1_35) rfl) ?_
  show Fin p e below s _ _ _ (s₁.setTop (mkF m 36 #[.val (.int p1)] [(.int p1)]))
  refine Fin.step (fun _ => XS.iconst X0.here hx rfl (hb hby d1_36)) ?_
  show Fin p e below s _ _ _ (s₁.setTop (mkF m 37 #[.val (.int p1)] [(.int (4 : Int32)), (.int p1)]))
  refine Fin.step (fun _ => XS.icmpYes X0.here hx rfl (pc0 := 37) (pc' := 44) rfl (hb hby d1_37) rfl (feq ((by rw [hp]; decide) : ¬ (p1 = (4 : Int32)))).2 (by decide) (by decide)) ?_
  show Fin p e below s _ _ _ (s₁.setTop (mkF m 44 #[.val (.int p1)] []))
  refine Fin.step (fun _ => XS.iloadN X0.here hx rfl (hb hby d1_44) rfl) ?_
  show Fin p e below s _ _ _ (s₁.setTop (mkF m 45 #[.val (.int p1)] [(.int p1)]))
  refine Fin.step (fun _ => XS.iconst X0.here hx rfl (hb hby d1_45)) ?_
  show Fin p e below s _ _ _ (s₁.setTop (mkF m 46 #[.val (.int p1)] [(.int (5 : Int32)), (.int p1)]))
  refine Fin.step (fun _ => XS.icmpYes X0.here hx rfl (pc0 := 46) (pc' := 53) rfl (hb hby d1_46) rfl (feq ((by rw [hp]; decide) : ¬ (p1 = (5 : Int32)))).2 (by decide) (by decide)) ?_
  show Fin p e below s _ _ _ (s₁.setTop (mkF m 53 #[.val (.int p1)] []))
  refine Fin.step (fun _ => XS.iloadN X0.here hx rfl (hb hby d1_53) rfl) ?_
  show Fin p e below s _ _ _ (s₁.setTop (mkF m 54 #[.val (.int p1)] [(.int p1)]))
  refine Fin.step (fun _ => XS.bipush X0.here hx rfl (hb hby d1_54)) ?_
  show Fin p e below s _ _ _ (s₁.setTop (mkF m 56 #[.val (.int p1)] [(.int (6 : Int32)), (.int p1)]))
  refine Fin.step (fun _ => XS.icmpYes X0.here hx rfl (pc0 := 56) (pc' := 63) rfl (hb hby d1_56) rfl (feq ((by rw [hp]; decide) : ¬ (p1 = (6 : Int32)))).2 (by decide) (by decide)) ?_
  show Fin p e below s _ _ _ (s₁.setTop (mkF m 63 #[.val (.int p1)] []))
  refine Fin.step (fun _ => XS.iloadN X0.here hx rfl (hb hby d1_63) rfl) ?_
  show Fin p e below s _ _ _ (s₁.setTop (mkF m 64 #[.val (.int p1)] [(.int p1)]))
  refine Fin.step (fun _ => XS.bipush X0.here hx rfl (hb hby d1_64)) ?_
  show Fin p e below s _ _ _ (s₁.setTop (mkF m 66 #[.val (.int p1)] [(.int (7 : Int32)), (.int p1)]))
  refine Fin.step (fun _ => XS.icmpNo X0.here hx rfl (hb hby d1_66) rfl (teq (hp : (p1 = (7 : Int32)))).2) ?_
  show Fin p e below s _ _ _ (s₁.setTop (mkF m 69 #[.val (.int p1)] []))
  obtain ⟨Ty1, Xy1, ey1, sty1⟩ := getS2 X0 hx hZ hown (host := "") (Or.inl (hw _ (List.mem_of_getElem? (i := 22) rfl))) Via.refl e0 HS_com_example_wicketgate_wicketgate_core_lds_LdsFile_DG7 (g := (mkF m 69 #[.val (.int p1)] [])) rfl (hb hby d1_69)
  refine Fin.step (sty1) ?_
  show Fin p e below s _ _ _ (Ty1.setTop (mkF m 72 #[.val (.int p1)] [(.ref o1)]))
  refine Fin.retR Xy1 hx hret rfl rfl hlk (hb hby d1_72) (by decide) (by decide) ?_
  show Qp7 Z p1 o1 h0 n0 _ Ty1.heap _
  rw [ey1]
  exact ⟨rfl, N0, rfl⟩
theorem ef_rmp8 (m : MethodId) (x0 : Int32) : entryFrame m #[(.int x0)] 1 = mkF m 0 #[.val (.int x0)] [] := by first | (simp [entryFrame, mkF, argsToLocals, Value.category]; done) | rfl
def Qp8 (Z : State) (p1 : Int32) (o1 : Addr) (h0 : Heap) (n0 : Nat) (v : Option Value) (h : Heap) (L : List Loc) : Prop := v = some (.ref o1) ∧ Fr n0 L ∧ h = h0
set_option maxRecDepth 65536 in
set_option maxHeartbeats 40000000 in
theorem rmp8 (l : Launch) (Z : State) (a0 : Array Value) (hw : ∀ d ∈ tables_1, d.before a0 Z = true) (ws : List Jvm.Cond) (p1 : Int32) (o1 : Addr) (h0 : Heap) (n0 : Nat) (Z0 : n0 ≤ h0.size) (HS_com_example_wicketgate_wicketgate_core_lds_LdsFile_DG8 : Sta Z h0 "com/example/wicketgate/wicketgate/core/lds/LdsFile" "DG8" "Lcom/example/wicketgate/wicketgate/core/lds/LdsFile;" (.ref o1)) (hp : p1 = (8 : Int32)) :
    MetFree l (⟨"com/example/wicketgate/wicketgate/core/lds/LdsFileIsDataGroupPinLaw", "pick", "(I)Lcom/example/wicketgate/wicketgate/core/lds/LdsFile;"⟩ : MethodName) (head1 (Jvm.Cond.code (⟨"com/example/wicketgate/wicketgate/core/lds/LdsFileIsDataGroupPinLaw", "pick", "(I)Lcom/example/wicketgate/wicketgate/core/lds/LdsFile;"⟩ : MethodName) method_2_code 1 (some (.object "com/example/wicketgate/wicketgate/core/lds/LdsFile")) :: ws) ({ frames := 0, cells := 0, slots := 0, locals := 0 } : Room)) (fun a U => a = #[(.int p1)] ∧ Z.Warmed39 U.vm ∧ U.heap = h0) (fun _ _ _ _ _ => True) (fun _ U o U' => ∃ v L, o = .returned v ∧ Qp8 Z p1 o1 h0 n0 v U'.heap L ∧ FrameEnd U o U' L ({ frames := 0, cells := 0, slots := 0, locals := 0 } : Room).cells ({ frames := 0, cells := 0, slots := 0, locals := 0 } : Room).slots) := by
  refine MetFree.of_bodySF (plainFor_of_name pn_1) hisR ?_
  intro p e s m args below meth c s₁ Bd hml0 hP hK
  obtain ⟨rfl, hZ, hh⟩ := hP
  have hx := Bd.exec
  have hby := Bd.bytes
  have hlk := BodyLoose.notSynchronized Bd
  have hret := Bd.returns
  have hml : c.maxLocals = 1 := hml0
  have hown : s.vm.findClass "com/example/wicketgate/wicketgate/core/lds/LdsFileIsDataGroupPinLaw" = some m.cls := findClass_of_methodNamed Bd.named
  have hnm := (name_of_methodNamed Bd.named Bd.method).1
  have X0 : Stand p l e ({ frames := 0, cells := 0, slots := 0, locals := 0 } : Room) s m #[(.int p1)] below meth c s₁ [] 0 0 := Stand.of_body Bd
  have e0 : s₁.heap = h0 := by rw [← hh, Bd.state]; rfl
  have N0 := Fr.nil n0
  have K0 : Keep h0 h0 [] := Keep.refl h0 _
  refine Fin.step (Q := fun v h L => Qp8 Z p1 o1 h0 n0 v h L) (st' := s₁.setTop (mkF m 0 #[.val (.int p1)] [])) (fun t k => castTop (ef_rmp8 m p1) k) ?_
  show Fin p e below s _ _ _ (s₁.setTop (mkF m 0 #[.val (.int p1)] []))
  refine Fin.step (fun _ => XS.iloadN X0.here hx rfl (hb hby d1_0) rfl) ?_
  show Fin p e below s _ _ _ (s₁.setTop (mkF m 1 #[.val (.int p1)] [(.int p1)]))
  refine Fin.step (fun _ => XS.ifYes X0.here hx rfl (pc0 := 1) (pc' := 8) rfl (hb hby d1_1) rfl ((if0 _ _).trans (feq ((by rw [hp]; decide) : ¬ (p1 = (0 : Int32)))).2) (by decide) (by decide)) ?_
  show Fin p e below s _ _ _ (s₁.setTop (mkF m 8 #[.val (.int p1)] []))
  refine Fin.step (fun _ => XS.iloadN X0.here hx rfl (hb hby d1_8) rfl) ?_
  show Fin p e below s _ _ _ (s₁.setTop (mkF m 9 #[.val (.int p1)] [(.int p1)]))
  refine Fin.step (fun _ => XS.iconst X0.here hx rfl (hb hby d1_9)) ?_
  show Fin p e below s _ _ _ (s₁.setTop (mkF m 10 #[.val (.int p1)] [(.int (1 : Int32)), (.int p1)]))
  refine Fin.step (fun _ => XS.icmpYes X0.here hx rfl (pc0 := 10) (pc' := 17) rfl (hb hby d1_10) rfl (feq ((by rw [hp]; decide) : ¬ (p1 = (1 : Int32)))).2 (by decide) (by decide)) ?_
  show Fin p e below s _ _ _ (s₁.setTop (mkF m 17 #[.val (.int p1)] []))
  refine Fin.step (fun _ => XS.iloadN X0.here hx rfl (hb hby d1_17) rfl) ?_
  show Fin p e below s _ _ _ (s₁.setTop (mkF m 18 #[.val (.int p1)] [(.int p1)]))
  refine Fin.step (fun _ => XS.iconst X0.here hx rfl (hb hby d1_18)) ?_
  show Fin p e below s _ _ _ (s₁.setTop (mkF m 19 #[.val (.int p1)] [(.int (2 : Int32)), (.int p1)]))
  refine Fin.step (fun _ => XS.icmpYes X0.here hx rfl (pc0 := 19) (pc' := 26) rfl (hb hby d1_19) rfl (feq ((by rw [hp]; decide) : ¬ (p1 = (2 : Int32)))).2 (by decide) (by decide)) ?_
  show Fin p e below s _ _ _ (s₁.setTop (mkF m 26 #[.val (.int p1)] []))
  refine Fin.step (fun _ => XS.iloadN X0.here hx rfl (hb hby d1_26) rfl) ?_
  show Fin p e below s _ _ _ (s₁.setTop (mkF m 27 #[.val (.int p1)] [(.int p1)]))
  refine Fin.step (fun _ => XS.iconst X0.here hx rfl (hb hby d1_27)) ?_
  show Fin p e below s _ _ _ (s₁.setTop (mkF m 28 #[.val (.int p1)] [(.int (3 : Int32)), (.int p1)]))
  refine Fin.step (fun _ => XS.icmpYes X0.here hx rfl (pc0 := 28) (pc' := 35) rfl (hb hby d1_28) rfl (feq ((by rw [hp]; decide) : ¬ (p1 = (3 : Int32)))).2 (by decide) (by decide)) ?_
  show Fin p e below s _ _ _ (s₁.setTop (mkF m 35 #[.val (.int p1)] []))
  refine Fin.step (fun _ => XS.iloadN X0.here hx rfl (hb hby d1_35) rfl) ?_
  show Fin p e below s _ _ _ (s₁.setTop (mkF m 36 #[.val (.int p1)] [(.int p1)]))
  refine Fin.step (fun _ => XS.iconst X0.here hx rfl (hb hby d1_36)) ?_
  show Fin p e below s _ _ _ (s₁.setTop (mkF m 37 #[.val (.int p1)] [(.int (4 : Int32)), (.int p1)]))
  refine Fin.step (fun _ => XS.icmpYes X0.here hx rfl (pc0 := 37) (pc' := 44) rfl (hb hby d1_37) rfl (feq ((by rw [hp]; decide) : ¬ (p1 = (4 : Int32)))).2 (by decide) (by decide)) ?_
  show Fin p e below s _ _ _ (s₁.setTop (mkF m 44 #[.val (.int p1)] []))
  refine Fin.step (fun _ => XS.iloadN X0.here hx rfl (hb hby d1_44) rfl) ?_
  show Fin p e below s _ _ _ (s₁.setTop (mkF m 45 #[.val (.int p1)] [(.int p1)]))
  refine Fin.step (fun _ => XS.iconst X0.here hx rfl (hb hby d1_45)) ?_
  show Fin p e below s _ _ _ (s₁.setTop (mkF m 46 #[.val (.int p1)] [(.int (5 : Int32)), (.int p1)]))
  refine Fin.step (fun _ => XS.icmpYes X0.here hx rfl (pc0 := 46) (pc' := 53) rfl (hb hby d1_46) rfl (feq ((by rw [hp]; decide) : ¬ (p1 = (5 : Int32)))).2 (by decide) (by decide)) ?_
  show Fin p e below s _ _ _ (s₁.setTop (mkF m 53 #[.val (.int p1)] []))
  refine Fin.step (fun _ => XS.iloadN X0.here hx rfl (hb hby d1_53) rfl) ?_
  show Fin p e below s _ _ _ (s₁.setTop (mkF m 54 #[.val (.int p1)] [(.int p1)]))
  refine Fin.step (fun _ => XS.bipush X0.here hx rfl (hb hby d1_54)) ?_
  show Fin p e below s _ _ _ (s₁.setTop (mkF m 56 #[.val (.int p1)] [(.int (6 : Int32)), (.int p1)]))
  refine Fin.step (fun _ => XS.icmpYes X0.here hx rfl (pc0 := 56) (pc' := 63) rfl (hb hby d1_56) rfl (feq ((by rw [hp]; decide) : ¬ (p1 = (6 : Int32)))).2 (by decide) (by decide)) ?_
  show Fin p e below s _ _ _ (s₁.setTop (mkF m 63 #[.val (.int p1)] []))
  refine Fin.step (fun _ => XS.iloadN X0.here hx rfl (hb hby d1_63) rfl) ?_
  show Fin p e below s _ _ _ (s₁.setTop (mkF m 64 #[.val (.int p1)] [(.int p1)]))
  refine Fin.step (fun _ => XS.bipush X0.here hx rfl (hb hby d1_64)) ?_
  show Fin p e below s _ _ _ (s₁.setTop (mkF m 66 #[.val (.int p1)] [(.int (7 : Int32)), (.int p1)]))
  refine Fin.step (fun _ => XS.icmpYes X0.here hx rfl (pc0 := 66) (pc' := 73) rfl (hb hby d1_66) rfl (feq ((by rw [hp]; decide) : ¬ (p1 = (7 : Int32)))).2 (by decide) (by decide)) ?_
  show Fin p e below s _ _ _ (s₁.setTop (mkF m 73 #[.val (.int p1)] []))
  refine Fin.step (fun _ => XS.iloadN X0.here hx rfl (hb hby d1_73) rfl) ?_
  show Fin p e below s _ _ _ (s₁.setTop (mkF m 74 #[.val (.int p1)] [(.int p1)]))
  refine Fin.step (fun _ => XS.bipush X0.here hx rfl (hb hby d1_74)) ?_
  show Fin p e below s _ _ _ (s₁.setTop (mkF m 76 #[.val (.int p1)] [(.int (8 : Int32)), (.int p1)]))
  refine Fin.step (fun _ => XS.icmpNo X0.here hx rfl (hb hby d1_76) rfl (teq (hp : (p1 = (8 : Int32)))).2) ?_
  show Fin p e below s _ _ _ (s₁.setTop (mkF m 79 #[.val (.int p1)] []))
  obtain ⟨Ty1, Xy1, ey1, sty1⟩ := getS2 X0 hx hZ hown (host := "") (Or.inl (hw _ (List.mem_of_getElem? (i := 28) rfl))) Via.refl e0 HS_com_example_wicketgate_wicketgate_core_lds_LdsFile_DG8 (g := (mkF m 79 #[.val (.int p1)] [])) rfl (hb hby d1_79)
  refine Fin.step (sty1) ?_
  show Fin p e below s _ _ _ (Ty1.setTop (mkF m 82 #[.val (.int p1)] [(.ref o1)]))
  refine Fin.retR Xy1 hx hret rfl rfl hlk (hb hby d1_82) (by decide) (by decide) ?_
  show Qp8 Z p1 o1 h0 n0 _ Ty1.heap _
  rw [ey1]
  exact ⟨rfl, N0, rfl⟩
theorem ef_rmp9 (m : MethodId) (x0 : Int32) : entryFrame m #[(.int x0)] 1 = mkF m 0 #[.val (.int x0)] [] := by first | (simp [entryFrame, mkF, argsToLocals, Value.category]; done) | rfl
def Qp9 (Z : State) (p1 : Int32) (o1 : Addr) (h0 : Heap) (n0 : Nat) (v : Option Value) (h : Heap) (L : List Loc) : Prop := v = some (.ref o1) ∧ Fr n0 L ∧ h = h0
set_option maxRecDepth 65536 in
set_option maxHeartbeats 40000000 in
theorem rmp9 (l : Launch) (Z : State) (a0 : Array Value) (hw : ∀ d ∈ tables_1, d.before a0 Z = true) (ws : List Jvm.Cond) (p1 : Int32) (o1 : Addr) (h0 : Heap) (n0 : Nat) (Z0 : n0 ≤ h0.size) (HS_com_example_wicketgate_wicketgate_core_lds_LdsFile_DG9 : Sta Z h0 "com/example/wicketgate/wicketgate/core/lds/LdsFile" "DG9" "Lcom/example/wicketgate/wicketgate/core/lds/LdsFile;" (.ref o1)) (hp : p1 = (9 : Int32)) :
    MetFree l (⟨"com/example/wicketgate/wicketgate/core/lds/LdsFileIsDataGroupPinLaw", "pick", "(I)Lcom/example/wicketgate/wicketgate/core/lds/LdsFile;"⟩ : MethodName) (head1 (Jvm.Cond.code (⟨"com/example/wicketgate/wicketgate/core/lds/LdsFileIsDataGroupPinLaw", "pick", "(I)Lcom/example/wicketgate/wicketgate/core/lds/LdsFile;"⟩ : MethodName) method_2_code 1 (some (.object "com/example/wicketgate/wicketgate/core/lds/LdsFile")) :: ws) ({ frames := 0, cells := 0, slots := 0, locals := 0 } : Room)) (fun a U => a = #[(.int p1)] ∧ Z.Warmed39 U.vm ∧ U.heap = h0) (fun _ _ _ _ _ => True) (fun _ U o U' => ∃ v L, o = .returned v ∧ Qp9 Z p1 o1 h0 n0 v U'.heap L ∧ FrameEnd U o U' L ({ frames := 0, cells := 0, slots := 0, locals := 0 } : Room).cells ({ frames := 0, cells := 0, slots := 0, locals := 0 } : Room).slots) := by
  refine MetFree.of_bodySF (plainFor_of_name pn_1) hisR ?_
  intro p e s m args below meth c s₁ Bd hml0 hP hK
  obtain ⟨rfl, hZ, hh⟩ := hP
  have hx := Bd.exec
  have hby := Bd.bytes
  have hlk := BodyLoose.notSynchronized Bd
  have hret := Bd.returns
  have hml : c.maxLocals = 1 := hml0
  have hown : s.vm.findClass "com/example/wicketgate/wicketgate/core/lds/LdsFileIsDataGroupPinLaw" = some m.cls := findClass_of_methodNamed Bd.named
  have hnm := (name_of_methodNamed Bd.named Bd.method).1
  have X0 : Stand p l e ({ frames := 0, cells := 0, slots := 0, locals := 0 } : Room) s m #[(.int p1)] below meth c s₁ [] 0 0 := Stand.of_body Bd
  have e0 : s₁.heap = h0 := by rw [← hh, Bd.state]; rfl
  have N0 := Fr.nil n0
  have K0 : Keep h0 h0 [] := Keep.refl h0 _
  refine Fin.step (Q := fun v h L => Qp9 Z p1 o1 h0 n0 v h L) (st' := s₁.setTop (mkF m 0 #[.val (.int p1)] [])) (fun t k => castTop (ef_rmp9 m p1) k) ?_
  show Fin p e below s _ _ _ (s₁.setTop (mkF m 0 #[.val (.int p1)] []))
  refine Fin.step (fun _ => XS.iloadN X0.here hx rfl (hb hby d1_0) rfl) ?_
  show Fin p e below s _ _ _ (s₁.setTop (mkF m 1 #[.val (.int p1)] [(.int p1)]))
  refine Fin.step (fun _ => XS.ifYes X0.here hx rfl (pc0 := 1) (pc' := 8) rfl (hb hby d1_1) rfl ((if0 _ _).trans (feq ((by rw [hp]; decide) : ¬ (p1 = (0 : Int32)))).2) (by decide) (by decide)) ?_
  show Fin p e below s _ _ _ (s₁.setTop (mkF m 8 #[.val (.int p1)] []))
  refine Fin.step (fun _ => XS.iloadN X0.here hx rfl (hb hby d1_8) rfl) ?_
  show Fin p e below s _ _ _ (s₁.setTop (mkF m 9 #[.val (.int p1)] [(.int p1)]))
  refine Fin.step (fun _ => XS.iconst X0.here hx rfl (hb hby d1_9)) ?_
  show Fin p e below s _ _ _ (s₁.setTop (mkF m 10 #[.val (.int p1)] [(.int (1 : Int32)), (.int p1)]))
  refine Fin.step (fun _ => XS.icmpYes X0.here hx rfl (pc0 := 10) (pc' := 17) rfl (hb hby d1_10) rfl (feq ((by rw [hp]; decide) : ¬ (p1 = (1 : Int32)))).2 (by decide) (by decide)) ?_
  show Fin p e below s _ _ _ (s₁.setTop (mkF m 17 #[.val (.int p1)] []))
  refine Fin.step (fun _ => XS.iloadN X0.here hx rfl (hb hby d1_17) rfl) ?_
  show Fin p e below s _ _ _ (s₁.setTop (mkF m 18 #[.val (.int p1)] [(.int p1)]))
  refine Fin.step (fun _ => XS.iconst X0.here hx rfl (hb hby d1_18)) ?_
  show Fin p e below s _ _ _ (s₁.setTop (mkF m 19 #[.val (.int p1)] [(.int (2 : Int32)), (.int p1)]))
  refine Fin.step (fun _ => XS.icmpYes X0.here hx rfl (pc0 := 19) (pc' := 26) rfl (hb hby d1_19) rfl (feq ((by rw [hp]; decide) : ¬ (p1 = (2 : Int32)))).2 (by decide) (by decide)) ?_
  show Fin p e below s _ _ _ (s₁.setTop (mkF m 26 #[.val (.int p1)] []))
  refine Fin.step (fun _ => XS.iloadN X0.here hx rfl (hb hby d1_26) rfl) ?_
  show Fin p e below s _ _ _ (s₁.setTop (mkF m 27 #[.val (.int p1)] [(.int p1)]))
  refine Fin.step (fun _ => XS.iconst X0.here hx rfl (hb hby d1_27)) ?_
  show Fin p e below s _ _ _ (s₁.setTop (mkF m 28 #[.val (.int p1)] [(.int (3 : Int32)), (.int p1)]))
  refine Fin.step (fun _ => XS.icmpYes X0.here hx rfl (pc0 := 28) (pc' := 35) rfl (hb hby d1_28) rfl (feq ((by rw [hp]; decide) : ¬ (p1 = (3 : Int32)))).2 (by decide) (by decide)) ?_
  show Fin p e below s _ _ _ (s₁.setTop (mkF m 35 #[.val (.int p1)] []))
  refine Fin.step (fun _ => XS.iloadN X0.here hx rfl (hb hby d1_35) rfl) ?_
  show Fin p e below s _ _ _ (s₁.setTop (mkF m 36 #[.val (.int p1)] [(.int p1)]))
  refine Fin.step (fun _ => XS.iconst X0.here hx rfl (hb hby d1_36)) ?_
  show Fin p e below s _ _ _ (s₁.setTop (mkF m 37 #[.val (.int p1)] [(.int (4 : Int32)), (.int p1)]))
  refine Fin.step (fun _ => XS.icmpYes X0.here hx rfl (pc0 := 37) (pc' := 44) rfl (hb hby d1_37) rfl (feq ((by rw [hp]; decide) : ¬ (p1 = (4 : Int32)))).2 (by decide) (by decide)) ?_
  show Fin p e below s _ _ _ (s₁.setTop (mkF m 44 #[.val (.int p1)] []))
  refine Fin.step (fun _ => XS.iloadN X0.here hx rfl (hb hby d1_44) rfl) ?_
  show Fin p e below s _ _ _ (s₁.setTop (mkF m 45 #[.val (.int p1)] [(.int p1)]))
  refine Fin.step (fun _ => XS.iconst X0.here hx rfl (hb hby d1_45)) ?_
  show Fin p e below s _ _ _ (s₁.setTop (mkF m 46 #[.val (.int p1)] [(.int (5 : Int32)), (.int p1)]))
  refine Fin.step (fun _ => XS.icmpYes X0.here hx rfl (pc0 := 46) (pc' := 53) rfl (hb hby d1_46) rfl (feq ((by rw [hp]; decide) : ¬ (p1 = (5 : Int32)))).2 (by decide) (by decide)) ?_
  show Fin p e below s _ _ _ (s₁.setTop (mkF m 53 #[.val (.int p1)] []))
  refine Fin.step (fun _ => XS.iloadN X0.here hx rfl (hb hby d1_53) rfl) ?_
  show Fin p e below s _ _ _ (s₁.setTop (mkF m 54 #[.val (.int p1)] [(.int p1)]))
  refine Fin.step (fun _ => XS.bipush X0.here hx rfl (hb hby d1_54)) ?_
  show Fin p e below s _ _ _ (s₁.setTop (mkF m 56 #[.val (.int p1)] [(.int (6 : Int32)), (.int p1)]))
  refine Fin.step (fun _ => XS.icmpYes X0.here hx rfl (pc0 := 56) (pc' := 63) rfl (hb hby d1_56) rfl (feq ((by rw [hp]; decide) : ¬ (p1 = (6 : Int32)))).2 (by decide) (by decide)) ?_
  show Fin p e below s _ _ _ (s₁.setTop (mkF m 63 #[.val (.int p1)] []))
  refine Fin.step (fun _ => XS.iloadN X0.here hx rfl (hb hby d1_63) rfl) ?_
  show Fin p e below s _ _ _ (s₁.setTop (mkF m 64 #[.val (.int p1)] [(.int p1)]))
  refine Fin.step (fun _ => XS.bipush X0.here hx rfl (hb hby d1_64)) ?_
  show Fin p e below s _ _ _ (s₁.setTop (mkF m 66 #[.val (.int p1)] [(.int (7 : Int32)), (.int p1)]))
  refine Fin.step (fun _ => XS.icmpYes X0.here hx rfl (pc0 := 66) (pc' := 73) rfl (hb hby d1_66) rfl (feq ((by rw [hp]; decide) : ¬ (p1 = (7 : Int32)))).2 (by decide) (by decide)) ?_
  show Fin p e below s _ _ _ (s₁.setTop (mkF m 73 #[.val (.int p1)] []))
  refine Fin.step (fun _ => XS.iloadN X0.here hx rfl (hb hby d1_73) rfl) ?_
  show Fin p e below s _ _ _ (s₁.setTop (mkF m 74 #[.val (.int p1)] [(.int p1)]))
  refine Fin.step (fun _ => XS.bipush X0.here hx rfl (hb hby d1_74)) ?_
  show Fin p e below s _ _ _ (s₁.setTop (mkF m 76 #[.val (.int p1)] [(.int (8 : Int32)), (.int p1)]))
  refine Fin.step (fun _ => XS.icmpYes X0.here hx rfl (pc0 := 76) (pc' := 83) rfl (hb hby d1_76) rfl (feq ((by rw [hp]; decide) : ¬ (p1 = (8 : Int32)))).2 (by decide) (by decide)) ?_
  show Fin p e below s _ _ _ (s₁.setTop (mkF m 83 #[.val (.int p1)] []))
  refine Fin.step (fun _ => XS.iloadN X0.here hx rfl (hb hby d1_83) rfl) ?_
  show Fin p e below s _ _ _ (s₁.setTop (mkF m 84 #[.val (.int p1)] [(.int p1)]))
  refine Fin.step (fun _ => XS.bipush X0.here hx rfl (hb hby d1_84)) ?_
  show Fin p e below s _ _ _ (s₁.setTop (mkF m 86 #[.val (.int p1)] [(.int (9 : Int32)), (.int p1)]))
  refine Fin.step (fun _ => XS.icmpNo X0.here hx rfl (hb hby d1_86) rfl (teq (hp : (p1 = (9 : Int32)))).2) ?_
  show Fin p e below s _ _ _ (s₁.setTop (mkF m 89 #[.val (.int p1)] []))
  obtain ⟨Ty1, Xy1, ey1, sty1⟩ := getS2 X0 hx hZ hown (host := "") (Or.inl (hw _ (List.mem_of_getElem? (i := 47) rfl))) Via.refl e0 HS_com_example_wicketgate_wicketgate_core_lds_LdsFile_DG9 (g := (mkF m 89 #[.val (.int p1)] [])) rfl (hb hby d1_89)
  refine Fin.step (sty1) ?_
  show Fin p e below s _ _ _ (Ty1.setTop (mkF m 92 #[.val (.int p1)] [(.ref o1)]))
  refine Fin.retR Xy1 hx hret rfl rfl hlk (hb hby d1_92) (by decide) (by decide) ?_
  show Qp9 Z p1 o1 h0 n0 _ Ty1.heap _
  rw [ey1]
  exact ⟨rfl, N0, rfl⟩
theorem ef_rmp10 (m : MethodId) (x0 : Int32) : entryFrame m #[(.int x0)] 1 = mkF m 0 #[.val (.int x0)] [] := by first | (simp [entryFrame, mkF, argsToLocals, Value.category]; done) | rfl
def Qp10 (Z : State) (p1 : Int32) (o1 : Addr) (h0 : Heap) (n0 : Nat) (v : Option Value) (h : Heap) (L : List Loc) : Prop := v = some (.ref o1) ∧ Fr n0 L ∧ h = h0
set_option maxRecDepth 65536 in
set_option maxHeartbeats 40000000 in
theorem rmp10 (l : Launch) (Z : State) (a0 : Array Value) (hw : ∀ d ∈ tables_1, d.before a0 Z = true) (ws : List Jvm.Cond) (p1 : Int32) (o1 : Addr) (h0 : Heap) (n0 : Nat) (Z0 : n0 ≤ h0.size) (HS_com_example_wicketgate_wicketgate_core_lds_LdsFile_DG10 : Sta Z h0 "com/example/wicketgate/wicketgate/core/lds/LdsFile" "DG10" "Lcom/example/wicketgate/wicketgate/core/lds/LdsFile;" (.ref o1)) (hp : p1 = (10 : Int32)) :
    MetFree l (⟨"com/example/wicketgate/wicketgate/core/lds/LdsFileIsDataGroupPinLaw", "pick", "(I)Lcom/example/wicketgate/wicketgate/core/lds/LdsFile;"⟩ : MethodName) (head1 (Jvm.Cond.code (⟨"com/example/wicketgate/wicketgate/core/lds/LdsFileIsDataGroupPinLaw", "pick", "(I)Lcom/example/wicketgate/wicketgate/core/lds/LdsFile;"⟩ : MethodName) method_2_code 1 (some (.object "com/example/wicketgate/wicketgate/core/lds/LdsFile")) :: ws) ({ frames := 0, cells := 0, slots := 0, locals := 0 } : Room)) (fun a U => a = #[(.int p1)] ∧ Z.Warmed39 U.vm ∧ U.heap = h0) (fun _ _ _ _ _ => True) (fun _ U o U' => ∃ v L, o = .returned v ∧ Qp10 Z p1 o1 h0 n0 v U'.heap L ∧ FrameEnd U o U' L ({ frames := 0, cells := 0, slots := 0, locals := 0 } : Room).cells ({ frames := 0, cells := 0, slots := 0, locals := 0 } : Room).slots) := by
  refine MetFree.of_bodySF (plainFor_of_name pn_1) hisR ?_
  intro p e s m args below meth c s₁ Bd hml0 hP hK
  obtain ⟨rfl, hZ, hh⟩ := hP
  have hx := Bd.exec
  have hby := Bd.bytes
  have hlk := BodyLoose.notSynchronized Bd
  have hret := Bd.returns
  have hml : c.maxLocals = 1 := hml0
  have hown : s.vm.findClass "com/example/wicketgate/wicketgate/core/lds/LdsFileIsDataGroupPinLaw" = some m.cls := findClass_of_methodNamed Bd.named
  have hnm := (name_of_methodNamed Bd.named Bd.method).1
  have X0 : Stand p l e ({ frames := 0, cells := 0, slots := 0, locals := 0 } : Room) s m #[(.int p1)] below meth c s₁ [] 0 0 := Stand.of_body Bd
  have e0 : s₁.heap = h0 := by rw [← hh, Bd.state]; rfl
  have N0 := Fr.nil n0
  have K0 : Keep h0 h0 [] := Keep.refl h0 _
  refine Fin.step (Q := fun v h L => Qp10 Z p1 o1 h0 n0 v h L) (st' := s₁.setTop (mkF m 0 #[.val (.int p1)] [])) (fun t k => castTop (ef_rmp10 m p1) k) ?_
  show Fin p e below s _ _ _ (s₁.setTop (mkF m 0 #[.val (.int p1)] []))
  refine Fin.step (fun _ => XS.iloadN X0.here hx rfl (hb hby d1_0) rfl) ?_
  show Fin p e below s _ _ _ (s₁.setTop (mkF m 1 #[.val (.int p1)] [(.int p1)]))
  refine Fin.step (fun _ => XS.ifYes X0.here hx rfl (pc0 := 1) (pc' := 8) rfl (hb hby d1_1) rfl ((if0 _ _).trans (feq ((by rw [hp]; decide) : ¬ (p1 = (0 : Int32)))).2) (by decide) (by decide)) ?_
  show Fin p e below s _ _ _ (s₁.setTop (mkF m 8 #[.val (.int p1)] []))
  refine Fin.step (fun _ => XS.iloadN X0.here hx rfl (hb hby d1_8) rfl) ?_
  show Fin p e below s _ _ _ (s₁.setTop (mkF m 9 #[.val (.int p1)] [(.int p1)]))
  refine Fin.step (fun _ => XS.iconst X0.here hx rfl (hb hby d1_9)) ?_
  show Fin p e below s _ _ _ (s₁.setTop (mkF m 10 #[.val (.int p1)] [(.int (1 : Int32)), (.int p1)]))
  refine Fin.step (fun _ => XS.icmpYes X0.here hx rfl (pc0 := 10) (pc' := 17) rfl (hb hby d1_10) rfl (feq ((by rw [hp]; decide) : ¬ (p1 = (1 : Int32)))).2 (by decide) (by decide)) ?_
  show Fin p e below s _ _ _ (s₁.setTop (mkF m 17 #[.val (.int p1)] []))
  refine Fin.step (fun _ => XS.iloadN X0.here hx rfl (hb hby d1_17) rfl) ?_
  show Fin p e below s _ _ _ (s₁.setTop (mkF m 18 #[.val (.int p1)] [(.int p1)]))
  refine Fin.step (fun _ => XS.iconst X0.here hx rfl (hb hby d1_18)) ?_
  show Fin p e below s _ _ _ (s₁.setTop (mkF m 19 #[.val (.int p1)] [(.int (2 : Int32)), (.int p1)]))
  refine Fin.step (fun _ => XS.icmpYes X0.here hx rfl (pc0 := 19) (pc' := 26) rfl (hb hby d1_19) rfl (feq ((by rw [hp]; decide) : ¬ (p1 = (2 : Int32)))).2 (by decide) (by decide)) ?_
  show Fin p e below s _ _ _ (s₁.setTop (mkF m 26 #[.val (.int p1)] []))
  refine Fin.step (fun _ => XS.iloadN X0.here hx rfl (hb hby d1_26) rfl) ?_
  show Fin p e below s _ _ _ (s₁.setTop (mkF m 27 #[.val (.int p1)] [(.int p1)]))
  refine Fin.step (fun _ => XS.iconst X0.here hx rfl (hb hby d1_27)) ?_
  show Fin p e below s _ _ _ (s₁.setTop (mkF m 28 #[.val (.int p1)] [(.int (3 : Int32)), (.int p1)]))
  refine Fin.step (fun _ => XS.icmpYes X0.here hx rfl (pc0 := 28) (pc' := 35) rfl (hb hby d1_28) rfl (feq ((by rw [hp]; decide) : ¬ (p1 = (3 : Int32)))).2 (by decide) (by decide)) ?_
  show Fin p e below s _ _ _ (s₁.setTop (mkF m 35 #[.val (.int p1)] []))
  refine Fin.step (fun _ => XS.iloadN X0.here hx rfl (hb hby d1_35) rfl) ?_
  show Fin p e below s _ _ _ (s₁.setTop (mkF m 36 #[.val (.int p1)] [(.int p1)]))
  refine Fin.step (fun _ => XS.iconst X0.here hx rfl (hb hby d1_36)) ?_
  show Fin p e below s _ _ _ (s₁.setTop (mkF m 37 #[.val (.int p1)] [(.int (4 : Int32)), (.int p1)]))
  refine Fin.step (fun _ => XS.icmpYes X0.here hx rfl (pc0 := 37) (pc' := 44) rfl (hb hby d1_37) rfl (feq ((by rw [hp]; decide) : ¬ (p1 = (4 : Int32)))).2 (by decide) (by decide)) ?_
  show Fin p e below s _ _ _ (s₁.setTop (mkF m 44 #[.val (.int p1)] []))
  refine Fin.step (fun _ => XS.iloadN X0.here hx rfl (hb hby d1_44) rfl) ?_
  show Fin p e below s _ _ _ (s₁.setTop (mkF m 45 #[.val (.int p1)] [(.int p1)]))
  refine Fin.step (fun _ => XS.iconst X0.here hx rfl (hb hby d1_45)) ?_
  show Fin p e below s _ _ _ (s₁.setTop (mkF m 46 #[.val (.int p1)] [(.int (5 : Int32)), (.int p1)]))
  refine Fin.step (fun _ => XS.icmpYes X0.here hx rfl (pc0 := 46) (pc' := 53) rfl (hb hby d1_46) rfl (feq ((by rw [hp]; decide) : ¬ (p1 = (5 : Int32)))).2 (by decide) (by decide)) ?_
  show Fin p e below s _ _ _ (s₁.setTop (mkF m 53 #[.val (.int p1)] []))
  refine Fin.step (fun _ => XS.iloadN X0.here hx rfl (hb hby d1_53) rfl) ?_
  show Fin p e below s _ _ _ (s₁.setTop (mkF m 54 #[.val (.int p1)] [(.int p1)]))
  refine Fin.step (fun _ => XS.bipush X0.here hx rfl (hb hby d1_54)) ?_
  show Fin p e below s _ _ _ (s₁.setTop (mkF m 56 #[.val (.int p1)] [(.int (6 : Int32)), (.int p1)]))
  refine Fin.step (fun _ => XS.icmpYes X0.here hx rfl (pc0 := 56) (pc' := 63) rfl (hb hby d1_56) rfl (feq ((by rw [hp]; decide) : ¬ (p1 = (6 : Int32)))).2 (by decide) (by decide)) ?_
  show Fin p e below s _ _ _ (s₁.setTop (mkF m 63 #[.val (.int p1)] []))
  refine Fin.step (fun _ => XS.iloadN X0.here hx rfl (hb hby d1_63) rfl) ?_
  show Fin p e below s _ _ _ (s₁.setTop (mkF m 64 #[.val (.int p1)] [(.int p1)]))
  refine Fin.step (fun _ => XS.bipush X0.here hx rfl (hb hby d1_64)) ?_
  show Fin p e below s _ _ _ (s₁.setTop (mkF m 66 #[.val (.int p1)] [(.int (7 : Int32)), (.int p1)]))
  refine Fin.step (fun _ => XS.icmpYes X0.here hx rfl (pc0 := 66) (pc' := 73) rfl (hb hby d1_66) rfl (feq ((by rw [hp]; decide) : ¬ (p1 = (7 : Int32)))).2 (by decide) (by decide)) ?_
  show Fin p e below s _ _ _ (s₁.setTop (mkF m 73 #[.val (.int p1)] []))
  refine Fin.step (fun _ => XS.iloadN X0.here hx rfl (hb hby d1_73) rfl) ?_
  show Fin p e below s _ _ _ (s₁.setTop (mkF m 74 #[.val (.int p1)] [(.int p1)]))
  refine Fin.step (fun _ => XS.bipush X0.here hx rfl (hb hby d1_74)) ?_
  show Fin p e below s _ _ _ (s₁.setTop (mkF m 76 #[.val (.int p1)] [(.int (8 : Int32)), (.int p1)]))
  refine Fin.step (fun _ => XS.icmpYes X0.here hx rfl (pc0 := 76) (pc' := 83) rfl (hb hby d1_76) rfl (feq ((by rw [hp]; decide) : ¬ (p1 = (8 : Int32)))).2 (by decide) (by decide)) ?_
  show Fin p e below s _ _ _ (s₁.setTop (mkF m 83 #[.val (.int p1)] []))
  refine Fin.step (fun _ => XS.iloadN X0.here hx rfl (hb hby d1_83) rfl) ?_
  show Fin p e below s _ _ _ (s₁.setTop (mkF m 84 #[.val (.int p1)] [(.int p1)]))
  refine Fin.step (fun _ => XS.bipush X0.here hx rfl (hb hby d1_84)) ?_
  show Fin p e below s _ _ _ (s₁.setTop (mkF m 86 #[.val (.int p1)] [(.int (9 : Int32)), (.int p1)]))
  refine Fin.step (fun _ => XS.icmpYes X0.here hx rfl (pc0 := 86) (pc' := 93) rfl (hb hby d1_86) rfl (feq ((by rw [hp]; decide) : ¬ (p1 = (9 : Int32)))).2 (by decide) (by decide)) ?_
  show Fin p e below s _ _ _ (s₁.setTop (mkF m 93 #[.val (.int p1)] []))
  refine Fin.step (fun _ => XS.iloadN X0.here hx rfl (hb hby d1_93) rfl) ?_
  show Fin p e below s _ _ _ (s₁.setTop (mkF m 94 #[.val (.int p1)] [(.int p1)]))
  refine Fin.step (fun _ => XS.bipush X0.here hx rfl (hb hby d1_94)) ?_
  show Fin p e below s _ _ _ (s₁.setTop (mkF m 96 #[.val (.int p1)] [(.int (10 : Int32)), (.int p1)]))
  refine Fin.step (fun _ => XS.icmpNo X0.here hx rfl (hb hby d1_96) rfl (teq (hp : (p1 = (10 : Int32)))).2) ?_
  show Fin p e below s _ _ _ (s₁.setTop (mkF m 99 #[.val (.int p1)] []))
  obtain ⟨Ty1, Xy1, ey1, sty1⟩ := getS2 X0 hx hZ hown (host := "") (Or.inl (hw _ (List.mem_of_getElem? (i := 36) rfl))) Via.refl e0 HS_com_example_wicketgate_wicketgate_core_lds_LdsFile_DG10 (g := (mkF m 99 #[.val (.int p1)] [])) rfl (hb hby d1_99)
  refine Fin.step (sty1) ?_
  show Fin p e below s _ _ _ (Ty1.setTop (mkF m 102 #[.val (.int p1)] [(.ref o1)]))
  refine Fin.retR Xy1 hx hret rfl rfl hlk (hb hby d1_102) (by decide) (by decide) ?_
  show Qp10 Z p1 o1 h0 n0 _ Ty1.heap _
  rw [ey1]
  exact ⟨rfl, N0, rfl⟩
theorem ef_rmp11 (m : MethodId) (x0 : Int32) : entryFrame m #[(.int x0)] 1 = mkF m 0 #[.val (.int x0)] [] := by first | (simp [entryFrame, mkF, argsToLocals, Value.category]; done) | rfl
def Qp11 (Z : State) (p1 : Int32) (o1 : Addr) (h0 : Heap) (n0 : Nat) (v : Option Value) (h : Heap) (L : List Loc) : Prop := v = some (.ref o1) ∧ Fr n0 L ∧ h = h0
set_option maxRecDepth 65536 in
set_option maxHeartbeats 40000000 in
theorem rmp11 (l : Launch) (Z : State) (a0 : Array Value) (hw : ∀ d ∈ tables_1, d.before a0 Z = true) (ws : List Jvm.Cond) (p1 : Int32) (o1 : Addr) (h0 : Heap) (n0 : Nat) (Z0 : n0 ≤ h0.size) (HS_com_example_wicketgate_wicketgate_core_lds_LdsFile_DG11 : Sta Z h0 "com/example/wicketgate/wicketgate/core/lds/LdsFile" "DG11" "Lcom/example/wicketgate/wicketgate/core/lds/LdsFile;" (.ref o1)) (hp : p1 = (11 : Int32)) :
    MetFree l (⟨"com/example/wicketgate/wicketgate/core/lds/LdsFileIsDataGroupPinLaw", "pick", "(I)Lcom/example/wicketgate/wicketgate/core/lds/LdsFile;"⟩ : MethodName) (head1 (Jvm.Cond.code (⟨"com/example/wicketgate/wicketgate/core/lds/LdsFileIsDataGroupPinLaw", "pick", "(I)Lcom/example/wicketgate/wicketgate/core/lds/LdsFile;"⟩ : MethodName) method_2_code 1 (some (.object "com/example/wicketgate/wicketgate/core/lds/LdsFile")) :: ws) ({ frames := 0, cells := 0, slots := 0, locals := 0 } : Room)) (fun a U => a = #[(.int p1)] ∧ Z.Warmed39 U.vm ∧ U.heap = h0) (fun _ _ _ _ _ => True) (fun _ U o U' => ∃ v L, o = .returned v ∧ Qp11 Z p1 o1 h0 n0 v U'.heap L ∧ FrameEnd U o U' L ({ frames := 0, cells := 0, slots := 0, locals := 0 } : Room).cells ({ frames := 0, cells := 0, slots := 0, locals := 0 } : Room).slots) := by
  refine MetFree.of_bodySF (plainFor_of_name pn_1) hisR ?_
  intro p e s m args below meth c s₁ Bd hml0 hP hK
  obtain ⟨rfl, hZ, hh⟩ := hP
  have hx := Bd.exec
  have hby := Bd.bytes
  have hlk := BodyLoose.notSynchronized Bd
  have hret := Bd.returns
  have hml : c.maxLocals = 1 := hml0
  have hown : s.vm.findClass "com/example/wicketgate/wicketgate/core/lds/LdsFileIsDataGroupPinLaw" = some m.cls := findClass_of_methodNamed Bd.named
  have hnm := (name_of_methodNamed Bd.named Bd.method).1
  have X0 : Stand p l e ({ frames := 0, cells := 0, slots := 0, locals := 0 } : Room) s m #[(.int p1)] below meth c s₁ [] 0 0 := Stand.of_body Bd
  have e0 : s₁.heap = h0 := by rw [← hh, Bd.state]; rfl
  have N0 := Fr.nil n0
  have K0 : Keep h0 h0 [] := Keep.refl h0 _
  refine Fin.step (Q := fun v h L => Qp11 Z p1 o1 h0 n0 v h L) (st' := s₁.setTop (mkF m 0 #[.val (.int p1)] [])) (fun t k => castTop (ef_rmp11 m p1) k) ?_
  show Fin p e below s _ _ _ (s₁.setTop (mkF m 0 #[.val (.int p1)] []))
  refine Fin.step (fun _ => XS.iloadN X0.here hx rfl (hb hby d1_0) rfl) ?_
  show Fin p e below s _ _ _ (s₁.setTop (mkF m 1 #[.val (.int p1)] [(.int p1)]))
  refine Fin.step (fun _ => XS.ifYes X0.here hx rfl (pc0 := 1) (pc' := 8) rfl (hb hby d1_1) rfl ((if0 _ _).trans (feq ((by rw [hp]; decide) : ¬ (p1 = (0 : Int32)))).2) (by decide) (by decide)) ?_
  show Fin p e below s _ _ _ (s₁.setTop (mkF m 8 #[.val (.int p1)] []))
  refine Fin.step (fun _ => XS.iloadN X0.here hx rfl (hb hby d1_8) rfl) ?_
  show Fin p e below s _ _ _ (s₁.setTop (mkF m 9 #[.val (.int p1)] [(.int p1)]))
  refine Fin.step (fun _ => XS.iconst X0.here hx rfl (hb hby d1_9)) ?_
  show Fin p e below s _ _ _ (s₁.setTop (mkF m 10 #[.val (.int p1)] [(.int (1 : Int32)), (.int p1)]))
  refine Fin.step (fun _ => XS.icmpYes X0.here hx rfl (pc0 := 10) (pc' := 17) rfl (hb hby d1_10) rfl (feq ((by rw [hp]; decide) : ¬ (p1 = (1 : Int32)))).2 (by decide) (by decide)) ?_
  show Fin p e below s _ _ _ (s₁.setTop (mkF m 17 #[.val (.int p1)] []))
  refine Fin.step (fun _ => XS.iloadN X0.here hx rfl (hb hby d1_17) rfl) ?_
  show Fin p e below s _ _ _ (s₁.setTop (mkF m 18 #[.val (.int p1)] [(.int p1)]))
  refine Fin.step (fun _ => XS.iconst X0.here hx rfl (hb hby d1_18)) ?_
  show Fin p e below s _ _ _ (s₁.setTop (mkF m 19 #[.val (.int p1)] [(.int (2 : Int32)), (.int p1)]))
  refine Fin.step (fun _ => XS.icmpYes X0.here hx rfl (pc0 := 19) (pc' := 26) rfl (hb hby d1_19) rfl (feq ((by rw [hp]; decide) : ¬ (p1 = (2 : Int32)))).2 (by decide) (by decide)) ?_
  show Fin p e below s _ _ _ (s₁.setTop (mkF m 26 #[.val (.int p1)] []))
  refine Fin.step (fun _ => XS.iloadN X0.here hx rfl (hb hby d1_26) rfl) ?_
  show Fin p e below s _ _ _ (s₁.setTop (mkF m 27 #[.val (.int p1)] [(.int p1)]))
  refine Fin.step (fun _ => XS.iconst X0.here hx rfl (hb hby d1_27)) ?_
  show Fin p e below s _ _ _ (s₁.setTop (mkF m 28 #[.val (.int p1)] [(.int (3 : Int32)), (.int p1)]))
  refine Fin.step (fun _ => XS.icmpYes X0.here hx rfl (pc0 := 28) (pc' := 35) rfl (hb hby d1_28) rfl (feq ((by rw [hp]; decide) : ¬ (p1 = (3 : Int32)))).2 (by decide) (by decide)) ?_
  show Fin p e below s _ _ _ (s₁.setTop (mkF m 35 #[.val (.int p1)] []))
  refine Fin.step (fun _ => XS.iloadN X0.here hx rfl (hb hby d1_35) rfl) ?_
  show Fin p e below s _ _ _ (s₁.setTop (mkF m 36 #[.val (.int p1)] [(.int p1)]))
  refine Fin.step (fun _ => XS.iconst X0.here hx rfl (hb hby d1_36)) ?_
  show Fin p e below s _ _ _ (s₁.setTop (mkF m 37 #[.val (.int p1)] [(.int (4 : Int32)), (.int p1)]))
  refine Fin.step (fun _ => XS.icmpYes X0.here hx rfl (pc0 := 37) (pc' := 44) rfl (hb hby d1_37) rfl (feq ((by rw [hp]; decide) : ¬ (p1 = (4 : Int32)))).2 (by decide) (by decide)) ?_
  show Fin p e below s _ _ _ (s₁.setTop (mkF m 44 #[.val (.int p1)] []))
  refine Fin.step (fun _ => XS.iloadN X0.here hx rfl (hb hby d1_44) rfl) ?_
  show Fin p e below s _ _ _ (s₁.setTop (mkF m 45 #[.val (.int p1)] [(.int p1)]))
  refine Fin.step (fun _ => XS.iconst X0.here hx rfl (hb hby d1_45)) ?_
  show Fin p e below s _ _ _ (s₁.setTop (mkF m 46 #[.val (.int p1)] [(.int (5 : Int32)), (.int p1)]))
  refine Fin.step (fun _ => XS.icmpYes X0.here hx rfl (pc0 := 46) (pc' := 53) rfl (hb hby d1_46) rfl (feq ((by rw [hp]; decide) : ¬ (p1 = (5 : Int32)))).2 (by decide) (by decide)) ?_
  show Fin p e below s _ _ _ (s₁.setTop (mkF m 53 #[.val (.int p1)] []))
  refine Fin.step (fun _ => XS.iloadN X0.here hx rfl (hb hby d1_53) rfl) ?_
  show Fin p e below s _ _ _ (s₁.setTop (mkF m 54 #[.val (.int p1)] [(.int p1)]))
  refine Fin.step (fun _ => XS.bipush X0.here hx rfl (hb hby d1_54)) ?_
  show Fin p e below s _ _ _ (s₁.setTop (mkF m 56 #[.val (.int p1)] [(.int (6 : Int32)), (.int p1)]))
  refine Fin.step (fun _ => XS.icmpYes X0.here hx rfl (pc0 := 56) (pc' := 63) rfl (hb hby d1_56) rfl (feq ((by rw [hp]; decide) : ¬ (p1 = (6 : Int32)))).2 (by decide) (by decide)) ?_
  show Fin p e below s _ _ _ (s₁.setTop (mkF m 63 #[.val (.int p1)] []))
  refine Fin.step (fun _ => XS.iloadN X0.here hx rfl (hb hby d1_63) rfl) ?_
  show Fin p e below s _ _ _ (s₁.setTop (mkF m 64 #[.val (.int p1)] [(.int p1)]))
  refine Fin.step (fun _ => XS.bipush X0.here hx rfl (hb hby d1_64)) ?_
  show Fin p e below s _ _ _ (s₁.setTop (mkF m 66 #[.val (.int p1)] [(.int (7 : Int32)), (.int p1)]))
  refine Fin.step (fun _ => XS.icmpYes X0.here hx rfl (pc0 := 66) (pc' := 73) rfl (hb hby d1_66) rfl (feq ((by rw [hp]; decide) : ¬ (p1 = (7 : Int32)))).2 (by decide) (by decide)) ?_
  show Fin p e below s _ _ _ (s₁.setTop (mkF m 73 #[.val (.int p1)] []))
  refine Fin.step (fun _ => XS.iloadN X0.here hx rfl (hb hby d1_73) rfl) ?_
  show Fin p e below s _ _ _ (s₁.setTop (mkF m 74 #[.val (.int p1)] [(.int p1)]))
  refine Fin.step (fun _ => XS.bipush X0.here hx rfl (hb hby d1_74)) ?_
  show Fin p e below s _ _ _ (s₁.setTop (mkF m 76 #[.val (.int p1)] [(.int (8 : Int32)), (.int p1)]))
  refine Fin.step (fun _ => XS.icmpYes X0.here hx rfl (pc0 := 76) (pc' := 83) rfl (hb hby d1_76) rfl (feq ((by rw [hp]; decide) : ¬ (p1 = (8 : Int32)))).2 (by decide) (by decide)) ?_
  show Fin p e below s _ _ _ (s₁.setTop (mkF m 83 #[.val (.int p1)] []))
  refine Fin.step (fun _ => XS.iloadN X0.here hx rfl (hb hby d1_83) rfl) ?_
  show Fin p e below s _ _ _ (s₁.setTop (mkF m 84 #[.val (.int p1)] [(.int p1)]))
  refine Fin.step (fun _ => XS.bipush X0.here hx rfl (hb hby d1_84)) ?_
  show Fin p e below s _ _ _ (s₁.setTop (mkF m 86 #[.val (.int p1)] [(.int (9 : Int32)), (.int p1)]))
  refine Fin.step (fun _ => XS.icmpYes X0.here hx rfl (pc0 := 86) (pc' := 93) rfl (hb hby d1_86) rfl (feq ((by rw [hp]; decide) : ¬ (p1 = (9 : Int32)))).2 (by decide) (by decide)) ?_
  show Fin p e below s _ _ _ (s₁.setTop (mkF m 93 #[.val (.int p1)] []))
  refine Fin.step (fun _ => XS.iloadN X0.here hx rfl (hb hby d1_93) rfl) ?_
  show Fin p e below s _ _ _ (s₁.setTop (mkF m 94 #[.val (.int p1)] [(.int p1)]))
  refine Fin.step (fun _ => XS.bipush X0.here hx rfl (hb hby d1_94)) ?_
  show Fin p e below s _ _ _ (s₁.setTop (mkF m 96 #[.val (.int p1)] [(.int (10 : Int32)), (.int p1)]))
  refine Fin.step (fun _ => XS.icmpYes X0.here hx rfl (pc0 := 96) (pc' := 103) rfl (hb hby d1_96) rfl (feq ((by rw [hp]; decide) : ¬ (p1 = (10 : Int32)))).2 (by decide) (by decide)) ?_
  show Fin p e below s _ _ _ (s₁.setTop (mkF m 103 #[.val (.int p1)] []))
  refine Fin.step (fun _ => XS.iloadN X0.here hx rfl (hb hby d1_103) rfl) ?_
  show Fin p e below s _ _ _ (s₁.setTop (mkF m 104 #[.val (.int p1)] [(.int p1)]))
  refine Fin.step (fun _ => XS.bipush X0.here hx rfl (hb hby d1_104)) ?_
  show Fin p e below s _ _ _ (s₁.setTop (mkF m 106 #[.val (.int p1)] [(.int (11 : Int32)), (.int p1)]))
  refine Fin.step (fun _ => XS.icmpNo X0.here hx rfl (hb hby d1_106) rfl (teq (hp : (p1 = (11 : Int32)))).2) ?_
  show Fin p e below s _ _ _ (s₁.setTop (mkF m 109 #[.val (.int p1)] []))
  obtain ⟨Ty1, Xy1, ey1, sty1⟩ := getS2 X0 hx hZ hown (host := "") (Or.inl (hw _ (List.mem_of_getElem? (i := 24) rfl))) Via.refl e0 HS_com_example_wicketgate_wicketgate_core_lds_LdsFile_DG11 (g := (mkF m 109 #[.val (.int p1)] [])) rfl (hb hby d1_109)
  refine Fin.step (sty1) ?_
  show Fin p e below s _ _ _ (Ty1.setTop (mkF m 112 #[.val (.int p1)] [(.ref o1)]))
  refine Fin.retR Xy1 hx hret rfl rfl hlk (hb hby d1_112) (by decide) (by decide) ?_
  show Qp11 Z p1 o1 h0 n0 _ Ty1.heap _
  rw [ey1]
  exact ⟨rfl, N0, rfl⟩
theorem ef_rmp12 (m : MethodId) (x0 : Int32) : entryFrame m #[(.int x0)] 1 = mkF m 0 #[.val (.int x0)] [] := by first | (simp [entryFrame, mkF, argsToLocals, Value.category]; done) | rfl
def Qp12 (Z : State) (p1 : Int32) (o1 : Addr) (h0 : Heap) (n0 : Nat) (v : Option Value) (h : Heap) (L : List Loc) : Prop := v = some (.ref o1) ∧ Fr n0 L ∧ h = h0
set_option maxRecDepth 65536 in
set_option maxHeartbeats 40000000 in
theorem rmp12 (l : Launch) (Z : State) (a0 : Array Value) (hw : ∀ d ∈ tables_1, d.before a0 Z = true) (ws : List Jvm.Cond) (p1 : Int32) (o1 : Addr) (h0 : Heap) (n0 : Nat) (Z0 : n0 ≤ h0.size) (HS_com_example_wicketgate_wicketgate_core_lds_LdsFile_DG12 : Sta Z h0 "com/example/wicketgate/wicketgate/core/lds/LdsFile" "DG12" "Lcom/example/wicketgate/wicketgate/core/lds/LdsFile;" (.ref o1)) (hp : p1 = (12 : Int32)) :
    MetFree l (⟨"com/example/wicketgate/wicketgate/core/lds/LdsFileIsDataGroupPinLaw", "pick", "(I)Lcom/example/wicketgate/wicketgate/core/lds/LdsFile;"⟩ : MethodName) (head1 (Jvm.Cond.code (⟨"com/example/wicketgate/wicketgate/core/lds/LdsFileIsDataGroupPinLaw", "pick", "(I)Lcom/example/wicketgate/wicketgate/core/lds/LdsFile;"⟩ : MethodName) method_2_code 1 (some (.object "com/example/wicketgate/wicketgate/core/lds/LdsFile")) :: ws) ({ frames := 0, cells := 0, slots := 0, locals := 0 } : Room)) (fun a U => a = #[(.int p1)] ∧ Z.Warmed39 U.vm ∧ U.heap = h0) (fun _ _ _ _ _ => True) (fun _ U o U' => ∃ v L, o = .returned v ∧ Qp12 Z p1 o1 h0 n0 v U'.heap L ∧ FrameEnd U o U' L ({ frames := 0, cells := 0, slots := 0, locals := 0 } : Room).cells ({ frames := 0, cells := 0, slots := 0, locals := 0 } : Room).slots) := by
  refine MetFree.of_bodySF (plainFor_of_name pn_1) hisR ?_
  intro p e s m args below meth c s₁ Bd hml0 hP hK
  obtain ⟨rfl, hZ, hh⟩ := hP
  have hx := Bd.exec
  have hby := Bd.bytes
  have hlk := BodyLoose.notSynchronized Bd
  have hret := Bd.returns
  have hml : c.maxLocals = 1 := hml0
  have hown : s.vm.findClass "com/example/wicketgate/wicketgate/core/lds/LdsFileIsDataGroupPinLaw" = some m.cls := findClass_of_methodNamed Bd.named
  have hnm := (name_of_methodNamed Bd.named Bd.method).1
  have X0 : Stand p l e ({ frames := 0, cells := 0, slots := 0, locals := 0 } : Room) s m #[(.int p1)] below meth c s₁ [] 0 0 := Stand.of_body Bd
  have e0 : s₁.heap = h0 := by rw [← hh, Bd.state]; rfl
  have N0 := Fr.nil n0
  have K0 : Keep h0 h0 [] := Keep.refl h0 _
  refine Fin.step (Q := fun v h L => Qp12 Z p1 o1 h0 n0 v h L) (st' := s₁.setTop (mkF m 0 #[.val (.int p1)] [])) (fun t k => castTop (ef_rmp12 m p1) k) ?_
  show Fin p e below s _ _ _ (s₁.setTop (mkF m 0 #[.val (.int p1)] []))
  refine Fin.step (fun _ => XS.iloadN X0.here hx rfl (hb hby d1_0) rfl) ?_
  show Fin p e below s _ _ _ (s₁.setTop (mkF m 1 #[.val (.int p1)] [(.int p1)]))
  refine Fin.step (fun _ => XS.ifYes X0.here hx rfl (pc0 := 1) (pc' := 8) rfl (hb hby d1_1) rfl ((if0 _ _).trans (feq ((by rw [hp]; decide) : ¬ (p1 = (0 : Int32)))).2) (by decide) (by decide)) ?_
  show Fin p e below s _ _ _ (s₁.setTop (mkF m 8 #[.val (.int p1)] []))
  refine Fin.step (fun _ => XS.iloadN X0.here hx rfl (hb hby d1_8) rfl) ?_
  show Fin p e below s _ _ _ (s₁.setTop (mkF m 9 #[.val (.int p1)] [(.int p1)]))
  refine Fin.step (fun _ => XS.iconst X0.here hx rfl (hb hby d1_9)) ?_
  show Fin p e below s _ _ _ (s₁.setTop (mkF m 10 #[.val (.int p1)] [(.int (1 : Int32)), (.int p1)]))
  refine Fin.step (fun _ => XS.icmpYes X0.here hx rfl (pc0 := 10) (pc' := 17) rfl (hb hby d1_10) rfl (feq ((by rw [hp]; decide) : ¬ (p1 = (1 : Int32)))).2 (by decide) (by decide)) ?_
  show Fin p e below s _ _ _ (s₁.setTop (mkF m 17 #[.val (.int p1)] []))
  refine Fin.step (fun _ => XS.iloadN X0.here hx rfl (hb hby d1_17) rfl) ?_
  show Fin p e below s _ _ _ (s₁.setTop (mkF m 18 #[.val (.int p1)] [(.int p1)]))
  refine Fin.step (fun _ => XS.iconst X0.here hx rfl (hb hby d1_18)) ?_
  show Fin p e below s _ _ _ (s₁.setTop (mkF m 19 #[.val (.int p1)] [(.int (2 : Int32)), (.int p1)]))
  refine Fin.step (fun _ => XS.icmpYes X0.here hx rfl (pc0 := 19) (pc' := 26) rfl (hb hby d1_19) rfl (feq ((by rw [hp]; decide) : ¬ (p1 = (2 : Int32)))).2 (by decide) (by decide)) ?_
  show Fin p e below s _ _ _ (s₁.setTop (mkF m 26 #[.val (.int p1)] []))
  refine Fin.step (fun _ => XS.iloadN X0.here hx rfl (hb hby d1_26) rfl) ?_
  show Fin p e below s _ _ _ (s₁.setTop (mkF m 27 #[.val (.int p1)] [(.int p1)]))
  refine Fin.step (fun _ => XS.iconst X0.here hx rfl (hb hby d1_27)) ?_
  show Fin p e below s _ _ _ (s₁.setTop (mkF m 28 #[.val (.int p1)] [(.int (3 : Int32)), (.int p1)]))
  refine Fin.step (fun _ => XS.icmpYes X0.here hx rfl (pc0 := 28) (pc' := 35) rfl (hb hby d1_28) rfl (feq ((by rw [hp]; decide) : ¬ (p1 = (3 : Int32)))).2 (by decide) (by decide)) ?_
  show Fin p e below s _ _ _ (s₁.setTop (mkF m 35 #[.val (.int p1)] []))
  refine Fin.step (fun _ => XS.iloadN X0.here hx rfl (hb hby d1_35) rfl) ?_
  show Fin p e below s _ _ _ (s₁.setTop (mkF m 36 #[.val (.int p1)] [(.int p1)]))
  refine Fin.step (fun _ => XS.iconst X0.here hx rfl (hb hby d1_36)) ?_
  show Fin p e below s _ _ _ (s₁.setTop (mkF m 37 #[.val (.int p1)] [(.int (4 : Int32)), (.int p1)]))
  refine Fin.step (fun _ => XS.icmpYes X0.here hx rfl (pc0 := 37) (pc' := 44) rfl (hb hby d1_37) rfl (feq ((by rw [hp]; decide) : ¬ (p1 = (4 : Int32)))).2 (by decide) (by decide)) ?_
  show Fin p e below s _ _ _ (s₁.setTop (mkF m 44 #[.val (.int p1)] []))
  refine Fin.step (fun _ => XS.iloadN X0.here hx rfl (hb hby d1_44) rfl) ?_
  show Fin p e below s _ _ _ (s₁.setTop (mkF m 45 #[.val (.int p1)] [(.int p1)]))
  refine Fin.step (fun _ => XS.iconst X0.here hx rfl (hb hby d1_45)) ?_
  show Fin p e below s _ _ _ (s₁.setTop (mkF m 46 #[.val (.int p1)] [(.int (5 : Int32)), (.int p1)]))
  refine Fin.step (fun _ => XS.icmpYes X0.here hx rfl (pc0 := 46) (pc' := 53) rfl (hb hby d1_46) rfl (feq ((by rw [hp]; decide) : ¬ (p1 = (5 : Int32)))).2 (by decide) (by decide)) ?_
  show Fin p e below s _ _ _ (s₁.setTop (mkF m 53 #[.val (.int p1)] []))
  refine Fin.step (fun _ => XS.iloadN X0.here hx rfl (hb hby d1_53) rfl) ?_
  show Fin p e below s _ _ _ (s₁.setTop (mkF m 54 #[.val (.int p1)] [(.int p1)]))
  refine Fin.step (fun _ => XS.bipush X0.here hx rfl (hb hby d1_54)) ?_
  show Fin p e below s _ _ _ (s₁.setTop (mkF m 56 #[.val (.int p1)] [(.int (6 : Int32)), (.int p1)]))
  refine Fin.step (fun _ => XS.icmpYes X0.here hx rfl (pc0 := 56) (pc' := 63) rfl (hb hby d1_56) rfl (feq ((by rw [hp]; decide) : ¬ (p1 = (6 : Int32)))).2 (by decide) (by decide)) ?_
  show Fin p e below s _ _ _ (s₁.setTop (mkF m 63 #[.val (.int p1)] []))
  refine Fin.step (fun _ => XS.iloadN X0.here hx rfl (hb hby d1_63) rfl) ?_
  show Fin p e below s _ _ _ (s₁.setTop (mkF m 64 #[.val (.int p1)] [(.int p1)]))
  refine Fin.step (fun _ => XS.bipush X0.here hx rfl (hb hby d1_64)) ?_
  show Fin p e below s _ _ _ (s₁.setTop (mkF m 66 #[.val (.int p1)] [(.int (7 : Int32)), (.int p1)]))
  refine Fin.step (fun _ => XS.icmpYes X0.here hx rfl (pc0 := 66) (pc' := 73) rfl (hb hby d1_66) rfl (feq ((by rw [hp]; decide) : ¬ (p1 = (7 : Int32)))).2 (by decide) (by decide)) ?_
  show Fin p e below s _ _ _ (s₁.setTop (mkF m 73 #[.val (.int p1)] []))
  refine Fin.step (fun _ => XS.iloadN X0.here hx rfl (hb hby d1_73) rfl) ?_
  show Fin p e below s _ _ _ (s₁.setTop (mkF m 74 #[.val (.int p1)] [(.int p1)]))
  refine Fin.step (fun _ => XS.bipush X0.here hx rfl (hb hby d1_74)) ?_
  show Fin p e below s _ _ _ (s₁.setTop (mkF m 76 #[.val (.int p1)] [(.int (8 : Int32)), (.int p1)]))
  refine Fin.step (fun _ => XS.icmpYes X0.here hx rfl (pc0 := 76) (pc' := 83) rfl (hb hby d1_76) rfl (feq ((by rw [hp]; decide) : ¬ (p1 = (8 : Int32)))).2 (by decide) (by decide)) ?_
  show Fin p e below s _ _ _ (s₁.setTop (mkF m 83 #[.val (.int p1)] []))
  refine Fin.step (fun _ => XS.iloadN X0.here hx rfl (hb hby d1_83) rfl) ?_
  show Fin p e below s _ _ _ (s₁.setTop (mkF m 84 #[.val (.int p1)] [(.int p1)]))
  refine Fin.step (fun _ => XS.bipush X0.here hx rfl (hb hby d1_84)) ?_
  show Fin p e below s _ _ _ (s₁.setTop (mkF m 86 #[.val (.int p1)] [(.int (9 : Int32)), (.int p1)]))
  refine Fin.step (fun _ => XS.icmpYes X0.here hx rfl (pc0 := 86) (pc' := 93) rfl (hb hby d1_86) rfl (feq ((by rw [hp]; decide) : ¬ (p1 = (9 : Int32)))).2 (by decide) (by decide)) ?_
  show Fin p e below s _ _ _ (s₁.setTop (mkF m 93 #[.val (.int p1)] []))
  refine Fin.step (fun _ => XS.iloadN X0.here hx rfl (hb hby d1_93) rfl) ?_
  show Fin p e below s _ _ _ (s₁.setTop (mkF m 94 #[.val (.int p1)] [(.int p1)]))
  refine Fin.step (fun _ => XS.bipush X0.here hx rfl (hb hby d1_94)) ?_
  show Fin p e below s _ _ _ (s₁.setTop (mkF m 96 #[.val (.int p1)] [(.int (10 : Int32)), (.int p1)]))
  refine Fin.step (fun _ => XS.icmpYes X0.here hx rfl (pc0 := 96) (pc' := 103) rfl (hb hby d1_96) rfl (feq ((by rw [hp]; decide) : ¬ (p1 = (10 : Int32)))).2 (by decide) (by decide)) ?_
  show Fin p e below s _ _ _ (s₁.setTop (mkF m 103 #[.val (.int p1)] []))
  refine Fin.step (fun _ => XS.iloadN X0.here hx rfl (hb hby d1_103) rfl) ?_
  show Fin p e below s _ _ _ (s₁.setTop (mkF m 104 #[.val (.int p1)] [(.int p1)]))
  refine Fin.step (fun _ => XS.bipush X0.here hx rfl (hb hby d1_104)) ?_
  show Fin p e below s _ _ _ (s₁.setTop (mkF m 106 #[.val (.int p1)] [(.int (11 : Int32)), (.int p1)]))
  refine Fin.step (fun _ => XS.icmpYes X0.here hx rfl (pc0 := 106) (pc' := 113) rfl (hb hby d1_106) rfl (feq ((by rw [hp]; decide) : ¬ (p1 = (11 : Int32)))).2 (by decide) (by decide)) ?_
  show Fin p e below s _ _ _ (s₁.setTop (mkF m 113 #[.val (.int p1)] []))
  refine Fin.step (fun _ => XS.iloadN X0.here hx rfl (hb hby d1_113) rfl) ?_
  show Fin p e below s _ _ _ (s₁.setTop (mkF m 114 #[.val (.int p1)] [(.int p1)]))
  refine Fin.step (fun _ => XS.bipush X0.here hx rfl (hb hby d1_114)) ?_
  show Fin p e below s _ _ _ (s₁.setTop (mkF m 116 #[.val (.int p1)] [(.int (12 : Int32)), (.int p1)]))
  refine Fin.step (fun _ => XS.icmpNo X0.here hx rfl (hb hby d1_116) rfl (teq (hp : (p1 = (12 : Int32)))).2) ?_
  show Fin p e below s _ _ _ (s₁.setTop (mkF m 119 #[.val (.int p1)] []))
  obtain ⟨Ty1, Xy1, ey1, sty1⟩ := getS2 X0 hx hZ hown (host := "") (Or.inl (hw _ (List.mem_of_getElem? (i := 30) rfl))) Via.refl e0 HS_com_example_wicketgate_wicketgate_core_lds_LdsFile_DG12 (g := (mkF m 119 #[.val (.int p1)] [])) rfl (hb hby d1_119)
  refine Fin.step (sty1) ?_
  show Fin p e below s _ _ _ (Ty1.setTop (mkF m 122 #[.val (.int p1)] [(.ref o1)]))
  refine Fin.retR Xy1 hx hret rfl rfl hlk (hb hby d1_122) (by decide) (by decide) ?_
  show Qp12 Z p1 o1 h0 n0 _ Ty1.heap _
  rw [ey1]
  exact ⟨rfl, N0, rfl⟩
theorem ef_rmp13 (m : MethodId) (x0 : Int32) : entryFrame m #[(.int x0)] 1 = mkF m 0 #[.val (.int x0)] [] := by first | (simp [entryFrame, mkF, argsToLocals, Value.category]; done) | rfl
def Qp13 (Z : State) (p1 : Int32) (o1 : Addr) (h0 : Heap) (n0 : Nat) (v : Option Value) (h : Heap) (L : List Loc) : Prop := v = some (.ref o1) ∧ Fr n0 L ∧ h = h0
set_option maxRecDepth 65536 in
set_option maxHeartbeats 40000000 in
theorem rmp13 (l : Launch) (Z : State) (a0 : Array Value) (hw : ∀ d ∈ tables_1, d.before a0 Z = true) (ws : List Jvm.Cond) (p1 : Int32) (o1 : Addr) (h0 : Heap) (n0 : Nat) (Z0 : n0 ≤ h0.size) (HS_com_example_wicketgate_wicketgate_core_lds_LdsFile_DG13 : Sta Z h0 "com/example/wicketgate/wicketgate/core/lds/LdsFile" "DG13" "Lcom/example/wicketgate/wicketgate/core/lds/LdsFile;" (.ref o1)) (hp : p1 = (13 : Int32)) :
    MetFree l (⟨"com/example/wicketgate/wicketgate/core/lds/LdsFileIsDataGroupPinLaw", "pick", "(I)Lcom/example/wicketgate/wicketgate/core/lds/LdsFile;"⟩ : MethodName) (head1 (Jvm.Cond.code (⟨"com/example/wicketgate/wicketgate/core/lds/LdsFileIsDataGroupPinLaw", "pick", "(I)Lcom/example/wicketgate/wicketgate/core/lds/LdsFile;"⟩ : MethodName) method_2_code 1 (some (.object "com/example/wicketgate/wicketgate/core/lds/LdsFile")) :: ws) ({ frames := 0, cells := 0, slots := 0, locals := 0 } : Room)) (fun a U => a = #[(.int p1)] ∧ Z.Warmed39 U.vm ∧ U.heap = h0) (fun _ _ _ _ _ => True) (fun _ U o U' => ∃ v L, o = .returned v ∧ Qp13 Z p1 o1 h0 n0 v U'.heap L ∧ FrameEnd U o U' L ({ frames := 0, cells := 0, slots := 0, locals := 0 } : Room).cells ({ frames := 0, cells := 0, slots := 0, locals := 0 } : Room).slots) := by
  refine MetFree.of_bodySF (plainFor_of_name pn_1) hisR ?_
  intro p e s m args below meth c s₁ Bd hml0 hP hK
  obtain ⟨rfl, hZ, hh⟩ := hP
  have hx := Bd.exec
  have hby := Bd.bytes
  have hlk := BodyLoose.notSynchronized Bd
  have hret := Bd.returns
  have hml : c.maxLocals = 1 := hml0
  have hown : s.vm.findClass "com/example/wicketgate/wicketgate/core/lds/LdsFileIsDataGroupPinLaw" = some m.cls := findClass_of_methodNamed Bd.named
  have hnm := (name_of_methodNamed Bd.named Bd.method).1
  have X0 : Stand p l e ({ frames := 0, cells := 0, slots := 0, locals := 0 } : Room) s m #[(.int p1)] below meth c s₁ [] 0 0 := Stand.of_body Bd
  have e0 : s₁.heap = h0 := by rw [← hh, Bd.state]; rfl
  have N0 := Fr.nil n0
  have K0 : Keep h0 h0 [] := Keep.refl h0 _
  refine Fin.step (Q := fun v h L => Qp13 Z p1 o1 h0 n0 v h L) (st' := s₁.setTop (mkF m 0 #[.val (.int p1)] [])) (fun t k => castTop (ef_rmp13 m p1) k) ?_
  show Fin p e below s _ _ _ (s₁.setTop (mkF m 0 #[.val (.int p1)] []))
  refine Fin.step (fun _ => XS.iloadN X0.here hx rfl (hb hby d1_0) rfl) ?_
  show Fin p e below s _ _ _ (s₁.setTop (mkF m 1 #[.val (.int p1)] [(.int p1)]))
  refine Fin.step (fun _ => XS.ifYes X0.here hx rfl (pc0 := 1) (pc' := 8) rfl (hb hby d1_1) rfl ((if0 _ _).trans (feq ((by rw [hp]; decide) : ¬ (p1 = (0 : Int32)))).2) (by decide) (by decide)) ?_
  show Fin p e below s _ _ _ (s₁.setTop (mkF m 8 #[.val (.int p1)] []))
  refine Fin.step (fun _ => XS.iloadN X0.here hx rfl (hb hby d1_8) rfl) ?_
  show Fin p e below s _ _ _ (s₁.setTop (mkF m 9 #[.val (.int p1)] [(.int p1)]))
  refine Fin.step (fun _ => XS.iconst X0.here hx rfl (hb hby d1_9)) ?_
  show Fin p e below s _ _ _ (s₁.setTop (mkF m 10 #[.val (.int p1)] [(.int (1 : Int32)), (.int p1)]))
  refine Fin.step (fun _ => XS.icmpYes X0.here hx rfl (pc0 := 10) (pc' := 17) rfl (hb hby d1_10) rfl (feq ((by rw [hp]; decide) : ¬ (p1 = (1 : Int32)))).2 (by decide) (by decide)) ?_
  show Fin p e below s _ _ _ (s₁.setTop (mkF m 17 #[.val (.int p1)] []))
  refine Fin.step (fun _ => XS.iloadN X0.here hx rfl (hb hby d1_17) rfl) ?_
  show Fin p e below s _ _ _ (s₁.setTop (mkF m 18 #[.val (.int p1)] [(.int p1)]))
  refine Fin.step (fun _ => XS.iconst X0.here hx rfl (hb hby d1_18)) ?_
  show Fin p e below s _ _ _ (s₁.setTop (mkF m 19 #[.val (.int p1)] [(.int (2 : Int32)), (.int p1)]))
  refine Fin.step (fun _ => XS.icmpYes X0.here hx rfl (pc0 := 19) (pc' := 26) rfl (hb hby d1_19) rfl (feq ((by rw [hp]; decide) : ¬ (p1 = (2 : Int32)))).2 (by decide) (by decide)) ?_
  show Fin p e below s _ _ _ (s₁.setTop (mkF m 26 #[.val (.int p1)] []))
  refine Fin.step (fun _ => XS.iloadN X0.here hx rfl (hb hby d1_26) rfl) ?_
  show Fin p e below s _ _ _ (s₁.setTop (mkF m 27 #[.val (.int p1)] [(.int p1)]))
  refine Fin.step (fun _ => XS.iconst X0.here hx rfl (hb hby d1_27)) ?_
  show Fin p e below s _ _ _ (s₁.setTop (mkF m 28 #[.val (.int p1)] [(.int (3 : Int32)), (.int p1)]))
  refine Fin.step (fun _ => XS.icmpYes X0.here hx rfl (pc0 := 28) (pc' := 35) rfl (hb hby d1_28) rfl (feq ((by rw [hp]; decide) : ¬ (p1 = (3 : Int32)))).2 (by decide) (by decide)) ?_
  show Fin p e below s _ _ _ (s₁.setTop (mkF m 35 #[.val (.int p1)] []))
  refine Fin.step (fun _ => XS.iloadN X0.here hx rfl (hb hby d1_35) rfl) ?_
  show Fin p e below s _ _ _ (s₁.setTop (mkF m 36 #[.val (.int p1)] [(.int p1)]))
  refine Fin.step (fun _ => XS.iconst X0.here hx rfl (hb hby d1_36)) ?_
  show Fin p e below s _ _ _ (s₁.setTop (mkF m 37 #[.val (.int p1)] [(.int (4 : Int32)), (.int p1)]))
  refine Fin.step (fun _ => XS.icmpYes X0.here hx rfl (pc0 := 37) (pc' := 44) rfl (hb hby d1_37) rfl (feq ((by rw [hp]; decide) : ¬ (p1 = (4 : Int32)))).2 (by decide) (by decide)) ?_
  show Fin p e below s _ _ _ (s₁.setTop (mkF m 44 #[.val (.int p1)] []))
  refine Fin.step (fun _ => XS.iloadN X0.here hx rfl (hb hby d1_44) rfl) ?_
  show Fin p e below s _ _ _ (s₁.setTop (mkF m 45 #[.val (.int p1)] [(.int p1)]))
  refine Fin.step (fun _ => XS.iconst X0.here hx rfl (hb hby d1_45)) ?_
  show Fin p e below s _ _ _ (s₁.setTop (mkF m 46 #[.val (.int p1)] [(.int (5 : Int32)), (.int p1)]))
  refine Fin.step (fun _ => XS.icmpYes X0.here hx rfl (pc0 := 46) (pc' := 53) rfl (hb hby d1_46) rfl (feq ((by rw [hp]; decide) : ¬ (p1 = (5 : Int32)))).2 (by decide) (by decide)) ?_
  show Fin p e below s _ _ _ (s₁.setTop (mkF m 53 #[.val (.int p1)] []))
  refine Fin.step (fun _ => XS.iloadN X0.here hx rfl (hb hby d1_53) rfl) ?_
  show Fin p e below s _ _ _ (s₁.setTop (mkF m 54 #[.val (.int p1)] [(.int p1)]))
  refine Fin.step (fun _ => XS.bipush X0.here hx rfl (hb hby d1_54)) ?_
  show Fin p e below s _ _ _ (s₁.setTop (mkF m 56 #[.val (.int p1)] [(.int (6 : Int32)), (.int p1)]))
  refine Fin.step (fun _ => XS.icmpYes X0.here hx rfl (pc0 := 56) (pc' := 63) rfl (hb hby d1_56) rfl (feq ((by rw [hp]; decide) : ¬ (p1 = (6 : Int32)))).2 (by decide) (by decide)) ?_
  show Fin p e below s _ _ _ (s₁.setTop (mkF m 63 #[.val (.int p1)] []))
  refine Fin.step (fun _ => XS.iloadN X0.here hx rfl (hb hby d1_63) rfl) ?_
  show Fin p e below s _ _ _ (s₁.setTop (mkF m 64 #[.val (.int p1)] [(.int p1)]))
  refine Fin.step (fun _ => XS.bipush X0.here hx rfl (hb hby d1_64)) ?_
  show Fin p e below s _ _ _ (s₁.setTop (mkF m 66 #[.val (.int p1)] [(.int (7 : Int32)), (.int p1)]))
  refine Fin.step (fun _ => XS.icmpYes X0.here hx rfl (pc0 := 66) (pc' := 73) rfl (hb hby d1_66) rfl (feq ((by rw [hp]; decide) : ¬ (p1 = (7 : Int32)))).2 (by decide) (by decide)) ?_
  show Fin p e below s _ _ _ (s₁.setTop (mkF m 73 #[.val (.int p1)] []))
  refine Fin.step (fun _ => XS.iloadN X0.here hx rfl (hb hby d1_73) rfl) ?_
  show Fin p e below s _ _ _ (s₁.setTop (mkF m 74 #[.val (.int p1)] [(.int p1)]))
  refine Fin.step (fun _ => XS.bipush X0.here hx rfl (hb hby d1_74)) ?_
  show Fin p e below s _ _ _ (s₁.setTop (mkF m 76 #[.val (.int p1)] [(.int (8 : Int32)), (.int p1)]))
  refine Fin.step (fun _ => XS.icmpYes X0.here hx rfl (pc0 := 76) (pc' := 83) rfl (hb hby d1_76) rfl (feq ((by rw [hp]; decide) : ¬ (p1 = (8 : Int32)))).2 (by decide) (by decide)) ?_
  show Fin p e below s _ _ _ (s₁.setTop (mkF m 83 #[.val (.int p1)] []))
  refine Fin.step (fun _ => XS.iloadN X0.here hx rfl (hb hby d1_83) rfl) ?_
  show Fin p e below s _ _ _ (s₁.setTop (mkF m 84 #[.val (.int p1)] [(.int p1)]))
  refine Fin.step (fun _ => XS.bipush X0.here hx rfl (hb hby d1_84)) ?_
  show Fin p e below s _ _ _ (s₁.setTop (mkF m 86 #[.val (.int p1)] [(.int (9 : Int32)), (.int p1)]))
  refine Fin.step (fun _ => XS.icmpYes X0.here hx rfl (pc0 := 86) (pc' := 93) rfl (hb hby d1_86) rfl (feq ((by rw [hp]; decide) : ¬ (p1 = (9 : Int32)))).2 (by decide) (by decide)) ?_
  show Fin p e below s _ _ _ (s₁.setTop (mkF m 93 #[.val (.int p1)] []))
  refine Fin.step (fun _ => XS.iloadN X0.here hx rfl (hb hby d1_93) rfl) ?_
  show Fin p e below s _ _ _ (s₁.setTop (mkF m 94 #[.val (.int p1)] [(.int p1)]))
  refine Fin.step (fun _ => XS.bipush X0.here hx rfl (hb hby d1_94)) ?_
  show Fin p e below s _ _ _ (s₁.setTop (mkF m 96 #[.val (.int p1)] [(.int (10 : Int32)), (.int p1)]))
  refine Fin.step (fun _ => XS.icmpYes X0.here hx rfl (pc0 := 96) (pc' := 103) rfl (hb hby d1_96) rfl (feq ((by rw [hp]; decide) : ¬ (p1 = (10 : Int32)))).2 (by decide) (by decide)) ?_
  show Fin p e below s _ _ _ (s₁.setTop (mkF m 103 #[.val (.int p1)] []))
  refine Fin.step (fun _ => XS.iloadN X0.here hx rfl (hb hby d1_103) rfl) ?_
  show Fin p e below s _ _ _ (s₁.setTop (mkF m 104 #[.val (.int p1)] [(.int p1)]))
  refine Fin.step (fun _ => XS.bipush X0.here hx rfl (hb hby d1_104)) ?_
  show Fin p e below s _ _ _ (s₁.setTop (mkF m 106 #[.val (.int p1)] [(.int (11 : Int32)), (.int p1)]))
  refine Fin.step (fun _ => XS.icmpYes X0.here hx rfl (pc0 := 106) (pc' := 113) rfl (hb hby d1_106) rfl (feq ((by rw [hp]; decide) : ¬ (p1 = (11 : Int32)))).2 (by decide) (by decide)) ?_
  show Fin p e below s _ _ _ (s₁.setTop (mkF m 113 #[.val (.int p1)] []))
  refine Fin.step (fun _ => XS.iloadN X0.here hx rfl (hb hby d1_113) rfl) ?_
  show Fin p e below s _ _ _ (s₁.setTop (mkF m 114 #[.val (.int p1)] [(.int p1)]))
  refine Fin.step (fun _ => XS.bipush X0.here hx rfl (hb hby d1_114)) ?_
  show Fin p e below s _ _ _ (s₁.setTop (mkF m 116 #[.val (.int p1)] [(.int (12 : Int32)), (.int p1)]))
  refine Fin.step (fun _ => XS.icmpYes X0.here hx rfl (pc0 := 116) (pc' := 123) rfl (hb hby d1_116) rfl (feq ((by rw [hp]; decide) : ¬ (p1 = (12 : Int32)))).2 (by decide) (by decide)) ?_
  show Fin p e below s _ _ _ (s₁.setTop (mkF m 123 #[.val (.int p1)] []))
  refine Fin.step (fun _ => XS.iloadN X0.here hx rfl (hb hby d1_123) rfl) ?_
  show Fin p e below s _ _ _ (s₁.setTop (mkF m 124 #[.val (.int p1)] [(.int p1)]))
  refine Fin.step (fun _ => XS.bipush X0.here hx rfl (hb hby d1_124)) ?_
  show Fin p e below s _ _ _ (s₁.setTop (mkF m 126 #[.val (.int p1)] [(.int (13 : Int32)), (.int p1)]))
  refine Fin.step (fun _ => XS.icmpNo X0.here hx rfl (hb hby d1_126) rfl (teq (hp : (p1 = (13 : Int32)))).2) ?_
  show Fin p e below s _ _ _ (s₁.setTop (mkF m 129 #[.val (.int p1)] []))
  obtain ⟨Ty1, Xy1, ey1, sty1⟩ := getS2 X0 hx hZ hown (host := "") (Or.inl (hw _ (List.mem_of_getElem? (i := 38) rfl))) Via.refl e0 HS_com_example_wicketgate_wicketgate_core_lds_LdsFile_DG13 (g := (mkF m 129 #[.val (.int p1)] [])) rfl (hb hby d1_129)
  refine Fin.step (sty1) ?_
  show Fin p e below s _ _ _ (Ty1.setTop (mkF m 132 #[.val (.int p1)] [(.ref o1)]))
  refine Fin.retR Xy1 hx hret rfl rfl hlk (hb hby d1_132) (by decide) (by decide) ?_
  show Qp13 Z p1 o1 h0 n0 _ Ty1.heap _
  rw [ey1]
  exact ⟨rfl, N0, rfl⟩
theorem ef_rmp14 (m : MethodId) (x0 : Int32) : entryFrame m #[(.int x0)] 1 = mkF m 0 #[.val (.int x0)] [] := by first | (simp [entryFrame, mkF, argsToLocals, Value.category]; done) | rfl
def Qp14 (Z : State) (p1 : Int32) (o1 : Addr) (h0 : Heap) (n0 : Nat) (v : Option Value) (h : Heap) (L : List Loc) : Prop := v = some (.ref o1) ∧ Fr n0 L ∧ h = h0
set_option maxRecDepth 65536 in
set_option maxHeartbeats 40000000 in
theorem rmp14 (l : Launch) (Z : State) (a0 : Array Value) (hw : ∀ d ∈ tables_1, d.before a0 Z = true) (ws : List Jvm.Cond) (p1 : Int32) (o1 : Addr) (h0 : Heap) (n0 : Nat) (Z0 : n0 ≤ h0.size) (HS_com_example_wicketgate_wicketgate_core_lds_LdsFile_DG14 : Sta Z h0 "com/example/wicketgate/wicketgate/core/lds/LdsFile" "DG14" "Lcom/example/wicketgate/wicketgate/core/lds/LdsFile;" (.ref o1)) (hp : p1 = (14 : Int32)) :
    MetFree l (⟨"com/example/wicketgate/wicketgate/core/lds/LdsFileIsDataGroupPinLaw", "pick", "(I)Lcom/example/wicketgate/wicketgate/core/lds/LdsFile;"⟩ : MethodName) (head1 (Jvm.Cond.code (⟨"com/example/wicketgate/wicketgate/core/lds/LdsFileIsDataGroupPinLaw", "pick", "(I)Lcom/example/wicketgate/wicketgate/core/lds/LdsFile;"⟩ : MethodName) method_2_code 1 (some (.object "com/example/wicketgate/wicketgate/core/lds/LdsFile")) :: ws) ({ frames := 0, cells := 0, slots := 0, locals := 0 } : Room)) (fun a U => a = #[(.int p1)] ∧ Z.Warmed39 U.vm ∧ U.heap = h0) (fun _ _ _ _ _ => True) (fun _ U o U' => ∃ v L, o = .returned v ∧ Qp14 Z p1 o1 h0 n0 v U'.heap L ∧ FrameEnd U o U' L ({ frames := 0, cells := 0, slots := 0, locals := 0 } : Room).cells ({ frames := 0, cells := 0, slots := 0, locals := 0 } : Room).slots) := by
  refine MetFree.of_bodySF (plainFor_of_name pn_1) hisR ?_
  intro p e s m args below meth c s₁ Bd hml0 hP hK
  obtain ⟨rfl, hZ, hh⟩ := hP
  have hx := Bd.exec
  have hby := Bd.bytes
  have hlk := BodyLoose.notSynchronized Bd
  have hret := Bd.returns
  have hml : c.maxLocals = 1 := hml0
  have hown : s.vm.findClass "com/example/wicketgate/wicketgate/core/lds/LdsFileIsDataGroupPinLaw" = some m.cls := findClass_of_methodNamed Bd.named
  have hnm := (name_of_methodNamed Bd.named Bd.method).1
  have X0 : Stand p l e ({ frames := 0, cells := 0, slots := 0, locals := 0 } : Room) s m #[(.int p1)] below meth c s₁ [] 0 0 := Stand.of_body Bd
  have e0 : s₁.heap = h0 := by rw [← hh, Bd.state]; rfl
  have N0 := Fr.nil n0
  have K0 : Keep h0 h0 [] := Keep.refl h0 _
  refine Fin.step (Q := fun v h L => Qp14 Z p1 o1 h0 n0 v h L) (st' := s₁.setTop (mkF m 0 #[.val (.int p1)] [])) (fun t k => castTop (ef_rmp14 m p1) k) ?_
  show Fin p e below s _ _ _ (s₁.setTop (mkF m 0 #[.val (.int p1)] []))
  refine Fin.step (fun _ => XS.iloadN X0.here hx rfl (hb hby d1_0) rfl) ?_
  show Fin p e below s _ _ _ (s₁.setTop (mkF m 1 #[.val (.int p1)] [(.int p1)]))
  refine Fin.step (fun _ => XS.ifYes X0.here hx rfl (pc0 := 1) (pc' := 8) rfl (hb hby d1_1) rfl ((if0 _ _).trans (feq ((by rw [hp]; decide) : ¬ (p1 = (0 : Int32)))).2) (by decide) (by decide)) ?_
  show Fin p e below s _ _ _ (s₁.setTop (mkF m 8 #[.val (.int p1)] []))
  refine Fin.step (fun _ => XS.iloadN X0.here hx rfl (hb hby d1_8) rfl) ?_
  show Fin p e below s _ _ _ (s₁.setTop (mkF m 9 #[.val (.int p1)] [(.int p1)]))
  refine Fin.step (fun _ => XS.iconst X0.here hx rfl (hb hby d1_9)) ?_
  show Fin p e below s _ _ _ (s₁.setTop (mkF m 10 #[.val (.int p1)] [(.int (1 : Int32)), (.int p1)]))
  refine Fin.step (fun _ => XS.icmpYes X0.here hx rfl (pc0 := 10) (pc' := 17) rfl (hb hby d1_10) rfl (feq ((by rw [hp]; decide) : ¬ (p1 = (1 : Int32)))).2 (by decide) (by decide)) ?_
  show Fin p e below s _ _ _ (s₁.setTop (mkF m 17 #[.val (.int p1)] []))
  refine Fin.step (fun _ => XS.iloadN X0.here hx rfl (hb hby d1_17) rfl) ?_
  show Fin p e below s _ _ _ (s₁.setTop (mkF m 18 #[.val (.int p1)] [(.int p1)]))
  refine Fin.step (fun _ => XS.iconst X0.here hx rfl (hb hby d1_18)) ?_
  show Fin p e below s _ _ _ (s₁.setTop (mkF m 19 #[.val (.int p1)] [(.int (2 : Int32)), (.int p1)]))
  refine Fin.step (fun _ => XS.icmpYes X0.here hx rfl (pc0 := 19) (pc' := 26) rfl (hb hby d1_19) rfl (feq ((by rw [hp]; decide) : ¬ (p1 = (2 : Int32)))).2 (by decide) (by decide)) ?_
  show Fin p e below s _ _ _ (s₁.setTop (mkF m 26 #[.val (.int p1)] []))
  refine Fin.step (fun _ => XS.iloadN X0.here hx rfl (hb hby d1_26) rfl) ?_
  show Fin p e below s _ _ _ (s₁.setTop (mkF m 27 #[.val (.int p1)] [(.int p1)]))
  refine Fin.step (fun _ => XS.iconst X0.here hx rfl (hb hby d1_27)) ?_
  show Fin p e below s _ _ _ (s₁.setTop (mkF m 28 #[.val (.int p1)] [(.int (3 : Int32)), (.int p1)]))
  refine Fin.step (fun _ => XS.icmpYes X0.here hx rfl (pc0 := 28) (pc' := 35) rfl (hb hby d1_28) rfl (feq ((by rw [hp]; decide) : ¬ (p1 = (3 : Int32)))).2 (by decide) (by decide)) ?_
  show Fin p e below s _ _ _ (s₁.setTop (mkF m 35 #[.val (.int p1)] []))
  refine Fin.step (fun _ => XS.iloadN X0.here hx rfl (hb hby d1_35) rfl) ?_
  show Fin p e below s _ _ _ (s₁.setTop (mkF m 36 #[.val (.int p1)] [(.int p1)]))
  refine Fin.step (fun _ => XS.iconst X0.here hx rfl (hb hby d1_36)) ?_
  show Fin p e below s _ _ _ (s₁.setTop (mkF m 37 #[.val (.int p1)] [(.int (4 : Int32)), (.int p1)]))
  refine Fin.step (fun _ => XS.icmpYes X0.here hx rfl (pc0 := 37) (pc' := 44) rfl (hb hby d1_37) rfl (feq ((by rw [hp]; decide) : ¬ (p1 = (4 : Int32)))).2 (by decide) (by decide)) ?_
  show Fin p e below s _ _ _ (s₁.setTop (mkF m 44 #[.val (.int p1)] []))
  refine Fin.step (fun _ => XS.iloadN X0.here hx rfl (hb hby d1_44) rfl) ?_
  show Fin p e below s _ _ _ (s₁.setTop (mkF m 45 #[.val (.int p1)] [(.int p1)]))
  refine Fin.step (fun _ => XS.iconst X0.here hx rfl (hb hby d1_45)) ?_
  show Fin p e below s _ _ _ (s₁.setTop (mkF m 46 #[.val (.int p1)] [(.int (5 : Int32)), (.int p1)]))
  refine Fin.step (fun _ => XS.icmpYes X0.here hx rfl (pc0 := 46) (pc' := 53) rfl (hb hby d1_46) rfl (feq ((by rw [hp]; decide) : ¬ (p1 = (5 : Int32)))).2 (by decide) (by decide)) ?_
  show Fin p e below s _ _ _ (s₁.setTop (mkF m 53 #[.val (.int p1)] []))
  refine Fin.step (fun _ => XS.iloadN X0.here hx rfl (hb hby d1_53) rfl) ?_
  show Fin p e below s _ _ _ (s₁.setTop (mkF m 54 #[.val (.int p1)] [(.int p1)]))
  refine Fin.step (fun _ => XS.bipush X0.here hx rfl (hb hby d1_54)) ?_
  show Fin p e below s _ _ _ (s₁.setTop (mkF m 56 #[.val (.int p1)] [(.int (6 : Int32)), (.int p1)]))
  refine Fin.step (fun _ => XS.icmpYes X0.here hx rfl (pc0 := 56) (pc' := 63) rfl (hb hby d1_56) rfl (feq ((by rw [hp]; decide) : ¬ (p1 = (6 : Int32)))).2 (by decide) (by decide)) ?_
  show Fin p e below s _ _ _ (s₁.setTop (mkF m 63 #[.val (.int p1)] []))
  refine Fin.step (fun _ => XS.iloadN X0.here hx rfl (hb hby d1_63) rfl) ?_
  show Fin p e below s _ _ _ (s₁.setTop (mkF m 64 #[.val (.int p1)] [(.int p1)]))
  refine Fin.step (fun _ => XS.bipush X0.here hx rfl (hb hby d1_64)) ?_
  show Fin p e below s _ _ _ (s₁.setTop (mkF m 66 #[.val (.int p1)] [(.int (7 : Int32)), (.int p1)]))
  refine Fin.step (fun _ => XS.icmpYes X0.here hx rfl (pc0 := 66) (pc' := 73) rfl (hb hby d1_66) rfl (feq ((by rw [hp]; decide) : ¬ (p1 = (7 : Int32)))).2 (by decide) (by decide)) ?_
  show Fin p e below s _ _ _ (s₁.setTop (mkF m 73 #[.val (.int p1)] []))
  refine Fin.step (fun _ => XS.iloadN X0.here hx rfl (hb hby d1_73) rfl) ?_
  show Fin p e below s _ _ _ (s₁.setTop (mkF m 74 #[.val (.int p1)] [(.int p1)]))
  refine Fin.step (fun _ => XS.bipush X0.here hx rfl (hb hby d1_74)) ?_
  show Fin p e below s _ _ _ (s₁.setTop (mkF m 76 #[.val (.int p1)] [(.int (8 : Int32)), (.int p1)]))
  refine Fin.step (fun _ => XS.icmpYes X0.here hx rfl (pc0 := 76) (pc' := 83) rfl (hb hby d1_76) rfl (feq ((by rw [hp]; decide) : ¬ (p1 = (8 : Int32)))).2 (by decide) (by decide)) ?_
  show Fin p e below s _ _ _ (s₁.setTop (mkF m 83 #[.val (.int p1)] []))
  refine Fin.step (fun _ => XS.iloadN X0.here hx rfl (hb hby d1_83) rfl) ?_
  show Fin p e below s _ _ _ (s₁.setTop (mkF m 84 #[.val (.int p1)] [(.int p1)]))
  refine Fin.step (fun _ => XS.bipush X0.here hx rfl (hb hby d1_84)) ?_
  show Fin p e below s _ _ _ (s₁.setTop (mkF m 86 #[.val (.int p1)] [(.int (9 : Int32)), (.int p1)]))
  refine Fin.step (fun _ => XS.icmpYes X0.here hx rfl (pc0 := 86) (pc' := 93) rfl (hb hby d1_86) rfl (feq ((by rw [hp]; decide) : ¬ (p1 = (9 : Int32)))).2 (by decide) (by decide)) ?_
  show Fin p e below s _ _ _ (s₁.setTop (mkF m 93 #[.val (.int p1)] []))
  refine Fin.step (fun _ => XS.iloadN X0.here hx rfl (hb hby d1_93) rfl) ?_
  show Fin p e below s _ _ _ (s₁.setTop (mkF m 94 #[.val (.int p1)] [(.int p1)]))
  refine Fin.step (fun _ => XS.bipush X0.here hx rfl (hb hby d1_94)) ?_
  show Fin p e below s _ _ _ (s₁.setTop (mkF m 96 #[.val (.int p1)] [(.int (10 : Int32)), (.int p1)]))
  refine Fin.step (fun _ => XS.icmpYes X0.here hx rfl (pc0 := 96) (pc' := 103) rfl (hb hby d1_96) rfl (feq ((by rw [hp]; decide) : ¬ (p1 = (10 : Int32)))).2 (by decide) (by decide)) ?_
  show Fin p e below s _ _ _ (s₁.setTop (mkF m 103 #[.val (.int p1)] []))
  refine Fin.step (fun _ => XS.iloadN X0.here hx rfl (hb hby d1_103) rfl) ?_
  show Fin p e below s _ _ _ (s₁.setTop (mkF m 104 #[.val (.int p1)] [(.int p1)]))
  refine Fin.step (fun _ => XS.bipush X0.here hx rfl (hb hby d1_104)) ?_
  show Fin p e below s _ _ _ (s₁.setTop (mkF m 106 #[.val (.int p1)] [(.int (11 : Int32)), (.int p1)]))
  refine Fin.step (fun _ => XS.icmpYes X0.here hx rfl (pc0 := 106) (pc' := 113) rfl (hb hby d1_106) rfl (feq ((by rw [hp]; decide) : ¬ (p1 = (11 : Int32)))).2 (by decide) (by decide)) ?_
  show Fin p e below s _ _ _ (s₁.setTop (mkF m 113 #[.val (.int p1)] []))
  refine Fin.step (fun _ => XS.iloadN X0.here hx rfl (hb hby d1_113) rfl) ?_
  show Fin p e below s _ _ _ (s₁.setTop (mkF m 114 #[.val (.int p1)] [(.int p1)]))
  refine Fin.step (fun _ => XS.bipush X0.here hx rfl (hb hby d1_114)) ?_
  show Fin p e below s _ _ _ (s₁.setTop (mkF m 116 #[.val (.int p1)] [(.int (12 : Int32)), (.int p1)]))
  refine Fin.step (fun _ => XS.icmpYes X0.here hx rfl (pc0 := 116) (pc' := 123) rfl (hb hby d1_116) rfl (feq ((by rw [hp]; decide) : ¬ (p1 = (12 : Int32)))).2 (by decide) (by decide)) ?_
  show Fin p e below s _ _ _ (s₁.setTop (mkF m 123 #[.val (.int p1)] []))
  refine Fin.step (fun _ => XS.iloadN X0.here hx rfl (hb hby d1_123) rfl) ?_
  show Fin p e below s _ _ _ (s₁.setTop (mkF m 124 #[.val (.int p1)] [(.int p1)]))
  refine Fin.step (fun _ => XS.bipush X0.here hx rfl (hb hby d1_124)) ?_
  show Fin p e below s _ _ _ (s₁.setTop (mkF m 126 #[.val (.int p1)] [(.int (13 : Int32)), (.int p1)]))
  refine Fin.step (fun _ => XS.icmpYes X0.here hx rfl (pc0 := 126) (pc' := 133) rfl (hb hby d1_126) rfl (feq ((by rw [hp]; decide) : ¬ (p1 = (13 : Int32)))).2 (by decide) (by decide)) ?_
  show Fin p e below s _ _ _ (s₁.setTop (mkF m 133 #[.val (.int p1)] []))
  refine Fin.step (fun _ => XS.iloadN X0.here hx rfl (hb hby d1_133) rfl) ?_
  show Fin p e below s _ _ _ (s₁.setTop (mkF m 134 #[.val (.int p1)] [(.int p1)]))
  refine Fin.step (fun _ => XS.bipush X0.here hx rfl (hb hby d1_134)) ?_
  show Fin p e below s _ _ _ (s₁.setTop (mkF m 136 #[.val (.int p1)] [(.int (14 : Int32)), (.int p1)]))
  refine Fin.step (fun _ => XS.icmpNo X0.here hx rfl (hb hby d1_136) rfl (teq (hp : (p1 = (14 : Int32)))).2) ?_
  show Fin p e below s _ _ _ (s₁.setTop (mkF m 139 #[.val (.int p1)] []))
  obtain ⟨Ty1, Xy1, ey1, sty1⟩ := getS2 X0 hx hZ hown (host := "") (Or.inl (hw _ (List.mem_of_getElem? (i := 43) rfl))) Via.refl e0 HS_com_example_wicketgate_wicketgate_core_lds_LdsFile_DG14 (g := (mkF m 139 #[.val (.int p1)] [])) rfl (hb hby d1_139)
  refine Fin.step (sty1) ?_
  show Fin p e below s _ _ _ (Ty1.setTop (mkF m 142 #[.val (.int p1)] [(.ref o1)]))
  refine Fin.retR Xy1 hx hret rfl rfl hlk (hb hby d1_142) (by decide) (by decide) ?_
  show Qp14 Z p1 o1 h0 n0 _ Ty1.heap _
  rw [ey1]
  exact ⟨rfl, N0, rfl⟩
theorem ef_rmp15 (m : MethodId) (x0 : Int32) : entryFrame m #[(.int x0)] 1 = mkF m 0 #[.val (.int x0)] [] := by first | (simp [entryFrame, mkF, argsToLocals, Value.category]; done) | rfl
def Qp15 (Z : State) (p1 : Int32) (o1 : Addr) (h0 : Heap) (n0 : Nat) (v : Option Value) (h : Heap) (L : List Loc) : Prop := v = some (.ref o1) ∧ Fr n0 L ∧ h = h0
set_option maxRecDepth 65536 in
set_option maxHeartbeats 40000000 in
theorem rmp15 (l : Launch) (Z : State) (a0 : Array Value) (hw : ∀ d ∈ tables_1, d.before a0 Z = true) (ws : List Jvm.Cond) (p1 : Int32) (o1 : Addr) (h0 : Heap) (n0 : Nat) (Z0 : n0 ≤ h0.size) (HS_com_example_wicketgate_wicketgate_core_lds_LdsFile_DG15 : Sta Z h0 "com/example/wicketgate/wicketgate/core/lds/LdsFile" "DG15" "Lcom/example/wicketgate/wicketgate/core/lds/LdsFile;" (.ref o1)) (hp : p1 = (15 : Int32)) :
    MetFree l (⟨"com/example/wicketgate/wicketgate/core/lds/LdsFileIsDataGroupPinLaw", "pick", "(I)Lcom/example/wicketgate/wicketgate/core/lds/LdsFile;"⟩ : MethodName) (head1 (Jvm.Cond.code (⟨"com/example/wicketgate/wicketgate/core/lds/LdsFileIsDataGroupPinLaw", "pick", "(I)Lcom/example/wicketgate/wicketgate/core/lds/LdsFile;"⟩ : MethodName) method_2_code 1 (some (.object "com/example/wicketgate/wicketgate/core/lds/LdsFile")) :: ws) ({ frames := 0, cells := 0, slots := 0, locals := 0 } : Room)) (fun a U => a = #[(.int p1)] ∧ Z.Warmed39 U.vm ∧ U.heap = h0) (fun _ _ _ _ _ => True) (fun _ U o U' => ∃ v L, o = .returned v ∧ Qp15 Z p1 o1 h0 n0 v U'.heap L ∧ FrameEnd U o U' L ({ frames := 0, cells := 0, slots := 0, locals := 0 } : Room).cells ({ frames := 0, cells := 0, slots := 0, locals := 0 } : Room).slots) := by
  refine MetFree.of_bodySF (plainFor_of_name pn_1) hisR ?_
  intro p e s m args below meth c s₁ Bd hml0 hP hK
  obtain ⟨rfl, hZ, hh⟩ := hP
  have hx := Bd.exec
  have hby := Bd.bytes
  have hlk := BodyLoose.notSynchronized Bd
  have hret := Bd.returns
  have hml : c.maxLocals = 1 := hml0
  have hown : s.vm.findClass "com/example/wicketgate/wicketgate/core/lds/LdsFileIsDataGroupPinLaw" = some m.cls := findClass_of_methodNamed Bd.named
  have hnm := (name_of_methodNamed Bd.named Bd.method).1
  have X0 : Stand p l e ({ frames := 0, cells := 0, slots := 0, locals := 0 } : Room) s m #[(.int p1)] below meth c s₁ [] 0 0 := Stand.of_body Bd
  have e0 : s₁.heap = h0 := by rw [← hh, Bd.state]; rfl
  have N0 := Fr.nil n0
  have K0 : Keep h0 h0 [] := Keep.refl h0 _
  refine Fin.step (Q := fun v h L => Qp15 Z p1 o1 h0 n0 v h L) (st' := s₁.setTop (mkF m 0 #[.val (.int p1)] [])) (fun t k => castTop (ef_rmp15 m p1) k) ?_
  show Fin p e below s _ _ _ (s₁.setTop (mkF m 0 #[.val (.int p1)] []))
  refine Fin.step (fun _ => XS.iloadN X0.here hx rfl (hb hby d1_0) rfl) ?_
  show Fin p e below s _ _ _ (s₁.setTop (mkF m 1 #[.val (.int p1)] [(.int p1)]))
  refine Fin.step (fun _ => XS.ifYes X0.here hx rfl (pc0 := 1) (pc' := 8) rfl (hb hby d1_1) rfl ((if0 _ _).trans (feq ((by rw [hp]; decide) : ¬ (p1 = (0 : Int32)))).2) (by decide) (by decide)) ?_
  show Fin p e below s _ _ _ (s₁.setTop (mkF m 8 #[.val (.int p1)] []))
  refine Fin.step (fun _ => XS.iloadN X0.here hx rfl (hb hby d1_8) rfl) ?_
  show Fin p e below s _ _ _ (s₁.setTop (mkF m 9 #[.val (.int p1)] [(.int p1)]))
  refine Fin.step (fun _ => XS.iconst X0.here hx rfl (hb hby d1_9)) ?_
  show Fin p e below s _ _ _ (s₁.setTop (mkF m 10 #[.val (.int p1)] [(.int (1 : Int32)), (.int p1)]))
  refine Fin.step (fun _ => XS.icmpYes X0.here hx rfl (pc0 := 10) (pc' := 17) rfl (hb hby d1_10) rfl (feq ((by rw [hp]; decide) : ¬ (p1 = (1 : Int32)))).2 (by decide) (by decide)) ?_
  show Fin p e below s _ _ _ (s₁.setTop (mkF m 17 #[.val (.int p1)] []))
  refine Fin.step (fun _ => XS.iloadN X0.here hx rfl (hb hby d1_17) rfl) ?_
  show Fin p e below s _ _ _ (s₁.setTop (mkF m 18 #[.val (.int p1)] [(.int p1)]))
  refine Fin.step (fun _ => XS.iconst X0.here hx rfl (hb hby d1_18)) ?_
  show Fin p e below s _ _ _ (s₁.setTop (mkF m 19 #[.val (.int p1)] [(.int (2 : Int32)), (.int p1)]))
  refine Fin.step (fun _ => XS.icmpYes X0.here hx rfl (pc0 := 19) (pc' := 26) rfl (hb hby d1_19) rfl (feq ((by rw [hp]; decide) : ¬ (p1 = (2 : Int32)))).2 (by decide) (by decide)) ?_
  show Fin p e below s _ _ _ (s₁.setTop (mkF m 26 #[.val (.int p1)] []))
  refine Fin.step (fun _ => XS.iloadN X0.here hx rfl (hb hby d1_26) rfl) ?_
  show Fin p e below s _ _ _ (s₁.setTop (mkF m 27 #[.val (.int p1)] [(.int p1)]))
  refine Fin.step (fun _ => XS.iconst X0.here hx rfl (hb hby d1_27)) ?_
  show Fin p e below s _ _ _ (s₁.setTop (mkF m 28 #[.val (.int p1)] [(.int (3 : Int32)), (.int p1)]))
  refine Fin.step (fun _ => XS.icmpYes X0.here hx rfl (pc0 := 28) (pc' := 35) rfl (hb hby d1_28) rfl (feq ((by rw [hp]; decide) : ¬ (p1 = (3 : Int32)))).2 (by decide) (by decide)) ?_
  show Fin p e below s _ _ _ (s₁.setTop (mkF m 35 #[.val (.int p1)] []))
  refine Fin.step (fun _ => XS.iloadN X0.here hx rfl (hb hby d1_35) rfl) ?_
  show Fin p e below s _ _ _ (s₁.setTop (mkF m 36 #[.val (.int p1)] [(.int p1)]))
  refine Fin.step (fun _ => XS.iconst X0.here hx rfl (hb hby d1_36)) ?_
  show Fin p e below s _ _ _ (s₁.setTop (mkF m 37 #[.val (.int p1)] [(.int (4 : Int32)), (.int p1)]))
  refine Fin.step (fun _ => XS.icmpYes X0.here hx rfl (pc0 := 37) (pc' := 44) rfl (hb hby d1_37) rfl (feq ((by rw [hp]; decide) : ¬ (p1 = (4 : Int32)))).2 (by decide) (by decide)) ?_
  show Fin p e below s _ _ _ (s₁.setTop (mkF m 44 #[.val (.int p1)] []))
  refine Fin.step (fun _ => XS.iloadN X0.here hx rfl (hb hby d1_44) rfl) ?_
  show Fin p e below s _ _ _ (s₁.setTop (mkF m 45 #[.val (.int p1)] [(.int p1)]))
  refine Fin.step (fun _ => XS.iconst X0.here hx rfl (hb hby d1_45)) ?_
  show Fin p e below s _ _ _ (s₁.setTop (mkF m 46 #[.val (.int p1)] [(.int (5 : Int32)), (.int p1)]))
  refine Fin.step (fun _ => XS.icmpYes X0.here hx rfl (pc0 := 46) (pc' := 53) rfl (hb hby d1_46) rfl (feq ((by rw [hp]; decide) : ¬ (p1 = (5 : Int32)))).2 (by decide) (by decide)) ?_
  show Fin p e below s _ _ _ (s₁.setTop (mkF m 53 #[.val (.int p1)] []))
  refine Fin.step (fun _ => XS.iloadN X0.here hx rfl (hb hby d1_53) rfl) ?_
  show Fin p e below s _ _ _ (s₁.setTop (mkF m 54 #[.val (.int p1)] [(.int p1)]))
  refine Fin.step (fun _ => XS.bipush X0.here hx rfl (hb hby d1_54)) ?_
  show Fin p e below s _ _ _ (s₁.setTop (mkF m 56 #[.val (.int p1)] [(.int (6 : Int32)), (.int p1)]))
  refine Fin.step (fun _ => XS.icmpYes X0.here hx rfl (pc0 := 56) (pc' := 63) rfl (hb hby d1_56) rfl (feq ((by rw [hp]; decide) : ¬ (p1 = (6 : Int32)))).2 (by decide) (by decide)) ?_
  show Fin p e below s _ _ _ (s₁.setTop (mkF m 63 #[.val (.int p1)] []))
  refine Fin.step (fun _ => XS.iloadN X0.here hx rfl (hb hby d1_63) rfl) ?_
  show Fin p e below s _ _ _ (s₁.setTop (mkF m 64 #[.val (.int p1)] [(.int p1)]))
  refine Fin.step (fun _ => XS.bipush X0.here hx rfl (hb hby d1_64)) ?_
  show Fin p e below s _ _ _ (s₁.setTop (mkF m 66 #[.val (.int p1)] [(.int (7 : Int32)), (.int p1)]))
  refine Fin.step (fun _ => XS.icmpYes X0.here hx rfl (pc0 := 66) (pc' := 73) rfl (hb hby d1_66) rfl (feq ((by rw [hp]; decide) : ¬ (p1 = (7 : Int32)))).2 (by decide) (by decide)) ?_
  show Fin p e below s _ _ _ (s₁.setTop (mkF m 73 #[.val (.int p1)] []))
  refine Fin.step (fun _ => XS.iloadN X0.here hx rfl (hb hby d1_73) rfl) ?_
  show Fin p e below s _ _ _ (s₁.setTop (mkF m 74 #[.val (.int p1)] [(.int p1)]))
  refine Fin.step (fun _ => XS.bipush X0.here hx rfl (hb hby d1_74)) ?_
  show Fin p e below s _ _ _ (s₁.setTop (mkF m 76 #[.val (.int p1)] [(.int (8 : Int32)), (.int p1)]))
  refine Fin.step (fun _ => XS.icmpYes X0.here hx rfl (pc0 := 76) (pc' := 83) rfl (hb hby d1_76) rfl (feq ((by rw [hp]; decide) : ¬ (p1 = (8 : Int32)))).2 (by decide) (by decide)) ?_
  show Fin p e below s _ _ _ (s₁.setTop (mkF m 83 #[.val (.int p1)] []))
  refine Fin.step (fun _ => XS.iloadN X0.here hx rfl (hb hby d1_83) rfl) ?_
  show Fin p e below s _ _ _ (s₁.setTop (mkF m 84 #[.val (.int p1)] [(.int p1)]))
  refine Fin.step (fun _ => XS.bipush X0.here hx rfl (hb hby d1_84)) ?_
  show Fin p e below s _ _ _ (s₁.setTop (mkF m 86 #[.val (.int p1)] [(.int (9 : Int32)), (.int p1)]))
  refine Fin.step (fun _ => XS.icmpYes X0.here hx rfl (pc0 := 86) (pc' := 93) rfl (hb hby d1_86) rfl (feq ((by rw [hp]; decide) : ¬ (p1 = (9 : Int32)))).2 (by decide) (by decide)) ?_
  show Fin p e below s _ _ _ (s₁.setTop (mkF m 93 #[.val (.int p1)] []))
  refine Fin.step (fun _ => XS.iloadN X0.here hx rfl (hb hby d1_93) rfl) ?_
  show Fin p e below s _ _ _ (s₁.setTop (mkF m 94 #[.val (.int p1)] [(.int p1)]))
  refine Fin.step (fun _ => XS.bipush X0.here hx rfl (hb hby d1_94)) ?_
  show Fin p e below s _ _ _ (s₁.setTop (mkF m 96 #[.val (.int p1)] [(.int (10 : Int32)), (.int p1)]))
  refine Fin.step (fun _ => XS.icmpYes X0.here hx rfl (pc0 := 96) (pc' := 103) rfl (hb hby d1_96) rfl (feq ((by rw [hp]; decide) : ¬ (p1 = (10 : Int32)))).2 (by decide) (by decide)) ?_
  show Fin p e below s _ _ _ (s₁.setTop (mkF m 103 #[.val (.int p1)] []))
  refine Fin.step (fun _ => XS.iloadN X0.here hx rfl (hb hby d1_103) rfl) ?_
  show Fin p e below s _ _ _ (s₁.setTop (mkF m 104 #[.val (.int p1)] [(.int p1)]))
  refine Fin.step (fun _ => XS.bipush X0.here hx rfl (hb hby d1_104)) ?_
  show Fin p e below s _ _ _ (s₁.setTop (mkF m 106 #[.val (.int p1)] [(.int (11 : Int32)), (.int p1)]))
  refine Fin.step (fun _ => XS.icmpYes X0.here hx rfl (pc0 := 106) (pc' := 113) rfl (hb hby d1_106) rfl (feq ((by rw [hp]; decide) : ¬ (p1 = (11 : Int32)))).2 (by decide) (by decide)) ?_
  show Fin p e below s _ _ _ (s₁.setTop (mkF m 113 #[.val (.int p1)] []))
  refine Fin.step (fun _ => XS.iloadN X0.here hx rfl (hb hby d1_113) rfl) ?_
  show Fin p e below s _ _ _ (s₁.setTop (mkF m 114 #[.val (.int p1)] [(.int p1)]))
  refine Fin.step (fun _ => XS.bipush X0.here hx rfl (hb hby d1_114)) ?_
  show Fin p e below s _ _ _ (s₁.setTop (mkF m 116 #[.val (.int p1)] [(.int (12 : Int32)), (.int p1)]))
  refine Fin.step (fun _ => XS.icmpYes X0.here hx rfl (pc0 := 116) (pc' := 123) rfl (hb hby d1_116) rfl (feq ((by rw [hp]; decide) : ¬ (p1 = (12 : Int32)))).2 (by decide) (by decide)) ?_
  show Fin p e below s _ _ _ (s₁.setTop (mkF m 123 #[.val (.int p1)] []))
  refine Fin.step (fun _ => XS.iloadN X0.here hx rfl (hb hby d1_123) rfl) ?_
  show Fin p e below s _ _ _ (s₁.setTop (mkF m 124 #[.val (.int p1)] [(.int p1)]))
  refine Fin.step (fun _ => XS.bipush X0.here hx rfl (hb hby d1_124)) ?_
  show Fin p e below s _ _ _ (s₁.setTop (mkF m 126 #[.val (.int p1)] [(.int (13 : Int32)), (.int p1)]))
  refine Fin.step (fun _ => XS.icmpYes X0.here hx rfl (pc0 := 126) (pc' := 133) rfl (hb hby d1_126) rfl (feq ((by rw [hp]; decide) : ¬ (p1 = (13 : Int32)))).2 (by decide) (by decide)) ?_
  show Fin p e below s _ _ _ (s₁.setTop (mkF m 133 #[.val (.int p1)] []))
  refine Fin.step (fun _ => XS.iloadN X0.here hx rfl (hb hby d1_133) rfl) ?_
  show Fin p e below s _ _ _ (s₁.setTop (mkF m 134 #[.val (.int p1)] [(.int p1)]))
  refine Fin.step (fun _ => XS.bipush X0.here hx rfl (hb hby d1_134)) ?_
  show Fin p e below s _ _ _ (s₁.setTop (mkF m 136 #[.val (.int p1)] [(.int (14 : Int32)), (.int p1)]))
  refine Fin.step (fun _ => XS.icmpYes X0.here hx rfl (pc0 := 136) (pc' := 143) rfl (hb hby d1_136) rfl (feq ((by rw [hp]; decide) : ¬ (p1 = (14 : Int32)))).2 (by decide) (by decide)) ?_
  show Fin p e below s _ _ _ (s₁.setTop (mkF m 143 #[.val (.int p1)] []))
  refine Fin.step (fun _ => XS.iloadN X0.here hx rfl (hb hby d1_143) rfl) ?_
  show Fin p e below s _ _ _ (s₁.setTop (mkF m 144 #[.val (.int p1)] [(.int p1)]))
  refine Fin.step (fun _ => XS.bipush X0.here hx rfl (hb hby d1_144)) ?_
  show Fin p e below s _ _ _ (s₁.setTop (mkF m 146 #[.val (.int p1)] [(.int (15 : Int32)), (.int p1)]))
  refine Fin.step (fun _ => XS.icmpNo X0.here hx rfl (hb hby d1_146) rfl (teq (hp : (p1 = (15 : Int32)))).2) ?_
  show Fin p e below s _ _ _ (s₁.setTop (mkF m 149 #[.val (.int p1)] []))
  obtain ⟨Ty1, Xy1, ey1, sty1⟩ := getS2 X0 hx hZ hown (host := "") (Or.inl (hw _ (List.mem_of_getElem? (i := 34) rfl))) Via.refl e0 HS_com_example_wicketgate_wicketgate_core_lds_LdsFile_DG15 (g := (mkF m 149 #[.val (.int p1)] [])) rfl (hb hby d1_149)
  refine Fin.step (sty1) ?_
  show Fin p e below s _ _ _ (Ty1.setTop (mkF m 152 #[.val (.int p1)] [(.ref o1)]))
  refine Fin.retR Xy1 hx hret rfl rfl hlk (hb hby d1_152) (by decide) (by decide) ?_
  show Qp15 Z p1 o1 h0 n0 _ Ty1.heap _
  rw [ey1]
  exact ⟨rfl, N0, rfl⟩
theorem ef_rmp16 (m : MethodId) (x0 : Int32) : entryFrame m #[(.int x0)] 1 = mkF m 0 #[.val (.int x0)] [] := by first | (simp [entryFrame, mkF, argsToLocals, Value.category]; done) | rfl
def Qp16 (Z : State) (p1 : Int32) (o1 : Addr) (h0 : Heap) (n0 : Nat) (v : Option Value) (h : Heap) (L : List Loc) : Prop := v = some (.ref o1) ∧ Fr n0 L ∧ h = h0
set_option maxRecDepth 65536 in
set_option maxHeartbeats 40000000 in
theorem rmp16 (l : Launch) (Z : State) (a0 : Array Value) (hw : ∀ d ∈ tables_1, d.before a0 Z = true) (ws : List Jvm.Cond) (p1 : Int32) (o1 : Addr) (h0 : Heap) (n0 : Nat) (Z0 : n0 ≤ h0.size) (HS_com_example_wicketgate_wicketgate_core_lds_LdsFile_DG16 : Sta Z h0 "com/example/wicketgate/wicketgate/core/lds/LdsFile" "DG16" "Lcom/example/wicketgate/wicketgate/core/lds/LdsFile;" (.ref o1)) (hp : p1 = (16 : Int32)) :
    MetFree l (⟨"com/example/wicketgate/wicketgate/core/lds/LdsFileIsDataGroupPinLaw", "pick", "(I)Lcom/example/wicketgate/wicketgate/core/lds/LdsFile;"⟩ : MethodName) (head1 (Jvm.Cond.code (⟨"com/example/wicketgate/wicketgate/core/lds/LdsFileIsDataGroupPinLaw", "pick", "(I)Lcom/example/wicketgate/wicketgate/core/lds/LdsFile;"⟩ : MethodName) method_2_code 1 (some (.object "com/example/wicketgate/wicketgate/core/lds/LdsFile")) :: ws) ({ frames := 0, cells := 0, slots := 0, locals := 0 } : Room)) (fun a U => a = #[(.int p1)] ∧ Z.Warmed39 U.vm ∧ U.heap = h0) (fun _ _ _ _ _ => True) (fun _ U o U' => ∃ v L, o = .returned v ∧ Qp16 Z p1 o1 h0 n0 v U'.heap L ∧ FrameEnd U o U' L ({ frames := 0, cells := 0, slots := 0, locals := 0 } : Room).cells ({ frames := 0, cells := 0, slots := 0, locals := 0 } : Room).slots) := by
  refine MetFree.of_bodySF (plainFor_of_name pn_1) hisR ?_
  intro p e s m args below meth c s₁ Bd hml0 hP hK
  obtain ⟨rfl, hZ, hh⟩ := hP
  have hx := Bd.exec
  have hby := Bd.bytes
  have hlk := BodyLoose.notSynchronized Bd
  have hret := Bd.returns
  have hml : c.maxLocals = 1 := hml0
  have hown : s.vm.findClass "com/example/wicketgate/wicketgate/core/lds/LdsFileIsDataGroupPinLaw" = some m.cls := findClass_of_methodNamed Bd.named
  have hnm := (name_of_methodNamed Bd.named Bd.method).1
  have X0 : Stand p l e ({ frames := 0, cells := 0, slots := 0, locals := 0 } : Room) s m #[(.int p1)] below meth c s₁ [] 0 0 := Stand.of_body Bd
  have e0 : s₁.heap = h0 := by rw [← hh, Bd.state]; rfl
  have N0 := Fr.nil n0
  have K0 : Keep h0 h0 [] := Keep.refl h0 _
  refine Fin.step (Q := fun v h L => Qp16 Z p1 o1 h0 n0 v h L) (st' := s₁.setTop (mkF m 0 #[.val (.int p1)] [])) (fun t k => castTop (ef_rmp16 m p1) k) ?_
  show Fin p e below s _ _ _ (s₁.setTop (mkF m 0 #[.val (.int p1)] []))
  refine Fin.step (fun _ => XS.iloadN X0.here hx rfl (hb hby d1_0) rfl) ?_
  show Fin p e below s _ _ _ (s₁.setTop (mkF m 1 #[.val (.int p1)] [(.int p1)]))
  refine Fin.step (fun _ => XS.ifYes X0.here hx rfl (pc0 := 1) (pc' := 8) rfl (hb hby d1_1) rfl ((if0 _ _).trans (feq ((by rw [hp]; decide) : ¬ (p1 = (0 : Int32)))).2) (by decide) (by decide)) ?_
  show Fin p e below s _ _ _ (s₁.setTop (mkF m 8 #[.val (.int p1)] []))
  refine Fin.step (fun _ => XS.iloadN X0.here hx rfl (hb hby d1_8) rfl) ?_
  show Fin p e below s _ _ _ (s₁.setTop (mkF m 9 #[.val (.int p1)] [(.int p1)]))
  refine Fin.step (fun _ => XS.iconst X0.here hx rfl (hb hby d1_9)) ?_
  show Fin p e below s _ _ _ (s₁.setTop (mkF m 10 #[.val (.int p1)] [(.int (1 : Int32)), (.int p1)]))
  refine Fin.step (fun _ => XS.icmpYes X0.here hx rfl (pc0 := 10) (pc' := 17) rfl (hb hby d1_10) rfl (feq ((by rw [hp]; decide) : ¬ (p1 = (1 : Int32)))).2 (by decide) (by decide)) ?_
  show Fin p e below s _ _ _ (s₁.setTop (mkF m 17 #[.val (.int p1)] []))
  refine Fin.step (fun _ => XS.iloadN X0.here hx rfl (hb hby d1_17) rfl) ?_
  show Fin p e below s _ _ _ (s₁.setTop (mkF m 18 #[.val (.int p1)] [(.int p1)]))
  refine Fin.step (fun _ => XS.iconst X0.here hx rfl (hb hby d1_18)) ?_
  show Fin p e below s _ _ _ (s₁.setTop (mkF m 19 #[.val (.int p1)] [(.int (2 : Int32)), (.int p1)]))
  refine Fin.step (fun _ => XS.icmpYes X0.here hx rfl (pc0 := 19) (pc' := 26) rfl (hb hby d1_19) rfl (feq ((by rw [hp]; decide) : ¬ (p1 = (2 : Int32)))).2 (by decide) (by decide)) ?_
  show Fin p e below s _ _ _ (s₁.setTop (mkF m 26 #[.val (.int p1)] []))
  refine Fin.step (fun _ => XS.iloadN X0.here hx rfl (hb hby d1_26) rfl) ?_
  show Fin p e below s _ _ _ (s₁.setTop (mkF m 27 #[.val (.int p1)] [(.int p1)]))
  refine Fin.step (fun _ => XS.iconst X0.here hx rfl (hb hby d1_27)) ?_
  show Fin p e below s _ _ _ (s₁.setTop (mkF m 28 #[.val (.int p1)] [(.int (3 : Int32)), (.int p1)]))
  refine Fin.step (fun _ => XS.icmpYes X0.here hx rfl (pc0 := 28) (pc' := 35) rfl (hb hby d1_28) rfl (feq ((by rw [hp]; decide) : ¬ (p1 = (3 : Int32)))).2 (by decide) (by decide)) ?_
  show Fin p e below s _ _ _ (s₁.setTop (mkF m 35 #[.val (.int p1)] []))
  refine Fin.step (fun _ => XS.iloadN X0.here hx rfl (hb hby d1_35) rfl) ?_
  show Fin p e below s _ _ _ (s₁.setTop (mkF m 36 #[.val (.int p1)] [(.int p1)]))
  refine Fin.step (fun _ => XS.iconst X0.here hx rfl (hb hby d1_36)) ?_
  show Fin p e below s _ _ _ (s₁.setTop (mkF m 37 #[.val (.int p1)] [(.int (4 : Int32)), (.int p1)]))
  refine Fin.step (fun _ => XS.icmpYes X0.here hx rfl (pc0 := 37) (pc' := 44) rfl (hb hby d1_37) rfl (feq ((by rw [hp]; decide) : ¬ (p1 = (4 : Int32)))).2 (by decide) (by decide)) ?_
  show Fin p e below s _ _ _ (s₁.setTop (mkF m 44 #[.val (.int p1)] []))
  refine Fin.step (fun _ => XS.iloadN X0.here hx rfl (hb hby d1_44) rfl) ?_
  show Fin p e below s _ _ _ (s₁.setTop (mkF m 45 #[.val (.int p1)] [(.int p1)]))
  refine Fin.step (fun _ => XS.iconst X0.here hx rfl (hb hby d1_45)) ?_
  show Fin p e below s _ _ _ (s₁.setTop (mkF m 46 #[.val (.int p1)] [(.int (5 : Int32)), (.int p1)]))
  refine Fin.step (fun _ => XS.icmpYes X0.here hx rfl (pc0 := 46) (pc' := 53) rfl (hb hby d1_46) rfl (feq ((by rw [hp]; decide) : ¬ (p1 = (5 : Int32)))).2 (by decide) (by decide)) ?_
  show Fin p e below s _ _ _ (s₁.setTop (mkF m 53 #[.val (.int p1)] []))
  refine Fin.step (fun _ => XS.iloadN X0.here hx rfl (hb hby d1_53) rfl) ?_
  show Fin p e below s _ _ _ (s₁.setTop (mkF m 54 #[.val (.int p1)] [(.int p1)]))
  refine Fin.step (fun _ => XS.bipush X0.here hx rfl (hb hby d1_54)) ?_
  show Fin p e below s _ _ _ (s₁.setTop (mkF m 56 #[.val (.int p1)] [(.int (6 : Int32)), (.int p1)]))
  refine Fin.step (fun _ => XS.icmpYes X0.here hx rfl (pc0 := 56) (pc' := 63) rfl (hb hby d1_56) rfl (feq ((by rw [hp]; decide) : ¬ (p1 = (6 : Int32)))).2 (by decide) (by decide)) ?_
  show Fin p e below s _ _ _ (s₁.setTop (mkF m 63 #[.val (.int p1)] []))
  refine Fin.step (fun _ => XS.iloadN X0.here hx rfl (hb hby d1_63) rfl) ?_
  show Fin p e below s _ _ _ (s₁.setTop (mkF m 64 #[.val (.int p1)] [(.int p1)]))
  refine Fin.step (fun _ => XS.bipush X0.here hx rfl (hb hby d1_64)) ?_
  show Fin p e below s _ _ _ (s₁.setTop (mkF m 66 #[.val (.int p1)] [(.int (7 : Int32)), (.int p1)]))
  refine Fin.step (fun _ => XS.icmpYes X0.here hx rfl (pc0 := 66) (pc' := 73) rfl (hb hby d1_66) rfl (feq ((by rw [hp]; decide) : ¬ (p1 = (7 : Int32)))).2 (by decide) (by decide)) ?_
  show Fin p e below s _ _ _ (s₁.setTop (mkF m 73 #[.val (.int p1)] []))
  refine Fin.step (fun _ => XS.iloadN X0.here hx rfl (hb hby d1_73) rfl) ?_
  show Fin p e below s _ _ _ (s₁.setTop (mkF m 74 #[.val (.int p1)] [(.int p1)]))
  refine Fin.step (fun _ => XS.bipush X0.here hx rfl (hb hby d1_74)) ?_
  show Fin p e below s _ _ _ (s₁.setTop (mkF m 76 #[.val (.int p1)] [(.int (8 : Int32)), (.int p1)]))
  refine Fin.step (fun _ => XS.icmpYes X0.here hx rfl (pc0 := 76) (pc' := 83) rfl (hb hby d1_76) rfl (feq ((by rw [hp]; decide) : ¬ (p1 = (8 : Int32)))).2 (by decide) (by decide)) ?_
  show Fin p e below s _ _ _ (s₁.setTop (mkF m 83 #[.val (.int p1)] []))
  refine Fin.step (fun _ => XS.iloadN X0.here hx rfl (hb hby d1_83) rfl) ?_
  show Fin p e below s _ _ _ (s₁.setTop (mkF m 84 #[.val (.int p1)] [(.int p1)]))
  refine Fin.step (fun _ => XS.bipush X0.here hx rfl (hb hby d1_84)) ?_
  show Fin p e below s _ _ _ (s₁.setTop (mkF m 86 #[.val (.int p1)] [(.int (9 : Int32)), (.int p1)]))
  refine Fin.step (fun _ => XS.icmpYes X0.here hx rfl (pc0 := 86) (pc' := 93) rfl (hb hby d1_86) rfl (feq ((by rw [hp]; decide) : ¬ (p1 = (9 : Int32)))).2 (by decide) (by decide)) ?_
  show Fin p e below s _ _ _ (s₁.setTop (mkF m 93 #[.val (.int p1)] []))
  refine Fin.step (fun _ => XS.iloadN X0.here hx rfl (hb hby d1_93) rfl) ?_
  show Fin p e below s _ _ _ (s₁.setTop (mkF m 94 #[.val (.int p1)] [(.int p1)]))
  refine Fin.step (fun _ => XS.bipush X0.here hx rfl (hb hby d1_94)) ?_
  show Fin p e below s _ _ _ (s₁.setTop (mkF m 96 #[.val (.int p1)] [(.int (10 : Int32)), (.int p1)]))
  refine Fin.step (fun _ => XS.icmpYes X0.here hx rfl (pc0 := 96) (pc' := 103) rfl (hb hby d1_96) rfl (feq ((by rw [hp]; decide) : ¬ (p1 = (10 : Int32)))).2 (by decide) (by decide)) ?_
  show Fin p e below s _ _ _ (s₁.setTop (mkF m 103 #[.val (.int p1)] []))
  refine Fin.step (fun _ => XS.iloadN X0.here hx rfl (hb hby d1_103) rfl) ?_
  show Fin p e below s _ _ _ (s₁.setTop (mkF m 104 #[.val (.int p1)] [(.int p1)]))
  refine Fin.step (fun _ => XS.bipush X0.here hx rfl (hb hby d1_104)) ?_
  show Fin p e below s _ _ _ (s₁.setTop (mkF m 106 #[.val (.int p1)] [(.int (11 : Int32)), (.int p1)]))
  refine Fin.step (fun _ => XS.icmpYes X0.here hx rfl (pc0 := 106) (pc' := 113) rfl (hb hby d1_106) rfl (feq ((by rw [hp]; decide) : ¬ (p1 = (11 : Int32)))).2 (by decide) (by decide)) ?_
  show Fin p e below s _ _ _ (s₁.setTop (mkF m 113 #[.val (.int p1)] []))
  refine Fin.step (fun _ => XS.iloadN X0.here hx rfl (hb hby d1_113) rfl) ?_
  show Fin p e below s _ _ _ (s₁.setTop (mkF m 114 #[.val (.int p1)] [(.int p1)]))
  refine Fin.step (fun _ => XS.bipush X0.here hx rfl (hb hby d1_114)) ?_
  show Fin p e below s _ _ _ (s₁.setTop (mkF m 116 #[.val (.int p1)] [(.int (12 : Int32)), (.int p1)]))
  refine Fin.step (fun _ => XS.icmpYes X0.here hx rfl (pc0 := 116) (pc' := 123) rfl (hb hby d1_116) rfl (feq ((by rw [hp]; decide) : ¬ (p1 = (12 : Int32)))).2 (by decide) (by decide)) ?_
  show Fin p e below s _ _ _ (s₁.setTop (mkF m 123 #[.val (.int p1)] []))
  refine Fin.step (fun _ => XS.iloadN X0.here hx rfl (hb hby d1_123) rfl) ?_
  show Fin p e below s _ _ _ (s₁.setTop (mkF m 124 #[.val (.int p1)] [(.int p1)]))
  refine Fin.step (fun _ => XS.bipush X0.here hx rfl (hb hby d1_124)) ?_
  show Fin p e below s _ _ _ (s₁.setTop (mkF m 126 #[.val (.int p1)] [(.int (13 : Int32)), (.int p1)]))
  refine Fin.step (fun _ => XS.icmpYes X0.here hx rfl (pc0 := 126) (pc' := 133) rfl (hb hby d1_126) rfl (feq ((by rw [hp]; decide) : ¬ (p1 = (13 : Int32)))).2 (by decide) (by decide)) ?_
  show Fin p e below s _ _ _ (s₁.setTop (mkF m 133 #[.val (.int p1)] []))
  refine Fin.step (fun _ => XS.iloadN X0.here hx rfl (hb hby d1_133) rfl) ?_
  show Fin p e below s _ _ _ (s₁.setTop (mkF m 134 #[.val (.int p1)] [(.int p1)]))
  refine Fin.step (fun _ => XS.bipush X0.here hx rfl (hb hby d1_134)) ?_
  show Fin p e below s _ _ _ (s₁.setTop (mkF m 136 #[.val (.int p1)] [(.int (14 : Int32)), (.int p1)]))
  refine Fin.step (fun _ => XS.icmpYes X0.here hx rfl (pc0 := 136) (pc' := 143) rfl (hb hby d1_136) rfl (feq ((by rw [hp]; decide) : ¬ (p1 = (14 : Int32)))).2 (by decide) (by decide)) ?_
  show Fin p e below s _ _ _ (s₁.setTop (mkF m 143 #[.val (.int p1)] []))
  refine Fin.step (fun _ => XS.iloadN X0.here hx rfl (hb hby d1_143) rfl) ?_
  show Fin p e below s _ _ _ (s₁.setTop (mkF m 144 #[.val (.int p1)] [(.int p1)]))
  refine Fin.step (fun _ => XS.bipush X0.here hx rfl (hb hby d1_144)) ?_
  show Fin p e below s _ _ _ (s₁.setTop (mkF m 146 #[.val (.int p1)] [(.int (15 : Int32)), (.int p1)]))
  refine Fin.step (fun _ => XS.icmpYes X0.here hx rfl (pc0 := 146) (pc' := 153) rfl (hb hby d1_146) rfl (feq ((by rw [hp]; decide) : ¬ (p1 = (15 : Int32)))).2 (by decide) (by decide)) ?_
  show Fin p e below s _ _ _ (s₁.setTop (mkF m 153 #[.val (.int p1)] []))
  refine Fin.step (fun _ => XS.iloadN X0.here hx rfl (hb hby d1_153) rfl) ?_
  show Fin p e below s _ _ _ (s₁.setTop (mkF m 154 #[.val (.int p1)] [(.int p1)]))
  refine Fin.step (fun _ => XS.bipush X0.here hx rfl (hb hby d1_154)) ?_
  show Fin p e below s _ _ _ (s₁.setTop (mkF m 156 #[.val (.int p1)] [(.int (16 : Int32)), (.int p1)]))
  refine Fin.step (fun _ => XS.icmpNo X0.here hx rfl (hb hby d1_156) rfl (teq (hp : (p1 = (16 : Int32)))).2) ?_
  show Fin p e below s _ _ _ (s₁.setTop (mkF m 159 #[.val (.int p1)] []))
  obtain ⟨Ty1, Xy1, ey1, sty1⟩ := getS2 X0 hx hZ hown (host := "") (Or.inl (hw _ (List.mem_of_getElem? (i := 32) rfl))) Via.refl e0 HS_com_example_wicketgate_wicketgate_core_lds_LdsFile_DG16 (g := (mkF m 159 #[.val (.int p1)] [])) rfl (hb hby d1_159)
  refine Fin.step (sty1) ?_
  show Fin p e below s _ _ _ (Ty1.setTop (mkF m 162 #[.val (.int p1)] [(.ref o1)]))
  refine Fin.retR Xy1 hx hret rfl rfl hlk (hb hby d1_162) (by decide) (by decide) ?_
  show Qp16 Z p1 o1 h0 n0 _ Ty1.heap _
  rw [ey1]
  exact ⟨rfl, N0, rfl⟩
theorem ef_rmp17 (m : MethodId) (x0 : Int32) : entryFrame m #[(.int x0)] 1 = mkF m 0 #[.val (.int x0)] [] := by first | (simp [entryFrame, mkF, argsToLocals, Value.category]; done) | rfl
def Qp17 (Z : State) (p1 : Int32) (o1 : Addr) (h0 : Heap) (n0 : Nat) (v : Option Value) (h : Heap) (L : List Loc) : Prop := v = some (.ref o1) ∧ Fr n0 L ∧ h = h0
set_option maxRecDepth 65536 in
set_option maxHeartbeats 40000000 in
theorem rmp17 (l : Launch) (Z : State) (a0 : Array Value) (hw : ∀ d ∈ tables_1, d.before a0 Z = true) (ws : List Jvm.Cond) (p1 : Int32) (o1 : Addr) (h0 : Heap) (n0 : Nat) (Z0 : n0 ≤ h0.size) (HS_com_example_wicketgate_wicketgate_core_lds_LdsFile_SOD : Sta Z h0 "com/example/wicketgate/wicketgate/core/lds/LdsFile" "SOD" "Lcom/example/wicketgate/wicketgate/core/lds/LdsFile;" (.ref o1)) (hp : p1 = (17 : Int32)) :
    MetFree l (⟨"com/example/wicketgate/wicketgate/core/lds/LdsFileIsDataGroupPinLaw", "pick", "(I)Lcom/example/wicketgate/wicketgate/core/lds/LdsFile;"⟩ : MethodName) (head1 (Jvm.Cond.code (⟨"com/example/wicketgate/wicketgate/core/lds/LdsFileIsDataGroupPinLaw", "pick", "(I)Lcom/example/wicketgate/wicketgate/core/lds/LdsFile;"⟩ : MethodName) method_2_code 1 (some (.object "com/example/wicketgate/wicketgate/core/lds/LdsFile")) :: ws) ({ frames := 0, cells := 0, slots := 0, locals := 0 } : Room)) (fun a U => a = #[(.int p1)] ∧ Z.Warmed39 U.vm ∧ U.heap = h0) (fun _ _ _ _ _ => True) (fun _ U o U' => ∃ v L, o = .returned v ∧ Qp17 Z p1 o1 h0 n0 v U'.heap L ∧ FrameEnd U o U' L ({ frames := 0, cells := 0, slots := 0, locals := 0 } : Room).cells ({ frames := 0, cells := 0, slots := 0, locals := 0 } : Room).slots) := by
  refine MetFree.of_bodySF (plainFor_of_name pn_1) hisR ?_
  intro p e s m args below meth c s₁ Bd hml0 hP hK
  obtain ⟨rfl, hZ, hh⟩ := hP
  have hx := Bd.exec
  have hby := Bd.bytes
  have hlk := BodyLoose.notSynchronized Bd
  have hret := Bd.returns
  have hml : c.maxLocals = 1 := hml0
  have hown : s.vm.findClass "com/example/wicketgate/wicketgate/core/lds/LdsFileIsDataGroupPinLaw" = some m.cls := findClass_of_methodNamed Bd.named
  have hnm := (name_of_methodNamed Bd.named Bd.method).1
  have X0 : Stand p l e ({ frames := 0, cells := 0, slots := 0, locals := 0 } : Room) s m #[(.int p1)] below meth c s₁ [] 0 0 := Stand.of_body Bd
  have e0 : s₁.heap = h0 := by rw [← hh, Bd.state]; rfl
  have N0 := Fr.nil n0
  have K0 : Keep h0 h0 [] := Keep.refl h0 _
  refine Fin.step (Q := fun v h L => Qp17 Z p1 o1 h0 n0 v h L) (st' := s₁.setTop (mkF m 0 #[.val (.int p1)] [])) (fun t k => castTop (ef_rmp17 m p1) k) ?_
  show Fin p e below s _ _ _ (s₁.setTop (mkF m 0 #[.val (.int p1)] []))
  refine Fin.step (fun _ => XS.iloadN X0.here hx rfl (hb hby d1_0) rfl) ?_
  show Fin p e below s _ _ _ (s₁.setTop (mkF m 1 #[.val (.int p1)] [(.int p1)]))
  refine Fin.step (fun _ => XS.ifYes X0.here hx rfl (pc0 := 1) (pc' := 8) rfl (hb hby d1_1) rfl ((if0 _ _).trans (feq ((by rw [hp]; decide) : ¬ (p1 = (0 : Int32)))).2) (by decide) (by decide)) ?_
  show Fin p e below s _ _ _ (s₁.setTop (mkF m 8 #[.val (.int p1)] []))
  refine Fin.step (fun _ => XS.iloadN X0.here hx rfl (hb hby d1_8) rfl) ?_
  show Fin p e below s _ _ _ (s₁.setTop (mkF m 9 #[.val (.int p1)] [(.int p1)]))
  refine Fin.step (fun _ => XS.iconst X0.here hx rfl (hb hby d1_9)) ?_
  show Fin p e below s _ _ _ (s₁.setTop (mkF m 10 #[.val (.int p1)] [(.int (1 : Int32)), (.int p1)]))
  refine Fin.step (fun _ => XS.icmpYes X0.here hx rfl (pc0 := 10) (pc' := 17) rfl (hb hby d1_10) rfl (feq ((by rw [hp]; decide) : ¬ (p1 = (1 : Int32)))).2 (by decide) (by decide)) ?_
  show Fin p e below s _ _ _ (s₁.setTop (mkF m 17 #[.val (.int p1)] []))
  refine Fin.step (fun _ => XS.iloadN X0.here hx rfl (hb hby d1_17) rfl) ?_
  show Fin p e below s _ _ _ (s₁.setTop (mkF m 18 #[.val (.int p1)] [(.int p1)]))
  refine Fin.step (fun _ => XS.iconst X0.here hx rfl (hb hby d1_18)) ?_
  show Fin p e below s _ _ _ (s₁.setTop (mkF m 19 #[.val (.int p1)] [(.int (2 : Int32)), (.int p1)]))
  refine Fin.step (fun _ => XS.icmpYes X0.here hx rfl (pc0 := 19) (pc' := 26) rfl (hb hby d1_19) rfl (feq ((by rw [hp]; decide) : ¬ (p1 = (2 : Int32)))).2 (by decide) (by decide)) ?_
  show Fin p e below s _ _ _ (s₁.setTop (mkF m 26 #[.val (.int p1)] []))
  refine Fin.step (fun _ => XS.iloadN X0.here hx rfl (hb hby d1_26) rfl) ?_
  show Fin p e below s _ _ _ (s₁.setTop (mkF m 27 #[.val (.int p1)] [(.int p1)]))
  refine Fin.step (fun _ => XS.iconst X0.here hx rfl (hb hby d1_27)) ?_
  show Fin p e below s _ _ _ (s₁.setTop (mkF m 28 #[.val (.int p1)] [(.int (3 : Int32)), (.int p1)]))
  refine Fin.step (fun _ => XS.icmpYes X0.here hx rfl (pc0 := 28) (pc' := 35) rfl (hb hby d1_28) rfl (feq ((by rw [hp]; decide) : ¬ (p1 = (3 : Int32)))).2 (by decide) (by decide)) ?_
  show Fin p e below s _ _ _ (s₁.setTop (mkF m 35 #[.val (.int p1)] []))
  refine Fin.step (fun _ => XS.iloadN X0.here hx rfl (hb hby d1_35) rfl) ?_
  show Fin p e below s _ _ _ (s₁.setTop (mkF m 36 #[.val (.int p1)] [(.int p1)]))
  refine Fin.step (fun _ => XS.iconst X0.here hx rfl (hb hby d1_36)) ?_
  show Fin p e below s _ _ _ (s₁.setTop (mkF m 37 #[.val (.int p1)] [(.int (4 : Int32)), (.int p1)]))
  refine Fin.step (fun _ => XS.icmpYes X0.here hx rfl (pc0 := 37) (pc' := 44) rfl (hb hby d1_37) rfl (feq ((by rw [hp]; decide) : ¬ (p1 = (4 : Int32)))).2 (by decide) (by decide)) ?_
  show Fin p e below s _ _ _ (s₁.setTop (mkF m 44 #[.val (.int p1)] []))
  refine Fin.step (fun _ => XS.iloadN X0.here hx rfl (hb hby d1_44) rfl) ?_
  show Fin p e below s _ _ _ (s₁.setTop (mkF m 45 #[.val (.int p1)] [(.int p1)]))
  refine Fin.step (fun _ => XS.iconst X0.here hx rfl (hb hby d1_45)) ?_
  show Fin p e below s _ _ _ (s₁.setTop (mkF m 46 #[.val (.int p1)] [(.int (5 : Int32)), (.int p1)]))
  refine Fin.step (fun _ => XS.icmpYes X0.here hx rfl (pc0 := 46) (pc' := 53) rfl (hb hby d1_46) rfl (feq ((by rw [hp]; decide) : ¬ (p1 = (5 : Int32)))).2 (by decide) (by decide)) ?_
  show Fin p e below s _ _ _ (s₁.setTop (mkF m 53 #[.val (.int p1)] []))
  refine Fin.step (fun _ => XS.iloadN X0.here hx rfl (hb hby d1_53) rfl) ?_
  show Fin p e below s _ _ _ (s₁.setTop (mkF m 54 #[.val (.int p1)] [(.int p1)]))
  refine Fin.step (fun _ => XS.bipush X0.here hx rfl (hb hby d1_54)) ?_
  show Fin p e below s _ _ _ (s₁.setTop (mkF m 56 #[.val (.int p1)] [(.int (6 : Int32)), (.int p1)]))
  refine Fin.step (fun _ => XS.icmpYes X0.here hx rfl (pc0 := 56) (pc' := 63) rfl (hb hby d1_56) rfl (feq ((by rw [hp]; decide) : ¬ (p1 = (6 : Int32)))).2 (by decide) (by decide)) ?_
  show Fin p e below s _ _ _ (s₁.setTop (mkF m 63 #[.val (.int p1)] []))
  refine Fin.step (fun _ => XS.iloadN X0.here hx rfl (hb hby d1_63) rfl) ?_
  show Fin p e below s _ _ _ (s₁.setTop (mkF m 64 #[.val (.int p1)] [(.int p1)]))
  refine Fin.step (fun _ => XS.bipush X0.here hx rfl (hb hby d1_64)) ?_
  show Fin p e below s _ _ _ (s₁.setTop (mkF m 66 #[.val (.int p1)] [(.int (7 : Int32)), (.int p1)]))
  refine Fin.step (fun _ => XS.icmpYes X0.here hx rfl (pc0 := 66) (pc' := 73) rfl (hb hby d1_66) rfl (feq ((by rw [hp]; decide) : ¬ (p1 = (7 : Int32)))).2 (by decide) (by decide)) ?_
  show Fin p e below s _ _ _ (s₁.setTop (mkF m 73 #[.val (.int p1)] []))
  refine Fin.step (fun _ => XS.iloadN X0.here hx rfl (hb hby d1_73) rfl) ?_
  show Fin p e below s _ _ _ (s₁.setTop (mkF m 74 #[.val (.int p1)] [(.int p1)]))
  refine Fin.step (fun _ => XS.bipush X0.here hx rfl (hb hby d1_74)) ?_
  show Fin p e below s _ _ _ (s₁.setTop (mkF m 76 #[.val (.int p1)] [(.int (8 : Int32)), (.int p1)]))
  refine Fin.step (fun _ => XS.icmpYes X0.here hx rfl (pc0 := 76) (pc' := 83) rfl (hb hby d1_76) rfl (feq ((by rw [hp]; decide) : ¬ (p1 = (8 : Int32)))).2 (by decide) (by decide)) ?_
  show Fin p e below s _ _ _ (s₁.setTop (mkF m 83 #[.val (.int p1)] []))
  refine Fin.step (fun _ => XS.iloadN X0.here hx rfl (hb hby d1_83) rfl) ?_
  show Fin p e below s _ _ _ (s₁.setTop (mkF m 84 #[.val (.int p1)] [(.int p1)]))
  refine Fin.step (fun _ => XS.bipush X0.here hx rfl (hb hby d1_84)) ?_
  show Fin p e below s _ _ _ (s₁.setTop (mkF m 86 #[.val (.int p1)] [(.int (9 : Int32)), (.int p1)]))
  refine Fin.step (fun _ => XS.icmpYes X0.here hx rfl (pc0 := 86) (pc' := 93) rfl (hb hby d1_86) rfl (feq ((by rw [hp]; decide) : ¬ (p1 = (9 : Int32)))).2 (by decide) (by decide)) ?_
  show Fin p e below s _ _ _ (s₁.setTop (mkF m 93 #[.val (.int p1)] []))
  refine Fin.step (fun _ => XS.iloadN X0.here hx rfl (hb hby d1_93) rfl) ?_
  show Fin p e below s _ _ _ (s₁.setTop (mkF m 94 #[.val (.int p1)] [(.int p1)]))
  refine Fin.step (fun _ => XS.bipush X0.here hx rfl (hb hby d1_94)) ?_
  show Fin p e below s _ _ _ (s₁.setTop (mkF m 96 #[.val (.int p1)] [(.int (10 : Int32)), (.int p1)]))
  refine Fin.step (fun _ => XS.icmpYes X0.here hx rfl (pc0 := 96) (pc' := 103) rfl (hb hby d1_96) rfl (feq ((by rw [hp]; decide) : ¬ (p1 = (10 : Int32)))).2 (by decide) (by decide)) ?_
  show Fin p e below s _ _ _ (s₁.setTop (mkF m 103 #[.val (.int p1)] []))
  refine Fin.step (fun _ => XS.iloadN X0.here hx rfl (hb hby d1_103) rfl) ?_
  show Fin p e below s _ _ _ (s₁.setTop (mkF m 104 #[.val (.int p1)] [(.int p1)]))
  refine Fin.step (fun _ => XS.bipush X0.here hx rfl (hb hby d1_104)) ?_
  show Fin p e below s _ _ _ (s₁.setTop (mkF m 106 #[.val (.int p1)] [(.int (11 : Int32)), (.int p1)]))
  refine Fin.step (fun _ => XS.icmpYes X0.here hx rfl (pc0 := 106) (pc' := 113) rfl (hb hby d1_106) rfl (feq ((by rw [hp]; decide) : ¬ (p1 = (11 : Int32)))).2 (by decide) (by decide)) ?_
  show Fin p e below s _ _ _ (s₁.setTop (mkF m 113 #[.val (.int p1)] []))
  refine Fin.step (fun _ => XS.iloadN X0.here hx rfl (hb hby d1_113) rfl) ?_
  show Fin p e below s _ _ _ (s₁.setTop (mkF m 114 #[.val (.int p1)] [(.int p1)]))
  refine Fin.step (fun _ => XS.bipush X0.here hx rfl (hb hby d1_114)) ?_
  show Fin p e below s _ _ _ (s₁.setTop (mkF m 116 #[.val (.int p1)] [(.int (12 : Int32)), (.int p1)]))
  refine Fin.step (fun _ => XS.icmpYes X0.here hx rfl (pc0 := 116) (pc' := 123) rfl (hb hby d1_116) rfl (feq ((by rw [hp]; decide) : ¬ (p1 = (12 : Int32)))).2 (by decide) (by decide)) ?_
  show Fin p e below s _ _ _ (s₁.setTop (mkF m 123 #[.val (.int p1)] []))
  refine Fin.step (fun _ => XS.iloadN X0.here hx rfl (hb hby d1_123) rfl) ?_
  show Fin p e below s _ _ _ (s₁.setTop (mkF m 124 #[.val (.int p1)] [(.int p1)]))
  refine Fin.step (fun _ => XS.bipush X0.here hx rfl (hb hby d1_124)) ?_
  show Fin p e below s _ _ _ (s₁.setTop (mkF m 126 #[.val (.int p1)] [(.int (13 : Int32)), (.int p1)]))
  refine Fin.step (fun _ => XS.icmpYes X0.here hx rfl (pc0 := 126) (pc' := 133) rfl (hb hby d1_126) rfl (feq ((by rw [hp]; decide) : ¬ (p1 = (13 : Int32)))).2 (by decide) (by decide)) ?_
  show Fin p e below s _ _ _ (s₁.setTop (mkF m 133 #[.val (.int p1)] []))
  refine Fin.step (fun _ => XS.iloadN X0.here hx rfl (hb hby d1_133) rfl) ?_
  show Fin p e below s _ _ _ (s₁.setTop (mkF m 134 #[.val (.int p1)] [(.int p1)]))
  refine Fin.step (fun _ => XS.bipush X0.here hx rfl (hb hby d1_134)) ?_
  show Fin p e below s _ _ _ (s₁.setTop (mkF m 136 #[.val (.int p1)] [(.int (14 : Int32)), (.int p1)]))
  refine Fin.step (fun _ => XS.icmpYes X0.here hx rfl (pc0 := 136) (pc' := 143) rfl (hb hby d1_136) rfl (feq ((by rw [hp]; decide) : ¬ (p1 = (14 : Int32)))).2 (by decide) (by decide)) ?_
  show Fin p e below s _ _ _ (s₁.setTop (mkF m 143 #[.val (.int p1)] []))
  refine Fin.step (fun _ => XS.iloadN X0.here hx rfl (hb hby d1_143) rfl) ?_
  show Fin p e below s _ _ _ (s₁.setTop (mkF m 144 #[.val (.int p1)] [(.int p1)]))
  refine Fin.step (fun _ => XS.bipush X0.here hx rfl (hb hby d1_144)) ?_
  show Fin p e below s _ _ _ (s₁.setTop (mkF m 146 #[.val (.int p1)] [(.int (15 : Int32)), (.int p1)]))
  refine Fin.step (fun _ => XS.icmpYes X0.here hx rfl (pc0 := 146) (pc' := 153) rfl (hb hby d1_146) rfl (feq ((by rw [hp]; decide) : ¬ (p1 = (15 : Int32)))).2 (by decide) (by decide)) ?_
  show Fin p e below s _ _ _ (s₁.setTop (mkF m 153 #[.val (.int p1)] []))
  refine Fin.step (fun _ => XS.iloadN X0.here hx rfl (hb hby d1_153) rfl) ?_
  show Fin p e below s _ _ _ (s₁.setTop (mkF m 154 #[.val (.int p1)] [(.int p1)]))
  refine Fin.step (fun _ => XS.bipush X0.here hx rfl (hb hby d1_154)) ?_
  show Fin p e below s _ _ _ (s₁.setTop (mkF m 156 #[.val (.int p1)] [(.int (16 : Int32)), (.int p1)]))
  refine Fin.step (fun _ => XS.icmpYes X0.here hx rfl (pc0 := 156) (pc' := 163) rfl (hb hby d1_156) rfl (feq ((by rw [hp]; decide) : ¬ (p1 = (16 : Int32)))).2 (by decide) (by decide)) ?_
  show Fin p e below s _ _ _ (s₁.setTop (mkF m 163 #[.val (.int p1)] []))
  obtain ⟨Ty1, Xy1, ey1, sty1⟩ := getS2 X0 hx hZ hown (host := "") (Or.inl (hw _ (List.mem_of_getElem? (i := 42) rfl))) Via.refl e0 HS_com_example_wicketgate_wicketgate_core_lds_LdsFile_SOD (g := (mkF m 163 #[.val (.int p1)] [])) rfl (hb hby d1_163)
  refine Fin.step (sty1) ?_
  show Fin p e below s _ _ _ (Ty1.setTop (mkF m 166 #[.val (.int p1)] [(.ref o1)]))
  refine Fin.retR Xy1 hx hret rfl rfl hlk (hb hby d1_166) (by decide) (by decide) ?_
  show Qp17 Z p1 o1 h0 n0 _ Ty1.heap _
  rw [ey1]
  exact ⟨rfl, N0, rfl⟩
theorem d2_0 : decode prog_51_method_11_code 0 = .ok (.aload_n 0, 1) := by decide +kernel
theorem d2_1 : decode prog_51_method_11_code 1 = .ok (.getstatic 3, 3) := by decide +kernel
theorem d2_4 : decode prog_51_method_11_code 4 = .ok (.if_acmp .eq 14, 3) := by decide +kernel
theorem d2_7 : decode prog_51_method_11_code 7 = .ok (.aload_n 0, 1) := by decide +kernel
theorem d2_8 : decode prog_51_method_11_code 8 = .ok (.getstatic 55, 3) := by decide +kernel
theorem d2_11 : decode prog_51_method_11_code 11 = .ok (.if_acmp .eq 7, 3) := by decide +kernel
theorem d2_14 : decode prog_51_method_11_code 14 = .ok (.iconst 1, 1) := by decide +kernel
theorem d2_15 : decode prog_51_method_11_code 15 = .ok (.goto 4, 3) := by decide +kernel
theorem d2_18 : decode prog_51_method_11_code 18 = .ok (.iconst 0, 1) := by decide +kernel
theorem d2_19 : decode prog_51_method_11_code 19 = .ok (.ireturn, 1) := by decide +kernel
theorem pn_2 : plainName "com/example/wicketgate/wicketgate/core/lds/LdsFile" = true := by first | (simp [plainName, overriddenIn]; done) | decide +kernel
theorem ef_rmg0 (m : MethodId) (x0 : Addr) : entryFrame m #[(.ref x0)] 1 = mkF m 0 #[.val (.ref x0)] [] := by first | (simp [entryFrame, mkF, argsToLocals, Value.category]; done) | rfl
def Qg0 (Z : State) (oc : Addr) (h0 : Heap) (n0 : Nat) (v : Option Value) (h : Heap) (L : List Loc) : Prop := v = some (.int (0 : Int32)) ∧ Fr n0 L ∧ h = h0
set_option maxRecDepth 65536 in
set_option maxHeartbeats 40000000 in
theorem rmg0 (l : Launch) (Z : State) (a0 : Array Value) (hw : ∀ d ∈ tables_1, d.before a0 Z = true) (ws : List Jvm.Cond) (oc : Addr) (h0 : Heap) (n0 : Nat) (Z0 : n0 ≤ h0.size) (HS_com_example_wicketgate_wicketgate_core_lds_LdsFile_COM : Sta Z h0 "com/example/wicketgate/wicketgate/core/lds/LdsFile" "COM" "Lcom/example/wicketgate/wicketgate/core/lds/LdsFile;" (.ref oc)) :
    MetFree l (⟨"com/example/wicketgate/wicketgate/core/lds/LdsFile", "isDataGroup", "()Z"⟩ : MethodName) (head1 (Jvm.Cond.code (⟨"com/example/wicketgate/wicketgate/core/lds/LdsFile", "isDataGroup", "()Z"⟩ : MethodName) prog_51_method_11_code 1 (some .boolean) :: ws) ({ frames := 0, cells := 0, slots := 0, locals := 0 } : Room)) (fun a U => a = #[(.ref oc)] ∧ Z.Warmed39 U.vm ∧ U.heap = h0) (fun _ _ _ _ _ => True) (fun _ U o U' => ∃ v L, o = .returned v ∧ Qg0 Z oc h0 n0 v U'.heap L ∧ FrameEnd U o U' L ({ frames := 0, cells := 0, slots := 0, locals := 0 } : Room).cells ({ frames := 0, cells := 0, slots := 0, locals := 0 } : Room).slots) := by
  refine MetFree.of_bodySF (plainFor_of_name pn_2) hisR ?_
  intro p e s m args below meth c s₁ Bd hml0 hP hK
  obtain ⟨rfl, hZ, hh⟩ := hP
  have hx := Bd.exec
  have hby := Bd.bytes
  have hlk := BodyLoose.notSynchronized Bd
  have hret := Bd.returns
  have hml : c.maxLocals = 1 := hml0
  have hown : s.vm.findClass "com/example/wicketgate/wicketgate/core/lds/LdsFile" = some m.cls := findClass_of_methodNamed Bd.named
  have hnm := (name_of_methodNamed Bd.named Bd.method).1
  have X0 : Stand p l e ({ frames := 0, cells := 0, slots := 0, locals := 0 } : Room) s m #[(.ref oc)] below meth c s₁ [] 0 0 := Stand.of_body Bd
  have e0 : s₁.heap = h0 := by rw [← hh, Bd.state]; rfl
  have N0 := Fr.nil n0
  have K0 : Keep h0 h0 [] := Keep.refl h0 _
  refine Fin.step (Q := fun v h L => Qg0 Z oc h0 n0 v h L) (st' := s₁.setTop (mkF m 0 #[.val (.ref oc)] [])) (fun t k => castTop (ef_rmg0 m oc) k) ?_
  show Fin p e below s _ _ _ (s₁.setTop (mkF m 0 #[.val (.ref oc)] []))
  refine Fin.step (fun _ => XS.aloadN X0.here hx rfl (hb hby d2_0) rfl rfl) ?_
  show Fin p e below s _ _ _ (s₁.setTop (mkF m 1 #[.val (.ref oc)] [(.ref oc)]))
  obtain ⟨Ty1, Xy1, ey1, sty1⟩ := getS2 X0 hx hZ hown (host := "") (Or.inl (hw _ (List.mem_of_getElem? (i := 13) rfl))) Via.refl e0 HS_com_example_wicketgate_wicketgate_core_lds_LdsFile_COM (g := (mkF m 1 #[.val (.ref oc)] [(.ref oc)])) rfl (hb hby d2_1)
  refine Fin.step (sty1) ?_
  show Fin p e below s _ _ _ (Ty1.setTop (mkF m 4 #[.val (.ref oc)] [(.ref oc), (.ref oc)]))
  refine Fin.step (fun _ => Jvm.RoadKit.acmp (g := (mkF m 4 #[.val (.ref oc)] [(.ref oc), (.ref oc)])) Xy1 hx rfl rfl rfl (pc0 := 4) (pc' := 18) (same := true) rfl (hb hby d2_4) rfl (decide_eq_true rfl) (by decide) (by decide)) ?_
  show Fin p e below s _ _ _ (Ty1.setTop (mkF m 18 #[.val (.ref oc)] []))
  refine Fin.step (fun _ => XS.iconst Xy1.here hx rfl (hb hby d2_18)) ?_
  show Fin p e below s _ _ _ (Ty1.setTop (mkF m 19 #[.val (.ref oc)] [(.int (0 : Int32))]))
  refine Fin.retN Xy1 hx (t := .boolean) hret (by simp) hlk (hb hby d2_19) (by decide) (by decide) ?_
  show Qg0 Z oc h0 n0 _ Ty1.heap _
  rw [ey1]
  exact ⟨rfl, N0, rfl⟩
theorem ef_rmg17 (m : MethodId) (x0 : Addr) : entryFrame m #[(.ref x0)] 1 = mkF m 0 #[.val (.ref x0)] [] := by first | (simp [entryFrame, mkF, argsToLocals, Value.category]; done) | rfl
def Qg17 (Z : State) (os : Addr) (oc : Addr) (h0 : Heap) (n0 : Nat) (v : Option Value) (h : Heap) (L : List Loc) : Prop := v = some (.int (0 : Int32)) ∧ Fr n0 L ∧ h = h0
set_option maxRecDepth 65536 in
set_option maxHeartbeats 40000000 in
theorem rmg17 (l : Launch) (Z : State) (a0 : Array Value) (hw : ∀ d ∈ tables_1, d.before a0 Z = true) (ws : List Jvm.Cond) (os : Addr) (oc : Addr) (h0 : Heap) (n0 : Nat) (Z0 : n0 ≤ h0.size) (HS_com_example_wicketgate_wicketgate_core_lds_LdsFile_COM : Sta Z h0 "com/example/wicketgate/wicketgate/core/lds/LdsFile" "COM" "Lcom/example/wicketgate/wicketgate/core/lds/LdsFile;" (.ref oc)) (HS_com_example_wicketgate_wicketgate_core_lds_LdsFile_SOD : Sta Z h0 "com/example/wicketgate/wicketgate/core/lds/LdsFile" "SOD" "Lcom/example/wicketgate/wicketgate/core/lds/LdsFile;" (.ref os)) (ne1 : ¬ os = oc) :
    MetFree l (⟨"com/example/wicketgate/wicketgate/core/lds/LdsFile", "isDataGroup", "()Z"⟩ : MethodName) (head1 (Jvm.Cond.code (⟨"com/example/wicketgate/wicketgate/core/lds/LdsFile", "isDataGroup", "()Z"⟩ : MethodName) prog_51_method_11_code 1 (some .boolean) :: ws) ({ frames := 0, cells := 0, slots := 0, locals := 0 } : Room)) (fun a U => a = #[(.ref os)] ∧ Z.Warmed39 U.vm ∧ U.heap = h0) (fun _ _ _ _ _ => True) (fun _ U o U' => ∃ v L, o = .returned v ∧ Qg17 Z os oc h0 n0 v U'.heap L ∧ FrameEnd U o U' L ({ frames := 0, cells := 0, slots := 0, locals := 0 } : Room).cells ({ frames := 0, cells := 0, slots := 0, locals := 0 } : Room).slots) := by
  refine MetFree.of_bodySF (plainFor_of_name pn_2) hisR ?_
  intro p e s m args below meth c s₁ Bd hml0 hP hK
  obtain ⟨rfl, hZ, hh⟩ := hP
  have hx := Bd.exec
  have hby := Bd.bytes
  have hlk := BodyLoose.notSynchronized Bd
  have hret := Bd.returns
  have hml : c.maxLocals = 1 := hml0
  have hown : s.vm.findClass "com/example/wicketgate/wicketgate/core/lds/LdsFile" = some m.cls := findClass_of_methodNamed Bd.named
  have hnm := (name_of_methodNamed Bd.named Bd.method).1
  have X0 : Stand p l e ({ frames := 0, cells := 0, slots := 0, locals := 0 } : Room) s m #[(.ref os)] below meth c s₁ [] 0 0 := Stand.of_body Bd
  have e0 : s₁.heap = h0 := by rw [← hh, Bd.state]; rfl
  have N0 := Fr.nil n0
  have K0 : Keep h0 h0 [] := Keep.refl h0 _
  refine Fin.step (Q := fun v h L => Qg17 Z os oc h0 n0 v h L) (st' := s₁.setTop (mkF m 0 #[.val (.ref os)] [])) (fun t k => castTop (ef_rmg17 m os) k) ?_
  show Fin p e below s _ _ _ (s₁.setTop (mkF m 0 #[.val (.ref os)] []))
  refine Fin.step (fun _ => XS.aloadN X0.here hx rfl (hb hby d2_0) rfl rfl) ?_
  show Fin p e below s _ _ _ (s₁.setTop (mkF m 1 #[.val (.ref os)] [(.ref os)]))
  obtain ⟨Ty1, Xy1, ey1, sty1⟩ := getS2 X0 hx hZ hown (host := "") (Or.inl (hw _ (List.mem_of_getElem? (i := 13) rfl))) Via.refl e0 HS_com_example_wicketgate_wicketgate_core_lds_LdsFile_COM (g := (mkF m 1 #[.val (.ref os)] [(.ref os)])) rfl (hb hby d2_1)
  refine Fin.step (sty1) ?_
  show Fin p e below s _ _ _ (Ty1.setTop (mkF m 4 #[.val (.ref os)] [(.ref oc), (.ref os)]))
  refine Fin.step (fun _ => Jvm.RoadKit.acmp (g := (mkF m 4 #[.val (.ref os)] [(.ref oc), (.ref os)])) Xy1 hx rfl rfl rfl (pc0 := 4) (pc' := 7) (same := false) rfl (hb hby d2_4) rfl (decide_eq_false fun q => ne1 (Value.ref.inj q)) (by decide) (by decide)) ?_
  show Fin p e below s _ _ _ (Ty1.setTop (mkF m 7 #[.val (.ref os)] []))
  refine Fin.step (fun _ => XS.aloadN Xy1.here hx rfl (hb hby d2_7) rfl rfl) ?_
  show Fin p e below s _ _ _ (Ty1.setTop (mkF m 8 #[.val (.ref os)] [(.ref os)]))
  obtain ⟨Ty2, Xy2, ey2, sty2⟩ := getS2 Xy1 hx hZ hown (host := "") (Or.inl (hw _ (List.mem_of_getElem? (i := 16) rfl))) Via.refl ey1 HS_com_example_wicketgate_wicketgate_core_lds_LdsFile_SOD (g := (mkF m 8 #[.val (.ref os)] [(.ref os)])) rfl (hb hby d2_8)
  refine Fin.step (sty2) ?_
  show Fin p e below s _ _ _ (Ty2.setTop (mkF m 11 #[.val (.ref os)] [(.ref os), (.ref os)]))
  refine Fin.step (fun _ => Jvm.RoadKit.acmp (g := (mkF m 11 #[.val (.ref os)] [(.ref os), (.ref os)])) Xy2 hx rfl rfl rfl (pc0 := 11) (pc' := 18) (same := true) rfl (hb hby d2_11) rfl (decide_eq_true rfl) (by decide) (by decide)) ?_
  show Fin p e below s _ _ _ (Ty2.setTop (mkF m 18 #[.val (.ref os)] []))
  refine Fin.step (fun _ => XS.iconst Xy2.here hx rfl (hb hby d2_18)) ?_
  show Fin p e below s _ _ _ (Ty2.setTop (mkF m 19 #[.val (.ref os)] [(.int (0 : Int32))]))
  refine Fin.retN Xy2 hx (t := .boolean) hret (by simp) hlk (hb hby d2_19) (by decide) (by decide) ?_
  show Qg17 Z os oc h0 n0 _ Ty2.heap _
  rw [ey2]
  exact ⟨rfl, N0, rfl⟩
theorem ef_rmg1 (m : MethodId) (x0 : Addr) : entryFrame m #[(.ref x0)] 1 = mkF m 0 #[.val (.ref x0)] [] := by first | (simp [entryFrame, mkF, argsToLocals, Value.category]; done) | rfl
def Qg1 (Z : State) (a1 : Addr) (oc : Addr) (os : Addr) (h0 : Heap) (n0 : Nat) (v : Option Value) (h : Heap) (L : List Loc) : Prop := v = some (.int (1 : Int32)) ∧ Fr n0 L ∧ h = h0
set_option maxRecDepth 65536 in
set_option maxHeartbeats 40000000 in
theorem rmg1 (l : Launch) (Z : State) (a0 : Array Value) (hw : ∀ d ∈ tables_1, d.before a0 Z = true) (ws : List Jvm.Cond) (a1 : Addr) (oc : Addr) (os : Addr) (h0 : Heap) (n0 : Nat) (Z0 : n0 ≤ h0.size) (HS_com_example_wicketgate_wicketgate_core_lds_LdsFile_COM : Sta Z h0 "com/example/wicketgate/wicketgate/core/lds/LdsFile" "COM" "Lcom/example/wicketgate/wicketgate/core/lds/LdsFile;" (.ref oc)) (HS_com_example_wicketgate_wicketgate_core_lds_LdsFile_SOD : Sta Z h0 "com/example/wicketgate/wicketgate/core/lds/LdsFile" "SOD" "Lcom/example/wicketgate/wicketgate/core/lds/LdsFile;" (.ref os)) (ne1 : ¬ a1 = oc) (ne2 : ¬ a1 = os) :
    MetFree l (⟨"com/example/wicketgate/wicketgate/core/lds/LdsFile", "isDataGroup", "()Z"⟩ : MethodName) (head1 (Jvm.Cond.code (⟨"com/example/wicketgate/wicketgate/core/lds/LdsFile", "isDataGroup", "()Z"⟩ : MethodName) prog_51_method_11_code 1 (some .boolean) :: ws) ({ frames := 0, cells := 0, slots := 0, locals := 0 } : Room)) (fun a U => a = #[(.ref a1)] ∧ Z.Warmed39 U.vm ∧ U.heap = h0) (fun _ _ _ _ _ => True) (fun _ U o U' => ∃ v L, o = .returned v ∧ Qg1 Z a1 oc os h0 n0 v U'.heap L ∧ FrameEnd U o U' L ({ frames := 0, cells := 0, slots := 0, locals := 0 } : Room).cells ({ frames := 0, cells := 0, slots := 0, locals := 0 } : Room).slots) := by
  refine MetFree.of_bodySF (plainFor_of_name pn_2) hisR ?_
  intro p e s m args below meth c s₁ Bd hml0 hP hK
  obtain ⟨rfl, hZ, hh⟩ := hP
  have hx := Bd.exec
  have hby := Bd.bytes
  have hlk := BodyLoose.notSynchronized Bd
  have hret := Bd.returns
  have hml : c.maxLocals = 1 := hml0
  have hown : s.vm.findClass "com/example/wicketgate/wicketgate/core/lds/LdsFile" = some m.cls := findClass_of_methodNamed Bd.named
  have hnm := (name_of_methodNamed Bd.named Bd.method).1
  have X0 : Stand p l e ({ frames := 0, cells := 0, slots := 0, locals := 0 } : Room) s m #[(.ref a1)] below meth c s₁ [] 0 0 := Stand.of_body Bd
  have e0 : s₁.heap = h0 := by rw [← hh, Bd.state]; rfl
  have N0 := Fr.nil n0
  have K0 : Keep h0 h0 [] := Keep.refl h0 _
  refine Fin.step (Q := fun v h L => Qg1 Z a1 oc os h0 n0 v h L) (st' := s₁.setTop (mkF m 0 #[.val (.ref a1)] [])) (fun t k => castTop (ef_rmg1 m a1) k) ?_
  show Fin p e below s _ _ _ (s₁.setTop (mkF m 0 #[.val (.ref a1)] []))
  refine Fin.step (fun _ => XS.aloadN X0.here hx rfl (hb hby d2_0) rfl rfl) ?_
  show Fin p e below s _ _ _ (s₁.setTop (mkF m 1 #[.val (.ref a1)] [(.ref a1)]))
  obtain ⟨Ty1, Xy1, ey1, sty1⟩ := getS2 X0 hx hZ hown (host := "") (Or.inl (hw _ (List.mem_of_getElem? (i := 13) rfl))) Via.refl e0 HS_com_example_wicketgate_wicketgate_core_lds_LdsFile_COM (g := (mkF m 1 #[.val (.ref a1)] [(.ref a1)])) rfl (hb hby d2_1)
  refine Fin.step (sty1) ?_
  show Fin p e below s _ _ _ (Ty1.setTop (mkF m 4 #[.val (.ref a1)] [(.ref oc), (.ref a1)]))
  refine Fin.step (fun _ => Jvm.RoadKit.acmp (g := (mkF m 4 #[.val (.ref a1)] [(.ref oc), (.ref a1)])) Xy1 hx rfl rfl rfl (pc0 := 4) (pc' := 7) (same := false) rfl (hb hby d2_4) rfl (decide_eq_false fun q => ne1 (Value.ref.inj q)) (by decide) (by decide)) ?_
  show Fin p e below s _ _ _ (Ty1.setTop (mkF m 7 #[.val (.ref a1)] []))
  refine Fin.step (fun _ => XS.aloadN Xy1.here hx rfl (hb hby d2_7) rfl rfl) ?_
  show Fin p e below s _ _ _ (Ty1.setTop (mkF m 8 #[.val (.ref a1)] [(.ref a1)]))
  obtain ⟨Ty2, Xy2, ey2, sty2⟩ := getS2 Xy1 hx hZ hown (host := "") (Or.inl (hw _ (List.mem_of_getElem? (i := 16) rfl))) Via.refl ey1 HS_com_example_wicketgate_wicketgate_core_lds_LdsFile_SOD (g := (mkF m 8 #[.val (.ref a1)] [(.ref a1)])) rfl (hb hby d2_8)
  refine Fin.step (sty2) ?_
  show Fin p e below s _ _ _ (Ty2.setTop (mkF m 11 #[.val (.ref a1)] [(.ref os), (.ref a1)]))
  refine Fin.step (fun _ => Jvm.RoadKit.acmp (g := (mkF m 11 #[.val (.ref a1)] [(.ref os), (.ref a1)])) Xy2 hx rfl rfl rfl (pc0 := 11) (pc' := 14) (same := false) rfl (hb hby d2_11) rfl (decide_eq_false fun q => ne2 (Value.ref.inj q)) (by decide) (by decide)) ?_
  show Fin p e below s _ _ _ (Ty2.setTop (mkF m 14 #[.val (.ref a1)] []))
  refine Fin.step (fun _ => XS.iconst Xy2.here hx rfl (hb hby d2_14)) ?_
  show Fin p e below s _ _ _ (Ty2.setTop (mkF m 15 #[.val (.ref a1)] [(.int (1 : Int32))]))
  refine Fin.step (fun _ => XS.goto Xy2.here hx rfl (pc0 := 15) (pc' := 19) rfl (hb hby d2_15) (by decide) (by decide)) ?_
  show Fin p e below s _ _ _ (Ty2.setTop (mkF m 19 #[.val (.ref a1)] [(.int (1 : Int32))]))
  refine Fin.retN Xy2 hx (t := .boolean) hret (by simp) hlk (hb hby d2_19) (by decide) (by decide) ?_
  show Qg1 Z a1 oc os h0 n0 _ Ty2.heap _
  rw [ey2]
  exact ⟨rfl, N0, rfl⟩
theorem pn_0 : plainName "com/example/wicketgate/wicketgate/core/lds/LdsFileIsDataGroupPinLaw" = true := by first | (simp [plainName, overriddenIn]; done) | decide +kernel
theorem pd_0 : parseMethodDescriptor "(I)Lcom/example/wicketgate/wicketgate/core/lds/LdsFile;" = some ⟨[.int], some (.object "com/example/wicketgate/wicketgate/core/lds/LdsFile")⟩ := by decide +kernel
theorem pd_1 : parseMethodDescriptor "()Z" = some ⟨[], some .boolean⟩ := by decide +kernel
theorem ef_rm0 (m : MethodId) (x0 : Int32) : entryFrame m #[(.int x0)] maxLocals = mkF m 0 #[.val (.int x0), .unset, .unset] [] := by first | (simp [entryFrame, mkF, argsToLocals, Value.category, maxLocals]; done) | rfl
def Q0 (Z : State) (p1 : Int32) (o0 : Addr) (o1 : Addr) (o2 : Addr) (o3 : Addr) (o4 : Addr) (o5 : Addr) (o6 : Addr) (o7 : Addr) (o8 : Addr) (o9 : Addr) (o10 : Addr) (o11 : Addr) (o12 : Addr) (o13 : Addr) (o14 : Addr) (o15 : Addr) (o16 : Addr) (o17 : Addr) (h0 : Heap) (n0 : Nat) (v : Option Value) (h : Heap) (L : List Loc) : Prop := v = some (.int (1 : Int32)) ∧ Fr n0 L ∧ h = h0
set_option maxRecDepth 65536 in
set_option maxHeartbeats 40000000 in
theorem rm0 (l : Launch) (Z : State) (a0 : Array Value) (hw : ∀ d ∈ tables_1, d.before a0 Z = true) (ws : List Jvm.Cond) (p1 : Int32) (o0 : Addr) (o1 : Addr) (o2 : Addr) (o3 : Addr) (o4 : Addr) (o5 : Addr) (o6 : Addr) (o7 : Addr) (o8 : Addr) (o9 : Addr) (o10 : Addr) (o11 : Addr) (o12 : Addr) (o13 : Addr) (o14 : Addr) (o15 : Addr) (o16 : Addr) (o17 : Addr) (h0 : Heap) (n0 : Nat) (Z0 : n0 ≤ h0.size) (HS_com_example_wicketgate_wicketgate_core_lds_LdsFile_COM : Sta Z h0 "com/example/wicketgate/wicketgate/core/lds/LdsFile" "COM" "Lcom/example/wicketgate/wicketgate/core/lds/LdsFile;" (.ref o0)) (HS_com_example_wicketgate_wicketgate_core_lds_LdsFile_DG1 : Sta Z h0 "com/example/wicketgate/wicketgate/core/lds/LdsFile" "DG1" "Lcom/example/wicketgate/wicketgate/core/lds/LdsFile;" (.ref o1)) (HS_com_example_wicketgate_wicketgate_core_lds_LdsFile_DG2 : Sta Z h0 "com/example/wicketgate/wicketgate/core/lds/LdsFile" "DG2" "Lcom/example/wicketgate/wicketgate/core/lds/LdsFile;" (.ref o2)) (HS_com_example_wicketgate_wicketgate_core_lds_LdsFile_DG3 : Sta Z h0 "com/example/wicketgate/wicketgate/core/lds/LdsFile" "DG3" "Lcom/example/wicketgate/wicketgate/core/lds/LdsFile;" (.ref o3)) (HS_com_example_wicketgate_wicketgate_core_lds_LdsFile_DG4 : Sta Z h0 "com/example/wicketgate/wicketgate/core/lds/LdsFile" "DG4" "Lcom/example/wicketgate/wicketgate/core/lds/LdsFile;" (.ref o4)) (HS_com_example_wicketgate_wicketgate_core_lds_LdsFile_DG5 : Sta Z h0 "com/example/wicketgate/wicketgate/core/lds/LdsFile" "DG5" "Lcom/example/wicketgate/wicketgate/core/lds/LdsFile;" (.ref o5)) (HS_com_example_wicketgate_wicketgate_core_lds_LdsFile_DG6 : Sta Z h0 "com/example/wicketgate/wicketgate/core/lds/LdsFile" "DG6" "Lcom/example/wicketgate/wicketgate/core/lds/LdsFile;" (.ref o6)) (HS_com_example_wicketgate_wicketgate_core_lds_LdsFile_DG7 : Sta Z h0 "com/example/wicketgate/wicketgate/core/lds/LdsFile" "DG7" "Lcom/example/wicketgate/wicketgate/core/lds/LdsFile;" (.ref o7)) (HS_com_example_wicketgate_wicketgate_core_lds_LdsFile_DG8 : Sta Z h0 "com/example/wicketgate/wicketgate/core/lds/LdsFile" "DG8" "Lcom/example/wicketgate/wicketgate/core/lds/LdsFile;" (.ref o8)) (HS_com_example_wicketgate_wicketgate_core_lds_LdsFile_DG9 : Sta Z h0 "com/example/wicketgate/wicketgate/core/lds/LdsFile" "DG9" "Lcom/example/wicketgate/wicketgate/core/lds/LdsFile;" (.ref o9)) (HS_com_example_wicketgate_wicketgate_core_lds_LdsFile_DG10 : Sta Z h0 "com/example/wicketgate/wicketgate/core/lds/LdsFile" "DG10" "Lcom/example/wicketgate/wicketgate/core/lds/LdsFile;" (.ref o10)) (HS_com_example_wicketgate_wicketgate_core_lds_LdsFile_DG11 : Sta Z h0 "com/example/wicketgate/wicketgate/core/lds/LdsFile" "DG11" "Lcom/example/wicketgate/wicketgate/core/lds/LdsFile;" (.ref o11)) (HS_com_example_wicketgate_wicketgate_core_lds_LdsFile_DG12 : Sta Z h0 "com/example/wicketgate/wicketgate/core/lds/LdsFile" "DG12" "Lcom/example/wicketgate/wicketgate/core/lds/LdsFile;" (.ref o12)) (HS_com_example_wicketgate_wicketgate_core_lds_LdsFile_DG13 : Sta Z h0 "com/example/wicketgate/wicketgate/core/lds/LdsFile" "DG13" "Lcom/example/wicketgate/wicketgate/core/lds/LdsFile;" (.ref o13)) (HS_com_example_wicketgate_wicketgate_core_lds_LdsFile_DG14 : Sta Z h0 "com/example/wicketgate/wicketgate/core/lds/LdsFile" "DG14" "Lcom/example/wicketgate/wicketgate/core/lds/LdsFile;" (.ref o14)) (HS_com_example_wicketgate_wicketgate_core_lds_LdsFile_DG15 : Sta Z h0 "com/example/wicketgate/wicketgate/core/lds/LdsFile" "DG15" "Lcom/example/wicketgate/wicketgate/core/lds/LdsFile;" (.ref o15)) (HS_com_example_wicketgate_wicketgate_core_lds_LdsFile_DG16 : Sta Z h0 "com/example/wicketgate/wicketgate/core/lds/LdsFile" "DG16" "Lcom/example/wicketgate/wicketgate/core/lds/LdsFile;" (.ref o16)) (HS_com_example_wicketgate_wicketgate_core_lds_LdsFile_SOD : Sta Z h0 "com/example/wicketgate/wicketgate/core/lds/LdsFile" "SOD" "Lcom/example/wicketgate/wicketgate/core/lds/LdsFile;" (.ref o17)) (HE_o0 : Exa Z h0 o0 "com/example/wicketgate/wicketgate/core/lds/LdsFile") (HE_o1 : Exa Z h0 o1 "com/example/wicketgate/wicketgate/core/lds/LdsFile") (HE_o2 : Exa Z h0 o2 "com/example/wicketgate/wicketgate/core/lds/LdsFile") (HE_o3 : Exa Z h0 o3 "com/example/wicketgate/wicketgate/core/lds/LdsFile") (HE_o4 : Exa Z h0 o4 "com/example/wicketgate/wicketgate/core/lds/LdsFile") (HE_o5 : Exa Z h0 o5 "com/example/wicketgate/wicketgate/core/lds/LdsFile") (HE_o6 : Exa Z h0 o6 "com/example/wicketgate/wicketgate/core/lds/LdsFile") (HE_o7 : Exa Z h0 o7 "com/example/wicketgate/wicketgate/core/lds/LdsFile") (HE_o8 : Exa Z h0 o8 "com/example/wicketgate/wicketgate/core/lds/LdsFile") (HE_o9 : Exa Z h0 o9 "com/example/wicketgate/wicketgate/core/lds/LdsFile") (HE_o10 : Exa Z h0 o10 "com/example/wicketgate/wicketgate/core/lds/LdsFile") (HE_o11 : Exa Z h0 o11 "com/example/wicketgate/wicketgate/core/lds/LdsFile") (HE_o12 : Exa Z h0 o12 "com/example/wicketgate/wicketgate/core/lds/LdsFile") (HE_o13 : Exa Z h0 o13 "com/example/wicketgate/wicketgate/core/lds/LdsFile") (HE_o14 : Exa Z h0 o14 "com/example/wicketgate/wicketgate/core/lds/LdsFile") (HE_o15 : Exa Z h0 o15 "com/example/wicketgate/wicketgate/core/lds/LdsFile") (HE_o16 : Exa Z h0 o16 "com/example/wicketgate/wicketgate/core/lds/LdsFile") (HE_o17 : Exa Z h0 o17 "com/example/wicketgate/wicketgate/core/lds/LdsFile") (nc1 : ¬ o1 = o0) (nc2 : ¬ o2 = o0) (nc3 : ¬ o3 = o0) (nc4 : ¬ o4 = o0) (nc5 : ¬ o5 = o0) (nc6 : ¬ o6 = o0) (nc7 : ¬ o7 = o0) (nc8 : ¬ o8 = o0) (nc9 : ¬ o9 = o0) (nc10 : ¬ o10 = o0) (nc11 : ¬ o11 = o0) (nc12 : ¬ o12 = o0) (nc13 : ¬ o13 = o0) (nc14 : ¬ o14 = o0) (nc15 : ¬ o15 = o0) (nc16 : ¬ o16 = o0) (nc17 : ¬ o17 = o0) (ns1 : ¬ o1 = o17) (ns2 : ¬ o2 = o17) (ns3 : ¬ o3 = o17) (ns4 : ¬ o4 = o17) (ns5 : ¬ o5 = o17) (ns6 : ¬ o6 = o17) (ns7 : ¬ o7 = o17) (ns8 : ¬ o8 = o17) (ns9 : ¬ o9 = o17) (ns10 : ¬ o10 = o17) (ns11 : ¬ o11 = o17) (ns12 : ¬ o12 = o17) (ns13 : ¬ o13 = o17) (ns14 : ¬ o14 = o17) (ns15 : ¬ o15 = o17) (ns16 : ¬ o16 = o17) :
    MetFree l x (head1 (Jvm.Cond.code x code maxLocals ret :: ws) room_1) (fun a U => a = #[(.int p1)] ∧ Z.Warmed39 U.vm ∧ U.heap = h0) (fun _ _ _ _ _ => True) (fun _ U o U' => ∃ v L, o = .returned v ∧ Q0 Z p1 o0 o1 o2 o3 o4 o5 o6 o7 o8 o9 o10 o11 o12 o13 o14 o15 o16 o17 h0 n0 v U'.heap L ∧ FrameEnd U o U' L room_1.cells room_1.slots) := by
  refine MetFree.of_bodySF (plainFor_of_name pn_0) hisR ?_
  intro p e s m args below meth c s₁ Bd hml0 hP hK
  obtain ⟨rfl, hZ, hh⟩ := hP
  have hx := Bd.exec
  have hby := Bd.bytes
  have hlk := BodyLoose.notSynchronized Bd
  have hret := Bd.returns
  have hml : c.maxLocals = 3 := hml0
  have hown : s.vm.findClass "com/example/wicketgate/wicketgate/core/lds/LdsFileIsDataGroupPinLaw" = some m.cls := findClass_of_methodNamed Bd.named
  have hnm := (name_of_methodNamed Bd.named Bd.method).1
  have X0 : Stand p l e room_1 s m #[(.int p1)] below meth c s₁ [] 0 0 := Stand.of_body Bd
  have e0 : s₁.heap = h0 := by rw [← hh, Bd.state]; rfl
  have N0 := Fr.nil n0
  have K0 : Keep h0 h0 [] := Keep.refl h0 _
  refine Fin.step (Q := fun v h L => Q0 Z p1 o0 o1 o2 o3 o4 o5 o6 o7 o8 o9 o10 o11 o12 o13 o14 o15 o16 o17 h0 n0 v h L) (st' := s₁.setTop (mkF m 0 #[.val (.int p1), .unset, .unset] [])) (fun t k => castTop (ef_rm0 m p1) k) ?_
  show Fin p e below s _ _ _ (s₁.setTop (mkF m 0 #[.val (.int p1), .unset, .unset] []))
  refine Fin.step (fun _ => XS.iloadN X0.here hx rfl (hb hby at_0) rfl) ?_
  show Fin p e below s _ _ _ (s₁.setTop (mkF m 1 #[.val (.int p1), .unset, .unset] [(.int p1)]))
  refine Fin.step (X0.ldcInt hx hown (mvT hZ (hw _ (List.mem_of_getElem? (i := 0) rfl))) (g := (mkF m 1 #[.val (.int p1), .unset, .unset] [(.int p1)])) rfl (hb hby at_1)) ?_
  show Fin p e below s _ _ _ (s₁.setTop (mkF m 3 #[.val (.int p1), .unset, .unset] [(.int (2147483647 : Int32)), (.int p1)]))
  refine Fin.step (fun _ => XS.iand X0.here hx rfl (hb hby at_3) rfl) ?_
  show Fin p e below s _ _ _ (s₁.setTop (mkF m 4 #[.val (.int p1), .unset, .unset] [(.int (p1 &&& (2147483647 : Int32)))]))
  refine Fin.step (fun _ => XS.bipush X0.here hx rfl (hb hby at_4)) ?_
  show Fin p e below s _ _ _ (s₁.setTop (mkF m 6 #[.val (.int p1), .unset, .unset] [(.int (18 : Int32)), (.int (p1 &&& (2147483647 : Int32)))]))
  refine Fin.step (fun _ => iremM X0 hx (g := (mkF m 6 #[.val (.int p1), .unset, .unset] [(.int (18 : Int32)), (.int (p1 &&& (2147483647 : Int32)))])) rfl (hb hby at_6) rfl (by decide)) ?_
  show Fin p e below s _ _ _ (s₁.setTop (mkF m 7 #[.val (.int p1), .unset, .unset] [(.int ((p1 &&& (2147483647 : Int32)) % (18 : Int32)))]))
  refine Fin.step (fun _ => XS.istoreN X0.here hx rfl (hb hby at_7) rfl (l' := #[.val (.int p1), .val (.int ((p1 &&& (2147483647 : Int32)) % (18 : Int32))), .unset]) rfl) ?_
  show Fin p e below s _ _ _ (s₁.setTop (mkF m 8 #[.val (.int p1), .val (.int ((p1 &&& (2147483647 : Int32)) % (18 : Int32))), .unset] []))
  rcases own_k18 p1 with qn | qn | qn | qn | qn | qn | qn | qn | qn | qn | qn | qn | qn | qn | qn | qn | qn | qn
  · rw [qn]
    show Fin p e below s _ _ _ (s₁.setTop (mkF m 8 #[.val (.int p1), .val (.int (0 : Int32)), .unset] []))
    refine Fin.step (fun _ => XS.iloadN X0.here hx rfl (hb hby at_8) rfl) ?_
    show Fin p e below s _ _ _ (s₁.setTop (mkF m 9 #[.val (.int p1), .val (.int (0 : Int32)), .unset] [(.int (0 : Int32))]))
    refine Fin.step (fun _ => XS.iconst X0.here hx rfl (hb hby at_9)) ?_
    show Fin p e below s _ _ _ (s₁.setTop (mkF m 10 #[.val (.int p1), .val (.int (0 : Int32)), .unset] [(.int (1 : Int32)), (.int (0 : Int32))]))
    refine Fin.step (fun _ => XS.icmpYes X0.here hx rfl (pc0 := 10) (pc' := 23) rfl (hb hby at_10) rfl (tlt ((by decide) : ((0 : Int32) < (1 : Int32)))).1 (by decide) (by decide)) ?_
    show Fin p e below s _ _ _ (s₁.setTop (mkF m 23 #[.val (.int p1), .val (.int (0 : Int32)), .unset] []))
    refine Fin.step (fun _ => XS.iconst X0.here hx rfl (hb hby at_23)) ?_
    show Fin p e below s _ _ _ (s₁.setTop (mkF m 24 #[.val (.int p1), .val (.int (0 : Int32)), .unset] [(.int (0 : Int32))]))
    refine Fin.step (fun _ => XS.istoreN X0.here hx rfl (hb hby at_24) rfl (l' := #[.val (.int p1), .val (.int (0 : Int32)), .val (.int (0 : Int32))]) rfl) ?_
    show Fin p e below s _ _ _ (s₁.setTop (mkF m 25 #[.val (.int p1), .val (.int (0 : Int32)), .val (.int (0 : Int32))] []))
    refine Fin.step (fun _ => XS.iloadN X0.here hx rfl (hb hby at_25) rfl) ?_
    show Fin p e below s _ _ _ (s₁.setTop (mkF m 26 #[.val (.int p1), .val (.int (0 : Int32)), .val (.int (0 : Int32))] [(.int (0 : Int32))]))
    obtain ⟨_, _, ⟨Ty1, Ly1, ky1, ny1⟩, -, Xy1, ⟨Lcy1, hQy1, ly1, yy1, zy1⟩, sty1⟩ := Jvm.LawKit.callS X0 hx (y := (⟨"com/example/wicketgate/wicketgate/core/lds/LdsFileIsDataGroupPinLaw", "pick", "(I)Lcom/example/wicketgate/wicketgate/core/lds/LdsFile;"⟩ : MethodName)) hown (mvT hZ (hw _ (List.mem_of_getElem? (i := 1) rfl))) (mvT hZ (hw _ (List.mem_of_getElem? (i := 2) rfl))) (mvT hZ (hw _ (List.mem_of_getElem? (i := 3) rfl))) (mvT hZ (hw _ (List.mem_of_getElem? (i := 4) rfl))) (by decide) (backOf (W := 0) (rmp0 l Z a0 hw [] (0 : Int32) o0 h0 n0 Z0 HS_com_example_wicketgate_wicketgate_core_lds_LdsFile_COM rfl) hZ (hw _ (List.mem_of_getElem? (i := 4) rfl)) (hw _ (List.mem_of_getElem? (i := 3) rfl)) (by decide) (by decide)) (g := (mkF m 26 #[.val (.int p1), .val (.int (0 : Int32)), .val (.int (0 : Int32))] [(.int (0 : Int32))])) rfl (by rw [hml]; rfl) (argsL := [(.int (0 : Int32))]) (rest := []) (lenOf pd_0 rfl) rfl (by show 2 * 0 + _ ≤ _; exact Nat.le_of_eq rfl) (hb hby at_26) (fun _ _ => ⟨rfl, e0, (by decide : 0 + 0 ≤ _), (by decide : 0 + 0 ≤ _)⟩)
    dsimp only [Pt.U, Pt.locs, Pt.cells, Pt.slots] at Xy1 ly1 yy1 zy1 sty1 hQy1
    subst ly1 yy1 zy1
    obtain ⟨rfl, Nqy1, eqy1⟩ := hQy1
    have Ny1 := Fr.app N0 Nqy1
    refine Fin.step (sty1) ?_
    show Fin p e below s _ _ _ (Ty1.setTop (mkF m 29 #[.val (.int p1), .val (.int (0 : Int32)), .val (.int (0 : Int32))] [(.ref o0)]))
    obtain ⟨cqy2, kqy2, qy2a, qy2b, qy2c⟩ := isOf hZ eqy1 HE_o0
    obtain ⟨_, _, ⟨Ty2, Ly2, ky2, ny2⟩, -, Xy2, ⟨Lcy2, hQy2, ly2, yy2, zy2⟩, sty2⟩ := Xy1.virtualBack hx (y := (⟨"com/example/wicketgate/wicketgate/core/lds/LdsFile", "isDataGroup", "()Z"⟩ : MethodName)) (z := (⟨"com/example/wicketgate/wicketgate/core/lds/LdsFile", "isDataGroup", "()Z"⟩ : MethodName)) hown (mvT hZ (hw _ (List.mem_of_getElem? (i := 8) rfl))) (mvT hZ (hw _ (List.mem_of_getElem? (i := 9) rfl))) (notFace_of_selects (args := #[]) (mvT hZ (hw _ (List.mem_of_getElem? (i := 11) rfl)))) (mvT hZ (hw _ (List.mem_of_getElem? (i := 11) rfl))) (mvT hZ (hw _ (List.mem_of_getElem? (i := 10) rfl))) (by decide) (backOf (W := 0) (rmg0 l Z a0 hw [] o0 h0 n0 Z0 HS_com_example_wicketgate_wicketgate_core_lds_LdsFile_COM) hZ (hw _ (List.mem_of_getElem? (i := 12) rfl)) (hw _ (List.mem_of_getElem? (i := 6) rfl)) (by decide) (by decide)) qy2a qy2c (g := (mkF m 29 #[.val (.int p1), .val (.int (0 : Int32)), .val (.int (0 : Int32))] [(.ref o0)])) rfl (by rw [hml]; rfl) (Steps.refl _) (argsL := []) (rest := []) (lenOf pd_1 rfl) rfl (by show 2 * 0 + _ ≤ _; exact Nat.le_of_eq rfl) (hb hby at_29) (fun _ _ => ⟨rfl, eqy1, (by decide : 0 + 0 ≤ _), (by decide : 0 + 0 ≤ _)⟩)
    dsimp only [Pt.U, Pt.locs, Pt.cells, Pt.slots] at Xy2 ly2 yy2 zy2 sty2 hQy2
    subst ly2 yy2 zy2
    obtain ⟨rfl, Nqy2, eqy2⟩ := hQy2
    have Ny2 := Fr.app Ny1 Nqy2
    refine Fin.step (fun _ k => sty2.trans k) ?_
    show Fin p e below s _ _ _ (Ty2.setTop (mkF m 32 #[.val (.int p1), .val (.int (0 : Int32)), .val (.int (0 : Int32))] [(.int (0 : Int32))]))
    refine Fin.step (fun _ => XS.iloadN Xy2.here hx rfl (hb hby at_32) rfl) ?_
    show Fin p e below s _ _ _ (Ty2.setTop (mkF m 33 #[.val (.int p1), .val (.int (0 : Int32)), .val (.int (0 : Int32))] [(.int (0 : Int32)), (.int (0 : Int32))]))
    refine Fin.step (fun _ => XS.icmpNo Xy2.here hx rfl (hb hby at_33) rfl (teq ((by decide) : ((0 : Int32) = (0 : Int32)))).2) ?_
    show Fin p e below s _ _ _ (Ty2.setTop (mkF m 36 #[.val (.int p1), .val (.int (0 : Int32)), .val (.int (0 : Int32))] []))
    refine Fin.step (fun _ => XS.iconst Xy2.here hx rfl (hb hby at_36)) ?_
    show Fin p e below s _ _ _ (Ty2.setTop (mkF m 37 #[.val (.int p1), .val (.int (0 : Int32)), .val (.int (0 : Int32))] [(.int (1 : Int32))]))
    refine Fin.step (fun _ => XS.goto Xy2.here hx rfl (pc0 := 37) (pc' := 41) rfl (hb hby at_37) (by decide) (by decide)) ?_
    show Fin p e below s _ _ _ (Ty2.setTop (mkF m 41 #[.val (.int p1), .val (.int (0 : Int32)), .val (.int (0 : Int32))] [(.int (1 : Int32))]))
    refine Fin.retN Xy2 hx (t := .boolean) hret (by simp) hlk (hb hby at_41) (by decide) (by decide) ?_
    show Q0 Z p1 o0 o1 o2 o3 o4 o5 o6 o7 o8 o9 o10 o11 o12 o13 o14 o15 o16 o17 h0 n0 _ Ty2.heap _
    rw [eqy2]
    exact ⟨rfl, Ny2, rfl⟩
  · rw [qn]
    show Fin p e below s _ _ _ (s₁.setTop (mkF m 8 #[.val (.int p1), .val (.int (1 : Int32)), .unset] []))
    refine Fin.step (fun _ => XS.iloadN X0.here hx rfl (hb hby at_8) rfl) ?_
    show Fin p e below s _ _ _ (s₁.setTop (mkF m 9 #[.val (.int p1), .val (.int (1 : Int32)), .unset] [(.int (1 : Int32))]))
    refine Fin.step (fun _ => XS.iconst X0.here hx rfl (hb hby at_9)) ?_
    show Fin p e below s _ _ _ (s₁.setTop (mkF m 10 #[.val (.int p1), .val (.int (1 : Int32)), .unset] [(.int (1 : Int32)), (.int (1 : Int32))]))
    refine Fin.step (fun _ => XS.icmpNo X0.here hx rfl (hb hby at_10) rfl (flt ((by decide) : ¬ ((1 : Int32) < (1 : Int32)))).1) ?_
    show Fin p e below s _ _ _ (s₁.setTop (mkF m 13 #[.val (.int p1), .val (.int (1 : Int32)), .unset] []))
    refine Fin.step (fun _ => XS.iloadN X0.here hx rfl (hb hby at_13) rfl) ?_
    show Fin p e below s _ _ _ (s₁.setTop (mkF m 14 #[.val (.int p1), .val (.int (1 : Int32)), .unset] [(.int (1 : Int32))]))
    refine Fin.step (fun _ => XS.bipush X0.here hx rfl (hb hby at_14)) ?_
    show Fin p e below s _ _ _ (s₁.setTop (mkF m 16 #[.val (.int p1), .val (.int (1 : Int32)), .unset] [(.int (16 : Int32)), (.int (1 : Int32))]))
    refine Fin.step (fun _ => XS.icmpNo X0.here hx rfl (hb hby at_16) rfl (flt ((by decide) : ¬ ((16 : Int32) < (1 : Int32)))).2.2.1) ?_
    show Fin p e below s _ _ _ (s₁.setTop (mkF m 19 #[.val (.int p1), .val (.int (1 : Int32)), .unset] []))
    refine Fin.step (fun _ => XS.iconst X0.here hx rfl (hb hby at_19)) ?_
    show Fin p e below s _ _ _ (s₁.setTop (mkF m 20 #[.val (.int p1), .val (.int (1 : Int32)), .unset] [(.int (1 : Int32))]))
    refine Fin.step (fun _ => XS.goto X0.here hx rfl (pc0 := 20) (pc' := 24) rfl (hb hby at_20) (by decide) (by decide)) ?_
    show Fin p e below s _ _ _ (s₁.setTop (mkF m 24 #[.val (.int p1), .val (.int (1 : Int32)), .unset] [(.int (1 : Int32))]))
    refine Fin.step (fun _ => XS.istoreN X0.here hx rfl (hb hby at_24) rfl (l' := #[.val (.int p1), .val (.int (1 : Int32)), .val (.int (1 : Int32))]) rfl) ?_
    show Fin p e below s _ _ _ (s₁.setTop (mkF m 25 #[.val (.int p1), .val (.int (1 : Int32)), .val (.int (1 : Int32))] []))
    refine Fin.step (fun _ => XS.iloadN X0.here hx rfl (hb hby at_25) rfl) ?_
    show Fin p e below s _ _ _ (s₁.setTop (mkF m 26 #[.val (.int p1), .val (.int (1 : Int32)), .val (.int (1 : Int32))] [(.int (1 : Int32))]))
    obtain ⟨_, _, ⟨Ty3, Ly3, ky3, ny3⟩, -, Xy3, ⟨Lcy3, hQy3, ly3, yy3, zy3⟩, sty3⟩ := Jvm.LawKit.callS X0 hx (y := (⟨"com/example/wicketgate/wicketgate/core/lds/LdsFileIsDataGroupPinLaw", "pick", "(I)Lcom/example/wicketgate/wicketgate/core/lds/LdsFile;"⟩ : MethodName)) hown (mvT hZ (hw _ (List.mem_of_getElem? (i := 1) rfl))) (mvT hZ (hw _ (List.mem_of_getElem? (i := 2) rfl))) (mvT hZ (hw _ (List.mem_of_getElem? (i := 3) rfl))) (mvT hZ (hw _ (List.mem_of_getElem? (i := 4) rfl))) (by decide) (backOf (W := 0) (rmp1 l Z a0 hw [] (1 : Int32) o1 h0 n0 Z0 HS_com_example_wicketgate_wicketgate_core_lds_LdsFile_DG1 rfl) hZ (hw _ (List.mem_of_getElem? (i := 4) rfl)) (hw _ (List.mem_of_getElem? (i := 3) rfl)) (by decide) (by decide)) (g := (mkF m 26 #[.val (.int p1), .val (.int (1 : Int32)), .val (.int (1 : Int32))] [(.int (1 : Int32))])) rfl (by rw [hml]; rfl) (argsL := [(.int (1 : Int32))]) (rest := []) (lenOf pd_0 rfl) rfl (by show 2 * 0 + _ ≤ _; exact Nat.le_of_eq rfl) (hb hby at_26) (fun _ _ => ⟨rfl, e0, (by decide : 0 + 0 ≤ _), (by decide : 0 + 0 ≤ _)⟩)
    dsimp only [Pt.U, Pt.locs, Pt.cells, Pt.slots] at Xy3 ly3 yy3 zy3 sty3 hQy3
    subst ly3 yy3 zy3
    obtain ⟨rfl, Nqy3, eqy3⟩ := hQy3
    have Ny3 := Fr.app N0 Nqy3
    refine Fin.step (sty3) ?_
    show Fin p e below s _ _ _ (Ty3.setTop (mkF m 29 #[.val (.int p1), .val (.int (1 : Int32)), .val (.int (1 : Int32))] [(.ref o1)]))
    obtain ⟨cqy4, kqy4, qy4a, qy4b, qy4c⟩ := isOf hZ eqy3 HE_o1
    obtain ⟨_, _, ⟨Ty4, Ly4, ky4, ny4⟩, -, Xy4, ⟨Lcy4, hQy4, ly4, yy4, zy4⟩, sty4⟩ := Xy3.virtualBack hx (y := (⟨"com/example/wicketgate/wicketgate/core/lds/LdsFile", "isDataGroup", "()Z"⟩ : MethodName)) (z := (⟨"com/example/wicketgate/wicketgate/core/lds/LdsFile", "isDataGroup", "()Z"⟩ : MethodName)) hown (mvT hZ (hw _ (List.mem_of_getElem? (i := 8) rfl))) (mvT hZ (hw _ (List.mem_of_getElem? (i := 9) rfl))) (notFace_of_selects (args := #[]) (mvT hZ (hw _ (List.mem_of_getElem? (i := 11) rfl)))) (mvT hZ (hw _ (List.mem_of_getElem? (i := 11) rfl))) (mvT hZ (hw _ (List.mem_of_getElem? (i := 10) rfl))) (by decide) (backOf (W := 0) (rmg1 l Z a0 hw [] o1 o0 o17 h0 n0 Z0 HS_com_example_wicketgate_wicketgate_core_lds_LdsFile_COM HS_com_example_wicketgate_wicketgate_core_lds_LdsFile_SOD nc1 ns1) hZ (hw _ (List.mem_of_getElem? (i := 12) rfl)) (hw _ (List.mem_of_getElem? (i := 6) rfl)) (by decide) (by decide)) qy4a qy4c (g := (mkF m 29 #[.val (.int p1), .val (.int (1 : Int32)), .val (.int (1 : Int32))] [(.ref o1)])) rfl (by rw [hml]; rfl) (Steps.refl _) (argsL := []) (rest := []) (lenOf pd_1 rfl) rfl (by show 2 * 0 + _ ≤ _; exact Nat.le_of_eq rfl) (hb hby at_29) (fun _ _ => ⟨rfl, eqy3, (by decide : 0 + 0 ≤ _), (by decide : 0 + 0 ≤ _)⟩)
    dsimp only [Pt.U, Pt.locs, Pt.cells, Pt.slots] at Xy4 ly4 yy4 zy4 sty4 hQy4
    subst ly4 yy4 zy4
    obtain ⟨rfl, Nqy4, eqy4⟩ := hQy4
    have Ny4 := Fr.app Ny3 Nqy4
    refine Fin.step (fun _ k => sty4.trans k) ?_
    show Fin p e below s _ _ _ (Ty4.setTop (mkF m 32 #[.val (.int p1), .val (.int (1 : Int32)), .val (.int (1 : Int32))] [(.int (1 : Int32))]))
    refine Fin.step (fun _ => XS.iloadN Xy4.here hx rfl (hb hby at_32) rfl) ?_
    show Fin p e below s _ _ _ (Ty4.setTop (mkF m 33 #[.val (.int p1), .val (.int (1 : Int32)), .val (.int (1 : Int32))] [(.int (1 : Int32)), (.int (1 : Int32))]))
    refine Fin.step (fun _ => XS.icmpNo Xy4.here hx rfl (hb hby at_33) rfl (teq ((by decide) : ((1 : Int32) = (1 : Int32)))).2) ?_
    show Fin p e below s _ _ _ (Ty4.setTop (mkF m 36 #[.val (.int p1), .val (.int (1 : Int32)), .val (.int (1 : Int32))] []))
    refine Fin.step (fun _ => XS.iconst Xy4.here hx rfl (hb hby at_36)) ?_
    show Fin p e below s _ _ _ (Ty4.setTop (mkF m 37 #[.val (.int p1), .val (.int (1 : Int32)), .val (.int (1 : Int32))] [(.int (1 : Int32))]))
    refine Fin.step (fun _ => XS.goto Xy4.here hx rfl (pc0 := 37) (pc' := 41) rfl (hb hby at_37) (by decide) (by decide)) ?_
    show Fin p e below s _ _ _ (Ty4.setTop (mkF m 41 #[.val (.int p1), .val (.int (1 : Int32)), .val (.int (1 : Int32))] [(.int (1 : Int32))]))
    refine Fin.retN Xy4 hx (t := .boolean) hret (by simp) hlk (hb hby at_41) (by decide) (by decide) ?_
    show Q0 Z p1 o0 o1 o2 o3 o4 o5 o6 o7 o8 o9 o10 o11 o12 o13 o14 o15 o16 o17 h0 n0 _ Ty4.heap _
    rw [eqy4]
    exact ⟨rfl, Ny4, rfl⟩
  · rw [qn]
    show Fin p e below s _ _ _ (s₁.setTop (mkF m 8 #[.val (.int p1), .val (.int (2 : Int32)), .unset] []))
    refine Fin.step (fun _ => XS.iloadN X0.here hx rfl (hb hby at_8) rfl) ?_
    show Fin p e below s _ _ _ (s₁.setTop (mkF m 9 #[.val (.int p1), .val (.int (2 : Int32)), .unset] [(.int (2 : Int32))]))
    refine Fin.step (fun _ => XS.iconst X0.here hx rfl (hb hby at_9)) ?_
    show Fin p e below s _ _ _ (s₁.setTop (mkF m 10 #[.val (.int p1), .val (.int (2 : Int32)), .unset] [(.int (1 : Int32)), (.int (2 : Int32))]))
    refine Fin.step (fun _ => XS.icmpNo X0.here hx rfl (hb hby at_10) rfl (flt ((by decide) : ¬ ((2 : Int32) < (1 : Int32)))).1) ?_
    show Fin p e below s _ _ _ (s₁.setTop (mkF m 13 #[.val (.int p1), .val (.int (2 : Int32)), .unset] []))
    refine Fin.step (fun _ => XS.iloadN X0.here hx rfl (hb hby at_13) rfl) ?_
    show Fin p e below s _ _ _ (s₁.setTop (mkF m 14 #[.val (.int p1), .val (.int (2 : Int32)), .unset] [(.int (2 : Int32))]))
    refine Fin.step (fun _ => XS.bipush X0.here hx rfl (hb hby at_14)) ?_
    show Fin p e below s _ _ _ (s₁.setTop (mkF m 16 #[.val (.int p1), .val (.int (2 : Int32)), .unset] [(.int (16 : Int32)), (.int (2 : Int32))]))
    refine Fin.step (fun _ => XS.icmpNo X0.here hx rfl (hb hby at_16) rfl (flt ((by decide) : ¬ ((16 : Int32) < (2 : Int32)))).2.2.1) ?_
    show Fin p e below s _ _ _ (s₁.setTop (mkF m 19 #[.val (.int p1), .val (.int (2 : Int32)), .unset] []))
    refine Fin.step (fun _ => XS.iconst X0.here hx rfl (hb hby at_19)) ?_
    show Fin p e below s _ _ _ (s₁.setTop (mkF m 20 #[.val (.int p1), .val (.int (2 : Int32)), .unset] [(.int (1 : Int32))]))
    refine Fin.step (fun _ => XS.goto X0.here hx rfl (pc0 := 20) (pc' := 24) rfl (hb hby at_20) (by decide) (by decide)) ?_
    show Fin p e below s _ _ _ (s₁.setTop (mkF m 24 #[.val (.int p1), .val (.int (2 : Int32)), .unset] [(.int (1 : Int32))]))
    refine Fin.step (fun _ => XS.istoreN X0.here hx rfl (hb hby at_24) rfl (l' := #[.val (.int p1), .val (.int (2 : Int32)), .val (.int (1 : Int32))]) rfl) ?_
    show Fin p e below s _ _ _ (s₁.setTop (mkF m 25 #[.val (.int p1), .val (.int (2 : Int32)), .val (.int (1 : Int32))] []))
    refine Fin.step (fun _ => XS.iloadN X0.here hx rfl (hb hby at_25) rfl) ?_
    show Fin p e below s _ _ _ (s₁.setTop (mkF m 26 #[.val (.int p1), .val (.int (2 : Int32)), .val (.int (1 : Int32))] [(.int (2 : Int32))]))
    obtain ⟨_, _, ⟨Ty5, Ly5, ky5, ny5⟩, -, Xy5, ⟨Lcy5, hQy5, ly5, yy5, zy5⟩, sty5⟩ := Jvm.LawKit.callS X0 hx (y := (⟨"com/example/wicketgate/wicketgate/core/lds/LdsFileIsDataGroupPinLaw", "pick", "(I)Lcom/example/wicketgate/wicketgate/core/lds/LdsFile;"⟩ : MethodName)) hown (mvT hZ (hw _ (List.mem_of_getElem? (i := 1) rfl))) (mvT hZ (hw _ (List.mem_of_getElem? (i := 2) rfl))) (mvT hZ (hw _ (List.mem_of_getElem? (i := 3) rfl))) (mvT hZ (hw _ (List.mem_of_getElem? (i := 4) rfl))) (by decide) (backOf (W := 0) (rmp2 l Z a0 hw [] (2 : Int32) o2 h0 n0 Z0 HS_com_example_wicketgate_wicketgate_core_lds_LdsFile_DG2 rfl) hZ (hw _ (List.mem_of_getElem? (i := 4) rfl)) (hw _ (List.mem_of_getElem? (i := 3) rfl)) (by decide) (by decide)) (g := (mkF m 26 #[.val (.int p1), .val (.int (2 : Int32)), .val (.int (1 : Int32))] [(.int (2 : Int32))])) rfl (by rw [hml]; rfl) (argsL := [(.int (2 : Int32))]) (rest := []) (lenOf pd_0 rfl) rfl (by show 2 * 0 + _ ≤ _; exact Nat.le_of_eq rfl) (hb hby at_26) (fun _ _ => ⟨rfl, e0, (by decide : 0 + 0 ≤ _), (by decide : 0 + 0 ≤ _)⟩)
    dsimp only [Pt.U, Pt.locs, Pt.cells, Pt.slots] at Xy5 ly5 yy5 zy5 sty5 hQy5
    subst ly5 yy5 zy5
    obtain ⟨rfl, Nqy5, eqy5⟩ := hQy5
    have Ny5 := Fr.app N0 Nqy5
    refine Fin.step (sty5) ?_
    show Fin p e below s _ _ _ (Ty5.setTop (mkF m 29 #[.val (.int p1), .val (.int (2 : Int32)), .val (.int (1 : Int32))] [(.ref o2)]))
    obtain ⟨cqy6, kqy6, qy6a, qy6b, qy6c⟩ := isOf hZ eqy5 HE_o2
    obtain ⟨_, _, ⟨Ty6, Ly6, ky6, ny6⟩, -, Xy6, ⟨Lcy6, hQy6, ly6, yy6, zy6⟩, sty6⟩ := Xy5.virtualBack hx (y := (⟨"com/example/wicketgate/wicketgate/core/lds/LdsFile", "isDataGroup", "()Z"⟩ : MethodName)) (z := (⟨"com/example/wicketgate/wicketgate/core/lds/LdsFile", "isDataGroup", "()Z"⟩ : MethodName)) hown (mvT hZ (hw _ (List.mem_of_getElem? (i := 8) rfl))) (mvT hZ (hw _ (List.mem_of_getElem? (i := 9) rfl))) (notFace_of_selects (args := #[]) (mvT hZ (hw _ (List.mem_of_getElem? (i := 11) rfl)))) (mvT hZ (hw _ (List.mem_of_getElem? (i := 11) rfl))) (mvT hZ (hw _ (List.mem_of_getElem? (i := 10) rfl))) (by decide) (backOf (W := 0) (rmg1 l Z a0 hw [] o2 o0 o17 h0 n0 Z0 HS_com_example_wicketgate_wicketgate_core_lds_LdsFile_COM HS_com_example_wicketgate_wicketgate_core_lds_LdsFile_SOD nc2 ns2) hZ (hw _ (List.mem_of_getElem? (i := 12) rfl)) (hw _ (List.mem_of_getElem? (i := 6) rfl)) (by decide) (by decide)) qy6a qy6c (g := (mkF m 29 #[.val (.int p1), .val (.int (2 : Int32)), .val (.int (1 : Int32))] [(.ref o2)])) rfl (by rw [hml]; rfl) (Steps.refl _) (argsL := []) (rest := []) (lenOf pd_1 rfl) rfl (by show 2 * 0 + _ ≤ _; exact Nat.le_of_eq rfl) (hb hby at_29) (fun _ _ => ⟨rfl, eqy5, (by decide : 0 + 0 ≤ _), (by decide : 0 + 0 ≤ _)⟩)
    dsimp only [Pt.U, Pt.locs, Pt.cells, Pt.slots] at Xy6 ly6 yy6 zy6 sty6 hQy6
    subst ly6 yy6 zy6
    obtain ⟨rfl, Nqy6, eqy6⟩ := hQy6
    have Ny6 := Fr.app Ny5 Nqy6
    refine Fin.step (fun _ k => sty6.trans k) ?_
    show Fin p e below s _ _ _ (Ty6.setTop (mkF m 32 #[.val (.int p1), .val (.int (2 : Int32)), .val (.int (1 : Int32))] [(.int (1 : Int32))]))
    refine Fin.step (fun _ => XS.iloadN Xy6.here hx rfl (hb hby at_32) rfl) ?_
    show Fin p e below s _ _ _ (Ty6.setTop (mkF m 33 #[.val (.int p1), .val (.int (2 : Int32)), .val (.int (1 : Int32))] [(.int (1 : Int32)), (.int (1 : Int32))]))
    refine Fin.step (fun _ => XS.icmpNo Xy6.here hx rfl (hb hby at_33) rfl (teq ((by decide) : ((1 : Int32) = (1 : Int32)))).2) ?_
    show Fin p e below s _ _ _ (Ty6.setTop (mkF m 36 #[.val (.int p1), .val (.int (2 : Int32)), .val (.int (1 : Int32))] []))
    refine Fin.step (fun _ => XS.iconst Xy6.here hx rfl (hb hby at_36)) ?_
    show Fin p e below s _ _ _ (Ty6.setTop (mkF m 37 #[.val (.int p1), .val (.int (2 : Int32)), .val (.int (1 : Int32))] [(.int (1 : Int32))]))
    refine Fin.step (fun _ => XS.goto Xy6.here hx rfl (pc0 := 37) (pc' := 41) rfl (hb hby at_37) (by decide) (by decide)) ?_
    show Fin p e below s _ _ _ (Ty6.setTop (mkF m 41 #[.val (.int p1), .val (.int (2 : Int32)), .val (.int (1 : Int32))] [(.int (1 : Int32))]))
    refine Fin.retN Xy6 hx (t := .boolean) hret (by simp) hlk (hb hby at_41) (by decide) (by decide) ?_
    show Q0 Z p1 o0 o1 o2 o3 o4 o5 o6 o7 o8 o9 o10 o11 o12 o13 o14 o15 o16 o17 h0 n0 _ Ty6.heap _
    rw [eqy6]
    exact ⟨rfl, Ny6, rfl⟩
  · rw [qn]
    show Fin p e below s _ _ _ (s₁.setTop (mkF m 8 #[.val (.int p1), .val (.int (3 : Int32)), .unset] []))
    refine Fin.step (fun _ => XS.iloadN X0.here hx rfl (hb hby at_8) rfl) ?_
    show Fin p e below s _ _ _ (s₁.setTop (mkF m 9 #[.val (.int p1), .val (.int (3 : Int32)), .unset] [(.int (3 : Int32))]))
    refine Fin.step (fun _ => XS.iconst X0.here hx rfl (hb hby at_9)) ?_
    show Fin p e below s _ _ _ (s₁.setTop (mkF m 10 #[.val (.int p1), .val (.int (3 : Int32)), .unset] [(.int (1 : Int32)), (.int (3 : Int32))]))
    refine Fin.step (fun _ => XS.icmpNo X0.here hx rfl (hb hby at_10) rfl (flt ((by decide) : ¬ ((3 : Int32) < (1 : Int32)))).1) ?_
    show Fin p e below s _ _ _ (s₁.setTop (mkF m 13 #[.val (.int p1), .val (.int (3 : Int32)), .unset] []))
    refine Fin.step (fun _ => XS.iloadN X0.here hx rfl (hb hby at_13) rfl) ?_
    show Fin p e below s _ _ _ (s₁.setTop (mkF m 14 #[.val (.int p1), .val (.int (3 : Int32)), .unset] [(.int (3 : Int32))]))
    refine Fin.step (fun _ => XS.bipush X0.here hx rfl (hb hby at_14)) ?_
    show Fin p e below s _ _ _ (s₁.setTop (mkF m 16 #[.val (.int p1), .val (.int (3 : Int32)), .unset] [(.int (16 : Int32)), (.int (3 : Int32))]))
    refine Fin.step (fun _ => XS.icmpNo X0.here hx rfl (hb hby at_16) rfl (flt ((by decide) : ¬ ((16 : Int32) < (3 : Int32)))).2.2.1) ?_
    show Fin p e below s _ _ _ (s₁.setTop (mkF m 19 #[.val (.int p1), .val (.int (3 : Int32)), .unset] []))
    refine Fin.step (fun _ => XS.iconst X0.here hx rfl (hb hby at_19)) ?_
    show Fin p e below s _ _ _ (s₁.setTop (mkF m 20 #[.val (.int p1), .val (.int (3 : Int32)), .unset] [(.int (1 : Int32))]))
    refine Fin.step (fun _ => XS.goto X0.here hx rfl (pc0 := 20) (pc' := 24) rfl (hb hby at_20) (by decide) (by decide)) ?_
    show Fin p e below s _ _ _ (s₁.setTop (mkF m 24 #[.val (.int p1), .val (.int (3 : Int32)), .unset] [(.int (1 : Int32))]))
    refine Fin.step (fun _ => XS.istoreN X0.here hx rfl (hb hby at_24) rfl (l' := #[.val (.int p1), .val (.int (3 : Int32)), .val (.int (1 : Int32))]) rfl) ?_
    show Fin p e below s _ _ _ (s₁.setTop (mkF m 25 #[.val (.int p1), .val (.int (3 : Int32)), .val (.int (1 : Int32))] []))
    refine Fin.step (fun _ => XS.iloadN X0.here hx rfl (hb hby at_25) rfl) ?_
    show Fin p e below s _ _ _ (s₁.setTop (mkF m 26 #[.val (.int p1), .val (.int (3 : Int32)), .val (.int (1 : Int32))] [(.int (3 : Int32))]))
    obtain ⟨_, _, ⟨Ty7, Ly7, ky7, ny7⟩, -, Xy7, ⟨Lcy7, hQy7, ly7, yy7, zy7⟩, sty7⟩ := Jvm.LawKit.callS X0 hx (y := (⟨"com/example/wicketgate/wicketgate/core/lds/LdsFileIsDataGroupPinLaw", "pick", "(I)Lcom/example/wicketgate/wicketgate/core/lds/LdsFile;"⟩ : MethodName)) hown (mvT hZ (hw _ (List.mem_of_getElem? (i := 1) rfl))) (mvT hZ (hw _ (List.mem_of_getElem? (i := 2) rfl))) (mvT hZ (hw _ (List.mem_of_getElem? (i := 3) rfl))) (mvT hZ (hw _ (List.mem_of_getElem? (i := 4) rfl))) (by decide) (backOf (W := 0) (rmp3 l Z a0 hw [] (3 : Int32) o3 h0 n0 Z0 HS_com_example_wicketgate_wicketgate_core_lds_LdsFile_DG3 rfl) hZ (hw _ (List.mem_of_getElem? (i := 4) rfl)) (hw _ (List.mem_of_getElem? (i := 3) rfl)) (by decide) (by decide)) (g := (mkF m 26 #[.val (.int p1), .val (.int (3 : Int32)), .val (.int (1 : Int32))] [(.int (3 : Int32))])) rfl (by rw [hml]; rfl) (argsL := [(.int (3 : Int32))]) (rest := []) (lenOf pd_0 rfl) rfl (by show 2 * 0 + _ ≤ _; exact Nat.le_of_eq rfl) (hb hby at_26) (fun _ _ => ⟨rfl, e0, (by decide : 0 + 0 ≤ _), (by decide : 0 + 0 ≤ _)⟩)
    dsimp only [Pt.U, Pt.locs, Pt.cells, Pt.slots] at Xy7 ly7 yy7 zy7 sty7 hQy7
    subst ly7 yy7 zy7
    obtain ⟨rfl, Nqy7, eqy7⟩ := hQy7
    have Ny7 := Fr.app N0 Nqy7
    refine Fin.step (sty7) ?_
    show Fin p e below s _ _ _ (Ty7.setTop (mkF m 29 #[.val (.int p1), .val (.int (3 : Int32)), .val (.int (1 : Int32))] [(.ref o3)]))
    obtain ⟨cqy8, kqy8, qy8a, qy8b, qy8c⟩ := isOf hZ eqy7 HE_o3
    obtain ⟨_, _, ⟨Ty8, Ly8, ky8, ny8⟩, -, Xy8, ⟨Lcy8, hQy8, ly8, yy8, zy8⟩, sty8⟩ := Xy7.virtualBack hx (y := (⟨"com/example/wicketgate/wicketgate/core/lds/LdsFile", "isDataGroup", "()Z"⟩ : MethodName)) (z := (⟨"com/example/wicketgate/wicketgate/core/lds/LdsFile", "isDataGroup", "()Z"⟩ : MethodName)) hown (mvT hZ (hw _ (List.mem_of_getElem? (i := 8) rfl))) (mvT hZ (hw _ (List.mem_of_getElem? (i := 9) rfl))) (notFace_of_selects (args := #[]) (mvT hZ (hw _ (List.mem_of_getElem? (i := 11) rfl)))) (mvT hZ (hw _ (List.mem_of_getElem? (i := 11) rfl))) (mvT hZ (hw _ (List.mem_of_getElem? (i := 10) rfl))) (by decide) (backOf (W := 0) (rmg1 l Z a0 hw [] o3 o0 o17 h0 n0 Z0 HS_com_example_wicketgate_wicketgate_core_lds_LdsFile_COM HS_com_example_wicketgate_wicketgate_core_lds_LdsFile_SOD nc3 ns3) hZ (hw _ (List.mem_of_getElem? (i := 12) rfl)) (hw _ (List.mem_of_getElem? (i := 6) rfl)) (by decide) (by decide)) qy8a qy8c (g := (mkF m 29 #[.val (.int p1), .val (.int (3 : Int32)), .val (.int (1 : Int32))] [(.ref o3)])) rfl (by rw [hml]; rfl) (Steps.refl _) (argsL := []) (rest := []) (lenOf pd_1 rfl) rfl (by show 2 * 0 + _ ≤ _; exact Nat.le_of_eq rfl) (hb hby at_29) (fun _ _ => ⟨rfl, eqy7, (by decide : 0 + 0 ≤ _), (by decide : 0 + 0 ≤ _)⟩)
    dsimp only [Pt.U, Pt.locs, Pt.cells, Pt.slots] at Xy8 ly8 yy8 zy8 sty8 hQy8
    subst ly8 yy8 zy8
    obtain ⟨rfl, Nqy8, eqy8⟩ := hQy8
    have Ny8 := Fr.app Ny7 Nqy8
    refine Fin.step (fun _ k => sty8.trans k) ?_
    show Fin p e below s _ _ _ (Ty8.setTop (mkF m 32 #[.val (.int p1), .val (.int (3 : Int32)), .val (.int (1 : Int32))] [(.int (1 : Int32))]))
    refine Fin.step (fun _ => XS.iloadN Xy8.here hx rfl (hb hby at_32) rfl) ?_
    show Fin p e below s _ _ _ (Ty8.setTop (mkF m 33 #[.val (.int p1), .val (.int (3 : Int32)), .val (.int (1 : Int32))] [(.int (1 : Int32)), (.int (1 : Int32))]))
    refine Fin.step (fun _ => XS.icmpNo Xy8.here hx rfl (hb hby at_33) rfl (teq ((by decide) : ((1 : Int32) = (1 : Int32)))).2) ?_
    show Fin p e below s _ _ _ (Ty8.setTop (mkF m 36 #[.val (.int p1), .val (.int (3 : Int32)), .val (.int (1 : Int32))] []))
    refine Fin.step (fun _ => XS.iconst Xy8.here hx rfl (hb hby at_36)) ?_
    show Fin p e below s _ _ _ (Ty8.setTop (mkF m 37 #[.val (.int p1), .val (.int (3 : Int32)), .val (.int (1 : Int32))] [(.int (1 : Int32))]))
    refine Fin.step (fun _ => XS.goto Xy8.here hx rfl (pc0 := 37) (pc' := 41) rfl (hb hby at_37) (by decide) (by decide)) ?_
    show Fin p e below s _ _ _ (Ty8.setTop (mkF m 41 #[.val (.int p1), .val (.int (3 : Int32)), .val (.int (1 : Int32))] [(.int (1 : Int32))]))
    refine Fin.retN Xy8 hx (t := .boolean) hret (by simp) hlk (hb hby at_41) (by decide) (by decide) ?_
    show Q0 Z p1 o0 o1 o2 o3 o4 o5 o6 o7 o8 o9 o10 o11 o12 o13 o14 o15 o16 o17 h0 n0 _ Ty8.heap _
    rw [eqy8]
    exact ⟨rfl, Ny8, rfl⟩
  · rw [qn]
    show Fin p e below s _ _ _ (s₁.setTop (mkF m 8 #[.val (.int p1), .val (.int (4 : Int32)), .unset] []))
    refine Fin.step (fun _ => XS.iloadN X0.here hx rfl (hb hby at_8) rfl) ?_
    show Fin p e below s _ _ _ (s₁.setTop (mkF m 9 #[.val (.int p1), .val (.int (4 : Int32)), .unset] [(.int (4 : Int32))]))
    refine Fin.step (fun _ => XS.iconst X0.here hx rfl (hb hby at_9)) ?_
    show Fin p e below s _ _ _ (s₁.setTop (mkF m 10 #[.val (.int p1), .val (.int (4 : Int32)), .unset] [(.int (1 : Int32)), (.int (4 : Int32))]))
    refine Fin.step (fun _ => XS.icmpNo X0.here hx rfl (hb hby at_10) rfl (flt ((by decide) : ¬ ((4 : Int32) < (1 : Int32)))).1) ?_
    show Fin p e below s _ _ _ (s₁.setTop (mkF m 13 #[.val (.int p1), .val (.int (4 : Int32)), .unset] []))
    refine Fin.step (fun _ => XS.iloadN X0.here hx rfl (hb hby at_13) rfl) ?_
    show Fin p e below s _ _ _ (s₁.setTop (mkF m 14 #[.val (.int p1), .val (.int (4 : Int32)), .unset] [(.int (4 : Int32))]))
    refine Fin.step (fun _ => XS.bipush X0.here hx rfl (hb hby at_14)) ?_
    show Fin p e below s _ _ _ (s₁.setTop (mkF m 16 #[.val (.int p1), .val (.int (4 : Int32)), .unset] [(.int (16 : Int32)), (.int (4 : Int32))]))
    refine Fin.step (fun _ => XS.icmpNo X0.here hx rfl (hb hby at_16) rfl (flt ((by decide) : ¬ ((16 : Int32) < (4 : Int32)))).2.2.1) ?_
    show Fin p e below s _ _ _ (s₁.setTop (mkF m 19 #[.val (.int p1), .val (.int (4 : Int32)), .unset] []))
    refine Fin.step (fun _ => XS.iconst X0.here hx rfl (hb hby at_19)) ?_
    show Fin p e below s _ _ _ (s₁.setTop (mkF m 20 #[.val (.int p1), .val (.int (4 : Int32)), .unset] [(.int (1 : Int32))]))
    refine Fin.step (fun _ => XS.goto X0.here hx rfl (pc0 := 20) (pc' := 24) rfl (hb hby at_20) (by decide) (by decide)) ?_
    show Fin p e below s _ _ _ (s₁.setTop (mkF m 24 #[.val (.int p1), .val (.int (4 : Int32)), .unset] [(.int (1 : Int32))]))
    refine Fin.step (fun _ => XS.istoreN X0.here hx rfl (hb hby at_24) rfl (l' := #[.val (.int p1), .val (.int (4 : Int32)), .val (.int (1 : Int32))]) rfl) ?_
    show Fin p e below s _ _ _ (s₁.setTop (mkF m 25 #[.val (.int p1), .val (.int (4 : Int32)), .val (.int (1 : Int32))] []))
    refine Fin.step (fun _ => XS.iloadN X0.here hx rfl (hb hby at_25) rfl) ?_
    show Fin p e below s _ _ _ (s₁.setTop (mkF m 26 #[.val (.int p1), .val (.int (4 : Int32)), .val (.int (1 : Int32))] [(.int (4 : Int32))]))
    obtain ⟨_, _, ⟨Ty9, Ly9, ky9, ny9⟩, -, Xy9, ⟨Lcy9, hQy9, ly9, yy9, zy9⟩, sty9⟩ := Jvm.LawKit.callS X0 hx (y := (⟨"com/example/wicketgate/wicketgate/core/lds/LdsFileIsDataGroupPinLaw", "pick", "(I)Lcom/example/wicketgate/wicketgate/core/lds/LdsFile;"⟩ : MethodName)) hown (mvT hZ (hw _ (List.mem_of_getElem? (i := 1) rfl))) (mvT hZ (hw _ (List.mem_of_getElem? (i := 2) rfl))) (mvT hZ (hw _ (List.mem_of_getElem? (i := 3) rfl))) (mvT hZ (hw _ (List.mem_of_getElem? (i := 4) rfl))) (by decide) (backOf (W := 0) (rmp4 l Z a0 hw [] (4 : Int32) o4 h0 n0 Z0 HS_com_example_wicketgate_wicketgate_core_lds_LdsFile_DG4 rfl) hZ (hw _ (List.mem_of_getElem? (i := 4) rfl)) (hw _ (List.mem_of_getElem? (i := 3) rfl)) (by decide) (by decide)) (g := (mkF m 26 #[.val (.int p1), .val (.int (4 : Int32)), .val (.int (1 : Int32))] [(.int (4 : Int32))])) rfl (by rw [hml]; rfl) (argsL := [(.int (4 : Int32))]) (rest := []) (lenOf pd_0 rfl) rfl (by show 2 * 0 + _ ≤ _; exact Nat.le_of_eq rfl) (hb hby at_26) (fun _ _ => ⟨rfl, e0, (by decide : 0 + 0 ≤ _), (by decide : 0 + 0 ≤ _)⟩)
    dsimp only [Pt.U, Pt.locs, Pt.cells, Pt.slots] at Xy9 ly9 yy9 zy9 sty9 hQy9
    subst ly9 yy9 zy9
    obtain ⟨rfl, Nqy9, eqy9⟩ := hQy9
    have Ny9 := Fr.app N0 Nqy9
    refine Fin.step (sty9) ?_
    show Fin p e below s _ _ _ (Ty9.setTop (mkF m 29 #[.val (.int p1), .val (.int (4 : Int32)), .val (.int (1 : Int32))] [(.ref o4)]))
    obtain ⟨cqy10, kqy10, qy10a, qy10b, qy10c⟩ := isOf hZ eqy9 HE_o4
    obtain ⟨_, _, ⟨Ty10, Ly10, ky10, ny10⟩, -, Xy10, ⟨Lcy10, hQy10, ly10, yy10, zy10⟩, sty10⟩ := Xy9.virtualBack hx (y := (⟨"com/example/wicketgate/wicketgate/core/lds/LdsFile", "isDataGroup", "()Z"⟩ : MethodName)) (z := (⟨"com/example/wicketgate/wicketgate/core/lds/LdsFile", "isDataGroup", "()Z"⟩ : MethodName)) hown (mvT hZ (hw _ (List.mem_of_getElem? (i := 8) rfl))) (mvT hZ (hw _ (List.mem_of_getElem? (i := 9) rfl))) (notFace_of_selects (args := #[]) (mvT hZ (hw _ (List.mem_of_getElem? (i := 11) rfl)))) (mvT hZ (hw _ (List.mem_of_getElem? (i := 11) rfl))) (mvT hZ (hw _ (List.mem_of_getElem? (i := 10) rfl))) (by decide) (backOf (W := 0) (rmg1 l Z a0 hw [] o4 o0 o17 h0 n0 Z0 HS_com_example_wicketgate_wicketgate_core_lds_LdsFile_COM HS_com_example_wicketgate_wicketgate_core_lds_LdsFile_SOD nc4 ns4) hZ (hw _ (List.mem_of_getElem? (i := 12) rfl)) (hw _ (List.mem_of_getElem? (i := 6) rfl)) (by decide) (by decide)) qy10a qy10c (g := (mkF m 29 #[.val (.int p1), .val (.int (4 : Int32)), .val (.int (1 : Int32))] [(.ref o4)])) rfl (by rw [hml]; rfl) (Steps.refl _) (argsL := []) (rest := []) (lenOf pd_1 rfl) rfl (by show 2 * 0 + _ ≤ _; exact Nat.le_of_eq rfl) (hb hby at_29) (fun _ _ => ⟨rfl, eqy9, (by decide : 0 + 0 ≤ _), (by decide : 0 + 0 ≤ _)⟩)
    dsimp only [Pt.U, Pt.locs, Pt.cells, Pt.slots] at Xy10 ly10 yy10 zy10 sty10 hQy10
    subst ly10 yy10 zy10
    obtain ⟨rfl, Nqy10, eqy10⟩ := hQy10
    have Ny10 := Fr.app Ny9 Nqy10
    refine Fin.step (fun _ k => sty10.trans k) ?_
    show Fin p e below s _ _ _ (Ty10.setTop (mkF m 32 #[.val (.int p1), .val (.int (4 : Int32)), .val (.int (1 : Int32))] [(.int (1 : Int32))]))
    refine Fin.step (fun _ => XS.iloadN Xy10.here hx rfl (hb hby at_32) rfl) ?_
    show Fin p e below s _ _ _ (Ty10.setTop (mkF m 33 #[.val (.int p1), .val (.int (4 : Int32)), .val (.int (1 : Int32))] [(.int (1 : Int32)), (.int (1 : Int32))]))
    refine Fin.step (fun _ => XS.icmpNo Xy10.here hx rfl (hb hby at_33) rfl (teq ((by decide) : ((1 : Int32) = (1 : Int32)))).2) ?_
    show Fin p e below s _ _ _ (Ty10.setTop (mkF m 36 #[.val (.int p1), .val (.int (4 : Int32)), .val (.int (1 : Int32))] []))
    refine Fin.step (fun _ => XS.iconst Xy10.here hx rfl (hb hby at_36)) ?_
    show Fin p e below s _ _ _ (Ty10.setTop (mkF m 37 #[.val (.int p1), .val (.int (4 : Int32)), .val (.int (1 : Int32))] [(.int (1 : Int32))]))
    refine Fin.step (fun _ => XS.goto Xy10.here hx rfl (pc0 := 37) (pc' := 41) rfl (hb hby at_37) (by decide) (by decide)) ?_
    show Fin p e below s _ _ _ (Ty10.setTop (mkF m 41 #[.val (.int p1), .val (.int (4 : Int32)), .val (.int (1 : Int32))] [(.int (1 : Int32))]))
    refine Fin.retN Xy10 hx (t := .boolean) hret (by simp) hlk (hb hby at_41) (by decide) (by decide) ?_
    show Q0 Z p1 o0 o1 o2 o3 o4 o5 o6 o7 o8 o9 o10 o11 o12 o13 o14 o15 o16 o17 h0 n0 _ Ty10.heap _
    rw [eqy10]
    exact ⟨rfl, Ny10, rfl⟩
  · rw [qn]
    show Fin p e below s _ _ _ (s₁.setTop (mkF m 8 #[.val (.int p1), .val (.int (5 : Int32)), .unset] []))
    refine Fin.step (fun _ => XS.iloadN X0.here hx rfl (hb hby at_8) rfl) ?_
    show Fin p e below s _ _ _ (s₁.setTop (mkF m 9 #[.val (.int p1), .val (.int (5 : Int32)), .unset] [(.int (5 : Int32))]))
    refine Fin.step (fun _ => XS.iconst X0.here hx rfl (hb hby at_9)) ?_
    show Fin p e below s _ _ _ (s₁.setTop (mkF m 10 #[.val (.int p1), .val (.int (5 : Int32)), .unset] [(.int (1 : Int32)), (.int (5 : Int32))]))
    refine Fin.step (fun _ => XS.icmpNo X0.here hx rfl (hb hby at_10) rfl (flt ((by decide) : ¬ ((5 : Int32) < (1 : Int32)))).1) ?_
    show Fin p e below s _ _ _ (s₁.setTop (mkF m 13 #[.val (.int p1), .val (.int (5 : Int32)), .unset] []))
    refine Fin.step (fun _ => XS.iloadN X0.here hx rfl (hb hby at_13) rfl) ?_
    show Fin p e below s _ _ _ (s₁.setTop (mkF m 14 #[.val (.int p1), .val (.int (5 : Int32)), .unset] [(.int (5 : Int32))]))
    refine Fin.step (fun _ => XS.bipush X0.here hx rfl (hb hby at_14)) ?_
    show Fin p e below s _ _ _ (s₁.setTop (mkF m 16 #[.val (.int p1), .val (.int (5 : Int32)), .unset] [(.int (16 : Int32)), (.int (5 : Int32))]))
    refine Fin.step (fun _ => XS.icmpNo X0.here hx rfl (hb hby at_16) rfl (flt ((by decide) : ¬ ((16 : Int32) < (5 : Int32)))).2.2.1) ?_
    show Fin p e below s _ _ _ (s₁.setTop (mkF m 19 #[.val (.int p1), .val (.int (5 : Int32)), .unset] []))
    refine Fin.step (fun _ => XS.iconst X0.here hx rfl (hb hby at_19)) ?_
    show Fin p e below s _ _ _ (s₁.setTop (mkF m 20 #[.val (.int p1), .val (.int (5 : Int32)), .unset] [(.int (1 : Int32))]))
    refine Fin.step (fun _ => XS.goto X0.here hx rfl (pc0 := 20) (pc' := 24) rfl (hb hby at_20) (by decide) (by decide)) ?_
    show Fin p e below s _ _ _ (s₁.setTop (mkF m 24 #[.val (.int p1), .val (.int (5 : Int32)), .unset] [(.int (1 : Int32))]))
    refine Fin.step (fun _ => XS.istoreN X0.here hx rfl (hb hby at_24) rfl (l' := #[.val (.int p1), .val (.int (5 : Int32)), .val (.int (1 : Int32))]) rfl) ?_
    show Fin p e below s _ _ _ (s₁.setTop (mkF m 25 #[.val (.int p1), .val (.int (5 : Int32)), .val (.int (1 : Int32))] []))
    refine Fin.step (fun _ => XS.iloadN X0.here hx rfl (hb hby at_25) rfl) ?_
    show Fin p e below s _ _ _ (s₁.setTop (mkF m 26 #[.val (.int p1), .val (.int (5 : Int32)), .val (.int (1 : Int32))] [(.int (5 : Int32))]))
    obtain ⟨_, _, ⟨Ty11, Ly11, ky11, ny11⟩, -, Xy11, ⟨Lcy11, hQy11, ly11, yy11, zy11⟩, sty11⟩ := Jvm.LawKit.callS X0 hx (y := (⟨"com/example/wicketgate/wicketgate/core/lds/LdsFileIsDataGroupPinLaw", "pick", "(I)Lcom/example/wicketgate/wicketgate/core/lds/LdsFile;"⟩ : MethodName)) hown (mvT hZ (hw _ (List.mem_of_getElem? (i := 1) rfl))) (mvT hZ (hw _ (List.mem_of_getElem? (i := 2) rfl))) (mvT hZ (hw _ (List.mem_of_getElem? (i := 3) rfl))) (mvT hZ (hw _ (List.mem_of_getElem? (i := 4) rfl))) (by decide) (backOf (W := 0) (rmp5 l Z a0 hw [] (5 : Int32) o5 h0 n0 Z0 HS_com_example_wicketgate_wicketgate_core_lds_LdsFile_DG5 rfl) hZ (hw _ (List.mem_of_getElem? (i := 4) rfl)) (hw _ (List.mem_of_getElem? (i := 3) rfl)) (by decide) (by decide)) (g := (mkF m 26 #[.val (.int p1), .val (.int (5 : Int32)), .val (.int (1 : Int32))] [(.int (5 : Int32))])) rfl (by rw [hml]; rfl) (argsL := [(.int (5 : Int32))]) (rest := []) (lenOf pd_0 rfl) rfl (by show 2 * 0 + _ ≤ _; exact Nat.le_of_eq rfl) (hb hby at_26) (fun _ _ => ⟨rfl, e0, (by decide : 0 + 0 ≤ _), (by decide : 0 + 0 ≤ _)⟩)
    dsimp only [Pt.U, Pt.locs, Pt.cells, Pt.slots] at Xy11 ly11 yy11 zy11 sty11 hQy11
    subst ly11 yy11 zy11
    obtain ⟨rfl, Nqy11, eqy11⟩ := hQy11
    have Ny11 := Fr.app N0 Nqy11
    refine Fin.step (sty11) ?_
    show Fin p e below s _ _ _ (Ty11.setTop (mkF m 29 #[.val (.int p1), .val (.int (5 : Int32)), .val (.int (1 : Int32))] [(.ref o5)]))
    obtain ⟨cqy12, kqy12, qy12a, qy12b, qy12c⟩ := isOf hZ eqy11 HE_o5
    obtain ⟨_, _, ⟨Ty12, Ly12, ky12, ny12⟩, -, Xy12, ⟨Lcy12, hQy12, ly12, yy12, zy12⟩, sty12⟩ := Xy11.virtualBack hx (y := (⟨"com/example/wicketgate/wicketgate/core/lds/LdsFile", "isDataGroup", "()Z"⟩ : MethodName)) (z := (⟨"com/example/wicketgate/wicketgate/core/lds/LdsFile", "isDataGroup", "()Z"⟩ : MethodName)) hown (mvT hZ (hw _ (List.mem_of_getElem? (i := 8) rfl))) (mvT hZ (hw _ (List.mem_of_getElem? (i := 9) rfl))) (notFace_of_selects (args := #[]) (mvT hZ (hw _ (List.mem_of_getElem? (i := 11) rfl)))) (mvT hZ (hw _ (List.mem_of_getElem? (i := 11) rfl))) (mvT hZ (hw _ (List.mem_of_getElem? (i := 10) rfl))) (by decide) (backOf (W := 0) (rmg1 l Z a0 hw [] o5 o0 o17 h0 n0 Z0 HS_com_example_wicketgate_wicketgate_core_lds_LdsFile_COM HS_com_example_wicketgate_wicketgate_core_lds_LdsFile_SOD nc5 ns5) hZ (hw _ (List.mem_of_getElem? (i := 12) rfl)) (hw _ (List.mem_of_getElem? (i := 6) rfl)) (by decide) (by decide)) qy12a qy12c (g := (mkF m 29 #[.val (.int p1), .val (.int (5 : Int32)), .val (.int (1 : Int32))] [(.ref o5)])) rfl (by rw [hml]; rfl) (Steps.refl _) (argsL := []) (rest := []) (lenOf pd_1 rfl) rfl (by show 2 * 0 + _ ≤ _; exact Nat.le_of_eq rfl) (hb hby at_29) (fun _ _ => ⟨rfl, eqy11, (by decide : 0 + 0 ≤ _), (by decide : 0 + 0 ≤ _)⟩)
    dsimp only [Pt.U, Pt.locs, Pt.cells, Pt.slots] at Xy12 ly12 yy12 zy12 sty12 hQy12
    subst ly12 yy12 zy12
    obtain ⟨rfl, Nqy12, eqy12⟩ := hQy12
    have Ny12 := Fr.app Ny11 Nqy12
    refine Fin.step (fun _ k => sty12.trans k) ?_
    show Fin p e below s _ _ _ (Ty12.setTop (mkF m 32 #[.val (.int p1), .val (.int (5 : Int32)), .val (.int (1 : Int32))] [(.int (1 : Int32))]))
    refine Fin.step (fun _ => XS.iloadN Xy12.here hx rfl (hb hby at_32) rfl) ?_
    show Fin p e below s _ _ _ (Ty12.setTop (mkF m 33 #[.val (.int p1), .val (.int (5 : Int32)), .val (.int (1 : Int32))] [(.int (1 : Int32)), (.int (1 : Int32))]))
    refine Fin.step (fun _ => XS.icmpNo Xy12.here hx rfl (hb hby at_33) rfl (teq ((by decide) : ((1 : Int32) = (1 : Int32)))).2) ?_
    show Fin p e below s _ _ _ (Ty12.setTop (mkF m 36 #[.val (.int p1), .val (.int (5 : Int32)), .val (.int (1 : Int32))] []))
    refine Fin.step (fun _ => XS.iconst Xy12.here hx rfl (hb hby at_36)) ?_
    show Fin p e below s _ _ _ (Ty12.setTop (mkF m 37 #[.val (.int p1), .val (.int (5 : Int32)), .val (.int (1 : Int32))] [(.int (1 : Int32))]))
    refine Fin.step (fun _ => XS.goto Xy12.here hx rfl (pc0 := 37) (pc' := 41) rfl (hb hby at_37) (by decide) (by decide)) ?_
    show Fin p e below s _ _ _ (Ty12.setTop (mkF m 41 #[.val (.int p1), .val (.int (5 : Int32)), .val (.int (1 : Int32))] [(.int (1 : Int32))]))
    refine Fin.retN Xy12 hx (t := .boolean) hret (by simp) hlk (hb hby at_41) (by decide) (by decide) ?_
    show Q0 Z p1 o0 o1 o2 o3 o4 o5 o6 o7 o8 o9 o10 o11 o12 o13 o14 o15 o16 o17 h0 n0 _ Ty12.heap _
    rw [eqy12]
    exact ⟨rfl, Ny12, rfl⟩
  · rw [qn]
    show Fin p e below s _ _ _ (s₁.setTop (mkF m 8 #[.val (.int p1), .val (.int (6 : Int32)), .unset] []))
    refine Fin.step (fun _ => XS.iloadN X0.here hx rfl (hb hby at_8) rfl) ?_
    show Fin p e below s _ _ _ (s₁.setTop (mkF m 9 #[.val (.int p1), .val (.int (6 : Int32)), .unset] [(.int (6 : Int32))]))
    refine Fin.step (fun _ => XS.iconst X0.here hx rfl (hb hby at_9)) ?_
    show Fin p e below s _ _ _ (s₁.setTop (mkF m 10 #[.val (.int p1), .val (.int (6 : Int32)), .unset] [(.int (1 : Int32)), (.int (6 : Int32))]))
    refine Fin.step (fun _ => XS.icmpNo X0.here hx rfl (hb hby at_10) rfl (flt ((by decide) : ¬ ((6 : Int32) < (1 : Int32)))).1) ?_
    show Fin p e below s _ _ _ (s₁.setTop (mkF m 13 #[.val (.int p1), .val (.int (6 : Int32)), .unset] []))
    refine Fin.step (fun _ => XS.iloadN X0.here hx rfl (hb hby at_13) rfl) ?_
    show Fin p e below s _ _ _ (s₁.setTop (mkF m 14 #[.val (.int p1), .val (.int (6 : Int32)), .unset] [(.int (6 : Int32))]))
    refine Fin.step (fun _ => XS.bipush X0.here hx rfl (hb hby at_14)) ?_
    show Fin p e below s _ _ _ (s₁.setTop (mkF m 16 #[.val (.int p1), .val (.int (6 : Int32)), .unset] [(.int (16 : Int32)), (.int (6 : Int32))]))
    refine Fin.step (fun _ => XS.icmpNo X0.here hx rfl (hb hby at_16) rfl (flt ((by decide) : ¬ ((16 : Int32) < (6 : Int32)))).2.2.1) ?_
    show Fin p e below s _ _ _ (s₁.setTop (mkF m 19 #[.val (.int p1), .val (.int (6 : Int32)), .unset] []))
    refine Fin.step (fun _ => XS.iconst X0.here hx rfl (hb hby at_19)) ?_
    show Fin p e below s _ _ _ (s₁.setTop (mkF m 20 #[.val (.int p1), .val (.int (6 : Int32)), .unset] [(.int (1 : Int32))]))
    refine Fin.step (fun _ => XS.goto X0.here hx rfl (pc0 := 20) (pc' := 24) rfl (hb hby at_20) (by decide) (by decide)) ?_
    show Fin p e below s _ _ _ (s₁.setTop (mkF m 24 #[.val (.int p1), .val (.int (6 : Int32)), .unset] [(.int (1 : Int32))]))
    refine Fin.step (fun _ => XS.istoreN X0.here hx rfl (hb hby at_24) rfl (l' := #[.val (.int p1), .val (.int (6 : Int32)), .val (.int (1 : Int32))]) rfl) ?_
    show Fin p e below s _ _ _ (s₁.setTop (mkF m 25 #[.val (.int p1), .val (.int (6 : Int32)), .val (.int (1 : Int32))] []))
    refine Fin.step (fun _ => XS.iloadN X0.here hx rfl (hb hby at_25) rfl) ?_
    show Fin p e below s _ _ _ (s₁.setTop (mkF m 26 #[.val (.int p1), .val (.int (6 : Int32)), .val (.int (1 : Int32))] [(.int (6 : Int32))]))
    obtain ⟨_, _, ⟨Ty13, Ly13, ky13, ny13⟩, -, Xy13, ⟨Lcy13, hQy13, ly13, yy13, zy13⟩, sty13⟩ := Jvm.LawKit.callS X0 hx (y := (⟨"com/example/wicketgate/wicketgate/core/lds/LdsFileIsDataGroupPinLaw", "pick", "(I)Lcom/example/wicketgate/wicketgate/core/lds/LdsFile;"⟩ : MethodName)) hown (mvT hZ (hw _ (List.mem_of_getElem? (i := 1) rfl))) (mvT hZ (hw _ (List.mem_of_getElem? (i := 2) rfl))) (mvT hZ (hw _ (List.mem_of_getElem? (i := 3) rfl))) (mvT hZ (hw _ (List.mem_of_getElem? (i := 4) rfl))) (by decide) (backOf (W := 0) (rmp6 l Z a0 hw [] (6 : Int32) o6 h0 n0 Z0 HS_com_example_wicketgate_wicketgate_core_lds_LdsFile_DG6 rfl) hZ (hw _ (List.mem_of_getElem? (i := 4) rfl)) (hw _ (List.mem_of_getElem? (i := 3) rfl)) (by decide) (by decide)) (g := (mkF m 26 #[.val (.int p1), .val (.int (6 : Int32)), .val (.int (1 : Int32))] [(.int (6 : Int32))])) rfl (by rw [hml]; rfl) (argsL := [(.int (6 : Int32))]) (rest := []) (lenOf pd_0 rfl) rfl (by show 2 * 0 + _ ≤ _; exact Nat.le_of_eq rfl) (hb hby at_26) (fun _ _ => ⟨rfl, e0, (by decide : 0 + 0 ≤ _), (by decide : 0 + 0 ≤ _)⟩)
    dsimp only [Pt.U, Pt.locs, Pt.cells, Pt.slots] at Xy13 ly13 yy13 zy13 sty13 hQy13
    subst ly13 yy13 zy13
    obtain ⟨rfl, Nqy13, eqy13⟩ := hQy13
    have Ny13 := Fr.app N0 Nqy13
    refine Fin.step (sty13) ?_
    show Fin p e below s _ _ _ (Ty13.setTop (mkF m 29 #[.val (.int p1), .val (.int (6 : Int32)), .val (.int (1 : Int32))] [(.ref o6)]))
    obtain ⟨cqy14, kqy14, qy14a, qy14b, qy14c⟩ := isOf hZ eqy13 HE_o6
    obtain ⟨_, _, ⟨Ty14, Ly14, ky14, ny14⟩, -, Xy14, ⟨Lcy14, hQy14, ly14, yy14, zy14⟩, sty14⟩ := Xy13.virtualBack hx (y := (⟨"com/example/wicketgate/wicketgate/core/lds/LdsFile", "isDataGroup", "()Z"⟩ : MethodName)) (z := (⟨"com/example/wicketgate/wicketgate/core/lds/LdsFile", "isDataGroup", "()Z"⟩ : MethodName)) hown (mvT hZ (hw _ (List.mem_of_getElem? (i := 8) rfl))) (mvT hZ (hw _ (List.mem_of_getElem? (i := 9) rfl))) (notFace_of_selects (args := #[]) (mvT hZ (hw _ (List.mem_of_getElem? (i := 11) rfl)))) (mvT hZ (hw _ (List.mem_of_getElem? (i := 11) rfl))) (mvT hZ (hw _ (List.mem_of_getElem? (i := 10) rfl))) (by decide) (backOf (W := 0) (rmg1 l Z a0 hw [] o6 o0 o17 h0 n0 Z0 HS_com_example_wicketgate_wicketgate_core_lds_LdsFile_COM HS_com_example_wicketgate_wicketgate_core_lds_LdsFile_SOD nc6 ns6) hZ (hw _ (List.mem_of_getElem? (i := 12) rfl)) (hw _ (List.mem_of_getElem? (i := 6) rfl)) (by decide) (by decide)) qy14a qy14c (g := (mkF m 29 #[.val (.int p1), .val (.int (6 : Int32)), .val (.int (1 : Int32))] [(.ref o6)])) rfl (by rw [hml]; rfl) (Steps.refl _) (argsL := []) (rest := []) (lenOf pd_1 rfl) rfl (by show 2 * 0 + _ ≤ _; exact Nat.le_of_eq rfl) (hb hby at_29) (fun _ _ => ⟨rfl, eqy13, (by decide : 0 + 0 ≤ _), (by decide : 0 + 0 ≤ _)⟩)
    dsimp only [Pt.U, Pt.locs, Pt.cells, Pt.slots] at Xy14 ly14 yy14 zy14 sty14 hQy14
    subst ly14 yy14 zy14
    obtain ⟨rfl, Nqy14, eqy14⟩ := hQy14
    have Ny14 := Fr.app Ny13 Nqy14
    refine Fin.step (fun _ k => sty14.trans k) ?_
    show Fin p e below s _ _ _ (Ty14.setTop (mkF m 32 #[.val (.int p1), .val (.int (6 : Int32)), .val (.int (1 : Int32))] [(.int (1 : Int32))]))
    refine Fin.step (fun _ => XS.iloadN Xy14.here hx rfl (hb hby at_32) rfl) ?_
    show Fin p e below s _ _ _ (Ty14.setTop (mkF m 33 #[.val (.int p1), .val (.int (6 : Int32)), .val (.int (1 : Int32))] [(.int (1 : Int32)), (.int (1 : Int32))]))
    refine Fin.step (fun _ => XS.icmpNo Xy14.here hx rfl (hb hby at_33) rfl (teq ((by decide) : ((1 : Int32) = (1 : Int32)))).2) ?_
    show Fin p e below s _ _ _ (Ty14.setTop (mkF m 36 #[.val (.int p1), .val (.int (6 : Int32)), .val (.int (1 : Int32))] []))
    refine Fin.step (fun _ => XS.iconst Xy14.here hx rfl (hb hby at_36)) ?_
    show Fin p e below s _ _ _ (Ty14.setTop (mkF m 37 #[.val (.int p1), .val (.int (6 : Int32)), .val (.int (1 : Int32))] [(.int (1 : Int32))]))
    refine Fin.step (fun _ => XS.goto Xy14.here hx rfl (pc0 := 37) (pc' := 41) rfl (hb hby at_37) (by decide) (by decide)) ?_
    show Fin p e below s _ _ _ (Ty14.setTop (mkF m 41 #[.val (.int p1), .val (.int (6 : Int32)), .val (.int (1 : Int32))] [(.int (1 : Int32))]))
    refine Fin.retN Xy14 hx (t := .boolean) hret (by simp) hlk (hb hby at_41) (by decide) (by decide) ?_
    show Q0 Z p1 o0 o1 o2 o3 o4 o5 o6 o7 o8 o9 o10 o11 o12 o13 o14 o15 o16 o17 h0 n0 _ Ty14.heap _
    rw [eqy14]
    exact ⟨rfl, Ny14, rfl⟩
  · rw [qn]
    show Fin p e below s _ _ _ (s₁.setTop (mkF m 8 #[.val (.int p1), .val (.int (7 : Int32)), .unset] []))
    refine Fin.step (fun _ => XS.iloadN X0.here hx rfl (hb hby at_8) rfl) ?_
    show Fin p e below s _ _ _ (s₁.setTop (mkF m 9 #[.val (.int p1), .val (.int (7 : Int32)), .unset] [(.int (7 : Int32))]))
    refine Fin.step (fun _ => XS.iconst X0.here hx rfl (hb hby at_9)) ?_
    show Fin p e below s _ _ _ (s₁.setTop (mkF m 10 #[.val (.int p1), .val (.int (7 : Int32)), .unset] [(.int (1 : Int32)), (.int (7 : Int32))]))
    refine Fin.step (fun _ => XS.icmpNo X0.here hx rfl (hb hby at_10) rfl (flt ((by decide) : ¬ ((7 : Int32) < (1 : Int32)))).1) ?_
    show Fin p e below s _ _ _ (s₁.setTop (mkF m 13 #[.val (.int p1), .val (.int (7 : Int32)), .unset] []))
    refine Fin.step (fun _ => XS.iloadN X0.here hx rfl (hb hby at_13) rfl) ?_
    show Fin p e below s _ _ _ (s₁.setTop (mkF m 14 #[.val (.int p1), .val (.int (7 : Int32)), .unset] [(.int (7 : Int32))]))
    refine Fin.step (fun _ => XS.bipush X0.here hx rfl (hb hby at_14)) ?_
    show Fin p e below s _ _ _ (s₁.setTop (mkF m 16 #[.val (.int p1), .val (.int (7 : Int32)), .unset] [(.int (16 : Int32)), (.int (7 : Int32))]))
    refine Fin.step (fun _ => XS.icmpNo X0.here hx rfl (hb hby at_16) rfl (flt ((by decide) : ¬ ((16 : Int32) < (7 : Int32)))).2.2.1) ?_
    show Fin p e below s _ _ _ (s₁.setTop (mkF m 19 #[.val (.int p1), .val (.int (7 : Int32)), .unset] []))
    refine Fin.step (fun _ => XS.iconst X0.here hx rfl (hb hby at_19)) ?_
    show Fin p e below s _ _ _ (s₁.setTop (mkF m 20 #[.val (.int p1), .val (.int (7 : Int32)), .unset] [(.int (1 : Int32))]))
    refine Fin.step (fun _ => XS.goto X0.here hx rfl (pc0 := 20) (pc' := 24) rfl (hb hby at_20) (by decide) (by decide)) ?_
    show Fin p e below s _ _ _ (s₁.setTop (mkF m 24 #[.val (.int p1), .val (.int (7 : Int32)), .unset] [(.int (1 : Int32))]))
    refine Fin.step (fun _ => XS.istoreN X0.here hx rfl (hb hby at_24) rfl (l' := #[.val (.int p1), .val (.int (7 : Int32)), .val (.int (1 : Int32))]) rfl) ?_
    show Fin p e below s _ _ _ (s₁.setTop (mkF m 25 #[.val (.int p1), .val (.int (7 : Int32)), .val (.int (1 : Int32))] []))
    refine Fin.step (fun _ => XS.iloadN X0.here hx rfl (hb hby at_25) rfl) ?_
    show Fin p e below s _ _ _ (s₁.setTop (mkF m 26 #[.val (.int p1), .val (.int (7 : Int32)), .val (.int (1 : Int32))] [(.int (7 : Int32))]))
    obtain ⟨_, _, ⟨Ty15, Ly15, ky15, ny15⟩, -, Xy15, ⟨Lcy15, hQy15, ly15, yy15, zy15⟩, sty15⟩ := Jvm.LawKit.callS X0 hx (y := (⟨"com/example/wicketgate/wicketgate/core/lds/LdsFileIsDataGroupPinLaw", "pick", "(I)Lcom/example/wicketgate/wicketgate/core/lds/LdsFile;"⟩ : MethodName)) hown (mvT hZ (hw _ (List.mem_of_getElem? (i := 1) rfl))) (mvT hZ (hw _ (List.mem_of_getElem? (i := 2) rfl))) (mvT hZ (hw _ (List.mem_of_getElem? (i := 3) rfl))) (mvT hZ (hw _ (List.mem_of_getElem? (i := 4) rfl))) (by decide) (backOf (W := 0) (rmp7 l Z a0 hw [] (7 : Int32) o7 h0 n0 Z0 HS_com_example_wicketgate_wicketgate_core_lds_LdsFile_DG7 rfl) hZ (hw _ (List.mem_of_getElem? (i := 4) rfl)) (hw _ (List.mem_of_getElem? (i := 3) rfl)) (by decide) (by decide)) (g := (mkF m 26 #[.val (.int p1), .val (.int (7 : Int32)), .val (.int (1 : Int32))] [(.int (7 : Int32))])) rfl (by rw [hml]; rfl) (argsL := [(.int (7 : Int32))]) (rest := []) (lenOf pd_0 rfl) rfl (by show 2 * 0 + _ ≤ _; exact Nat.le_of_eq rfl) (hb hby at_26) (fun _ _ => ⟨rfl, e0, (by decide : 0 + 0 ≤ _), (by decide : 0 + 0 ≤ _)⟩)
    dsimp only [Pt.U, Pt.locs, Pt.cells, Pt.slots] at Xy15 ly15 yy15 zy15 sty15 hQy15
    subst ly15 yy15 zy15
    obtain ⟨rfl, Nqy15, eqy15⟩ := hQy15
    have Ny15 := Fr.app N0 Nqy15
    refine Fin.step (sty15) ?_
    show Fin p e below s _ _ _ (Ty15.setTop (mkF m 29 #[.val (.int p1), .val (.int (7 : Int32)), .val (.int (1 : Int32))] [(.ref o7)]))
    obtain ⟨cqy16, kqy16, qy16a, qy16b, qy16c⟩ := isOf hZ eqy15 HE_o7
    obtain ⟨_, _, ⟨Ty16, Ly16, ky16, ny16⟩, -, Xy16, ⟨Lcy16, hQy16, ly16, yy16, zy16⟩, sty16⟩ := Xy15.virtualBack hx (y := (⟨"com/example/wicketgate/wicketgate/core/lds/LdsFile", "isDataGroup", "()Z"⟩ : MethodName)) (z := (⟨"com/example/wicketgate/wicketgate/core/lds/LdsFile", "isDataGroup", "()Z"⟩ : MethodName)) hown (mvT hZ (hw _ (List.mem_of_getElem? (i := 8) rfl))) (mvT hZ (hw _ (List.mem_of_getElem? (i := 9) rfl))) (notFace_of_selects (args := #[]) (mvT hZ (hw _ (List.mem_of_getElem? (i := 11) rfl)))) (mvT hZ (hw _ (List.mem_of_getElem? (i := 11) rfl))) (mvT hZ (hw _ (List.mem_of_getElem? (i := 10) rfl))) (by decide) (backOf (W := 0) (rmg1 l Z a0 hw [] o7 o0 o17 h0 n0 Z0 HS_com_example_wicketgate_wicketgate_core_lds_LdsFile_COM HS_com_example_wicketgate_wicketgate_core_lds_LdsFile_SOD nc7 ns7) hZ (hw _ (List.mem_of_getElem? (i := 12) rfl)) (hw _ (List.mem_of_getElem? (i := 6) rfl)) (by decide) (by decide)) qy16a qy16c (g := (mkF m 29 #[.val (.int p1), .val (.int (7 : Int32)), .val (.int (1 : Int32))] [(.ref o7)])) rfl (by rw [hml]; rfl) (Steps.refl _) (argsL := []) (rest := []) (lenOf pd_1 rfl) rfl (by show 2 * 0 + _ ≤ _; exact Nat.le_of_eq rfl) (hb hby at_29) (fun _ _ => ⟨rfl, eqy15, (by decide : 0 + 0 ≤ _), (by decide : 0 + 0 ≤ _)⟩)
    dsimp only [Pt.U, Pt.locs, Pt.cells, Pt.slots] at Xy16 ly16 yy16 zy16 sty16 hQy16
    subst ly16 yy16 zy16
    obtain ⟨rfl, Nqy16, eqy16⟩ := hQy16
    have Ny16 := Fr.app Ny15 Nqy16
    refine Fin.step (fun _ k => sty16.trans k) ?_
    show Fin p e below s _ _ _ (Ty16.setTop (mkF m 32 #[.val (.int p1), .val (.int (7 : Int32)), .val (.int (1 : Int32))] [(.int (1 : Int32))]))
    refine Fin.step (fun _ => XS.iloadN Xy16.here hx rfl (hb hby at_32) rfl) ?_
    show Fin p e below s _ _ _ (Ty16.setTop (mkF m 33 #[.val (.int p1), .val (.int (7 : Int32)), .val (.int (1 : Int32))] [(.int (1 : Int32)), (.int (1 : Int32))]))
    refine Fin.step (fun _ => XS.icmpNo Xy16.here hx rfl (hb hby at_33) rfl (teq ((by decide) : ((1 : Int32) = (1 : Int32)))).2) ?_
    show Fin p e below s _ _ _ (Ty16.setTop (mkF m 36 #[.val (.int p1), .val (.int (7 : Int32)), .val (.int (1 : Int32))] []))
    refine Fin.step (fun _ => XS.iconst Xy16.here hx rfl (hb hby at_36)) ?_
    show Fin p e below s _ _ _ (Ty16.setTop (mkF m 37 #[.val (.int p1), .val (.int (7 : Int32)), .val (.int (1 : Int32))] [(.int (1 : Int32))]))
    refine Fin.step (fun _ => XS.goto Xy16.here hx rfl (pc0 := 37) (pc' := 41) rfl (hb hby at_37) (by decide) (by decide)) ?_
    show Fin p e below s _ _ _ (Ty16.setTop (mkF m 41 #[.val (.int p1), .val (.int (7 : Int32)), .val (.int (1 : Int32))] [(.int (1 : Int32))]))
    refine Fin.retN Xy16 hx (t := .boolean) hret (by simp) hlk (hb hby at_41) (by decide) (by decide) ?_
    show Q0 Z p1 o0 o1 o2 o3 o4 o5 o6 o7 o8 o9 o10 o11 o12 o13 o14 o15 o16 o17 h0 n0 _ Ty16.heap _
    rw [eqy16]
    exact ⟨rfl, Ny16, rfl⟩
  · rw [qn]
    show Fin p e below s _ _ _ (s₁.setTop (mkF m 8 #[.val (.int p1), .val (.int (8 : Int32)), .unset] []))
    refine Fin.step (fun _ => XS.iloadN X0.here hx rfl (hb hby at_8) rfl) ?_
    show Fin p e below s _ _ _ (s₁.setTop (mkF m 9 #[.val (.int p1), .val (.int (8 : Int32)), .unset] [(.int (8 : Int32))]))
    refine Fin.step (fun _ => XS.iconst X0.here hx rfl (hb hby at_9)) ?_
    show Fin p e below s _ _ _ (s₁.setTop (mkF m 10 #[.val (.int p1), .val (.int (8 : Int32)), .unset] [(.int (1 : Int32)), (.int (8 : Int32))]))
    refine Fin.step (fun _ => XS.icmpNo X0.here hx rfl (hb hby at_10) rfl (flt ((by decide) : ¬ ((8 : Int32) < (1 : Int32)))).1) ?_
    show Fin p e below s _ _ _ (s₁.setTop (mkF m 13 #[.val (.int p1), .val (.int (8 : Int32)), .unset] []))
    refine Fin.step (fun _ => XS.iloadN X0.here hx rfl (hb hby at_13) rfl) ?_
    show Fin p e below s _ _ _ (s₁.setTop (mkF m 14 #[.val (.int p1), .val (.int (8 : Int32)), .unset] [(.int (8 : Int32))]))
    refine Fin.step (fun _ => XS.bipush X0.here hx rfl (hb hby at_14)) ?_
    show Fin p e below s _ _ _ (s₁.setTop (mkF m 16 #[.val (.int p1), .val (.int (8 : Int32)), .unset] [(.int (16 : Int32)), (.int (8 : Int32))]))
    refine Fin.step (fun _ => XS.icmpNo X0.here hx rfl (hb hby at_16) rfl (flt ((by decide) : ¬ ((16 : Int32) < (8 : Int32)))).2.2.1) ?_
    show Fin p e below s _ _ _ (s₁.setTop (mkF m 19 #[.val (.int p1), .val (.int (8 : Int32)), .unset] []))
    refine Fin.step (fun _ => XS.iconst X0.here hx rfl (hb hby at_19)) ?_
    show Fin p e below s _ _ _ (s₁.setTop (mkF m 20 #[.val (.int p1), .val (.int (8 : Int32)), .unset] [(.int (1 : Int32))]))
    refine Fin.step (fun _ => XS.goto X0.here hx rfl (pc0 := 20) (pc' := 24) rfl (hb hby at_20) (by decide) (by decide)) ?_
    show Fin p e below s _ _ _ (s₁.setTop (mkF m 24 #[.val (.int p1), .val (.int (8 : Int32)), .unset] [(.int (1 : Int32))]))
    refine Fin.step (fun _ => XS.istoreN X0.here hx rfl (hb hby at_24) rfl (l' := #[.val (.int p1), .val (.int (8 : Int32)), .val (.int (1 : Int32))]) rfl) ?_
    show Fin p e below s _ _ _ (s₁.setTop (mkF m 25 #[.val (.int p1), .val (.int (8 : Int32)), .val (.int (1 : Int32))] []))
    refine Fin.step (fun _ => XS.iloadN X0.here hx rfl (hb hby at_25) rfl) ?_
    show Fin p e below s _ _ _ (s₁.setTop (mkF m 26 #[.val (.int p1), .val (.int (8 : Int32)), .val (.int (1 : Int32))] [(.int (8 : Int32))]))
    obtain ⟨_, _, ⟨Ty17, Ly17, ky17, ny17⟩, -, Xy17, ⟨Lcy17, hQy17, ly17, yy17, zy17⟩, sty17⟩ := Jvm.LawKit.callS X0 hx (y := (⟨"com/example/wicketgate/wicketgate/core/lds/LdsFileIsDataGroupPinLaw", "pick", "(I)Lcom/example/wicketgate/wicketgate/core/lds/LdsFile;"⟩ : MethodName)) hown (mvT hZ (hw _ (List.mem_of_getElem? (i := 1) rfl))) (mvT hZ (hw _ (List.mem_of_getElem? (i := 2) rfl))) (mvT hZ (hw _ (List.mem_of_getElem? (i := 3) rfl))) (mvT hZ (hw _ (List.mem_of_getElem? (i := 4) rfl))) (by decide) (backOf (W := 0) (rmp8 l Z a0 hw [] (8 : Int32) o8 h0 n0 Z0 HS_com_example_wicketgate_wicketgate_core_lds_LdsFile_DG8 rfl) hZ (hw _ (List.mem_of_getElem? (i := 4) rfl)) (hw _ (List.mem_of_getElem? (i := 3) rfl)) (by decide) (by decide)) (g := (mkF m 26 #[.val (.int p1), .val (.int (8 : Int32)), .val (.int (1 : Int32))] [(.int (8 : Int32))])) rfl (by rw [hml]; rfl) (argsL := [(.int (8 : Int32))]) (rest := []) (lenOf pd_0 rfl) rfl (by show 2 * 0 + _ ≤ _; exact Nat.le_of_eq rfl) (hb hby at_26) (fun _ _ => ⟨rfl, e0, (by decide : 0 + 0 ≤ _), (by decide : 0 + 0 ≤ _)⟩)
    dsimp only [Pt.U, Pt.locs, Pt.cells, Pt.slots] at Xy17 ly17 yy17 zy17 sty17 hQy17
    subst ly17 yy17 zy17
    obtain ⟨rfl, Nqy17, eqy17⟩ := hQy17
    have Ny17 := Fr.app N0 Nqy17
    refine Fin.step (sty17) ?_
    show Fin p e below s _ _ _ (Ty17.setTop (mkF m 29 #[.val (.int p1), .val (.int (8 : Int32)), .val (.int (1 : Int32))] [(.ref o8)]))
    obtain ⟨cqy18, kqy18, qy18a, qy18b, qy18c⟩ := isOf hZ eqy17 HE_o8
    obtain ⟨_, _, ⟨Ty18, Ly18, ky18, ny18⟩, -, Xy18, ⟨Lcy18, hQy18, ly18, yy18, zy18⟩, sty18⟩ := Xy17.virtualBack hx (y := (⟨"com/example/wicketgate/wicketgate/core/lds/LdsFile", "isDataGroup", "()Z"⟩ : MethodName)) (z := (⟨"com/example/wicketgate/wicketgate/core/lds/LdsFile", "isDataGroup", "()Z"⟩ : MethodName)) hown (mvT hZ (hw _ (List.mem_of_getElem? (i := 8) rfl))) (mvT hZ (hw _ (List.mem_of_getElem? (i := 9) rfl))) (notFace_of_selects (args := #[]) (mvT hZ (hw _ (List.mem_of_getElem? (i := 11) rfl)))) (mvT hZ (hw _ (List.mem_of_getElem? (i := 11) rfl))) (mvT hZ (hw _ (List.mem_of_getElem? (i := 10) rfl))) (by decide) (backOf (W := 0) (rmg1 l Z a0 hw [] o8 o0 o17 h0 n0 Z0 HS_com_example_wicketgate_wicketgate_core_lds_LdsFile_COM HS_com_example_wicketgate_wicketgate_core_lds_LdsFile_SOD nc8 ns8) hZ (hw _ (List.mem_of_getElem? (i := 12) rfl)) (hw _ (List.mem_of_getElem? (i := 6) rfl)) (by decide) (by decide)) qy18a qy18c (g := (mkF m 29 #[.val (.int p1), .val (.int (8 : Int32)), .val (.int (1 : Int32))] [(.ref o8)])) rfl (by rw [hml]; rfl) (Steps.refl _) (argsL := []) (rest := []) (lenOf pd_1 rfl) rfl (by show 2 * 0 + _ ≤ _; exact Nat.le_of_eq rfl) (hb hby at_29) (fun _ _ => ⟨rfl, eqy17, (by decide : 0 + 0 ≤ _), (by decide : 0 + 0 ≤ _)⟩)
    dsimp only [Pt.U, Pt.locs, Pt.cells, Pt.slots] at Xy18 ly18 yy18 zy18 sty18 hQy18
    subst ly18 yy18 zy18
    obtain ⟨rfl, Nqy18, eqy18⟩ := hQy18
    have Ny18 := Fr.app Ny17 Nqy18
    refine Fin.step (fun _ k => sty18.trans k) ?_
    show Fin p e below s _ _ _ (Ty18.setTop (mkF m 32 #[.val (.int p1), .val (.int (8 : Int32)), .val (.int (1 : Int32))] [(.int (1 : Int32))]))
    refine Fin.step (fun _ => XS.iloadN Xy18.here hx rfl (hb hby at_32) rfl) ?_
    show Fin p e below s _ _ _ (Ty18.setTop (mkF m 33 #[.val (.int p1), .val (.int (8 : Int32)), .val (.int (1 : Int32))] [(.int (1 : Int32)), (.int (1 : Int32))]))
    refine Fin.step (fun _ => XS.icmpNo Xy18.here hx rfl (hb hby at_33) rfl (teq ((by decide) : ((1 : Int32) = (1 : Int32)))).2) ?_
    show Fin p e below s _ _ _ (Ty18.setTop (mkF m 36 #[.val (.int p1), .val (.int (8 : Int32)), .val (.int (1 : Int32))] []))
    refine Fin.step (fun _ => XS.iconst Xy18.here hx rfl (hb hby at_36)) ?_
    show Fin p e below s _ _ _ (Ty18.setTop (mkF m 37 #[.val (.int p1), .val (.int (8 : Int32)), .val (.int (1 : Int32))] [(.int (1 : Int32))]))
    refine Fin.step (fun _ => XS.goto Xy18.here hx rfl (pc0 := 37) (pc' := 41) rfl (hb hby at_37) (by decide) (by decide)) ?_
    show Fin p e below s _ _ _ (Ty18.setTop (mkF m 41 #[.val (.int p1), .val (.int (8 : Int32)), .val (.int (1 : Int32))] [(.int (1 : Int32))]))
    refine Fin.retN Xy18 hx (t := .boolean) hret (by simp) hlk (hb hby at_41) (by decide) (by decide) ?_
    show Q0 Z p1 o0 o1 o2 o3 o4 o5 o6 o7 o8 o9 o10 o11 o12 o13 o14 o15 o16 o17 h0 n0 _ Ty18.heap _
    rw [eqy18]
    exact ⟨rfl, Ny18, rfl⟩
  · rw [qn]
    show Fin p e below s _ _ _ (s₁.setTop (mkF m 8 #[.val (.int p1), .val (.int (9 : Int32)), .unset] []))
    refine Fin.step (fun _ => XS.iloadN X0.here hx rfl (hb hby at_8) rfl) ?_
    show Fin p e below s _ _ _ (s₁.setTop (mkF m 9 #[.val (.int p1), .val (.int (9 : Int32)), .unset] [(.int (9 : Int32))]))
    refine Fin.step (fun _ => XS.iconst X0.here hx rfl (hb hby at_9)) ?_
    show Fin p e below s _ _ _ (s₁.setTop (mkF m 10 #[.val (.int p1), .val (.int (9 : Int32)), .unset] [(.int (1 : Int32)), (.int (9 : Int32))]))
    refine Fin.step (fun _ => XS.icmpNo X0.here hx rfl (hb hby at_10) rfl (flt ((by decide) : ¬ ((9 : Int32) < (1 : Int32)))).1) ?_
    show Fin p e below s _ _ _ (s₁.setTop (mkF m 13 #[.val (.int p1), .val (.int (9 : Int32)), .unset] []))
    refine Fin.step (fun _ => XS.iloadN X0.here hx rfl (hb hby at_13) rfl) ?_
    show Fin p e below s _ _ _ (s₁.setTop (mkF m 14 #[.val (.int p1), .val (.int (9 : Int32)), .unset] [(.int (9 : Int32))]))
    refine Fin.step (fun _ => XS.bipush X0.here hx rfl (hb hby at_14)) ?_
    show Fin p e below s _ _ _ (s₁.setTop (mkF m 16 #[.val (.int p1), .val (.int (9 : Int32)), .unset] [(.int (16 : Int32)), (.int (9 : Int32))]))
    refine Fin.step (fun _ => XS.icmpNo X0.here hx rfl (hb hby at_16) rfl (flt ((by decide) : ¬ ((16 : Int32) < (9 : Int32)))).2.2.1) ?_
    show Fin p e below s _ _ _ (s₁.setTop (mkF m 19 #[.val (.int p1), .val (.int (9 : Int32)), .unset] []))
    refine Fin.step (fun _ => XS.iconst X0.here hx rfl (hb hby at_19)) ?_
    show Fin p e below s _ _ _ (s₁.setTop (mkF m 20 #[.val (.int p1), .val (.int (9 : Int32)), .unset] [(.int (1 : Int32))]))
    refine Fin.step (fun _ => XS.goto X0.here hx rfl (pc0 := 20) (pc' := 24) rfl (hb hby at_20) (by decide) (by decide)) ?_
    show Fin p e below s _ _ _ (s₁.setTop (mkF m 24 #[.val (.int p1), .val (.int (9 : Int32)), .unset] [(.int (1 : Int32))]))
    refine Fin.step (fun _ => XS.istoreN X0.here hx rfl (hb hby at_24) rfl (l' := #[.val (.int p1), .val (.int (9 : Int32)), .val (.int (1 : Int32))]) rfl) ?_
    show Fin p e below s _ _ _ (s₁.setTop (mkF m 25 #[.val (.int p1), .val (.int (9 : Int32)), .val (.int (1 : Int32))] []))
    refine Fin.step (fun _ => XS.iloadN X0.here hx rfl (hb hby at_25) rfl) ?_
    show Fin p e below s _ _ _ (s₁.setTop (mkF m 26 #[.val (.int p1), .val (.int (9 : Int32)), .val (.int (1 : Int32))] [(.int (9 : Int32))]))
    obtain ⟨_, _, ⟨Ty19, Ly19, ky19, ny19⟩, -, Xy19, ⟨Lcy19, hQy19, ly19, yy19, zy19⟩, sty19⟩ := Jvm.LawKit.callS X0 hx (y := (⟨"com/example/wicketgate/wicketgate/core/lds/LdsFileIsDataGroupPinLaw", "pick", "(I)Lcom/example/wicketgate/wicketgate/core/lds/LdsFile;"⟩ : MethodName)) hown (mvT hZ (hw _ (List.mem_of_getElem? (i := 1) rfl))) (mvT hZ (hw _ (List.mem_of_getElem? (i := 2) rfl))) (mvT hZ (hw _ (List.mem_of_getElem? (i := 3) rfl))) (mvT hZ (hw _ (List.mem_of_getElem? (i := 4) rfl))) (by decide) (backOf (W := 0) (rmp9 l Z a0 hw [] (9 : Int32) o9 h0 n0 Z0 HS_com_example_wicketgate_wicketgate_core_lds_LdsFile_DG9 rfl) hZ (hw _ (List.mem_of_getElem? (i := 4) rfl)) (hw _ (List.mem_of_getElem? (i := 3) rfl)) (by decide) (by decide)) (g := (mkF m 26 #[.val (.int p1), .val (.int (9 : Int32)), .val (.int (1 : Int32))] [(.int (9 : Int32))])) rfl (by rw [hml]; rfl) (argsL := [(.int (9 : Int32))]) (rest := []) (lenOf pd_0 rfl) rfl (by show 2 * 0 + _ ≤ _; exact Nat.le_of_eq rfl) (hb hby at_26) (fun _ _ => ⟨rfl, e0, (by decide : 0 + 0 ≤ _), (by decide : 0 + 0 ≤ _)⟩)
    dsimp only [Pt.U, Pt.locs, Pt.cells, Pt.slots] at Xy19 ly19 yy19 zy19 sty19 hQy19
    subst ly19 yy19 zy19
    obtain ⟨rfl, Nqy19, eqy19⟩ := hQy19
    have Ny19 := Fr.app N0 Nqy19
    refine Fin.step (sty19) ?_
    show Fin p e below s _ _ _ (Ty19.setTop (mkF m 29 #[.val (.int p1), .val (.int (9 : Int32)), .val (.int (1 : Int32))] [(.ref o9)]))
    obtain ⟨cqy20, kqy20, qy20a, qy20b, qy20c⟩ := isOf hZ eqy19 HE_o9
    obtain ⟨_, _, ⟨Ty20, Ly20, ky20, ny20⟩, -, Xy20, ⟨Lcy20, hQy20, ly20, yy20, zy20⟩, sty20⟩ := Xy19.virtualBack hx (y := (⟨"com/example/wicketgate/wicketgate/core/lds/LdsFile", "isDataGroup", "()Z"⟩ : MethodName)) (z := (⟨"com/example/wicketgate/wicketgate/core/lds/LdsFile", "isDataGroup", "()Z"⟩ : MethodName)) hown (mvT hZ (hw _ (List.mem_of_getElem? (i := 8) rfl))) (mvT hZ (hw _ (List.mem_of_getElem? (i := 9) rfl))) (notFace_of_selects (args := #[]) (mvT hZ (hw _ (List.mem_of_getElem? (i := 11) rfl)))) (mvT hZ (hw _ (List.mem_of_getElem? (i := 11) rfl))) (mvT hZ (hw _ (List.mem_of_getElem? (i := 10) rfl))) (by decide) (backOf (W := 0) (rmg1 l Z a0 hw [] o9 o0 o17 h0 n0 Z0 HS_com_example_wicketgate_wicketgate_core_lds_LdsFile_COM HS_com_example_wicketgate_wicketgate_core_lds_LdsFile_SOD nc9 ns9) hZ (hw _ (List.mem_of_getElem? (i := 12) rfl)) (hw _ (List.mem_of_getElem? (i := 6) rfl)) (by decide) (by decide)) qy20a qy20c (g := (mkF m 29 #[.val (.int p1), .val (.int (9 : Int32)), .val (.int (1 : Int32))] [(.ref o9)])) rfl (by rw [hml]; rfl) (Steps.refl _) (argsL := []) (rest := []) (lenOf pd_1 rfl) rfl (by show 2 * 0 + _ ≤ _; exact Nat.le_of_eq rfl) (hb hby at_29) (fun _ _ => ⟨rfl, eqy19, (by decide : 0 + 0 ≤ _), (by decide : 0 + 0 ≤ _)⟩)
    dsimp only [Pt.U, Pt.locs, Pt.cells, Pt.slots] at Xy20 ly20 yy20 zy20 sty20 hQy20
    subst ly20 yy20 zy20
    obtain ⟨rfl, Nqy20, eqy20⟩ := hQy20
    have Ny20 := Fr.app Ny19 Nqy20
    refine Fin.step (fun _ k => sty20.trans k) ?_
    show Fin p e below s _ _ _ (Ty20.setTop (mkF m 32 #[.val (.int p1), .val (.int (9 : Int32)), .val (.int (1 : Int32))] [(.int (1 : Int32))]))
    refine Fin.step (fun _ => XS.iloadN Xy20.here hx rfl (hb hby at_32) rfl) ?_
    show Fin p e below s _ _ _ (Ty20.setTop (mkF m 33 #[.val (.int p1), .val (.int (9 : Int32)), .val (.int (1 : Int32))] [(.int (1 : Int32)), (.int (1 : Int32))]))
    refine Fin.step (fun _ => XS.icmpNo Xy20.here hx rfl (hb hby at_33) rfl (teq ((by decide) : ((1 : Int32) = (1 : Int32)))).2) ?_
    show Fin p e below s _ _ _ (Ty20.setTop (mkF m 36 #[.val (.int p1), .val (.int (9 : Int32)), .val (.int (1 : Int32))] []))
    refine Fin.step (fun _ => XS.iconst Xy20.here hx rfl (hb hby at_36)) ?_
    show Fin p e below s _ _ _ (Ty20.setTop (mkF m 37 #[.val (.int p1), .val (.int (9 : Int32)), .val (.int (1 : Int32))] [(.int (1 : Int32))]))
    refine Fin.step (fun _ => XS.goto Xy20.here hx rfl (pc0 := 37) (pc' := 41) rfl (hb hby at_37) (by decide) (by decide)) ?_
    show Fin p e below s _ _ _ (Ty20.setTop (mkF m 41 #[.val (.int p1), .val (.int (9 : Int32)), .val (.int (1 : Int32))] [(.int (1 : Int32))]))
    refine Fin.retN Xy20 hx (t := .boolean) hret (by simp) hlk (hb hby at_41) (by decide) (by decide) ?_
    show Q0 Z p1 o0 o1 o2 o3 o4 o5 o6 o7 o8 o9 o10 o11 o12 o13 o14 o15 o16 o17 h0 n0 _ Ty20.heap _
    rw [eqy20]
    exact ⟨rfl, Ny20, rfl⟩
  · rw [qn]
    show Fin p e below s _ _ _ (s₁.setTop (mkF m 8 #[.val (.int p1), .val (.int (10 : Int32)), .unset] []))
    refine Fin.step (fun _ => XS.iloadN X0.here hx rfl (hb hby at_8) rfl) ?_
    show Fin p e below s _ _ _ (s₁.setTop (mkF m 9 #[.val (.int p1), .val (.int (10 : Int32)), .unset] [(.int (10 : Int32))]))
    refine Fin.step (fun _ => XS.iconst X0.here hx rfl (hb hby at_9)) ?_
    show Fin p e below s _ _ _ (s₁.setTop (mkF m 10 #[.val (.int p1), .val (.int (10 : Int32)), .unset] [(.int (1 : Int32)), (.int (10 : Int32))]))
    refine Fin.step (fun _ => XS.icmpNo X0.here hx rfl (hb hby at_10) rfl (flt ((by decide) : ¬ ((10 : Int32) < (1 : Int32)))).1) ?_
    show Fin p e below s _ _ _ (s₁.setTop (mkF m 13 #[.val (.int p1), .val (.int (10 : Int32)), .unset] []))
    refine Fin.step (fun _ => XS.iloadN X0.here hx rfl (hb hby at_13) rfl) ?_
    show Fin p e below s _ _ _ (s₁.setTop (mkF m 14 #[.val (.int p1), .val (.int (10 : Int32)), .unset] [(.int (10 : Int32))]))
    refine Fin.step (fun _ => XS.bipush X0.here hx rfl (hb hby at_14)) ?_
    show Fin p e below s _ _ _ (s₁.setTop (mkF m 16 #[.val (.int p1), .val (.int (10 : Int32)), .unset] [(.int (16 : Int32)), (.int (10 : Int32))]))
    refine Fin.step (fun _ => XS.icmpNo X0.here hx rfl (hb hby at_16) rfl (flt ((by decide) : ¬ ((16 : Int32) < (10 : Int32)))).2.2.1) ?_
    show Fin p e below s _ _ _ (s₁.setTop (mkF m 19 #[.val (.int p1), .val (.int (10 : Int32)), .unset] []))
    refine Fin.step (fun _ => XS.iconst X0.here hx rfl (hb hby at_19)) ?_
    show Fin p e below s _ _ _ (s₁.setTop (mkF m 20 #[.val (.int p1), .val (.int (10 : Int32)), .unset] [(.int (1 : Int32))]))
    refine Fin.step (fun _ => XS.goto X0.here hx rfl (pc0 := 20) (pc' := 24) rfl (hb hby at_20) (by decide) (by decide)) ?_
    show Fin p e below s _ _ _ (s₁.setTop (mkF m 24 #[.val (.int p1), .val (.int (10 : Int32)), .unset] [(.int (1 : Int32))]))
    refine Fin.step (fun _ => XS.istoreN X0.here hx rfl (hb hby at_24) rfl (l' := #[.val (.int p1), .val (.int (10 : Int32)), .val (.int (1 : Int32))]) rfl) ?_
    show Fin p e below s _ _ _ (s₁.setTop (mkF m 25 #[.val (.int p1), .val (.int (10 : Int32)), .val (.int (1 : Int32))] []))
    refine Fin.step (fun _ => XS.iloadN X0.here hx rfl (hb hby at_25) rfl) ?_
    show Fin p e below s _ _ _ (s₁.setTop (mkF m 26 #[.val (.int p1), .val (.int (10 : Int32)), .val (.int (1 : Int32))] [(.int (10 : Int32))]))
    obtain ⟨_, _, ⟨Ty21, Ly21, ky21, ny21⟩, -, Xy21, ⟨Lcy21, hQy21, ly21, yy21, zy21⟩, sty21⟩ := Jvm.LawKit.callS X0 hx (y := (⟨"com/example/wicketgate/wicketgate/core/lds/LdsFileIsDataGroupPinLaw", "pick", "(I)Lcom/example/wicketgate/wicketgate/core/lds/LdsFile;"⟩ : MethodName)) hown (mvT hZ (hw _ (List.mem_of_getElem? (i := 1) rfl))) (mvT hZ (hw _ (List.mem_of_getElem? (i := 2) rfl))) (mvT hZ (hw _ (List.mem_of_getElem? (i := 3) rfl))) (mvT hZ (hw _ (List.mem_of_getElem? (i := 4) rfl))) (by decide) (backOf (W := 0) (rmp10 l Z a0 hw [] (10 : Int32) o10 h0 n0 Z0 HS_com_example_wicketgate_wicketgate_core_lds_LdsFile_DG10 rfl) hZ (hw _ (List.mem_of_getElem? (i := 4) rfl)) (hw _ (List.mem_of_getElem? (i := 3) rfl)) (by decide) (by decide)) (g := (mkF m 26 #[.val (.int p1), .val (.int (10 : Int32)), .val (.int (1 : Int32))] [(.int (10 : Int32))])) rfl (by rw [hml]; rfl) (argsL := [(.int (10 : Int32))]) (rest := []) (lenOf pd_0 rfl) rfl (by show 2 * 0 + _ ≤ _; exact Nat.le_of_eq rfl) (hb hby at_26) (fun _ _ => ⟨rfl, e0, (by decide : 0 + 0 ≤ _), (by decide : 0 + 0 ≤ _)⟩)
    dsimp only [Pt.U, Pt.locs, Pt.cells, Pt.slots] at Xy21 ly21 yy21 zy21 sty21 hQy21
    subst ly21 yy21 zy21
    obtain ⟨rfl, Nqy21, eqy21⟩ := hQy21
    have Ny21 := Fr.app N0 Nqy21
    refine Fin.step (sty21) ?_
    show Fin p e below s _ _ _ (Ty21.setTop (mkF m 29 #[.val (.int p1), .val (.int (10 : Int32)), .val (.int (1 : Int32))] [(.ref o10)]))
    obtain ⟨cqy22, kqy22, qy22a, qy22b, qy22c⟩ := isOf hZ eqy21 HE_o10
    obtain ⟨_, _, ⟨Ty22, Ly22, ky22, ny22⟩, -, Xy22, ⟨Lcy22, hQy22, ly22, yy22, zy22⟩, sty22⟩ := Xy21.virtualBack hx (y := (⟨"com/example/wicketgate/wicketgate/core/lds/LdsFile", "isDataGroup", "()Z"⟩ : MethodName)) (z := (⟨"com/example/wicketgate/wicketgate/core/lds/LdsFile", "isDataGroup", "()Z"⟩ : MethodName)) hown (mvT hZ (hw _ (List.mem_of_getElem? (i := 8) rfl))) (mvT hZ (hw _ (List.mem_of_getElem? (i := 9) rfl))) (notFace_of_selects (args := #[]) (mvT hZ (hw _ (List.mem_of_getElem? (i := 11) rfl)))) (mvT hZ (hw _ (List.mem_of_getElem? (i := 11) rfl))) (mvT hZ (hw _ (List.mem_of_getElem? (i := 10) rfl))) (by decide) (backOf (W := 0) (rmg1 l Z a0 hw [] o10 o0 o17 h0 n0 Z0 HS_com_example_wicketgate_wicketgate_core_lds_LdsFile_COM HS_com_example_wicketgate_wicketgate_core_lds_LdsFile_SOD nc10 ns10) hZ (hw _ (List.mem_of_getElem? (i := 12) rfl)) (hw _ (List.mem_of_getElem? (i := 6) rfl)) (by decide) (by decide)) qy22a qy22c (g := (mkF m 29 #[.val (.int p1), .val (.int (10 : Int32)), .val (.int (1 : Int32))] [(.ref o10)])) rfl (by rw [hml]; rfl) (Steps.refl _) (argsL := []) (rest := []) (lenOf pd_1 rfl) rfl (by show 2 * 0 + _ ≤ _; exact Nat.le_of_eq rfl) (hb hby at_29) (fun _ _ => ⟨rfl, eqy21, (by decide : 0 + 0 ≤ _), (by decide : 0 + 0 ≤ _)⟩)
    dsimp only [Pt.U, Pt.locs, Pt.cells, Pt.slots] at Xy22 ly22 yy22 zy22 sty22 hQy22
    subst ly22 yy22 zy22
    obtain ⟨rfl, Nqy22, eqy22⟩ := hQy22
    have Ny22 := Fr.app Ny21 Nqy22
    refine Fin.step (fun _ k => sty22.trans k) ?_
    show Fin p e below s _ _ _ (Ty22.setTop (mkF m 32 #[.val (.int p1), .val (.int (10 : Int32)), .val (.int (1 : Int32))] [(.int (1 : Int32))]))
    refine Fin.step (fun _ => XS.iloadN Xy22.here hx rfl (hb hby at_32) rfl) ?_
    show Fin p e below s _ _ _ (Ty22.setTop (mkF m 33 #[.val (.int p1), .val (.int (10 : Int32)), .val (.int (1 : Int32))] [(.int (1 : Int32)), (.int (1 : Int32))]))
    refine Fin.step (fun _ => XS.icmpNo Xy22.here hx rfl (hb hby at_33) rfl (teq ((by decide) : ((1 : Int32) = (1 : Int32)))).2) ?_
    show Fin p e below s _ _ _ (Ty22.setTop (mkF m 36 #[.val (.int p1), .val (.int (10 : Int32)), .val (.int (1 : Int32))] []))
    refine Fin.step (fun _ => XS.iconst Xy22.here hx rfl (hb hby at_36)) ?_
    show Fin p e below s _ _ _ (Ty22.setTop (mkF m 37 #[.val (.int p1), .val (.int (10 : Int32)), .val (.int (1 : Int32))] [(.int (1 : Int32))]))
    refine Fin.step (fun _ => XS.goto Xy22.here hx rfl (pc0 := 37) (pc' := 41) rfl (hb hby at_37) (by decide) (by decide)) ?_
    show Fin p e below s _ _ _ (Ty22.setTop (mkF m 41 #[.val (.int p1), .val (.int (10 : Int32)), .val (.int (1 : Int32))] [(.int (1 : Int32))]))
    refine Fin.retN Xy22 hx (t := .boolean) hret (by simp) hlk (hb hby at_41) (by decide) (by decide) ?_
    show Q0 Z p1 o0 o1 o2 o3 o4 o5 o6 o7 o8 o9 o10 o11 o12 o13 o14 o15 o16 o17 h0 n0 _ Ty22.heap _
    rw [eqy22]
    exact ⟨rfl, Ny22, rfl⟩
  · rw [qn]
    show Fin p e below s _ _ _ (s₁.setTop (mkF m 8 #[.val (.int p1), .val (.int (11 : Int32)), .unset] []))
    refine Fin.step (fun _ => XS.iloadN X0.here hx rfl (hb hby at_8) rfl) ?_
    show Fin p e below s _ _ _ (s₁.setTop (mkF m 9 #[.val (.int p1), .val (.int (11 : Int32)), .unset] [(.int (11 : Int32))]))
    refine Fin.step (fun _ => XS.iconst X0.here hx rfl (hb hby at_9)) ?_
    show Fin p e below s _ _ _ (s₁.setTop (mkF m 10 #[.val (.int p1), .val (.int (11 : Int32)), .unset] [(.int (1 : Int32)), (.int (11 : Int32))]))
    refine Fin.step (fun _ => XS.icmpNo X0.here hx rfl (hb hby at_10) rfl (flt ((by decide) : ¬ ((11 : Int32) < (1 : Int32)))).1) ?_
    show Fin p e below s _ _ _ (s₁.setTop (mkF m 13 #[.val (.int p1), .val (.int (11 : Int32)), .unset] []))
    refine Fin.step (fun _ => XS.iloadN X0.here hx rfl (hb hby at_13) rfl) ?_
    show Fin p e below s _ _ _ (s₁.setTop (mkF m 14 #[.val (.int p1), .val (.int (11 : Int32)), .unset] [(.int (11 : Int32))]))
    refine Fin.step (fun _ => XS.bipush X0.here hx rfl (hb hby at_14)) ?_
    show Fin p e below s _ _ _ (s₁.setTop (mkF m 16 #[.val (.int p1), .val (.int (11 : Int32)), .unset] [(.int (16 : Int32)), (.int (11 : Int32))]))
    refine Fin.step (fun _ => XS.icmpNo X0.here hx rfl (hb hby at_16) rfl (flt ((by decide) : ¬ ((16 : Int32) < (11 : Int32)))).2.2.1) ?_
    show Fin p e below s _ _ _ (s₁.setTop (mkF m 19 #[.val (.int p1), .val (.int (11 : Int32)), .unset] []))
    refine Fin.step (fun _ => XS.iconst X0.here hx rfl (hb hby at_19)) ?_
    show Fin p e below s _ _ _ (s₁.setTop (mkF m 20 #[.val (.int p1), .val (.int (11 : Int32)), .unset] [(.int (1 : Int32))]))
    refine Fin.step (fun _ => XS.goto X0.here hx rfl (pc0 := 20) (pc' := 24) rfl (hb hby at_20) (by decide) (by decide)) ?_
    show Fin p e below s _ _ _ (s₁.setTop (mkF m 24 #[.val (.int p1), .val (.int (11 : Int32)), .unset] [(.int (1 : Int32))]))
    refine Fin.step (fun _ => XS.istoreN X0.here hx rfl (hb hby at_24) rfl (l' := #[.val (.int p1), .val (.int (11 : Int32)), .val (.int (1 : Int32))]) rfl) ?_
    show Fin p e below s _ _ _ (s₁.setTop (mkF m 25 #[.val (.int p1), .val (.int (11 : Int32)), .val (.int (1 : Int32))] []))
    refine Fin.step (fun _ => XS.iloadN X0.here hx rfl (hb hby at_25) rfl) ?_
    show Fin p e below s _ _ _ (s₁.setTop (mkF m 26 #[.val (.int p1), .val (.int (11 : Int32)), .val (.int (1 : Int32))] [(.int (11 : Int32))]))
    obtain ⟨_, _, ⟨Ty23, Ly23, ky23, ny23⟩, -, Xy23, ⟨Lcy23, hQy23, ly23, yy23, zy23⟩, sty23⟩ := Jvm.LawKit.callS X0 hx (y := (⟨"com/example/wicketgate/wicketgate/core/lds/LdsFileIsDataGroupPinLaw", "pick", "(I)Lcom/example/wicketgate/wicketgate/core/lds/LdsFile;"⟩ : MethodName)) hown (mvT hZ (hw _ (List.mem_of_getElem? (i := 1) rfl))) (mvT hZ (hw _ (List.mem_of_getElem? (i := 2) rfl))) (mvT hZ (hw _ (List.mem_of_getElem? (i := 3) rfl))) (mvT hZ (hw _ (List.mem_of_getElem? (i := 4) rfl))) (by decide) (backOf (W := 0) (rmp11 l Z a0 hw [] (11 : Int32) o11 h0 n0 Z0 HS_com_example_wicketgate_wicketgate_core_lds_LdsFile_DG11 rfl) hZ (hw _ (List.mem_of_getElem? (i := 4) rfl)) (hw _ (List.mem_of_getElem? (i := 3) rfl)) (by decide) (by decide)) (g := (mkF m 26 #[.val (.int p1), .val (.int (11 : Int32)), .val (.int (1 : Int32))] [(.int (11 : Int32))])) rfl (by rw [hml]; rfl) (argsL := [(.int (11 : Int32))]) (rest := []) (lenOf pd_0 rfl) rfl (by show 2 * 0 + _ ≤ _; exact Nat.le_of_eq rfl) (hb hby at_26) (fun _ _ => ⟨rfl, e0, (by decide : 0 + 0 ≤ _), (by decide : 0 + 0 ≤ _)⟩)
    dsimp only [Pt.U, Pt.locs, Pt.cells, Pt.slots] at Xy23 ly23 yy23 zy23 sty23 hQy23
    subst ly23 yy23 zy23
    obtain ⟨rfl, Nqy23, eqy23⟩ := hQy23
    have Ny23 := Fr.app N0 Nqy23
    refine Fin.step (sty23) ?_
    show Fin p e below s _ _ _ (Ty23.setTop (mkF m 29 #[.val (.int p1), .val (.int (11 : Int32)), .val (.int (1 : Int32))] [(.ref o11)]))
    obtain ⟨cqy24, kqy24, qy24a, qy24b, qy24c⟩ := isOf hZ eqy23 HE_o11
    obtain ⟨_, _, ⟨Ty24, Ly24, ky24, ny24⟩, -, Xy24, ⟨Lcy24, hQy24, ly24, yy24, zy24⟩, sty24⟩ := Xy23.virtualBack hx (y := (⟨"com/example/wicketgate/wicketgate/core/lds/LdsFile", "isDataGroup", "()Z"⟩ : MethodName)) (z := (⟨"com/example/wicketgate/wicketgate/core/lds/LdsFile", "isDataGroup", "()Z"⟩ : MethodName)) hown (mvT hZ (hw _ (List.mem_of_getElem? (i := 8) rfl))) (mvT hZ (hw _ (List.mem_of_getElem? (i := 9) rfl))) (notFace_of_selects (args := #[]) (mvT hZ (hw _ (List.mem_of_getElem? (i := 11) rfl)))) (mvT hZ (hw _ (List.mem_of_getElem? (i := 11) rfl))) (mvT hZ (hw _ (List.mem_of_getElem? (i := 10) rfl))) (by decide) (backOf (W := 0) (rmg1 l Z a0 hw [] o11 o0 o17 h0 n0 Z0 HS_com_example_wicketgate_wicketgate_core_lds_LdsFile_COM HS_com_example_wicketgate_wicketgate_core_lds_LdsFile_SOD nc11 ns11) hZ (hw _ (List.mem_of_getElem? (i := 12) rfl)) (hw _ (List.mem_of_getElem? (i := 6) rfl)) (by decide) (by decide)) qy24a qy24c (g := (mkF m 29 #[.val (.int p1), .val (.int (11 : Int32)), .val (.int (1 : Int32))] [(.ref o11)])) rfl (by rw [hml]; rfl) (Steps.refl _) (argsL := []) (rest := []) (lenOf pd_1 rfl) rfl (by show 2 * 0 + _ ≤ _; exact Nat.le_of_eq rfl) (hb hby at_29) (fun _ _ => ⟨rfl, eqy23, (by decide : 0 + 0 ≤ _), (by decide : 0 + 0 ≤ _)⟩)
    dsimp only [Pt.U, Pt.locs, Pt.cells, Pt.slots] at Xy24 ly24 yy24 zy24 sty24 hQy24
    subst ly24 yy24 zy24
    obtain ⟨rfl, Nqy24, eqy24⟩ := hQy24
    have Ny24 := Fr.app Ny23 Nqy24
    refine Fin.step (fun _ k => sty24.trans k) ?_
    show Fin p e below s _ _ _ (Ty24.setTop (mkF m 32 #[.val (.int p1), .val (.int (11 : Int32)), .val (.int (1 : Int32))] [(.int (1 : Int32))]))
    refine Fin.step (fun _ => XS.iloadN Xy24.here hx rfl (hb hby at_32) rfl) ?_
    show Fin p e below s _ _ _ (Ty24.setTop (mkF m 33 #[.val (.int p1), .val (.int (11 : Int32)), .val (.int (1 : Int32))] [(.int (1 : Int32)), (.int (1 : Int32))]))
    refine Fin.step (fun _ => XS.icmpNo Xy24.here hx rfl (hb hby at_33) rfl (teq ((by decide) : ((1 : Int32) = (1 : Int32)))).2) ?_
    show Fin p e below s _ _ _ (Ty24.setTop (mkF m 36 #[.val (.int p1), .val (.int (11 : Int32)), .val (.int (1 : Int32))] []))
    refine Fin.step (fun _ => XS.iconst Xy24.here hx rfl (hb hby at_36)) ?_
    show Fin p e below s _ _ _ (Ty24.setTop (mkF m 37 #[.val (.int p1), .val (.int (11 : Int32)), .val (.int (1 : Int32))] [(.int (1 : Int32))]))
    refine Fin.step (fun _ => XS.goto Xy24.here hx rfl (pc0 := 37) (pc' := 41) rfl (hb hby at_37) (by decide) (by decide)) ?_
    show Fin p e below s _ _ _ (Ty24.setTop (mkF m 41 #[.val (.int p1), .val (.int (11 : Int32)), .val (.int (1 : Int32))] [(.int (1 : Int32))]))
    refine Fin.retN Xy24 hx (t := .boolean) hret (by simp) hlk (hb hby at_41) (by decide) (by decide) ?_
    show Q0 Z p1 o0 o1 o2 o3 o4 o5 o6 o7 o8 o9 o10 o11 o12 o13 o14 o15 o16 o17 h0 n0 _ Ty24.heap _
    rw [eqy24]
    exact ⟨rfl, Ny24, rfl⟩
  · rw [qn]
    show Fin p e below s _ _ _ (s₁.setTop (mkF m 8 #[.val (.int p1), .val (.int (12 : Int32)), .unset] []))
    refine Fin.step (fun _ => XS.iloadN X0.here hx rfl (hb hby at_8) rfl) ?_
    show Fin p e below s _ _ _ (s₁.setTop (mkF m 9 #[.val (.int p1), .val (.int (12 : Int32)), .unset] [(.int (12 : Int32))]))
    refine Fin.step (fun _ => XS.iconst X0.here hx rfl (hb hby at_9)) ?_
    show Fin p e below s _ _ _ (s₁.setTop (mkF m 10 #[.val (.int p1), .val (.int (12 : Int32)), .unset] [(.int (1 : Int32)), (.int (12 : Int32))]))
    refine Fin.step (fun _ => XS.icmpNo X0.here hx rfl (hb hby at_10) rfl (flt ((by decide) : ¬ ((12 : Int32) < (1 : Int32)))).1) ?_
    show Fin p e below s _ _ _ (s₁.setTop (mkF m 13 #[.val (.int p1), .val (.int (12 : Int32)), .unset] []))
    refine Fin.step (fun _ => XS.iloadN X0.here hx rfl (hb hby at_13) rfl) ?_
    show Fin p e below s _ _ _ (s₁.setTop (mkF m 14 #[.val (.int p1), .val (.int (12 : Int32)), .unset] [(.int (12 : Int32))]))
    refine Fin.step (fun _ => XS.bipush X0.here hx rfl (hb hby at_14)) ?_
    show Fin p e below s _ _ _ (s₁.setTop (mkF m 16 #[.val (.int p1), .val (.int (12 : Int32)), .unset] [(.int (16 : Int32)), (.int (12 : Int32))]))
    refine Fin.step (fun _ => XS.icmpNo X0.here hx rfl (hb hby at_16) rfl (flt ((by decide) : ¬ ((16 : Int32) < (12 : Int32)))).2.2.1) ?_
    show Fin p e below s _ _ _ (s₁.setTop (mkF m 19 #[.val (.int p1), .val (.int (12 : Int32)), .unset] []))
    refine Fin.step (fun _ => XS.iconst X0.here hx rfl (hb hby at_19)) ?_
    show Fin p e below s _ _ _ (s₁.setTop (mkF m 20 #[.val (.int p1), .val (.int (12 : Int32)), .unset] [(.int (1 : Int32))]))
    refine Fin.step (fun _ => XS.goto X0.here hx rfl (pc0 := 20) (pc' := 24) rfl (hb hby at_20) (by decide) (by decide)) ?_
    show Fin p e below s _ _ _ (s₁.setTop (mkF m 24 #[.val (.int p1), .val (.int (12 : Int32)), .unset] [(.int (1 : Int32))]))
    refine Fin.step (fun _ => XS.istoreN X0.here hx rfl (hb hby at_24) rfl (l' := #[.val (.int p1), .val (.int (12 : Int32)), .val (.int (1 : Int32))]) rfl) ?_
    show Fin p e below s _ _ _ (s₁.setTop (mkF m 25 #[.val (.int p1), .val (.int (12 : Int32)), .val (.int (1 : Int32))] []))
    refine Fin.step (fun _ => XS.iloadN X0.here hx rfl (hb hby at_25) rfl) ?_
    show Fin p e below s _ _ _ (s₁.setTop (mkF m 26 #[.val (.int p1), .val (.int (12 : Int32)), .val (.int (1 : Int32))] [(.int (12 : Int32))]))
    obtain ⟨_, _, ⟨Ty25, Ly25, ky25, ny25⟩, -, Xy25, ⟨Lcy25, hQy25, ly25, yy25, zy25⟩, sty25⟩ := Jvm.LawKit.callS X0 hx (y := (⟨"com/example/wicketgate/wicketgate/core/lds/LdsFileIsDataGroupPinLaw", "pick", "(I)Lcom/example/wicketgate/wicketgate/core/lds/LdsFile;"⟩ : MethodName)) hown (mvT hZ (hw _ (List.mem_of_getElem? (i := 1) rfl))) (mvT hZ (hw _ (List.mem_of_getElem? (i := 2) rfl))) (mvT hZ (hw _ (List.mem_of_getElem? (i := 3) rfl))) (mvT hZ (hw _ (List.mem_of_getElem? (i := 4) rfl))) (by decide) (backOf (W := 0) (rmp12 l Z a0 hw [] (12 : Int32) o12 h0 n0 Z0 HS_com_example_wicketgate_wicketgate_core_lds_LdsFile_DG12 rfl) hZ (hw _ (List.mem_of_getElem? (i := 4) rfl)) (hw _ (List.mem_of_getElem? (i := 3) rfl)) (by decide) (by decide)) (g := (mkF m 26 #[.val (.int p1), .val (.int (12 : Int32)), .val (.int (1 : Int32))] [(.int (12 : Int32))])) rfl (by rw [hml]; rfl) (argsL := [(.int (12 : Int32))]) (rest := []) (lenOf pd_0 rfl) rfl (by show 2 * 0 + _ ≤ _; exact Nat.le_of_eq rfl) (hb hby at_26) (fun _ _ => ⟨rfl, e0, (by decide : 0 + 0 ≤ _), (by decide : 0 + 0 ≤ _)⟩)
    dsimp only [Pt.U, Pt.locs, Pt.cells, Pt.slots] at Xy25 ly25 yy25 zy25 sty25 hQy25
    subst ly25 yy25 zy25
    obtain ⟨rfl, Nqy25, eqy25⟩ := hQy25
    have Ny25 := Fr.app N0 Nqy25
    refine Fin.step (sty25) ?_
    show Fin p e below s _ _ _ (Ty25.setTop (mkF m 29 #[.val (.int p1), .val (.int (12 : Int32)), .val (.int (1 : Int32))] [(.ref o12)]))
    obtain ⟨cqy26, kqy26, qy26a, qy26b, qy26c⟩ := isOf hZ eqy25 HE_o12
    obtain ⟨_, _, ⟨Ty26, Ly26, ky26, ny26⟩, -, Xy26, ⟨Lcy26, hQy26, ly26, yy26, zy26⟩, sty26⟩ := Xy25.virtualBack hx (y := (⟨"com/example/wicketgate/wicketgate/core/lds/LdsFile", "isDataGroup", "()Z"⟩ : MethodName)) (z := (⟨"com/example/wicketgate/wicketgate/core/lds/LdsFile", "isDataGroup", "()Z"⟩ : MethodName)) hown (mvT hZ (hw _ (List.mem_of_getElem? (i := 8) rfl))) (mvT hZ (hw _ (List.mem_of_getElem? (i := 9) rfl))) (notFace_of_selects (args := #[]) (mvT hZ (hw _ (List.mem_of_getElem? (i := 11) rfl)))) (mvT hZ (hw _ (List.mem_of_getElem? (i := 11) rfl))) (mvT hZ (hw _ (List.mem_of_getElem? (i := 10) rfl))) (by decide) (backOf (W := 0) (rmg1 l Z a0 hw [] o12 o0 o17 h0 n0 Z0 HS_com_example_wicketgate_wicketgate_core_lds_LdsFile_COM HS_com_example_wicketgate_wicketgate_core_lds_LdsFile_SOD nc12 ns12) hZ (hw _ (List.mem_of_getElem? (i := 12) rfl)) (hw _ (List.mem_of_getElem? (i := 6) rfl)) (by decide) (by decide)) qy26a qy26c (g := (mkF m 29 #[.val (.int p1), .val (.int (12 : Int32)), .val (.int (1 : Int32))] [(.ref o12)])) rfl (by rw [hml]; rfl) (Steps.refl _) (argsL := []) (rest := []) (lenOf pd_1 rfl) rfl (by show 2 * 0 + _ ≤ _; exact Nat.le_of_eq rfl) (hb hby at_29) (fun _ _ => ⟨rfl, eqy25, (by decide : 0 + 0 ≤ _), (by decide : 0 + 0 ≤ _)⟩)
    dsimp only [Pt.U, Pt.locs, Pt.cells, Pt.slots] at Xy26 ly26 yy26 zy26 sty26 hQy26
    subst ly26 yy26 zy26
    obtain ⟨rfl, Nqy26, eqy26⟩ := hQy26
    have Ny26 := Fr.app Ny25 Nqy26
    refine Fin.step (fun _ k => sty26.trans k) ?_
    show Fin p e below s _ _ _ (Ty26.setTop (mkF m 32 #[.val (.int p1), .val (.int (12 : Int32)), .val (.int (1 : Int32))] [(.int (1 : Int32))]))
    refine Fin.step (fun _ => XS.iloadN Xy26.here hx rfl (hb hby at_32) rfl) ?_
    show Fin p e below s _ _ _ (Ty26.setTop (mkF m 33 #[.val (.int p1), .val (.int (12 : Int32)), .val (.int (1 : Int32))] [(.int (1 : Int32)), (.int (1 : Int32))]))
    refine Fin.step (fun _ => XS.icmpNo Xy26.here hx rfl (hb hby at_33) rfl (teq ((by decide) : ((1 : Int32) = (1 : Int32)))).2) ?_
    show Fin p e below s _ _ _ (Ty26.setTop (mkF m 36 #[.val (.int p1), .val (.int (12 : Int32)), .val (.int (1 : Int32))] []))
    refine Fin.step (fun _ => XS.iconst Xy26.here hx rfl (hb hby at_36)) ?_
    show Fin p e below s _ _ _ (Ty26.setTop (mkF m 37 #[.val (.int p1), .val (.int (12 : Int32)), .val (.int (1 : Int32))] [(.int (1 : Int32))]))
    refine Fin.step (fun _ => XS.goto Xy26.here hx rfl (pc0 := 37) (pc' := 41) rfl (hb hby at_37) (by decide) (by decide)) ?_
    show Fin p e below s _ _ _ (Ty26.setTop (mkF m 41 #[.val (.int p1), .val (.int (12 : Int32)), .val (.int (1 : Int32))] [(.int (1 : Int32))]))
    refine Fin.retN Xy26 hx (t := .boolean) hret (by simp) hlk (hb hby at_41) (by decide) (by decide) ?_
    show Q0 Z p1 o0 o1 o2 o3 o4 o5 o6 o7 o8 o9 o10 o11 o12 o13 o14 o15 o16 o17 h0 n0 _ Ty26.heap _
    rw [eqy26]
    exact ⟨rfl, Ny26, rfl⟩
  · rw [qn]
    show Fin p e below s _ _ _ (s₁.setTop (mkF m 8 #[.val (.int p1), .val (.int (13 : Int32)), .unset] []))
    refine Fin.step (fun _ => XS.iloadN X0.here hx rfl (hb hby at_8) rfl) ?_
    show Fin p e below s _ _ _ (s₁.setTop (mkF m 9 #[.val (.int p1), .val (.int (13 : Int32)), .unset] [(.int (13 : Int32))]))
    refine Fin.step (fun _ => XS.iconst X0.here hx rfl (hb hby at_9)) ?_
    show Fin p e below s _ _ _ (s₁.setTop (mkF m 10 #[.val (.int p1), .val (.int (13 : Int32)), .unset] [(.int (1 : Int32)), (.int (13 : Int32))]))
    refine Fin.step (fun _ => XS.icmpNo X0.here hx rfl (hb hby at_10) rfl (flt ((by decide) : ¬ ((13 : Int32) < (1 : Int32)))).1) ?_
    show Fin p e below s _ _ _ (s₁.setTop (mkF m 13 #[.val (.int p1), .val (.int (13 : Int32)), .unset] []))
    refine Fin.step (fun _ => XS.iloadN X0.here hx rfl (hb hby at_13) rfl) ?_
    show Fin p e below s _ _ _ (s₁.setTop (mkF m 14 #[.val (.int p1), .val (.int (13 : Int32)), .unset] [(.int (13 : Int32))]))
    refine Fin.step (fun _ => XS.bipush X0.here hx rfl (hb hby at_14)) ?_
    show Fin p e below s _ _ _ (s₁.setTop (mkF m 16 #[.val (.int p1), .val (.int (13 : Int32)), .unset] [(.int (16 : Int32)), (.int (13 : Int32))]))
    refine Fin.step (fun _ => XS.icmpNo X0.here hx rfl (hb hby at_16) rfl (flt ((by decide) : ¬ ((16 : Int32) < (13 : Int32)))).2.2.1) ?_
    show Fin p e below s _ _ _ (s₁.setTop (mkF m 19 #[.val (.int p1), .val (.int (13 : Int32)), .unset] []))
    refine Fin.step (fun _ => XS.iconst X0.here hx rfl (hb hby at_19)) ?_
    show Fin p e below s _ _ _ (s₁.setTop (mkF m 20 #[.val (.int p1), .val (.int (13 : Int32)), .unset] [(.int (1 : Int32))]))
    refine Fin.step (fun _ => XS.goto X0.here hx rfl (pc0 := 20) (pc' := 24) rfl (hb hby at_20) (by decide) (by decide)) ?_
    show Fin p e below s _ _ _ (s₁.setTop (mkF m 24 #[.val (.int p1), .val (.int (13 : Int32)), .unset] [(.int (1 : Int32))]))
    refine Fin.step (fun _ => XS.istoreN X0.here hx rfl (hb hby at_24) rfl (l' := #[.val (.int p1), .val (.int (13 : Int32)), .val (.int (1 : Int32))]) rfl) ?_
    show Fin p e below s _ _ _ (s₁.setTop (mkF m 25 #[.val (.int p1), .val (.int (13 : Int32)), .val (.int (1 : Int32))] []))
    refine Fin.step (fun _ => XS.iloadN X0.here hx rfl (hb hby at_25) rfl) ?_
    show Fin p e below s _ _ _ (s₁.setTop (mkF m 26 #[.val (.int p1), .val (.int (13 : Int32)), .val (.int (1 : Int32))] [(.int (13 : Int32))]))
    obtain ⟨_, _, ⟨Ty27, Ly27, ky27, ny27⟩, -, Xy27, ⟨Lcy27, hQy27, ly27, yy27, zy27⟩, sty27⟩ := Jvm.LawKit.callS X0 hx (y := (⟨"com/example/wicketgate/wicketgate/core/lds/LdsFileIsDataGroupPinLaw", "pick", "(I)Lcom/example/wicketgate/wicketgate/core/lds/LdsFile;"⟩ : MethodName)) hown (mvT hZ (hw _ (List.mem_of_getElem? (i := 1) rfl))) (mvT hZ (hw _ (List.mem_of_getElem? (i := 2) rfl))) (mvT hZ (hw _ (List.mem_of_getElem? (i := 3) rfl))) (mvT hZ (hw _ (List.mem_of_getElem? (i := 4) rfl))) (by decide) (backOf (W := 0) (rmp13 l Z a0 hw [] (13 : Int32) o13 h0 n0 Z0 HS_com_example_wicketgate_wicketgate_core_lds_LdsFile_DG13 rfl) hZ (hw _ (List.mem_of_getElem? (i := 4) rfl)) (hw _ (List.mem_of_getElem? (i := 3) rfl)) (by decide) (by decide)) (g := (mkF m 26 #[.val (.int p1), .val (.int (13 : Int32)), .val (.int (1 : Int32))] [(.int (13 : Int32))])) rfl (by rw [hml]; rfl) (argsL := [(.int (13 : Int32))]) (rest := []) (lenOf pd_0 rfl) rfl (by show 2 * 0 + _ ≤ _; exact Nat.le_of_eq rfl) (hb hby at_26) (fun _ _ => ⟨rfl, e0, (by decide : 0 + 0 ≤ _), (by decide : 0 + 0 ≤ _)⟩)
    dsimp only [Pt.U, Pt.locs, Pt.cells, Pt.slots] at Xy27 ly27 yy27 zy27 sty27 hQy27
    subst ly27 yy27 zy27
    obtain ⟨rfl, Nqy27, eqy27⟩ := hQy27
    have Ny27 := Fr.app N0 Nqy27
    refine Fin.step (sty27) ?_
    show Fin p e below s _ _ _ (Ty27.setTop (mkF m 29 #[.val (.int p1), .val (.int (13 : Int32)), .val (.int (1 : Int32))] [(.ref o13)]))
    obtain ⟨cqy28, kqy28, qy28a, qy28b, qy28c⟩ := isOf hZ eqy27 HE_o13
    obtain ⟨_, _, ⟨Ty28, Ly28, ky28, ny28⟩, -, Xy28, ⟨Lcy28, hQy28, ly28, yy28, zy28⟩, sty28⟩ := Xy27.virtualBack hx (y := (⟨"com/example/wicketgate/wicketgate/core/lds/LdsFile", "isDataGroup", "()Z"⟩ : MethodName)) (z := (⟨"com/example/wicketgate/wicketgate/core/lds/LdsFile", "isDataGroup", "()Z"⟩ : MethodName)) hown (mvT hZ (hw _ (List.mem_of_getElem? (i := 8) rfl))) (mvT hZ (hw _ (List.mem_of_getElem? (i := 9) rfl))) (notFace_of_selects (args := #[]) (mvT hZ (hw _ (List.mem_of_getElem? (i := 11) rfl)))) (mvT hZ (hw _ (List.mem_of_getElem? (i := 11) rfl))) (mvT hZ (hw _ (List.mem_of_getElem? (i := 10) rfl))) (by decide) (backOf (W := 0) (rmg1 l Z a0 hw [] o13 o0 o17 h0 n0 Z0 HS_com_example_wicketgate_wicketgate_core_lds_LdsFile_COM HS_com_example_wicketgate_wicketgate_core_lds_LdsFile_SOD nc13 ns13) hZ (hw _ (List.mem_of_getElem? (i := 12) rfl)) (hw _ (List.mem_of_getElem? (i := 6) rfl)) (by decide) (by decide)) qy28a qy28c (g := (mkF m 29 #[.val (.int p1), .val (.int (13 : Int32)), .val (.int (1 : Int32))] [(.ref o13)])) rfl (by rw [hml]; rfl) (Steps.refl _) (argsL := []) (rest := []) (lenOf pd_1 rfl) rfl (by show 2 * 0 + _ ≤ _; exact Nat.le_of_eq rfl) (hb hby at_29) (fun _ _ => ⟨rfl, eqy27, (by decide : 0 + 0 ≤ _), (by decide : 0 + 0 ≤ _)⟩)
    dsimp only [Pt.U, Pt.locs, Pt.cells, Pt.slots] at Xy28 ly28 yy28 zy28 sty28 hQy28
    subst ly28 yy28 zy28
    obtain ⟨rfl, Nqy28, eqy28⟩ := hQy28
    have Ny28 := Fr.app Ny27 Nqy28
    refine Fin.step (fun _ k => sty28.trans k) ?_
    show Fin p e below s _ _ _ (Ty28.setTop (mkF m 32 #[.val (.int p1), .val (.int (13 : Int32)), .val (.int (1 : Int32))] [(.int (1 : Int32))]))
    refine Fin.step (fun _ => XS.iloadN Xy28.here hx rfl (hb hby at_32) rfl) ?_
    show Fin p e below s _ _ _ (Ty28.setTop (mkF m 33 #[.val (.int p1), .val (.int (13 : Int32)), .val (.int (1 : Int32))] [(.int (1 : Int32)), (.int (1 : Int32))]))
    refine Fin.step (fun _ => XS.icmpNo Xy28.here hx rfl (hb hby at_33) rfl (teq ((by decide) : ((1 : Int32) = (1 : Int32)))).2) ?_
    show Fin p e below s _ _ _ (Ty28.setTop (mkF m 36 #[.val (.int p1), .val (.int (13 : Int32)), .val (.int (1 : Int32))] []))
    refine Fin.step (fun _ => XS.iconst Xy28.here hx rfl (hb hby at_36)) ?_
    show Fin p e below s _ _ _ (Ty28.setTop (mkF m 37 #[.val (.int p1), .val (.int (13 : Int32)), .val (.int (1 : Int32))] [(.int (1 : Int32))]))
    refine Fin.step (fun _ => XS.goto Xy28.here hx rfl (pc0 := 37) (pc' := 41) rfl (hb hby at_37) (by decide) (by decide)) ?_
    show Fin p e below s _ _ _ (Ty28.setTop (mkF m 41 #[.val (.int p1), .val (.int (13 : Int32)), .val (.int (1 : Int32))] [(.int (1 : Int32))]))
    refine Fin.retN Xy28 hx (t := .boolean) hret (by simp) hlk (hb hby at_41) (by decide) (by decide) ?_
    show Q0 Z p1 o0 o1 o2 o3 o4 o5 o6 o7 o8 o9 o10 o11 o12 o13 o14 o15 o16 o17 h0 n0 _ Ty28.heap _
    rw [eqy28]
    exact ⟨rfl, Ny28, rfl⟩
  · rw [qn]
    show Fin p e below s _ _ _ (s₁.setTop (mkF m 8 #[.val (.int p1), .val (.int (14 : Int32)), .unset] []))
    refine Fin.step (fun _ => XS.iloadN X0.here hx rfl (hb hby at_8) rfl) ?_
    show Fin p e below s _ _ _ (s₁.setTop (mkF m 9 #[.val (.int p1), .val (.int (14 : Int32)), .unset] [(.int (14 : Int32))]))
    refine Fin.step (fun _ => XS.iconst X0.here hx rfl (hb hby at_9)) ?_
    show Fin p e below s _ _ _ (s₁.setTop (mkF m 10 #[.val (.int p1), .val (.int (14 : Int32)), .unset] [(.int (1 : Int32)), (.int (14 : Int32))]))
    refine Fin.step (fun _ => XS.icmpNo X0.here hx rfl (hb hby at_10) rfl (flt ((by decide) : ¬ ((14 : Int32) < (1 : Int32)))).1) ?_
    show Fin p e below s _ _ _ (s₁.setTop (mkF m 13 #[.val (.int p1), .val (.int (14 : Int32)), .unset] []))
    refine Fin.step (fun _ => XS.iloadN X0.here hx rfl (hb hby at_13) rfl) ?_
    show Fin p e below s _ _ _ (s₁.setTop (mkF m 14 #[.val (.int p1), .val (.int (14 : Int32)), .unset] [(.int (14 : Int32))]))
    refine Fin.step (fun _ => XS.bipush X0.here hx rfl (hb hby at_14)) ?_
    show Fin p e below s _ _ _ (s₁.setTop (mkF m 16 #[.val (.int p1), .val (.int (14 : Int32)), .unset] [(.int (16 : Int32)), (.int (14 : Int32))]))
    refine Fin.step (fun _ => XS.icmpNo X0.here hx rfl (hb hby at_16) rfl (flt ((by decide) : ¬ ((16 : Int32) < (14 : Int32)))).2.2.1) ?_
    show Fin p e below s _ _ _ (s₁.setTop (mkF m 19 #[.val (.int p1), .val (.int (14 : Int32)), .unset] []))
    refine Fin.step (fun _ => XS.iconst X0.here hx rfl (hb hby at_19)) ?_
    show Fin p e below s _ _ _ (s₁.setTop (mkF m 20 #[.val (.int p1), .val (.int (14 : Int32)), .unset] [(.int (1 : Int32))]))
    refine Fin.step (fun _ => XS.goto X0.here hx rfl (pc0 := 20) (pc' := 24) rfl (hb hby at_20) (by decide) (by decide)) ?_
    show Fin p e below s _ _ _ (s₁.setTop (mkF m 24 #[.val (.int p1), .val (.int (14 : Int32)), .unset] [(.int (1 : Int32))]))
    refine Fin.step (fun _ => XS.istoreN X0.here hx rfl (hb hby at_24) rfl (l' := #[.val (.int p1), .val (.int (14 : Int32)), .val (.int (1 : Int32))]) rfl) ?_
    show Fin p e below s _ _ _ (s₁.setTop (mkF m 25 #[.val (.int p1), .val (.int (14 : Int32)), .val (.int (1 : Int32))] []))
    refine Fin.step (fun _ => XS.iloadN X0.here hx rfl (hb hby at_25) rfl) ?_
    show Fin p e below s _ _ _ (s₁.setTop (mkF m 26 #[.val (.int p1), .val (.int (14 : Int32)), .val (.int (1 : Int32))] [(.int (14 : Int32))]))
    obtain ⟨_, _, ⟨Ty29, Ly29, ky29, ny29⟩, -, Xy29, ⟨Lcy29, hQy29, ly29, yy29, zy29⟩, sty29⟩ := Jvm.LawKit.callS X0 hx (y := (⟨"com/example/wicketgate/wicketgate/core/lds/LdsFileIsDataGroupPinLaw", "pick", "(I)Lcom/example/wicketgate/wicketgate/core/lds/LdsFile;"⟩ : MethodName)) hown (mvT hZ (hw _ (List.mem_of_getElem? (i := 1) rfl))) (mvT hZ (hw _ (List.mem_of_getElem? (i := 2) rfl))) (mvT hZ (hw _ (List.mem_of_getElem? (i := 3) rfl))) (mvT hZ (hw _ (List.mem_of_getElem? (i := 4) rfl))) (by decide) (backOf (W := 0) (rmp14 l Z a0 hw [] (14 : Int32) o14 h0 n0 Z0 HS_com_example_wicketgate_wicketgate_core_lds_LdsFile_DG14 rfl) hZ (hw _ (List.mem_of_getElem? (i := 4) rfl)) (hw _ (List.mem_of_getElem? (i := 3) rfl)) (by decide) (by decide)) (g := (mkF m 26 #[.val (.int p1), .val (.int (14 : Int32)), .val (.int (1 : Int32))] [(.int (14 : Int32))])) rfl (by rw [hml]; rfl) (argsL := [(.int (14 : Int32))]) (rest := []) (lenOf pd_0 rfl) rfl (by show 2 * 0 + _ ≤ _; exact Nat.le_of_eq rfl) (hb hby at_26) (fun _ _ => ⟨rfl, e0, (by decide : 0 + 0 ≤ _), (by decide : 0 + 0 ≤ _)⟩)
    dsimp only [Pt.U, Pt.locs, Pt.cells, Pt.slots] at Xy29 ly29 yy29 zy29 sty29 hQy29
    subst ly29 yy29 zy29
    obtain ⟨rfl, Nqy29, eqy29⟩ := hQy29
    have Ny29 := Fr.app N0 Nqy29
    refine Fin.step (sty29) ?_
    show Fin p e below s _ _ _ (Ty29.setTop (mkF m 29 #[.val (.int p1), .val (.int (14 : Int32)), .val (.int (1 : Int32))] [(.ref o14)]))
    obtain ⟨cqy30, kqy30, qy30a, qy30b, qy30c⟩ := isOf hZ eqy29 HE_o14
    obtain ⟨_, _, ⟨Ty30, Ly30, ky30, ny30⟩, -, Xy30, ⟨Lcy30, hQy30, ly30, yy30, zy30⟩, sty30⟩ := Xy29.virtualBack hx (y := (⟨"com/example/wicketgate/wicketgate/core/lds/LdsFile", "isDataGroup", "()Z"⟩ : MethodName)) (z := (⟨"com/example/wicketgate/wicketgate/core/lds/LdsFile", "isDataGroup", "()Z"⟩ : MethodName)) hown (mvT hZ (hw _ (List.mem_of_getElem? (i := 8) rfl))) (mvT hZ (hw _ (List.mem_of_getElem? (i := 9) rfl))) (notFace_of_selects (args := #[]) (mvT hZ (hw _ (List.mem_of_getElem? (i := 11) rfl)))) (mvT hZ (hw _ (List.mem_of_getElem? (i := 11) rfl))) (mvT hZ (hw _ (List.mem_of_getElem? (i := 10) rfl))) (by decide) (backOf (W := 0) (rmg1 l Z a0 hw [] o14 o0 o17 h0 n0 Z0 HS_com_example_wicketgate_wicketgate_core_lds_LdsFile_COM HS_com_example_wicketgate_wicketgate_core_lds_LdsFile_SOD nc14 ns14) hZ (hw _ (List.mem_of_getElem? (i := 12) rfl)) (hw _ (List.mem_of_getElem? (i := 6) rfl)) (by decide) (by decide)) qy30a qy30c (g := (mkF m 29 #[.val (.int p1), .val (.int (14 : Int32)), .val (.int (1 : Int32))] [(.ref o14)])) rfl (by rw [hml]; rfl) (Steps.refl _) (argsL := []) (rest := []) (lenOf pd_1 rfl) rfl (by show 2 * 0 + _ ≤ _; exact Nat.le_of_eq rfl) (hb hby at_29) (fun _ _ => ⟨rfl, eqy29, (by decide : 0 + 0 ≤ _), (by decide : 0 + 0 ≤ _)⟩)
    dsimp only [Pt.U, Pt.locs, Pt.cells, Pt.slots] at Xy30 ly30 yy30 zy30 sty30 hQy30
    subst ly30 yy30 zy30
    obtain ⟨rfl, Nqy30, eqy30⟩ := hQy30
    have Ny30 := Fr.app Ny29 Nqy30
    refine Fin.step (fun _ k => sty30.trans k) ?_
    show Fin p e below s _ _ _ (Ty30.setTop (mkF m 32 #[.val (.int p1), .val (.int (14 : Int32)), .val (.int (1 : Int32))] [(.int (1 : Int32))]))
    refine Fin.step (fun _ => XS.iloadN Xy30.here hx rfl (hb hby at_32) rfl) ?_
    show Fin p e below s _ _ _ (Ty30.setTop (mkF m 33 #[.val (.int p1), .val (.int (14 : Int32)), .val (.int (1 : Int32))] [(.int (1 : Int32)), (.int (1 : Int32))]))
    refine Fin.step (fun _ => XS.icmpNo Xy30.here hx rfl (hb hby at_33) rfl (teq ((by decide) : ((1 : Int32) = (1 : Int32)))).2) ?_
    show Fin p e below s _ _ _ (Ty30.setTop (mkF m 36 #[.val (.int p1), .val (.int (14 : Int32)), .val (.int (1 : Int32))] []))
    refine Fin.step (fun _ => XS.iconst Xy30.here hx rfl (hb hby at_36)) ?_
    show Fin p e below s _ _ _ (Ty30.setTop (mkF m 37 #[.val (.int p1), .val (.int (14 : Int32)), .val (.int (1 : Int32))] [(.int (1 : Int32))]))
    refine Fin.step (fun _ => XS.goto Xy30.here hx rfl (pc0 := 37) (pc' := 41) rfl (hb hby at_37) (by decide) (by decide)) ?_
    show Fin p e below s _ _ _ (Ty30.setTop (mkF m 41 #[.val (.int p1), .val (.int (14 : Int32)), .val (.int (1 : Int32))] [(.int (1 : Int32))]))
    refine Fin.retN Xy30 hx (t := .boolean) hret (by simp) hlk (hb hby at_41) (by decide) (by decide) ?_
    show Q0 Z p1 o0 o1 o2 o3 o4 o5 o6 o7 o8 o9 o10 o11 o12 o13 o14 o15 o16 o17 h0 n0 _ Ty30.heap _
    rw [eqy30]
    exact ⟨rfl, Ny30, rfl⟩
  · rw [qn]
    show Fin p e below s _ _ _ (s₁.setTop (mkF m 8 #[.val (.int p1), .val (.int (15 : Int32)), .unset] []))
    refine Fin.step (fun _ => XS.iloadN X0.here hx rfl (hb hby at_8) rfl) ?_
    show Fin p e below s _ _ _ (s₁.setTop (mkF m 9 #[.val (.int p1), .val (.int (15 : Int32)), .unset] [(.int (15 : Int32))]))
    refine Fin.step (fun _ => XS.iconst X0.here hx rfl (hb hby at_9)) ?_
    show Fin p e below s _ _ _ (s₁.setTop (mkF m 10 #[.val (.int p1), .val (.int (15 : Int32)), .unset] [(.int (1 : Int32)), (.int (15 : Int32))]))
    refine Fin.step (fun _ => XS.icmpNo X0.here hx rfl (hb hby at_10) rfl (flt ((by decide) : ¬ ((15 : Int32) < (1 : Int32)))).1) ?_
    show Fin p e below s _ _ _ (s₁.setTop (mkF m 13 #[.val (.int p1), .val (.int (15 : Int32)), .unset] []))
    refine Fin.step (fun _ => XS.iloadN X0.here hx rfl (hb hby at_13) rfl) ?_
    show Fin p e below s _ _ _ (s₁.setTop (mkF m 14 #[.val (.int p1), .val (.int (15 : Int32)), .unset] [(.int (15 : Int32))]))
    refine Fin.step (fun _ => XS.bipush X0.here hx rfl (hb hby at_14)) ?_
    show Fin p e below s _ _ _ (s₁.setTop (mkF m 16 #[.val (.int p1), .val (.int (15 : Int32)), .unset] [(.int (16 : Int32)), (.int (15 : Int32))]))
    refine Fin.step (fun _ => XS.icmpNo X0.here hx rfl (hb hby at_16) rfl (flt ((by decide) : ¬ ((16 : Int32) < (15 : Int32)))).2.2.1) ?_
    show Fin p e below s _ _ _ (s₁.setTop (mkF m 19 #[.val (.int p1), .val (.int (15 : Int32)), .unset] []))
    refine Fin.step (fun _ => XS.iconst X0.here hx rfl (hb hby at_19)) ?_
    show Fin p e below s _ _ _ (s₁.setTop (mkF m 20 #[.val (.int p1), .val (.int (15 : Int32)), .unset] [(.int (1 : Int32))]))
    refine Fin.step (fun _ => XS.goto X0.here hx rfl (pc0 := 20) (pc' := 24) rfl (hb hby at_20) (by decide) (by decide)) ?_
    show Fin p e below s _ _ _ (s₁.setTop (mkF m 24 #[.val (.int p1), .val (.int (15 : Int32)), .unset] [(.int (1 : Int32))]))
    refine Fin.step (fun _ => XS.istoreN X0.here hx rfl (hb hby at_24) rfl (l' := #[.val (.int p1), .val (.int (15 : Int32)), .val (.int (1 : Int32))]) rfl) ?_
    show Fin p e below s _ _ _ (s₁.setTop (mkF m 25 #[.val (.int p1), .val (.int (15 : Int32)), .val (.int (1 : Int32))] []))
    refine Fin.step (fun _ => XS.iloadN X0.here hx rfl (hb hby at_25) rfl) ?_
    show Fin p e below s _ _ _ (s₁.setTop (mkF m 26 #[.val (.int p1), .val (.int (15 : Int32)), .val (.int (1 : Int32))] [(.int (15 : Int32))]))
    obtain ⟨_, _, ⟨Ty31, Ly31, ky31, ny31⟩, -, Xy31, ⟨Lcy31, hQy31, ly31, yy31, zy31⟩, sty31⟩ := Jvm.LawKit.callS X0 hx (y := (⟨"com/example/wicketgate/wicketgate/core/lds/LdsFileIsDataGroupPinLaw", "pick", "(I)Lcom/example/wicketgate/wicketgate/core/lds/LdsFile;"⟩ : MethodName)) hown (mvT hZ (hw _ (List.mem_of_getElem? (i := 1) rfl))) (mvT hZ (hw _ (List.mem_of_getElem? (i := 2) rfl))) (mvT hZ (hw _ (List.mem_of_getElem? (i := 3) rfl))) (mvT hZ (hw _ (List.mem_of_getElem? (i := 4) rfl))) (by decide) (backOf (W := 0) (rmp15 l Z a0 hw [] (15 : Int32) o15 h0 n0 Z0 HS_com_example_wicketgate_wicketgate_core_lds_LdsFile_DG15 rfl) hZ (hw _ (List.mem_of_getElem? (i := 4) rfl)) (hw _ (List.mem_of_getElem? (i := 3) rfl)) (by decide) (by decide)) (g := (mkF m 26 #[.val (.int p1), .val (.int (15 : Int32)), .val (.int (1 : Int32))] [(.int (15 : Int32))])) rfl (by rw [hml]; rfl) (argsL := [(.int (15 : Int32))]) (rest := []) (lenOf pd_0 rfl) rfl (by show 2 * 0 + _ ≤ _; exact Nat.le_of_eq rfl) (hb hby at_26) (fun _ _ => ⟨rfl, e0, (by decide : 0 + 0 ≤ _), (by decide : 0 + 0 ≤ _)⟩)
    dsimp only [Pt.U, Pt.locs, Pt.cells, Pt.slots] at Xy31 ly31 yy31 zy31 sty31 hQy31
    subst ly31 yy31 zy31
    obtain ⟨rfl, Nqy31, eqy31⟩ := hQy31
    have Ny31 := Fr.app N0 Nqy31
    refine Fin.step (sty31) ?_
    show Fin p e below s _ _ _ (Ty31.setTop (mkF m 29 #[.val (.int p1), .val (.int (15 : Int32)), .val (.int (1 : Int32))] [(.ref o15)]))
    obtain ⟨cqy32, kqy32, qy32a, qy32b, qy32c⟩ := isOf hZ eqy31 HE_o15
    obtain ⟨_, _, ⟨Ty32, Ly32, ky32, ny32⟩, -, Xy32, ⟨Lcy32, hQy32, ly32, yy32, zy32⟩, sty32⟩ := Xy31.virtualBack hx (y := (⟨"com/example/wicketgate/wicketgate/core/lds/LdsFile", "isDataGroup", "()Z"⟩ : MethodName)) (z := (⟨"com/example/wicketgate/wicketgate/core/lds/LdsFile", "isDataGroup", "()Z"⟩ : MethodName)) hown (mvT hZ (hw _ (List.mem_of_getElem? (i := 8) rfl))) (mvT hZ (hw _ (List.mem_of_getElem? (i := 9) rfl))) (notFace_of_selects (args := #[]) (mvT hZ (hw _ (List.mem_of_getElem? (i := 11) rfl)))) (mvT hZ (hw _ (List.mem_of_getElem? (i := 11) rfl))) (mvT hZ (hw _ (List.mem_of_getElem? (i := 10) rfl))) (by decide) (backOf (W := 0) (rmg1 l Z a0 hw [] o15 o0 o17 h0 n0 Z0 HS_com_example_wicketgate_wicketgate_core_lds_LdsFile_COM HS_com_example_wicketgate_wicketgate_core_lds_LdsFile_SOD nc15 ns15) hZ (hw _ (List.mem_of_getElem? (i := 12) rfl)) (hw _ (List.mem_of_getElem? (i := 6) rfl)) (by decide) (by decide)) qy32a qy32c (g := (mkF m 29 #[.val (.int p1), .val (.int (15 : Int32)), .val (.int (1 : Int32))] [(.ref o15)])) rfl (by rw [hml]; rfl) (Steps.refl _) (argsL := []) (rest := []) (lenOf pd_1 rfl) rfl (by show 2 * 0 + _ ≤ _; exact Nat.le_of_eq rfl) (hb hby at_29) (fun _ _ => ⟨rfl, eqy31, (by decide : 0 + 0 ≤ _), (by decide : 0 + 0 ≤ _)⟩)
    dsimp only [Pt.U, Pt.locs, Pt.cells, Pt.slots] at Xy32 ly32 yy32 zy32 sty32 hQy32
    subst ly32 yy32 zy32
    obtain ⟨rfl, Nqy32, eqy32⟩ := hQy32
    have Ny32 := Fr.app Ny31 Nqy32
    refine Fin.step (fun _ k => sty32.trans k) ?_
    show Fin p e below s _ _ _ (Ty32.setTop (mkF m 32 #[.val (.int p1), .val (.int (15 : Int32)), .val (.int (1 : Int32))] [(.int (1 : Int32))]))
    refine Fin.step (fun _ => XS.iloadN Xy32.here hx rfl (hb hby at_32) rfl) ?_
    show Fin p e below s _ _ _ (Ty32.setTop (mkF m 33 #[.val (.int p1), .val (.int (15 : Int32)), .val (.int (1 : Int32))] [(.int (1 : Int32)), (.int (1 : Int32))]))
    refine Fin.step (fun _ => XS.icmpNo Xy32.here hx rfl (hb hby at_33) rfl (teq ((by decide) : ((1 : Int32) = (1 : Int32)))).2) ?_
    show Fin p e below s _ _ _ (Ty32.setTop (mkF m 36 #[.val (.int p1), .val (.int (15 : Int32)), .val (.int (1 : Int32))] []))
    refine Fin.step (fun _ => XS.iconst Xy32.here hx rfl (hb hby at_36)) ?_
    show Fin p e below s _ _ _ (Ty32.setTop (mkF m 37 #[.val (.int p1), .val (.int (15 : Int32)), .val (.int (1 : Int32))] [(.int (1 : Int32))]))
    refine Fin.step (fun _ => XS.goto Xy32.here hx rfl (pc0 := 37) (pc' := 41) rfl (hb hby at_37) (by decide) (by decide)) ?_
    show Fin p e below s _ _ _ (Ty32.setTop (mkF m 41 #[.val (.int p1), .val (.int (15 : Int32)), .val (.int (1 : Int32))] [(.int (1 : Int32))]))
    refine Fin.retN Xy32 hx (t := .boolean) hret (by simp) hlk (hb hby at_41) (by decide) (by decide) ?_
    show Q0 Z p1 o0 o1 o2 o3 o4 o5 o6 o7 o8 o9 o10 o11 o12 o13 o14 o15 o16 o17 h0 n0 _ Ty32.heap _
    rw [eqy32]
    exact ⟨rfl, Ny32, rfl⟩
  · rw [qn]
    show Fin p e below s _ _ _ (s₁.setTop (mkF m 8 #[.val (.int p1), .val (.int (16 : Int32)), .unset] []))
    refine Fin.step (fun _ => XS.iloadN X0.here hx rfl (hb hby at_8) rfl) ?_
    show Fin p e below s _ _ _ (s₁.setTop (mkF m 9 #[.val (.int p1), .val (.int (16 : Int32)), .unset] [(.int (16 : Int32))]))
    refine Fin.step (fun _ => XS.iconst X0.here hx rfl (hb hby at_9)) ?_
    show Fin p e below s _ _ _ (s₁.setTop (mkF m 10 #[.val (.int p1), .val (.int (16 : Int32)), .unset] [(.int (1 : Int32)), (.int (16 : Int32))]))
    refine Fin.step (fun _ => XS.icmpNo X0.here hx rfl (hb hby at_10) rfl (flt ((by decide) : ¬ ((16 : Int32) < (1 : Int32)))).1) ?_
    show Fin p e below s _ _ _ (s₁.setTop (mkF m 13 #[.val (.int p1), .val (.int (16 : Int32)), .unset] []))
    refine Fin.step (fun _ => XS.iloadN X0.here hx rfl (hb hby at_13) rfl) ?_
    show Fin p e below s _ _ _ (s₁.setTop (mkF m 14 #[.val (.int p1), .val (.int (16 : Int32)), .unset] [(.int (16 : Int32))]))
    refine Fin.step (fun _ => XS.bipush X0.here hx rfl (hb hby at_14)) ?_
    show Fin p e below s _ _ _ (s₁.setTop (mkF m 16 #[.val (.int p1), .val (.int (16 : Int32)), .unset] [(.int (16 : Int32)), (.int (16 : Int32))]))
    refine Fin.step (fun _ => XS.icmpNo X0.here hx rfl (hb hby at_16) rfl (flt ((by decide) : ¬ ((16 : Int32) < (16 : Int32)))).2.2.1) ?_
    show Fin p e below s _ _ _ (s₁.setTop (mkF m 19 #[.val (.int p1), .val (.int (16 : Int32)), .unset] []))
    refine Fin.step (fun _ => XS.iconst X0.here hx rfl (hb hby at_19)) ?_
    show Fin p e below s _ _ _ (s₁.setTop (mkF m 20 #[.val (.int p1), .val (.int (16 : Int32)), .unset] [(.int (1 : Int32))]))
    refine Fin.step (fun _ => XS.goto X0.here hx rfl (pc0 := 20) (pc' := 24) rfl (hb hby at_20) (by decide) (by decide)) ?_
    show Fin p e below s _ _ _ (s₁.setTop (mkF m 24 #[.val (.int p1), .val (.int (16 : Int32)), .unset] [(.int (1 : Int32))]))
    refine Fin.step (fun _ => XS.istoreN X0.here hx rfl (hb hby at_24) rfl (l' := #[.val (.int p1), .val (.int (16 : Int32)), .val (.int (1 : Int32))]) rfl) ?_
    show Fin p e below s _ _ _ (s₁.setTop (mkF m 25 #[.val (.int p1), .val (.int (16 : Int32)), .val (.int (1 : Int32))] []))
    refine Fin.step (fun _ => XS.iloadN X0.here hx rfl (hb hby at_25) rfl) ?_
    show Fin p e below s _ _ _ (s₁.setTop (mkF m 26 #[.val (.int p1), .val (.int (16 : Int32)), .val (.int (1 : Int32))] [(.int (16 : Int32))]))
    obtain ⟨_, _, ⟨Ty33, Ly33, ky33, ny33⟩, -, Xy33, ⟨Lcy33, hQy33, ly33, yy33, zy33⟩, sty33⟩ := Jvm.LawKit.callS X0 hx (y := (⟨"com/example/wicketgate/wicketgate/core/lds/LdsFileIsDataGroupPinLaw", "pick", "(I)Lcom/example/wicketgate/wicketgate/core/lds/LdsFile;"⟩ : MethodName)) hown (mvT hZ (hw _ (List.mem_of_getElem? (i := 1) rfl))) (mvT hZ (hw _ (List.mem_of_getElem? (i := 2) rfl))) (mvT hZ (hw _ (List.mem_of_getElem? (i := 3) rfl))) (mvT hZ (hw _ (List.mem_of_getElem? (i := 4) rfl))) (by decide) (backOf (W := 0) (rmp16 l Z a0 hw [] (16 : Int32) o16 h0 n0 Z0 HS_com_example_wicketgate_wicketgate_core_lds_LdsFile_DG16 rfl) hZ (hw _ (List.mem_of_getElem? (i := 4) rfl)) (hw _ (List.mem_of_getElem? (i := 3) rfl)) (by decide) (by decide)) (g := (mkF m 26 #[.val (.int p1), .val (.int (16 : Int32)), .val (.int (1 : Int32))] [(.int (16 : Int32))])) rfl (by rw [hml]; rfl) (argsL := [(.int (16 : Int32))]) (rest := []) (lenOf pd_0 rfl) rfl (by show 2 * 0 + _ ≤ _; exact Nat.le_of_eq rfl) (hb hby at_26) (fun _ _ => ⟨rfl, e0, (by decide : 0 + 0 ≤ _), (by decide : 0 + 0 ≤ _)⟩)
    dsimp only [Pt.U, Pt.locs, Pt.cells, Pt.slots] at Xy33 ly33 yy33 zy33 sty33 hQy33
    subst ly33 yy33 zy33
    obtain ⟨rfl, Nqy33, eqy33⟩ := hQy33
    have Ny33 := Fr.app N0 Nqy33
    refine Fin.step (sty33) ?_
    show Fin p e below s _ _ _ (Ty33.setTop (mkF m 29 #[.val (.int p1), .val (.int (16 : Int32)), .val (.int (1 : Int32))] [(.ref o16)]))
    obtain ⟨cqy34, kqy34, qy34a, qy34b, qy34c⟩ := isOf hZ eqy33 HE_o16
    obtain ⟨_, _, ⟨Ty34, Ly34, ky34, ny34⟩, -, Xy34, ⟨Lcy34, hQy34, ly34, yy34, zy34⟩, sty34⟩ := Xy33.virtualBack hx (y := (⟨"com/example/wicketgate/wicketgate/core/lds/LdsFile", "isDataGroup", "()Z"⟩ : MethodName)) (z := (⟨"com/example/wicketgate/wicketgate/core/lds/LdsFile", "isDataGroup", "()Z"⟩ : MethodName)) hown (mvT hZ (hw _ (List.mem_of_getElem? (i := 8) rfl))) (mvT hZ (hw _ (List.mem_of_getElem? (i := 9) rfl))) (notFace_of_selects (args := #[]) (mvT hZ (hw _ (List.mem_of_getElem? (i := 11) rfl)))) (mvT hZ (hw _ (List.mem_of_getElem? (i := 11) rfl))) (mvT hZ (hw _ (List.mem_of_getElem? (i := 10) rfl))) (by decide) (backOf (W := 0) (rmg1 l Z a0 hw [] o16 o0 o17 h0 n0 Z0 HS_com_example_wicketgate_wicketgate_core_lds_LdsFile_COM HS_com_example_wicketgate_wicketgate_core_lds_LdsFile_SOD nc16 ns16) hZ (hw _ (List.mem_of_getElem? (i := 12) rfl)) (hw _ (List.mem_of_getElem? (i := 6) rfl)) (by decide) (by decide)) qy34a qy34c (g := (mkF m 29 #[.val (.int p1), .val (.int (16 : Int32)), .val (.int (1 : Int32))] [(.ref o16)])) rfl (by rw [hml]; rfl) (Steps.refl _) (argsL := []) (rest := []) (lenOf pd_1 rfl) rfl (by show 2 * 0 + _ ≤ _; exact Nat.le_of_eq rfl) (hb hby at_29) (fun _ _ => ⟨rfl, eqy33, (by decide : 0 + 0 ≤ _), (by decide : 0 + 0 ≤ _)⟩)
    dsimp only [Pt.U, Pt.locs, Pt.cells, Pt.slots] at Xy34 ly34 yy34 zy34 sty34 hQy34
    subst ly34 yy34 zy34
    obtain ⟨rfl, Nqy34, eqy34⟩ := hQy34
    have Ny34 := Fr.app Ny33 Nqy34
    refine Fin.step (fun _ k => sty34.trans k) ?_
    show Fin p e below s _ _ _ (Ty34.setTop (mkF m 32 #[.val (.int p1), .val (.int (16 : Int32)), .val (.int (1 : Int32))] [(.int (1 : Int32))]))
    refine Fin.step (fun _ => XS.iloadN Xy34.here hx rfl (hb hby at_32) rfl) ?_
    show Fin p e below s _ _ _ (Ty34.setTop (mkF m 33 #[.val (.int p1), .val (.int (16 : Int32)), .val (.int (1 : Int32))] [(.int (1 : Int32)), (.int (1 : Int32))]))
    refine Fin.step (fun _ => XS.icmpNo Xy34.here hx rfl (hb hby at_33) rfl (teq ((by decide) : ((1 : Int32) = (1 : Int32)))).2) ?_
    show Fin p e below s _ _ _ (Ty34.setTop (mkF m 36 #[.val (.int p1), .val (.int (16 : Int32)), .val (.int (1 : Int32))] []))
    refine Fin.step (fun _ => XS.iconst Xy34.here hx rfl (hb hby at_36)) ?_
    show Fin p e below s _ _ _ (Ty34.setTop (mkF m 37 #[.val (.int p1), .val (.int (16 : Int32)), .val (.int (1 : Int32))] [(.int (1 : Int32))]))
    refine Fin.step (fun _ => XS.goto Xy34.here hx rfl (pc0 := 37) (pc' := 41) rfl (hb hby at_37) (by decide) (by decide)) ?_
    show Fin p e below s _ _ _ (Ty34.setTop (mkF m 41 #[.val (.int p1), .val (.int (16 : Int32)), .val (.int (1 : Int32))] [(.int (1 : Int32))]))
    refine Fin.retN Xy34 hx (t := .boolean) hret (by simp) hlk (hb hby at_41) (by decide) (by decide) ?_
    show Q0 Z p1 o0 o1 o2 o3 o4 o5 o6 o7 o8 o9 o10 o11 o12 o13 o14 o15 o16 o17 h0 n0 _ Ty34.heap _
    rw [eqy34]
    exact ⟨rfl, Ny34, rfl⟩
  · rw [qn]
    show Fin p e below s _ _ _ (s₁.setTop (mkF m 8 #[.val (.int p1), .val (.int (17 : Int32)), .unset] []))
    refine Fin.step (fun _ => XS.iloadN X0.here hx rfl (hb hby at_8) rfl) ?_
    show Fin p e below s _ _ _ (s₁.setTop (mkF m 9 #[.val (.int p1), .val (.int (17 : Int32)), .unset] [(.int (17 : Int32))]))
    refine Fin.step (fun _ => XS.iconst X0.here hx rfl (hb hby at_9)) ?_
    show Fin p e below s _ _ _ (s₁.setTop (mkF m 10 #[.val (.int p1), .val (.int (17 : Int32)), .unset] [(.int (1 : Int32)), (.int (17 : Int32))]))
    refine Fin.step (fun _ => XS.icmpNo X0.here hx rfl (hb hby at_10) rfl (flt ((by decide) : ¬ ((17 : Int32) < (1 : Int32)))).1) ?_
    show Fin p e below s _ _ _ (s₁.setTop (mkF m 13 #[.val (.int p1), .val (.int (17 : Int32)), .unset] []))
    refine Fin.step (fun _ => XS.iloadN X0.here hx rfl (hb hby at_13) rfl) ?_
    show Fin p e below s _ _ _ (s₁.setTop (mkF m 14 #[.val (.int p1), .val (.int (17 : Int32)), .unset] [(.int (17 : Int32))]))
    refine Fin.step (fun _ => XS.bipush X0.here hx rfl (hb hby at_14)) ?_
    show Fin p e below s _ _ _ (s₁.setTop (mkF m 16 #[.val (.int p1), .val (.int (17 : Int32)), .unset] [(.int (16 : Int32)), (.int (17 : Int32))]))
    refine Fin.step (fun _ => XS.icmpYes X0.here hx rfl (pc0 := 16) (pc' := 23) rfl (hb hby at_16) rfl (tlt ((by decide) : ((16 : Int32) < (17 : Int32)))).2.2.1 (by decide) (by decide)) ?_
    show Fin p e below s _ _ _ (s₁.setTop (mkF m 23 #[.val (.int p1), .val (.int (17 : Int32)), .unset] []))
    refine Fin.step (fun _ => XS.iconst X0.here hx rfl (hb hby at_23)) ?_
    show Fin p e below s _ _ _ (s₁.setTop (mkF m 24 #[.val (.int p1), .val (.int (17 : Int32)), .unset] [(.int (0 : Int32))]))
    refine Fin.step (fun _ => XS.istoreN X0.here hx rfl (hb hby at_24) rfl (l' := #[.val (.int p1), .val (.int (17 : Int32)), .val (.int (0 : Int32))]) rfl) ?_
    show Fin p e below s _ _ _ (s₁.setTop (mkF m 25 #[.val (.int p1), .val (.int (17 : Int32)), .val (.int (0 : Int32))] []))
    refine Fin.step (fun _ => XS.iloadN X0.here hx rfl (hb hby at_25) rfl) ?_
    show Fin p e below s _ _ _ (s₁.setTop (mkF m 26 #[.val (.int p1), .val (.int (17 : Int32)), .val (.int (0 : Int32))] [(.int (17 : Int32))]))
    obtain ⟨_, _, ⟨Ty35, Ly35, ky35, ny35⟩, -, Xy35, ⟨Lcy35, hQy35, ly35, yy35, zy35⟩, sty35⟩ := Jvm.LawKit.callS X0 hx (y := (⟨"com/example/wicketgate/wicketgate/core/lds/LdsFileIsDataGroupPinLaw", "pick", "(I)Lcom/example/wicketgate/wicketgate/core/lds/LdsFile;"⟩ : MethodName)) hown (mvT hZ (hw _ (List.mem_of_getElem? (i := 1) rfl))) (mvT hZ (hw _ (List.mem_of_getElem? (i := 2) rfl))) (mvT hZ (hw _ (List.mem_of_getElem? (i := 3) rfl))) (mvT hZ (hw _ (List.mem_of_getElem? (i := 4) rfl))) (by decide) (backOf (W := 0) (rmp17 l Z a0 hw [] (17 : Int32) o17 h0 n0 Z0 HS_com_example_wicketgate_wicketgate_core_lds_LdsFile_SOD rfl) hZ (hw _ (List.mem_of_getElem? (i := 4) rfl)) (hw _ (List.mem_of_getElem? (i := 3) rfl)) (by decide) (by decide)) (g := (mkF m 26 #[.val (.int p1), .val (.int (17 : Int32)), .val (.int (0 : Int32))] [(.int (17 : Int32))])) rfl (by rw [hml]; rfl) (argsL := [(.int (17 : Int32))]) (rest := []) (lenOf pd_0 rfl) rfl (by show 2 * 0 + _ ≤ _; exact Nat.le_of_eq rfl) (hb hby at_26) (fun _ _ => ⟨rfl, e0, (by decide : 0 + 0 ≤ _), (by decide : 0 + 0 ≤ _)⟩)
    dsimp only [Pt.U, Pt.locs, Pt.cells, Pt.slots] at Xy35 ly35 yy35 zy35 sty35 hQy35
    subst ly35 yy35 zy35
    obtain ⟨rfl, Nqy35, eqy35⟩ := hQy35
    have Ny35 := Fr.app N0 Nqy35
    refine Fin.step (sty35) ?_
    show Fin p e below s _ _ _ (Ty35.setTop (mkF m 29 #[.val (.int p1), .val (.int (17 : Int32)), .val (.int (0 : Int32))] [(.ref o17)]))
    obtain ⟨cqy36, kqy36, qy36a, qy36b, qy36c⟩ := isOf hZ eqy35 HE_o17
    obtain ⟨_, _, ⟨Ty36, Ly36, ky36, ny36⟩, -, Xy36, ⟨Lcy36, hQy36, ly36, yy36, zy36⟩, sty36⟩ := Xy35.virtualBack hx (y := (⟨"com/example/wicketgate/wicketgate/core/lds/LdsFile", "isDataGroup", "()Z"⟩ : MethodName)) (z := (⟨"com/example/wicketgate/wicketgate/core/lds/LdsFile", "isDataGroup", "()Z"⟩ : MethodName)) hown (mvT hZ (hw _ (List.mem_of_getElem? (i := 8) rfl))) (mvT hZ (hw _ (List.mem_of_getElem? (i := 9) rfl))) (notFace_of_selects (args := #[]) (mvT hZ (hw _ (List.mem_of_getElem? (i := 11) rfl)))) (mvT hZ (hw _ (List.mem_of_getElem? (i := 11) rfl))) (mvT hZ (hw _ (List.mem_of_getElem? (i := 10) rfl))) (by decide) (backOf (W := 0) (rmg17 l Z a0 hw [] o17 o0 h0 n0 Z0 HS_com_example_wicketgate_wicketgate_core_lds_LdsFile_COM HS_com_example_wicketgate_wicketgate_core_lds_LdsFile_SOD nc17) hZ (hw _ (List.mem_of_getElem? (i := 12) rfl)) (hw _ (List.mem_of_getElem? (i := 6) rfl)) (by decide) (by decide)) qy36a qy36c (g := (mkF m 29 #[.val (.int p1), .val (.int (17 : Int32)), .val (.int (0 : Int32))] [(.ref o17)])) rfl (by rw [hml]; rfl) (Steps.refl _) (argsL := []) (rest := []) (lenOf pd_1 rfl) rfl (by show 2 * 0 + _ ≤ _; exact Nat.le_of_eq rfl) (hb hby at_29) (fun _ _ => ⟨rfl, eqy35, (by decide : 0 + 0 ≤ _), (by decide : 0 + 0 ≤ _)⟩)
    dsimp only [Pt.U, Pt.locs, Pt.cells, Pt.slots] at Xy36 ly36 yy36 zy36 sty36 hQy36
    subst ly36 yy36 zy36
    obtain ⟨rfl, Nqy36, eqy36⟩ := hQy36
    have Ny36 := Fr.app Ny35 Nqy36
    refine Fin.step (fun _ k => sty36.trans k) ?_
    show Fin p e below s _ _ _ (Ty36.setTop (mkF m 32 #[.val (.int p1), .val (.int (17 : Int32)), .val (.int (0 : Int32))] [(.int (0 : Int32))]))
    refine Fin.step (fun _ => XS.iloadN Xy36.here hx rfl (hb hby at_32) rfl) ?_
    show Fin p e below s _ _ _ (Ty36.setTop (mkF m 33 #[.val (.int p1), .val (.int (17 : Int32)), .val (.int (0 : Int32))] [(.int (0 : Int32)), (.int (0 : Int32))]))
    refine Fin.step (fun _ => XS.icmpNo Xy36.here hx rfl (hb hby at_33) rfl (teq ((by decide) : ((0 : Int32) = (0 : Int32)))).2) ?_
    show Fin p e below s _ _ _ (Ty36.setTop (mkF m 36 #[.val (.int p1), .val (.int (17 : Int32)), .val (.int (0 : Int32))] []))
    refine Fin.step (fun _ => XS.iconst Xy36.here hx rfl (hb hby at_36)) ?_
    show Fin p e below s _ _ _ (Ty36.setTop (mkF m 37 #[.val (.int p1), .val (.int (17 : Int32)), .val (.int (0 : Int32))] [(.int (1 : Int32))]))
    refine Fin.step (fun _ => XS.goto Xy36.here hx rfl (pc0 := 37) (pc' := 41) rfl (hb hby at_37) (by decide) (by decide)) ?_
    show Fin p e below s _ _ _ (Ty36.setTop (mkF m 41 #[.val (.int p1), .val (.int (17 : Int32)), .val (.int (0 : Int32))] [(.int (1 : Int32))]))
    refine Fin.retN Xy36 hx (t := .boolean) hret (by simp) hlk (hb hby at_41) (by decide) (by decide) ?_
    show Q0 Z p1 o0 o1 o2 o3 o4 o5 o6 o7 o8 o9 o10 o11 o12 o13 o14 o15 o16 o17 h0 n0 _ Ty36.heap _
    rw [eqy36]
    exact ⟨rfl, Ny36, rfl⟩
set_option maxRecDepth 65536 in
set_option maxHeartbeats 40000000 in
theorem comes_1 {Post : Tables → Env → Array Value → State → Outcome → State → Prop} (hpost : ∀ tb e args s v u, (limb_1_1.after args s (.returned v) u = true ∧ limb_1_2.after args s (.returned v) u = true ∧ True) → FrameEnd s (.returned v) u (Jvm.fieldLocs frame_1_writes args s ++ Jvm.arrayLocs frame_1_arrays args s ++ Jvm.staticLocs frame_1_statics s) 0 0 → Post tb e args s (.returned v) u) :
    ArmFor flags0 classFile x code maxLocals ret World_1 tables_1 room_1 Calls_1 rest_1 Pre_1 Post := by
  intro l hfl _ _ p e ha hc hk s m args below hf hA hF happ hP
  obtain ⟨hcalls, hrest, hpre⟩ := hP
  obtain ⟨-, -, -, hnamed, -, -, -, hat⟩ := (Spec.applies_iff hf).mp happ
  obtain ⟨hg, hn⟩ := and_e (Cond.before_iff.mp (show (Jvm.Cond.and given_1 narrow_1).before args s = true from hpre))
  obtain ⟨gc, gr0⟩ := and_e hg
  have ga0 := gr0
  obtain ⟨w0, rfl⟩ : ∃ w0 : Value, args = #[w0] := by
    have hs : args.size = 1 := by simpa [Cond.value, given_1] using gc
    obtain ⟨L⟩ := args
    match L, hs with
    | [w0], _ => exact ⟨w0, rfl⟩
  have hw := fun d (hd : d ∈ tables_1) => atoms_spec (ws := Jvm.Cond.code x code maxLocals ret :: tables_1) hat d (List.mem_cons_of_mem _ hd)
  have hfit : Fit s := fun {y c} hc i hi => by
    obtain ⟨ha, rfl⟩ := Array.getElem?_eq_some_iff.mp hc
    have q := List.all_eq_true.mp ((Array.all_eq_true_iff_forall_mem.mp hF) _ (Array.getElem_mem ha)) i (List.mem_range.mpr hi)
    simpa [Array.getElem?_eq_getElem hi] using q
  obtain ⟨i0, ei0⟩ := is_v ga0
  obtain rfl : w0 = (.int i0) := Option.some.inj ei0
  obtain ⟨nE0, hr0⟩ := and_e hn
  obtain ⟨nE3, hr1⟩ := and_e hr0
  obtain ⟨nF3, hr2⟩ := and_e hr1
  obtain ⟨nF0, hr3⟩ := and_e hr2
  obtain ⟨nE17, hr4⟩ := and_e hr3
  obtain ⟨nF17, hr5⟩ := and_e hr4
  obtain ⟨nE2, hr6⟩ := and_e hr5
  obtain ⟨nF2, hr7⟩ := and_e hr6
  obtain ⟨nE1, hr8⟩ := and_e hr7
  obtain ⟨nF1, hr9⟩ := and_e hr8
  obtain ⟨nE7, hr10⟩ := and_e hr9
  obtain ⟨nF7, hr11⟩ := and_e hr10
  obtain ⟨nE11, hr12⟩ := and_e hr11
  obtain ⟨nF11, hr13⟩ := and_e hr12
  obtain ⟨nE4, hr14⟩ := and_e hr13
  obtain ⟨nF4, hr15⟩ := and_e hr14
  obtain ⟨nE8, hr16⟩ := and_e hr15
  obtain ⟨nF8, hr17⟩ := and_e hr16
  obtain ⟨nE12, hr18⟩ := and_e hr17
  obtain ⟨nF12, hr19⟩ := and_e hr18
  obtain ⟨nE16, hr20⟩ := and_e hr19
  obtain ⟨nF16, hr21⟩ := and_e hr20
  obtain ⟨nE15, hr22⟩ := and_e hr21
  obtain ⟨nF15, hr23⟩ := and_e hr22
  obtain ⟨nE10, hr24⟩ := and_e hr23
  obtain ⟨nF10, hr25⟩ := and_e hr24
  obtain ⟨nE13, hr26⟩ := and_e hr25
  obtain ⟨nF13, hr27⟩ := and_e hr26
  obtain ⟨nE6, hr28⟩ := and_e hr27
  obtain ⟨nF6, hr29⟩ := and_e hr28
  obtain ⟨nE14, hr30⟩ := and_e hr29
  obtain ⟨nF14, hr31⟩ := and_e hr30
  obtain ⟨nE5, hr32⟩ := and_e hr31
  obtain ⟨nF5, hr33⟩ := and_e hr32
  obtain ⟨nE9, hr34⟩ := and_e hr33
  have nF9 := hr34
  obtain ⟨o0, ev0⟩ := exa_v nE0
  have HE0 : Exa s s.heap o0 "com/example/wicketgate/wicketgate/core/lds/LdsFile" := Exa.start ev0 nE0
  have HS0 : Sta s s.heap "com/example/wicketgate/wicketgate/core/lds/LdsFile" "COM" "Lcom/example/wicketgate/wicketgate/core/lds/LdsFile;" (.ref o0) := Sta.start ev0 (Or.inr ⟨(hw _ (List.mem_of_getElem? (i := 6) rfl)), (hw _ (List.mem_of_getElem? (i := 7) rfl))⟩)
  have HF0 : Fld s s.heap o0 "java/lang/Enum" "ordinal" "I" (.int (0 : Int32)) := Fld.start ((fld_at ev0).symm.trans (own_eqv nF0))
  obtain ⟨o1, ev1⟩ := exa_v nE1
  have HE1 : Exa s s.heap o1 "com/example/wicketgate/wicketgate/core/lds/LdsFile" := Exa.start ev1 nE1
  have HS1 : Sta s s.heap "com/example/wicketgate/wicketgate/core/lds/LdsFile" "DG1" "Lcom/example/wicketgate/wicketgate/core/lds/LdsFile;" (.ref o1) := Sta.start ev1 (Or.inr ⟨(hw _ (List.mem_of_getElem? (i := 6) rfl)), (hw _ (List.mem_of_getElem? (i := 21) rfl))⟩)
  have HF1 : Fld s s.heap o1 "java/lang/Enum" "ordinal" "I" (.int (1 : Int32)) := Fld.start ((fld_at ev1).symm.trans (own_eqv nF1))
  obtain ⟨o2, ev2⟩ := exa_v nE2
  have HE2 : Exa s s.heap o2 "com/example/wicketgate/wicketgate/core/lds/LdsFile" := Exa.start ev2 nE2
  have HS2 : Sta s s.heap "com/example/wicketgate/wicketgate/core/lds/LdsFile" "DG2" "Lcom/example/wicketgate/wicketgate/core/lds/LdsFile;" (.ref o2) := Sta.start ev2 (Or.inr ⟨(hw _ (List.mem_of_getElem? (i := 6) rfl)), (hw _ (List.mem_of_getElem? (i := 19) rfl))⟩)
  have HF2 : Fld s s.heap o2 "java/lang/Enum" "ordinal" "I" (.int (2 : Int32)) := Fld.start ((fld_at ev2).symm.trans (own_eqv nF2))
  obtain ⟨o3, ev3⟩ := exa_v nE3
  have HE3 : Exa s s.heap o3 "com/example/wicketgate/wicketgate/core/lds/LdsFile" := Exa.start ev3 nE3
  have HS3 : Sta s s.heap "com/example/wicketgate/wicketgate/core/lds/LdsFile" "DG3" "Lcom/example/wicketgate/wicketgate/core/lds/LdsFile;" (.ref o3) := Sta.start ev3 (Or.inr ⟨(hw _ (List.mem_of_getElem? (i := 6) rfl)), (hw _ (List.mem_of_getElem? (i := 15) rfl))⟩)
  have HF3 : Fld s s.heap o3 "java/lang/Enum" "ordinal" "I" (.int (3 : Int32)) := Fld.start ((fld_at ev3).symm.trans (own_eqv nF3))
  obtain ⟨o4, ev4⟩ := exa_v nE4
  have HE4 : Exa s s.heap o4 "com/example/wicketgate/wicketgate/core/lds/LdsFile" := Exa.start ev4 nE4
  have HS4 : Sta s s.heap "com/example/wicketgate/wicketgate/core/lds/LdsFile" "DG4" "Lcom/example/wicketgate/wicketgate/core/lds/LdsFile;" (.ref o4) := Sta.start ev4 (Or.inr ⟨(hw _ (List.mem_of_getElem? (i := 6) rfl)), (hw _ (List.mem_of_getElem? (i := 27) rfl))⟩)
  have HF4 : Fld s s.heap o4 "java/lang/Enum" "ordinal" "I" (.int (4 : Int32)) := Fld.start ((fld_at ev4).symm.trans (own_eqv nF4))
  obtain ⟨o5, ev5⟩ := exa_v nE5
  have HE5 : Exa s s.heap o5 "com/example/wicketgate/wicketgate/core/lds/LdsFile" := Exa.start ev5 nE5
  have HS5 : Sta s s.heap "com/example/wicketgate/wicketgate/core/lds/LdsFile" "DG5" "Lcom/example/wicketgate/wicketgate/core/lds/LdsFile;" (.ref o5) := Sta.start ev5 (Or.inr ⟨(hw _ (List.mem_of_getElem? (i := 6) rfl)), (hw _ (List.mem_of_getElem? (i := 46) rfl))⟩)
  have HF5 : Fld s s.heap o5 "java/lang/Enum" "ordinal" "I" (.int (5 : Int32)) := Fld.start ((fld_at ev5).symm.trans (own_eqv nF5))
  obtain ⟨o6, ev6⟩ := exa_v nE6
  have HE6 : Exa s s.heap o6 "com/example/wicketgate/wicketgate/core/lds/LdsFile" := Exa.start ev6 nE6
  have HS6 : Sta s s.heap "com/example/wicketgate/wicketgate/core/lds/LdsFile" "DG6" "Lcom/example/wicketgate/wicketgate/core/lds/LdsFile;" (.ref o6) := Sta.start ev6 (Or.inr ⟨(hw _ (List.mem_of_getElem? (i := 6) rfl)), (hw _ (List.mem_of_getElem? (i := 41) rfl))⟩)
  have HF6 : Fld s s.heap o6 "java/lang/Enum" "ordinal" "I" (.int (6 : Int32)) := Fld.start ((fld_at ev6).symm.trans (own_eqv nF6))
  obtain ⟨o7, ev7⟩ := exa_v nE7
  have HE7 : Exa s s.heap o7 "com/example/wicketgate/wicketgate/core/lds/LdsFile" := Exa.start ev7 nE7
  have HS7 : Sta s s.heap "com/example/wicketgate/wicketgate/core/lds/LdsFile" "DG7" "Lcom/example/wicketgate/wicketgate/core/lds/LdsFile;" (.ref o7) := Sta.start ev7 (Or.inr ⟨(hw _ (List.mem_of_getElem? (i := 6) rfl)), (hw _ (List.mem_of_getElem? (i := 23) rfl))⟩)
  have HF7 : Fld s s.heap o7 "java/lang/Enum" "ordinal" "I" (.int (7 : Int32)) := Fld.start ((fld_at ev7).symm.trans (own_eqv nF7))
  obtain ⟨o8, ev8⟩ := exa_v nE8
  have HE8 : Exa s s.heap o8 "com/example/wicketgate/wicketgate/core/lds/LdsFile" := Exa.start ev8 nE8
  have HS8 : Sta s s.heap "com/example/wicketgate/wicketgate/core/lds/LdsFile" "DG8" "Lcom/example/wicketgate/wicketgate/core/lds/LdsFile;" (.ref o8) := Sta.start ev8 (Or.inr ⟨(hw _ (List.mem_of_getElem? (i := 6) rfl)), (hw _ (List.mem_of_getElem? (i := 29) rfl))⟩)
  have HF8 : Fld s s.heap o8 "java/lang/Enum" "ordinal" "I" (.int (8 : Int32)) := Fld.start ((fld_at ev8).symm.trans (own_eqv nF8))
  obtain ⟨o9, ev9⟩ := exa_v nE9
  have HE9 : Exa s s.heap o9 "com/example/wicketgate/wicketgate/core/lds/LdsFile" := Exa.start ev9 nE9
  have HS9 : Sta s s.heap "com/example/wicketgate/wicketgate/core/lds/LdsFile" "DG9" "Lcom/example/wicketgate/wicketgate/core/lds/LdsFile;" (.ref o9) := Sta.start ev9 (Or.inr ⟨(hw _ (List.mem_of_getElem? (i := 6) rfl)), (hw _ (List.mem_of_getElem? (i := 48) rfl))⟩)
  have HF9 : Fld s s.heap o9 "java/lang/Enum" "ordinal" "I" (.int (9 : Int32)) := Fld.start ((fld_at ev9).symm.trans (own_eqv nF9))
  obtain ⟨o10, ev10⟩ := exa_v nE10
  have HE10 : Exa s s.heap o10 "com/example/wicketgate/wicketgate/core/lds/LdsFile" := Exa.start ev10 nE10
  have HS10 : Sta s s.heap "com/example/wicketgate/wicketgate/core/lds/LdsFile" "DG10" "Lcom/example/wicketgate/wicketgate/core/lds/LdsFile;" (.ref o10) := Sta.start ev10 (Or.inr ⟨(hw _ (List.mem_of_getElem? (i := 6) rfl)), (hw _ (List.mem_of_getElem? (i := 37) rfl))⟩)
  have HF10 : Fld s s.heap o10 "java/lang/Enum" "ordinal" "I" (.int (10 : Int32)) := Fld.start ((fld_at ev10).symm.trans (own_eqv nF10))
  obtain ⟨o11, ev11⟩ := exa_v nE11
  have HE11 : Exa s s.heap o11 "com/example/wicketgate/wicketgate/core/lds/LdsFile" := Exa.start ev11 nE11
  have HS11 : Sta s s.heap "com/example/wicketgate/wicketgate/core/lds/LdsFile" "DG11" "Lcom/example/wicketgate/wicketgate/core/lds/LdsFile;" (.ref o11) := Sta.start ev11 (Or.inr ⟨(hw _ (List.mem_of_getElem? (i := 6) rfl)), (hw _ (List.mem_of_getElem? (i := 25) rfl))⟩)
  have HF11 : Fld s s.heap o11 "java/lang/Enum" "ordinal" "I" (.int (11 : Int32)) := Fld.start ((fld_at ev11).symm.trans (own_eqv nF11))
  obtain ⟨o12, ev12⟩ := exa_v nE12
  have HE12 : Exa s s.heap o12 "com/example/wicketgate/wicketgate/core/lds/LdsFile" := Exa.start ev12 nE12
  have HS12 : Sta s s.heap "com/example/wicketgate/wicketgate/core/lds/LdsFile" "DG12" "Lcom/example/wicketgate/wicketgate/core/lds/LdsFile;" (.ref o12) := Sta.start ev12 (Or.inr ⟨(hw _ (List.mem_of_getElem? (i := 6) rfl)), (hw _ (List.mem_of_getElem? (i := 31) rfl))⟩)
  have HF12 : Fld s s.heap o12 "java/lang/Enum" "ordinal" "I" (.int (12 : Int32)) := Fld.start ((fld_at ev12).symm.trans (own_eqv nF12))
  obtain ⟨o13, ev13⟩ := exa_v nE13
  have HE13 : Exa s s.heap o13 "com/example/wicketgate/wicketgate/core/lds/LdsFile" := Exa.start ev13 nE13
  have HS13 : Sta s s.heap "com/example/wicketgate/wicketgate/core/lds/LdsFile" "DG13" "Lcom/example/wicketgate/wicketgate/core/lds/LdsFile;" (.ref o13) := Sta.start ev13 (Or.inr ⟨(hw _ (List.mem_of_getElem? (i := 6) rfl)), (hw _ (List.mem_of_getElem? (i := 39) rfl))⟩)
  have HF13 : Fld s s.heap o13 "java/lang/Enum" "ordinal" "I" (.int (13 : Int32)) := Fld.start ((fld_at ev13).symm.trans (own_eqv nF13))
  obtain ⟨o14, ev14⟩ := exa_v nE14
  have HE14 : Exa s s.heap o14 "com/example/wicketgate/wicketgate/core/lds/LdsFile" := Exa.start ev14 nE14
  have HS14 : Sta s s.heap "com/example/wicketgate/wicketgate/core/lds/LdsFile" "DG14" "Lcom/example/wicketgate/wicketgate/core/lds/LdsFile;" (.ref o14) := Sta.start ev14 (Or.inr ⟨(hw _ (List.mem_of_getElem? (i := 6) rfl)), (hw _ (List.mem_of_getElem? (i := 44) rfl))⟩)
  have HF14 : Fld s s.heap o14 "java/lang/Enum" "ordinal" "I" (.int (14 : Int32)) := Fld.start ((fld_at ev14).symm.trans (own_eqv nF14))
  obtain ⟨o15, ev15⟩ := exa_v nE15
  have HE15 : Exa s s.heap o15 "com/example/wicketgate/wicketgate/core/lds/LdsFile" := Exa.start ev15 nE15
  have HS15 : Sta s s.heap "com/example/wicketgate/wicketgate/core/lds/LdsFile" "DG15" "Lcom/example/wicketgate/wicketgate/core/lds/LdsFile;" (.ref o15) := Sta.start ev15 (Or.inr ⟨(hw _ (List.mem_of_getElem? (i := 6) rfl)), (hw _ (List.mem_of_getElem? (i := 35) rfl))⟩)
  have HF15 : Fld s s.heap o15 "java/lang/Enum" "ordinal" "I" (.int (15 : Int32)) := Fld.start ((fld_at ev15).symm.trans (own_eqv nF15))
  obtain ⟨o16, ev16⟩ := exa_v nE16
  have HE16 : Exa s s.heap o16 "com/example/wicketgate/wicketgate/core/lds/LdsFile" := Exa.start ev16 nE16
  have HS16 : Sta s s.heap "com/example/wicketgate/wicketgate/core/lds/LdsFile" "DG16" "Lcom/example/wicketgate/wicketgate/core/lds/LdsFile;" (.ref o16) := Sta.start ev16 (Or.inr ⟨(hw _ (List.mem_of_getElem? (i := 6) rfl)), (hw _ (List.mem_of_getElem? (i := 33) rfl))⟩)
  have HF16 : Fld s s.heap o16 "java/lang/Enum" "ordinal" "I" (.int (16 : Int32)) := Fld.start ((fld_at ev16).symm.trans (own_eqv nF16))
  obtain ⟨o17, ev17⟩ := exa_v nE17
  have HE17 : Exa s s.heap o17 "com/example/wicketgate/wicketgate/core/lds/LdsFile" := Exa.start ev17 nE17
  have HS17 : Sta s s.heap "com/example/wicketgate/wicketgate/core/lds/LdsFile" "SOD" "Lcom/example/wicketgate/wicketgate/core/lds/LdsFile;" (.ref o17) := Sta.start ev17 (Or.inr ⟨(hw _ (List.mem_of_getElem? (i := 6) rfl)), (hw _ (List.mem_of_getElem? (i := 17) rfl))⟩)
  have HF17 : Fld s s.heap o17 "java/lang/Enum" "ordinal" "I" (.int (17 : Int32)) := Fld.start ((fld_at ev17).symm.trans (own_eqv nF17))
  obtain ⟨n, o, h1, h2, h3, _, L, rfl, ⟨rfl, N, _⟩, hq⟩ := rm0 l s _ hw tables_1 i0 o0 o1 o2 o3 o4 o5 o6 o7 o8 o9 o10 o11 o12 o13 o14 o15 o16 o17 s.heap s.heap.size (Nat.le_refl _) HS0 HS1 HS2 HS3 HS4 HS5 HS6 HS7 HS8 HS9 HS10 HS11 HS12 HS13 HS14 HS15 HS16 HS17 HE0 HE1 HE2 HE3 HE4 HE5 HE6 HE7 HE8 HE9 HE10 HE11 HE12 HE13 HE14 HE15 HE16 HE17 (HF1.ne HF0 (fun q => absurd (Value.int.inj q) (by decide))) (HF2.ne HF0 (fun q => absurd (Value.int.inj q) (by decide))) (HF3.ne HF0 (fun q => absurd (Value.int.inj q) (by decide))) (HF4.ne HF0 (fun q => absurd (Value.int.inj q) (by decide))) (HF5.ne HF0 (fun q => absurd (Value.int.inj q) (by decide))) (HF6.ne HF0 (fun q => absurd (Value.int.inj q) (by decide))) (HF7.ne HF0 (fun q => absurd (Value.int.inj q) (by decide))) (HF8.ne HF0 (fun q => absurd (Value.int.inj q) (by decide))) (HF9.ne HF0 (fun q => absurd (Value.int.inj q) (by decide))) (HF10.ne HF0 (fun q => absurd (Value.int.inj q) (by decide))) (HF11.ne HF0 (fun q => absurd (Value.int.inj q) (by decide))) (HF12.ne HF0 (fun q => absurd (Value.int.inj q) (by decide))) (HF13.ne HF0 (fun q => absurd (Value.int.inj q) (by decide))) (HF14.ne HF0 (fun q => absurd (Value.int.inj q) (by decide))) (HF15.ne HF0 (fun q => absurd (Value.int.inj q) (by decide))) (HF16.ne HF0 (fun q => absurd (Value.int.inj q) (by decide))) (HF17.ne HF0 (fun q => absurd (Value.int.inj q) (by decide))) (HF1.ne HF17 (fun q => absurd (Value.int.inj q) (by decide))) (HF2.ne HF17 (fun q => absurd (Value.int.inj q) (by decide))) (HF3.ne HF17 (fun q => absurd (Value.int.inj q) (by decide))) (HF4.ne HF17 (fun q => absurd (Value.int.inj q) (by decide))) (HF5.ne HF17 (fun q => absurd (Value.int.inj q) (by decide))) (HF6.ne HF17 (fun q => absurd (Value.int.inj q) (by decide))) (HF7.ne HF17 (fun q => absurd (Value.int.inj q) (by decide))) (HF8.ne HF17 (fun q => absurd (Value.int.inj q) (by decide))) (HF9.ne HF17 (fun q => absurd (Value.int.inj q) (by decide))) (HF10.ne HF17 (fun q => absurd (Value.int.inj q) (by decide))) (HF11.ne HF17 (fun q => absurd (Value.int.inj q) (by decide))) (HF12.ne HF17 (fun q => absurd (Value.int.inj q) (by decide))) (HF13.ne HF17 (fun q => absurd (Value.int.inj q) (by decide))) (HF14.ne HF17 (fun q => absurd (Value.int.inj q) (by decide))) (HF15.ne HF17 (fun q => absurd (Value.int.inj q) (by decide))) (HF16.ne HF17 (fun q => absurd (Value.int.inj q) (by decide))) p e ha hc hk s m _ below hf ((Spec.applies_iff_loose hf).mp happ).1 ⟨rfl, State.Warmed39.refl s, rfl⟩ trivial
  refine ⟨n, _, h1, h2, h3, hpost _ _ _ _ _ _ ⟨Cond.after_iff.mpr rfl, Cond.after_iff.mpr (eq_i res_at (Term.int_eval (1)) rfl), trivial⟩ ⟨hq.1, hq.2.1, (hq.2.2.sift fun y hy => Or.inr (N y hy)).mono (by decide) (by decide)⟩⟩
theorem main_1_1 : Claimed_1_1 := comes_1 fun _ _ _ _ _ _ h hF => ⟨h.1, hF⟩
theorem main_1_2 : Claimed_1_2 := comes_1 fun _ _ _ _ _ _ h hF => ⟨h.2.1, hF⟩
end Jvm.Pilot.@@N@@
namespace Jvm.Pilot.@@N@@
open Jvm Jvm.ClassFile Sem Op Lib Jvm.Free Jvm.Stand Jvm.Pilot.@@N@@.Jvm.D
/-! MADE BY PROGRAM (witnessworld.py) out of the Statement's table words and the real class files: 13 classes; the members and pool entries that the words name. The judged class is class 1, her method 2. -/
namespace start1
open Jvm.ClassFile
def u (s : String) : CpInfo := .utf8 (stringToUtf16 s)
/-- a pool by its gaps: so many unusable entries, then the entry; so many at the end -/
def gap : Nat → List CpInfo → List CpInfo
  | 0, r => r
  | n + 1, r => .unusable :: gap n r
def poolList (es : List (Nat × CpInfo)) (last : Nat) : List CpInfo := es.foldr (fun e r => gap e.1 (e.2 :: r)) (gap last [])
def pool (es : List (Nat × CpInfo)) (last : Nat) : Array CpInfo := ⟨poolList es last⟩
def fileOf (pool : Array CpInfo) (this : Nat) (attrs : Array Attribute := #[]) (ms : Array MethodInfo := #[]) (fl : Nat := 33) (sup : Nat := 0) (ifs : Array Nat := #[]) (fds : Array FieldInfo := #[]) : ClassFile where
  minorVersion := 0
  majorVersion := 65
  constantPool := pool
  accessFlags := fl
  thisClass := this
  superClass := sup
  interfaces := ifs
  fields := fds
  methods := ms
  attributes := attrs
def plain (name : String) (sup : Option ClassId) : Class where
  name := name
  kind := .ordinary
  loader := none
  accessFlags := 33
  super := sup
  interfaces := #[]
  cf := none
  fields := #[]
  methods := #[]
  instanceTypes := #[]
  staticTypes := #[]
  resolved := #[]
  callSites := []
  init := .initialized
  statics := none
  mirror := none

def pool0 : Array CpInfo := pool [(5, u "<init>"), (0, u "()V"), (1, .class_ 10), (1, u "java/lang/Object")] 113

def k0m0 : Method := { name := "<init>", desc := "()V", sig := { parameters := [], returnType := none }, accessFlags := 1, code := none }
/-- java/lang/Object -/
def k0 : Class := { plain "java/lang/Object" none with
  accessFlags := 33
  interfaces := #[]
  cf := some (fileOf pool0 8 #[] #[{ accessFlags := 1, nameIndex := 5, descriptorIndex := 6, attributes := #[] }] 33 0 #[] #[])
  fields := #[]
  methods := #[k0m0]
  instanceTypes := #[]
  staticTypes := #[]
  resolved := Array.replicate 124 none
  statics := none }

def pool1 : Array CpInfo := pool [(2, .class_ 4), (1, u "java/lang/Object"), (0, u "<init>"), (0, u "()V"), (0, .fieldref 8 9), (0, .class_ 10), (0, .nameAndType 11 12), (0, u "com/example/wicketgate/wicketgate/core/lds/LdsFile"), (0, u "COM"), (0, u "Lcom/example/wicketgate/wicketgate/core/lds/LdsFile;"), (0, .fieldref 8 14), (0, .nameAndType 15 12), (0, u "DG1"), (0, .fieldref 8 17), (0, .nameAndType 18 12), (0, u "DG2"), (0, .fieldref 8 20), (0, .nameAndType 21 12), (0, u "DG3"), (0, .fieldref 8 23), (0, .nameAndType 24 12), (0, u "DG4"), (0, .fieldref 8 26), (0, .nameAndType 27 12), (0, u "DG5"), (0, .fieldref 8 29), (0, .nameAndType 30 12), (0, u "DG6"), (0, .fieldref 8 32), (0, .nameAndType 33 12), (0, u "DG7"), (0, .fieldref 8 35), (0, .nameAndType 36 12), (0, u "DG8"), (0, .fieldref 8 38), (0, .nameAndType 39 12), (0, u "DG9"), (0, .fieldref 8 41), (0, .nameAndType 42 12), (0, u "DG10"), (0, .fieldref 8 44), (0, .nameAndType 45 12), (0, u "DG11"), (0, .fieldref 8 47), (0, .nameAndType 48 12), (0, u "DG12"), (0, .fieldref 8 50), (0, .nameAndType 51 12), (0, u "DG13"), (0, .fieldref 8 53), (0, .nameAndType 54 12), (0, u "DG14"), (0, .fieldref 8 56), (0, .nameAndType 57 12), (0, u "DG15"), (0, .fieldref 8 59), (0, .nameAndType 60 12), (0, u "DG16"), (0, .fieldref 8 62), (0, .nameAndType 63 12), (0, u "SOD"), (0, .integer 2147483647), (0, .methodref 66 67), (0, .class_ 68), (0, .nameAndType 69 70), (0, u "com/example/wicketgate/wicketgate/core/lds/LdsFileIsDataGroupPinLaw"), (0, u "pick"), (0, u "(I)Lcom/example/wicketgate/wicketgate/core/lds/LdsFile;"), (0, .methodref 8 72), (0, .nameAndType 73 74), (0, u "isDataGroup"), (0, u "()Z"), (3, u "law"), (0, u "(I)Z")] 2

def k1m0 : Method := { name := "<init>", desc := "()V", sig := { parameters := [], returnType := none }, accessFlags := 1, code := none }
def k1c1 : Code := { maxStack := 2, maxLocals := 1, code := method_2_code, exceptionTable := #[], attributes := #[] }
def k1m1 : Method := { name := "pick", desc := "(I)Lcom/example/wicketgate/wicketgate/core/lds/LdsFile;", sig := { parameters := [.int], returnType := some (.object "com/example/wicketgate/wicketgate/core/lds/LdsFile") }, accessFlags := 10, code := some k1c1 }
def k1c2 : Code := { maxStack := 2, maxLocals := 3, code := code, exceptionTable := #[], attributes := #[] }
def k1m2 : Method := { name := "law", desc := "(I)Z", sig := { parameters := [.int], returnType := some .boolean }, accessFlags := 9, code := some k1c2 }
/-- com/example/wicketgate/wicketgate/core/lds/LdsFileIsDataGroupPinLaw -/
def k1 : Class := { plain "com/example/wicketgate/wicketgate/core/lds/LdsFileIsDataGroupPinLaw" (some 0) with
  accessFlags := 49
  interfaces := #[]
  cf := some (fileOf pool1 66 #[] #[{ accessFlags := 1, nameIndex := 5, descriptorIndex := 6, attributes := #[] }, { accessFlags := 10, nameIndex := 69, descriptorIndex := 70, attributes := #[] }, { accessFlags := 9, nameIndex := 78, descriptorIndex := 79, attributes := #[] }] 49 2 #[] #[])
  fields := #[]
  methods := #[k1m0, k1m1, k1m2]
  instanceTypes := #[]
  staticTypes := #[]
  resolved := Array.replicate 82 none
  statics := none }

def pool2 : Array CpInfo := pool [(1, .class_ 2), (0, u "java/lang/constant/Constable"), (0, .class_ 4), (0, u "java/lang/Object")] 6

/-- java/lang/constant/Constable -/
def k2 : Class := { plain "java/lang/constant/Constable" (some 0) with
  accessFlags := 1537
  interfaces := #[]
  cf := some (fileOf pool2 1 #[] #[] 1537 3 #[] #[])
  fields := #[]
  methods := #[]
  instanceTypes := #[]
  staticTypes := #[]
  resolved := Array.replicate 11 none
  statics := none }

def pool3 : Array CpInfo := pool [(1, .class_ 2), (0, u "java/lang/Comparable"), (0, .class_ 4), (0, u "java/lang/Object")] 7

/-- java/lang/Comparable -/
def k3 : Class := { plain "java/lang/Comparable" (some 0) with
  accessFlags := 1537
  interfaces := #[]
  cf := some (fileOf pool3 1 #[] #[] 1537 3 #[] #[])
  fields := #[]
  methods := #[]
  instanceTypes := #[]
  staticTypes := #[]
  resolved := Array.replicate 12 none
  statics := none }

def pool4 : Array CpInfo := pool [(1, .class_ 2), (0, u "java/io/Serializable"), (0, .class_ 4), (0, u "java/lang/Object")] 2

/-- java/io/Serializable -/
def k4 : Class := { plain "java/io/Serializable" (some 0) with
  accessFlags := 1537
  interfaces := #[]
  cf := some (fileOf pool4 1 #[] #[] 1537 3 #[] #[])
  fields := #[]
  methods := #[]
  instanceTypes := #[]
  staticTypes := #[]
  resolved := Array.replicate 7 none
  statics := none }

def pool5 : Array CpInfo := pool [(2, .class_ 4), (1, u "java/lang/Enum"), (0, u "name"), (0, u "Ljava/lang/String;"), (2, u "ordinal"), (0, u "I"), (1, .class_ 14), (1, u "java/lang/Object"), (4, u "hash"), (86, .class_ 108), (1, u "java/lang/Enum$EnumDesc"), (2, .class_ 112), (0, u "java/lang/constant/Constable"), (0, .class_ 114), (0, u "java/lang/Comparable"), (0, .class_ 116), (0, u "java/io/Serializable")] 87

/-- java/lang/Enum -/
def k5 : Class := { plain "java/lang/Enum" (some 0) with
  accessFlags := 1057
  interfaces := #[2, 3, 4]
  cf := some (fileOf pool5 2 #[.nestMembers #[106]] #[] 1057 12 #[111, 113, 115] #[{ accessFlags := 18, nameIndex := 5, descriptorIndex := 6, attributes := #[] }, { accessFlags := 18, nameIndex := 9, descriptorIndex := 10, attributes := #[] }, { accessFlags := 2, nameIndex := 19, descriptorIndex := 10, attributes := #[] }])
  fields := #[{ name := "name", type := (.object "java/lang/String"), accessFlags := 18, slot := 0, constantValue := 0 }, { name := "ordinal", type := .int, accessFlags := 18, slot := 1, constantValue := 0 }, { name := "hash", type := .int, accessFlags := 2, slot := 2, constantValue := 0 }]
  methods := #[]
  instanceTypes := #[(.object "java/lang/String"), .int, .int]
  staticTypes := #[]
  resolved := Array.replicate 204 none
  statics := none }

def pool6 : Array CpInfo := pool [(2, .class_ 4), (1, u "com/example/wicketgate/wicketgate/core/lds/ElementaryFile"), (28, .class_ 34), (0, u "java/lang/Object"), (0, u "LABEL_PREFIX"), (0, u "Ljava/lang/String;")] 25

/-- com/example/wicketgate/wicketgate/core/lds/ElementaryFile -/
def k6 : Class := { plain "com/example/wicketgate/wicketgate/core/lds/ElementaryFile" (some 0) with
  accessFlags := 1537
  interfaces := #[]
  cf := some (fileOf pool6 2 #[] #[] 1537 33 #[] #[{ accessFlags := 25, nameIndex := 35, descriptorIndex := 36, attributes := #[] }])
  fields := #[{ name := "LABEL_PREFIX", type := (.object "java/lang/String"), accessFlags := 25, slot := 0, constantValue := 0 }]
  methods := #[]
  instanceTypes := #[]
  staticTypes := #[(.object "java/lang/String")]
  resolved := Array.replicate 62 none
  statics := none }

def pool7 : Array CpInfo := pool [(1, .class_ 2), (0, u "com/example/wicketgate/wicketgate/core/lds/LdsFile"), (0, .fieldref 1 4), (0, .nameAndType 5 6), (0, u "COM"), (0, u "Lcom/example/wicketgate/wicketgate/core/lds/LdsFile;"), (2, u "DG1"), (2, u "DG2"), (2, u "DG3"), (2, u "DG4"), (2, u "DG5"), (2, u "DG6"), (2, u "DG7"), (2, u "DG8"), (2, u "DG9"), (2, u "DG10"), (2, u "DG11"), (2, u "DG12"), (2, u "DG13"), (2, u "DG14"), (2, u "DG15"), (2, u "DG16"), (0, .fieldref 1 56), (0, .nameAndType 57 6), (0, u "SOD"), (2, u "$VALUES"), (0, u "[Lcom/example/wicketgate/wicketgate/core/lds/LdsFile;"), (6, .class_ 70), (1, u "java/lang/Enum"), (8, u "fileIdentifier"), (0, u "I"), (2, u "tag"), (43, u "isDataGroup"), (0, u "()Z"), (104, .class_ 234), (0, u "com/example/wicketgate/wicketgate/core/lds/ElementaryFile"), (0, u "MAX_LENGTH")] 66

def k7c0 : Code := { maxStack := 2, maxLocals := 1, code := prog_51_method_11_code, exceptionTable := #[], attributes := #[] }
def k7m0 : Method := { name := "isDataGroup", desc := "()Z", sig := { parameters := [], returnType := some .boolean }, accessFlags := 1, code := some k7c0 }
/-- com/example/wicketgate/wicketgate/core/lds/LdsFile -/
def k7 : Class := { plain "com/example/wicketgate/wicketgate/core/lds/LdsFile" (some 5) with
  accessFlags := 16433
  interfaces := #[6]
  cf := some (fileOf pool7 1 #[] #[{ accessFlags := 1, nameIndex := 127, descriptorIndex := 128, attributes := #[] }] 16433 68 #[233] #[{ accessFlags := 16409, nameIndex := 5, descriptorIndex := 6, attributes := #[] }, { accessFlags := 16409, nameIndex := 9, descriptorIndex := 6, attributes := #[] }, { accessFlags := 16409, nameIndex := 12, descriptorIndex := 6, attributes := #[] }, { accessFlags := 16409, nameIndex := 15, descriptorIndex := 6, attributes := #[] }, { accessFlags := 16409, nameIndex := 18, descriptorIndex := 6, attributes := #[] }, { accessFlags := 16409, nameIndex := 21, descriptorIndex := 6, attributes := #[] }, { accessFlags := 16409, nameIndex := 24, descriptorIndex := 6, attributes := #[] }, { accessFlags := 16409, nameIndex := 27, descriptorIndex := 6, attributes := #[] }, { accessFlags := 16409, nameIndex := 30, descriptorIndex := 6, attributes := #[] }, { accessFlags := 16409, nameIndex := 33, descriptorIndex := 6, attributes := #[] }, { accessFlags := 16409, nameIndex := 36, descriptorIndex := 6, attributes := #[] }, { accessFlags := 16409, nameIndex := 39, descriptorIndex := 6, attributes := #[] }, { accessFlags := 16409, nameIndex := 42, descriptorIndex := 6, attributes := #[] }, { accessFlags := 16409, nameIndex := 45, descriptorIndex := 6, attributes := #[] }, { accessFlags := 16409, nameIndex := 48, descriptorIndex := 6, attributes := #[] }, { accessFlags := 16409, nameIndex := 51, descriptorIndex := 6, attributes := #[] }, { accessFlags := 16409, nameIndex := 54, descriptorIndex := 6, attributes := #[] }, { accessFlags := 16409, nameIndex := 57, descriptorIndex := 6, attributes := #[] }, { accessFlags := 25, nameIndex := 235, descriptorIndex := 80, attributes := #[] }, { accessFlags := 18, nameIndex := 79, descriptorIndex := 80, attributes := #[] }, { accessFlags := 18, nameIndex := 83, descriptorIndex := 80, attributes := #[] }, { accessFlags := 4122, nameIndex := 60, descriptorIndex := 61, attributes := #[] }])
  fields := #[{ name := "COM", type := (.object "com/example/wicketgate/wicketgate/core/lds/LdsFile"), accessFlags := 16409, slot := 0, constantValue := 0 }, { name := "DG1", type := (.object "com/example/wicketgate/wicketgate/core/lds/LdsFile"), accessFlags := 16409, slot := 1, constantValue := 0 }, { name := "DG2", type := (.object "com/example/wicketgate/wicketgate/core/lds/LdsFile"), accessFlags := 16409, slot := 2, constantValue := 0 }, { name := "DG3", type := (.object "com/example/wicketgate/wicketgate/core/lds/LdsFile"), accessFlags := 16409, slot := 3, constantValue := 0 }, { name := "DG4", type := (.object "com/example/wicketgate/wicketgate/core/lds/LdsFile"), accessFlags := 16409, slot := 4, constantValue := 0 }, { name := "DG5", type := (.object "com/example/wicketgate/wicketgate/core/lds/LdsFile"), accessFlags := 16409, slot := 5, constantValue := 0 }, { name := "DG6", type := (.object "com/example/wicketgate/wicketgate/core/lds/LdsFile"), accessFlags := 16409, slot := 6, constantValue := 0 }, { name := "DG7", type := (.object "com/example/wicketgate/wicketgate/core/lds/LdsFile"), accessFlags := 16409, slot := 7, constantValue := 0 }, { name := "DG8", type := (.object "com/example/wicketgate/wicketgate/core/lds/LdsFile"), accessFlags := 16409, slot := 8, constantValue := 0 }, { name := "DG9", type := (.object "com/example/wicketgate/wicketgate/core/lds/LdsFile"), accessFlags := 16409, slot := 9, constantValue := 0 }, { name := "DG10", type := (.object "com/example/wicketgate/wicketgate/core/lds/LdsFile"), accessFlags := 16409, slot := 10, constantValue := 0 }, { name := "DG11", type := (.object "com/example/wicketgate/wicketgate/core/lds/LdsFile"), accessFlags := 16409, slot := 11, constantValue := 0 }, { name := "DG12", type := (.object "com/example/wicketgate/wicketgate/core/lds/LdsFile"), accessFlags := 16409, slot := 12, constantValue := 0 }, { name := "DG13", type := (.object "com/example/wicketgate/wicketgate/core/lds/LdsFile"), accessFlags := 16409, slot := 13, constantValue := 0 }, { name := "DG14", type := (.object "com/example/wicketgate/wicketgate/core/lds/LdsFile"), accessFlags := 16409, slot := 14, constantValue := 0 }, { name := "DG15", type := (.object "com/example/wicketgate/wicketgate/core/lds/LdsFile"), accessFlags := 16409, slot := 15, constantValue := 0 }, { name := "DG16", type := (.object "com/example/wicketgate/wicketgate/core/lds/LdsFile"), accessFlags := 16409, slot := 16, constantValue := 0 }, { name := "SOD", type := (.object "com/example/wicketgate/wicketgate/core/lds/LdsFile"), accessFlags := 16409, slot := 17, constantValue := 0 }, { name := "MAX_LENGTH", type := .int, accessFlags := 25, slot := 18, constantValue := 0 }, { name := "fileIdentifier", type := .int, accessFlags := 18, slot := 3, constantValue := 0 }, { name := "tag", type := .int, accessFlags := 18, slot := 4, constantValue := 0 }, { name := "$VALUES", type := (.array (.object "com/example/wicketgate/wicketgate/core/lds/LdsFile")), accessFlags := 4122, slot := 19, constantValue := 0 }]
  methods := #[k7m0]
  instanceTypes := #[(.object "java/lang/String"), .int, .int, .int, .int]
  staticTypes := #[(.object "com/example/wicketgate/wicketgate/core/lds/LdsFile"), (.object "com/example/wicketgate/wicketgate/core/lds/LdsFile"), (.object "com/example/wicketgate/wicketgate/core/lds/LdsFile"), (.object "com/example/wicketgate/wicketgate/core/lds/LdsFile"), (.object "com/example/wicketgate/wicketgate/core/lds/LdsFile"), (.object "com/example/wicketgate/wicketgate/core/lds/LdsFile"), (.object "com/example/wicketgate/wicketgate/core/lds/LdsFile"), (.object "com/example/wicketgate/wicketgate/core/lds/LdsFile"), (.object "com/example/wicketgate/wicketgate/core/lds/LdsFile"), (.object "com/example/wicketgate/wicketgate/core/lds/LdsFile"), (.object "com/example/wicketgate/wicketgate/core/lds/LdsFile"), (.object "com/example/wicketgate/wicketgate/core/lds/LdsFile"), (.object "com/example/wicketgate/wicketgate/core/lds/LdsFile"), (.object "com/example/wicketgate/wicketgate/core/lds/LdsFile"), (.object "com/example/wicketgate/wicketgate/core/lds/LdsFile"), (.object "com/example/wicketgate/wicketgate/core/lds/LdsFile"), (.object "com/example/wicketgate/wicketgate/core/lds/LdsFile"), (.object "com/example/wicketgate/wicketgate/core/lds/LdsFile"), .int, (.array (.object "com/example/wicketgate/wicketgate/core/lds/LdsFile"))]
  resolved := Array.replicate 302 none
  statics := some 0 }

def pool8 : Array CpInfo := pool [(1, u "java/lang/Cloneable"), (0, .class_ 1), (0, u "java/lang/Object"), (0, .class_ 3)] 3

/-- java/lang/Cloneable -/
def k8 : Class := { plain "java/lang/Cloneable" (some 0) with
  accessFlags := 1537
  interfaces := #[]
  cf := some (fileOf pool8 2 #[] #[] 1537 4 #[] #[])
  fields := #[]
  methods := #[]
  instanceTypes := #[]
  staticTypes := #[]
  resolved := Array.replicate 8 none
  statics := none }

/-- the primitive byte -/
def k9 : Class := { plain "byte" none with kind := .primitive 'B', accessFlags := 0x411 }
/-- [B -/
def k10 : Class := { plain "[B" (some 0) with kind := .array 9 .byte, interfaces := #[8, 4], accessFlags := 1041 }

/-- the primitive int -/
def k11 : Class := { plain "int" none with kind := .primitive 'I', accessFlags := 0x411 }
/-- [I -/
def k12 : Class := { plain "[I" (some 0) with kind := .array 11 .int, interfaces := #[8, 4], accessFlags := 1041 }

def heap : Heap := #[{ cls := 7, slots := #[.ref 1, .ref 2, .ref 3, .ref 4, .ref 5, .ref 6, .ref 7, .ref 8, .ref 9, .ref 10, .ref 11, .ref 12, .ref 13, .ref 14, .ref 15, .ref 16, .ref 17, .ref 18, .int 0, .null], vm := .statics 7 },
  { cls := 7, slots := #[.null, .int 0, .int 0, .int 0, .int 0], vm := .none },
  { cls := 7, slots := #[.null, .int 1, .int 0, .int 0, .int 0], vm := .none },
  { cls := 7, slots := #[.null, .int 2, .int 0, .int 0, .int 0], vm := .none },
  { cls := 7, slots := #[.null, .int 3, .int 0, .int 0, .int 0], vm := .none },
  { cls := 7, slots := #[.null, .int 4, .int 0, .int 0, .int 0], vm := .none },
  { cls := 7, slots := #[.null, .int 5, .int 0, .int 0, .int 0], vm := .none },
  { cls := 7, slots := #[.null, .int 6, .int 0, .int 0, .int 0], vm := .none },
  { cls := 7, slots := #[.null, .int 7, .int 0, .int 0, .int 0], vm := .none },
  { cls := 7, slots := #[.null, .int 8, .int 0, .int 0, .int 0], vm := .none },
  { cls := 7, slots := #[.null, .int 9, .int 0, .int 0, .int 0], vm := .none },
  { cls := 7, slots := #[.null, .int 10, .int 0, .int 0, .int 0], vm := .none },
  { cls := 7, slots := #[.null, .int 11, .int 0, .int 0, .int 0], vm := .none },
  { cls := 7, slots := #[.null, .int 12, .int 0, .int 0, .int 0], vm := .none },
  { cls := 7, slots := #[.null, .int 13, .int 0, .int 0, .int 0], vm := .none },
  { cls := 7, slots := #[.null, .int 14, .int 0, .int 0, .int 0], vm := .none },
  { cls := 7, slots := #[.null, .int 15, .int 0, .int 0, .int 0], vm := .none },
  { cls := 7, slots := #[.null, .int 16, .int 0, .int 0, .int 0], vm := .none },
  { cls := 7, slots := #[.null, .int 17, .int 0, .int 0, .int 0], vm := .none }]
def classes : Array Class := #[k0, k1, k2, k3, k4, k5, k6, k7, k8, k9, k10, k11, k12]
def interned : List (Array UInt16 × Addr) := []
def slotsUsed : Nat := 110
def theMethod : MethodId := ⟨1, 2⟩
def args0 : Array Value := #[.int 3]
def aboutOver (below : List Frame) : State where
  vm := { classes := classes, interned := interned.toArray }
  heap := heap
  slotsUsed := slotsUsed
  threads := #[{ frames := .invoking theMethod args0 :: below }]
def below0 : List Frame := [.native { method := ⟨0, 0⟩, args := #[] }]
def about1 : State := aboutOver below0
def p0 : Program := .bare "" "" ""
def e0 : Env := launch0.env 0 0 0
theorem w_frames : about1.frames = Frame.invoking theMethod args0 :: below0 := rfl
set_option maxRecDepth 65536 in
theorem w_args : argsFit about1.vm theMethod args0 = true := by decide +kernel
set_option maxRecDepth 65536 in
theorem w_heap : heapFits about1 = true := by decide +kernel
set_option maxRecDepth 65536 in
theorem w_runnable : about1.curStatus? = some .runnable := by decide +kernel
set_option maxRecDepth 65536 in
theorem w_alone : about1.alone = true := by decide +kernel
set_option maxRecDepth 65536 in
theorem w_named : about1.methodNamed? x = some theMethod := by decide +kernel
set_option maxRecDepth 65536 in
theorem w_hears : about1.hears theMethod below0 = true := by decide +kernel
set_option maxRecDepth 65536 in
theorem w_ripe : about1.ripe theMethod args0 below0 = true := by decide +kernel
theorem w_running : about1.status = .running := rfl
set_option maxRecDepth 65536 in
theorem w_room : about1.hasRoom e0.platform room_1 = true :=
  launch0.hasRoom_least _ room_1 (by decide +kernel) (by decide +kernel) (by decide +kernel) (by decide +kernel) (by decide +kernel) (by decide +kernel)
theorem allAtoms_all (ts : List Jvm.Cond) (a : Array Jvm.Value) (st : Jvm.State) : (allAtoms ts).before a st = ts.all (fun c => c.before a st) := by
  induction ts with
  | nil => rfl
  | cons c t ih =>
    show (Jvm.Cond.and c (allAtoms t)).before a st = _
    rw [Jvm.Cond.before_and, ih, List.all_cons]
def words1 : List Jvm.Cond := Jvm.Cond.code x code maxLocals ret :: tables_1
/-- a 'code' word, met by the world's own term for the bytes: nothing is compared byte by byte -/
theorem code_word {y : MethodName} {bytes : ByteArray} {mx : Nat} {rt : Option FieldType} {a : Array Value} {s : State} {m : MethodId} {meth : Method} {c : Code} (h1 : s.methodNamed? y = some m) (h2 : s.vm.method? m = some meth) (h3 : meth.code = some c) (h4 : c.code = bytes)
    (h5 : (c.maxLocals == mx && c.exceptionTable.isEmpty && decide (c.maxStack ≤ mostOperands) && decide (meth.sig.returnType = rt) && !meth.locks && decide (parseMethodDescriptor y.desc = some meth.sig)) = true) : (Jvm.Cond.code y bytes mx rt).before a s = true := by
  simp only [Bool.and_eq_true, beq_iff_eq, Bool.not_eq_true', decide_eq_true_eq] at h5
  obtain ⟨⟨⟨⟨⟨g1, g2⟩, g3⟩, g4⟩, g5⟩, g6⟩ := h5
  simp [Cond.before, Cond.holds, Cond.value, h1, h2, h3, h4, g1, g2, g3, g4, g5, g6]
def isCode : Jvm.Cond → Bool
  | .code _ _ _ _ => true
  | _ => false
theorem all_split {L : List Jvm.Cond} {P : Jvm.Cond → Bool} (h1 : L.all (fun c => isCode c || P c) = true) (h2 : ∀ c ∈ L.filter isCode, P c = true) : L.all P = true := by
  refine List.all_eq_true.mpr fun c hc => ?_
  have h := List.all_eq_true.mp h1 c hc
  rcases Bool.eq_false_or_eq_true (isCode c) with hi | hi
  · exact h2 c (List.mem_filter.mpr ⟨hc, hi⟩)
  · simpa [hi] using h
set_option maxRecDepth 65536 in
theorem w_c0 : (Jvm.Cond.code x code maxLocals ret).before args0 about1 = true := code_word (m := ⟨1, 2⟩) (meth := k1m2) (c := k1c2) (by decide +kernel) rfl rfl rfl (by decide +kernel)
set_option maxRecDepth 65536 in
theorem w_c1 : (Jvm.Cond.code ({ cls := "com/example/wicketgate/wicketgate/core/lds/LdsFileIsDataGroupPinLaw", name := "pick", desc := "(I)Lcom/example/wicketgate/wicketgate/core/lds/LdsFile;" } : Jvm.MethodName) method_2_code (1 : Nat) (Option.some (Jvm.ClassFile.FieldType.object "com/example/wicketgate/wicketgate/core/lds/LdsFile"))).before args0 about1 = true := code_word (m := ⟨1, 1⟩) (meth := k1m1) (c := k1c1) (by decide +kernel) rfl rfl rfl (by decide +kernel)
set_option maxRecDepth 65536 in
theorem w_c2 : (Jvm.Cond.code ({ cls := "com/example/wicketgate/wicketgate/core/lds/LdsFile", name := "isDataGroup", desc := "()Z" } : Jvm.MethodName) prog_51_method_11_code (1 : Nat) (Option.some Jvm.ClassFile.FieldType.boolean)).before args0 about1 = true := code_word (m := ⟨7, 0⟩) (meth := k7m0) (c := k7c0) (by decide +kernel) rfl rfl rfl (by decide +kernel)
def codes1 : List Jvm.Cond := [Jvm.Cond.code x code maxLocals ret, Jvm.Cond.code ({ cls := "com/example/wicketgate/wicketgate/core/lds/LdsFileIsDataGroupPinLaw", name := "pick", desc := "(I)Lcom/example/wicketgate/wicketgate/core/lds/LdsFile;" } : Jvm.MethodName) method_2_code (1 : Nat) (Option.some (Jvm.ClassFile.FieldType.object "com/example/wicketgate/wicketgate/core/lds/LdsFile")), Jvm.Cond.code ({ cls := "com/example/wicketgate/wicketgate/core/lds/LdsFile", name := "isDataGroup", desc := "()Z" } : Jvm.MethodName) prog_51_method_11_code (1 : Nat) (Option.some Jvm.ClassFile.FieldType.boolean)]
set_option maxRecDepth 65536 in
theorem codes_eq : words1.filter isCode = codes1 := rfl
theorem w_codes : ∀ c ∈ words1.filter isCode, c.before args0 about1 = true := by
  rw [codes_eq]
  intro c hc
  simp only [codes1, List.mem_cons, List.not_mem_nil, or_false] at hc
  rcases hc with rfl | rfl | rfl
  · exact w_c0
  · exact w_c1
  · exact w_c2
set_option maxRecDepth 65536 in
theorem w_t1 : (words1.take 24).all (fun c => isCode c || c.before args0 about1) = true := by decide +kernel
set_option maxRecDepth 65536 in
theorem w_t2 : ((words1.drop 24).take 24).all (fun c => isCode c || c.before args0 about1) = true := by decide +kernel
set_option maxRecDepth 65536 in
theorem w_t3 : ((words1.drop 24).drop 24).all (fun c => isCode c || c.before args0 about1) = true := by decide +kernel
theorem w_tables : (allAtoms (Jvm.Cond.code x code maxLocals ret :: tables_1)).before args0 about1 = true := by
  rw [allAtoms_all]
  show words1.all (fun c => c.before args0 about1) = true
  refine all_split ?_ w_codes
  rw [← List.take_append_drop 24 words1, List.all_append, w_t1, ← List.take_append_drop 24 (words1.drop 24), List.all_append, w_t2, w_t3]
  rfl
set_option maxRecDepth 65536 in
theorem w_case : (Jvm.Cond.and given_1 narrow_1).before args0 about1 = true := by decide +kernel
theorem w_applies : (headSpec (Jvm.Cond.code x code maxLocals ret :: tables_1) room_1).applies x e0.platform about1 = true :=
  (Spec.applies_iff w_frames).mpr ⟨w_running, w_runnable, w_alone, w_named, w_hears, w_ripe, w_room, w_tables⟩
theorem atStart : AtStart classFile x code maxLocals ret World_1 tables_1 room_1 Calls_1 rest_1 Pre_1 launch0 p0 e0 about1 theMethod args0 below0 :=
  ⟨lists_1, trivial, launch0.admits_env _ _ _, launch0.least_env, fairChoices_fair.cas, fairChoices_fair.clock, w_frames, w_args, w_heap, w_applies, trivial, trivial, w_case⟩
end start1
theorem witness_1 : WitnessClaimed_1 := ⟨start1.p0, start1.e0, start1.about1, start1.theMethod, start1.args0, start1.below0, start1.atStart⟩
end Jvm.Pilot.@@N@@
