import JvmDerived
import JvmDerived.Pilot.@@N@@Statement
import JvmDerived.Pilot.@@N@@Code
set_option linter.unusedVariables false
set_option linter.unusedSimpArgs false
@@BLOCK:NumsL.lean.txt@@

namespace Jvm.OwnKit
open Sem ClassFile Op Lib Jvm.Stand Jvm.Free Jvm.LawKit Jvm.RoadKit
section Own
variable {p : Program} {l : Launch} {e : Env} {R : Room} {s : State} {m : MethodId} {args : Array Value} {below : List Frame} {meth : Method} {c : Code} {T : State} {locs : List Loc} {cells slots : Nat} {Q : Option Value → Heap → List Loc → Prop} {C S : Nat}
/-- what a body owes from a state on -/
def Fin (p : Program) (e : Env) (below : List Frame) (s : State) (Q : Option Value → Heap → List Loc → Prop) (C S : Nat) (st : State) : Prop :=
  ∃ s₂ o, Steps p.tables e below st s₂ ∧ s₂.status = .running ∧ Ended s₂ below o ∧ ∃ v L, o = .returned v ∧ Q v s₂.heap L ∧ FrameEnd s o s₂ L C S
theorem Fin.step {st st' : State} (h : ∀ t, Steps p.tables e below st' t → Steps p.tables e below st t) (k : Fin p e below s Q C S st') : Fin p e below s Q C S st := by
  obtain ⟨s₂, o, h1, h2⟩ := k
  exact ⟨s₂, o, h _ h1, h2⟩
theorem Fin.ret (X : Stand p l e R s m args below meth c T locs cells slots) {v : Option Value} {g : JFrame} (hv : meth.sig.returnType = none → v = none) (hlocks : meth.locks = false)
    (hst : ∀ fs, (∀ (f : JFrame) (acts : List Action), f.method = m → f.locked = none → f.entered = [] → (doReturn e (T.setTop f) acts v).1 = T.setFrames fs) → Steps p.tables e below (T.setTop g) (T.setFrames fs))
    (hC : cells ≤ C) (hS : slots ≤ S) (q : Q v T.heap locs) : Fin p e below s Q C S (T.setTop g) := by
  obtain ⟨fs, hr, hrun, hended, hW, hsame⟩ := X.leave (v := v) hv hlocks
  exact ⟨_, _, hst fs hr, hrun, hended, _, _, rfl, q, ⟨_, rfl⟩, hW, hsame.mono hC hS⟩
theorem Fin.retI (X : Stand p l e R s m args below meth c T locs cells slots) (hx : p.tables.exec = Jvm.exec) {pc : Nat} {Ls : Array Slot} {z : Int32} {rest : List Value} (hret : meth.sig.returnType = some .int) (hlocks : meth.locks = false) (hd : decode c.code pc = .ok (.ireturn, 1))
    (hC : cells ≤ C) (hS : slots ≤ S) (q : Q (some (.int z)) T.heap locs) : Fin p e below s Q C S (T.setTop (mkF m pc Ls (.int z :: rest))) :=
  Fin.ret X (fun h => by rw [hret] at h; cases h) hlocks (fun fs hl => retOut X hx hret rfl (Or.inl ⟨rfl, Or.inl rfl, z, rfl⟩) hd hl) hC hS q
theorem Fin.retJ (X : Stand p l e R s m args below meth c T locs cells slots) (hx : p.tables.exec = Jvm.exec) {pc : Nat} {Ls : Array Slot} {z : Int64} {rest : List Value} (hret : meth.sig.returnType = some .long) (hlocks : meth.locks = false) (hd : decode c.code pc = .ok (.lreturn, 1))
    (hC : cells ≤ C) (hS : slots ≤ S) (q : Q (some (.long z)) T.heap locs) : Fin p e below s Q C S (T.setTop (mkF m pc Ls (.long z :: rest))) :=
  Fin.ret X (fun h => by rw [hret] at h; cases h) hlocks (fun fs hl => retOut X hx hret rfl (Or.inr (Or.inl ⟨rfl, rfl, z, rfl⟩)) hd hl) hC hS q
theorem Fin.retD (X : Stand p l e R s m args below meth c T locs cells slots) (hx : p.tables.exec = Jvm.exec) {pc : Nat} {Ls : Array Slot} {z : UInt64} {rest : List Value} (hret : meth.sig.returnType = some .double) (hlocks : meth.locks = false) (hd : decode c.code pc = .ok (.dreturn, 1))
    (hC : cells ≤ C) (hS : slots ≤ S) (q : Q (some (.double z)) T.heap locs) : Fin p e below s Q C S (T.setTop (mkF m pc Ls (.double z :: rest))) :=
  Fin.ret X (fun h => by rw [hret] at h; cases h) hlocks (fun fs hl => retOut X hx hret rfl (Or.inr (Or.inr (Or.inl ⟨rfl, rfl, z, rfl⟩))) hd hl) hC hS q
theorem Fin.retR (X : Stand p l e R s m args below meth c T locs cells slots) (hx : p.tables.exec = Jvm.exec) {pc : Nat} {Ls : Array Slot} {w : Value} {t : FieldType} {rest : List Value} (hret : meth.sig.returnType = some t) (ht : t.isReference = true) (hw : w.isRef = true) (hlocks : meth.locks = false) (hd : decode c.code pc = .ok (.areturn, 1))
    (hC : cells ≤ C) (hS : slots ≤ S) (q : Q (some w) T.heap locs) : Fin p e below s Q C S (T.setTop (mkF m pc Ls (w :: rest))) :=
  Fin.ret X (fun h => by rw [hret] at h; cases h) hlocks (fun fs hl => retOut X hx hret (by cases t <;> simp [FieldType.isReference] at ht <;> cases w <;> simp [Value.isRef] at hw <;> rfl) (Or.inr (Or.inr (Or.inr (Or.inr ⟨rfl, ht, hw⟩)))) hd hl) hC hS q
theorem Fin.retN (X : Stand p l e R s m args below meth c T locs cells slots) (hx : p.tables.exec = Jvm.exec) {pc : Nat} {Ls : Array Slot} {z : Int32} {t : FieldType} {rest : List Value} (hret : meth.sig.returnType = some t) (ht : t = .boolean ∨ t = .byte ∨ t = .char ∨ t = .short) (hlocks : meth.locks = false) (hd : decode c.code pc = .ok (.ireturn, 1))
    (hC : cells ≤ C) (hS : slots ≤ S) (q : Q (some (.int (nar t z))) T.heap locs) : Fin p e below s Q C S (T.setTop (mkF m pc Ls (.int z :: rest))) :=
  Fin.ret X (fun h => by rw [hret] at h; cases h) hlocks (fun fs hl => RoadKit.retN X hx hret ht hd hl) hC hS q
theorem Fin.retV (X : Stand p l e R s m args below meth c T locs cells slots) (hx : p.tables.exec = Jvm.exec) {pc : Nat} {Ls : Array Slot} (hret : meth.sig.returnType = none) (hlocks : meth.locks = false) (hd : decode c.code pc = .ok (.return_, 1))
    (hC : cells ≤ C) (hS : slots ≤ S) (q : Q none T.heap locs) : Fin p e below s Q C S (T.setTop (mkF m pc Ls [])) :=
  Fin.ret X (fun _ => rfl) hlocks (fun fs hl => X.returnOut hx hret hd hl) hC hS q
/-- the same where the walk may intern: the end's frame is ReturnedEndW -/
def FinW (p : Program) (e : Env) (below : List Frame) (s : State) (Q : Option Value → Heap → List Loc → Prop) (C S : Nat) (st : State) : Prop :=
  ∃ s₂ o, Steps p.tables e below st s₂ ∧ s₂.status = .running ∧ Ended s₂ below o ∧ ∃ v L, o = .returned v ∧ Q v s₂.heap L ∧ ReturnedEndW s o s₂ L C S
theorem FinW.step {st st' : State} (h : ∀ t, Steps p.tables e below st' t → Steps p.tables e below st t) (k : FinW p e below s Q C S st') : FinW p e below s Q C S st := by
  obtain ⟨s₂, o, h1, h2⟩ := k
  exact ⟨s₂, o, h _ h1, h2⟩
theorem FinW.ret {vm₁ : Vm} (X : Stand p l e R (s.setVm vm₁) m args below meth c T locs cells slots) {n : Nat} (hS : s.Since vm₁ n) (hn : n ≤ T.heap.size) {v : Option Value} {g : JFrame} (hv : meth.sig.returnType = none → v = none) (hlocks : meth.locks = false)
    (hst : ∀ fs, (∀ (f : JFrame) (acts : List Action), f.method = m → f.locked = none → f.entered = [] → (doReturn e (T.setTop f) acts v).1 = T.setFrames fs) → Steps p.tables e below (T.setTop g) (T.setFrames fs))
    (hC : cells ≤ C) (hS' : slots ≤ S) (q : Q v T.heap locs) : FinW p e below s Q C S (T.setTop g) := by
  obtain ⟨fs, hr, hrun, hended, hW⟩ := X.leaveW hS hn (v := v) hv hlocks
  exact ⟨_, _, hst fs hr, hrun, hended, _, _, rfl, q, hW.1, hW.2.1, hW.2.2.1, hW.2.2.2.mono hC hS'⟩
theorem FinW.retN {vm₁ : Vm} (X : Stand p l e R (s.setVm vm₁) m args below meth c T locs cells slots) {n : Nat} (hS : s.Since vm₁ n) (hn : n ≤ T.heap.size) (hx : p.tables.exec = Jvm.exec) {pc : Nat} {Ls : Array Slot} {z : Int32} {t : FieldType} {rest : List Value} (hret : meth.sig.returnType = some t) (ht : t = .boolean ∨ t = .byte ∨ t = .char ∨ t = .short) (hlocks : meth.locks = false) (hd : decode c.code pc = .ok (.ireturn, 1))
    (hC : cells ≤ C) (hS' : slots ≤ S) (q : Q (some (.int (nar t z))) T.heap locs) : FinW p e below s Q C S (T.setTop (mkF m pc Ls (.int z :: rest))) :=
  FinW.ret X hS hn (fun h => by rw [hret] at h; cases h) hlocks (fun fs hl => RoadKit.retN X hx hret ht hd hl) hC hS' q
theorem FinW.retR {vm₁ : Vm} (X : Stand p l e R (s.setVm vm₁) m args below meth c T locs cells slots) {n : Nat} (hS : s.Since vm₁ n) (hn : n ≤ T.heap.size) (hx : p.tables.exec = Jvm.exec) {pc : Nat} {Ls : Array Slot} {w : Value} {t : FieldType} {rest : List Value} (hret : meth.sig.returnType = some t) (ht : t.isReference = true) (hw : w.isRef = true) (hlocks : meth.locks = false) (hd : decode c.code pc = .ok (.areturn, 1))
    (hC : cells ≤ C) (hS' : slots ≤ S) (q : Q (some w) T.heap locs) : FinW p e below s Q C S (T.setTop (mkF m pc Ls (w :: rest))) :=
  FinW.ret X hS hn (fun h => by rw [hret] at h; cases h) hlocks (fun fs hl => retOut X hx hret (by cases t <;> simp [FieldType.isReference] at ht <;> cases w <;> simp [Value.isRef] at hw <;> rfl) (Or.inr (Or.inr (Or.inr (Or.inr ⟨rfl, ht, hw⟩)))) hd hl) hC hS' q
theorem recast {locs' : List Loc} {cells' slots' : Nat} (X : Stand p l e R s m args below meth c T locs cells slots) (h1 : locs = locs') (h2 : cells = cells') (h3 : slots = slots') : Stand p l e R s m args below meth c T locs' cells' slots' := by
  subst h1 h2 h3; exact X
theorem Fld.cast {Z : State} {h : Heap} {a : Addr} {C n d : String} {v w : Value} (F : Fld Z h a C n d v) (e : v = w) : Fld Z h a C n d w := e ▸ F
theorem Sta_keep {Z : State} {h h' : Heap} {C n d : String} {v : Value} (F : Sta Z h C n d v) (K : Keep h h' []) : Sta Z h' C n d v := by
  obtain ⟨cf, i, k, f, st, cell, h1, h2, h3, h4, h5, r⟩ := F
  exact ⟨cf, i, k, f, st, cell, h1, h2, h3, h4, K.2.1 _ _ h5 nin0, r⟩
def Nst (h : Heap) (a : Addr) : Prop := ∃ c : Cell, h[a]? = some c ∧ c.vm.isStatics = false
theorem Nst.lt {h : Heap} {a : Addr} (F : Nst h a) : a < h.size := by obtain ⟨c, h1, -⟩ := F; exact (Array.getElem?_eq_some_iff.mp h1).1
theorem Nst.ext {h h' : Heap} {a : Addr} (F : Nst h a) (E : Ext h h') : Nst h' a := by obtain ⟨c, h1, h2⟩ := F; exact ⟨c, E.2 _ _ h1, h2⟩
theorem Nst.wr {h h' : Heap} {a b : Addr} {sl : Nat} {v : Value} (F : Nst h a) (W : Wr h h' b sl v) : Nst h' a := by
  obtain ⟨c, h1, h2⟩ := F
  obtain ⟨d, a1, -, a3, -⟩ := wr_at W h1
  exact ⟨d, a1, by rw [a3]; exact h2⟩
theorem Nst.keep {h h' : Heap} {a : Addr} {ws : List Addr} (F : Nst h a) (K : Keep h h' ws) : Nst h' a := by
  obtain ⟨c, h1, h2⟩ := F
  obtain ⟨d, q, -, r2, -⟩ := K.2.2 _ _ h1
  exact ⟨d, q, by rw [r2]; exact h2⟩
theorem nsE {Z : State} {h : Heap} {a : Addr} {C : String} (F : Exa Z h a C) : Nst h a := by
  obtain ⟨cell, k, h1, -, -, h4, -⟩ := F; exact ⟨cell, h1, h4⟩
theorem nsV {Z : State} {h : Heap} {a : Addr} {k : ClassId} {ty : FieldType} {n : Int32} {vs : List Value} {d : Value} (F : Arv Z h a k ty n vs d) : Nst h a := by
  obtain ⟨cell, A, -⟩ := F; exact ⟨cell, A.1, A.plain⟩
theorem Sta_keepW {Z : State} {h h' : Heap} {C n d : String} {v : Value} {ws : List Addr} (F : Sta Z h C n d v) (K : Keep h h' ws) (q : ∀ x ∈ ws, Nst h x) : Sta Z h' C n d v := by
  obtain ⟨cf, i, k, f, st, cell, h1, h2, h3, h4, h5, h6, r⟩ := F
  refine ⟨cf, i, k, f, st, cell, h1, h2, h3, h4, K.2.1 _ _ h5 fun hm => ?_, h6, r⟩
  obtain ⟨c, q1, q2⟩ := q _ hm
  cases h5.symm.trans q1
  rw [h6] at q2; cases q2
theorem Arr_keep {Z : State} {h h' : Heap} {a : Addr} {c : Cell} {ty : FieldType} (F : Arr Z h a c ty) (K : Keep h h' []) : Arr Z h' a c ty := ⟨K.2.1 _ _ F.1 nin0, F.2⟩
/-- the shifts without sign -/
def ushL (x : Int64) (k : Int32) : Int64 := (x.toUInt64 >>> (k &&& 0x3f).toInt64.toUInt64).toInt64
def ushI (x k : Int32) : Int32 := (x.toUInt32 >>> (k &&& 31).toUInt32).toInt32
theorem lcE {x y : Int64} (h : x = y) : lcmpW x y = 0 := by rw [lcW]; exact (lc_eq x y).mpr h
theorem lcNE {x y : Int64} (h : ¬ x = y) : ¬ lcmpW x y = 0 := fun q => h ((lc_eq x y).mp (by rw [← lcW]; exact q))
theorem lcL {x y : Int64} (h : x < y) : lcmpW x y < 0 := by rw [lcW]; exact (lc_lt x y).mpr h
theorem lcNL {x y : Int64} (h : ¬ x < y) : ¬ lcmpW x y < 0 := fun q => h ((lc_lt x y).mp (by rw [← lcW]; exact q))
theorem lcG {x y : Int64} (h : y < x) : 0 < lcmpW x y := by rw [lcW]; exact (lc_gt x y).mpr h
theorem lcNG {x y : Int64} (h : ¬ y < x) : ¬ 0 < lcmpW x y := fun q => h ((lc_gt x y).mp (by rw [← lcW]; exact q))
end Own
end Jvm.OwnKit
namespace Jvm.OwnKit
open Sem ClassFile Op Lib Jvm.Stand Jvm.Free Jvm.LawKit Jvm.RoadKit
section Hot
variable {p : Program} {l : Launch} {e : Env} {R : Room} {s : State} {m : MethodId} {args : Array Value} {below : List Frame} {meth : Method} {c : Code} {T : State} {locs : List Loc} {cells slots : Nat} {Z : State} {a0 : Array Value} {h : Heap}
/-- getfield at a resolved entry -/
theorem getHot (X : Stand p l e R s m args below meth c T locs cells slots) (hx : p.tables.exec = Jvm.exec) (hZ : Z.Warmed39 s.vm) {own C n d : String} {index : Nat} (hown : s.vm.findClass own = some m.cls) (w : (Cond.fieldRef own index C n d).before a0 Z = true)
    (eT : T.heap = h) {a : Addr} {v : Value} (F : Fld Z h a C n d v) {g : JFrame} (hg : g.method = m) {rest : List Value} (hs : g.stack = .ref a :: rest) (hd : decode c.code g.pc = .ok (.getfield index, 3)) :
    ∀ target, Steps p.tables e below (T.setTop { g with pc := g.pc + 3, stack := v :: rest }) target → Steps p.tables e below (T.setTop g) target := by
  obtain ⟨cell, cf, k, i, f, h1, h2, h3, h4, -, -, h7⟩ := F
  have hT := wtrans hZ X.warmed
  have wU : (Cond.fieldRef own index C n d).before a0 (Z.setVm T.vm) = true := Cond.fieldRef_warmed39 hT w
  obtain ⟨k', hi, -⟩ := State.fieldFound?_setVm (s := Z) hT.alike h2
  obtain ⟨c2, k2, i2, f2, q1, q2⟩ := Cond.fieldRef_spec (cur := m.cls) (by show T.vm.findClass own = _; rw [X.warmed.alike.findClass]; exact hown) wU
  cases hi.symm.trans q1
  intro target k0
  exact (getfieldR X hx hg q2 h3 hs (by rw [eT]; exact h1) h4 h7 hd (Steps.refl _)).trans k0
theorem hotEntry (e : Env) (hT : Z.Warmed39 T.vm) {own : String} {index cur : Nat} {y : MethodName} (hcur : T.vm.findClass own = some cur) (w : (Cond.methodRef own index y).before a0 Z = true) {mk : MethodId} (hn : Z.methodNamed? y = some mk)
    (hy : y.cls ≠ "java/lang/invoke/MethodHandle" ∧ y.cls ≠ "java/lang/invoke/VarHandle") : T.vm.methodReady cur index mk ∧ namesResolved T.vm cur index mk.cls := by
  have wU : (Cond.methodRef own index y).before a0 (Z.setVm T.vm) = true := Cond.methodRef_warmed39 hT hn hy w
  have hnU : (Z.setVm T.vm).methodNamed? y = some mk := by rw [State.methodNamed?_setVm hT.alike]; exact hn
  have hcU : (Z.setVm T.vm).vm.findClass own = some cur := hcur
  obtain ⟨m2, c2, ci, b, q1, q2, q3, q4, q5⟩ := Cond.methodRef_spec (e := e) hcU wU
  cases (State.methodFound?_of_named hnU hy).symm.trans q1
  have e3 : c2 = mk.cls := Option.some.inj (q3.symm.trans (findClass_of_methodNamed hnU))
  subst e3
  refine ⟨q2, ?_⟩
  simp only [Cond.before, Cond.holds, Cond.value, hcU, q1, beq_iff_eq, Option.some.injEq, Bool.and_eq_true, decide_eq_true_eq] at wU
  obtain ⟨⟨hnames, -⟩, -⟩ := wU
  obtain ⟨cp, hcp, hnm⟩ := State.names_spec hnames
  obtain ⟨ci', nt, hentry, hnt, -⟩ := namesOf?_method hnm
  obtain ⟨k, cf, hk, hcf, rfl⟩ := State.poolOf?_spec hcU hcp
  obtain ⟨b', hask⟩ := memberRef_ask' (e := e) hk hcf hentry hnt
  cases q4.symm.trans hask
  exact ⟨k, cf, ci, nt, hk, hcf, hentry, q5⟩
/-- invokespecial of a constructor at a resolved entry -/
theorem specialHot (X : Stand p l e R s m args below meth c T locs cells slots) (hx : p.tables.exec = Jvm.exec) (hZ : Z.Warmed39 s.vm) {own : String} {index : Nat} {y : MethodName} (hy1 : y.name = "<init>")
    (hown : s.vm.findClass own = some m.cls) (w : (Cond.methodRef own index y).before a0 Z = true) (hinst : (Cond.instanceMethod y).before a0 Z = true) {bytes : ByteArray} {maxL : Nat} (hcode : (Cond.code y bytes maxL none).before a0 Z = true)
    (hy : y.cls ≠ "java/lang/invoke/MethodHandle" ∧ y.cls ≠ "java/lang/invoke/VarHandle") {W : Nat} {Pre : Pt → Array Value → Prop} {Post : Pt → Array Value → Option Value → Pt → Prop} (hK : Back l R p e below s args y 3 W Pre Post)
    {g : JFrame} (hg : g.method = m) (hsize : g.locals.size = c.maxLocals) {s₀ : State} (hcome : Steps p.tables e below s₀ (T.setTop g)) {a : Addr} {argsL rest : List Value}
    (hlen : ∀ sig, parseMethodDescriptor y.desc = some sig → argsL.length = sig.parameters.length) (hstack : g.stack = argsL.reverse ++ .ref a :: rest) (hW : 2 * g.monitorRoom + (rest.map fun v => v.category).sum ≤ W)
    (hdg : decode c.code g.pc = .ok (.invokespecial index, 3)) (hpre : ∀ vm₁, s.WarmedH vm₁ → Pre ⟨T.setVm vm₁, locs, cells, slots⟩ (.ref a :: argsL).toArray) :
    ∃ (v : Option Value) (vm₁ : Vm) (B : Pt), s.WarmedH vm₁ ∧ Stand p l e R s m args below meth c B.U B.locs B.cells B.slots ∧ Post ⟨T.setVm vm₁, locs, cells, slots⟩ (.ref a :: argsL).toArray v B ∧
      Steps p.tables e below s₀ (B.U.setTop { g with pc := g.pc + 3, stack := v.toList ++ rest }) := by
  have eV : T.setVm T.vm = T := rfl
  have hT := wtrans hZ X.warmed
  obtain ⟨mk, methM, hnZ, hmZ, hst, hab⟩ := Cond.instanceMethod_spec hinst
  obtain ⟨m2, cM, hm2, -, -, -, -, -, -, hsig⟩ := Cond.code_spec hnZ hcode
  cases hmZ.symm.trans hm2
  obtain ⟨hr, hnm⟩ := hotEntry e hT (cur := m.cls) (by rw [X.warmed.alike.findClass]; exact hown) w hnZ hy
  obtain ⟨kO, hkO, -⟩ := className_of_methodNamed hnZ
  obtain ⟨hnameM, hdescM⟩ := name_of_methodNamed hnZ hmZ
  obtain ⟨k2, hk2, -⟩ := hT.alike.2.2 _ _ hkO
  have hmT : T.vm.method? mk = some methM := by rw [hT.alike.method?]; exact hmZ
  have hfound : lookupSpecial T.vm mk.cls "<init>" methM.desc = .method mk := by
    rw [hT.alike.lookupSpecial, hdescM, ← hy1]; exact lookupSpecial_of_named hnZ hmZ hst
  have hns : s.methodNamed? y = some mk := by
    have q : (Z.setVm s.vm).methodNamed? y = some mk := by rw [State.methodNamed?_setVm hZ.alike]; exact hnZ
    exact q
  obtain ⟨v, B, X', hpost, hsteps⟩ := hK m meth c ⟨T, locs, cells, slots⟩ { g with stack := rest } (.invokespecial index) mk (.ref a :: argsL).toArray X hg hsize hdg hW (X.named hns) (eV ▸ hpre T.vm X.warmed)
  refine ⟨v, T.vm, B, X.warmed, X', eV.symm ▸ hpost, (hcome.trans ?_).trans hsteps⟩
  subst hg
  jvm_step X.here [hx, hdg, invokespecial.wp_init (e := e) (s := T) (k := k2) (meth := methM) (m := mk) (a := a) (args := argsL) (rest := rest) (f := g) X.here.top hnm hr hk2 hmT (by rw [hnameM]; exact hy1) hst hab hfound (hlen _ hsig) hstack]
  intro acts
  rw [doInvoke_state]
  exact Steps.refl _
/-- invokevirtual of a private method at a resolved entry -/
theorem privateHot (X : Stand p l e R s m args below meth c T locs cells slots) (hx : p.tables.exec = Jvm.exec) (hZ : Z.Warmed39 s.vm) {own : String} {index : Nat} {y : MethodName}
    (hown : s.vm.findClass own = some m.cls) (w : (Cond.methodRef own index y).before a0 Z = true) (hinst : (Cond.instanceMethod y).before a0 Z = true) (hpriv : (Cond.privateMethod y).before a0 Z = true) {ni : Nat} (hins : (Cond.instantiable y.cls ni).before a0 Z = true) {bytes : ByteArray} {maxL : Nat} {ret : Option FieldType} (hcode : (Cond.code y bytes maxL ret).before a0 Z = true)
    (hy : y.cls ≠ "java/lang/invoke/MethodHandle" ∧ y.cls ≠ "java/lang/invoke/VarHandle") {W : Nat} {Pre : Pt → Array Value → Prop} {Post : Pt → Array Value → Option Value → Pt → Prop} (hK : Back l R p e below s args y 3 W Pre Post)
    {g : JFrame} (hg : g.method = m) (hsize : g.locals.size = c.maxLocals) {s₀ : State} (hcome : Steps p.tables e below s₀ (T.setTop g)) {a : Addr} {cell : Cell} (hcell : T.heap[a]? = some cell) (hobj : ∀ q, cell.vm ≠ .statics q) {argsL rest : List Value}
    (hlen : ∀ sig, parseMethodDescriptor y.desc = some sig → argsL.length = sig.parameters.length) (hstack : g.stack = argsL.reverse ++ .ref a :: rest) (hW : 2 * g.monitorRoom + (rest.map fun v => v.category).sum ≤ W)
    (hdg : decode c.code g.pc = .ok (.invokevirtual index, 3)) (hpre : ∀ vm₁, s.WarmedH vm₁ → Pre ⟨T.setVm vm₁, locs, cells, slots⟩ (.ref a :: argsL).toArray) :
    ∃ (v : Option Value) (vm₁ : Vm) (B : Pt), s.WarmedH vm₁ ∧ Stand p l e R s m args below meth c B.U B.locs B.cells B.slots ∧ Post ⟨T.setVm vm₁, locs, cells, slots⟩ (.ref a :: argsL).toArray v B ∧
      Steps p.tables e below s₀ (B.U.setTop { g with pc := g.pc + 3, stack := v.toList ++ rest }) := by
  have eV : T.setVm T.vm = T := rfl
  have hT := wtrans hZ X.warmed
  obtain ⟨mk, methM, hnZ, hmZ, hst, hab⟩ := Cond.instanceMethod_spec hinst
  obtain ⟨m2, cM, hm2, -, -, -, -, -, -, hsig⟩ := Cond.code_spec hnZ hcode
  cases hmZ.symm.trans hm2
  obtain ⟨hr, hnm⟩ := hotEntry e hT (cur := m.cls) (by rw [X.warmed.alike.findClass]; exact hown) w hnZ hy
  obtain ⟨kO, hkO, hnO⟩ := className_of_methodNamed hnZ
  obtain ⟨c3, k3, z1, z2, -, z3, -⟩ := Cond.instantiable_spec hins
  cases z1.symm.trans (findClass_of_methodNamed hnZ)
  cases hkO.symm.trans z2
  have hni : kO.isInterface = false := by revert z3; cases kO.isInterface <;> simp
  obtain ⟨k2, hk2, he2⟩ := hT.alike.2.2 _ _ hkO
  have hni2 : k2.isInterface = false := by rw [he2]; exact hni
  have hmT : T.vm.method? mk = some methM := by rw [hT.alike.method?]; exact hmZ
  have hp : methM.isPrivate = true := Cond.privateMethod_at hpriv mk methM hnZ hmZ
  have hpoly : signaturePolymorphic k2 methM = false := by
    have : k2.name = y.cls := by rw [he2]; exact hnO
    simp [signaturePolymorphic, this, hy.1, hy.2]
  have hns : s.methodNamed? y = some mk := by
    have q : (Z.setVm s.vm).methodNamed? y = some mk := by rw [State.methodNamed?_setVm hZ.alike]; exact hnZ
    exact q
  obtain ⟨v, B, X', hpost, hsteps⟩ := hK m meth c ⟨T, locs, cells, slots⟩ { g with stack := rest } (.invokevirtual index) mk (.ref a :: argsL).toArray X hg hsize hdg hW (X.named hns) (eV ▸ hpre T.vm X.warmed)
  refine ⟨v, T.vm, B, X.warmed, X', eV.symm ▸ hpost, (hcome.trans ?_).trans hsteps⟩
  subst hg
  jvm_step X.here [hx, hdg, invokevirtual.wp_named (e := e) (s := T) (f := g) (r := mk) (m := mk) (c' := mk.cls) (k := k2) (k' := k2) (mk := k2) (rmeth := methM) (meth := methM) (a := a) (args := argsL) (rest := rest) (cell := cell)
    X.here.top hnm hk2 hni2 hr hk2 hmT hpoly hst (hlen _ hsig) hstack hcell hobj (selectMethod_private hmT hp) hmT hab hk2 hni2]
  intro acts
  rw [doInvoke_state]
  exact Steps.refl _
/-- the class of that name is no interface -/
def NI (Z : State) (C : String) : Prop := ∀ c k, Z.vm.findClass C = some c → Z.vm.classes[c]? = some k → k.isInterface = false
theorem NI.inst {C : String} {n : Nat} (w : (Cond.instantiable C n).before a0 Z = true) : NI Z C := fun c k h1 h2 => by
  obtain ⟨c3, k3, z1, z2, -, z3, -⟩ := Cond.instantiable_spec w
  cases h1.symm.trans z1
  cases h2.symm.trans z2
  revert z3; cases k.isInterface <;> simp
theorem NI.sel {C : String} {x y : MethodName} (w : (Cond.selects C x y).before a0 Z = true) : NI Z y.cls := fun c k h1 h2 => by
  obtain ⟨c2, r2, m2, -, -, q3, -, kP, hkP, hkPi⟩ := Cond.selects_spec w
  cases h1.symm.trans (findClass_of_methodNamed q3)
  cases h2.symm.trans hkP
  exact hkPi
theorem same_of {y : MethodName} (N : NI Z y.cls) (wi : (Cond.instanceMethod y).before a0 Z = true) (hy : y.cls ≠ "java/lang/invoke/MethodHandle" ∧ y.cls ≠ "java/lang/invoke/VarHandle") : (Cond.sameMethod y.cls y.cls y.name y.desc).before a0 Z = true := by
  obtain ⟨mk, methM, hnZ, hmZ, -, -⟩ := Cond.instanceMethod_spec wi
  obtain ⟨k, hk, -⟩ := className_of_methodNamed hnZ
  have hc := findClass_of_methodNamed hnZ
  simp only [Cond.before, Cond.holds, Cond.value, hc, State.methodFound?_of_named hnZ hy]
  simp [hnZ, hk, N _ _ hc hk]
theorem sel_of {y : MethodName} (N : NI Z y.cls) (wi : (Cond.instanceMethod y).before a0 Z = true) (wp : (Cond.privateMethod y).before a0 Z = true) (hy : y.cls ≠ "java/lang/invoke/MethodHandle" ∧ y.cls ≠ "java/lang/invoke/VarHandle") : (Cond.selects y.cls y y).before a0 Z = true := by
  obtain ⟨mk, methM, hnZ, hmZ, -, -⟩ := Cond.instanceMethod_spec wi
  obtain ⟨k, hk, -⟩ := className_of_methodNamed hnZ
  have hc := findClass_of_methodNamed hnZ
  exact selects_self_of_private hc hk (N _ _ hc hk) (Cond.privateMethod_at wp) wi hy
theorem nf_of {y : MethodName} (hZ : Z.Warmed39 s.vm) (N : NI Z y.cls) : NotFace s y := fun r0 h0 => by
  obtain ⟨k, hk, -⟩ := className_of_methodNamed h0
  have hc := findClass_of_methodNamed h0
  rw [hZ.alike.findClass] at hc
  obtain ⟨kZ, hkZ, -⟩ := Vm.findClass_spec hc
  obtain ⟨k', q1, q2⟩ := hZ.alike.2.2 _ _ hkZ
  cases hk.symm.trans q1
  have ni := N _ _ hc hkZ
  exact ⟨k, hk, by rw [q2]; exact ni⟩
end Hot
end Jvm.OwnKit
namespace Jvm.OwnKit
open Sem ClassFile Op Lib Jvm.Stand Jvm.Free Jvm.LawKit Jvm.RoadKit
section Terse
abbrev u_ : Slot := .unset
variable {p : Program} {l : Launch} {e : Env} {R : Room} {s : State} {m : MethodId} {args : Array Value} {below : List Frame} {meth : Method} {c : Code} {T : State} {locs : List Loc} {cells slots : Nat} {Z : State} {a0 : Array Value} {h : Heap} {Q : Option Value → Heap → List Loc → Prop} {C S : Nat}
/-- a body's contract, written short -/
abbrev Met1 (l : Launch) (y : MethodName) (bytes : ByteArray) (ml : Nat) (ret : Option FieldType) (ws : List Cond) (R : Room) (A : Array Value) (Z : State) (h0 : Heap) (Q : Option Value → Heap → List Loc → Prop) : Prop :=
  MetFree l y (head1 (Cond.code y bytes ml ret :: ws) R) (fun a U => a = A ∧ Z.Warmed39 U.vm ∧ U.heap = h0) (fun _ _ _ _ _ => True) (fun _ U o U' => ∃ v L, o = .returned v ∧ Q v U'.heap L ∧ FrameEnd U o U' L R.cells R.slots)
theorem Met1.enter {y : MethodName} {bytes : ByteArray} {ml : Nat} {ret : Option FieldType} {ws : List Cond} {A : Array Value} {h0 : Heap} (hp : plainFor y = true) {Ls : Array Slot} (ef : ∀ m, entryFrame m A ml = mkF m 0 Ls [])
    (k : ∀ (p : Program) (e : Env) (s : State) (m : MethodId) (below : List Frame) (meth : Method) (c : Code) (s₁ : State), p.tables.exec = Jvm.exec → c.code = bytes → meth.locks = false → meth.sig.returnType = ret → c.maxLocals = ml → s.vm.findClass y.cls = some m.cls → meth.name = y.name → Z.Warmed39 s.vm → Stand p l e R s m A below meth c s₁ [] 0 0 → s₁.heap = h0 → Fin p e below s Q R.cells R.slots (s₁.setTop (mkF m 0 Ls []))) :
    Met1 l y bytes ml ret ws R A Z h0 Q := by
  refine MetFree.of_bodySF hp hisR ?_
  intro p e s m args below meth c s₁ Bd hml0 hP hK
  obtain ⟨rfl, hZ, hh⟩ := hP
  obtain ⟨s₂, o, h1, h2, h3, v, L, h4, h5, h6⟩ := k p e s m below meth c s₁ Bd.exec Bd.bytes (BodyLoose.notSynchronized Bd) Bd.returns hml0 (findClass_of_methodNamed Bd.named) (name_of_methodNamed Bd.named Bd.method).1 hZ (Stand.of_body Bd) (by rw [← hh, Bd.state]; rfl)
  exact ⟨s₂, o, castTop (ef m) h1, h2, h3, v, L, h4, h5, h6⟩
theorem pack {rm : Room} {s₀ : State} {G : Option Value → JFrame}
    (hh : ∃ (v : Option Value) (vm₁ : Vm) (B : Pt), s.WarmedH vm₁ ∧ Stand p l e R s m args below meth c B.U B.locs B.cells B.slots ∧ (fun (A : Pt) (_ : Array Value) (v : Option Value) (B : Pt) => ∃ L, Q v B.U.heap L ∧ B.locs = A.locs ++ L ∧ B.cells = A.cells + rm.cells ∧ B.slots = A.slots + rm.slots) ⟨T.setVm vm₁, locs, cells, slots⟩ #[] v B ∧ Steps p.tables e below s₀ (B.U.setTop (G v))) :
    ∃ v T' L, Stand p l e R s m args below meth c T' (locs ++ L) (cells + rm.cells) (slots + rm.slots) ∧ Q v T'.heap L ∧ ∀ t, Steps p.tables e below (T'.setTop (G v)) t → Steps p.tables e below s₀ t := by
  obtain ⟨v, vm₁, ⟨T', L1, k1, n1⟩, -, X, ⟨L, hQ, h1, h2, h3⟩, st⟩ := hh
  exact ⟨v, T', L, recast X h1 h2 h3, hQ, fun _ k => st.trans k⟩
theorem packS {rm : Room} {s₀ : State} {G : Option Value → JFrame}
    (hh : ∃ (v : Option Value) (vm₁ : Vm) (B : Pt), s.WarmedH vm₁ ∧ Stand p l e R s m args below meth c B.U B.locs B.cells B.slots ∧ (fun (A : Pt) (_ : Array Value) (v : Option Value) (B : Pt) => ∃ L, Q v B.U.heap L ∧ B.locs = A.locs ++ L ∧ B.cells = A.cells + rm.cells ∧ B.slots = A.slots + rm.slots) ⟨T.setVm vm₁, locs, cells, slots⟩ #[] v B ∧ ∀ t, Steps p.tables e below (B.U.setTop (G v)) t → Steps p.tables e below s₀ t) :
    ∃ v T' L, Stand p l e R s m args below meth c T' (locs ++ L) (cells + rm.cells) (slots + rm.slots) ∧ Q v T'.heap L ∧ ∀ t, Steps p.tables e below (T'.setTop (G v)) t → Steps p.tables e below s₀ t := by
  obtain ⟨v, vm₁, ⟨T', L1, k1, n1⟩, -, X, ⟨L, hQ, h1, h2, h3⟩, st⟩ := hh
  exact ⟨v, T', L, recast X h1 h2 h3, hQ, st⟩
theorem fget (X : Stand p l e R s m args below meth c T locs cells slots) (hx : p.tables.exec = Jvm.exec) (hZ : Z.Warmed39 s.vm) {own O n d : String} {index : Nat} (hown : s.vm.findClass own = some m.cls) (w : (Cond.fieldLink own index O n d).before a0 Z = true)
    (eT : T.heap = h) {a : Addr} {v : Value} (F : Fld Z h a O n d v) {pc : Nat} {Ls : Array Slot} {rest : List Value} (hd : decode c.code pc = .ok (.getfield index, 3))
    (k : ∀ T', Stand p l e R s m args below meth c T' locs cells slots → T'.heap = h → Fin p e below s Q C S (T'.setTop (mkF m (pc + 3) Ls (v :: rest)))) : Fin p e below s Q C S (T.setTop (mkF m pc Ls (.ref a :: rest))) := by
  obtain ⟨T', X', e', st⟩ := getF X hx hZ hown (host := "") (Or.inl w) Via.refl eT F (g := mkF m pc Ls (.ref a :: rest)) rfl rfl hd
  exact Fin.step st (k T' X' e')
theorem fald (X : Stand p l e R s m args below meth c T locs cells slots) (hx : p.tables.exec = Jvm.exec) (hZ : Z.Warmed39 s.vm) (eT : T.heap = h) {a : Addr} {kk : ClassId} {ty : FieldType} {n j : Int32} {vs : List Value} {d v : Value} (F : Arv Z h a kk ty n vs d) (hty : ty.isReference = true)
    (hj : ¬ j < 0 ∧ j < n) (gp : vs.getD j.toNatClampNeg d = v) {pc : Nat} {Ls : Array Slot} {rest : List Value} (hd : decode c.code pc = .ok (.aaload, 1))
    (k : Fin p e below s Q C S (T.setTop (mkF m (pc + 1) Ls (v :: rest)))) : Fin p e below s Q C S (T.setTop (mkF m pc Ls (.int j :: .ref a :: rest))) := by
  obtain ⟨cl, Ar, qa, sa, na, ha, ga⟩ := F
  have hin := inb_of (j := j) sa hj
  exact Fin.step (X.aaload hx (j := j) (v := v) (by rw [eT]; exact Ar.1) (State.isArrayOf_alike hZ.alike Ar.2.1) hty Ar.2.2 hin (ha.at hin gp) (g := mkF m pc Ls (.int j :: .ref a :: rest)) rfl rfl hd) k
theorem cst3 (X : Stand p l e R s m args below meth c T locs cells slots) (hx : p.tables.exec = Jvm.exec) (hZ : Z.Warmed39 s.vm) (eT : T.heap = h) {a : Addr} {kk : ClassId} {n j x : Int32} {vs : List Value} {d : Value} (F : Arv Z h a kk .char n vs d) (hj : ¬ j < 0 ∧ j < n) {ix : Nat} (hix : j.toNatClampNeg = ix) (hlen : ix < vs.length)
    {n0 : Nat} {h0 : Heap} {ws : List Addr} (N : Fr n0 locs) (hz : n0 ≤ h.size) (K : Keep h0 h ws) (g0 : n0 ≤ a) (hm : a ∈ ws ∨ h0.size ≤ a) {pc : Nat} {Ls : Array Slot} {rest : List Value} (hd : decode c.code pc = .ok (.castore, 1)) :
    ∃ T' h', Stand p l e R s m args below meth c T' (locs ++ [⟨a, j.toNatClampNeg⟩]) cells slots ∧ T'.heap = h' ∧ Wr h h' a j.toNatClampNeg (.int (nar .char x)) ∧ Arv Z h' a kk .char n (vs.set ix (.int (nar .char x))) d ∧ Fr n0 (locs ++ [⟨a, j.toNatClampNeg⟩]) ∧ n0 ≤ h'.size ∧ Keep h0 h' ws ∧
      ∀ target, Steps p.tables e below (T'.setTop (mkF m (pc + 1) Ls rest)) target → Steps p.tables e below (T.setTop (mkF m pc Ls (.int x :: .int j :: .ref a :: rest))) target := by
  obtain ⟨cl, Ar, qa, sa, na, ha, ga⟩ := F
  obtain ⟨T', h', X', e', W, st⟩ := stC X hx hZ eT Ar (j := j) (x := x) (inb_of sa hj) (g := mkF m pc Ls (.int x :: .int j :: .ref a :: rest)) rfl rfl hd
  exact ⟨T', h', X', e', W, Arv.set Ar qa sa na ha ga (fits_nar_char _) W ix hix hlen, Fr.snoc X' N g0, Nat.le_trans hz (Keep.of_wr W).1, K.wr W hm, st⟩
theorem cld3 (X : Stand p l e R s m args below meth c T locs cells slots) (hx : p.tables.exec = Jvm.exec) (hZ : Z.Warmed39 s.vm) (eT : T.heap = h) {a : Addr} {kk : ClassId} {n j : Int32} {vs : List Value} {d v : Value} (F : Arv Z h a kk .char n vs d) (hj : ¬ j < 0 ∧ j < n) (gp : vs.getD j.toNatClampNeg d = v) {pc : Nat} {Ls : Array Slot} {rest : List Value} (hd : decode c.code pc = .ok (.caload, 1)) {target : State}
    (k : Steps p.tables e below (T.setTop (mkF m (pc + 1) Ls (v :: rest))) target) : Steps p.tables e below (T.setTop (mkF m pc Ls (.int j :: .ref a :: rest))) target := by
  obtain ⟨cl, Ar, qa, sa, na, ha, ga⟩ := F
  have hin := inb_of (j := j) sa hj
  exact X.caload hx (j := j) (v := v) (by rw [eT]; exact Ar.1) (State.isArrayOf_alike hZ.alike Ar.2.1) Ar.2.2 hin (ha.at hin gp) (g := mkF m pc Ls (.int j :: .ref a :: rest)) rfl rfl hd _ k
theorem ist3 (X : Stand p l e R s m args below meth c T locs cells slots) (hx : p.tables.exec = Jvm.exec) (hZ : Z.Warmed39 s.vm) (eT : T.heap = h) {a : Addr} {kk : ClassId} {n j x : Int32} {vs : List Value} {d : Value} (F : Arv Z h a kk .int n vs d) (hj : ¬ j < 0 ∧ j < n) {ix : Nat} (hix : j.toNatClampNeg = ix) (hlen : ix < vs.length)
    {n0 : Nat} {h0 : Heap} {ws : List Addr} (N : Fr n0 locs) (hz : n0 ≤ h.size) (K : Keep h0 h ws) (g0 : n0 ≤ a) (hm : a ∈ ws ∨ h0.size ≤ a) {pc : Nat} {Ls : Array Slot} {rest : List Value} (hd : decode c.code pc = .ok (.iastore, 1)) :
    ∃ T' h', Stand p l e R s m args below meth c T' (locs ++ [⟨a, j.toNatClampNeg⟩]) cells slots ∧ T'.heap = h' ∧ Wr h h' a j.toNatClampNeg (.int x) ∧ Arv Z h' a kk .int n (vs.set ix (.int x)) d ∧ Fr n0 (locs ++ [⟨a, j.toNatClampNeg⟩]) ∧ n0 ≤ h'.size ∧ Keep h0 h' ws ∧
      ∀ target, Steps p.tables e below (T'.setTop (mkF m (pc + 1) Ls rest)) target → Steps p.tables e below (T.setTop (mkF m pc Ls (.int x :: .int j :: .ref a :: rest))) target := by
  obtain ⟨cl, Ar, qa, sa, na, ha, ga⟩ := F
  obtain ⟨T', h', X', e', W, st⟩ := stI X hx hZ eT Ar (j := j) (x := x) (inb_of sa hj) (g := mkF m pc Ls (.int x :: .int j :: .ref a :: rest)) rfl rfl hd
  exact ⟨T', h', X', e', W, Arv.set Ar qa sa na ha ga rfl W ix hix hlen, Fr.snoc X' N g0, Nat.le_trans hz (Keep.of_wr W).1, K.wr W hm, st⟩
theorem ild3 (X : Stand p l e R s m args below meth c T locs cells slots) (hx : p.tables.exec = Jvm.exec) (hZ : Z.Warmed39 s.vm) (eT : T.heap = h) {a : Addr} {kk : ClassId} {n j : Int32} {vs : List Value} {d v : Value} (F : Arv Z h a kk .int n vs d) (hj : ¬ j < 0 ∧ j < n) (gp : vs.getD j.toNatClampNeg d = v) {pc : Nat} {Ls : Array Slot} {rest : List Value} (hd : decode c.code pc = .ok (.iaload, 1)) {target : State}
    (k : Steps p.tables e below (T.setTop (mkF m (pc + 1) Ls (v :: rest))) target) : Steps p.tables e below (T.setTop (mkF m pc Ls (.int j :: .ref a :: rest))) target := by
  obtain ⟨cl, Ar, qa, sa, na, ha, ga⟩ := F
  have hin := inb_of (j := j) sa hj
  exact X.iaload hx (j := j) (v := v) (by rw [eT]; exact Ar.1) (State.isArrayOf_alike hZ.alike Ar.2.1) Ar.2.2 hin (ha.at hin gp) (g := mkF m pc Ls (.int j :: .ref a :: rest)) rfl rfl hd _ k
theorem bld3 (X : Stand p l e R s m args below meth c T locs cells slots) (hx : p.tables.exec = Jvm.exec) (hZ : Z.Warmed39 s.vm) (eT : T.heap = h) {a : Addr} {kk : ClassId} {n j : Int32} {vs : List Value} {d v : Value} (F : Arv Z h a kk .byte n vs d) (hj : ¬ j < 0 ∧ j < n) (gp : vs.getD j.toNatClampNeg d = v) {pc : Nat} {Ls : Array Slot} {rest : List Value} (hd : decode c.code pc = .ok (.baload, 1)) {target : State}
    (k : Steps p.tables e below (T.setTop (mkF m (pc + 1) Ls (v :: rest))) target) : Steps p.tables e below (T.setTop (mkF m pc Ls (.int j :: .ref a :: rest))) target := by
  obtain ⟨cl, Ar, qa, sa, na, ha, ga⟩ := F
  have hin := inb_of (j := j) sa hj
  exact X.baloadBytes hx (j := j) (v := v) (by rw [eT]; exact Ar.1) (State.isArrayOf_alike hZ.alike Ar.2.1) Ar.2.2 hin (ha.at hin gp) (g := mkF m pc Ls (.int j :: .ref a :: rest)) rfl rfl hd _ k
theorem ofArr {a : Addr} {cl : Cell} {ty : FieldType} {n : Int32} {vs : List Value} {d : Value} (A : Arr Z h a cl ty) (hl : cl.slots = vs.toArray) (hz : ¬ n < 0) (hn : n.toNatClampNeg = vs.length) (hf : ∀ v ∈ vs, fits ty v = true) : Arv Z h a cl.cls ty n vs d := by
  have e : cl.slots.size = vs.length := by rw [hl]; simp
  refine ⟨cl, A, rfl, by rw [e, hn], hz, fun k hk => ?_, fun k hk => ?_⟩
  · rw [hl]
    simp [List.getD_eq_getElem?_getD, show k < vs.length by omega]
  · have q : k < vs.length := by omega
    have : vs.getD k d = vs[k] := by simp [List.getD_eq_getElem?_getD, q]
    rw [this]
    exact hf _ (List.getElem_mem q)
theorem castL {a : Addr} {kk : ClassId} {ty : FieldType} {n : Int32} {vs vs' : List Value} {d : Value} (F : Arv Z h a kk ty n vs d) (q : vs = vs') : Arv Z h a kk ty n vs' d := q ▸ F
theorem nlt {a b n : Nat} (h1 : a < n) (h2 : n ≤ b) : a ≠ b := Nat.ne_of_lt (Nat.lt_of_lt_of_le h1 h2)
theorem lb {a b : Nat} (h : Nat.ble a b = true) : a ≤ b := Nat.le_of_ble_eq_true h
theorem m0 {a : Addr} {L : List Addr} {P : Prop} : a ∈ a :: L ∨ P := Or.inl List.mem_cons_self
theorem m1 {a b : Addr} {L : List Addr} {P : Prop} : a ∈ b :: a :: L ∨ P := Or.inl (List.mem_cons_of_mem _ List.mem_cons_self)
theorem m2 {a b c : Addr} {L : List Addr} {P : Prop} : a ∈ b :: c :: a :: L ∨ P := Or.inl (List.mem_cons_of_mem _ (List.mem_cons_of_mem _ List.mem_cons_self))
theorem m3 {a b c d : Addr} {L : List Addr} {P : Prop} : a ∈ b :: c :: d :: a :: L ∨ P := Or.inl (List.mem_cons_of_mem _ (List.mem_cons_of_mem _ (List.mem_cons_of_mem _ List.mem_cons_self)))
end Terse
end Jvm.OwnKit
namespace Jvm.Yo
open Sem ClassFile Op Lib Jvm.Stand Jvm.Free Jvm.LawKit Jvm.RoadKit
variable {tb : Tables} [Ours tb] {e : Env} {below : List Frame} {T target : State} {m : MethodId} {c : Code} {pc : Nat} {Ls : Array Slot} {S : List Value}
theorem iload (h : At T m c below) (hx : tb.exec = Jvm.exec) {k : Nat} {v : Int32} (hd : decode c.code pc = .ok (.iload k, 2)) (hl : Ls[k]? = some (.val (.int v))) (hr : Steps tb e below (T.setTop (mkF m (pc + 2) Ls (.int v :: S))) target) : Steps tb e below (T.setTop (mkF m pc Ls S)) target := XS.iload (g := mkF m pc Ls S) h hx rfl hd hl hr
theorem iloadN (h : At T m c below) (hx : tb.exec = Jvm.exec) {k : Fin 4} {v : Int32} (hd : decode c.code pc = .ok (.iload_n k, 1)) (hl : Ls[k.val]? = some (.val (.int v))) (hr : Steps tb e below (T.setTop (mkF m (pc + 1) Ls (.int v :: S))) target) : Steps tb e below (T.setTop (mkF m pc Ls S)) target := XS.iloadN (g := mkF m pc Ls S) h hx rfl hd hl hr
theorem aload (h : At T m c below) (hx : tb.exec = Jvm.exec) {k : Nat} {v : Value} (hd : decode c.code pc = .ok (.aload k, 2)) (hl : Ls[k]? = some (.val v)) (hv : v.isRef = true) (hr : Steps tb e below (T.setTop (mkF m (pc + 2) Ls (v :: S))) target) : Steps tb e below (T.setTop (mkF m pc Ls S)) target := XS.aload (g := mkF m pc Ls S) h hx rfl hd hl hv hr
theorem aloadN (h : At T m c below) (hx : tb.exec = Jvm.exec) {k : Fin 4} {v : Value} (hd : decode c.code pc = .ok (.aload_n k, 1)) (hl : Ls[k.val]? = some (.val v)) (hv : v.isRef = true) (hr : Steps tb e below (T.setTop (mkF m (pc + 1) Ls (v :: S))) target) : Steps tb e below (T.setTop (mkF m pc Ls S)) target := XS.aloadN (g := mkF m pc Ls S) h hx rfl hd hl hv hr
theorem istore (h : At T m c below) (hx : tb.exec = Jvm.exec) {k : Nat} {x : Int32} {rest : List Value} {l' : Array Slot} (hd : decode c.code pc = .ok (.istore k, 2)) (hs : S = .int x :: rest) (hl : storeLocals Ls k (.int x) = some l') (hr : Steps tb e below (T.setTop (mkF m (pc + 2) l' (rest))) target) : Steps tb e below (T.setTop (mkF m pc Ls S)) target := XS.istore (g := mkF m pc Ls S) h hx rfl hd hs hl hr
theorem istoreN (h : At T m c below) (hx : tb.exec = Jvm.exec) {k : Fin 4} {x : Int32} {rest : List Value} {l' : Array Slot} (hd : decode c.code pc = .ok (.istore_n k, 1)) (hs : S = .int x :: rest) (hl : storeLocals Ls k.val (.int x) = some l') (hr : Steps tb e below (T.setTop (mkF m (pc + 1) l' (rest))) target) : Steps tb e below (T.setTop (mkF m pc Ls S)) target := XS.istoreN (g := mkF m pc Ls S) h hx rfl hd hs hl hr
theorem astore (h : At T m c below) (hx : tb.exec = Jvm.exec) {k : Nat} {x : Value} {rest : List Value} {l' : Array Slot} (hd : decode c.code pc = .ok (.astore k, 2)) (hs : S = x :: rest) (hv : x.isRef = true) (hl : storeLocals Ls k x = some l') (hr : Steps tb e below (T.setTop (mkF m (pc + 2) l' (rest))) target) : Steps tb e below (T.setTop (mkF m pc Ls S)) target := XS.astore (g := mkF m pc Ls S) h hx rfl hd hs hv hl hr
theorem astoreN (h : At T m c below) (hx : tb.exec = Jvm.exec) {k : Fin 4} {x : Value} {rest : List Value} {l' : Array Slot} (hd : decode c.code pc = .ok (.astore_n k, 1)) (hs : S = x :: rest) (hv : x.isRef = true) (hl : storeLocals Ls k.val x = some l') (hr : Steps tb e below (T.setTop (mkF m (pc + 1) l' (rest))) target) : Steps tb e below (T.setTop (mkF m pc Ls S)) target := XS.astoreN (g := mkF m pc Ls S) h hx rfl hd hs hv hl hr
theorem iconst (h : At T m c below) (hx : tb.exec = Jvm.exec) {i : Int} (hd : decode c.code pc = .ok (.iconst i, 1)) (hr : Steps tb e below (T.setTop (mkF m (pc + 1) Ls (.int (Int32.ofInt i) :: S))) target) : Steps tb e below (T.setTop (mkF m pc Ls S)) target := XS.iconst (g := mkF m pc Ls S) h hx rfl hd hr
theorem bipush (h : At T m c below) (hx : tb.exec = Jvm.exec) {i : Int} (hd : decode c.code pc = .ok (.bipush i, 2)) (hr : Steps tb e below (T.setTop (mkF m (pc + 2) Ls (.int (Int8.ofInt i).toInt32 :: S))) target) : Steps tb e below (T.setTop (mkF m pc Ls S)) target := XS.bipush (g := mkF m pc Ls S) h hx rfl hd hr
theorem sipush (h : At T m c below) (hx : tb.exec = Jvm.exec) {i : Int} (hd : decode c.code pc = .ok (.sipush i, 3)) (hr : Steps tb e below (T.setTop (mkF m (pc + 3) Ls (.int (Int16.ofInt i).toInt32 :: S))) target) : Steps tb e below (T.setTop (mkF m pc Ls S)) target := XS.sipush (g := mkF m pc Ls S) h hx rfl hd hr
theorem aconstNull (h : At T m c below) (hx : tb.exec = Jvm.exec) (hd : decode c.code pc = .ok (.aconst_null, 1)) (hr : Steps tb e below (T.setTop (mkF m (pc + 1) Ls (.null :: S))) target) : Steps tb e below (T.setTop (mkF m pc Ls S)) target := XS.aconstNull (g := mkF m pc Ls S) h hx rfl hd hr
theorem dup (h : At T m c below) (hx : tb.exec = Jvm.exec) {x : Value} {rest : List Value} (hd : decode c.code pc = .ok (.dup, 1)) (hs : S = x :: rest) (hc : x.category = 1) (hr : Steps tb e below (T.setTop (mkF m (pc + 1) Ls (x :: x :: rest))) target) : Steps tb e below (T.setTop (mkF m pc Ls S)) target := XS.dup (g := mkF m pc Ls S) h hx rfl hd hs hc hr
theorem pop (h : At T m c below) (hx : tb.exec = Jvm.exec) {x : Value} {rest : List Value} (hd : decode c.code pc = .ok (.pop, 1)) (hs : S = x :: rest) (hc : x.category = 1) (hr : Steps tb e below (T.setTop (mkF m (pc + 1) Ls (rest))) target) : Steps tb e below (T.setTop (mkF m pc Ls S)) target := XS.pop (g := mkF m pc Ls S) h hx rfl hd hs hc hr
theorem dupX1 (h : At T m c below) (hx : tb.exec = Jvm.exec) {x y : Value} {rest : List Value} (hd : decode c.code pc = .ok (.dup_x1, 1)) (hs : S = x :: y :: rest) (hc : x.category = 1) (hc2 : y.category = 1) (hr : Steps tb e below (T.setTop (mkF m (pc + 1) Ls (x :: y :: x :: rest))) target) : Steps tb e below (T.setTop (mkF m pc Ls S)) target := XS.dupX1 (g := mkF m pc Ls S) h hx rfl hd hs hc hc2 hr
theorem iadd (h : At T m c below) (hx : tb.exec = Jvm.exec) {x y : Int32} {rest : List Value} (hd : decode c.code pc = .ok (.iadd, 1)) (hs : S = .int y :: .int x :: rest) (hr : Steps tb e below (T.setTop (mkF m (pc + 1) Ls (.int (x + y) :: rest))) target) : Steps tb e below (T.setTop (mkF m pc Ls S)) target := XS.iadd (g := mkF m pc Ls S) h hx rfl hd hs hr
theorem isub (h : At T m c below) (hx : tb.exec = Jvm.exec) {x y : Int32} {rest : List Value} (hd : decode c.code pc = .ok (.isub, 1)) (hs : S = .int y :: .int x :: rest) (hr : Steps tb e below (T.setTop (mkF m (pc + 1) Ls (.int (x - y) :: rest))) target) : Steps tb e below (T.setTop (mkF m pc Ls S)) target := XS.isub (g := mkF m pc Ls S) h hx rfl hd hs hr
theorem iand (h : At T m c below) (hx : tb.exec = Jvm.exec) {x y : Int32} {rest : List Value} (hd : decode c.code pc = .ok (.iand, 1)) (hs : S = .int y :: .int x :: rest) (hr : Steps tb e below (T.setTop (mkF m (pc + 1) Ls (.int (x &&& y) :: rest))) target) : Steps tb e below (T.setTop (mkF m pc Ls S)) target := XS.iand (g := mkF m pc Ls S) h hx rfl hd hs hr
theorem ior (h : At T m c below) (hx : tb.exec = Jvm.exec) {x : Int32} {y : Int32} {rest : List Value} (hd : decode c.code pc = .ok (.ior, 1)) (hs : S = .int y :: .int x :: rest) (hr : Steps tb e below (T.setTop (mkF m (pc + 1) Ls (.int (x ||| y) :: rest))) target) : Steps tb e below (T.setTop (mkF m pc Ls S)) target := XS.ior (g := mkF m pc Ls S) h hx rfl hd hs hr
theorem iushr (h : At T m c below) (hx : tb.exec = Jvm.exec) {x : Int32} {y : Int32} {rest : List Value} (hd : decode c.code pc = .ok (.iushr, 1)) (hs : S = .int y :: .int x :: rest) (hr : Steps tb e below (T.setTop (mkF m (pc + 1) Ls (.int ((x.toUInt32 >>> (y &&& 31).toUInt32).toInt32) :: rest))) target) : Steps tb e below (T.setTop (mkF m pc Ls S)) target := XS.iushr (g := mkF m pc Ls S) h hx rfl hd hs hr
theorem ishr (h : At T m c below) (hx : tb.exec = Jvm.exec) {x : Int32} {y : Int32} {rest : List Value} (hd : decode c.code pc = .ok (.ishr, 1)) (hs : S = .int y :: .int x :: rest) (hr : Steps tb e below (T.setTop (mkF m (pc + 1) Ls (.int (x >>> (y &&& 31)) :: rest))) target) : Steps tb e below (T.setTop (mkF m pc Ls S)) target := XS.ishr (g := mkF m pc Ls S) h hx rfl hd hs hr
theorem ishl (h : At T m c below) (hx : tb.exec = Jvm.exec) {x : Int32} {y : Int32} {rest : List Value} (hd : decode c.code pc = .ok (.ishl, 1)) (hs : S = .int y :: .int x :: rest) (hr : Steps tb e below (T.setTop (mkF m (pc + 1) Ls (.int (x <<< (y &&& 31)) :: rest))) target) : Steps tb e below (T.setTop (mkF m pc Ls S)) target := XS.ishl (g := mkF m pc Ls S) h hx rfl hd hs hr
theorem i2c (h : At T m c below) (hx : tb.exec = Jvm.exec) {v : Int32} {rest : List Value} (hd : decode c.code pc = .ok (.i2c, 1)) (hs : S = .int v :: rest) (hr : Steps tb e below (T.setTop (mkF m (pc + 1) Ls (.int (v.toUInt32.toUInt16.toUInt32.toInt32) :: rest))) target) : Steps tb e below (T.setTop (mkF m pc Ls S)) target := XS.i2c (g := mkF m pc Ls S) h hx rfl hd hs hr
theorem i2b (h : At T m c below) (hx : tb.exec = Jvm.exec) {v : Int32} {rest : List Value} (hd : decode c.code pc = .ok (.i2b, 1)) (hs : S = .int v :: rest) (hr : Steps tb e below (T.setTop (mkF m (pc + 1) Ls (.int (v.toInt8.toInt32) :: rest))) target) : Steps tb e below (T.setTop (mkF m pc Ls S)) target := XS.i2b (g := mkF m pc Ls S) h hx rfl hd hs hr
theorem iinc (h : At T m c below) (hx : tb.exec = Jvm.exec) {k : Nat} {cst : Int} {x : Int32} {l' : Array Slot} (hd : decode c.code pc = .ok (.iinc k cst, 3)) (hl : Ls[k]? = some (.val (.int x))) (hl' : storeLocals Ls k (.int (x + Int32.ofInt cst)) = some l') (hr : Steps tb e below (T.setTop (mkF m (pc + 3) l' (S))) target) : Steps tb e below (T.setTop (mkF m pc Ls S)) target := XS.iinc (g := mkF m pc Ls S) h hx rfl hd hl hl' hr
theorem goto (h : At T m c below) (hx : tb.exec = Jvm.exec) {o : Int} {pc0 pc' : Nat} (hpc : pc = pc0) (hd : decode c.code pc = .ok (.goto o, 3)) (ho : 0 ≤ (pc0 : Int) + o) (hp : ((pc0 : Int) + o).toNat = pc') (hr : Steps tb e below (T.setTop (mkF m (pc') Ls (S))) target) : Steps tb e below (T.setTop (mkF m pc Ls S)) target := XS.goto (g := mkF m pc Ls S) h hx rfl hpc hd ho hp hr
theorem ifYes (h : At T m c below) (hx : tb.exec = Jvm.exec) {cd : ClassFile.Cond} {x : Int32} {rest : List Value} {o : Int} {pc0 pc' : Nat} (hpc : pc = pc0) (hd : decode c.code pc = .ok (.ifCond cd o, 3)) (hs : S = .int x :: rest) (hc : ifCond.holds cd x = true) (ho : 0 ≤ (pc0 : Int) + o) (hp : ((pc0 : Int) + o).toNat = pc') (hr : Steps tb e below (T.setTop (mkF m (pc') Ls (rest))) target) : Steps tb e below (T.setTop (mkF m pc Ls S)) target := XS.ifYes (g := mkF m pc Ls S) h hx rfl hpc hd hs hc ho hp hr
theorem ifNo (h : At T m c below) (hx : tb.exec = Jvm.exec) {cd : ClassFile.Cond} {o : Int} {x : Int32} {rest : List Value} (hd : decode c.code pc = .ok (.ifCond cd o, 3)) (hs : S = .int x :: rest) (hc : ifCond.holds cd x = false) (hr : Steps tb e below (T.setTop (mkF m (pc + 3) Ls (rest))) target) : Steps tb e below (T.setTop (mkF m pc Ls S)) target := XS.ifNo (g := mkF m pc Ls S) h hx rfl hd hs hc hr
theorem icmpYes (h : At T m c below) (hx : tb.exec = Jvm.exec) {cd : ClassFile.Cond} {x y : Int32} {rest : List Value} {o : Int} {pc0 pc' : Nat} (hpc : pc = pc0) (hd : decode c.code pc = .ok (.if_icmp cd o, 3)) (hs : S = .int y :: .int x :: rest) (hc : if_icmp.holds cd x y = true) (ho : 0 ≤ (pc0 : Int) + o) (hp : ((pc0 : Int) + o).toNat = pc') (hr : Steps tb e below (T.setTop (mkF m (pc') Ls (rest))) target) : Steps tb e below (T.setTop (mkF m pc Ls S)) target := XS.icmpYes (g := mkF m pc Ls S) h hx rfl hpc hd hs hc ho hp hr
theorem icmpNo (h : At T m c below) (hx : tb.exec = Jvm.exec) {cd : ClassFile.Cond} {o : Int} {x y : Int32} {rest : List Value} (hd : decode c.code pc = .ok (.if_icmp cd o, 3)) (hs : S = .int y :: .int x :: rest) (hc : if_icmp.holds cd x y = false) (hr : Steps tb e below (T.setTop (mkF m (pc + 3) Ls (rest))) target) : Steps tb e below (T.setTop (mkF m pc Ls S)) target := XS.icmpNo (g := mkF m pc Ls S) h hx rfl hd hs hc hr
theorem ifnullYes (h : At T m c below) (hx : tb.exec = Jvm.exec) {rest : List Value} {o : Int} {pc0 pc' : Nat} (hpc : pc = pc0) (hd : decode c.code pc = .ok (.ifnull o, 3)) (hs : S = .null :: rest) (ho : 0 ≤ (pc0 : Int) + o) (hp : ((pc0 : Int) + o).toNat = pc') (hr : Steps tb e below (T.setTop (mkF m (pc') Ls (rest))) target) : Steps tb e below (T.setTop (mkF m pc Ls S)) target := XS.ifnullYes (g := mkF m pc Ls S) h hx rfl hpc hd hs ho hp hr
theorem ifnullNo (h : At T m c below) (hx : tb.exec = Jvm.exec) {o : Int} {b : Addr} {rest : List Value} (hd : decode c.code pc = .ok (.ifnull o, 3)) (hs : S = .ref b :: rest) (hr : Steps tb e below (T.setTop (mkF m (pc + 3) Ls (rest))) target) : Steps tb e below (T.setTop (mkF m pc Ls S)) target := XS.ifnullNo (g := mkF m pc Ls S) h hx rfl hd hs hr
theorem ifnonnullYes (h : At T m c below) (hx : tb.exec = Jvm.exec) {b : Addr} {rest : List Value} {o : Int} {pc0 pc' : Nat} (hpc : pc = pc0) (hd : decode c.code pc = .ok (.ifnonnull o, 3)) (hs : S = .ref b :: rest) (ho : 0 ≤ (pc0 : Int) + o) (hp : ((pc0 : Int) + o).toNat = pc') (hr : Steps tb e below (T.setTop (mkF m (pc') Ls (rest))) target) : Steps tb e below (T.setTop (mkF m pc Ls S)) target := XS.ifnonnullYes (g := mkF m pc Ls S) h hx rfl hpc hd hs ho hp hr
theorem ifnonnullNo (h : At T m c below) (hx : tb.exec = Jvm.exec) {o : Int} {rest : List Value} (hd : decode c.code pc = .ok (.ifnonnull o, 3)) (hs : S = .null :: rest) (hr : Steps tb e below (T.setTop (mkF m (pc + 3) Ls (rest))) target) : Steps tb e below (T.setTop (mkF m pc Ls S)) target := XS.ifnonnullNo (g := mkF m pc Ls S) h hx rfl hd hs hr
end Jvm.Yo
namespace Jvm.OwnKit
open Sem ClassFile Op Lib Jvm.Stand Jvm.Free Jvm.LawKit Jvm.RoadKit
section Held
variable {p : Program} {l : Launch} {e : Env} {R : Room} {s : State} {m : MethodId} {args : Array Value} {below : List Frame} {meth : Method} {c : Code} {T : State} {locs : List Loc} {cells slots : Nat} {Z : State} {a0 : Array Value} {h : Heap} {EL : List (String × Nat)} {Q : Option Value → Heap → List Loc → Prop} {C S : Nat}
/-- what a body owes from a state on, where texts may be loaded: the held constants stay held -/
def FinH (p : Program) (e : Env) (below : List Frame) (s Z : State) (EL : List (String × Nat)) (Q : Option Value → Heap → List Loc → Prop) (C S : Nat) (st : State) : Prop :=
  ∃ s₂ o, Steps p.tables e below st s₂ ∧ s₂.status = .running ∧ Ended s₂ below o ∧ ∃ v L, o = .returned v ∧ Q v s₂.heap L ∧ CHr Z EL s.vm s.heap s₂.vm s₂.heap ∧ ReturnedEndW s o s₂ L C S
theorem FinH.step {st st' : State} (hh : ∀ t, Steps p.tables e below st' t → Steps p.tables e below st t) (k : FinH p e below s Z EL Q C S st') : FinH p e below s Z EL Q C S st := by
  obtain ⟨s₂, o, h1, h2⟩ := k
  exact ⟨s₂, o, hh _ h1, h2⟩
theorem FinH.ret {vm₁ : Vm} (X : Stand p l e R (s.setVm vm₁) m args below meth c T locs cells slots) {n : Nat} (hS : s.Since vm₁ n) (hn : n ≤ T.heap.size) (hZ : Z.Warmed39 vm₁) (hEL : EW Z a0 EL) (CH : CHr Z EL s.vm s.heap vm₁ T.heap) {v : Option Value} {g : JFrame} (hv : meth.sig.returnType = none → v = none) (hlocks : meth.locks = false)
    (hst : ∀ fs, (∀ (f : JFrame) (acts : List Action), f.method = m → f.locked = none → f.entered = [] → (doReturn e (T.setTop f) acts v).1 = T.setFrames fs) → Steps p.tables e below (T.setTop g) (T.setFrames fs))
    (hC : cells ≤ C) (hS' : slots ≤ S) (q : Q v T.heap locs) : FinH p e below s Z EL Q C S (T.setTop g) := by
  obtain ⟨fs, hr, hrun, hended, hW⟩ := X.leaveW hS hn (v := v) hv hlocks
  exact ⟨_, _, hst fs hr, hrun, hended, _, _, rfl, q, CH.trans (show CHr Z EL vm₁ T.heap T.vm T.heap from CHv.at X hZ hEL CH.1), hW.1, hW.2.1, hW.2.2.1, hW.2.2.2.mono hC hS'⟩
theorem FinH.retV {vm₁ : Vm} (X : Stand p l e R (s.setVm vm₁) m args below meth c T locs cells slots) {n : Nat} (hS : s.Since vm₁ n) (hn : n ≤ T.heap.size) (hZ : Z.Warmed39 vm₁) (hEL : EW Z a0 EL) (CH : CHr Z EL s.vm s.heap vm₁ T.heap) (hx : p.tables.exec = Jvm.exec) {pc : Nat} {Ls : Array Slot} (hret : meth.sig.returnType = none) (hlocks : meth.locks = false) (hd : decode c.code pc = .ok (.return_, 1))
    (hC : cells ≤ C) (hS' : slots ≤ S) (q : Q none T.heap locs) : FinH p e below s Z EL Q C S (T.setTop (mkF m pc Ls [])) :=
  FinH.ret X hS hn hZ hEL CH (fun _ => rfl) hlocks (fun fs hl => X.returnOut hx hret hd hl) hC hS' q
theorem FinH.retR {vm₁ : Vm} (X : Stand p l e R (s.setVm vm₁) m args below meth c T locs cells slots) {n : Nat} (hS : s.Since vm₁ n) (hn : n ≤ T.heap.size) (hZ : Z.Warmed39 vm₁) (hEL : EW Z a0 EL) (CH : CHr Z EL s.vm s.heap vm₁ T.heap) (hx : p.tables.exec = Jvm.exec) {pc : Nat} {Ls : Array Slot} {w : Value} {t : FieldType} {rest : List Value} (hret : meth.sig.returnType = some t) (ht : t.isReference = true) (hw : w.isRef = true) (hlocks : meth.locks = false) (hd : decode c.code pc = .ok (.areturn, 1))
    (hC : cells ≤ C) (hS' : slots ≤ S) (q : Q (some w) T.heap locs) : FinH p e below s Z EL Q C S (T.setTop (mkF m pc Ls (w :: rest))) :=
  FinH.ret X hS hn hZ hEL CH (fun h => by rw [hret] at h; cases h) hlocks (fun fs hl => retOut X hx hret (by cases t <;> simp [FieldType.isReference] at ht <;> cases w <;> simp [Value.isRef] at hw <;> rfl) (Or.inr (Or.inr (Or.inr (Or.inr ⟨rfl, ht, hw⟩)))) hd hl) hC hS' q
theorem FinH.retN {vm₁ : Vm} (X : Stand p l e R (s.setVm vm₁) m args below meth c T locs cells slots) {n : Nat} (hS : s.Since vm₁ n) (hn : n ≤ T.heap.size) (hZ : Z.Warmed39 vm₁) (hEL : EW Z a0 EL) (CH : CHr Z EL s.vm s.heap vm₁ T.heap) (hx : p.tables.exec = Jvm.exec) {pc : Nat} {Ls : Array Slot} {z : Int32} {t : FieldType} {rest : List Value} (hret : meth.sig.returnType = some t) (ht : t = .boolean ∨ t = .byte ∨ t = .char ∨ t = .short) (hlocks : meth.locks = false) (hd : decode c.code pc = .ok (.ireturn, 1))
    (hC : cells ≤ C) (hS' : slots ≤ S) (q : Q (some (.int (nar t z))) T.heap locs) : FinH p e below s Z EL Q C S (T.setTop (mkF m pc Ls (.int z :: rest))) :=
  FinH.ret X hS hn hZ hEL CH (fun h => by rw [hret] at h; cases h) hlocks (fun fs hl => RoadKit.retN X hx hret ht hd hl) hC hS' q
abbrev Met1H (l : Launch) (y : MethodName) (bytes : ByteArray) (ml : Nat) (ret : Option FieldType) (ws : List Cond) (R : Room) (A : Array Value) (Z : State) (h0 : Heap) (EL : List (String × Nat)) (Q : Option Value → Heap → List Loc → Prop) : Prop :=
  MetFree l y (head1 (Cond.code y bytes ml ret :: ws) R) (fun a U => a = A ∧ Z.Warmed39 U.vm ∧ U.heap = h0 ∧ CHv Z EL U.vm h0) (fun _ _ _ _ _ => True) (fun _ U o U' => ∃ v L, o = .returned v ∧ Q v U'.heap L ∧ CHr Z EL U.vm U.heap U'.vm U'.heap ∧ ReturnedEndW U o U' L R.cells R.slots)
theorem Met1H.enter {y : MethodName} {bytes : ByteArray} {ml : Nat} {ret : Option FieldType} {ws : List Cond} {A : Array Value} {h0 : Heap} (hp : plainFor y = true) {Ls : Array Slot} (ef : ∀ m, entryFrame m A ml = mkF m 0 Ls [])
    (k : ∀ (p : Program) (e : Env) (s : State) (m : MethodId) (below : List Frame) (meth : Method) (c : Code) (s₁ : State), p.tables.exec = Jvm.exec → c.code = bytes → meth.locks = false → meth.sig.returnType = ret → c.maxLocals = ml → s.vm.findClass y.cls = some m.cls → meth.name = y.name → Z.Warmed39 s.vm → Stand p l e R s m A below meth c s₁ [] 0 0 → s₁.heap = h0 → s.heap = h0 → CHv Z EL s.vm h0 → FinH p e below s Z EL Q R.cells R.slots (s₁.setTop (mkF m 0 Ls []))) :
    Met1H l y bytes ml ret ws R A Z h0 EL Q := by
  refine MetFree.of_bodySF hp hisR ?_
  intro p e s m args below meth c s₁ Bd hml0 hP hK
  obtain ⟨rfl, hZ, hh, hc⟩ := hP
  obtain ⟨s₂, o, h1, h2, h3, v, L, h4, h5, h6⟩ := k p e s m below meth c s₁ Bd.exec Bd.bytes (BodyLoose.notSynchronized Bd) Bd.returns hml0 (findClass_of_methodNamed Bd.named) (name_of_methodNamed Bd.named Bd.method).1 hZ (Stand.of_body Bd) (by rw [← hh, Bd.state]; rfl) hh hc
  exact ⟨s₂, o, castTop (ef m) h1, h2, h3, v, L, h4, h5, h6⟩
theorem packH {vm0 : Vm} {k0 : Nat} (hS : s.Since vm0 k0) (hk : k0 ≤ T.heap.size) (hZ : Z.Warmed39 vm0) {own : String} (hown : vm0.findClass own = some m.cls) {rm : Room} {s₀ : State} {G : Option Value → JFrame}
    (hh : ∃ (v : Option Value) (vm₁ : Vm) (B : Pt), (s.setVm vm0).WarmedH vm₁ ∧ Stand p l e R ((s.setVm vm0).setVm B.U.vm) m args below meth c B.U B.locs B.cells B.slots ∧ (s.setVm vm0).Since B.U.vm B.U.heap.size ∧ T.heap.size ≤ B.U.heap.size ∧ (fun (A : Pt) (_ : Array Value) (v : Option Value) (B : Pt) => ∃ L, Q v B.U.heap L ∧ B.locs = A.locs ++ L ∧ B.cells = A.cells + rm.cells ∧ B.slots = A.slots + rm.slots ∧ CHr Z EL vm0 h B.U.vm B.U.heap) ⟨T.setVm vm₁, locs, cells, slots⟩ #[] v B ∧ Steps p.tables e below s₀ (B.U.setTop (G v))) :
    ∃ v T' L, Stand p l e R (s.setVm T'.vm) m args below meth c T' (locs ++ L) (cells + rm.cells) (slots + rm.slots) ∧ s.Since T'.vm T'.heap.size ∧ Z.Warmed39 T'.vm ∧ T'.vm.findClass own = some m.cls ∧ Q v T'.heap L ∧ CHr Z EL vm0 h T'.vm T'.heap ∧ ∀ t, Steps p.tables e below (T'.setTop (G v)) t → Steps p.tables e below s₀ t := by
  obtain ⟨v, vm₁, ⟨T', L1, k1, n1⟩, -, X, h2, hg, ⟨L, hQ, e1, e2, e3, hC⟩, st⟩ := hh
  obtain ⟨X', hS', hZ', ho'⟩ := rebS hS hk X h2 hg hZ hown
  subst e1 e2 e3
  exact ⟨v, T', L, X', hS', hZ', ho', hQ, hC, fun _ k => st.trans k⟩
/-- a body that loads nothing keeps what is held -/
theorem Met1.toH {y : MethodName} {bytes : ByteArray} {ml : Nat} {ret : Option FieldType} {ws : List Cond} {A : Array Value} {h0 : Heap} {Q' : Option Value → Heap → List Loc → Prop} (M : Met1 l y bytes ml ret ws R A Z h0 Q) (hEL : EW Z a0 EL) (imp : ∀ v h L, Q v h L → Keep h0 h [] ∧ Q' v h L) :
    Met1H l y bytes ml ret ws R A Z h0 EL Q' :=
  MetFree.mono M (fun a s ⟨h1, h2, h3, _⟩ => ⟨h1, h2, h3⟩) (fun _ _ _ _ _ h => h) (fun a s o s' ⟨hA, hZ, hh, hc⟩ ⟨v, L, ho, hQ, hF⟩ => by
    obtain ⟨K, hQ'⟩ := imp _ _ _ hQ
    refine ⟨v, L, ho, hQ', ?_, ReturnedEndW.of_narrow hF.1 hF.2.1 hF.2.2⟩
    rw [hh]
    have A1 := CHr.keep K (fun x hx => by cases hx) hc
    have q := CHv.later (h' := s'.heap) hZ (hW := (show (Wst Z s.vm s'.heap).Warmed39 s'.vm from hF.2.1.wide)) hEL ⟨Nat.le_refl _, fun _ _ q => q⟩ (Or.inl hF.2.1.interned_eq) A1.1
    exact A1.trans ⟨q.1, Nat.le_refl _, q.2⟩)
theorem Met1H.imp {y : MethodName} {bytes : ByteArray} {ml : Nat} {ret : Option FieldType} {ws : List Cond} {A : Array Value} {h0 : Heap} {Q' : Option Value → Heap → List Loc → Prop} (M : Met1H l y bytes ml ret ws R A Z h0 EL Q) (imp : ∀ v h L, Q v h L → Q' v h L) :
    Met1H l y bytes ml ret ws R A Z h0 EL Q' :=
  MetFree.mono M (fun _ _ h => h) (fun _ _ _ _ _ h => h) (fun a s o s' _ ⟨v, L, ho, hQ, r⟩ => ⟨v, L, ho, imp _ _ _ hQ, r⟩)
end Held
end Jvm.OwnKit
namespace Jvm.OwnKit
open Sem ClassFile Op Lib Bundle Jvm.Stand Jvm.Free Jvm.LawKit Jvm.RoadKit Jvm.Free.SB Jvm.Free.SBG
variable {Z : State} {a0 : Array Value} {EL : List (String × Nat)} {vm vm0 vm1 : Vm} {h h' : Heap}
theorem safeNull {x : Addr} (hal : Z.vm.Alike vm) (E : Exa Z h x "java/lang/String") (F : Fld Z h x "java/lang/String" "value" "[B" .null) : Safe Z EL vm h x := fun B => by
  obtain ⟨p, -, u, a, -, q, rfl, G, hy⟩ := B
  obtain ⟨cell, cf, k, i, f, h1, h2, h3, h4, h5, h6, h7⟩ := F
  rcases hy with rfl | rfl
  · obtain ⟨cS, ⟨⟨s1, -, -, ⟨c1, k1, i1, f1, -⟩, -, -, -, v1, -⟩, -⟩, -⟩ := G
    cases h1.symm.trans s1
    obtain ⟨k3, e3, -⟩ := State.fieldFound?_setVm (s := Z) hal h2
    have e4 := (show (Wst Z vm h).fieldFound? _ _ _ = _ from e3).symm.trans f1
    simp only [Option.some.injEq, Prod.mk.injEq] at e4
    rw [← e4.2.2.2, h7] at v1
    cases v1
  · obtain ⟨c2, k2, g1, g2, g3, -, -⟩ := E
    have hd := G.hd
    obtain ⟨cS, -, -, hB, -⟩ := G
    cases g1.symm.trans hd
    have hB' : Z.vm.findClass "[B" = some q.SA.cls := by rw [← hal.findClass]; exact hB
    obtain ⟨ka, ha, na⟩ := Vm.findClass_spec hB'
    obtain ⟨kb, hb, nb⟩ := Vm.findClass_spec g2
    cases ha.symm.trans hb
    rw [na] at nb
    exact absurd nb (by decide)
end Jvm.OwnKit
namespace Jvm.Pilot.@@N@@
open Jvm Jvm.ClassFile Sem Op Lib Jvm.Free Jvm.Stand Jvm.LawKit Jvm.RoadKit Jvm.OwnKit Bundle Jvm.Pilot.@@N@@.Jvm.D
abbrev q0 : String := "com/example/shallmark/shallmark/Expression"
abbrev q1 : String := "com/example/shallmark/shallmark/ExpressionIsXPathPinLaw"
abbrev q2 : String := "java/lang/String"
abbrev q3 : String := "java/lang/StringLatin1"
abbrev q4 : String := "java/lang/CharacterDataLatin1"
abbrev q5 : String := "java/util/ImmutableCollections"
abbrev q6 : String := "java/util/ImmutableCollections$MapN"
abbrev q7 : String := "Ljava/util/Map;"
abbrev q8 : String := "Ljava/lang/String;"
abbrev q9 : String := "COMPACT_STRINGS"
abbrev n1 : MethodName := ⟨"com/example/shallmark/shallmark/ExpressionIsXPathPinLaw", "draw", "(JI)I"⟩
abbrev n2 : MethodName := ⟨"java/lang/String", "<init>", "([C)V"⟩
abbrev n3 : MethodName := ⟨"java/lang/String", "<init>", "([CIILjava/lang/Void;)V"⟩
abbrev n4 : MethodName := ⟨"java/lang/Object", "<init>", "()V"⟩
abbrev n5 : MethodName := ⟨"java/lang/StringUTF16", "compress", "([CII)[B"⟩
abbrev n6 : MethodName := ⟨"java/lang/StringUTF16", "compress", "([CI[BII)I"⟩
abbrev n7 : MethodName := ⟨"java/lang/StringUTF16", "coderFromArrayLen", "([BI)B"⟩
abbrev n8 : MethodName := ⟨"java/lang/String", "valueOf", "(C)Ljava/lang/String;"⟩
abbrev n9 : MethodName := ⟨"java/lang/StringLatin1", "canEncode", "(C)Z"⟩
abbrev n10 : MethodName := ⟨"java/lang/StringLatin1", "toBytes", "(C)[B"⟩
abbrev n11 : MethodName := ⟨"java/lang/String", "<init>", "([BB)V"⟩
abbrev n12 : MethodName := ⟨"java/util/Map", "of", "()Ljava/util/Map;"⟩
abbrev n13 : MethodName := ⟨"com/example/shallmark/shallmark/Expression", "<init>", "(Ljava/lang/String;Ljava/util/Map;Ljava/lang/String;I)V"⟩
abbrev n14 : MethodName := ⟨"java/lang/Record", "<init>", "()V"⟩
abbrev n15 : MethodName := ⟨"java/util/Map", "copyOf", "(Ljava/util/Map;)Ljava/util/Map;"⟩
abbrev n16 : MethodName := ⟨"com/example/shallmark/shallmark/ExpressionIsXPathPinLaw", "m", "([III)Z"⟩
abbrev n17 : MethodName := ⟨"com/example/shallmark/shallmark/ExpressionIsXPathPinLaw", "at", "([III)I"⟩
abbrev n18 : MethodName := ⟨"com/example/shallmark/shallmark/ExpressionIsXPathPinLaw", "is", "(II)Z"⟩
abbrev n19 : MethodName := ⟨"com/example/shallmark/shallmark/ExpressionIsXPathPinLaw", "ws", "(I)Z"⟩
abbrev n20 : MethodName := ⟨"com/example/shallmark/shallmark/Expression", "isXPath", "()Z"⟩
abbrev n21 : MethodName := ⟨"java/lang/String", "strip", "()Ljava/lang/String;"⟩
abbrev n22 : MethodName := ⟨"java/lang/String", "isLatin1", "()Z"⟩
abbrev n23 : MethodName := ⟨"java/lang/StringLatin1", "strip", "([B)Ljava/lang/String;"⟩
abbrev n24 : MethodName := ⟨"java/lang/StringLatin1", "indexOfNonWhitespace", "([B)I"⟩
abbrev n25 : MethodName := ⟨"java/lang/StringLatin1", "getChar", "([BI)C"⟩
abbrev n26 : MethodName := ⟨"java/lang/CharacterDataLatin1", "isWhitespace", "(I)Z"⟩
abbrev n27 : MethodName := ⟨"java/lang/CharacterDataLatin1", "getProperties", "(I)I"⟩
abbrev n28 : MethodName := ⟨"java/lang/StringLatin1", "lastIndexOfNonWhitespace", "([B)I"⟩
abbrev n29 : MethodName := ⟨"java/lang/String", "regionMatches", "(ZILjava/lang/String;II)Z"⟩
abbrev n30 : MethodName := ⟨"java/lang/String", "length", "()I"⟩
abbrev n31 : MethodName := ⟨"java/lang/String", "coder", "()B"⟩
abbrev n32 : MethodName := ⟨"java/lang/StringLatin1", "regionMatchesCI", "([BI[BII)Z"⟩
abbrev n33 : MethodName := ⟨"java/lang/CharacterDataLatin1", "equalsIgnoreCase", "(BB)Z"⟩
abbrev n34 : MethodName := ⟨"java/lang/StringLatin1", "newString", "([BII)Ljava/lang/String;"⟩
abbrev n35 : MethodName := ⟨"java/util/Arrays", "copyOfRange", "([BII)[B"⟩
abbrev n36 : MethodName := ⟨"java/util/Arrays", "copyOfRangeByte", "([BII)[B"⟩
abbrev n37 : MethodName := ⟨"java/util/Arrays", "checkLength", "(II)V"⟩
abbrev n38 : MethodName := ⟨"java/lang/Math", "min", "(II)I"⟩
theorem W_ {a0 : Array Value} {Z : State} (hw : ∀ d ∈ tables_1, d.before a0 Z = true) (i : Nat) {d : Jvm.Cond} (h : tables_1[i]? = some d := by rfl) : d.before a0 Z = true := hw d (List.mem_of_getElem? h)
def own_gt (xs : List Value) (i : Nat) : Int32 := match xs.getD i (.int (0 : Int32)) with | .int z => z | _ => 0
def own_b (z : Int32) : Value := .int (nar .byte (z.toInt8.toInt32))
def own_app (vs xs : List Value) (t : Nat) : Nat → List Value
  | 0 => vs
  | n + 1 => (own_app vs xs t n).set (t + n) (own_b (own_gt xs n))
theorem own_applen (vs xs : List Value) (t : Nat) : ∀ n, (own_app vs xs t n).length = vs.length
  | 0 => rfl
  | n + 1 => by rw [own_app, List.length_set]; exact own_applen vs xs t n
/-- a list of chars -/
def own_chs (xs : List Value) : Prop := ∀ i, ∃ z : Int32, xs.getD i (.int (0 : Int32)) = .int z
theorem own_lg {xs : List Value} (h : own_chs xs) (i : Nat) : xs.getD i (.int (0 : Int32)) = .int (own_gt xs i) := by
  obtain ⟨z, e⟩ := h i
  unfold own_gt
  rw [e]
theorem own_tn {x : Int32} (h : 0 ≤ x.toInt) : x.toInt = x.toNatClampNeg := by show x.toInt = (x.toInt.toNat : Int); omega
/-- one turn further -/
theorem own_nx {i n : Int32} (h0 : 0 ≤ i.toInt) (hn : n.toInt ≤ 8) (h : i < n) : (¬ i < 0 ∧ i < n) ∧ 0 ≤ (i + 1).toInt ∧ (i + 1).toInt ≤ n.toInt ∧ (i + 1).toNatClampNeg = i.toNatClampNeg + 1 ∧ n.toNatClampNeg - (i + 1).toNatClampNeg < n.toNatClampNeg - i.toNatClampNeg ∧ 0 + i.toNatClampNeg < n.toNatClampNeg := by
  have h' := h
  rw [Int32.lt_iff_toInt_lt] at h'
  have e : (i + 1).toInt = i.toInt + 1 := Jvm.Kit.i32_add (q := 1) (by show _ ≤ i.toInt + 1; omega) (by show i.toInt + 1 < _; omega)
  have e1 : (i + 1).toNatClampNeg = i.toNatClampNeg + 1 := by
    show (i + 1).toInt.toNat = i.toInt.toNat + 1
    omega
  have e2 := own_tn h0
  have e3 := own_tn (x := n) (by omega)
  refine ⟨⟨?_, h⟩, by omega, by omega, e1, by omega, by omega⟩
  rw [Int32.lt_iff_toInt_lt]
  show ¬ i.toInt < (0 : Int)
  omega
theorem own_end {i n : Int32} (h : ¬ i < n) (h2 : i.toInt ≤ n.toInt) : i = n := by
  rw [Int32.lt_iff_toInt_lt] at h
  exact Int32.toInt_inj.mp (by omega)
def own_lo (z : Int32) : Value := .int (nar .byte ((z >>> ((0 : Int32) &&& 31)).toInt8.toInt32))
def own_hi (z : Int32) : Value := .int (nar .byte ((z >>> ((8 : Int32) &&& 31)).toInt8.toInt32))
def own_utf (vs xs : List Value) : Nat → List Value
  | 0 => vs
  | n + 1 => ((own_utf vs xs n).set (2 * n) (own_lo (own_gt xs n))).set (2 * n + 1) (own_hi (own_gt xs n))
theorem own_utflen (vs xs : List Value) : ∀ n, (own_utf vs xs n).length = vs.length
  | 0 => rfl
  | n + 1 => by rw [own_utf, List.length_set, List.length_set]; exact own_utflen vs xs n
theorem own_dbl {x : Int32} (h0 : 0 ≤ x.toInt) (h : x.toInt ≤ 8) : (x <<< ((1 : Int32) &&& 31)).toInt = 2 * x.toInt := by
  have e : (x <<< ((1 : Int32) &&& 31)).toInt = x.toInt * 2 ^ 1 := Jvm.Kit.i32_shl x _ (k := 1) (by decide) (by omega) (by omega)
  omega
/-- the two places of char j in an array of m = 2 n bytes -/
theorem own_two {j m n d : Int32} (h0 : 0 ≤ j.toInt) (hn : n.toInt ≤ 8) (h : j < n) (hm : m.toInt = 2 * n.toInt) (hd : d = j <<< ((1 : Int32) &&& 31)) : (¬ d < 0 ∧ d < m) ∧ (¬ (d + 1) < 0 ∧ (d + 1) < m) ∧ d.toNatClampNeg = 2 * j.toNatClampNeg ∧ (d + 1).toNatClampNeg = 2 * j.toNatClampNeg + 1 ∧ 2 * j.toNatClampNeg + 1 < m.toNatClampNeg := by
  rw [Int32.lt_iff_toInt_lt] at h
  have e := own_dbl h0 (by omega)
  rw [← hd] at e
  have e1 : (d + 1).toInt = d.toInt + 1 := Jvm.Kit.i32_add (q := 1) (by show _ ≤ d.toInt + 1; omega) (by show d.toInt + 1 < _; omega)
  have ej := own_tn h0
  have em := own_tn (x := m) (by omega)
  refine ⟨?_, ?_, ?_, ?_, ?_⟩
  · rw [Int32.lt_iff_toInt_lt, Int32.lt_iff_toInt_lt]; show ¬ _ < (0 : Int) ∧ _; omega
  · rw [Int32.lt_iff_toInt_lt, Int32.lt_iff_toInt_lt]; show ¬ _ < (0 : Int) ∧ _; omega
  · show d.toInt.toNat = _; omega
  · show (d + 1).toInt.toNat = _; omega
  · omega
theorem own_len2 {n m : Int32} (hn : 0 ≤ n.toInt ∧ n.toInt ≤ 8) (hm : m = n <<< ((1 : Int32) &&& 31)) : m.toInt = 2 * n.toInt ∧ ¬ n < 0 ∧ n < 1073741823 ∧ ¬ m < 0 ∧ m.toNatClampNeg ≤ 16 ∧ m.toNatClampNeg = 2 * n.toNatClampNeg := by
  have e := own_dbl hn.1 hn.2
  rw [← hm] at e
  have en := own_tn hn.1
  have em := own_tn (x := m) (by omega)
  refine ⟨e, ?_, ?_, ?_, by omega, by omega⟩
  · rw [Int32.lt_iff_toInt_lt]; show ¬ _ < (0 : Int); omega
  · rw [Int32.lt_iff_toInt_lt]; show _ < (1073741823 : Int); omega
  · rw [Int32.lt_iff_toInt_lt]; show ¬ _ < (0 : Int); omega
def own_gc (x y : Int32) : Int32 := (((x &&& 255) <<< ((0 : Int32) &&& 31)) ||| ((y &&& 255) <<< ((8 : Int32) &&& 31))).toUInt32.toUInt16.toUInt32.toInt32
theorem own_lt {i j n : Int32} (h : i.toInt ≤ j.toInt) (h2 : j < n) : i < n := by
  rw [Int32.lt_iff_toInt_lt] at h2 ⊢
  omega
theorem own_le8 {j n : Int32} (hn : 0 ≤ n.toInt ∧ n.toInt ≤ 8) (h : j < n) : j.toInt ≤ 8 := by
  rw [Int32.lt_iff_toInt_lt] at h
  omega
theorem own_nej {xs : List Value} {i j : Int32} (h0 : 0 ≤ i.toInt) (hb : (255 : Int32) < own_gt xs j.toNatClampNeg) (h : ¬ (255 : Int32) < own_gt xs i.toNatClampNeg) : ¬ i = j := fun q => h (q ▸ hb)
theorem own_ltj {i j : Int32} (h : i.toInt ≤ j.toInt) (h2 : ¬ i = j) : i < j := by
  rw [Int32.lt_iff_toInt_lt]
  have : i.toInt ≠ j.toInt := fun q => h2 (Int32.toInt_inj.mp q)
  omega
theorem own_atj {xs : List Value} {i j : Int32} (h0 : 0 ≤ i.toInt) (h : i.toInt ≤ j.toInt) (hl : ∀ k, k < j.toNatClampNeg → ¬ (255 : Int32) < own_gt xs k) (hb : (255 : Int32) < own_gt xs i.toNatClampNeg) : i = j := by
  apply Int32.toInt_inj.mp
  have e1 := own_tn h0
  have e2 := own_tn (x := j) (by omega)
  by_cases q : i.toNatClampNeg < j.toNatClampNeg
  · exact absurd hb (hl _ q)
  · omega
theorem own_cc (x : Int32) : (x.toUInt32.toUInt16.toUInt32.toInt32).toUInt32.toUInt16.toUInt32.toInt32 = x.toUInt32.toUInt16.toUInt32.toInt32 := by
  rw [UInt32.toUInt32_toInt32, UInt16.toUInt16_toUInt32]
theorem own_gcn (x y : Int32) : nar .char (own_gc x y) = own_gc x y := own_cc _
theorem own_c0 (x : Int32) : nar .byte ((ushI (x - x) 31).toInt8.toInt32) = 0 := by rw [Int32.sub_self]; decide
theorem own_neg {x m : Int32} (hx : 1 ≤ x.toInt ∧ x.toInt ≤ 8) (hm : m.toInt = 2 * x.toInt) : nar .byte ((ushI (x - m) 31).toInt8.toInt32) = 1 := by
  have back : ∀ k : Int32, x.toInt = k.toInt → x = k := fun k e => Int32.toInt_inj.mp e
  have backm : ∀ k : Int32, m.toInt = k.toInt → m = k := fun k e => Int32.toInt_inj.mp e
  have q : x.toInt = 1 ∨ x.toInt = 2 ∨ x.toInt = 3 ∨ x.toInt = 4 ∨ x.toInt = 5 ∨ x.toInt = 6 ∨ x.toInt = 7 ∨ x.toInt = 8 := by omega
  rcases q with q | q | q | q | q | q | q | q
  · rw [back 1 q, backm 2 (by show _ = (2 : Int); omega)]; decide
  · rw [back 2 q, backm 4 (by show _ = (4 : Int); omega)]; decide
  · rw [back 3 q, backm 6 (by show _ = (6 : Int); omega)]; decide
  · rw [back 4 q, backm 8 (by show _ = (8 : Int); omega)]; decide
  · rw [back 5 q, backm 10 (by show _ = (10 : Int); omega)]; decide
  · rw [back 6 q, backm 12 (by show _ = (12 : Int); omega)]; decide
  · rw [back 7 q, backm 14 (by show _ = (14 : Int); omega)]; decide
  · rw [back 8 q, backm 16 (by show _ = (16 : Int); omega)]; decide
theorem own_utfget (vs xs : List Value) (j : Nat) : ∀ n, j < n → 2 * n ≤ vs.length → (own_utf vs xs n).getD (2 * j) (.int (0 : Int32)) = own_lo (own_gt xs j) ∧ (own_utf vs xs n).getD (2 * j + 1) (.int (0 : Int32)) = own_hi (own_gt xs j)
  | 0, h, _ => absurd h (Nat.not_lt_zero _)
  | n + 1, h, hl => by
    have e := own_utflen vs xs n
    rw [own_utf]
    simp only [List.getD_eq_getElem?_getD]
    by_cases q : j = n
    · subst q
      rw [List.getElem?_set_ne (by omega), List.getElem?_set_self (by omega), List.getElem?_set_self (by rw [List.length_set]; omega)]
      exact ⟨rfl, rfl⟩
    · have ih := own_utfget vs xs j n (by omega) (by omega)
      simp only [List.getD_eq_getElem?_getD] at ih
      rw [List.getElem?_set_ne (by omega), List.getElem?_set_ne (by omega), List.getElem?_set_ne (by omega), List.getElem?_set_ne (by omega)]
      exact ih
theorem own_u16 (u : UInt16) : (u.toUInt32.toInt32).toInt = u.toNat := by
  have hu := u.toNat_lt
  have hc := BitVec.toInt_eq_toNat_cond u.toUInt32.toInt32.toBitVec
  have e : u.toUInt32.toInt32.toBitVec.toNat = u.toNat := by simp
  have ht : u.toUInt32.toInt32.toBitVec.toInt = u.toUInt32.toInt32.toInt := rfl
  rw [e, ht] at hc
  rw [hc, if_pos (by omega)]
theorem own_nn {a : Int32} {k : Nat} (h : a.toInt = k) (hk : k < 2 ^ 31) : a.toBitVec.toNat = k := by
  have hc := BitVec.toInt_eq_toNat_cond a.toBitVec
  have hl := a.toBitVec.isLt
  have ht : a.toBitVec.toInt = a.toInt := rfl
  rw [ht] at hc
  split at hc <;> omega
theorem own_gcv (x y : Int32) : (own_gc x y).toInt = x.toInt % 256 + 256 * (y.toInt % 256) := by
  obtain ⟨a, ha⟩ : ∃ a : Nat, (a : Int) = x.toInt % 256 := ⟨(x.toInt % 256).toNat, by omega⟩
  obtain ⟨b, hb⟩ : ∃ b : Nat, (b : Int) = y.toInt % 256 := ⟨(y.toInt % 256).toNat, by omega⟩
  have hx : (x &&& 255).toInt = x.toInt % 2 ^ 8 := Jvm.Kit.i32_mask x 255 (k := 8) (by decide) (by decide)
  have hy : (y &&& 255).toInt = y.toInt % 2 ^ 8 := Jvm.Kit.i32_mask y 255 (k := 8) (by decide) (by decide)
  have e1 : ((x &&& 255) <<< ((0 : Int32) &&& 31)).toInt = (x &&& 255).toInt * 2 ^ 0 := Jvm.Kit.i32_shl _ _ (k := 0) (by decide) (by omega) (by omega)
  have e2 : ((y &&& 255) <<< ((8 : Int32) &&& 31)).toInt = (y &&& 255).toInt * 2 ^ 8 := Jvm.Kit.i32_shl _ _ (k := 8) (by decide) (by omega) (by omega)
  have n1 := own_nn (a := (x &&& 255) <<< ((0 : Int32) &&& 31)) (k := a) (by omega) (by omega)
  have n2 := own_nn (a := (y &&& 255) <<< ((8 : Int32) &&& 31)) (k := b * 2 ^ 8) (by omega) (by omega)
  unfold own_gc
  rw [own_u16, UInt32.toNat_toUInt16]
  have eo : (((x &&& 255) <<< ((0 : Int32) &&& 31)) ||| ((y &&& 255) <<< ((8 : Int32) &&& 31))).toUInt32.toNat = a ||| (b * 2 ^ 8) := by
    show (((x &&& 255) <<< ((0 : Int32) &&& 31)) ||| ((y &&& 255) <<< ((8 : Int32) &&& 31))).toBitVec.toNat = _
    rw [Int32.toBitVec_or, BitVec.toNat_or, n1, n2]
  have es : a ||| (b * 2 ^ 8) = b * 2 ^ 8 + a := by
    rw [Nat.or_comm, ← Nat.shiftLeft_eq, Nat.shiftLeft_add_eq_or_of_lt (by omega)]
  rw [eo, es]
  omega
theorem own_gcz {z : Int32} (h : 0 ≤ z.toInt ∧ z.toInt ≤ 65535) : own_gc (nar .byte ((z >>> ((0 : Int32) &&& 31)).toInt8.toInt32)) (nar .byte ((z >>> ((8 : Int32) &&& 31)).toInt8.toInt32)) = z := by
  have nb : ∀ x : Int32, nar .byte (x.toInt8.toInt32) = x.toInt8.toInt32 := fun x => by
    show (x.toInt8.toInt32).toInt8.toInt32 = x.toInt8.toInt32
    rw [Int8.toInt8_toInt32]
  have md : ∀ x : Int32, (x.toInt8.toInt32).toInt % 256 = x.toInt % 256 := fun x => by
    rw [Int8.toInt_toInt32, Int32.toInt_toInt8]
    exact Int.bmod_emod
  have s0 : (z >>> ((0 : Int32) &&& 31)).toInt = z.toInt / 2 ^ 0 := Jvm.Kit.i32_shr z _ (k := 0) (by decide)
  have s8 : (z >>> ((8 : Int32) &&& 31)).toInt = z.toInt / 2 ^ 8 := Jvm.Kit.i32_shr z _ (k := 8) (by decide)
  apply Int32.toInt_inj.mp
  rw [own_gcv, nb, nb, md, md, s0, s8]
  omega
theorem own_pn {n : Int32} (h : 0 ≤ n.toInt ∧ n.toInt ≤ 8) : ¬ n < 0 ∧ n.toNatClampNeg ≤ 8 := by
  have e := own_tn h.1
  refine ⟨?_, by omega⟩
  rw [Int32.lt_iff_toInt_lt]
  show ¬ _ < (0 : Int)
  omega
theorem own_ltne {i n : Int32} (h : i < n) : ¬ i = n := fun q => by rw [q, Int32.lt_iff_toInt_lt] at h; omega
theorem own_jn {j n : Int32} (h0 : 0 ≤ j.toInt) (h : j < n) : j.toNatClampNeg < n.toNatClampNeg := by
  rw [Int32.lt_iff_toInt_lt] at h
  have e1 := own_tn h0
  have e2 := own_tn (x := n) (by omega)
  omega
theorem own_1n {n : Int32} (h : 0 ≤ n.toInt ∧ n.toInt ≤ 8) (h0 : ¬ n = 0) : 1 ≤ n.toInt ∧ n.toInt ≤ 8 := by
  refine ⟨?_, h.2⟩
  by_cases q : n.toInt = 0
  · exact absurd (Int32.toInt_inj.mp (q.trans rfl)) h0
  · omega
/-- the first n chars -/
def own_tk (as : List Value) (n : Nat) : List Value := (List.range n).map fun i => .int (nar .char (own_gt as i))
theorem own_tkg (as : List Value) (n i : Nat) (h : i < n) : own_gt (own_tk as n) i = nar .char (own_gt as i) := by
  unfold own_tk
  show (match ((List.range n).map fun i => Value.int (nar .char (own_gt as i))).getD i (.int (0 : Int32)) with | .int z => z | _ => 0) = _
  simp [List.getD_eq_getElem?_getD, h]
theorem own_tkc (as : List Value) (n : Nat) : own_chs (own_tk as n) := fun i => by
  unfold own_tk
  by_cases h : i < n
  · exact ⟨nar .char (own_gt as i), by simp [List.getD_eq_getElem?_getD, h]⟩
  · exact ⟨0, by simp [List.getD_eq_getElem?_getD, h]⟩
def own_ch (b : Int32) : Int32 := (b &&& 255).toUInt32.toUInt16.toUInt32.toInt32
theorem own_chn (b : Int32) : nar .char ((b &&& 255).toUInt32.toUInt16.toUInt32.toInt32) = own_ch b := own_cc _
theorem own_chm (b : Int32) : nar .char (own_ch b) = own_ch b := own_cc _
theorem own_sh0 (x : Int32) : x >>> ((0 : Int32) &&& 31) = x := by
  rw [show (0 : Int32) &&& 31 = 0 by decide, Int32.shiftRight_zero]
/-- two byte arrays alike -/
def own_eqb (n m : Int32) (vs ws : List Value) : Int32 := if n = m then (if (List.range n.toNatClampNeg).all fun i => own_gt vs i == own_gt ws i then 1 else 0) else 0
theorem own_eqb0 {n m : Int32} {vs ws : List Value} (h : ¬ n = m) : own_eqb n m vs ws = 0 := if_neg h
theorem own_eqbd {n : Int32} {vs ws : List Value} {i : Nat} (hi : i < n.toNatClampNeg) (h : ¬ own_gt vs i = own_gt ws i) : own_eqb n n vs ws = 0 := by
  unfold own_eqb
  rw [if_pos rfl, if_neg]
  intro q
  have := List.all_eq_true.mp q i (List.mem_range.mpr hi)
  exact h (by simpa using this)
theorem own_eqb1 {n : Int32} {vs ws : List Value} (h : ∀ i, i < n.toNatClampNeg → own_gt vs i = own_gt ws i) : own_eqb n n vs ws = 1 := by
  unfold own_eqb
  rw [if_pos rfl, if_pos]
  exact List.all_eq_true.mpr fun i hi => by simpa using h i (List.mem_range.mp hi)
theorem own_more {vs ws : List Value} {i : Nat} (h : ∀ k, k < i → own_gt vs k = own_gt ws k) (q : own_gt vs i = own_gt ws i) : ∀ k, k < i + 1 → own_gt vs k = own_gt ws k := fun k hk => by
  by_cases e : k = i
  · rw [e]; exact q
  · exact h k (by omega)
theorem own_e0 {n m : Int32} {vs ws : List Value} (h : own_eqb n m vs ws = 0) : (0 : Int32) = own_eqb n m vs ws := h.symm
theorem own_e1 {n m : Int32} {vs ws : List Value} (h : ¬ own_eqb n m vs ws = 0) : (1 : Int32) = own_eqb n m vs ws := by
  unfold own_eqb at h ⊢
  by_cases q : n = m
  · rw [if_pos q] at h ⊢
    split at h
    · rename_i r
      rw [if_pos r]
    · exact absurd rfl h
  · rw [if_neg q] at h
    exact absurd rfl h
def own_ba (d : Int64) (j : Int32) : Int32 := ((ushL d (8 * j)) &&& 255).toInt32.toUInt32.toUInt16.toUInt32.toInt32
theorem own_ban (d : Int64) (j : Int32) : nar .char (own_ba d j) = own_ba d j := own_cc _

theorem own_appg (vs xs : List Value) (k : Nat) : ∀ n, k < n → n ≤ vs.length → own_gt (own_app vs xs 0 n) k = nar .byte ((own_gt xs k).toInt8.toInt32)
  | 0, h, _ => absurd h (Nat.not_lt_zero _)
  | n + 1, h, hl => by
    have e := own_applen vs xs 0 n
    rw [own_app, Nat.zero_add]
    by_cases q : k = n
    · subst q
      unfold own_gt
      rw [List.getD_eq_getElem?_getD, List.getElem?_set_self (by omega)]
      rfl
    · have ih := own_appg vs xs k n (by omega) (by omega)
      rw [← ih]
      unfold own_gt
      rw [List.getD_eq_getElem?_getD, List.getElem?_set_ne (by omega), ← List.getD_eq_getElem?_getD]
theorem own_gts (as : List Value) (j k : Nat) (z : Int32) (hj : j < as.length) : own_gt (as.set j (.int z)) k = if k = j then z else own_gt as k := by
  unfold own_gt
  by_cases q : k = j
  · subst q
    rw [if_pos rfl, List.getD_eq_getElem?_getD, List.getElem?_set_self hj]
    rfl
  · rw [if_neg q, List.getD_eq_getElem?_getD, List.getElem?_set_ne (by omega), ← List.getD_eq_getElem?_getD]
theorem own_chsI {xs : List Value} (h : ∀ v ∈ xs, ∃ z : Int32, v = .int z) : own_chs xs := fun i => by
  rw [List.getD_eq_getElem?_getD]
  cases q : xs[i]? with
  | none => exact ⟨0, rfl⟩
  | some v => exact h v (List.mem_of_getElem? q)
theorem own_chm' {xs : List Value} (h : own_chs xs) : ∀ v ∈ xs, ∃ z : Int32, v = .int z := fun v hv => by
  obtain ⟨i, hi⟩ := List.getElem?_of_mem hv
  obtain ⟨z, e⟩ := h i
  rw [List.getD_eq_getElem?_getD, hi] at e
  exact ⟨z, e⟩
theorem own_chset {as : List Value} (h : own_chs as) (j : Nat) (z : Int32) : own_chs (as.set j (.int z)) := own_chsI fun v hv => by
  rcases List.mem_or_eq_of_mem_set hv with q | q
  · exact own_chm' h v q
  · exact ⟨z, q⟩
theorem own_repc (n : Nat) : own_chs (List.replicate n (.int (0 : Int32))) := own_chsI fun v hv => ⟨0, List.eq_of_mem_replicate hv⟩
theorem own_appc {vs : List Value} (h : own_chs vs) (xs : List Value) (t : Nat) : ∀ n, own_chs (own_app vs xs t n)
  | 0 => h
  | n + 1 => by rw [own_app]; exact own_chset (own_appc h xs t n) _ _
theorem own_wlc (n m : Nat) (xs : List Value) : own_chs (own_app (List.replicate n (.int (0 : Int32))) xs 0 m) := own_appc (own_repc n) xs 0 m
def own_al0 : List Value := [.int (105 : Int32), .int (110 : Int32), .int (116 : Int32), .int (120 : Int32), .int (120 : Int32), .int (120 : Int32), .int (120 : Int32), .int (120 : Int32)]
def own_al1 : List Value := [.int (100 : Int32), .int (101 : Int32), .int (99 : Int32), .int (105 : Int32), .int (109 : Int32), .int (97 : Int32), .int (108 : Int32), .int (120 : Int32)]
def own_al2 : List Value := [.int (115 : Int32), .int (116 : Int32), .int (114 : Int32), .int (105 : Int32), .int (110 : Int32), .int (103 : Int32), .int (120 : Int32), .int (120 : Int32)]
def own_nl0 : List Value := [.int (105 : Int32), .int (110 : Int32), .int (116 : Int32)]
def own_nl1 : List Value := [.int (100 : Int32), .int (101 : Int32), .int (99 : Int32), .int (105 : Int32), .int (109 : Int32), .int (97 : Int32), .int (108 : Int32)]
def own_nl2 : List Value := [.int (115 : Int32), .int (116 : Int32), .int (114 : Int32), .int (105 : Int32), .int (110 : Int32), .int (103 : Int32)]
theorem own_alc0 : own_chs own_al0 := own_chsI (by simp [own_al0])
theorem own_alc1 : own_chs own_al1 := own_chsI (by simp [own_al1])
theorem own_alc2 : own_chs own_al2 := own_chsI (by simp [own_al2])
theorem own_nlc0 : own_chs [.int (105 : Int32), .int (110 : Int32), .int (116 : Int32)] := own_chsI (by simp)
theorem own_nlc1 : own_chs [.int (100 : Int32), .int (101 : Int32), .int (99 : Int32), .int (105 : Int32), .int (109 : Int32), .int (97 : Int32), .int (108 : Int32)] := own_chsI (by simp)
theorem own_nlc2 : own_chs [.int (115 : Int32), .int (116 : Int32), .int (114 : Int32), .int (105 : Int32), .int (110 : Int32), .int (103 : Int32)] := own_chsI (by simp)
def own_bl (d : Int64) : List Value := [.int (nar .char (own_ba d 0)), .int (nar .char (own_ba d 1)), .int (nar .char (own_ba d 2)), .int (nar .char (own_ba d 3)), .int (nar .char (own_ba d 4)), .int (nar .char (own_ba d 5)), .int (nar .char (own_ba d 6)), .int (nar .char (own_ba d 7))]
theorem own_blc (d : Int64) : own_chs (own_bl d) := own_chsI (by simp [own_bl])
theorem own_bar (d : Int64) (j : Int32) : ¬ (255 : Int32) < own_ba d j := by
  obtain ⟨y, hy⟩ : ∃ y : Int64, y = ushL d (8 * j) &&& 255 := ⟨_, rfl⟩
  have hm : (ushL d (8 * j) &&& 255).toInt = (ushL d (8 * j)).toInt % 2 ^ 8 := Jvm.Kit.i64_mask (ushL d (8 * j)) 255 (k := 8) (by decide) (by decide)
  unfold own_ba
  rw [← hy] at hm ⊢
  rw [Int32.lt_iff_toInt_lt, own_u16]
  have e : y.toInt32.toUInt32.toUInt16.toNat = y.toInt32.toUInt32.toNat % 65536 := by rw [UInt32.toNat_toUInt16]
  have hn : y.toInt32.toInt = y.toInt := by rw [Int64.toInt_toInt32]; exact Int.bmod_eq_of_le (by omega) (by omega)
  have hk := own_nn (a := y.toInt32) (k := y.toInt.toNat) (by omega) (by omega)
  have e2 : y.toInt32.toUInt32.toNat = y.toInt.toNat := hk
  rw [e, e2]
  show ¬ (255 : Int) < _
  omega
theorem own_bll (d : Int64) : ∀ i, ¬ (255 : Int32) < nar .char (own_gt (own_bl d) i) := fun i => by
  have key : ∀ j : Int32, ¬ (255 : Int32) < nar .char (nar .char (own_ba d j)) := fun j => by rw [own_ban, own_ban]; exact own_bar d j
  match i with
  | 0 => exact key 0
  | 1 => exact key 1
  | 2 => exact key 2
  | 3 => exact key 3
  | 4 => exact key 4
  | 5 => exact key 5
  | 6 => exact key 6
  | 7 => exact key 7
  | k + 8 =>
    have : own_gt (own_bl d) (k + 8) = 0 := rfl
    rw [this]; decide
/-- the three lists' chars are small -/
theorem own_latk {as : List Value} (h : ∀ i, ¬ (255 : Int32) < nar .char (own_gt as i)) (n : Nat) : ∀ i, i < n → ¬ (255 : Int32) < own_gt (own_tk as n) i := fun i hi => by
  rw [own_tkg _ _ _ hi]; exact h i
theorem own_als {as : List Value} (h : as.length = 8) (q : ∀ i, i < 8 → ¬ (255 : Int32) < nar .char (own_gt as i)) : ∀ i, ¬ (255 : Int32) < nar .char (own_gt as i) := fun i => by
  by_cases c : i < 8
  · exact q i c
  · have : own_gt as i = 0 := by
      unfold own_gt
      rw [List.getD_eq_getElem?_getD, List.getElem?_eq_none (by omega)]
      rfl
    rw [this]; decide
theorem own_als0 : ∀ i, ¬ (255 : Int32) < nar .char (own_gt own_al0 i) := own_als rfl (by decide +kernel)
theorem own_als1 : ∀ i, ¬ (255 : Int32) < nar .char (own_gt own_al1 i) := own_als rfl (by decide +kernel)
theorem own_als2 : ∀ i, ¬ (255 : Int32) < nar .char (own_gt own_al2 i) := own_als rfl (by decide +kernel)
/-- the char drawn -/
theorem own_zc {z x : Int32} (h : z = x.toUInt32.toUInt16.toUInt32.toInt32) : (0 ≤ z.toInt ∧ z.toInt ≤ 65535) ∧ nar .char z = z := by
  refine ⟨?_, by rw [h]; exact own_cc x⟩
  have := x.toUInt32.toUInt16.toNat_lt
  rw [h, own_u16]
  omega
theorem own_c4 {z x : Int32} (h : z = x &&& 3) : z = 0 ∨ z = 1 ∨ z = 2 ∨ z = 3 := by
  have e : (x &&& 3).toInt = x.toInt % 2 ^ 2 := Jvm.Kit.i32_mask x 3 (k := 2) (by decide) (by decide)
  rw [← h] at e
  have b : ∀ k : Int32, z.toInt = k.toInt → z = k := fun k e => Int32.toInt_inj.mp e
  have q : z.toInt = 0 ∨ z.toInt = 1 ∨ z.toInt = 2 ∨ z.toInt = 3 := by omega
  rcases q with q | q | q | q
  · exact Or.inl (b 0 q)
  · exact Or.inr (Or.inl (b 1 q))
  · exact Or.inr (Or.inr (Or.inl (b 2 q)))
  · exact Or.inr (Or.inr (Or.inr (b 3 q)))
theorem own_m7 (x : Int32) : 0 ≤ (x &&& 7).toInt ∧ (x &&& 7).toInt ≤ 7 := by
  have e : (x &&& 7).toInt = x.toInt % 2 ^ 3 := Jvm.Kit.i32_mask x 7 (k := 3) (by decide) (by decide)
  omega
theorem own_c8 {z : Int32} (h : 0 ≤ z.toInt ∧ z.toInt ≤ 7) : z = 0 ∨ z = 1 ∨ z = 2 ∨ z = 3 ∨ z = 4 ∨ z = 5 ∨ z = 6 ∨ z = 7 := by
  have b : ∀ k : Int32, z.toInt = k.toInt → z = k := fun k e => Int32.toInt_inj.mp e
  have q : z.toInt = 0 ∨ z.toInt = 1 ∨ z.toInt = 2 ∨ z.toInt = 3 ∨ z.toInt = 4 ∨ z.toInt = 5 ∨ z.toInt = 6 ∨ z.toInt = 7 := by omega
  rcases q with q | q | q | q | q | q | q | q
  · exact Or.inl (b 0 q)
  · exact Or.inr (Or.inl (b 1 q))
  · exact Or.inr (Or.inr (Or.inl (b 2 q)))
  · exact Or.inr (Or.inr (Or.inr (Or.inl (b 3 q))))
  · exact Or.inr (Or.inr (Or.inr (Or.inr (Or.inl (b 4 q)))))
  · exact Or.inr (Or.inr (Or.inr (Or.inr (Or.inr (Or.inl (b 5 q))))))
  · exact Or.inr (Or.inr (Or.inr (Or.inr (Or.inr (Or.inr (Or.inl (b 6 q)))))))
  · exact Or.inr (Or.inr (Or.inr (Or.inr (Or.inr (Or.inr (Or.inr (b 7 q)))))))
/-- the place drawn -/
theorem own_rem {x n d : Int32} {k : Nat} (hn : n.toInt = k) (hk : 0 < k) (h8 : k ≤ 8) (hd : d = (x &&& 2147483647) % n) : (0 ≤ d.toInt ∧ d < n) ∧ (¬ d < 0 ∧ d < 8) ∧ d.toNatClampNeg < k := by
  have e : (x &&& 2147483647).toInt = x.toInt % 2 ^ 31 := Jvm.Kit.i32_mask x 2147483647 (k := 31) (by decide) (by decide)
  have e2 : d.toInt = (x &&& 2147483647).toInt.tmod n.toInt := by rw [hd, Int32.toInt_mod]
  have h0 : 0 ≤ (x &&& 2147483647).toInt := by omega
  have e3 : d.toInt = (x &&& 2147483647).toInt % n.toInt := by rw [e2]; exact Int.tmod_eq_emod_of_nonneg h0
  have l0 : 0 ≤ d.toInt := by rw [e3]; exact Int.emod_nonneg _ (by omega)
  have l1 : d.toInt < n.toInt := by rw [e3]; exact Int.emod_lt_of_pos _ (by omega)
  have et := own_tn l0
  refine ⟨⟨l0, ?_⟩, ⟨?_, ?_⟩, by omega⟩
  · rw [Int32.lt_iff_toInt_lt]; exact l1
  · rw [Int32.lt_iff_toInt_lt]; show ¬ _ < (0 : Int); omega
  · rw [Int32.lt_iff_toInt_lt]; show _ < (8 : Int); omega
/-- one char changed: small, or not -/
theorem own_setg {as : List Value} {j n : Nat} {z : Int32} (hz : nar .char z = z) (hj : j < as.length) {i : Nat} (hi : i < n) : own_gt (own_tk (as.set j (.int (nar .char z))) n) i = if i = j then z else nar .char (own_gt as i) := by
  rw [own_tkg _ _ _ hi, own_gts _ _ _ _ hj]
  split
  · rw [hz, hz]
  · rfl
theorem own_hl {as : List Value} {j n : Nat} {z : Int32} (hz : nar .char z = z) (hj : j < as.length) (hs : ¬ (255 : Int32) < z) (ha : ∀ i, ¬ (255 : Int32) < nar .char (own_gt as i)) : ∀ i, i < n → ¬ (255 : Int32) < own_gt (own_tk (as.set j (.int (nar .char z))) n) i := fun i hi => by
  rw [own_setg hz hj hi]
  split
  · exact hs
  · exact ha i
theorem own_hu {as : List Value} {j n : Nat} {z : Int32} (hz : nar .char z = z) (hj : j < as.length) (hjn : j ≤ n) (ha : ∀ i, ¬ (255 : Int32) < nar .char (own_gt as i)) : ∀ i, i < j → ¬ (255 : Int32) < own_gt (own_tk (as.set j (.int (nar .char z))) n) i := fun i hi => by
  rw [own_setg hz hj (Nat.lt_of_lt_of_le hi hjn), if_neg (Nat.ne_of_lt hi)]
  exact ha i
theorem own_hg {as : List Value} {j n : Nat} {z : Int32} (hz : nar .char z = z) (hj : j < as.length) (hjn : j < n) : own_gt (own_tk (as.set j (.int (nar .char z))) n) j = z := by
  rw [own_setg hz hj hjn, if_pos rfl]
theorem own_hb {as : List Value} {j n : Nat} {z : Int32} (hz : nar .char z = z) (hj : j < as.length) (hjn : j < n) (hb : (255 : Int32) < z) : (255 : Int32) < own_gt (own_tk (as.set j (.int (nar .char z))) n) j := by
  rw [own_hg hz hj hjn]; exact hb
theorem own_hr {as : List Value} {j n : Nat} {z : Int32} (hz : nar .char z = z) (hj : j < as.length) (hjn : j < n) (hr : 0 ≤ z.toInt ∧ z.toInt ≤ 65535) : 0 ≤ (own_gt (own_tk (as.set j (.int (nar .char z))) n) j).toInt ∧ (own_gt (own_tk (as.set j (.int (nar .char z))) n) j).toInt ≤ 65535 := by
  rw [own_hg hz hj hjn]; exact hr
/-- the bytes of a changed name -/
theorem own_wg {as : List Value} {j n k : Nat} {z : Int32} (hz : nar .char z = z) (hj : j < as.length) (hk : k < n) : own_gt (own_app (List.replicate n (.int (0 : Int32))) (own_tk (as.set j (.int (nar .char z))) n) 0 n) k = nar .byte ((if k = j then z else nar .char (own_gt as k)).toInt8.toInt32) := by
  rw [own_appg _ _ _ _ hk (by rw [List.length_replicate]; exact Nat.le_refl _), own_setg hz hj hk]
theorem own_binj {x y : Int32} (hx : 0 ≤ x.toInt ∧ x.toInt ≤ 255) (hy : 0 ≤ y.toInt ∧ y.toInt ≤ 255) (h : nar .byte (x.toInt8.toInt32) = nar .byte (y.toInt8.toInt32)) : x = y := by
  have nb : ∀ x : Int32, nar .byte (x.toInt8.toInt32) = x.toInt8.toInt32 := fun x => by
    show (x.toInt8.toInt32).toInt8.toInt32 = x.toInt8.toInt32
    rw [Int8.toInt8_toInt32]
  have md : ∀ x : Int32, (x.toInt8.toInt32).toInt % 256 = x.toInt % 256 := fun x => by
    rw [Int8.toInt_toInt32, Int32.toInt_toInt8]
    exact Int.bmod_emod
  rw [nb, nb] at h
  have e := md x
  rw [h, md y] at e
  exact Int32.toInt_inj.mp (by omega)
theorem own_255 {z : Int32} (h : ¬ (255 : Int32) < z) : z.toInt ≤ 255 := by
  rw [Int32.lt_iff_toInt_lt] at h
  have : ((255 : Int32)).toInt = 255 := rfl
  omega
theorem own_lts {z : Int32} (hb : (255 : Int32) < z) {y : Int32} (hy : y.toInt ≤ 255) : ¬ z = y := fun q => by
  rw [Int32.lt_iff_toInt_lt] at hb
  have : ((255 : Int32)).toInt = 255 := rfl
  rw [q] at hb
  omega
/-- name and chars agree on the first n -/
def own_nm (n : Nat) (ls as : List Value) : Prop := as.length = 8 ∧ n ≤ 8 ∧ ∀ k, k < n → own_gt ls k = nar .byte ((nar .char (own_gt as k)).toInt8.toInt32) ∧ nar .char (own_gt as k) = own_gt as k ∧ 0 ≤ (own_gt as k).toInt ∧ (own_gt as k).toInt ≤ 255
theorem own_nm0 : own_nm 3 own_nl0 own_al0 := ⟨rfl, by decide, by decide +kernel⟩
theorem own_nm1 : own_nm 7 own_nl1 own_al1 := ⟨rfl, by decide, by decide +kernel⟩
theorem own_nm2 : own_nm 6 own_nl2 own_al2 := ⟨rfl, by decide, by decide +kernel⟩
theorem own_old {n : Nat} {ls as : List Value} (h : own_nm n ls as) {j : Nat} (hj : j < n) {z : Int32} (hb : (255 : Int32) < z) : ¬ z = own_gt as j := own_lts hb (h.2.2 j hj).2.2.2
theorem own_same {n : Int32} {k : Nat} (hk : n.toNatClampNeg = k) {ls as : List Value} (h : own_nm k ls as) {j : Nat} (hj : j < k) {z : Int32} (hz : nar .char z = z) (e : z = own_gt as j) : ¬ own_eqb n n ls (own_app (List.replicate n.toNatClampNeg (.int (0 : Int32))) (own_tk (as.set j (.int (nar .char z))) k) 0 n.toNatClampNeg) = 0 := by
  rw [own_eqb1]
  · decide
  · intro i hi
    rw [hk] at hi ⊢
    rw [own_wg hz (by rw [h.1]; exact Nat.lt_of_lt_of_le hj h.2.1) hi, (h.2.2 i hi).1]
    split
    · rename_i q
      rw [q, e, (h.2.2 j hj).2.1]
    · rfl
theorem own_diff {n : Int32} {k : Nat} (hk : n.toNatClampNeg = k) {ls as : List Value} (h : own_nm k ls as) {j : Nat} (hj : j < k) {z : Int32} (hz : nar .char z = z) (hr : 0 ≤ z.toInt) (hs : ¬ (255 : Int32) < z) (e : ¬ z = own_gt as j) : own_eqb n n ls (own_app (List.replicate n.toNatClampNeg (.int (0 : Int32))) (own_tk (as.set j (.int (nar .char z))) k) 0 n.toNatClampNeg) = 0 := by
  refine own_eqbd (i := j) (by rw [hk]; exact hj) ?_
  rw [hk, own_wg hz (by rw [h.1]; exact Nat.lt_of_lt_of_le hj h.2.1) hj, (h.2.2 j hj).1, if_pos rfl, (h.2.2 j hj).2.1]
  exact fun q => e (own_binj (h.2.2 j hj).2.2 ⟨hr, own_255 hs⟩ q).symm
/-- string and one more is not decimal -/
theorem own_sd {z : Int32} (hz : nar .char z = z) : own_eqb 7 7 own_nl1 (own_app (List.replicate (7 : Int32).toNatClampNeg (.int (0 : Int32))) (own_tk (own_al2.set 6 (.int (nar .char z))) 7) 0 (7 : Int32).toNatClampNeg) = 0 := by
  refine own_eqbd (i := 0) (by decide) ?_
  show ¬ _ = own_gt (own_app (List.replicate 7 (.int (0 : Int32))) (own_tk (own_al2.set 6 (.int (nar .char z))) 7) 0 7) 0
  rw [own_wg hz (by decide) (by decide), if_neg (by decide)]
  decide +kernel
/-- one cell read twice -/
theorem own_fone {Z : State} {h : Heap} {a : Addr} {C n d : String} {v w : Value} (F : Fld Z h a C n d v) (G : Fld Z h a C n d w) : v = w := by
  obtain ⟨cell, cf, k, i, f, h1, h2, h3, h4, h5, h6, h7⟩ := F
  obtain ⟨cell', cf', k', i', f', g1, g2, g3, g4, g5, g6, g7⟩ := G
  cases h1.symm.trans g1
  have e := h2.symm.trans g2
  simp only [Option.some.injEq, Prod.mk.injEq] at e
  rw [← e.2.2.2, h7] at g7
  exact Option.some.inj g7
theorem own_sm {Z : State} {h : Heap} {a b x y : Addr} {C n d : String} {k k' : ClassId} {u u' : Int32} {vs ws : List Value} (e : a = b) (F : Fld Z h a C n d (.ref x)) (G : Fld Z h b C n d (.ref y)) (A : Arv Z h x k .byte u vs (.int (0 : Int32))) (B : Arv Z h y k' .byte u' ws (.int (0 : Int32))) : (1 : Int32) = own_eqb u u' vs ws := by
  subst e
  have q := own_fone F G
  cases q
  obtain ⟨cl, Ar, qa, sa, na, ha, ga⟩ := A
  obtain ⟨cl', Ar', qa', sa', na', ha', ga'⟩ := B
  cases Ar.1.symm.trans Ar'.1
  have ex : u = u' := by
    apply Int32.toInt_inj.mp
    have e1 : 0 ≤ u.toInt := by rw [Int32.lt_iff_toInt_lt] at na; have : ((0 : Int32)).toInt = 0 := rfl; omega
    have e2 : 0 ≤ u'.toInt := by rw [Int32.lt_iff_toInt_lt] at na'; have : ((0 : Int32)).toInt = 0 := rfl; omega
    have t1 := own_tn e1
    have t2 := own_tn e2
    omega
  subst ex
  refine (own_eqb1 fun i hi => ?_).symm
  have e1 := ha i (by omega)
  have e2 := ha' i (by omega)
  unfold own_gt
  rw [Option.some.inj (e1.symm.trans e2)]
/-- what the sheet says of the start -/
theorem own_eqv {args : Array Value} {s : State} {t : Term} {k : Int32} (h : (Cond.eq t (.int k)).value args s none s [] = some true) : t.eval args s none [] s = some (.int k) := by
  obtain ⟨x, y, hx, hy, h1, h2⟩ := cmp_v (Or.inl h)
  cases (Option.some.inj ((Term.int_eval k).symm.trans hy))
  obtain ⟨z, rfl⟩ := h2
  rw [hx]
  exact congrArg (fun z => some (Value.int z)) (gotT (Cond.eq_ints hx hy) h)
theorem own_eqr {args : Array Value} {s : State} {t u : Term} {a : Addr} (h : (Cond.eq t u).value args s none s [] = some true) (hu : u.eval args s none [] s = some (.ref a)) : t.eval args s none [] s = some (.ref a) := by
  obtain ⟨x, y, hx, hy, h1, h2⟩ := cmp_v (Or.inl h)
  cases Option.some.inj (hu.symm.trans hy)
  rw [hx]
  cases x <;> simp [Cond.value, hx, hu] at h
  case ref b => rw [h]
theorem own_slots {args : Array Value} {s : State} {t : Term} {a : Addr} {cl : Cell} {ty : FieldType} {k : Int32} {vs : List Value} (ev : t.eval args s none [] s = some (.ref a)) (A : Arr s s.heap a cl ty) (h6 : (Term.length t).eval args s none [] s = some (.int k)) (hk : k.toNatClampNeg = vs.length) (H : HasL cl 0 vs) : cl.slots = vs.toArray := by
  have hat : s.arrayAt? a = some cl := Arr.fin (State.Warmed39.refl s).alike A
  have hsz : cl.slots.size = vs.length := by
    simp [Term.eval, ev, hat] at h6
    obtain ⟨b, e⟩ := h6
    rw [← hk, ← e]
    simp only [Int32.toNatClampNeg, len_toInt b]
    rfl
  apply Array.ext
  · simpa using hsz
  · intro i h1 h2
    have q := HasL.at (dv := .null) vs 0 H i (by omega)
    rw [Nat.zero_add, Array.getElem?_eq_getElem h1] at q
    have e := Option.some.inj q
    rw [e]
    simp [List.getD_eq_getElem?_getD, show i < vs.length by omega]

def own_AL : List Value := [.int (1207963663 : Int32), .int (1207963663 : Int32), .int (1207963663 : Int32), .int (1207963663 : Int32), .int (1207963663 : Int32), .int (1207963663 : Int32), .int (1207963663 : Int32), .int (1207963663 : Int32), .int (1207963663 : Int32), .int (1476411407 : Int32), .int (1342193679 : Int32), .int (1476411407 : Int32), .int (1610629135 : Int32), .int (1342193679 : Int32), .int (1207963663 : Int32), .int (1207963663 : Int32), .int (1207963663 : Int32), .int (1207963663 : Int32), .int (1207963663 : Int32), .int (1207963663 : Int32), .int (1207963663 : Int32), .int (1207963663 : Int32), .int (1207963663 : Int32), .int (1207963663 : Int32), .int (1207963663 : Int32), .int (1207963663 : Int32), .int (1207963663 : Int32), .int (1207963663 : Int32), .int (1342193679 : Int32), .int (1342193679 : Int32), .int (1342193679 : Int32), .int (1476411407 : Int32), .int (1610629132 : Int32), .int (1744830488 : Int32), .int (1744830488 : Int32), .int (671088664 : Int32), .int (671113242 : Int32), .int (671088664 : Int32), .int (1744830488 : Int32), .int (1744830488 : Int32), .int (-402653163 : Int32), .int (-402653162 : Int32), .int (1744830488 : Int32), .int (536870937 : Int32), .int (939524120 : Int32), .int (536870932 : Int32), .int (939524120 : Int32), .int (939524120 : Int32), .int (402667017 : Int32), .int (402667017 : Int32), .int (402667017 : Int32), .int (402667017 : Int32), .int (402667017 : Int32), .int (402667017 : Int32), .int (402667017 : Int32), .int (402667017 : Int32), .int (402667017 : Int32), .int (402667017 : Int32), .int (939524120 : Int32), .int (1744830488 : Int32), .int (-402653159 : Int32), .int (1744830489 : Int32), .int (-402653159 : Int32), .int (1744830488 : Int32), .int (1744830488 : Int32), .int (8552417 : Int32), .int (8552417 : Int32), .int (8552417 : Int32), .int (8552417 : Int32), .int (8552417 : Int32), .int (8552417 : Int32), .int (8552417 : Int32), .int (8552417 : Int32), .int (8552417 : Int32), .int (8552417 : Int32), .int (8552417 : Int32), .int (8552417 : Int32), .int (8552417 : Int32), .int (8552417 : Int32), .int (8552417 : Int32), .int (8552417 : Int32), .int (8552417 : Int32), .int (8552417 : Int32), .int (8552417 : Int32), .int (8552417 : Int32), .int (8552417 : Int32), .int (8552417 : Int32), .int (8552417 : Int32), .int (8552417 : Int32), .int (8552417 : Int32), .int (8552417 : Int32), .int (-402653163 : Int32), .int (1744830488 : Int32), .int (-402653162 : Int32), .int (1744830491 : Int32), .int (1744850967 : Int32), .int (1744830491 : Int32), .int (8486882 : Int32), .int (8486882 : Int32), .int (8486882 : Int32), .int (8486882 : Int32), .int (8486882 : Int32), .int (8486882 : Int32), .int (8486882 : Int32), .int (8486882 : Int32), .int (8486882 : Int32), .int (8486882 : Int32), .int (8486882 : Int32), .int (8486882 : Int32), .int (8486882 : Int32), .int (8486882 : Int32), .int (8486882 : Int32), .int (8486882 : Int32), .int (8486882 : Int32), .int (8486882 : Int32), .int (8486882 : Int32), .int (8486882 : Int32), .int (8486882 : Int32), .int (8486882 : Int32), .int (8486882 : Int32), .int (8486882 : Int32), .int (8486882 : Int32), .int (8486882 : Int32), .int (-402653163 : Int32), .int (1744830489 : Int32), .int (-402653162 : Int32), .int (1744830489 : Int32), .int (1207963663 : Int32), .int (1207963663 : Int32), .int (1207963663 : Int32), .int (1207963663 : Int32), .int (1207963663 : Int32), .int (1207963663 : Int32), .int (1342181391 : Int32), .int (1207963663 : Int32), .int (1207963663 : Int32), .int (1207963663 : Int32), .int (1207963663 : Int32), .int (1207963663 : Int32), .int (1207963663 : Int32), .int (1207963663 : Int32), .int (1207963663 : Int32), .int (1207963663 : Int32), .int (1207963663 : Int32), .int (1207963663 : Int32), .int (1207963663 : Int32), .int (1207963663 : Int32), .int (1207963663 : Int32), .int (1207963663 : Int32), .int (1207963663 : Int32), .int (1207963663 : Int32), .int (1207963663 : Int32), .int (1207963663 : Int32), .int (1207963663 : Int32), .int (1207963663 : Int32), .int (1207963663 : Int32), .int (1207963663 : Int32), .int (1207963663 : Int32), .int (1207963663 : Int32), .int (1207963663 : Int32), .int (939524108 : Int32), .int (1744830488 : Int32), .int (671113242 : Int32), .int (671113242 : Int32), .int (671113242 : Int32), .int (671113242 : Int32), .int (1744830492 : Int32), .int (1744830488 : Int32), .int (1744830491 : Int32), .int (1744830492 : Int32), .int (28677 : Int32), .int (-402653155 : Int32), .int (1744830489 : Int32), .int (1207963664 : Int32), .int (1744830492 : Int32), .int (1744830491 : Int32), .int (671088668 : Int32), .int (671088665 : Int32), .int (402654731 : Int32), .int (402654731 : Int32), .int (1744830491 : Int32), .int (134049794 : Int32), .int (1744830488 : Int32), .int (1744830488 : Int32), .int (1744830491 : Int32), .int (402654475 : Int32), .int (28677 : Int32), .int (-402653154 : Int32), .int (1744832523 : Int32), .int (1744832523 : Int32), .int (1744832523 : Int32), .int (1744830488 : Int32), .int (8548353 : Int32), .int (8548353 : Int32), .int (8548353 : Int32), .int (8548353 : Int32), .int (8548353 : Int32), .int (8548353 : Int32), .int (8548353 : Int32), .int (8548353 : Int32), .int (8548353 : Int32), .int (8548353 : Int32), .int (8548353 : Int32), .int (8548353 : Int32), .int (8548353 : Int32), .int (8548353 : Int32), .int (8548353 : Int32), .int (8548353 : Int32), .int (8548353 : Int32), .int (8548353 : Int32), .int (8548353 : Int32), .int (8548353 : Int32), .int (8548353 : Int32), .int (8548353 : Int32), .int (8548353 : Int32), .int (1744830489 : Int32), .int (8548353 : Int32), .int (8548353 : Int32), .int (8548353 : Int32), .int (8548353 : Int32), .int (8548353 : Int32), .int (8548353 : Int32), .int (8548353 : Int32), .int (134049794 : Int32), .int (8482818 : Int32), .int (8482818 : Int32), .int (8482818 : Int32), .int (8482818 : Int32), .int (8482818 : Int32), .int (8482818 : Int32), .int (8482818 : Int32), .int (8482818 : Int32), .int (8482818 : Int32), .int (8482818 : Int32), .int (8482818 : Int32), .int (8482818 : Int32), .int (8482818 : Int32), .int (8482818 : Int32), .int (8482818 : Int32), .int (8482818 : Int32), .int (8482818 : Int32), .int (8482818 : Int32), .int (8482818 : Int32), .int (8482818 : Int32), .int (8482818 : Int32), .int (8482818 : Int32), .int (8482818 : Int32), .int (1744830489 : Int32), .int (8482818 : Int32), .int (8482818 : Int32), .int (8482818 : Int32), .int (8482818 : Int32), .int (8482818 : Int32), .int (8482818 : Int32), .int (8482818 : Int32), .int (102592514 : Int32)]
def own_tb : List Value := [.int (120 : Int32), .int (88 : Int32), .int (112 : Int32), .int (80 : Int32), .int (97 : Int32), .int (65 : Int32), .int (116 : Int32), .int (84 : Int32), .int (104 : Int32), .int (72 : Int32), .int (32 : Int32), .int (9 : Int32), .int (10 : Int32), .int (28 : Int32), .int (31 : Int32), .int (160 : Int32)]
theorem own_tbc : own_chs own_tb := own_chsI (by simp [own_tb])
def own_dv (d : Int64) (j : Int32) : Int32 := (ushL d ((9 : Int32) * j) &&& (511 : Int64)).toInt32
def own_dr (d : Int64) (j : Int32) : Int32 := if own_dv d j < 256 then own_dv d j else own_gt own_tb (own_dv d j &&& 15).toNatClampNeg
theorem own_dvr (d : Int64) (j : Int32) : 0 ≤ (own_dv d j).toInt := by
  obtain ⟨y, hy⟩ : ∃ y : Int64, y = ushL d ((9 : Int32) * j) &&& 511 := ⟨_, rfl⟩
  have hm : (ushL d ((9 : Int32) * j) &&& 511).toInt = (ushL d ((9 : Int32) * j)).toInt % 2 ^ 9 := Jvm.Kit.i64_mask (ushL d ((9 : Int32) * j)) 511 (k := 9) (by decide) (by decide)
  unfold own_dv
  rw [← hy] at hm ⊢
  rw [Int64.toInt_toInt32, Int.bmod_eq_of_le (by omega) (by omega)]
  omega
theorem own_m15 (x : Int32) : (¬ (x &&& 15) < 0 ∧ (x &&& 15) < 16) ∧ (x &&& 15).toNatClampNeg < 16 := by
  have e : (x &&& 15).toInt = x.toInt % 2 ^ 4 := Jvm.Kit.i32_mask x 15 (k := 4) (by decide) (by decide)
  refine ⟨⟨?_, ?_⟩, ?_⟩
  · rw [Int32.lt_iff_toInt_lt]; show ¬ _ < (0 : Int); omega
  · rw [Int32.lt_iff_toInt_lt]; show _ < (16 : Int); omega
  · show (x &&& 15).toInt.toNat < 16; omega
theorem own_drr (d : Int64) (j : Int32) : 0 ≤ (own_dr d j).toInt ∧ (own_dr d j).toInt ≤ 255 := by
  unfold own_dr
  split
  · rename_i h
    rw [Int32.lt_iff_toInt_lt] at h
    have : ((256 : Int32)).toInt = 256 := rfl
    exact ⟨own_dvr d j, by omega⟩
  · have key : ∀ i, i < 16 → 0 ≤ (own_gt own_tb i).toInt ∧ (own_gt own_tb i).toInt ≤ 255 := by decide +kernel
    exact key _ (own_m15 (own_dv d j)).2
def own_vl (d : Int64) : List Value := [.int (own_dr d 0), .int (own_dr d 1), .int (own_dr d 2), .int (own_dr d 3), .int (own_dr d 4), .int (own_dr d 5), .int (own_dr d 6)]
theorem own_vlc (d : Int64) : own_chs (own_vl d) := own_chsI (by simp [own_vl])
theorem own_vlr (d : Int64) (i : Nat) : 0 ≤ (own_gt (own_vl d) i).toInt ∧ (own_gt (own_vl d) i).toInt ≤ 255 := by
  match i with
  | 0 => exact own_drr d 0
  | 1 => exact own_drr d 1
  | 2 => exact own_drr d 2
  | 3 => exact own_drr d 3
  | 4 => exact own_drr d 4
  | 5 => exact own_drr d 5
  | 6 => exact own_drr d 6
  | k + 7 =>
    have : own_gt (own_vl d) (k + 7) = 0 := rfl
    rw [this]; decide
theorem own_i2c {x : Int32} (h : 0 ≤ x.toInt ∧ x.toInt ≤ 255) : x.toUInt32.toUInt16.toUInt32.toInt32 = x := by
  apply Int32.toInt_inj.mp
  rw [own_u16, UInt32.toNat_toUInt16]
  have hk : x.toUInt32.toNat = x.toInt.toNat := own_nn (a := x) (k := x.toInt.toNat) (by omega) (by omega)
  rw [hk]
  omega
def own_xl (d : Int64) (n : Nat) : List Value := (List.range n).map fun i => .int (nar .char ((own_gt (own_vl d) i).toUInt32.toUInt16.toUInt32.toInt32))
theorem own_xlg (d : Int64) (n i : Nat) (h : i < n) : own_gt (own_xl d n) i = own_gt (own_vl d) i := by
  have e : own_gt (own_xl d n) i = nar .char ((own_gt (own_vl d) i).toUInt32.toUInt16.toUInt32.toInt32) := by
    unfold own_xl
    show (match ((List.range n).map fun i => Value.int (nar .char ((own_gt (own_vl d) i).toUInt32.toUInt16.toUInt32.toInt32))).getD i (.int (0 : Int32)) with | .int z => z | _ => 0) = _
    simp [List.getD_eq_getElem?_getD, h]
  rw [e, own_i2c (own_vlr d i)]
  exact own_i2c (own_vlr d i)
theorem own_xlc (d : Int64) (n : Nat) : own_chs (own_xl d n) := own_chsI fun v hv => by
  obtain ⟨i, -, e⟩ := List.mem_map.mp hv
  exact ⟨_, e.symm⟩
theorem own_xll (d : Int64) (n : Nat) : ∀ i, i < n → ¬ (255 : Int32) < own_gt (own_xl d n) i := fun i hi => by
  rw [own_xlg d n i hi, Int32.lt_iff_toInt_lt]
  have := own_vlr d i
  show ¬ (255 : Int) < _
  omega
def own_wl (d : Int64) (n : Int32) : List Value := own_app (List.replicate n.toNatClampNeg (.int (0 : Int32))) (own_xl d n.toNatClampNeg) 0 n.toNatClampNeg
theorem own_wlg (d : Int64) (n : Int32) : ∀ i, i < n.toNatClampNeg → own_gt (own_wl d n) i = nar .byte ((own_gt (own_vl d) i).toInt8.toInt32) ∧ 0 ≤ (own_gt (own_vl d) i).toInt ∧ (own_gt (own_vl d) i).toInt ≤ 255 := fun i hi => by
  refine ⟨?_, own_vlr d i⟩
  unfold own_wl
  rw [own_appg _ _ _ _ hi (by rw [List.length_replicate]; exact Nat.le_refl _), own_xlg d _ i hi]
def own_at (as : List Value) (n j : Int32) : Int32 := if j < n then own_gt as j.toNatClampNeg else -1
def own_is (c l : Int32) : Int32 := if c = l then 1 else if c = l - 32 then 1 else 0
def own_ws (c : Int32) : Int32 := if c < 9 then (if c < 28 then 0 else if (32 : Int32) < c then 0 else 1) else if (13 : Int32) < c then (if c < 28 then 0 else if (32 : Int32) < c then 0 else 1) else 1
def own_mm (as : List Value) (n k0 k1 k2 k3 k4 : Int32) : Int32 := if own_is (own_at as n k0) 120 = 0 then 0 else if own_is (own_at as n k1) 112 = 0 then 0 else if own_is (own_at as n k2) 97 = 0 then 0 else if own_is (own_at as n k3) 116 = 0 then 0 else if own_is (own_at as n k4) 104 = 0 then 0 else 1
def own_xp (n : Int32) (as : List Value) : Int32 := if own_mm as n 0 1 2 3 4 = 0 then (if own_ws (own_at as n 0) = 0 then 0 else if own_mm as n 1 2 3 4 5 = 0 then (if own_ws (own_at as n 1) = 0 then 0 else if own_mm as n 2 3 4 5 6 = 0 then 0 else 1) else 1) else 1
def own_ci (a b : Int32) : Int32 := if a = b then 1 else if (a &&& 223) < 65 then 0 else if (90 : Int32) < (a &&& 223) then (if (a &&& 223) < 192 then 0 else if (222 : Int32) < (a &&& 223) then 0 else if (a &&& 223) = 215 then 0 else if (a &&& 223) = (b &&& 223) then 1 else 0) else if (a &&& 223) = (b &&& 223) then 1 else 0
def own_rx (ws : List Value) : Int32 := if own_ci (own_gt ws 0) 120 = 0 then 0 else if own_ci (own_gt ws 1) 112 = 0 then 0 else if own_ci (own_gt ws 2) 97 = 0 then 0 else if own_ci (own_gt ws 3) 116 = 0 then 0 else if own_ci (own_gt ws 4) 104 = 0 then 0 else 1
def own_rm (m : Int32) (ws : List Value) : Int32 := if m < 5 then 0 else own_rx ws
def own_iw (c : Int32) : Int32 := if (own_gt own_AL c.toNatClampNeg &&& 28672) = 16384 then 1 else 0
def own_wb (b : Int32) : Prop := own_ch b = 32 ∨ own_ch b = 9 ∨ ¬ own_iw (own_ch b) = 0
/-- ws, m bytes long, is vs, n bytes long, without the white space at both ends -/
def own_st (n : Int32) (vs : List Value) (m : Int32) (ws : List Value) : Prop := ∃ ix lx : Nat, ix ≤ lx ∧ lx ≤ n.toNatClampNeg ∧ (∀ i, i < ix → own_wb (own_gt vs i)) ∧ (∀ i, lx ≤ i → i < n.toNatClampNeg → own_wb (own_gt vs i)) ∧ (ix < lx → ¬ own_wb (own_gt vs ix) ∧ ¬ own_wb (own_gt vs (lx - 1))) ∧ m.toInt = lx - ix ∧ ∀ i, i < lx - ix → own_gt ws i = own_gt vs (ix + i)
theorem own_byx {x : Int32} (h : 0 ≤ x.toInt ∧ x.toInt ≤ 255) : ∃ k : Nat, k < 256 ∧ x = Int32.ofNat k := by
  refine ⟨x.toInt.toNat, by omega, Int32.toInt_inj.mp ?_⟩
  rw [Int32.toInt_ofNat_of_lt (by omega)]
  omega
theorem own_all : ∀ k : Nat, k < 256 → (own_ch (nar .byte ((Int32.ofNat k).toInt8.toInt32)) = 32 ∨ own_ch (nar .byte ((Int32.ofNat k).toInt8.toInt32)) = 9 ∨ ¬ own_iw (own_ch (nar .byte ((Int32.ofNat k).toInt8.toInt32))) = 0 ↔ ¬ own_ws (Int32.ofNat k) = 0) := by decide +kernel
theorem own_allc : ∀ k : Nat, k < 256 → (own_ci (nar .byte ((Int32.ofNat k).toInt8.toInt32)) 120 = 0 ↔ own_is (Int32.ofNat k) 120 = 0) ∧ (own_ci (nar .byte ((Int32.ofNat k).toInt8.toInt32)) 112 = 0 ↔ own_is (Int32.ofNat k) 112 = 0) ∧ (own_ci (nar .byte ((Int32.ofNat k).toInt8.toInt32)) 97 = 0 ↔ own_is (Int32.ofNat k) 97 = 0) ∧ (own_ci (nar .byte ((Int32.ofNat k).toInt8.toInt32)) 116 = 0 ↔ own_is (Int32.ofNat k) 116 = 0) ∧ (own_ci (nar .byte ((Int32.ofNat k).toInt8.toInt32)) 104 = 0 ↔ own_is (Int32.ofNat k) 104 = 0) := by decide +kernel
theorem own_alln : ∀ k : Nat, k < 256 → (¬ own_is (Int32.ofNat k) 120 = 0 → own_ws (Int32.ofNat k) = 0) ∧ (¬ own_is (Int32.ofNat k) 104 = 0 → own_ws (Int32.ofNat k) = 0) := by decide +kernel
theorem own_wx {x : Int32} (h : 0 ≤ x.toInt ∧ x.toInt ≤ 255) : own_wb (nar .byte (x.toInt8.toInt32)) ↔ ¬ own_ws x = 0 := by
  obtain ⟨k, hk, rfl⟩ := own_byx h
  exact own_all k hk
/-- the five signs from k on -/
def own_I (as : List Value) (k : Nat) : Prop := ¬ own_is (own_gt as k) 120 = 0 ∧ ¬ own_is (own_gt as (k + 1)) 112 = 0 ∧ ¬ own_is (own_gt as (k + 2)) 97 = 0 ∧ ¬ own_is (own_gt as (k + 3)) 116 = 0 ∧ ¬ own_is (own_gt as (k + 4)) 104 = 0
theorem own_isat {as : List Value} {n j t : Int32} {k : Nat} (hn : 0 ≤ n.toInt) (hj : j.toInt = k) (ht : own_is (-1) t = 0) : ¬ own_is (own_at as n j) t = 0 ↔ (k < n.toNatClampNeg ∧ ¬ own_is (own_gt as k) t = 0) := by
  have ej : j.toNatClampNeg = k := by show j.toInt.toNat = k; omega
  have en := own_tn hn
  unfold own_at
  by_cases c : j < n
  · rw [if_pos c, ej]
    rw [Int32.lt_iff_toInt_lt] at c
    exact ⟨fun q => ⟨by omega, q⟩, fun q => q.2⟩
  · rw [if_neg c]
    rw [Int32.lt_iff_toInt_lt] at c
    exact ⟨fun q => absurd ht q, fun q => absurd q.1 (by omega)⟩
theorem own_wsat {as : List Value} {n j : Int32} {k : Nat} (hn : 0 ≤ n.toInt) (hj : j.toInt = k) : ¬ own_ws (own_at as n j) = 0 ↔ (k < n.toNatClampNeg ∧ ¬ own_ws (own_gt as k) = 0) := by
  have ej : j.toNatClampNeg = k := by show j.toInt.toNat = k; omega
  have en := own_tn hn
  unfold own_at
  by_cases c : j < n
  · rw [if_pos c, ej]
    rw [Int32.lt_iff_toInt_lt] at c
    exact ⟨fun q => ⟨by omega, q⟩, fun q => q.2⟩
  · rw [if_neg c]
    rw [Int32.lt_iff_toInt_lt] at c
    exact ⟨fun q => absurd (by decide) q, fun q => absurd q.1 (by omega)⟩
theorem own_mmI {as : List Value} {n k0 k1 k2 k3 k4 : Int32} {k : Nat} (hn : 0 ≤ n.toInt) (h0 : k0.toInt = k) (h1 : k1.toInt = k + 1) (h2 : k2.toInt = k + 2) (h3 : k3.toInt = k + 3) (h4 : k4.toInt = k + 4) : ¬ own_mm as n k0 k1 k2 k3 k4 = 0 ↔ (k + 5 ≤ n.toNatClampNeg ∧ own_I as k) := by
  have a0 := own_isat (as := as) (t := 120) hn h0 (by decide)
  have a1 := own_isat (as := as) (j := k1) (t := 112) (k := k + 1) hn (by omega) (by decide)
  have a2 := own_isat (as := as) (j := k2) (t := 97) (k := k + 2) hn (by omega) (by decide)
  have a3 := own_isat (as := as) (j := k3) (t := 116) (k := k + 3) hn (by omega) (by decide)
  have a4 := own_isat (as := as) (j := k4) (t := 104) (k := k + 4) hn (by omega) (by decide)
  unfold own_mm own_I
  by_cases c0 : own_is (own_at as n k0) 120 = 0
  · rw [if_pos c0]
    exact ⟨fun q => absurd rfl q, fun q => absurd c0 (a0.mpr ⟨by omega, q.2.1⟩)⟩
  rw [if_neg c0]
  by_cases c1 : own_is (own_at as n k1) 112 = 0
  · rw [if_pos c1]
    exact ⟨fun q => absurd rfl q, fun q => absurd c1 (a1.mpr ⟨by omega, q.2.2.1⟩)⟩
  rw [if_neg c1]
  by_cases c2 : own_is (own_at as n k2) 97 = 0
  · rw [if_pos c2]
    exact ⟨fun q => absurd rfl q, fun q => absurd c2 (a2.mpr ⟨by omega, q.2.2.2.1⟩)⟩
  rw [if_neg c2]
  by_cases c3 : own_is (own_at as n k3) 116 = 0
  · rw [if_pos c3]
    exact ⟨fun q => absurd rfl q, fun q => absurd c3 (a3.mpr ⟨by omega, q.2.2.2.2.1⟩)⟩
  rw [if_neg c3]
  by_cases c4 : own_is (own_at as n k4) 104 = 0
  · rw [if_pos c4]
    exact ⟨fun q => absurd rfl q, fun q => absurd c4 (a4.mpr ⟨by omega, q.2.2.2.2.2⟩)⟩
  rw [if_neg c4]
  exact ⟨fun _ => ⟨by have := (a4.mp c4).1; omega, (a0.mp c0).2, (a1.mp c1).2, (a2.mp c2).2, (a3.mp c3).2, (a4.mp c4).2⟩, fun _ => by decide⟩
theorem own_rxI {ws as : List Value} {k : Nat} (h : ∀ i, i < 5 → own_gt ws i = nar .byte ((own_gt as (k + i)).toInt8.toInt32) ∧ 0 ≤ (own_gt as (k + i)).toInt ∧ (own_gt as (k + i)).toInt ≤ 255) : ¬ own_rx ws = 0 ↔ own_I as k := by
  have e : ∀ i, i < 5 → (own_ci (own_gt ws i) 120 = 0 ↔ own_is (own_gt as (k + i)) 120 = 0) ∧ (own_ci (own_gt ws i) 112 = 0 ↔ own_is (own_gt as (k + i)) 112 = 0) ∧ (own_ci (own_gt ws i) 97 = 0 ↔ own_is (own_gt as (k + i)) 97 = 0) ∧ (own_ci (own_gt ws i) 116 = 0 ↔ own_is (own_gt as (k + i)) 116 = 0) ∧ (own_ci (own_gt ws i) 104 = 0 ↔ own_is (own_gt as (k + i)) 104 = 0) := fun i hi => by
    obtain ⟨h1, h2⟩ := h i hi
    obtain ⟨j, hj, ej⟩ := own_byx h2
    rw [h1, ej]
    exact own_allc j hj
  have e0 := (e 0 (by decide)).1
  have e1 := (e 1 (by decide)).2.1
  have e2 := (e 2 (by decide)).2.2.1
  have e3 := (e 3 (by decide)).2.2.2.1
  have e4 := (e 4 (by decide)).2.2.2.2
  unfold own_rx own_I
  rw [Nat.add_zero] at e0
  by_cases c0 : own_ci (own_gt ws 0) 120 = 0
  · rw [if_pos c0]; exact ⟨fun q => absurd rfl q, fun q => absurd (e0.mp c0) q.1⟩
  rw [if_neg c0]
  by_cases c1 : own_ci (own_gt ws 1) 112 = 0
  · rw [if_pos c1]; exact ⟨fun q => absurd rfl q, fun q => absurd (e1.mp c1) q.2.1⟩
  rw [if_neg c1]
  by_cases c2 : own_ci (own_gt ws 2) 97 = 0
  · rw [if_pos c2]; exact ⟨fun q => absurd rfl q, fun q => absurd (e2.mp c2) q.2.2.1⟩
  rw [if_neg c2]
  by_cases c3 : own_ci (own_gt ws 3) 116 = 0
  · rw [if_pos c3]; exact ⟨fun q => absurd rfl q, fun q => absurd (e3.mp c3) q.2.2.2.1⟩
  rw [if_neg c3]
  by_cases c4 : own_ci (own_gt ws 4) 104 = 0
  · rw [if_pos c4]; exact ⟨fun q => absurd rfl q, fun q => absurd (e4.mp c4) q.2.2.2.2⟩
  rw [if_neg c4]
  exact ⟨fun _ => ⟨fun q => c0 (e0.mpr q), fun q => c1 (e1.mpr q), fun q => c2 (e2.mpr q), fun q => c3 (e3.mpr q), fun q => c4 (e4.mpr q)⟩, fun _ => by decide⟩
theorem own_01 {x y : Int32} (hx : x = 0 ∨ x = 1) (hy : y = 0 ∨ y = 1) (h : ¬ x = 0 ↔ ¬ y = 0) : x = y := by
  rcases hx with rfl | rfl <;> rcases hy with rfl | rfl
  · rfl
  · exact absurd rfl (h.mpr (by decide))
  · exact absurd rfl (h.mp (by decide))
  · rfl
theorem own_rm01 (m : Int32) (ws : List Value) : own_rm m ws = 0 ∨ own_rm m ws = 1 := by
  unfold own_rm own_rx
  split
  · exact Or.inl rfl
  · repeat' split
    all_goals first | exact Or.inl rfl | exact Or.inr rfl
theorem own_rx01 (ws : List Value) : nar .boolean (own_rx ws) = own_rx ws := by
  have h : own_rx ws = 0 ∨ own_rx ws = 1 := by
    have := own_rm01 5 ws
    rw [own_rm, if_neg (by decide)] at this
    exact this
  rcases h with h | h <;> rw [h] <;> decide
theorem own_xp01 (n : Int32) (as : List Value) : own_xp n as = 0 ∨ own_xp n as = 1 := by
  unfold own_xp
  repeat' split
  all_goals first | exact Or.inl rfl | exact Or.inr rfl
theorem own_core {n m : Int32} {vs ws as : List Value} (hn : 0 ≤ n.toInt ∧ n.toInt ≤ 7) (hb : ∀ i, i < n.toNatClampNeg → own_gt vs i = nar .byte ((own_gt as i).toInt8.toInt32) ∧ 0 ≤ (own_gt as i).toInt ∧ (own_gt as i).toInt ≤ 255) (hst : own_st n vs m ws) : own_rm m ws = own_xp n as := by
  obtain ⟨ix, lx, h1, h2, hw1, hw2, hnw, hm, hws⟩ := hst
  have en := own_tn hn.1
  have w : ∀ i, i < n.toNatClampNeg → (own_wb (own_gt vs i) ↔ ¬ own_ws (own_gt as i) = 0) := fun i hi => by
    obtain ⟨b1, b2⟩ := hb i hi
    rw [b1]; exact own_wx b2
  have nw : ∀ k, k + 5 ≤ n.toNatClampNeg → own_I as k → own_ws (own_gt as k) = 0 ∧ own_ws (own_gt as (k + 4)) = 0 := fun k hk hI => by
    obtain ⟨j, hj, ej⟩ := own_byx (hb k (by omega)).2
    obtain ⟨j', hj', ej'⟩ := own_byx (hb (k + 4) (by omega)).2
    have q1 := hI.1
    have q2 := hI.2.2.2.2
    rw [ej] at q1
    rw [ej'] at q2
    rw [ej, ej']
    exact ⟨(own_alln j hj).1 q1, (own_alln j' hj').2 q2⟩
  have A : ¬ own_rm m ws = 0 ↔ (ix + 5 ≤ lx ∧ own_I as ix) := by
    unfold own_rm
    by_cases c : m < 5
    · rw [if_pos c]
      rw [Int32.lt_iff_toInt_lt] at c
      have : ((5 : Int32)).toInt = 5 := rfl
      exact ⟨fun q => absurd rfl q, fun q => absurd q.1 (by omega)⟩
    · rw [if_neg c]
      rw [Int32.lt_iff_toInt_lt] at c
      have : ((5 : Int32)).toInt = 5 := rfl
      have h5 : ix + 5 ≤ lx := by omega
      rw [own_rxI (as := as) (k := ix) fun i hi => by rw [hws i (by omega)]; exact hb (ix + i) (by omega)]
      exact ⟨fun q => ⟨h5, q⟩, fun q => q.2⟩
  have m0 := own_mmI (as := as) (k0 := 0) (k1 := 1) (k2 := 2) (k3 := 3) (k4 := 4) (k := 0) hn.1 rfl rfl rfl rfl rfl
  have m1 := own_mmI (as := as) (k0 := 1) (k1 := 2) (k2 := 3) (k3 := 4) (k4 := 5) (k := 1) hn.1 rfl rfl rfl rfl rfl
  have m2 := own_mmI (as := as) (k0 := 2) (k1 := 3) (k2 := 4) (k3 := 5) (k4 := 6) (k := 2) hn.1 rfl rfl rfl rfl rfl
  have w0 := own_wsat (as := as) (j := 0) (k := 0) hn.1 rfl
  have w1 := own_wsat (as := as) (j := 1) (k := 1) hn.1 rfl
  have fwd : ∀ k, k + 5 ≤ n.toNatClampNeg → own_I as k → (∀ i, i < k → ¬ own_ws (own_gt as i) = 0) → ix + 5 ≤ lx ∧ own_I as ix := fun k hk hI hw => by
    obtain ⟨q1, q2⟩ := nw k hk hI
    have e1 : ix ≤ k := by
      by_cases c : ix ≤ k
      · exact c
      · exact absurd q1 ((w k (by omega)).mp (hw1 k (by omega)))
    have e2 : k + 5 ≤ lx := by
      by_cases c : lx ≤ k + 4
      · exact absurd q2 ((w (k + 4) (by omega)).mp (hw2 (k + 4) c (by omega)))
      · omega
    have e3 : ix = k := by
      by_cases c : ix < k
      · exact absurd ((w ix (by omega)).mpr (hw ix c)) (hnw (by omega)).1
      · omega
    rw [e3]
    exact ⟨e2, hI⟩
  refine own_01 (own_rm01 m ws) (own_xp01 n as) (A.trans ?_)
  unfold own_xp
  constructor
  · rintro ⟨h5, hI⟩
    have hwi : ∀ i, i < ix → ¬ own_ws (own_gt as i) = 0 := fun i hi => (w i (by omega)).mp (hw1 i hi)
    have hc : ix = 0 ∨ ix = 1 ∨ ix = 2 := by omega
    rcases hc with rfl | rfl | rfl
    · rw [if_neg (m0.mpr ⟨by omega, hI⟩)]; decide
    · by_cases c0 : own_mm as n 0 1 2 3 4 = 0
      · rw [if_pos c0, if_neg (w0.mpr ⟨by omega, hwi 0 (by omega)⟩), if_neg (m1.mpr ⟨by omega, hI⟩)]; decide
      · rw [if_neg c0]; decide
    · by_cases c0 : own_mm as n 0 1 2 3 4 = 0
      · rw [if_pos c0, if_neg (w0.mpr ⟨by omega, hwi 0 (by omega)⟩)]
        by_cases c1 : own_mm as n 1 2 3 4 5 = 0
        · rw [if_pos c1, if_neg (w1.mpr ⟨by omega, hwi 1 (by omega)⟩), if_neg (m2.mpr ⟨by omega, hI⟩)]; decide
        · rw [if_neg c1]; decide
      · rw [if_neg c0]; decide
  · intro q
    by_cases c0 : own_mm as n 0 1 2 3 4 = 0
    · rw [if_pos c0] at q
      by_cases d0 : own_ws (own_at as n 0) = 0
      · rw [if_pos d0] at q; exact absurd rfl q
      rw [if_neg d0] at q
      by_cases c1 : own_mm as n 1 2 3 4 5 = 0
      · rw [if_pos c1] at q
        by_cases d1 : own_ws (own_at as n 1) = 0
        · rw [if_pos d1] at q; exact absurd rfl q
        rw [if_neg d1] at q
        by_cases c2 : own_mm as n 2 3 4 5 6 = 0
        · rw [if_pos c2] at q; exact absurd rfl q
        · obtain ⟨r1, r2⟩ := m2.mp c2
          refine fwd 2 r1 r2 fun i hi => ?_
          have hc : i = 0 ∨ i = 1 := by omega
          rcases hc with rfl | rfl
          · exact (w0.mp d0).2
          · exact (w1.mp d1).2
      · obtain ⟨r1, r2⟩ := m1.mp c1
        refine fwd 1 r1 r2 fun i hi => ?_
        have hc : i = 0 := by omega
        rw [hc]
        exact (w0.mp d0).2
    · obtain ⟨r1, r2⟩ := m0.mp c0
      exact fwd 0 r1 r2 fun i hi => absurd hi (Nat.not_lt_zero i)
/-- strip's three ends -/
def own_ixs (n : Int32) (vs : List Value) (i : Int32) : Prop := 0 ≤ i.toInt ∧ i.toInt ≤ n.toInt ∧ (∀ k, k < i.toNatClampNeg → own_wb (own_gt vs k)) ∧ (i < n → ¬ own_wb (own_gt vs i.toNatClampNeg))
def own_lxs (n : Int32) (vs : List Value) (i : Int32) : Prop := 0 ≤ i.toInt ∧ i.toInt ≤ n.toInt ∧ (∀ k, i.toNatClampNeg ≤ k → k < n.toNatClampNeg → own_wb (own_gt vs k)) ∧ ((0 : Int32) < i → ¬ own_wb (own_gt vs (i.toNatClampNeg - 1)))
theorem own_stA {n i : Int32} {vs ws : List Value} (h : own_ixs n vs i) (e : i = n) : own_st n vs 0 ws := by
  subst e
  refine ⟨i.toNatClampNeg, i.toNatClampNeg, Nat.le_refl _, Nat.le_refl _, h.2.2.1, fun k a b => absurd b (by omega), fun q => absurd q (Nat.lt_irrefl _), ?_, fun k hk => absurd hk (by omega)⟩
  have : ((0 : Int32)).toInt = 0 := rfl
  omega
theorem own_ixlx {n i j : Int32} {vs : List Value} (h : own_ixs n vs i) (g : own_lxs n vs j) (e : ¬ i = n) : i < n ∧ i < j ∧ ¬ own_wb (own_gt vs i.toNatClampNeg) ∧ ¬ own_wb (own_gt vs (j.toNatClampNeg - 1)) ∧ i.toNatClampNeg < j.toNatClampNeg ∧ j.toNatClampNeg ≤ n.toNatClampNeg := by
  have ei := own_tn h.1
  have ej := own_tn g.1
  have en := own_tn (x := n) (by have := h.2.1; have := h.1; omega)
  have hl : i < n := own_ltj h.2.1 e
  have q := h.2.2.2 hl
  have hl' := hl
  rw [Int32.lt_iff_toInt_lt] at hl'
  have hij : i.toNatClampNeg < j.toNatClampNeg := by
    by_cases c : j.toNatClampNeg ≤ i.toNatClampNeg
    · exact absurd (g.2.2.1 _ c (by omega)) q
    · omega
  have z : ((0 : Int32)).toInt = 0 := rfl
  refine ⟨hl, ?_, q, g.2.2.2 ?_, hij, by have := g.2.1; omega⟩
  · rw [Int32.lt_iff_toInt_lt]; omega
  · rw [Int32.lt_iff_toInt_lt]; omega
theorem own_stB {n i j : Int32} {vs : List Value} (h : own_ixs n vs i) (g : own_lxs n vs j) (e : ¬ i = n) (a : ¬ (0 : Int32) < i) (b : ¬ j < n) : own_st n vs n vs := by
  obtain ⟨q1, q2, q3, q4, q5, q6⟩ := own_ixlx h g e
  have z : ((0 : Int32)).toInt = 0 := rfl
  rw [Int32.lt_iff_toInt_lt] at a b
  have ei := own_tn h.1
  have ej := own_tn g.1
  have en := own_tn (x := n) (by have := h.2.1; have := h.1; omega)
  have i0 : i.toNatClampNeg = 0 := by omega
  have jn : j.toNatClampNeg = n.toNatClampNeg := by have := g.2.1; omega
  refine ⟨0, n.toNatClampNeg, Nat.zero_le _, Nat.le_refl _, fun k hk => absurd hk (Nat.not_lt_zero k), fun k a b => absurd b (by omega), fun _ => ⟨by rw [← i0]; exact q3, by rw [← jn]; exact q4⟩, by omega, fun k _ => by rw [Nat.zero_add]⟩
def own_cq (vs : List Value) (a m : Nat) : List Value := (List.range m).map fun i => vs.getD (a + i) (.int (0 : Int32))
theorem own_cqg (vs : List Value) (a m i : Nat) (h : i < m) : own_gt (own_cq vs a m) i = own_gt vs (a + i) := by
  unfold own_gt own_cq
  have e : ((List.range m).map fun i => vs.getD (a + i) (.int (0 : Int32))).getD i (.int (0 : Int32)) = vs.getD (a + i) (.int (0 : Int32)) := by simp [List.getD_eq_getElem?_getD, h]
  rw [e]
theorem own_cqv (n : Nat) (us : List Value) (d : Value) : (List.replicate n d).take (0 : Int32).toNatClampNeg ++ us ++ (List.replicate n d).drop ((0 : Int32).toNatClampNeg + n) = us := by
  rw [show (0 : Int32).toNatClampNeg = 0 by decide]
  simp
/-- from i to j in an array of n bytes -/
theorem own_rng {n i j : Int32} (hn : 0 ≤ n.toInt ∧ n.toInt ≤ 8) (hi : 0 ≤ i.toInt) (hij : i < j) (hj : j.toInt ≤ n.toInt) : (j - i).toInt = j.toInt - i.toInt ∧ (n - i).toInt = n.toInt - i.toInt ∧ ¬ (j - i) < 0 ∧ ¬ (j - i) = 0 ∧ i + (j - i) = j ∧ ¬ i < 0 ∧ ¬ j < i ∧ (j - i).toNatClampNeg ≤ 8 ∧ i.toNatClampNeg + (j - i).toNatClampNeg ≤ n.toNatClampNeg ∧ (j - i).toNatClampNeg = j.toNatClampNeg - i.toNatClampNeg ∧ (¬ (j - i) < (n - i) → n - i = j - i) := by
  have z : ((0 : Int32)).toInt = 0 := rfl
  rw [Int32.lt_iff_toInt_lt] at hij
  have e1 : (j - i).toInt = j.toInt - i.toInt := Jvm.Kit.i32_sub (by omega) (by omega)
  have e2 : (n - i).toInt = n.toInt - i.toInt := Jvm.Kit.i32_sub (by omega) (by omega)
  have t1 : (j - i).toNatClampNeg = (j - i).toInt.toNat := rfl
  have t2 : i.toNatClampNeg = i.toInt.toNat := rfl
  have t3 : n.toNatClampNeg = n.toInt.toNat := rfl
  have t4 : j.toNatClampNeg = j.toInt.toNat := rfl
  refine ⟨e1, e2, ?_, ?_, ?_, ?_, ?_, by omega, by omega, by omega, ?_⟩
  · rw [Int32.lt_iff_toInt_lt]; omega
  · intro q; rw [q] at e1; omega
  · apply Int32.toInt_inj.mp
    have e3 : (i + (j - i)).toInt = i.toInt + (j - i).toInt := Jvm.Kit.i32_add (by omega) (by omega)
    omega
  · rw [Int32.lt_iff_toInt_lt]; omega
  · rw [Int32.lt_iff_toInt_lt]; omega
  · intro q
    rw [Int32.lt_iff_toInt_lt] at q
    exact Int32.toInt_inj.mp (by omega)
theorem own_stC {n i j : Int32} {vs : List Value} (hn : 0 ≤ n.toInt ∧ n.toInt ≤ 8) (h : own_ixs n vs i) (g : own_lxs n vs j) (e : ¬ i = n) : own_st n vs (j - i) (own_cq vs i.toNatClampNeg (j - i).toNatClampNeg) := by
  obtain ⟨q1, q2, q3, q4, q5, q6⟩ := own_ixlx h g e
  obtain ⟨r1, -, -, -, -, -, -, -, -, r2, -⟩ := own_rng hn h.1 q2 g.2.1
  have ei := own_tn h.1
  have ej := own_tn g.1
  refine ⟨i.toNatClampNeg, j.toNatClampNeg, Nat.le_of_lt q5, q6, h.2.2.1, g.2.2.1, fun _ => ⟨q3, q4⟩, by omega, fun k hk => ?_⟩
  exact own_cqg _ _ _ _ (by omega)
/-- one turn of the loops over white space -/
theorem own_up {vs : List Value} {i : Int32} (h0 : 0 ≤ i.toInt) (h : i.toInt ≤ 8) (a : ∀ k, k < i.toNatClampNeg → own_wb (own_gt vs k)) (b : own_wb (own_gt vs i.toNatClampNeg)) : ∀ k, k < (i + 1).toNatClampNeg → own_wb (own_gt vs k) := fun k hk => by
  have e : (i + 1).toInt = i.toInt + 1 := Jvm.Kit.i32_add (q := 1) (by show _ ≤ i.toInt + 1; omega) (by show i.toInt + 1 < _; omega)
  have t1 : (i + 1).toNatClampNeg = (i + 1).toInt.toNat := rfl
  have t2 : i.toNatClampNeg = i.toInt.toNat := rfl
  by_cases c : k = i.toNatClampNeg
  · rw [c]; exact b
  · exact a k (by omega)
theorem own_dn {n i : Int32} (hn : n.toInt ≤ 8) (h0 : i.toInt ≤ n.toInt) (h : (0 : Int32) < i) : (¬ (i - 1) < 0 ∧ (i - 1) < n) ∧ 0 ≤ (i - 1).toInt ∧ (i - 1).toInt ≤ n.toInt ∧ (i - 1).toNatClampNeg = i.toNatClampNeg - 1 ∧ (i - 1).toNatClampNeg < i.toNatClampNeg ∧ i + (-1) = i - 1 := by
  have z : ((0 : Int32)).toInt = 0 := rfl
  rw [Int32.lt_iff_toInt_lt] at h
  have e : (i - 1).toInt = i.toInt - 1 := Jvm.Kit.i32_sub (q := 1) (by show _ ≤ i.toInt - 1; omega) (by show i.toInt - 1 < _; omega)
  have t1 : (i - 1).toNatClampNeg = (i - 1).toInt.toNat := rfl
  have t2 : i.toNatClampNeg = i.toInt.toNat := rfl
  refine ⟨⟨?_, ?_⟩, by omega, by omega, by omega, by omega, ?_⟩
  · rw [Int32.lt_iff_toInt_lt]; omega
  · rw [Int32.lt_iff_toInt_lt]; omega
  · rw [Int32.sub_eq_add_neg]
theorem own_down {vs : List Value} {n i : Int32} (hn : n.toInt ≤ 8) (h0 : i.toInt ≤ n.toInt) (h : (0 : Int32) < i) (a : ∀ k, i.toNatClampNeg ≤ k → k < n.toNatClampNeg → own_wb (own_gt vs k)) (b : own_wb (own_gt vs (i - 1).toNatClampNeg)) : ∀ k, (i - 1).toNatClampNeg ≤ k → k < n.toNatClampNeg → own_wb (own_gt vs k) := fun k h1 h2 => by
  have q := (own_dn hn h0 h).2.2.2.1
  by_cases c : k = (i - 1).toNatClampNeg
  · rw [c]; exact b
  · exact a k (by omega) h2
theorem own_chr (b : Int32) : 0 ≤ (own_ch b).toInt ∧ (own_ch b).toInt ≤ 255 := by
  have hx : (b &&& 255).toInt = b.toInt % 2 ^ 8 := Jvm.Kit.i32_mask b 255 (k := 8) (by decide) (by decide)
  have e := own_i2c (x := b &&& 255) (by omega)
  unfold own_ch
  rw [e]
  omega
theorem own_l5 {n : Int32} (hn : 0 ≤ n.toInt ∧ n.toInt ≤ 8) : ((n.toInt64 - (5 : Int32).toInt64) < (0 : Int32).toInt64) ↔ n < 5 := by
  have e : (n.toInt64 - (5 : Int32).toInt64).toInt = n.toInt - 5 := by
    have z5 : ((5 : Int32).toInt64).toInt = 5 := by decide
    rw [Jvm.Kit.i64_sub (x := n.toInt64) (y := (5 : Int32).toInt64) (by rw [Int32.toInt_toInt64, z5]; omega) (by rw [Int32.toInt_toInt64, z5]; omega), Int32.toInt_toInt64, z5]
  rw [Int64.lt_iff_toInt_lt, Int32.lt_iff_toInt_lt, e]
  show n.toInt - 5 < (0 : Int) ↔ n.toInt < (5 : Int)
  omega

def own_EL : List (String × Nat) := [("com/example/shallmark/shallmark/Expression", 36), ("java/lang/String", 7), ("java/lang/StringLatin1", 151)]
theorem own_EW {Z : State} {a0 : Array Value} (hw : ∀ d ∈ tables_1, d.before a0 Z = true) : EW Z a0 own_EL := (EW.cons (W_ hw 133) (by decide) (EW.cons (W_ hw 157) (by decide) (EW.cons (W_ hw 158) (by decide) EW.nil)))
theorem own_wS {Z : State} {a0 : Array Value} (hw : ∀ d ∈ tables_1, d.before a0 Z = true) : ∀ d ∈ Bundle.stringAtoms, d.before a0 Z = true := by
  intro d hd
  simp only [Bundle.stringAtoms, List.mem_cons, List.not_mem_nil, or_false] at hd
  rcases hd with rfl | rfl | rfl | rfl | rfl | rfl | rfl
  · exact (W_ hw 9)
  · exact (W_ hw 8)
  · exact (W_ hw 25)
  · exact (W_ hw 35)
  · exact (W_ hw 33)
  · exact (W_ hw 134)
  · exact (W_ hw 135)
theorem pn_6 : plainName "java/lang/StringUTF16" = true := by first | (simp [plainName, overriddenIn]; done) | decide +kernel
theorem d6_0 : decode jdk_52_method_21_code 0 = .ok (.iconst 0, 1) := by decide +kernel
theorem d6_1 : decode jdk_52_method_21_code 1 = .ok (.istore 5, 2) := by decide +kernel
theorem d6_3 : decode jdk_52_method_21_code 3 = .ok (.iload 5, 2) := by decide +kernel
theorem d6_5 : decode jdk_52_method_21_code 5 = .ok (.iload 4, 2) := by decide +kernel
theorem d6_7 : decode jdk_52_method_21_code 7 = .ok (.if_icmp .ge 37, 3) := by decide +kernel
theorem d6_10 : decode jdk_52_method_21_code 10 = .ok (.aload_n 0, 1) := by decide +kernel
theorem d6_11 : decode jdk_52_method_21_code 11 = .ok (.iload_n 1, 1) := by decide +kernel
theorem d6_12 : decode jdk_52_method_21_code 12 = .ok (.caload, 1) := by decide +kernel
theorem d6_13 : decode jdk_52_method_21_code 13 = .ok (.istore 6, 2) := by decide +kernel
theorem d6_15 : decode jdk_52_method_21_code 15 = .ok (.iload 6, 2) := by decide +kernel
theorem d6_17 : decode jdk_52_method_21_code 17 = .ok (.sipush 255, 3) := by decide +kernel
theorem d6_20 : decode jdk_52_method_21_code 20 = .ok (.if_icmp .le 6, 3) := by decide +kernel
theorem d6_26 : decode jdk_52_method_21_code 26 = .ok (.aload_n 2, 1) := by decide +kernel
theorem d6_27 : decode jdk_52_method_21_code 27 = .ok (.iload_n 3, 1) := by decide +kernel
theorem d6_28 : decode jdk_52_method_21_code 28 = .ok (.iload 6, 2) := by decide +kernel
theorem d6_30 : decode jdk_52_method_21_code 30 = .ok (.i2b, 1) := by decide +kernel
theorem d6_31 : decode jdk_52_method_21_code 31 = .ok (.bastore, 1) := by decide +kernel
theorem d6_32 : decode jdk_52_method_21_code 32 = .ok (.iinc 1 1, 3) := by decide +kernel
theorem d6_35 : decode jdk_52_method_21_code 35 = .ok (.iinc 3 1, 3) := by decide +kernel
theorem d6_38 : decode jdk_52_method_21_code 38 = .ok (.iinc 5 1, 3) := by decide +kernel
theorem d6_41 : decode jdk_52_method_21_code 41 = .ok (.goto (-38), 3) := by decide +kernel
theorem d6_44 : decode jdk_52_method_21_code 44 = .ok (.iload 4, 2) := by decide +kernel
theorem d6_46 : decode jdk_52_method_21_code 46 = .ok (.ireturn, 1) := by decide +kernel
theorem ef_rmcmL (m : MethodId) (x0 : Addr) (x2 : Addr) (x4 : Int32) : entryFrame m #[(.ref x0), (.int (0 : Int32)), (.ref x2), (.int (0 : Int32)), (.int x4)] 7 = mkF m 0 #[.val (.ref x0), .val (.int (0 : Int32)), .val (.ref x2), .val (.int (0 : Int32)), .val (.int x4), .unset, .unset] [] := by first | (simp [entryFrame, mkF, argsToLocals, Value.category]; done) | rfl
abbrev R_rmcmL : Room := ({ frames := 0, cells := 0, slots := 0, locals := 0 } : Room)
def QcmL (Z : State) (a1 a3 : Addr) (pn : Int32) (kc : ClassId) (xs : List Value) (kb : ClassId) (vs : List Value) (h0 : Heap) (n0 : Nat) (v : Option Value) (h : Heap) (L : List Loc) : Prop := v = some (.int pn) ∧ Fr n0 L ∧ Keep h0 h [a3] ∧ Arv Z h a3 kb .byte pn (own_app vs xs 0 pn.toNatClampNeg) (.int 0)
set_option maxRecDepth 65536 in
set_option maxHeartbeats 40000000 in
theorem rmcmL (l : Launch) (Z : State) (a0 : Array Value) (hw : ∀ d ∈ tables_1, d.before a0 Z = true) (ws : List Jvm.Cond) (a1 a3 : Addr) (pn : Int32) (kc : ClassId) (xs : List Value) (kb : ClassId) (vs : List Value) (h0 : Heap) (n0 : Nat) (Z0 : n0 ≤ h0.size) (HV_a1 : Arv Z h0 a1 kc .char pn xs (.int 0)) (HV_a3 : Arv Z h0 a3 kb .byte pn vs (.int 0)) (g_a3 : n0 ≤ a3) (hn : 0 ≤ pn.toInt ∧ pn.toInt ≤ 8) (hc : own_chs xs) (hl : vs.length = pn.toNatClampNeg) (hlat : ∀ i, i < pn.toNatClampNeg → ¬ (255 : Int32) < own_gt xs i) (hn_a1_a3 : a1 ≠ a3) :
    Met1 l n6 jdk_52_method_21_code 7 (some .int) ws R_rmcmL #[(.ref a1), (.int 0), (.ref a3), (.int 0), (.int pn)] Z h0 (QcmL Z a1 a3 pn kc xs kb vs h0 n0) := by
  refine Met1.enter (plainFor_of_name pn_6) (fun m => ef_rmcmL m a1 a3 pn) fun p e s m below meth c s₁ hx hby hlk hret hml hown hnm hZ X0 e0 => ?_
  have N0 := Fr.nil n0
  have K0 := Keep.refl h0 [a3]
  show Fin p e below s _ _ _ (s₁.setTop (mkF m 0 #[rv a1, iv 0, rv a3, iv 0, iv pn, u_, u_] []))
  refine Fin.step (fun _ k => Yo.iconst X0.here hx (hb hby d6_0) (Yo.istore X0.here hx (hb hby d6_1) rfl (l' := #[rv a1, iv 0, rv a3, iv 0, iv pn, iv 0, u_]) rfl k)) ?_
  have loop : ∀ (r : Nat) (Ty1 : State) (hy1 : Heap) (Ly1 : List Loc) (iq : Int32) (cq : Slot) (mry1 : pn.toNatClampNeg - iq.toNatClampNeg = r) (Xy1 : Stand p l e R_rmcmL s m #[(.ref a1), (.int 0), (.ref a3), (.int 0), (.int pn)] below meth c Ty1 Ly1 0 0) (ey1 : Ty1.heap = hy1) (Ny1 : Fr n0 Ly1) (Zy1 : n0 ≤ hy1.size) (Ky1 : Keep h0 hy1 [a3]) (fy1_0 : Arv Z hy1 a1 kc .char pn xs (.int 0)) (fy1_1 : Arv Z hy1 a3 kb .byte pn (own_app vs xs 0 iq.toNatClampNeg) (.int 0)) (hi0 : 0 ≤ iq.toInt) (hi1 : iq.toInt ≤ pn.toInt) (hcq : cq = u_ ∨ ∃ z : Int32, cq = iv z), Fin p e below s (QcmL Z a1 a3 pn kc xs kb vs h0 n0) R_rmcmL.cells R_rmcmL.slots (Ty1.setTop (mkF m 3 #[rv a1, iv iq, rv a3, iv iq, iv pn, iv iq, cq] [])) := by
    intro r
    induction r using Nat.strongRecOn with
    | _ r ih =>
      intro Ty1 hy1 Ly1 iq cq mry1 Xy1 ey1 Ny1 Zy1 Ky1 fy1_0 fy1_1 hi0 hi1 hcq
      refine Fin.step (fun _ k => Yo.iload Xy1.here hx (hb hby d6_3) rfl (Yo.iload Xy1.here hx (hb hby d6_5) rfl k)) ?_
      by_cases hcy2 : iq < pn
      · refine Fin.step (fun _ k => Yo.icmpNo Xy1.here hx (hb hby d6_7) rfl (tlt (hcy2 : (iq < pn))).2.1 k) ?_
        rcases hcq with rfl | ⟨cz, rfl⟩
        · show Fin p e below s _ _ _ (Ty1.setTop (mkF m 10 #[rv a1, iv iq, rv a3, iv iq, iv pn, iv iq, u_] []))
          have G := own_nx hi0 hn.2 hcy2
          refine Fin.step (fun _ k => Yo.aloadN Xy1.here hx (hb hby d6_10) rfl rfl (Yo.iloadN Xy1.here hx (hb hby d6_11) rfl (cld3 Xy1 hx hZ ey1 (j := iq) (v := (.int (own_gt xs iq.toNatClampNeg))) fy1_0 G.1 (own_lg hc _) (hb hby d6_12) (Yo.istore Xy1.here hx (hb hby d6_13) rfl (l' := #[rv a1, iv iq, rv a3, iv iq, iv pn, iv iq, .val (.int (own_gt xs iq.toNatClampNeg))]) rfl (Yo.iload Xy1.here hx (hb hby d6_15) rfl (Yo.sipush Xy1.here hx (hb hby d6_17) (Yo.icmpYes Xy1.here hx (pc0 := 20) (pc' := 26) rfl (hb hby d6_20) rfl (flt ((hlat _ (by have := G.2.2.2.2.2; omega)) : ¬ ((255 : Int32) < (own_gt xs iq.toNatClampNeg)))).2.2.2 (by decide) (by decide) (Yo.aloadN Xy1.here hx (hb hby d6_26) rfl rfl k)))))))) ?_
          refine Fin.step (fun _ k => Yo.iloadN Xy1.here hx (hb hby d6_27) rfl (Yo.iload Xy1.here hx (hb hby d6_28) rfl (Yo.i2b Xy1.here hx (hb hby d6_30) rfl k))) ?_
          show Fin p e below s _ _ _ (Ty1.setTop (mkF m 31 #[rv a1, iv iq, rv a3, iv iq, iv pn, iv iq, .val (.int (own_gt xs iq.toNatClampNeg))] [(.int ((own_gt xs iq.toNatClampNeg).toInt8.toInt32)), (.int iq), (.ref a3)]))
          have voy4 := fy1_1
          obtain ⟨cly4, Ary4, qay4, say4, nay4, hay4, gay4⟩ := voy4
          obtain ⟨Ty4, hy4, Xy4, ey4, Wy4, sty4⟩ := stB Xy1 hx hZ ey1 Ary4 (j := iq) (inb_of say4 G.1) (g := (mkF m 31 #[rv a1, iv iq, rv a3, iv iq, iv pn, iv iq, .val (.int (own_gt xs iq.toNatClampNeg))] [(.int ((own_gt xs iq.toNatClampNeg).toInt8.toInt32)), (.int iq), (.ref a3)])) rfl rfl (hb hby d6_31)
          have Vy4 : Arv Z hy4 a3 kb .byte pn (own_app vs xs 0 (iq.toNatClampNeg + 1)) (.int 0) := Arv.set Ary4 qay4 say4 nay4 hay4 gay4 (fits_nar_byte _) Wy4 (0 + iq.toNatClampNeg) (Nat.zero_add _).symm (by rw [own_applen, hl]; exact G.2.2.2.2.2)
          have Zy4 : n0 ≤ hy4.size := Nat.le_trans Zy1 (Keep.of_wr Wy4).1
          have Ky4 : Keep h0 hy4 [a3] := Ky1.wr Wy4 m0
          have Ny4 := Fr.snoc Xy4 Ny1 g_a3
          refine Fin.step (sty4) ?_
          show Fin p e below s _ _ _ (Ty4.setTop (mkF m 32 #[rv a1, iv iq, rv a3, iv iq, iv pn, iv iq, .val (.int (own_gt xs iq.toNatClampNeg))] []))
          refine Fin.step (fun _ k => Yo.iinc Xy4.here hx (hb hby d6_32) rfl (l' := #[rv a1, .val (.int (iq + (1 : Int32))), rv a3, iv iq, iv pn, iv iq, .val (.int (own_gt xs iq.toNatClampNeg))]) rfl k) ?_
          show Fin p e below s _ _ _ (Ty4.setTop (mkF m 35 #[rv a1, .val (.int (iq + (1 : Int32))), rv a3, iv iq, iv pn, iv iq, .val (.int (own_gt xs iq.toNatClampNeg))] []))
          refine Fin.step (fun _ k => Yo.iinc Xy4.here hx (hb hby d6_35) rfl (l' := #[rv a1, .val (.int (iq + (1 : Int32))), rv a3, .val (.int (iq + (1 : Int32))), iv pn, iv iq, .val (.int (own_gt xs iq.toNatClampNeg))]) rfl k) ?_
          show Fin p e below s _ _ _ (Ty4.setTop (mkF m 38 #[rv a1, .val (.int (iq + (1 : Int32))), rv a3, .val (.int (iq + (1 : Int32))), iv pn, iv iq, .val (.int (own_gt xs iq.toNatClampNeg))] []))
          refine Fin.step (fun _ k => Yo.iinc Xy4.here hx (hb hby d6_38) rfl (l' := #[rv a1, .val (.int (iq + (1 : Int32))), rv a3, .val (.int (iq + (1 : Int32))), iv pn, .val (.int (iq + (1 : Int32))), .val (.int (own_gt xs iq.toNatClampNeg))]) rfl k) ?_
          show Fin p e below s _ _ _ (Ty4.setTop (mkF m 41 #[rv a1, .val (.int (iq + (1 : Int32))), rv a3, .val (.int (iq + (1 : Int32))), iv pn, .val (.int (iq + (1 : Int32))), .val (.int (own_gt xs iq.toNatClampNeg))] []))
          refine Fin.step (fun _ k => Yo.goto Xy4.here hx (pc0 := 41) (pc' := 3) rfl (hb hby d6_41) (by decide) (by decide) k) ?_
          exact ih _ (by rw [← mry1]; exact G.2.2.2.2.1) _ _ _ (iq + (1 : Int32)) _ rfl Xy4 ey4 Ny4 Zy4 Ky4 (fy1_0.other Wy4 hn_a1_a3) (castL Vy4 (congrArg (own_app vs xs 0) G.2.2.2.1.symm)) G.2.1 G.2.2.1 (Or.inr ⟨_, rfl⟩)
        · show Fin p e below s _ _ _ (Ty1.setTop (mkF m 10 #[rv a1, iv iq, rv a3, iv iq, iv pn, iv iq, iv cz] []))
          have G := own_nx hi0 hn.2 hcy2
          refine Fin.step (fun _ k => Yo.aloadN Xy1.here hx (hb hby d6_10) rfl rfl (Yo.iloadN Xy1.here hx (hb hby d6_11) rfl (cld3 Xy1 hx hZ ey1 (j := iq) (v := (.int (own_gt xs iq.toNatClampNeg))) fy1_0 G.1 (own_lg hc _) (hb hby d6_12) (Yo.istore Xy1.here hx (hb hby d6_13) rfl (l' := #[rv a1, iv iq, rv a3, iv iq, iv pn, iv iq, .val (.int (own_gt xs iq.toNatClampNeg))]) rfl (Yo.iload Xy1.here hx (hb hby d6_15) rfl (Yo.sipush Xy1.here hx (hb hby d6_17) (Yo.icmpYes Xy1.here hx (pc0 := 20) (pc' := 26) rfl (hb hby d6_20) rfl (flt ((hlat _ (by have := G.2.2.2.2.2; omega)) : ¬ ((255 : Int32) < (own_gt xs iq.toNatClampNeg)))).2.2.2 (by decide) (by decide) (Yo.aloadN Xy1.here hx (hb hby d6_26) rfl rfl k)))))))) ?_
          refine Fin.step (fun _ k => Yo.iloadN Xy1.here hx (hb hby d6_27) rfl (Yo.iload Xy1.here hx (hb hby d6_28) rfl (Yo.i2b Xy1.here hx (hb hby d6_30) rfl k))) ?_
          show Fin p e below s _ _ _ (Ty1.setTop (mkF m 31 #[rv a1, iv iq, rv a3, iv iq, iv pn, iv iq, .val (.int (own_gt xs iq.toNatClampNeg))] [(.int ((own_gt xs iq.toNatClampNeg).toInt8.toInt32)), (.int iq), (.ref a3)]))
          have voy6 := fy1_1
          obtain ⟨cly6, Ary6, qay6, say6, nay6, hay6, gay6⟩ := voy6
          obtain ⟨Ty6, hy6, Xy6, ey6, Wy6, sty6⟩ := stB Xy1 hx hZ ey1 Ary6 (j := iq) (inb_of say6 G.1) (g := (mkF m 31 #[rv a1, iv iq, rv a3, iv iq, iv pn, iv iq, .val (.int (own_gt xs iq.toNatClampNeg))] [(.int ((own_gt xs iq.toNatClampNeg).toInt8.toInt32)), (.int iq), (.ref a3)])) rfl rfl (hb hby d6_31)
          have Vy6 : Arv Z hy6 a3 kb .byte pn (own_app vs xs 0 (iq.toNatClampNeg + 1)) (.int 0) := Arv.set Ary6 qay6 say6 nay6 hay6 gay6 (fits_nar_byte _) Wy6 (0 + iq.toNatClampNeg) (Nat.zero_add _).symm (by rw [own_applen, hl]; exact G.2.2.2.2.2)
          have Zy6 : n0 ≤ hy6.size := Nat.le_trans Zy1 (Keep.of_wr Wy6).1
          have Ky6 : Keep h0 hy6 [a3] := Ky1.wr Wy6 m0
          have Ny6 := Fr.snoc Xy6 Ny1 g_a3
          refine Fin.step (sty6) ?_
          show Fin p e below s _ _ _ (Ty6.setTop (mkF m 32 #[rv a1, iv iq, rv a3, iv iq, iv pn, iv iq, .val (.int (own_gt xs iq.toNatClampNeg))] []))
          refine Fin.step (fun _ k => Yo.iinc Xy6.here hx (hb hby d6_32) rfl (l' := #[rv a1, .val (.int (iq + (1 : Int32))), rv a3, iv iq, iv pn, iv iq, .val (.int (own_gt xs iq.toNatClampNeg))]) rfl k) ?_
          show Fin p e below s _ _ _ (Ty6.setTop (mkF m 35 #[rv a1, .val (.int (iq + (1 : Int32))), rv a3, iv iq, iv pn, iv iq, .val (.int (own_gt xs iq.toNatClampNeg))] []))
          refine Fin.step (fun _ k => Yo.iinc Xy6.here hx (hb hby d6_35) rfl (l' := #[rv a1, .val (.int (iq + (1 : Int32))), rv a3, .val (.int (iq + (1 : Int32))), iv pn, iv iq, .val (.int (own_gt xs iq.toNatClampNeg))]) rfl k) ?_
          show Fin p e below s _ _ _ (Ty6.setTop (mkF m 38 #[rv a1, .val (.int (iq + (1 : Int32))), rv a3, .val (.int (iq + (1 : Int32))), iv pn, iv iq, .val (.int (own_gt xs iq.toNatClampNeg))] []))
          refine Fin.step (fun _ k => Yo.iinc Xy6.here hx (hb hby d6_38) rfl (l' := #[rv a1, .val (.int (iq + (1 : Int32))), rv a3, .val (.int (iq + (1 : Int32))), iv pn, .val (.int (iq + (1 : Int32))), .val (.int (own_gt xs iq.toNatClampNeg))]) rfl k) ?_
          show Fin p e below s _ _ _ (Ty6.setTop (mkF m 41 #[rv a1, .val (.int (iq + (1 : Int32))), rv a3, .val (.int (iq + (1 : Int32))), iv pn, .val (.int (iq + (1 : Int32))), .val (.int (own_gt xs iq.toNatClampNeg))] []))
          refine Fin.step (fun _ k => Yo.goto Xy6.here hx (pc0 := 41) (pc' := 3) rfl (hb hby d6_41) (by decide) (by decide) k) ?_
          exact ih _ (by rw [← mry1]; exact G.2.2.2.2.1) _ _ _ (iq + (1 : Int32)) _ rfl Xy6 ey6 Ny6 Zy6 Ky6 (fy1_0.other Wy6 hn_a1_a3) (castL Vy6 (congrArg (own_app vs xs 0) G.2.2.2.1.symm)) G.2.1 G.2.2.1 (Or.inr ⟨_, rfl⟩)
      · refine Fin.step (fun _ k => Yo.icmpYes Xy1.here hx (pc0 := 7) (pc' := 44) rfl (hb hby d6_7) rfl (flt (hcy2 : ¬ (iq < pn))).2.1 (by decide) (by decide) (Yo.iload Xy1.here hx (hb hby d6_44) rfl k)) ?_
        refine Fin.retI Xy1 hx hret hlk (hb hby d6_46) (by decide) (by decide) ?_
        show QcmL Z a1 a3 pn kc xs kb vs h0 n0 _ Ty1.heap _
        rw [ey1]
        exact ⟨rfl, Ny1, Ky1, (castL fy1_1 (congrArg (fun z : Int32 => own_app vs xs 0 z.toNatClampNeg) (own_end hcy2 hi1)))⟩
  exact loop _ _ _ _ (0 : Int32) _ rfl X0 e0 N0 Z0 K0 HV_a1 HV_a3 (by decide) hn.1 (Or.inl rfl)
theorem pn_7 : plainName "java/lang/StringUTF16" = true := by first | (simp [plainName, overriddenIn]; done) | decide +kernel
theorem d7_0 : decode jdk_52_method_15_code 0 = .ok (.iload_n 1, 1) := by decide +kernel
theorem d7_1 : decode jdk_52_method_15_code 1 = .ok (.aload_n 0, 1) := by decide +kernel
theorem d7_2 : decode jdk_52_method_15_code 2 = .ok (.arraylength, 1) := by decide +kernel
theorem d7_3 : decode jdk_52_method_15_code 3 = .ok (.isub, 1) := by decide +kernel
theorem d7_4 : decode jdk_52_method_15_code 4 = .ok (.bipush 31, 2) := by decide +kernel
theorem d7_6 : decode jdk_52_method_15_code 6 = .ok (.iushr, 1) := by decide +kernel
theorem d7_7 : decode jdk_52_method_15_code 7 = .ok (.i2b, 1) := by decide +kernel
theorem d7_8 : decode jdk_52_method_15_code 8 = .ok (.ireturn, 1) := by decide +kernel
theorem ef_rmcd0 (m : MethodId) (x0 : Addr) (x1 : Int32) : entryFrame m #[(.ref x0), (.int x1)] 2 = mkF m 0 #[.val (.ref x0), .val (.int x1)] [] := by first | (simp [entryFrame, mkF, argsToLocals, Value.category]; done) | rfl
abbrev R_rmcd0 : Room := ({ frames := 0, cells := 0, slots := 0, locals := 0 } : Room)
def Qcd0 (Z : State) (ab : Addr) (pn : Int32) (kb : ClassId) (vs : List Value) (h0 : Heap) (n0 : Nat) (v : Option Value) (h : Heap) (L : List Loc) : Prop := v = some (.int 0) ∧ Fr n0 L ∧ h = h0
set_option maxRecDepth 65536 in
set_option maxHeartbeats 40000000 in
theorem rmcd0 (l : Launch) (Z : State) (a0 : Array Value) (hw : ∀ d ∈ tables_1, d.before a0 Z = true) (ws : List Jvm.Cond) (ab : Addr) (pn : Int32) (kb : ClassId) (vs : List Value) (h0 : Heap) (n0 : Nat) (Z0 : n0 ≤ h0.size) (HV_ab : Arv Z h0 ab kb .byte pn vs (.int 0)) :
    Met1 l n7 jdk_52_method_15_code 2 (some .byte) ws R_rmcd0 #[(.ref ab), (.int pn)] Z h0 (Qcd0 Z ab pn kb vs h0 n0) := by
  refine Met1.enter (plainFor_of_name pn_7) (fun m => ef_rmcd0 m ab pn) fun p e s m below meth c s₁ hx hby hlk hret hml hown hnm hZ X0 e0 => ?_
  have N0 := Fr.nil n0
  have K0 : Keep h0 h0 [] := Keep.refl h0 _
  show Fin p e below s _ _ _ (s₁.setTop (mkF m 0 #[rv ab, iv pn] []))
  refine Fin.step (fun _ k => Yo.iloadN X0.here hx (hb hby d7_0) rfl (Yo.aloadN X0.here hx (hb hby d7_1) rfl rfl k)) ?_
  have voy1 := HV_ab
  obtain ⟨cly1, Ary1, qay1, say1, nay1, hay1, gay1⟩ := voy1
  refine Fin.step (X0.arraylength hx (by rw [e0]; exact Ary1.1) (State.isArrayOf_alike hZ.alike Ary1.2.1) (g := (mkF m 2 #[rv ab, iv pn] [(.ref ab), (.int pn)])) rfl rfl (hb hby d7_2)) ?_
  rw [len_of say1 nay1]
  show Fin p e below s _ _ _ (s₁.setTop (mkF m 3 #[rv ab, iv pn] [(.int pn), (.int pn)]))
  refine Fin.step (fun _ k => Yo.isub X0.here hx (hb hby d7_3) rfl k) ?_
  show Fin p e below s _ _ _ (s₁.setTop (mkF m 4 #[rv ab, iv pn] [(.int (pn - pn))]))
  refine Fin.step (fun _ k => Yo.bipush X0.here hx (hb hby d7_4) (Yo.iushr X0.here hx (hb hby d7_6) rfl k)) ?_
  show Fin p e below s _ _ _ (s₁.setTop (mkF m 7 #[rv ab, iv pn] [(.int (ushI (pn - pn) (31 : Int32)))]))
  refine Fin.step (fun _ k => Yo.i2b X0.here hx (hb hby d7_7) rfl k) ?_
  show Fin p e below s _ _ _ (s₁.setTop (mkF m 8 #[rv ab, iv pn] [(.int ((ushI (pn - pn) (31 : Int32)).toInt8.toInt32))]))
  refine Fin.retN X0 hx (t := .byte) hret (by simp) hlk (hb hby d7_8) (by decide) (by decide) ?_
  show Qcd0 Z ab pn kb vs h0 n0 _ s₁.heap _
  rw [e0]
  exact ⟨(congrArg (fun z => some (Value.int z)) (own_c0 pn)), N0, rfl⟩
theorem pn_5 : plainName "java/lang/StringUTF16" = true := by first | (simp [plainName, overriddenIn]; done) | decide +kernel
theorem d5_0 : decode jdk_52_method_16_code 0 = .ok (.iload_n 2, 1) := by decide +kernel
theorem d5_1 : decode jdk_52_method_16_code 1 = .ok (.newarray .byte, 2) := by decide +kernel
theorem d5_3 : decode jdk_52_method_16_code 3 = .ok (.astore_n 3, 1) := by decide +kernel
theorem d5_4 : decode jdk_52_method_16_code 4 = .ok (.aload_n 0, 1) := by decide +kernel
theorem d5_5 : decode jdk_52_method_16_code 5 = .ok (.iload_n 1, 1) := by decide +kernel
theorem d5_6 : decode jdk_52_method_16_code 6 = .ok (.aload_n 3, 1) := by decide +kernel
theorem d5_7 : decode jdk_52_method_16_code 7 = .ok (.iconst 0, 1) := by decide +kernel
theorem d5_8 : decode jdk_52_method_16_code 8 = .ok (.iload_n 2, 1) := by decide +kernel
theorem d5_9 : decode jdk_52_method_16_code 9 = .ok (.invokestatic 115, 3) := by decide +kernel
theorem pd_0 : parseMethodDescriptor "([CI[BII)I" = some ⟨[(.array .char), .int, (.array .byte), .int, .int], some .int⟩ := by decide +kernel
theorem d5_12 : decode jdk_52_method_16_code 12 = .ok (.istore 4, 2) := by decide +kernel
theorem d5_14 : decode jdk_52_method_16_code 14 = .ok (.iload 4, 2) := by decide +kernel
theorem d5_16 : decode jdk_52_method_16_code 16 = .ok (.iload_n 2, 1) := by decide +kernel
theorem d5_17 : decode jdk_52_method_16_code 17 = .ok (.if_icmp .eq 40, 3) := by decide +kernel
theorem d5_57 : decode jdk_52_method_16_code 57 = .ok (.aload_n 3, 1) := by decide +kernel
theorem d5_58 : decode jdk_52_method_16_code 58 = .ok (.areturn, 1) := by decide +kernel
theorem ef_rmcpL (m : MethodId) (x0 : Addr) (x2 : Int32) : entryFrame m #[(.ref x0), (.int (0 : Int32)), (.int x2)] 6 = mkF m 0 #[.val (.ref x0), .val (.int (0 : Int32)), .val (.int x2), .unset, .unset, .unset] [] := by first | (simp [entryFrame, mkF, argsToLocals, Value.category]; done) | rfl
abbrev R_rmcpL : Room := ({ frames := 1, cells := 1, slots := 8, locals := 18 } : Room)
def QcpL (Z : State) (a1 : Addr) (pn : Int32) (kc : ClassId) (xs : List Value) (h0 : Heap) (n0 : Nat) (v : Option Value) (h : Heap) (L : List Loc) : Prop := ∃ kn : ClassId, ∃ nb : Addr, v = some (.ref nb) ∧ h0.size ≤ nb ∧ Fr n0 L ∧ Keep h0 h [] ∧ Arv Z h nb kn .byte pn (own_app (List.replicate pn.toNatClampNeg (.int 0)) xs 0 pn.toNatClampNeg) (.int 0)
set_option maxRecDepth 65536 in
set_option maxHeartbeats 40000000 in
theorem rmcpL (l : Launch) (Z : State) (a0 : Array Value) (hw : ∀ d ∈ tables_1, d.before a0 Z = true) (ws : List Jvm.Cond) (a1 : Addr) (pn : Int32) (kc : ClassId) (xs : List Value) (h0 : Heap) (n0 : Nat) (Z0 : n0 ≤ h0.size) (HV_a1 : Arv Z h0 a1 kc .char pn xs (.int 0)) (hn : 0 ≤ pn.toInt ∧ pn.toInt ≤ 8) (hc : own_chs xs) (hlat : ∀ i, i < pn.toNatClampNeg → ¬ (255 : Int32) < own_gt xs i) :
    Met1 l n5 jdk_52_method_16_code 6 (some (.array .byte)) ws R_rmcpL #[(.ref a1), (.int 0), (.int pn)] Z h0 (QcpL Z a1 pn kc xs h0 n0) := by
  refine Met1.enter (plainFor_of_name pn_5) (fun m => ef_rmcpL m a1 pn) fun p e s m below meth c s₁ hx hby hlk hret hml hown hnm hZ X0 e0 => ?_
  have N0 := Fr.nil n0
  have K0 : Keep h0 h0 [] := Keep.refl h0 _
  show Fin p e below s _ _ _ (s₁.setTop (mkF m 0 #[rv a1, iv 0, iv pn, u_, u_, u_] []))
  refine Fin.step (fun _ k => Yo.iloadN X0.here hx (hb hby d5_0) rfl k) ?_
  obtain ⟨Ty1, hy1, ky1, Xy1, ey1, Ey1, Ay1, sty1⟩ := newP X0 hx hZ (W_ hw 25) e0 (g := (mkF m 1 #[rv a1, iv 0, iv pn, u_, u_, u_] [(.int pn)])) rfl (hb hby d5_1) rfl (own_pn hn).1 (cap := 8) (own_pn hn).2 (by decide) (by decide) (by decide)
  obtain ⟨by1, gy1⟩ : ∃ z, z = h0.size := ⟨_, rfl⟩
  rw [← gy1] at Ay1 sty1
  have gzy1 : n0 ≤ by1 := Nat.le_trans Z0 (Nat.le_of_eq gy1.symm)
  have szy1 : h0.size ≤ by1 := Nat.le_trans K0.1 (Nat.le_of_eq gy1.symm)
  have Zy1 := Nat.le_trans Z0 Ey1.1
  have Ky1 := K0.ext Ey1
  have Vy1 : Arv Z hy1 by1 ky1 .byte pn (List.replicate (pn).toNatClampNeg (.int 0)) (.int 0) := (Arv.new Ay1 (own_pn hn).1).pad (pad_rep [] (.int 0) _)
  refine Fin.step (sty1) ?_
  show Fin p e below s _ _ _ (Ty1.setTop (mkF m 3 #[rv a1, iv 0, iv pn, u_, u_, u_] [(.ref by1)]))
  refine Fin.step (fun _ k => Yo.astoreN Xy1.here hx (hb hby d5_3) rfl rfl (l' := #[rv a1, iv 0, iv pn, rv by1, u_, u_]) rfl (Yo.aloadN Xy1.here hx (hb hby d5_4) rfl rfl (Yo.iloadN Xy1.here hx (hb hby d5_5) rfl (Yo.aloadN Xy1.here hx (hb hby d5_6) rfl rfl (Yo.iconst Xy1.here hx (hb hby d5_7) (Yo.iloadN Xy1.here hx (hb hby d5_8) rfl k)))))) ?_
  have ney2 := nlt (nsV HV_a1).lt szy1
  obtain ⟨_, Ty3, Lcy3, Xy3, hQy3, sty3⟩ := packS (Jvm.LawKit.callS Xy1 hx (y := n6) hown (mvT hZ (W_ hw 26)) (mvT hZ (W_ hw 27)) (mvT hZ (W_ hw 23)) (mvT hZ (W_ hw 28)) (by decide) (backOf (W := 0) (rmcmL l Z a0 hw [] a1 by1 pn kc xs ky1 _ hy1 n0 Zy1 (HV_a1.ext Ey1) Vy1 gzy1 hn hc (by rw [List.length_replicate]) hlat ney2) hZ (W_ hw 28) (W_ hw 23) (by decide) (by decide)) (g := (mkF m 9 #[rv a1, iv 0, iv pn, rv by1, u_, u_] [(.int pn), (.int 0), (.ref by1), (.int 0), (.ref a1)])) rfl (by rw [hml]; rfl) (argsL := [(.ref a1), (.int 0), (.ref by1), (.int 0), (.int pn)]) (rest := []) (lenOf pd_0 rfl) rfl (lb rfl) (hb hby d5_9) (fun _ _ => ⟨rfl, ey1, (by decide : 1 + 0 ≤ _), (by decide : 8 + 0 ≤ _)⟩))
  obtain ⟨rfl, Nqy3, Kcy3, fy3_0⟩ := hQy3
  have Ny3 := Fr.app N0 Nqy3
  have Zy3 := Nat.le_trans Zy1 Kcy3.1
  have Ky3 := Ky1.trans Kcy3 (allS (Or.inr szy1) all0)
  refine Fin.step (sty3) ?_
  show Fin p e below s _ _ _ (Ty3.setTop (mkF m 12 #[rv a1, iv 0, iv pn, rv by1, u_, u_] [(.int pn)]))
  refine Fin.step (fun _ k => Yo.istore Xy3.here hx (hb hby d5_12) rfl (l' := #[rv a1, iv 0, iv pn, rv by1, iv pn, u_]) rfl (Yo.iload Xy3.here hx (hb hby d5_14) rfl (Yo.iloadN Xy3.here hx (hb hby d5_16) rfl (Yo.icmpYes Xy3.here hx (pc0 := 17) (pc' := 57) rfl (hb hby d5_17) rfl (teq (rfl : (pn = pn))).1 (by decide) (by decide) (Yo.aloadN Xy3.here hx (hb hby d5_57) rfl rfl k))))) ?_
  refine Fin.retR Xy3 hx hret rfl rfl hlk (hb hby d5_58) (by decide) (by decide) ?_
  show QcpL Z a1 pn kc xs h0 n0 _ Ty3.heap _
  exact ⟨ky1, by1, rfl, szy1, Ny3, Ky3, fy3_0⟩
theorem pn_3 : plainName "java/lang/String" = true := by first | (simp [plainName, overriddenIn]; done) | decide +kernel
theorem d3_0 : decode jdk_42_method_149_code 0 = .ok (.aload_n 0, 1) := by decide +kernel
theorem d3_1 : decode jdk_42_method_149_code 1 = .ok (.invokespecial 1, 3) := by decide +kernel
theorem d3_4 : decode jdk_42_method_149_code 4 = .ok (.iload_n 3, 1) := by decide +kernel
theorem d3_5 : decode jdk_42_method_149_code 5 = .ok (.ifCond .ne 22, 3) := by decide +kernel
theorem d3_27 : decode jdk_42_method_149_code 27 = .ok (.getstatic 38, 3) := by decide +kernel
theorem d3_30 : decode jdk_42_method_149_code 30 = .ok (.ifCond .eq 28, 3) := by decide +kernel
theorem d3_33 : decode jdk_42_method_149_code 33 = .ok (.aload_n 1, 1) := by decide +kernel
theorem d3_34 : decode jdk_42_method_149_code 34 = .ok (.iload_n 2, 1) := by decide +kernel
theorem d3_35 : decode jdk_42_method_149_code 35 = .ok (.iload_n 3, 1) := by decide +kernel
theorem d3_36 : decode jdk_42_method_149_code 36 = .ok (.invokestatic 177, 3) := by decide +kernel
theorem pd_1 : parseMethodDescriptor "([CII)[B" = some ⟨[(.array .char), .int, .int], some (.array .byte)⟩ := by decide +kernel
theorem d3_39 : decode jdk_42_method_149_code 39 = .ok (.astore 5, 2) := by decide +kernel
theorem d3_41 : decode jdk_42_method_149_code 41 = .ok (.aload_n 0, 1) := by decide +kernel
theorem d3_42 : decode jdk_42_method_149_code 42 = .ok (.aload 5, 2) := by decide +kernel
theorem d3_44 : decode jdk_42_method_149_code 44 = .ok (.iload_n 3, 1) := by decide +kernel
theorem d3_45 : decode jdk_42_method_149_code 45 = .ok (.invokestatic 47, 3) := by decide +kernel
theorem pd_2 : parseMethodDescriptor "([BI)B" = some ⟨[(.array .byte), .int], some .byte⟩ := by decide +kernel
theorem d3_48 : decode jdk_42_method_149_code 48 = .ok (.putfield 15, 3) := by decide +kernel
theorem d3_51 : decode jdk_42_method_149_code 51 = .ok (.aload_n 0, 1) := by decide +kernel
theorem d3_52 : decode jdk_42_method_149_code 52 = .ok (.aload 5, 2) := by decide +kernel
theorem d3_54 : decode jdk_42_method_149_code 54 = .ok (.putfield 9, 3) := by decide +kernel
theorem d3_57 : decode jdk_42_method_149_code 57 = .ok (.return_, 1) := by decide +kernel
theorem ef_rmsi2L (m : MethodId) (x0 : Addr) (x1 : Addr) (x3 : Int32) : entryFrame m #[(.ref x0), (.ref x1), (.int (0 : Int32)), (.int x3), .null] 6 = mkF m 0 #[.val (.ref x0), .val (.ref x1), .val (.int (0 : Int32)), .val (.int x3), .val .null, .unset] [] := by first | (simp [entryFrame, mkF, argsToLocals, Value.category]; done) | rfl
abbrev R_rmsi2L : Room := ({ frames := 2, cells := 1, slots := 8, locals := 35 } : Room)
def Qsi2L (Z : State) (a1 a2 : Addr) (pn : Int32) (kc : ClassId) (xs : List Value) (wc : Int32) (h0 : Heap) (n0 : Nat) (v : Option Value) (h : Heap) (L : List Loc) : Prop := ∃ nb : Addr, ∃ kn : ClassId, v = none ∧ h0.size ≤ nb ∧ Fr n0 L ∧ Keep h0 h [a1] ∧ Fld Z h a1 q2 "coder" "B" (.int 0) ∧ Fld Z h a1 q2 "value" "[B" (.ref nb) ∧ Arv Z h nb kn .byte pn (own_app (List.replicate pn.toNatClampNeg (.int 0)) xs 0 pn.toNatClampNeg) (.int 0) ∧ a1 ≠ nb
set_option maxRecDepth 65536 in
set_option maxHeartbeats 40000000 in
theorem rmsi2L (l : Launch) (Z : State) (a0 : Array Value) (hw : ∀ d ∈ tables_1, d.before a0 Z = true) (ws : List Jvm.Cond) (a1 a2 : Addr) (pn : Int32) (kc : ClassId) (xs : List Value) (wc : Int32) (h0 : Heap) (n0 : Nat) (Z0 : n0 ≤ h0.size) (HE_a1 : Exa Z h0 a1 q2) (HF_a1_coder : Fld Z h0 a1 q2 "coder" "B" (.int 0)) (HF_a1_value : Fld Z h0 a1 q2 "value" "[B" .null) (HV_a2 : Arv Z h0 a2 kc .char pn xs (.int 0)) (HS_java_lang_String_COMPACT_STRINGS : Sta Z h0 q2 q9 "Z" (.int wc)) (g_a1 : n0 ≤ a1) (hn : 0 ≤ pn.toInt ∧ pn.toInt ≤ 8) (hc : own_chs xs) (hwc : ¬ wc = 0) (hn0 : ¬ pn = 0) (hlat : ∀ i, i < pn.toNatClampNeg → ¬ (255 : Int32) < own_gt xs i) (hn_a1_a2 : a1 ≠ a2) :
    Met1 l n3 jdk_42_method_149_code 6 none ws R_rmsi2L #[(.ref a1), (.ref a2), (.int 0), (.int pn), .null] Z h0 (Qsi2L Z a1 a2 pn kc xs wc h0 n0) := by
  refine Met1.enter (plainFor_of_name pn_3) (fun m => ef_rmsi2L m a1 a2 pn) fun p e s m below meth c s₁ hx hby hlk hret hml hown hnm hZ X0 e0 => ?_
  have N0 := Fr.nil n0
  have K0 := Keep.refl h0 [a1]
  show Fin p e below s _ _ _ (s₁.setTop (mkF m 0 #[rv a1, rv a2, iv 0, iv pn, .val .null, u_] []))
  refine Fin.step (fun _ k => Yo.aloadN X0.here hx (hb hby d3_0) rfl rfl k) ?_
  obtain ⟨Ty1, Xy1, ey1, sty1⟩ := initO X0 hx hZ hown (W_ hw 17) (W_ hw 18) (W_ hw 19) e0 (g := (mkF m 1 #[rv a1, rv a2, iv 0, iv pn, .val .null, u_] [(.ref a1)])) rfl (by rw [hml]; rfl) rfl (hb hby d3_1) (by decide) (W := 0) (by show 2 * 0 + _ ≤ _; exact Nat.le_of_eq rfl) (by decide)
  refine Fin.step (sty1) ?_
  show Fin p e below s _ _ _ (Ty1.setTop (mkF m 4 #[rv a1, rv a2, iv 0, iv pn, .val .null, u_] []))
  refine Fin.step (fun _ k => Yo.iloadN Xy1.here hx (hb hby d3_4) rfl (Yo.ifYes Xy1.here hx (pc0 := 5) (pc' := 27) rfl (hb hby d3_5) rfl ((if0 _ _).trans (feq (hn0 : ¬ (pn = (0 : Int32)))).2) (by decide) (by decide) k)) ?_
  obtain ⟨Ty2, Xy2, ey2, sty2⟩ := getS2 Xy1 hx hZ hown (host := "") (Or.inl (W_ hw 20)) Via.refl ey1 HS_java_lang_String_COMPACT_STRINGS (g := (mkF m 27 #[rv a1, rv a2, iv 0, iv pn, .val .null, u_] [])) rfl (hb hby d3_27)
  refine Fin.step (sty2) ?_
  show Fin p e below s _ _ _ (Ty2.setTop (mkF m 30 #[rv a1, rv a2, iv 0, iv pn, .val .null, u_] [(.int wc)]))
  refine Fin.step (fun _ k => Yo.ifNo Xy2.here hx (hb hby d3_30) rfl ((if0 _ _).trans (feq (hwc : ¬ (wc = (0 : Int32)))).1) (Yo.aloadN Xy2.here hx (hb hby d3_33) rfl rfl (Yo.iloadN Xy2.here hx (hb hby d3_34) rfl (Yo.iloadN Xy2.here hx (hb hby d3_35) rfl k)))) ?_
  obtain ⟨_, Ty3, Lcy3, Xy3, hQy3, sty3⟩ := packS (Jvm.LawKit.callS Xy2 hx (y := n5) hown (mvT hZ (W_ hw 21)) (mvT hZ (W_ hw 22)) (mvT hZ (W_ hw 23)) (mvT hZ (W_ hw 24)) (by decide) (backOf (W := 0) (rmcpL l Z a0 hw [] a2 pn kc xs h0 n0 Z0 HV_a2 hn hc hlat) hZ (W_ hw 24) (W_ hw 23) (by decide) (by decide)) (g := (mkF m 36 #[rv a1, rv a2, iv 0, iv pn, .val .null, u_] [(.int pn), (.int 0), (.ref a2)])) rfl (by rw [hml]; rfl) (argsL := [(.ref a2), (.int 0), (.int pn)]) (rest := []) (lenOf pd_1 rfl) rfl (lb rfl) (hb hby d3_36) (fun _ _ => ⟨rfl, ey2, (by decide : 0 + 1 ≤ _), (by decide : 0 + 8 ≤ _)⟩))
  obtain ⟨kn_y3, by3, rfl, bzy3, Nqy3, Kcy3, fy3_0⟩ := hQy3
  have Ny3 := Fr.app N0 Nqy3
  have gzy3 : n0 ≤ by3 := Nat.le_trans Z0 bzy3
  have szy3 : h0.size ≤ by3 := Nat.le_trans K0.1 bzy3
  have Zy3 := Nat.le_trans Z0 Kcy3.1
  have Ky3 := K0.trans Kcy3 all0
  refine Fin.step (sty3) ?_
  show Fin p e below s _ _ _ (Ty3.setTop (mkF m 39 #[rv a1, rv a2, iv 0, iv pn, .val .null, u_] [(.ref by3)]))
  refine Fin.step (fun _ k => Yo.astore Xy3.here hx (hb hby d3_39) rfl rfl (l' := #[rv a1, rv a2, iv 0, iv pn, .val .null, rv by3]) rfl (Yo.aloadN Xy3.here hx (hb hby d3_41) rfl rfl (Yo.aload Xy3.here hx (hb hby d3_42) rfl rfl (Yo.iloadN Xy3.here hx (hb hby d3_44) rfl k)))) ?_
  obtain ⟨_, Ty4, Lcy4, Xy4, hQy4, sty4⟩ := packS (Jvm.LawKit.callS Xy3 hx (y := n7) hown (mvT hZ (W_ hw 29)) (mvT hZ (W_ hw 30)) (mvT hZ (W_ hw 23)) (mvT hZ (W_ hw 31)) (by decide) (backOf (W := 1) (rmcd0 l Z a0 hw [] by3 pn kn_y3 _ Ty3.heap n0 Zy3 fy3_0) hZ (W_ hw 31) (W_ hw 23) (by decide) (by decide)) (g := (mkF m 45 #[rv a1, rv a2, iv 0, iv pn, .val .null, rv by3] [(.int pn), (.ref by3), (.ref a1)])) rfl (by rw [hml]; rfl) (argsL := [(.ref by3), (.int pn)]) (rest := [(.ref a1)]) (lenOf pd_2 rfl) rfl (lb rfl) (hb hby d3_45) (fun _ _ => ⟨rfl, rfl, (by decide : 1 + 0 ≤ _), (by decide : 8 + 0 ≤ _)⟩))
  obtain ⟨rfl, Nqy4, eqy4⟩ := hQy4
  have Ny4 := Fr.app Ny3 Nqy4
  refine Fin.step (sty4) ?_
  show Fin p e below s _ _ _ (Ty4.setTop (mkF m 48 #[rv a1, rv a2, iv 0, iv pn, .val .null, rv by3] [(.int 0), (.ref a1)]))
  obtain ⟨Ty5, hy5, Xy5, ey5, Wy5, sty5⟩ := putFN Xy4 hx hZ hown (W_ hw 32) Via.refl eqy4 (HF_a1_coder.keep Kcy3 nin0) (HE_a1.keep Kcy3) (Or.inr ⟨(W_ hw 33), rfl, hnm⟩) (W_ hw 8) (ty := .byte) (v' := (.int 0)) (by decide) rfl rfl (g := (mkF m 48 #[rv a1, rv a2, iv 0, iv pn, .val .null, rv by3] [(.int 0), (.ref a1)])) rfl rfl (hb hby d3_48)
  have Fwy5 : Fld Z hy5 a1 q2 "coder" "B" (.int 0) := (HF_a1_coder.keep Kcy3 nin0).same Wy5
  have Zy5 : n0 ≤ hy5.size := Nat.le_trans Zy3 (Keep.of_wr Wy5).1
  have Ky5 : Keep h0 hy5 [a1] := Ky3.wr Wy5 m0
  have Ny5 := Fr.snoc Xy5 Ny4 g_a1
  refine Fin.step (sty5) ?_
  show Fin p e below s _ _ _ (Ty5.setTop (mkF m 51 #[rv a1, rv a2, iv 0, iv pn, .val .null, rv by3] []))
  refine Fin.step (fun _ k => Yo.aloadN Xy5.here hx (hb hby d3_51) rfl rfl (Yo.aload Xy5.here hx (hb hby d3_52) rfl rfl k)) ?_
  obtain ⟨Ty6, hy6, Xy6, ey6, Wy6, sty6⟩ := putF Xy5 hx hZ hown (host := "") (Or.inl (W_ hw 34)) Via.refl ey5 ((HF_a1_value.keep Kcy3 nin0).other Wy5 (Or.inr (slot_ne (Or.inr (W_ hw 35)) (Or.inr (W_ hw 33)) (by decide) (t := (.array .byte)) (t' := .byte) (by decide) (by decide)))) ((HE_a1.keep Kcy3).wr Wy5) (Or.inr ⟨(W_ hw 35), rfl, hnm⟩) (W_ hw 8) (ty := (.array .byte)) (by decide) rfl rfl (g := (mkF m 54 #[rv a1, rv a2, iv 0, iv pn, .val .null, rv by3] [(.ref by3), (.ref a1)])) rfl rfl (hb hby d3_54)
  have Fwy6 : Fld Z hy6 a1 q2 "value" "[B" (.ref by3) := ((HF_a1_value.keep Kcy3 nin0).other Wy5 (Or.inr (slot_ne (Or.inr (W_ hw 35)) (Or.inr (W_ hw 33)) (by decide) (t := (.array .byte)) (t' := .byte) (by decide) (by decide)))).same Wy6
  have Zy6 : n0 ≤ hy6.size := Nat.le_trans Zy5 (Keep.of_wr Wy6).1
  have Ky6 : Keep h0 hy6 [a1] := Ky5.wr Wy6 m0
  have Ny6 := Fr.snoc Xy6 Ny5 g_a1
  refine Fin.step (sty6) ?_
  show Fin p e below s _ _ _ (Ty6.setTop (mkF m 57 #[rv a1, rv a2, iv 0, iv pn, .val .null, rv by3] []))
  refine Fin.retV Xy6 hx hret hlk (hb hby d3_57) (by decide) (by decide) ?_
  show Qsi2L Z a1 a2 pn kc xs wc h0 n0 _ Ty6.heap _
  rw [ey6]
  have ney7 := nlt HE_a1.lt szy3
  exact ⟨by3, kn_y3, rfl, szy3, Ny6, Ky6, (Fwy5.other Wy6 (Or.inr (slot_ne (Or.inr (W_ hw 33)) (Or.inr (W_ hw 35)) (by decide) (t := .byte) (t' := (.array .byte)) (by decide) (by decide)))), Fwy6, ((fy3_0.other Wy5 (Ne.symm ney7)).other Wy6 (Ne.symm ney7)), ney7⟩
theorem pn_2 : plainName "java/lang/String" = true := by first | (simp [plainName, overriddenIn]; done) | decide +kernel
theorem d2_0 : decode jdk_42_method_3_code 0 = .ok (.aload_n 0, 1) := by decide +kernel
theorem d2_1 : decode jdk_42_method_3_code 1 = .ok (.aload_n 1, 1) := by decide +kernel
theorem d2_2 : decode jdk_42_method_3_code 2 = .ok (.iconst 0, 1) := by decide +kernel
theorem d2_3 : decode jdk_42_method_3_code 3 = .ok (.aload_n 1, 1) := by decide +kernel
theorem d2_4 : decode jdk_42_method_3_code 4 = .ok (.arraylength, 1) := by decide +kernel
theorem d2_5 : decode jdk_42_method_3_code 5 = .ok (.aconst_null, 1) := by decide +kernel
theorem d2_6 : decode jdk_42_method_3_code 6 = .ok (.invokespecial 27, 3) := by decide +kernel
theorem pd_3 : parseMethodDescriptor "([CIILjava/lang/Void;)V" = some ⟨[(.array .char), .int, .int, (.object "java/lang/Void")], none⟩ := by decide +kernel
theorem d2_9 : decode jdk_42_method_3_code 9 = .ok (.return_, 1) := by decide +kernel
theorem ef_rmsi1L (m : MethodId) (x0 : Addr) (x1 : Addr) : entryFrame m #[(.ref x0), (.ref x1)] 2 = mkF m 0 #[.val (.ref x0), .val (.ref x1)] [] := by first | (simp [entryFrame, mkF, argsToLocals, Value.category]; done) | rfl
abbrev R_rmsi1L : Room := ({ frames := 3, cells := 1, slots := 8, locals := 52 } : Room)
def Qsi1L (Z : State) (a1 a2 : Addr) (pn : Int32) (kc : ClassId) (xs : List Value) (wc : Int32) (h0 : Heap) (n0 : Nat) (v : Option Value) (h : Heap) (L : List Loc) : Prop := ∃ nb : Addr, ∃ kn : ClassId, v = none ∧ h0.size ≤ nb ∧ Fr n0 L ∧ Keep h0 h [a1] ∧ Fld Z h a1 q2 "coder" "B" (.int 0) ∧ Fld Z h a1 q2 "value" "[B" (.ref nb) ∧ Arv Z h nb kn .byte pn (own_app (List.replicate pn.toNatClampNeg (.int 0)) xs 0 pn.toNatClampNeg) (.int 0) ∧ a1 ≠ nb
set_option maxRecDepth 65536 in
set_option maxHeartbeats 40000000 in
theorem rmsi1L (l : Launch) (Z : State) (a0 : Array Value) (hw : ∀ d ∈ tables_1, d.before a0 Z = true) (ws : List Jvm.Cond) (a1 a2 : Addr) (pn : Int32) (kc : ClassId) (xs : List Value) (wc : Int32) (h0 : Heap) (n0 : Nat) (Z0 : n0 ≤ h0.size) (HE_a1 : Exa Z h0 a1 q2) (HF_a1_coder : Fld Z h0 a1 q2 "coder" "B" (.int 0)) (HF_a1_value : Fld Z h0 a1 q2 "value" "[B" .null) (HV_a2 : Arv Z h0 a2 kc .char pn xs (.int 0)) (HS_java_lang_String_COMPACT_STRINGS : Sta Z h0 q2 q9 "Z" (.int wc)) (g_a1 : n0 ≤ a1) (hn : 0 ≤ pn.toInt ∧ pn.toInt ≤ 8) (hc : own_chs xs) (hwc : ¬ wc = 0) (hn0 : ¬ pn = 0) (hlat : ∀ i, i < pn.toNatClampNeg → ¬ (255 : Int32) < own_gt xs i) (hn_a1_a2 : a1 ≠ a2) :
    Met1 l n2 jdk_42_method_3_code 2 none ws R_rmsi1L #[(.ref a1), (.ref a2)] Z h0 (Qsi1L Z a1 a2 pn kc xs wc h0 n0) := by
  refine Met1.enter (plainFor_of_name pn_2) (fun m => ef_rmsi1L m a1 a2) fun p e s m below meth c s₁ hx hby hlk hret hml hown hnm hZ X0 e0 => ?_
  have N0 := Fr.nil n0
  have K0 := Keep.refl h0 [a1]
  show Fin p e below s _ _ _ (s₁.setTop (mkF m 0 #[rv a1, rv a2] []))
  refine Fin.step (fun _ k => Yo.aloadN X0.here hx (hb hby d2_0) rfl rfl (Yo.aloadN X0.here hx (hb hby d2_1) rfl rfl (Yo.iconst X0.here hx (hb hby d2_2) (Yo.aloadN X0.here hx (hb hby d2_3) rfl rfl k)))) ?_
  have voy1 := HV_a2
  obtain ⟨cly1, Ary1, qay1, say1, nay1, hay1, gay1⟩ := voy1
  refine Fin.step (X0.arraylength hx (by rw [e0]; exact Ary1.1) (State.isArrayOf_alike hZ.alike Ary1.2.1) (g := (mkF m 4 #[rv a1, rv a2] [(.ref a2), (.int 0), (.ref a2), (.ref a1)])) rfl rfl (hb hby d2_4)) ?_
  rw [len_of say1 nay1]
  show Fin p e below s _ _ _ (s₁.setTop (mkF m 5 #[rv a1, rv a2] [(.int pn), (.int 0), (.ref a2), (.ref a1)]))
  refine Fin.step (fun _ k => Yo.aconstNull X0.here hx (hb hby d2_5) k) ?_
  obtain ⟨_, Ty2, Lcy2, Xy2, hQy2, sty2⟩ := pack (X0.specialBack hx (y := n3) rfl hown (mvT hZ (W_ hw 13)) (mvT hZ (W_ hw 14)) (mvT hZ (W_ hw 16)) (by decide) (backOf (W := 0) (rmsi2L l Z a0 hw [] a1 a2 pn kc xs wc h0 n0 Z0 HE_a1 HF_a1_coder HF_a1_value HV_a2 HS_java_lang_String_COMPACT_STRINGS g_a1 hn hc hwc hn0 hlat hn_a1_a2) hZ (W_ hw 16) (W_ hw 9) (by decide) (by decide)) (g := (mkF m 6 #[rv a1, rv a2] [.null, (.int pn), (.int 0), (.ref a2), (.ref a1)])) rfl (by rw [hml]; rfl) (Steps.refl _) (a := a1) (argsL := [(.ref a2), (.int 0), (.int pn), .null]) (rest := []) (lenOf pd_3 rfl) rfl (lb rfl) (hb hby d2_6) (fun _ _ => ⟨rfl, e0, (by decide : 0 + 1 ≤ _), (by decide : 0 + 8 ≤ _)⟩))
  obtain ⟨nb_y2, kn_y2, rfl, bfy2_0, Nqy2, Kcy2, fy2_0, fy2_1, fy2_2, ney2_0⟩ := hQy2
  have Ny2 := Fr.app N0 Nqy2
  have gzy2_0 : n0 ≤ nb_y2 := Nat.le_trans Z0 bfy2_0
  have szy2_0 : h0.size ≤ nb_y2 := Nat.le_trans K0.1 bfy2_0
  have Zy2 := Nat.le_trans Z0 Kcy2.1
  have Ky2 := K0.trans Kcy2 (allS m0 all0)
  refine Fin.step (sty2) ?_
  show Fin p e below s _ _ _ (Ty2.setTop (mkF m 9 #[rv a1, rv a2] []))
  refine Fin.retV Xy2 hx hret hlk (hb hby d2_9) (by decide) (by decide) ?_
  show Qsi1L Z a1 a2 pn kc xs wc h0 n0 _ Ty2.heap _
  exact ⟨nb_y2, kn_y2, rfl, szy2_0, Ny2, Ky2, fy2_0, fy2_1, fy2_2, ney2_0⟩
theorem d3_8 : decode jdk_42_method_149_code 8 = .ok (.aload_n 0, 1) := by decide +kernel
theorem d3_9 : decode jdk_42_method_149_code 9 = .ok (.ldc 7, 2) := by decide +kernel
theorem d3_11 : decode jdk_42_method_149_code 11 = .ok (.getfield 9, 3) := by decide +kernel
theorem d3_14 : decode jdk_42_method_149_code 14 = .ok (.putfield 9, 3) := by decide +kernel
theorem d3_17 : decode jdk_42_method_149_code 17 = .ok (.aload_n 0, 1) := by decide +kernel
theorem d3_18 : decode jdk_42_method_149_code 18 = .ok (.ldc 7, 2) := by decide +kernel
theorem d3_20 : decode jdk_42_method_149_code 20 = .ok (.getfield 15, 3) := by decide +kernel
theorem d3_23 : decode jdk_42_method_149_code 23 = .ok (.putfield 15, 3) := by decide +kernel
theorem d3_26 : decode jdk_42_method_149_code 26 = .ok (.return_, 1) := by decide +kernel
theorem ef_rmsi2H (m : MethodId) (x0 : Addr) (x1 : Addr) : entryFrame m #[(.ref x0), (.ref x1), (.int (0 : Int32)), (.int (0 : Int32)), .null] 6 = mkF m 0 #[.val (.ref x0), .val (.ref x1), .val (.int (0 : Int32)), .val (.int (0 : Int32)), .val .null, .unset] [] := by first | (simp [entryFrame, mkF, argsToLocals, Value.category]; done) | rfl
abbrev R_rmsi2H : Room := ({ frames := 1, cells := 4, slots := 8, locals := 12 } : Room)
def Qsi2H (Z : State) (a1 a2 : Addr) (h0 : Heap) (n0 : Nat) (v : Option Value) (h : Heap) (L : List Loc) : Prop := ∃ nb : Addr, ∃ kn : ClassId, v = none ∧ Fr n0 L ∧ Keep h0 h [a1] ∧ Fld Z h a1 q2 "coder" "B" (.int 0) ∧ Fld Z h a1 q2 "value" "[B" (.ref nb) ∧ Arv Z h nb kn .byte (0 : Int32) ([] : List Value) (.int 0)
set_option maxRecDepth 65536 in
set_option maxHeartbeats 40000000 in
theorem rmsi2H (l : Launch) (Z : State) (a0 : Array Value) (hw : ∀ d ∈ tables_1, d.before a0 Z = true) (ws : List Jvm.Cond) (a1 a2 : Addr) (h0 : Heap) (n0 : Nat) (Z0 : n0 ≤ h0.size) (HE_a1 : Exa Z h0 a1 q2) (HF_a1_coder : Fld Z h0 a1 q2 "coder" "B" (.int 0)) (HF_a1_value : Fld Z h0 a1 q2 "value" "[B" .null) (g_a1 : n0 ≤ a1) :
    Met1H l n3 jdk_42_method_149_code 6 none ws R_rmsi2H #[(.ref a1), (.ref a2), (.int 0), (.int 0), .null] Z h0 own_EL (Qsi2H Z a1 a2 h0 n0) := by
  refine Met1H.enter (plainFor_of_name pn_3) (fun m => ef_rmsi2H m a1 a2) fun p e s m below meth c s₁ hx hby hlk hret hml hown hnm hZ X0 e0 hsh hch => ?_
  have N0 := Fr.nil n0
  have K0 := Keep.refl h0 [a1]
  have hEL := own_EW hw
  have wS := own_wS hw
  have CH0 := CHr.refl hch
  show FinH p e below s Z own_EL _ _ _ (s₁.setTop (mkF m 0 #[rv a1, rv a2, iv 0, iv 0, .val .null, u_] []))
  refine FinH.step (fun _ k => Yo.aloadN X0.here hx (hb hby d3_0) rfl rfl k) ?_
  obtain ⟨Ty1, Xy1, ey1, sty1⟩ := initO X0 hx hZ hown (W_ hw 17) (W_ hw 18) (W_ hw 19) e0 (g := (mkF m 1 #[rv a1, rv a2, iv 0, iv 0, .val .null, u_] [(.ref a1)])) rfl (by rw [hml]; rfl) rfl (hb hby d3_1) (by decide) (W := 0) (by show 2 * 0 + _ ≤ _; exact Nat.le_of_eq rfl) (by decide)
  refine FinH.step (sty1) ?_
  show FinH p e below s Z own_EL _ _ _ (Ty1.setTop (mkF m 4 #[rv a1, rv a2, iv 0, iv 0, .val .null, u_] []))
  refine FinH.step (fun _ k => Yo.iloadN Xy1.here hx (hb hby d3_4) rfl (Yo.ifNo Xy1.here hx (hb hby d3_5) rfl ((if0 _ _).trans (teq ((by decide) : ((0 : Int32) = (0 : Int32)))).2) (Yo.aloadN Xy1.here hx (hb hby d3_8) rfl rfl k))) ?_
  have sfa1_y2 : Safe Z own_EL _ _ _ := safeNull hZ.alike HE_a1 HF_a1_value
  obtain ⟨ay3, Ty3, hy3, k1y3, by3, kby3, Xy3, ey3, Ey3, hSy3, hky3, hZ, hown, Ay3, Fcy3, Fvy3, Vy3, -, -, CHcy3, -, nly3, sty3⟩ := ldcCH (s := s) (vm0 := s.vm) Xy1 hx hZ hown (W_ hw 157) wS ey1 ((State.WarmedH.refl s).since 0) (Nat.zero_le _) hEL (List.mem_of_getElem? (i := 1) rfl) CH0.1 (vs := ([] : List Value)) (z := (0 : Int32)) ⟨by decide, by rfl⟩ (by decide) (by decide) (g := (mkF m 9 #[rv a1, rv a2, iv 0, iv 0, .val .null, u_] [(.ref a1)])) rfl (hb hby d3_9) (n := 0) (by decide) (by decide) (by decide) (by decide)
  have sfa1_y3 := CHcy3.safe HE_a1.lt sfa1_y2
  have nla1_y3 := nly3 a1 sfa1_y3
  have CHy3 := CH0.trans CHcy3
  have Zy3 := Nat.le_trans Z0 Ey3.1
  have Ky3 := K0.ext Ey3
  refine FinH.step (sty3) ?_
  show FinH p e below s Z own_EL _ _ _ (Ty3.setTop (mkF m 11 #[rv a1, rv a2, iv 0, iv 0, .val .null, u_] [(.ref ay3), (.ref a1)]))
  obtain ⟨Ty4, Xy4, ey4, sty4⟩ := getF Xy3 hx hZ hown (host := "") (Or.inl (W_ hw 34)) Via.refl ey3 Fvy3 (g := (mkF m 11 #[rv a1, rv a2, iv 0, iv 0, .val .null, u_] [(.ref ay3), (.ref a1)])) rfl rfl (hb hby d3_11)
  refine FinH.step (sty4) ?_
  show FinH p e below s Z own_EL _ _ _ (Ty4.setTop (mkF m 14 #[rv a1, rv a2, iv 0, iv 0, .val .null, u_] [(.ref by3), (.ref a1)]))
  obtain ⟨Ty5, hy5, Xy5, ey5, Wy5, sty5⟩ := putF Xy4 hx hZ hown (host := "") (Or.inl (W_ hw 34)) Via.refl ey4 (HF_a1_value.ext Ey3) (HE_a1.ext Ey3) (Or.inr ⟨(W_ hw 35), rfl, hnm⟩) (W_ hw 8) (ty := (.array .byte)) (by decide) rfl rfl (g := (mkF m 14 #[rv a1, rv a2, iv 0, iv 0, .val .null, u_] [(.ref by3), (.ref a1)])) rfl rfl (hb hby d3_14)
  have Fwy5 : Fld Z hy5 a1 q2 "value" "[B" (.ref by3) := (HF_a1_value.ext Ey3).same Wy5
  have CHy5 := CHy3.trans (CHr.wr Wy5 sfa1_y3 CHy3.1)
  have sfa1_y5 := Safe.wr Wy5 sfa1_y3 CHy3.1 sfa1_y3
  have Zy5 : n0 ≤ hy5.size := Nat.le_trans Zy3 (Keep.of_wr Wy5).1
  have Ky5 : Keep h0 hy5 [a1] := Ky3.wr Wy5 m0
  have Ny5 := Fr.snoc Xy5 N0 g_a1
  refine FinH.step (sty5) ?_
  show FinH p e below s Z own_EL _ _ _ (Ty5.setTop (mkF m 17 #[rv a1, rv a2, iv 0, iv 0, .val .null, u_] []))
  refine FinH.step (fun _ k => Yo.aloadN Xy5.here hx (hb hby d3_17) rfl rfl k) ?_
  have hky6 := (Nat.le_trans hky3 (Keep.of_wr Wy5).1)
  obtain ⟨ay7, Ty7, hy7, k1y7, by7, kby7, Xy7, ey7, Ey7, hSy7, hky7, hZ, hown, Ay7, Fcy7, Fvy7, Vy7, -, -, CHcy7, -, nly7, sty7⟩ := ldcCH (s := s) (vm0 := Ty3.vm) Xy5 hx hZ hown (W_ hw 157) wS ey5 hSy3 hky6 hEL (List.mem_of_getElem? (i := 1) rfl) CHy5.1 (vs := ([] : List Value)) (z := (0 : Int32)) ⟨by decide, by rfl⟩ (by decide) (by decide) (g := (mkF m 18 #[rv a1, rv a2, iv 0, iv 0, .val .null, u_] [(.ref a1)])) rfl (hb hby d3_18) (n := 0) (by decide) (by decide) (by decide) (by decide)
  have sfa1_y7 := CHcy7.safe ((HE_a1.ext Ey3).wr Wy5).lt sfa1_y5
  have nla1_y7 := nly7 a1 sfa1_y7
  have CHy7 := CHy5.trans CHcy7
  have Zy7 := Nat.le_trans Zy5 Ey7.1
  have Ky7 := Ky5.ext Ey7
  refine FinH.step (sty7) ?_
  show FinH p e below s Z own_EL _ _ _ (Ty7.setTop (mkF m 20 #[rv a1, rv a2, iv 0, iv 0, .val .null, u_] [(.ref ay7), (.ref a1)]))
  obtain ⟨Ty8, Xy8, ey8, sty8⟩ := getF Xy7 hx hZ hown (host := "") (Or.inl (W_ hw 32)) Via.refl ey7 Fcy7 (g := (mkF m 20 #[rv a1, rv a2, iv 0, iv 0, .val .null, u_] [(.ref ay7), (.ref a1)])) rfl rfl (hb hby d3_20)
  refine FinH.step (sty8) ?_
  show FinH p e below s Z own_EL _ _ _ (Ty8.setTop (mkF m 23 #[rv a1, rv a2, iv 0, iv 0, .val .null, u_] [(.int 0), (.ref a1)]))
  obtain ⟨Ty9, hy9, Xy9, ey9, Wy9, sty9⟩ := putFN Xy8 hx hZ hown (W_ hw 32) Via.refl ey8 (((HF_a1_coder.ext Ey3).other Wy5 (Or.inr (slot_ne (Or.inr (W_ hw 33)) (Or.inr (W_ hw 35)) (by decide) (t := .byte) (t' := (.array .byte)) (by decide) (by decide)))).ext Ey7) (((HE_a1.ext Ey3).wr Wy5).ext Ey7) (Or.inr ⟨(W_ hw 33), rfl, hnm⟩) (W_ hw 8) (ty := .byte) (v' := (.int 0)) (by decide) rfl rfl (g := (mkF m 23 #[rv a1, rv a2, iv 0, iv 0, .val .null, u_] [(.int 0), (.ref a1)])) rfl rfl (hb hby d3_23)
  have Fwy9 : Fld Z hy9 a1 q2 "coder" "B" (.int 0) := (((HF_a1_coder.ext Ey3).other Wy5 (Or.inr (slot_ne (Or.inr (W_ hw 33)) (Or.inr (W_ hw 35)) (by decide) (t := .byte) (t' := (.array .byte)) (by decide) (by decide)))).ext Ey7).same Wy9
  have CHy9 := CHy7.trans (CHr.wr Wy9 sfa1_y7 CHy7.1)
  have sfa1_y9 := Safe.wr Wy9 sfa1_y7 CHy7.1 sfa1_y7
  have Zy9 : n0 ≤ hy9.size := Nat.le_trans Zy7 (Keep.of_wr Wy9).1
  have Ky9 : Keep h0 hy9 [a1] := Ky7.wr Wy9 m0
  have Ny9 := Fr.snoc Xy9 Ny5 g_a1
  refine FinH.step (sty9) ?_
  show FinH p e below s Z own_EL _ _ _ (Ty9.setTop (mkF m 26 #[rv a1, rv a2, iv 0, iv 0, .val .null, u_] []))
  have hky10 := (Nat.le_trans hky7 (Keep.of_wr Wy9).1)
  refine FinH.retV Xy9 hSy7 (by rw [ey9]; exact hky10) hZ hEL (by rw [hsh, ey9]; exact CHy9) hx hret hlk (hb hby d3_26) (by decide) (by decide) ?_
  show Qsi2H Z a1 a2 h0 n0 _ Ty9.heap _
  rw [ey9]
  exact ⟨by3, kby3, rfl, Ny9, Ky9, Fwy9, ((Fwy5.ext Ey7).other Wy9 (Or.inr (slot_ne (Or.inr (W_ hw 35)) (Or.inr (W_ hw 33)) (by decide) (t := (.array .byte)) (t' := .byte) (by decide) (by decide)))), (((Vy3.other Wy5 (Ne.symm nla1_y3.2)).ext Ey7).other Wy9 (Ne.symm nla1_y3.2))⟩
theorem ef_rmsi1H (m : MethodId) (x0 : Addr) (x1 : Addr) : entryFrame m #[(.ref x0), (.ref x1)] 2 = mkF m 0 #[.val (.ref x0), .val (.ref x1)] [] := by first | (simp [entryFrame, mkF, argsToLocals, Value.category]; done) | rfl
abbrev R_rmsi1H : Room := ({ frames := 2, cells := 4, slots := 8, locals := 29 } : Room)
def Qsi1H (Z : State) (a1 a2 : Addr) (kc : ClassId) (xs : List Value) (h0 : Heap) (n0 : Nat) (v : Option Value) (h : Heap) (L : List Loc) : Prop := ∃ nb : Addr, ∃ kn : ClassId, v = none ∧ Fr n0 L ∧ Keep h0 h [a1] ∧ Fld Z h a1 q2 "coder" "B" (.int 0) ∧ Fld Z h a1 q2 "value" "[B" (.ref nb) ∧ Arv Z h nb kn .byte (0 : Int32) ([] : List Value) (.int 0)
set_option maxRecDepth 65536 in
set_option maxHeartbeats 40000000 in
theorem rmsi1H (l : Launch) (Z : State) (a0 : Array Value) (hw : ∀ d ∈ tables_1, d.before a0 Z = true) (ws : List Jvm.Cond) (a1 a2 : Addr) (kc : ClassId) (xs : List Value) (h0 : Heap) (n0 : Nat) (Z0 : n0 ≤ h0.size) (HE_a1 : Exa Z h0 a1 q2) (HF_a1_coder : Fld Z h0 a1 q2 "coder" "B" (.int 0)) (HF_a1_value : Fld Z h0 a1 q2 "value" "[B" .null) (HV_a2 : Arv Z h0 a2 kc .char (0 : Int32) xs (.int 0)) (g_a1 : n0 ≤ a1) :
    Met1H l n2 jdk_42_method_3_code 2 none ws R_rmsi1H #[(.ref a1), (.ref a2)] Z h0 own_EL (Qsi1H Z a1 a2 kc xs h0 n0) := by
  refine Met1H.enter (plainFor_of_name pn_2) (fun m => ef_rmsi1H m a1 a2) fun p e s m below meth c s₁ hx hby hlk hret hml hown hnm hZ X0 e0 hsh hch => ?_
  have N0 := Fr.nil n0
  have K0 := Keep.refl h0 [a1]
  have hEL := own_EW hw
  have wS := own_wS hw
  have CH0 := CHr.refl hch
  show FinH p e below s Z own_EL _ _ _ (s₁.setTop (mkF m 0 #[rv a1, rv a2] []))
  refine FinH.step (fun _ k => Yo.aloadN X0.here hx (hb hby d2_0) rfl rfl (Yo.aloadN X0.here hx (hb hby d2_1) rfl rfl (Yo.iconst X0.here hx (hb hby d2_2) (Yo.aloadN X0.here hx (hb hby d2_3) rfl rfl k)))) ?_
  have voy1 := HV_a2
  obtain ⟨cly1, Ary1, qay1, say1, nay1, hay1, gay1⟩ := voy1
  refine FinH.step (X0.arraylength hx (by rw [e0]; exact Ary1.1) (State.isArrayOf_alike hZ.alike Ary1.2.1) (g := (mkF m 4 #[rv a1, rv a2] [(.ref a2), (.int 0), (.ref a2), (.ref a1)])) rfl rfl (hb hby d2_4)) ?_
  rw [len_of say1 nay1]
  show FinH p e below s Z own_EL _ _ _ (s₁.setTop (mkF m 5 #[rv a1, rv a2] [(.int 0), (.int 0), (.ref a2), (.ref a1)]))
  refine FinH.step (fun _ k => Yo.aconstNull X0.here hx (hb hby d2_5) k) ?_
  obtain ⟨_, Ty2, Lcy2, Xy2, hSy2, hZ, hown, hQy2, CHcy2, sty2⟩ := packH (s := s) (vm0 := s.vm) ((State.WarmedH.refl s).since 0) (by rw [e0]; exact (Nat.zero_le _)) hZ hown (Jvm.Stand.specialBackS X0 hx (y := n3) rfl hown (mvT hZ (W_ hw 13)) (mvT hZ (W_ hw 14)) (mvT hZ (W_ hw 16)) (by decide) (backOfSH (s := s) (vm0 := s.vm) (W := 0) (rmsi2H l Z a0 hw [] a1 a2 h0 n0 Z0 HE_a1 HF_a1_coder HF_a1_value g_a1) hZ (W_ hw 16) (W_ hw 9) (by decide) (by decide) hEL CH0.1) (g := (mkF m 6 #[rv a1, rv a2] [.null, (.int 0), (.int 0), (.ref a2), (.ref a1)])) rfl (by rw [hml]; rfl) (Steps.refl _) (a := a1) (argsL := [(.ref a2), (.int 0), (.int 0), .null]) (rest := []) (lenOf pd_3 rfl) rfl (lb rfl) (hb hby d2_6) (fun _ _ => ⟨rfl, e0, (by decide : 0 + 4 ≤ _), (by decide : 0 + 8 ≤ _)⟩))
  replace hZ : Z.Warmed39 (s.setVm Ty2.vm).vm := hZ
  replace hown : (s.setVm Ty2.vm).vm.findClass q2 = some m.cls := hown
  obtain ⟨nb_y2, kn_y2, rfl, Nqy2, Kcy2, fy2_0, fy2_1, fy2_2⟩ := hQy2
  have Ny2 := Fr.app N0 Nqy2
  have CHy2 := CH0.trans CHcy2
  have Zy2 := Nat.le_trans Z0 Kcy2.1
  have Ky2 := K0.trans Kcy2 (allS m0 all0)
  refine FinH.step (sty2) ?_
  show FinH p e below s Z own_EL _ _ _ (Ty2.setTop (mkF m 9 #[rv a1, rv a2] []))
  refine FinH.retV Xy2 hSy2 (Nat.le_refl _) hZ hEL (by rw [hsh]; exact CHy2) hx hret hlk (hb hby d2_9) (by decide) (by decide) ?_
  show Qsi1H Z a1 a2 kc xs h0 n0 _ Ty2.heap _
  exact ⟨nb_y2, kn_y2, rfl, Ny2, Ky2, fy2_0, fy2_1, fy2_2⟩
theorem pn_1 : plainName "com/example/shallmark/shallmark/ExpressionIsXPathPinLaw" = true := by first | (simp [plainName, overriddenIn]; done) | decide +kernel
theorem d1_0 : decode method_2_code 0 = .ok (.lload_n 0, 1) := by decide +kernel
theorem d1_1 : decode method_2_code 1 = .ok (.bipush 9, 2) := by decide +kernel
theorem d1_3 : decode method_2_code 3 = .ok (.iload_n 2, 1) := by decide +kernel
theorem d1_4 : decode method_2_code 4 = .ok (.imul, 1) := by decide +kernel
theorem d1_5 : decode method_2_code 5 = .ok (.lushr, 1) := by decide +kernel
theorem d1_6 : decode method_2_code 6 = .ok (.ldc2_w 7, 3) := by decide +kernel
theorem d1_9 : decode method_2_code 9 = .ok (.land, 1) := by decide +kernel
theorem d1_10 : decode method_2_code 10 = .ok (.l2i, 1) := by decide +kernel
theorem d1_11 : decode method_2_code 11 = .ok (.istore_n 3, 1) := by decide +kernel
theorem d1_12 : decode method_2_code 12 = .ok (.iload_n 3, 1) := by decide +kernel
theorem d1_13 : decode method_2_code 13 = .ok (.sipush 256, 3) := by decide +kernel
theorem d1_16 : decode method_2_code 16 = .ok (.if_icmp .ge 5, 3) := by decide +kernel
theorem d1_19 : decode method_2_code 19 = .ok (.iload_n 3, 1) := by decide +kernel
theorem d1_20 : decode method_2_code 20 = .ok (.ireturn, 1) := by decide +kernel
theorem d1_21 : decode method_2_code 21 = .ok (.bipush 16, 2) := by decide +kernel
theorem d1_23 : decode method_2_code 23 = .ok (.newarray .int, 2) := by decide +kernel
theorem d1_25 : decode method_2_code 25 = .ok (.dup, 1) := by decide +kernel
theorem d1_26 : decode method_2_code 26 = .ok (.iconst 0, 1) := by decide +kernel
theorem d1_27 : decode method_2_code 27 = .ok (.bipush 120, 2) := by decide +kernel
theorem d1_29 : decode method_2_code 29 = .ok (.iastore, 1) := by decide +kernel
theorem d1_30 : decode method_2_code 30 = .ok (.dup, 1) := by decide +kernel
theorem d1_31 : decode method_2_code 31 = .ok (.iconst 1, 1) := by decide +kernel
theorem d1_32 : decode method_2_code 32 = .ok (.bipush 88, 2) := by decide +kernel
theorem d1_34 : decode method_2_code 34 = .ok (.iastore, 1) := by decide +kernel
theorem d1_35 : decode method_2_code 35 = .ok (.dup, 1) := by decide +kernel
theorem d1_36 : decode method_2_code 36 = .ok (.iconst 2, 1) := by decide +kernel
theorem d1_37 : decode method_2_code 37 = .ok (.bipush 112, 2) := by decide +kernel
theorem d1_39 : decode method_2_code 39 = .ok (.iastore, 1) := by decide +kernel
theorem d1_40 : decode method_2_code 40 = .ok (.dup, 1) := by decide +kernel
theorem d1_41 : decode method_2_code 41 = .ok (.iconst 3, 1) := by decide +kernel
theorem d1_42 : decode method_2_code 42 = .ok (.bipush 80, 2) := by decide +kernel
theorem d1_44 : decode method_2_code 44 = .ok (.iastore, 1) := by decide +kernel
theorem d1_45 : decode method_2_code 45 = .ok (.dup, 1) := by decide +kernel
theorem d1_46 : decode method_2_code 46 = .ok (.iconst 4, 1) := by decide +kernel
theorem d1_47 : decode method_2_code 47 = .ok (.bipush 97, 2) := by decide +kernel
theorem d1_49 : decode method_2_code 49 = .ok (.iastore, 1) := by decide +kernel
theorem d1_50 : decode method_2_code 50 = .ok (.dup, 1) := by decide +kernel
theorem d1_51 : decode method_2_code 51 = .ok (.iconst 5, 1) := by decide +kernel
theorem d1_52 : decode method_2_code 52 = .ok (.bipush 65, 2) := by decide +kernel
theorem d1_54 : decode method_2_code 54 = .ok (.iastore, 1) := by decide +kernel
theorem d1_55 : decode method_2_code 55 = .ok (.dup, 1) := by decide +kernel
theorem d1_56 : decode method_2_code 56 = .ok (.bipush 6, 2) := by decide +kernel
theorem d1_58 : decode method_2_code 58 = .ok (.bipush 116, 2) := by decide +kernel
theorem d1_60 : decode method_2_code 60 = .ok (.iastore, 1) := by decide +kernel
theorem d1_61 : decode method_2_code 61 = .ok (.dup, 1) := by decide +kernel
theorem d1_62 : decode method_2_code 62 = .ok (.bipush 7, 2) := by decide +kernel
theorem d1_64 : decode method_2_code 64 = .ok (.bipush 84, 2) := by decide +kernel
theorem d1_66 : decode method_2_code 66 = .ok (.iastore, 1) := by decide +kernel
theorem d1_67 : decode method_2_code 67 = .ok (.dup, 1) := by decide +kernel
theorem d1_68 : decode method_2_code 68 = .ok (.bipush 8, 2) := by decide +kernel
theorem d1_70 : decode method_2_code 70 = .ok (.bipush 104, 2) := by decide +kernel
theorem d1_72 : decode method_2_code 72 = .ok (.iastore, 1) := by decide +kernel
theorem d1_73 : decode method_2_code 73 = .ok (.dup, 1) := by decide +kernel
theorem d1_74 : decode method_2_code 74 = .ok (.bipush 9, 2) := by decide +kernel
theorem d1_76 : decode method_2_code 76 = .ok (.bipush 72, 2) := by decide +kernel
theorem d1_78 : decode method_2_code 78 = .ok (.iastore, 1) := by decide +kernel
theorem d1_79 : decode method_2_code 79 = .ok (.dup, 1) := by decide +kernel
theorem d1_80 : decode method_2_code 80 = .ok (.bipush 10, 2) := by decide +kernel
theorem d1_82 : decode method_2_code 82 = .ok (.bipush 32, 2) := by decide +kernel
theorem d1_84 : decode method_2_code 84 = .ok (.iastore, 1) := by decide +kernel
theorem d1_85 : decode method_2_code 85 = .ok (.dup, 1) := by decide +kernel
theorem d1_86 : decode method_2_code 86 = .ok (.bipush 11, 2) := by decide +kernel
theorem d1_88 : decode method_2_code 88 = .ok (.bipush 9, 2) := by decide +kernel
theorem d1_90 : decode method_2_code 90 = .ok (.iastore, 1) := by decide +kernel
theorem d1_91 : decode method_2_code 91 = .ok (.dup, 1) := by decide +kernel
theorem d1_92 : decode method_2_code 92 = .ok (.bipush 12, 2) := by decide +kernel
theorem d1_94 : decode method_2_code 94 = .ok (.bipush 10, 2) := by decide +kernel
theorem d1_96 : decode method_2_code 96 = .ok (.iastore, 1) := by decide +kernel
theorem d1_97 : decode method_2_code 97 = .ok (.dup, 1) := by decide +kernel
theorem d1_98 : decode method_2_code 98 = .ok (.bipush 13, 2) := by decide +kernel
theorem d1_100 : decode method_2_code 100 = .ok (.bipush 28, 2) := by decide +kernel
theorem d1_102 : decode method_2_code 102 = .ok (.iastore, 1) := by decide +kernel
theorem d1_103 : decode method_2_code 103 = .ok (.dup, 1) := by decide +kernel
theorem d1_104 : decode method_2_code 104 = .ok (.bipush 14, 2) := by decide +kernel
theorem d1_106 : decode method_2_code 106 = .ok (.bipush 31, 2) := by decide +kernel
theorem d1_108 : decode method_2_code 108 = .ok (.iastore, 1) := by decide +kernel
theorem d1_109 : decode method_2_code 109 = .ok (.dup, 1) := by decide +kernel
theorem d1_110 : decode method_2_code 110 = .ok (.bipush 15, 2) := by decide +kernel
theorem d1_112 : decode method_2_code 112 = .ok (.sipush 160, 3) := by decide +kernel
theorem d1_115 : decode method_2_code 115 = .ok (.iastore, 1) := by decide +kernel
theorem d1_116 : decode method_2_code 116 = .ok (.astore 4, 2) := by decide +kernel
theorem d1_118 : decode method_2_code 118 = .ok (.aload 4, 2) := by decide +kernel
theorem d1_120 : decode method_2_code 120 = .ok (.iload_n 3, 1) := by decide +kernel
theorem d1_121 : decode method_2_code 121 = .ok (.bipush 15, 2) := by decide +kernel
theorem d1_123 : decode method_2_code 123 = .ok (.iand, 1) := by decide +kernel
theorem d1_124 : decode method_2_code 124 = .ok (.iaload, 1) := by decide +kernel
theorem d1_125 : decode method_2_code 125 = .ok (.ireturn, 1) := by decide +kernel
theorem ef_rmdr (m : MethodId) (x0 : Int64) (x1 : Int32) : entryFrame m #[(.long x0), (.int x1)] 5 = mkF m 0 #[.val (.long x0), .second, .val (.int x1), .unset, .unset] [] := by first | (simp [entryFrame, mkF, argsToLocals, Value.category]; done) | rfl
abbrev R_rmdr : Room := ({ frames := 0, cells := 1, slots := 16, locals := 0 } : Room)
def Qdr (Z : State) (pd : Int64) (pj : Int32) (h0 : Heap) (n0 : Nat) (v : Option Value) (h : Heap) (L : List Loc) : Prop := v = some (.int (own_dr pd pj)) ∧ Fr n0 L ∧ Keep h0 h []
set_option maxRecDepth 65536 in
set_option maxHeartbeats 40000000 in
theorem rmdr (l : Launch) (Z : State) (a0 : Array Value) (hw : ∀ d ∈ tables_1, d.before a0 Z = true) (ws : List Jvm.Cond) (pd : Int64) (pj : Int32) (h0 : Heap) (n0 : Nat) (Z0 : n0 ≤ h0.size) :
    Met1 l n1 method_2_code 5 (some .int) ws R_rmdr #[(.long pd), (.int pj)] Z h0 (Qdr Z pd pj h0 n0) := by
  refine Met1.enter (plainFor_of_name pn_1) (fun m => ef_rmdr m pd pj) fun p e s m below meth c s₁ hx hby hlk hret hml hown hnm hZ X0 e0 => ?_
  have N0 := Fr.nil n0
  have K0 : Keep h0 h0 [] := Keep.refl h0 _
  show Fin p e below s _ _ _ (s₁.setTop (mkF m 0 #[.val (.long pd), .second, iv pj, u_, u_] []))
  refine Fin.step (fun _ => XS.lloadN X0.here hx rfl (hb hby d1_0) rfl) ?_
  show Fin p e below s _ _ _ (s₁.setTop (mkF m 1 #[.val (.long pd), .second, iv pj, u_, u_] [(.long pd)]))
  refine Fin.step (fun _ k => Yo.bipush X0.here hx (hb hby d1_1) (Yo.iloadN X0.here hx (hb hby d1_3) rfl k)) ?_
  refine Fin.step (fun _ => XS.imul X0.here hx rfl (hb hby d1_4) rfl) ?_
  show Fin p e below s _ _ _ (s₁.setTop (mkF m 5 #[.val (.long pd), .second, iv pj, u_, u_] [(.int ((9 : Int32) * pj)), (.long pd)]))
  refine Fin.step (fun _ => XS.lushr X0.here hx rfl (hb hby d1_5) rfl) ?_
  show Fin p e below s _ _ _ (s₁.setTop (mkF m 6 #[.val (.long pd), .second, iv pj, u_, u_] [(.long (ushL pd ((9 : Int32) * pj)))]))
  refine Fin.step (X0.ldc2Long hx hown (mvT hZ (W_ hw 5)) (g := (mkF m 6 #[.val (.long pd), .second, iv pj, u_, u_] [(.long (ushL pd ((9 : Int32) * pj)))])) rfl (hb hby d1_6)) ?_
  show Fin p e below s _ _ _ (s₁.setTop (mkF m 9 #[.val (.long pd), .second, iv pj, u_, u_] [(.long (511 : Int64)), (.long (ushL pd ((9 : Int32) * pj)))]))
  refine Fin.step (fun _ => XS.land X0.here hx rfl (hb hby d1_9) rfl) ?_
  show Fin p e below s _ _ _ (s₁.setTop (mkF m 10 #[.val (.long pd), .second, iv pj, u_, u_] [(.long ((ushL pd ((9 : Int32) * pj)) &&& (511 : Int64)))]))
  refine Fin.step (fun _ => XS.l2i X0.here hx rfl (hb hby d1_10) rfl) ?_
  show Fin p e below s _ _ _ (s₁.setTop (mkF m 11 #[.val (.long pd), .second, iv pj, u_, u_] [(.int ((ushL pd ((9 : Int32) * pj)) &&& (511 : Int64)).toInt32)]))
  refine Fin.step (fun _ k => Yo.istoreN X0.here hx (hb hby d1_11) rfl (l' := #[.val (.long pd), .second, iv pj, .val (.int ((ushL pd ((9 : Int32) * pj)) &&& (511 : Int64)).toInt32), u_]) rfl k) ?_
  obtain ⟨zv, h_zv⟩ : ∃ z : Int32, z = ((ushL pd ((9 : Int32) * pj)) &&& (511 : Int64)).toInt32 := ⟨_, rfl⟩
  rw [← h_zv]
  show Fin p e below s _ _ _ (s₁.setTop (mkF m 12 #[.val (.long pd), .second, iv pj, iv zv, u_] []))
  have ev : zv = own_dv pd pj := h_zv
  refine Fin.step (fun _ k => Yo.iloadN X0.here hx (hb hby d1_12) rfl (Yo.sipush X0.here hx (hb hby d1_13) k)) ?_
  by_cases hcy1 : zv < (256 : Int32)
  · refine Fin.step (fun _ k => Yo.icmpNo X0.here hx (hb hby d1_16) rfl (tlt (hcy1 : (zv < (256 : Int32)))).2.1 (Yo.iloadN X0.here hx (hb hby d1_19) rfl k)) ?_
    refine Fin.retI X0 hx hret hlk (hb hby d1_20) (by decide) (by decide) ?_
    show Qdr Z pd pj h0 n0 _ s₁.heap _
    rw [e0]
    exact ⟨(congrArg (fun z => some (Value.int z)) (by rw [own_dr, ← ev, if_pos hcy1])), N0, K0⟩
  · refine Fin.step (fun _ k => Yo.icmpYes X0.here hx (pc0 := 16) (pc' := 21) rfl (hb hby d1_16) rfl (flt (hcy1 : ¬ (zv < (256 : Int32)))).2.1 (by decide) (by decide) (Yo.bipush X0.here hx (hb hby d1_21) k)) ?_
    obtain ⟨Ty2, hy2, ky2, Xy2, ey2, Ey2, Ay2, sty2⟩ := newP X0 hx hZ (W_ hw 0) e0 (g := (mkF m 23 #[.val (.long pd), .second, iv pj, iv zv, u_] [(.int 16)])) rfl (hb hby d1_23) rfl (by decide) (cap := 16) (by decide) (by decide) (by decide) (by decide)
    obtain ⟨by2, gy2⟩ : ∃ z, z = h0.size := ⟨_, rfl⟩
    rw [← gy2] at Ay2 sty2
    have gzy2 : n0 ≤ by2 := Nat.le_trans Z0 (Nat.le_of_eq gy2.symm)
    have szy2 : h0.size ≤ by2 := Nat.le_trans K0.1 (Nat.le_of_eq gy2.symm)
    have Zy2 := Nat.le_trans Z0 Ey2.1
    have Ky2 := K0.ext Ey2
    have Vy2 : Arv Z hy2 by2 ky2 .int (16 : Int32) [(.int 0), (.int 0), (.int 0), (.int 0), (.int 0), (.int 0), (.int 0), (.int 0), (.int 0), (.int 0), (.int 0), (.int 0), (.int 0), (.int 0), (.int 0), (.int 0)] (.int 0) := (Arv.new Ay2 (by decide)).pad (pad_rep [] (.int 0) 16)
    refine Fin.step (sty2) ?_
    show Fin p e below s _ _ _ (Ty2.setTop (mkF m 25 #[.val (.long pd), .second, iv pj, iv zv, u_] [(.ref by2)]))
    refine Fin.step (fun _ k => Yo.dup Xy2.here hx (hb hby d1_25) rfl rfl (Yo.iconst Xy2.here hx (hb hby d1_26) (Yo.bipush Xy2.here hx (hb hby d1_27) k))) ?_
    obtain ⟨Ty3, hy3, Xy3, ey3, Wy3, Vy3, Ny3, Zy3, Ky3, sty3⟩ := ist3 Xy2 hx hZ ey2 (j := 0) (x := 120) (ix := 0) Vy2 ⟨by decide, by decide⟩ rfl (lb rfl) N0 Zy2 Ky2 gzy2 (Or.inr szy2) (hb hby d1_29)
    refine Fin.step (sty3) ?_
    refine Fin.step (fun _ k => Yo.dup Xy3.here hx (hb hby d1_30) rfl rfl (Yo.iconst Xy3.here hx (hb hby d1_31) (Yo.bipush Xy3.here hx (hb hby d1_32) k))) ?_
    obtain ⟨Ty4, hy4, Xy4, ey4, Wy4, Vy4, Ny4, Zy4, Ky4, sty4⟩ := ist3 Xy3 hx hZ ey3 (j := 1) (x := 88) (ix := 1) Vy3 ⟨by decide, by decide⟩ rfl (lb rfl) Ny3 Zy3 Ky3 gzy2 (Or.inr szy2) (hb hby d1_34)
    refine Fin.step (sty4) ?_
    refine Fin.step (fun _ k => Yo.dup Xy4.here hx (hb hby d1_35) rfl rfl (Yo.iconst Xy4.here hx (hb hby d1_36) (Yo.bipush Xy4.here hx (hb hby d1_37) k))) ?_
    obtain ⟨Ty5, hy5, Xy5, ey5, Wy5, Vy5, Ny5, Zy5, Ky5, sty5⟩ := ist3 Xy4 hx hZ ey4 (j := 2) (x := 112) (ix := 2) Vy4 ⟨by decide, by decide⟩ rfl (lb rfl) Ny4 Zy4 Ky4 gzy2 (Or.inr szy2) (hb hby d1_39)
    refine Fin.step (sty5) ?_
    refine Fin.step (fun _ k => Yo.dup Xy5.here hx (hb hby d1_40) rfl rfl (Yo.iconst Xy5.here hx (hb hby d1_41) (Yo.bipush Xy5.here hx (hb hby d1_42) k))) ?_
    obtain ⟨Ty6, hy6, Xy6, ey6, Wy6, Vy6, Ny6, Zy6, Ky6, sty6⟩ := ist3 Xy5 hx hZ ey5 (j := 3) (x := 80) (ix := 3) Vy5 ⟨by decide, by decide⟩ rfl (lb rfl) Ny5 Zy5 Ky5 gzy2 (Or.inr szy2) (hb hby d1_44)
    refine Fin.step (sty6) ?_
    refine Fin.step (fun _ k => Yo.dup Xy6.here hx (hb hby d1_45) rfl rfl (Yo.iconst Xy6.here hx (hb hby d1_46) (Yo.bipush Xy6.here hx (hb hby d1_47) k))) ?_
    obtain ⟨Ty7, hy7, Xy7, ey7, Wy7, Vy7, Ny7, Zy7, Ky7, sty7⟩ := ist3 Xy6 hx hZ ey6 (j := 4) (x := 97) (ix := 4) Vy6 ⟨by decide, by decide⟩ rfl (lb rfl) Ny6 Zy6 Ky6 gzy2 (Or.inr szy2) (hb hby d1_49)
    refine Fin.step (sty7) ?_
    refine Fin.step (fun _ k => Yo.dup Xy7.here hx (hb hby d1_50) rfl rfl (Yo.iconst Xy7.here hx (hb hby d1_51) (Yo.bipush Xy7.here hx (hb hby d1_52) k))) ?_
    obtain ⟨Ty8, hy8, Xy8, ey8, Wy8, Vy8, Ny8, Zy8, Ky8, sty8⟩ := ist3 Xy7 hx hZ ey7 (j := 5) (x := 65) (ix := 5) Vy7 ⟨by decide, by decide⟩ rfl (lb rfl) Ny7 Zy7 Ky7 gzy2 (Or.inr szy2) (hb hby d1_54)
    refine Fin.step (sty8) ?_
    refine Fin.step (fun _ k => Yo.dup Xy8.here hx (hb hby d1_55) rfl rfl (Yo.bipush Xy8.here hx (hb hby d1_56) (Yo.bipush Xy8.here hx (hb hby d1_58) k))) ?_
    obtain ⟨Ty9, hy9, Xy9, ey9, Wy9, Vy9, Ny9, Zy9, Ky9, sty9⟩ := ist3 Xy8 hx hZ ey8 (j := 6) (x := 116) (ix := 6) Vy8 ⟨by decide, by decide⟩ rfl (lb rfl) Ny8 Zy8 Ky8 gzy2 (Or.inr szy2) (hb hby d1_60)
    refine Fin.step (sty9) ?_
    refine Fin.step (fun _ k => Yo.dup Xy9.here hx (hb hby d1_61) rfl rfl (Yo.bipush Xy9.here hx (hb hby d1_62) (Yo.bipush Xy9.here hx (hb hby d1_64) k))) ?_
    obtain ⟨Ty10, hy10, Xy10, ey10, Wy10, Vy10, Ny10, Zy10, Ky10, sty10⟩ := ist3 Xy9 hx hZ ey9 (j := 7) (x := 84) (ix := 7) Vy9 ⟨by decide, by decide⟩ rfl (lb rfl) Ny9 Zy9 Ky9 gzy2 (Or.inr szy2) (hb hby d1_66)
    refine Fin.step (sty10) ?_
    refine Fin.step (fun _ k => Yo.dup Xy10.here hx (hb hby d1_67) rfl rfl (Yo.bipush Xy10.here hx (hb hby d1_68) (Yo.bipush Xy10.here hx (hb hby d1_70) k))) ?_
    obtain ⟨Ty11, hy11, Xy11, ey11, Wy11, Vy11, Ny11, Zy11, Ky11, sty11⟩ := ist3 Xy10 hx hZ ey10 (j := 8) (x := 104) (ix := 8) Vy10 ⟨by decide, by decide⟩ rfl (lb rfl) Ny10 Zy10 Ky10 gzy2 (Or.inr szy2) (hb hby d1_72)
    refine Fin.step (sty11) ?_
    refine Fin.step (fun _ k => Yo.dup Xy11.here hx (hb hby d1_73) rfl rfl (Yo.bipush Xy11.here hx (hb hby d1_74) (Yo.bipush Xy11.here hx (hb hby d1_76) k))) ?_
    obtain ⟨Ty12, hy12, Xy12, ey12, Wy12, Vy12, Ny12, Zy12, Ky12, sty12⟩ := ist3 Xy11 hx hZ ey11 (j := 9) (x := 72) (ix := 9) Vy11 ⟨by decide, by decide⟩ rfl (lb rfl) Ny11 Zy11 Ky11 gzy2 (Or.inr szy2) (hb hby d1_78)
    refine Fin.step (sty12) ?_
    refine Fin.step (fun _ k => Yo.dup Xy12.here hx (hb hby d1_79) rfl rfl (Yo.bipush Xy12.here hx (hb hby d1_80) (Yo.bipush Xy12.here hx (hb hby d1_82) k))) ?_
    obtain ⟨Ty13, hy13, Xy13, ey13, Wy13, Vy13, Ny13, Zy13, Ky13, sty13⟩ := ist3 Xy12 hx hZ ey12 (j := 10) (x := 32) (ix := 10) Vy12 ⟨by decide, by decide⟩ rfl (lb rfl) Ny12 Zy12 Ky12 gzy2 (Or.inr szy2) (hb hby d1_84)
    refine Fin.step (sty13) ?_
    refine Fin.step (fun _ k => Yo.dup Xy13.here hx (hb hby d1_85) rfl rfl (Yo.bipush Xy13.here hx (hb hby d1_86) (Yo.bipush Xy13.here hx (hb hby d1_88) k))) ?_
    obtain ⟨Ty14, hy14, Xy14, ey14, Wy14, Vy14, Ny14, Zy14, Ky14, sty14⟩ := ist3 Xy13 hx hZ ey13 (j := 11) (x := 9) (ix := 11) Vy13 ⟨by decide, by decide⟩ rfl (lb rfl) Ny13 Zy13 Ky13 gzy2 (Or.inr szy2) (hb hby d1_90)
    refine Fin.step (sty14) ?_
    refine Fin.step (fun _ k => Yo.dup Xy14.here hx (hb hby d1_91) rfl rfl (Yo.bipush Xy14.here hx (hb hby d1_92) (Yo.bipush Xy14.here hx (hb hby d1_94) k))) ?_
    obtain ⟨Ty15, hy15, Xy15, ey15, Wy15, Vy15, Ny15, Zy15, Ky15, sty15⟩ := ist3 Xy14 hx hZ ey14 (j := 12) (x := 10) (ix := 12) Vy14 ⟨by decide, by decide⟩ rfl (lb rfl) Ny14 Zy14 Ky14 gzy2 (Or.inr szy2) (hb hby d1_96)
    refine Fin.step (sty15) ?_
    refine Fin.step (fun _ k => Yo.dup Xy15.here hx (hb hby d1_97) rfl rfl (Yo.bipush Xy15.here hx (hb hby d1_98) (Yo.bipush Xy15.here hx (hb hby d1_100) k))) ?_
    obtain ⟨Ty16, hy16, Xy16, ey16, Wy16, Vy16, Ny16, Zy16, Ky16, sty16⟩ := ist3 Xy15 hx hZ ey15 (j := 13) (x := 28) (ix := 13) Vy15 ⟨by decide, by decide⟩ rfl (lb rfl) Ny15 Zy15 Ky15 gzy2 (Or.inr szy2) (hb hby d1_102)
    refine Fin.step (sty16) ?_
    refine Fin.step (fun _ k => Yo.dup Xy16.here hx (hb hby d1_103) rfl rfl (Yo.bipush Xy16.here hx (hb hby d1_104) (Yo.bipush Xy16.here hx (hb hby d1_106) k))) ?_
    obtain ⟨Ty17, hy17, Xy17, ey17, Wy17, Vy17, Ny17, Zy17, Ky17, sty17⟩ := ist3 Xy16 hx hZ ey16 (j := 14) (x := 31) (ix := 14) Vy16 ⟨by decide, by decide⟩ rfl (lb rfl) Ny16 Zy16 Ky16 gzy2 (Or.inr szy2) (hb hby d1_108)
    refine Fin.step (sty17) ?_
    refine Fin.step (fun _ k => Yo.dup Xy17.here hx (hb hby d1_109) rfl rfl (Yo.bipush Xy17.here hx (hb hby d1_110) (Yo.sipush Xy17.here hx (hb hby d1_112) k))) ?_
    obtain ⟨Ty18, hy18, Xy18, ey18, Wy18, Vy18, Ny18, Zy18, Ky18, sty18⟩ := ist3 Xy17 hx hZ ey17 (j := 15) (x := 160) (ix := 15) Vy17 ⟨by decide, by decide⟩ rfl (lb rfl) Ny17 Zy17 Ky17 gzy2 (Or.inr szy2) (hb hby d1_115)
    refine Fin.step (sty18) ?_
    refine Fin.step (fun _ k => Yo.astore Xy18.here hx (hb hby d1_116) rfl rfl (l' := #[.val (.long pd), .second, iv pj, iv zv, rv by2]) rfl (Yo.aload Xy18.here hx (hb hby d1_118) rfl rfl (Yo.iloadN Xy18.here hx (hb hby d1_120) rfl (Yo.bipush Xy18.here hx (hb hby d1_121) (Yo.iand Xy18.here hx (hb hby d1_123) rfl k))))) ?_
    show Fin p e below s _ _ _ (Ty18.setTop (mkF m 124 #[.val (.long pd), .second, iv pj, iv zv, rv by2] [(.int (zv &&& (15 : Int32))), (.ref by2)]))
    refine Fin.step (fun _ k => ild3 Xy18 hx hZ ey18 (j := (zv &&& (15 : Int32))) (v := (.int (own_gt own_tb (zv &&& (15 : Int32)).toNatClampNeg))) Vy18 (own_m15 zv).1 (own_lg own_tbc _) (hb hby d1_124) k) ?_
    refine Fin.retI Xy18 hx hret hlk (hb hby d1_125) (by decide) (by decide) ?_
    show Qdr Z pd pj h0 n0 _ Ty18.heap _
    rw [ey18]
    exact ⟨(congrArg (fun z => some (Value.int z)) (by rw [own_dr, ← ev, if_neg hcy1])), Ny18, Ky18⟩
theorem own_j7 {j n : Int32} (h0 : 0 ≤ j.toInt) (h : j < n) (h7 : 0 ≤ n.toInt ∧ n.toInt ≤ 7) : ¬ j < 0 ∧ j < 7 := by
  rw [Int32.lt_iff_toInt_lt] at h
  rw [Int32.lt_iff_toInt_lt, Int32.lt_iff_toInt_lt]
  show ¬ _ < (0 : Int) ∧ _ < (7 : Int)
  omega
theorem pn_17 : plainName "com/example/shallmark/shallmark/ExpressionIsXPathPinLaw" = true := by first | (simp [plainName, overriddenIn]; done) | decide +kernel
theorem d17_0 : decode method_5_code 0 = .ok (.iload_n 2, 1) := by decide +kernel
theorem d17_1 : decode method_5_code 1 = .ok (.iload_n 1, 1) := by decide +kernel
theorem d17_2 : decode method_5_code 2 = .ok (.if_icmp .ge 9, 3) := by decide +kernel
theorem d17_5 : decode method_5_code 5 = .ok (.aload_n 0, 1) := by decide +kernel
theorem d17_6 : decode method_5_code 6 = .ok (.iload_n 2, 1) := by decide +kernel
theorem d17_7 : decode method_5_code 7 = .ok (.iaload, 1) := by decide +kernel
theorem d17_8 : decode method_5_code 8 = .ok (.goto 4, 3) := by decide +kernel
theorem d17_12 : decode method_5_code 12 = .ok (.ireturn, 1) := by decide +kernel
theorem d17_11 : decode method_5_code 11 = .ok (.iconst (-1), 1) := by decide +kernel
theorem ef_rmat (m : MethodId) (x0 : Addr) (x1 : Int32) (x2 : Int32) : entryFrame m #[(.ref x0), (.int x1), (.int x2)] 3 = mkF m 0 #[.val (.ref x0), .val (.int x1), .val (.int x2)] [] := by first | (simp [entryFrame, mkF, argsToLocals, Value.category]; done) | rfl
abbrev R_rmat : Room := ({ frames := 0, cells := 0, slots := 0, locals := 0 } : Room)
def Qat (Z : State) (a1 : Addr) (pn pj : Int32) (ka : ClassId) (asl : List Value) (h0 : Heap) (n0 : Nat) (v : Option Value) (h : Heap) (L : List Loc) : Prop := v = some (.int (own_at asl pn pj)) ∧ Fr n0 L ∧ h = h0
set_option maxRecDepth 65536 in
set_option maxHeartbeats 40000000 in
theorem rmat (l : Launch) (Z : State) (a0 : Array Value) (hw : ∀ d ∈ tables_1, d.before a0 Z = true) (ws : List Jvm.Cond) (a1 : Addr) (pn pj : Int32) (ka : ClassId) (asl : List Value) (h0 : Heap) (n0 : Nat) (Z0 : n0 ≤ h0.size) (HV_a1 : Arv Z h0 a1 ka .int (7 : Int32) asl (.int 0)) (hca : own_chs asl) (h7 : 0 ≤ pn.toInt ∧ pn.toInt ≤ 7) (hj : 0 ≤ pj.toInt) :
    Met1 l n17 method_5_code 3 (some .int) ws R_rmat #[(.ref a1), (.int pn), (.int pj)] Z h0 (Qat Z a1 pn pj ka asl h0 n0) := by
  refine Met1.enter (plainFor_of_name pn_17) (fun m => ef_rmat m a1 pn pj) fun p e s m below meth c s₁ hx hby hlk hret hml hown hnm hZ X0 e0 => ?_
  have N0 := Fr.nil n0
  have K0 : Keep h0 h0 [] := Keep.refl h0 _
  show Fin p e below s _ _ _ (s₁.setTop (mkF m 0 #[rv a1, iv pn, iv pj] []))
  refine Fin.step (fun _ k => Yo.iloadN X0.here hx (hb hby d17_0) rfl (Yo.iloadN X0.here hx (hb hby d17_1) rfl k)) ?_
  by_cases hcy1 : pj < pn
  · refine Fin.step (fun _ k => Yo.icmpNo X0.here hx (hb hby d17_2) rfl (tlt (hcy1 : (pj < pn))).2.1 (Yo.aloadN X0.here hx (hb hby d17_5) rfl rfl (Yo.iloadN X0.here hx (hb hby d17_6) rfl (ild3 X0 hx hZ e0 (j := pj) (v := (.int (own_gt asl pj.toNatClampNeg))) HV_a1 (own_j7 hj hcy1 h7) (own_lg hca _) (hb hby d17_7) (Yo.goto X0.here hx (pc0 := 8) (pc' := 12) rfl (hb hby d17_8) (by decide) (by decide) k))))) ?_
    refine Fin.retI X0 hx hret hlk (hb hby d17_12) (by decide) (by decide) ?_
    show Qat Z a1 pn pj ka asl h0 n0 _ s₁.heap _
    rw [e0]
    exact ⟨(congrArg (fun z => some (Value.int z)) (by rw [own_at, if_pos hcy1]; first | done | rfl)), N0, rfl⟩
  · refine Fin.step (fun _ k => Yo.icmpYes X0.here hx (pc0 := 2) (pc' := 11) rfl (hb hby d17_2) rfl (flt (hcy1 : ¬ (pj < pn))).2.1 (by decide) (by decide) (Yo.iconst X0.here hx (hb hby d17_11) k)) ?_
    refine Fin.retI X0 hx hret hlk (hb hby d17_12) (by decide) (by decide) ?_
    show Qat Z a1 pn pj ka asl h0 n0 _ s₁.heap _
    rw [e0]
    exact ⟨(congrArg (fun z => some (Value.int z)) (by rw [own_at, if_neg hcy1]; first | done | rfl)), N0, rfl⟩
theorem pn_18 : plainName "com/example/shallmark/shallmark/ExpressionIsXPathPinLaw" = true := by first | (simp [plainName, overriddenIn]; done) | decide +kernel
theorem d18_0 : decode method_4_code 0 = .ok (.iload_n 0, 1) := by decide +kernel
theorem d18_1 : decode method_4_code 1 = .ok (.iload_n 1, 1) := by decide +kernel
theorem d18_2 : decode method_4_code 2 = .ok (.if_icmp .eq 11, 3) := by decide +kernel
theorem d18_13 : decode method_4_code 13 = .ok (.iconst 1, 1) := by decide +kernel
theorem d18_14 : decode method_4_code 14 = .ok (.goto 4, 3) := by decide +kernel
theorem d18_18 : decode method_4_code 18 = .ok (.ireturn, 1) := by decide +kernel
theorem d18_5 : decode method_4_code 5 = .ok (.iload_n 0, 1) := by decide +kernel
theorem d18_6 : decode method_4_code 6 = .ok (.iload_n 1, 1) := by decide +kernel
theorem d18_7 : decode method_4_code 7 = .ok (.bipush 32, 2) := by decide +kernel
theorem d18_9 : decode method_4_code 9 = .ok (.isub, 1) := by decide +kernel
theorem d18_10 : decode method_4_code 10 = .ok (.if_icmp .ne 7, 3) := by decide +kernel
theorem d18_17 : decode method_4_code 17 = .ok (.iconst 0, 1) := by decide +kernel
theorem ef_rmis (m : MethodId) (x0 : Int32) (x1 : Int32) : entryFrame m #[(.int x0), (.int x1)] 2 = mkF m 0 #[.val (.int x0), .val (.int x1)] [] := by first | (simp [entryFrame, mkF, argsToLocals, Value.category]; done) | rfl
abbrev R_rmis : Room := ({ frames := 0, cells := 0, slots := 0, locals := 0 } : Room)
def Qis (Z : State) (pc_ pl : Int32) (h0 : Heap) (n0 : Nat) (v : Option Value) (h : Heap) (L : List Loc) : Prop := v = some (.int (own_is pc_ pl)) ∧ Fr n0 L ∧ h = h0
set_option maxRecDepth 65536 in
set_option maxHeartbeats 40000000 in
theorem rmis (l : Launch) (Z : State) (a0 : Array Value) (hw : ∀ d ∈ tables_1, d.before a0 Z = true) (ws : List Jvm.Cond) (pc_ pl : Int32) (h0 : Heap) (n0 : Nat) (Z0 : n0 ≤ h0.size) :
    Met1 l n18 method_4_code 2 (some .boolean) ws R_rmis #[(.int pc_), (.int pl)] Z h0 (Qis Z pc_ pl h0 n0) := by
  refine Met1.enter (plainFor_of_name pn_18) (fun m => ef_rmis m pc_ pl) fun p e s m below meth c s₁ hx hby hlk hret hml hown hnm hZ X0 e0 => ?_
  have N0 := Fr.nil n0
  have K0 : Keep h0 h0 [] := Keep.refl h0 _
  show Fin p e below s _ _ _ (s₁.setTop (mkF m 0 #[iv pc_, iv pl] []))
  refine Fin.step (fun _ k => Yo.iloadN X0.here hx (hb hby d18_0) rfl (Yo.iloadN X0.here hx (hb hby d18_1) rfl k)) ?_
  by_cases hcy1 : pc_ = pl
  · refine Fin.step (fun _ k => Yo.icmpYes X0.here hx (pc0 := 2) (pc' := 13) rfl (hb hby d18_2) rfl (teq (hcy1 : (pc_ = pl))).1 (by decide) (by decide) (Yo.iconst X0.here hx (hb hby d18_13) (Yo.goto X0.here hx (pc0 := 14) (pc' := 18) rfl (hb hby d18_14) (by decide) (by decide) k))) ?_
    refine Fin.retN X0 hx (t := .boolean) hret (by simp) hlk (hb hby d18_18) (by decide) (by decide) ?_
    show Qis Z pc_ pl h0 n0 _ s₁.heap _
    rw [e0]
    exact ⟨(congrArg (fun z => some (Value.int z)) (by rw [own_is, if_pos hcy1]; first | done | rfl)), N0, rfl⟩
  · refine Fin.step (fun _ k => Yo.icmpNo X0.here hx (hb hby d18_2) rfl (feq (hcy1 : ¬ (pc_ = pl))).1 (Yo.iloadN X0.here hx (hb hby d18_5) rfl (Yo.iloadN X0.here hx (hb hby d18_6) rfl (Yo.bipush X0.here hx (hb hby d18_7) (Yo.isub X0.here hx (hb hby d18_9) rfl k))))) ?_
    show Fin p e below s _ _ _ (s₁.setTop (mkF m 10 #[iv pc_, iv pl] [(.int (pl - (32 : Int32))), (.int pc_)]))
    by_cases hcy2 : pc_ = (pl - (32 : Int32))
    · refine Fin.step (fun _ k => Yo.icmpNo X0.here hx (hb hby d18_10) rfl (teq (hcy2 : (pc_ = (pl - (32 : Int32))))).2 (Yo.iconst X0.here hx (hb hby d18_13) (Yo.goto X0.here hx (pc0 := 14) (pc' := 18) rfl (hb hby d18_14) (by decide) (by decide) k))) ?_
      refine Fin.retN X0 hx (t := .boolean) hret (by simp) hlk (hb hby d18_18) (by decide) (by decide) ?_
      show Qis Z pc_ pl h0 n0 _ s₁.heap _
      rw [e0]
      exact ⟨(congrArg (fun z => some (Value.int z)) (by rw [own_is, if_neg hcy1, if_pos hcy2]; first | done | rfl)), N0, rfl⟩
    · refine Fin.step (fun _ k => Yo.icmpYes X0.here hx (pc0 := 10) (pc' := 17) rfl (hb hby d18_10) rfl (feq (hcy2 : ¬ (pc_ = (pl - (32 : Int32))))).2 (by decide) (by decide) (Yo.iconst X0.here hx (hb hby d18_17) k)) ?_
      refine Fin.retN X0 hx (t := .boolean) hret (by simp) hlk (hb hby d18_18) (by decide) (by decide) ?_
      show Qis Z pc_ pl h0 n0 _ s₁.heap _
      rw [e0]
      exact ⟨(congrArg (fun z => some (Value.int z)) (by rw [own_is, if_neg hcy1, if_neg hcy2]; first | done | rfl)), N0, rfl⟩
theorem pn_19 : plainName "com/example/shallmark/shallmark/ExpressionIsXPathPinLaw" = true := by first | (simp [plainName, overriddenIn]; done) | decide +kernel
theorem d19_0 : decode method_3_code 0 = .ok (.iload_n 0, 1) := by decide +kernel
theorem d19_1 : decode method_3_code 1 = .ok (.bipush 9, 2) := by decide +kernel
theorem d19_3 : decode method_3_code 3 = .ok (.if_icmp .lt 9, 3) := by decide +kernel
theorem d19_12 : decode method_3_code 12 = .ok (.iload_n 0, 1) := by decide +kernel
theorem d19_13 : decode method_3_code 13 = .ok (.bipush 28, 2) := by decide +kernel
theorem d19_15 : decode method_3_code 15 = .ok (.if_icmp .lt 13, 3) := by decide +kernel
theorem d19_28 : decode method_3_code 28 = .ok (.iconst 0, 1) := by decide +kernel
theorem d19_29 : decode method_3_code 29 = .ok (.ireturn, 1) := by decide +kernel
theorem d19_18 : decode method_3_code 18 = .ok (.iload_n 0, 1) := by decide +kernel
theorem d19_19 : decode method_3_code 19 = .ok (.bipush 32, 2) := by decide +kernel
theorem d19_21 : decode method_3_code 21 = .ok (.if_icmp .gt 7, 3) := by decide +kernel
theorem d19_24 : decode method_3_code 24 = .ok (.iconst 1, 1) := by decide +kernel
theorem d19_25 : decode method_3_code 25 = .ok (.goto 4, 3) := by decide +kernel
theorem d19_6 : decode method_3_code 6 = .ok (.iload_n 0, 1) := by decide +kernel
theorem d19_7 : decode method_3_code 7 = .ok (.bipush 13, 2) := by decide +kernel
theorem d19_9 : decode method_3_code 9 = .ok (.if_icmp .le 15, 3) := by decide +kernel
theorem ef_rmws (m : MethodId) (x0 : Int32) : entryFrame m #[(.int x0)] 1 = mkF m 0 #[.val (.int x0)] [] := by first | (simp [entryFrame, mkF, argsToLocals, Value.category]; done) | rfl
abbrev R_rmws : Room := ({ frames := 0, cells := 0, slots := 0, locals := 0 } : Room)
def Qws (Z : State) (pc_ : Int32) (h0 : Heap) (n0 : Nat) (v : Option Value) (h : Heap) (L : List Loc) : Prop := v = some (.int (own_ws pc_)) ∧ Fr n0 L ∧ h = h0
set_option maxRecDepth 65536 in
set_option maxHeartbeats 40000000 in
theorem rmws (l : Launch) (Z : State) (a0 : Array Value) (hw : ∀ d ∈ tables_1, d.before a0 Z = true) (ws : List Jvm.Cond) (pc_ : Int32) (h0 : Heap) (n0 : Nat) (Z0 : n0 ≤ h0.size) :
    Met1 l n19 method_3_code 1 (some .boolean) ws R_rmws #[(.int pc_)] Z h0 (Qws Z pc_ h0 n0) := by
  refine Met1.enter (plainFor_of_name pn_19) (fun m => ef_rmws m pc_) fun p e s m below meth c s₁ hx hby hlk hret hml hown hnm hZ X0 e0 => ?_
  have N0 := Fr.nil n0
  have K0 : Keep h0 h0 [] := Keep.refl h0 _
  show Fin p e below s _ _ _ (s₁.setTop (mkF m 0 #[iv pc_] []))
  refine Fin.step (fun _ k => Yo.iloadN X0.here hx (hb hby d19_0) rfl (Yo.bipush X0.here hx (hb hby d19_1) k)) ?_
  by_cases hcy1 : pc_ < (9 : Int32)
  · refine Fin.step (fun _ k => Yo.icmpYes X0.here hx (pc0 := 3) (pc' := 12) rfl (hb hby d19_3) rfl (tlt (hcy1 : (pc_ < (9 : Int32)))).1 (by decide) (by decide) (Yo.iloadN X0.here hx (hb hby d19_12) rfl (Yo.bipush X0.here hx (hb hby d19_13) k))) ?_
    by_cases hcy2 : pc_ < (28 : Int32)
    · refine Fin.step (fun _ k => Yo.icmpYes X0.here hx (pc0 := 15) (pc' := 28) rfl (hb hby d19_15) rfl (tlt (hcy2 : (pc_ < (28 : Int32)))).1 (by decide) (by decide) (Yo.iconst X0.here hx (hb hby d19_28) k)) ?_
      refine Fin.retN X0 hx (t := .boolean) hret (by simp) hlk (hb hby d19_29) (by decide) (by decide) ?_
      show Qws Z pc_ h0 n0 _ s₁.heap _
      rw [e0]
      exact ⟨(congrArg (fun z => some (Value.int z)) (by rw [own_ws, if_pos hcy1, if_pos hcy2]; first | done | rfl)), N0, rfl⟩
    · refine Fin.step (fun _ k => Yo.icmpNo X0.here hx (hb hby d19_15) rfl (flt (hcy2 : ¬ (pc_ < (28 : Int32)))).1 (Yo.iloadN X0.here hx (hb hby d19_18) rfl (Yo.bipush X0.here hx (hb hby d19_19) k))) ?_
      by_cases hcy3 : (32 : Int32) < pc_
      · refine Fin.step (fun _ k => Yo.icmpYes X0.here hx (pc0 := 21) (pc' := 28) rfl (hb hby d19_21) rfl (tlt (hcy3 : ((32 : Int32) < pc_))).2.2.1 (by decide) (by decide) (Yo.iconst X0.here hx (hb hby d19_28) k)) ?_
        refine Fin.retN X0 hx (t := .boolean) hret (by simp) hlk (hb hby d19_29) (by decide) (by decide) ?_
        show Qws Z pc_ h0 n0 _ s₁.heap _
        rw [e0]
        exact ⟨(congrArg (fun z => some (Value.int z)) (by rw [own_ws, if_pos hcy1, if_neg hcy2, if_pos hcy3]; first | done | rfl)), N0, rfl⟩
      · refine Fin.step (fun _ k => Yo.icmpNo X0.here hx (hb hby d19_21) rfl (flt (hcy3 : ¬ ((32 : Int32) < pc_))).2.2.1 (Yo.iconst X0.here hx (hb hby d19_24) (Yo.goto X0.here hx (pc0 := 25) (pc' := 29) rfl (hb hby d19_25) (by decide) (by decide) k))) ?_
        refine Fin.retN X0 hx (t := .boolean) hret (by simp) hlk (hb hby d19_29) (by decide) (by decide) ?_
        show Qws Z pc_ h0 n0 _ s₁.heap _
        rw [e0]
        exact ⟨(congrArg (fun z => some (Value.int z)) (by rw [own_ws, if_pos hcy1, if_neg hcy2, if_neg hcy3]; first | done | rfl)), N0, rfl⟩
  · refine Fin.step (fun _ k => Yo.icmpNo X0.here hx (hb hby d19_3) rfl (flt (hcy1 : ¬ (pc_ < (9 : Int32)))).1 (Yo.iloadN X0.here hx (hb hby d19_6) rfl (Yo.bipush X0.here hx (hb hby d19_7) k))) ?_
    by_cases hcy4 : (13 : Int32) < pc_
    · refine Fin.step (fun _ k => Yo.icmpNo X0.here hx (hb hby d19_9) rfl (tlt (hcy4 : ((13 : Int32) < pc_))).2.2.2 (Yo.iloadN X0.here hx (hb hby d19_12) rfl (Yo.bipush X0.here hx (hb hby d19_13) k))) ?_
      by_cases hcy5 : pc_ < (28 : Int32)
      · refine Fin.step (fun _ k => Yo.icmpYes X0.here hx (pc0 := 15) (pc' := 28) rfl (hb hby d19_15) rfl (tlt (hcy5 : (pc_ < (28 : Int32)))).1 (by decide) (by decide) (Yo.iconst X0.here hx (hb hby d19_28) k)) ?_
        refine Fin.retN X0 hx (t := .boolean) hret (by simp) hlk (hb hby d19_29) (by decide) (by decide) ?_
        show Qws Z pc_ h0 n0 _ s₁.heap _
        rw [e0]
        exact ⟨(congrArg (fun z => some (Value.int z)) (by rw [own_ws, if_neg hcy1, if_pos hcy4, if_pos hcy5]; first | done | rfl)), N0, rfl⟩
      · refine Fin.step (fun _ k => Yo.icmpNo X0.here hx (hb hby d19_15) rfl (flt (hcy5 : ¬ (pc_ < (28 : Int32)))).1 (Yo.iloadN X0.here hx (hb hby d19_18) rfl (Yo.bipush X0.here hx (hb hby d19_19) k))) ?_
        by_cases hcy6 : (32 : Int32) < pc_
        · refine Fin.step (fun _ k => Yo.icmpYes X0.here hx (pc0 := 21) (pc' := 28) rfl (hb hby d19_21) rfl (tlt (hcy6 : ((32 : Int32) < pc_))).2.2.1 (by decide) (by decide) (Yo.iconst X0.here hx (hb hby d19_28) k)) ?_
          refine Fin.retN X0 hx (t := .boolean) hret (by simp) hlk (hb hby d19_29) (by decide) (by decide) ?_
          show Qws Z pc_ h0 n0 _ s₁.heap _
          rw [e0]
          exact ⟨(congrArg (fun z => some (Value.int z)) (by rw [own_ws, if_neg hcy1, if_pos hcy4, if_neg hcy5, if_pos hcy6]; first | done | rfl)), N0, rfl⟩
        · refine Fin.step (fun _ k => Yo.icmpNo X0.here hx (hb hby d19_21) rfl (flt (hcy6 : ¬ ((32 : Int32) < pc_))).2.2.1 (Yo.iconst X0.here hx (hb hby d19_24) (Yo.goto X0.here hx (pc0 := 25) (pc' := 29) rfl (hb hby d19_25) (by decide) (by decide) k))) ?_
          refine Fin.retN X0 hx (t := .boolean) hret (by simp) hlk (hb hby d19_29) (by decide) (by decide) ?_
          show Qws Z pc_ h0 n0 _ s₁.heap _
          rw [e0]
          exact ⟨(congrArg (fun z => some (Value.int z)) (by rw [own_ws, if_neg hcy1, if_pos hcy4, if_neg hcy5, if_neg hcy6]; first | done | rfl)), N0, rfl⟩
    · refine Fin.step (fun _ k => Yo.icmpYes X0.here hx (pc0 := 9) (pc' := 24) rfl (hb hby d19_9) rfl (flt (hcy4 : ¬ ((13 : Int32) < pc_))).2.2.2 (by decide) (by decide) (Yo.iconst X0.here hx (hb hby d19_24) (Yo.goto X0.here hx (pc0 := 25) (pc' := 29) rfl (hb hby d19_25) (by decide) (by decide) k))) ?_
      refine Fin.retN X0 hx (t := .boolean) hret (by simp) hlk (hb hby d19_29) (by decide) (by decide) ?_
      show Qws Z pc_ h0 n0 _ s₁.heap _
      rw [e0]
      exact ⟨(congrArg (fun z => some (Value.int z)) (by rw [own_ws, if_neg hcy1, if_neg hcy4]; first | done | rfl)), N0, rfl⟩
theorem pn_16 : plainName "com/example/shallmark/shallmark/ExpressionIsXPathPinLaw" = true := by first | (simp [plainName, overriddenIn]; done) | decide +kernel
theorem d16_0 : decode method_6_code 0 = .ok (.aload_n 0, 1) := by decide +kernel
theorem d16_1 : decode method_6_code 1 = .ok (.iload_n 1, 1) := by decide +kernel
theorem d16_2 : decode method_6_code 2 = .ok (.iload_n 2, 1) := by decide +kernel
theorem d16_3 : decode method_6_code 3 = .ok (.invokestatic 9, 3) := by decide +kernel
theorem pd_4 : parseMethodDescriptor "([III)I" = some ⟨[(.array .int), .int, .int], some .int⟩ := by decide +kernel
theorem d16_6 : decode method_6_code 6 = .ok (.bipush 120, 2) := by decide +kernel
theorem d16_8 : decode method_6_code 8 = .ok (.invokestatic 15, 3) := by decide +kernel
theorem pd_5 : parseMethodDescriptor "(II)Z" = some ⟨[.int, .int], some .boolean⟩ := by decide +kernel
theorem d16_11 : decode method_6_code 11 = .ok (.ifCond .eq 71, 3) := by decide +kernel
theorem d16_82 : decode method_6_code 82 = .ok (.iconst 0, 1) := by decide +kernel
theorem d16_83 : decode method_6_code 83 = .ok (.ireturn, 1) := by decide +kernel
theorem d16_14 : decode method_6_code 14 = .ok (.aload_n 0, 1) := by decide +kernel
theorem d16_15 : decode method_6_code 15 = .ok (.iload_n 1, 1) := by decide +kernel
theorem d16_16 : decode method_6_code 16 = .ok (.iload_n 2, 1) := by decide +kernel
theorem d16_17 : decode method_6_code 17 = .ok (.iconst 1, 1) := by decide +kernel
theorem d16_18 : decode method_6_code 18 = .ok (.iadd, 1) := by decide +kernel
theorem d16_19 : decode method_6_code 19 = .ok (.invokestatic 9, 3) := by decide +kernel
theorem d16_22 : decode method_6_code 22 = .ok (.bipush 112, 2) := by decide +kernel
theorem d16_24 : decode method_6_code 24 = .ok (.invokestatic 15, 3) := by decide +kernel
theorem d16_27 : decode method_6_code 27 = .ok (.ifCond .eq 55, 3) := by decide +kernel
theorem d16_30 : decode method_6_code 30 = .ok (.aload_n 0, 1) := by decide +kernel
theorem d16_31 : decode method_6_code 31 = .ok (.iload_n 1, 1) := by decide +kernel
theorem d16_32 : decode method_6_code 32 = .ok (.iload_n 2, 1) := by decide +kernel
theorem d16_33 : decode method_6_code 33 = .ok (.iconst 2, 1) := by decide +kernel
theorem d16_34 : decode method_6_code 34 = .ok (.iadd, 1) := by decide +kernel
theorem d16_35 : decode method_6_code 35 = .ok (.invokestatic 9, 3) := by decide +kernel
theorem d16_38 : decode method_6_code 38 = .ok (.bipush 97, 2) := by decide +kernel
theorem d16_40 : decode method_6_code 40 = .ok (.invokestatic 15, 3) := by decide +kernel
theorem d16_43 : decode method_6_code 43 = .ok (.ifCond .eq 39, 3) := by decide +kernel
theorem d16_46 : decode method_6_code 46 = .ok (.aload_n 0, 1) := by decide +kernel
theorem d16_47 : decode method_6_code 47 = .ok (.iload_n 1, 1) := by decide +kernel
theorem d16_48 : decode method_6_code 48 = .ok (.iload_n 2, 1) := by decide +kernel
theorem d16_49 : decode method_6_code 49 = .ok (.iconst 3, 1) := by decide +kernel
theorem d16_50 : decode method_6_code 50 = .ok (.iadd, 1) := by decide +kernel
theorem d16_51 : decode method_6_code 51 = .ok (.invokestatic 9, 3) := by decide +kernel
theorem d16_54 : decode method_6_code 54 = .ok (.bipush 116, 2) := by decide +kernel
theorem d16_56 : decode method_6_code 56 = .ok (.invokestatic 15, 3) := by decide +kernel
theorem d16_59 : decode method_6_code 59 = .ok (.ifCond .eq 23, 3) := by decide +kernel
theorem d16_62 : decode method_6_code 62 = .ok (.aload_n 0, 1) := by decide +kernel
theorem d16_63 : decode method_6_code 63 = .ok (.iload_n 1, 1) := by decide +kernel
theorem d16_64 : decode method_6_code 64 = .ok (.iload_n 2, 1) := by decide +kernel
theorem d16_65 : decode method_6_code 65 = .ok (.iconst 4, 1) := by decide +kernel
theorem d16_66 : decode method_6_code 66 = .ok (.iadd, 1) := by decide +kernel
theorem d16_67 : decode method_6_code 67 = .ok (.invokestatic 9, 3) := by decide +kernel
theorem d16_70 : decode method_6_code 70 = .ok (.bipush 104, 2) := by decide +kernel
theorem d16_72 : decode method_6_code 72 = .ok (.invokestatic 15, 3) := by decide +kernel
theorem d16_75 : decode method_6_code 75 = .ok (.ifCond .eq 7, 3) := by decide +kernel
theorem d16_78 : decode method_6_code 78 = .ok (.iconst 1, 1) := by decide +kernel
theorem d16_79 : decode method_6_code 79 = .ok (.goto 4, 3) := by decide +kernel
theorem ef_rmm0 (m : MethodId) (x0 : Addr) (x1 : Int32) : entryFrame m #[(.ref x0), (.int x1), (.int (0 : Int32))] 3 = mkF m 0 #[.val (.ref x0), .val (.int x1), .val (.int (0 : Int32))] [] := by first | (simp [entryFrame, mkF, argsToLocals, Value.category]; done) | rfl
abbrev R_rmm0 : Room := ({ frames := 1, cells := 0, slots := 0, locals := 14 } : Room)
def Qm0 (Z : State) (a1 : Addr) (pn : Int32) (ka : ClassId) (asl : List Value) (h0 : Heap) (n0 : Nat) (v : Option Value) (h : Heap) (L : List Loc) : Prop := v = some (.int (own_mm asl pn (0 : Int32) (1 : Int32) (2 : Int32) (3 : Int32) (4 : Int32))) ∧ Fr n0 L ∧ h = h0
set_option maxRecDepth 65536 in
set_option maxHeartbeats 40000000 in
theorem rmm0 (l : Launch) (Z : State) (a0 : Array Value) (hw : ∀ d ∈ tables_1, d.before a0 Z = true) (ws : List Jvm.Cond) (a1 : Addr) (pn : Int32) (ka : ClassId) (asl : List Value) (h0 : Heap) (n0 : Nat) (Z0 : n0 ≤ h0.size) (HV_a1 : Arv Z h0 a1 ka .int (7 : Int32) asl (.int 0)) (hca : own_chs asl) (h7 : 0 ≤ pn.toInt ∧ pn.toInt ≤ 7) :
    Met1 l n16 method_6_code 3 (some .boolean) ws R_rmm0 #[(.ref a1), (.int pn), (.int 0)] Z h0 (Qm0 Z a1 pn ka asl h0 n0) := by
  refine Met1.enter (plainFor_of_name pn_16) (fun m => ef_rmm0 m a1 pn) fun p e s m below meth c s₁ hx hby hlk hret hml hown hnm hZ X0 e0 => ?_
  have N0 := Fr.nil n0
  have K0 : Keep h0 h0 [] := Keep.refl h0 _
  show Fin p e below s _ _ _ (s₁.setTop (mkF m 0 #[rv a1, iv pn, iv 0] []))
  refine Fin.step (fun _ k => Yo.aloadN X0.here hx (hb hby d16_0) rfl rfl (Yo.iloadN X0.here hx (hb hby d16_1) rfl (Yo.iloadN X0.here hx (hb hby d16_2) rfl k))) ?_
  obtain ⟨_, Ty1, Lcy1, Xy1, hQy1, sty1⟩ := packS (Jvm.LawKit.callS X0 hx (y := n17) hown (mvT hZ (W_ hw 84)) (mvT hZ (W_ hw 85)) (mvT hZ (W_ hw 3)) (mvT hZ (W_ hw 86)) (by decide) (backOf (W := 0) (rmat l Z a0 hw [] a1 pn 0 ka asl h0 n0 Z0 HV_a1 hca h7 (by decide)) hZ (W_ hw 86) (W_ hw 3) (by decide) (by decide)) (g := (mkF m 3 #[rv a1, iv pn, iv 0] [(.int 0), (.int pn), (.ref a1)])) rfl (by rw [hml]; rfl) (argsL := [(.ref a1), (.int pn), (.int 0)]) (rest := []) (lenOf pd_4 rfl) rfl (lb rfl) (hb hby d16_3) (fun _ _ => ⟨rfl, e0, (by decide : 0 + 0 ≤ _), (by decide : 0 + 0 ≤ _)⟩))
  obtain ⟨rfl, Nqy1, eqy1⟩ := hQy1
  have Ny1 := Fr.app N0 Nqy1
  refine Fin.step (sty1) ?_
  show Fin p e below s _ _ _ (Ty1.setTop (mkF m 6 #[rv a1, iv pn, iv 0] [(.int (own_at asl pn (0 : Int32)))]))
  refine Fin.step (fun _ k => Yo.bipush Xy1.here hx (hb hby d16_6) k) ?_
  obtain ⟨_, Ty2, Lcy2, Xy2, hQy2, sty2⟩ := packS (Jvm.LawKit.callS Xy1 hx (y := n18) hown (mvT hZ (W_ hw 87)) (mvT hZ (W_ hw 88)) (mvT hZ (W_ hw 3)) (mvT hZ (W_ hw 89)) (by decide) (backOf (W := 0) (rmis l Z a0 hw [] (own_at asl pn (0 : Int32)) 120 h0 n0 Z0 ) hZ (W_ hw 89) (W_ hw 3) (by decide) (by decide)) (g := (mkF m 8 #[rv a1, iv pn, iv 0] [(.int 120), (.int (own_at asl pn (0 : Int32)))])) rfl (by rw [hml]; rfl) (argsL := [(.int (own_at asl pn (0 : Int32))), (.int 120)]) (rest := []) (lenOf pd_5 rfl) rfl (lb rfl) (hb hby d16_8) (fun _ _ => ⟨rfl, eqy1, (by decide : 0 + 0 ≤ _), (by decide : 0 + 0 ≤ _)⟩))
  obtain ⟨rfl, Nqy2, eqy2⟩ := hQy2
  have Ny2 := Fr.app Ny1 Nqy2
  refine Fin.step (sty2) ?_
  show Fin p e below s _ _ _ (Ty2.setTop (mkF m 11 #[rv a1, iv pn, iv 0] [(.int (own_is (own_at asl pn (0 : Int32)) (120 : Int32)))]))
  by_cases hcy3 : (own_is (own_at asl pn (0 : Int32)) (120 : Int32)) = (0 : Int32)
  · refine Fin.step (fun _ k => Yo.ifYes Xy2.here hx (pc0 := 11) (pc' := 82) rfl (hb hby d16_11) rfl ((if0 _ _).trans (teq (hcy3 : ((own_is (own_at asl pn (0 : Int32)) (120 : Int32)) = (0 : Int32)))).1) (by decide) (by decide) (Yo.iconst Xy2.here hx (hb hby d16_82) k)) ?_
    refine Fin.retN Xy2 hx (t := .boolean) hret (by simp) hlk (hb hby d16_83) (by decide) (by decide) ?_
    show Qm0 Z a1 pn ka asl h0 n0 _ Ty2.heap _
    rw [eqy2]
    exact ⟨(congrArg (fun z => some (Value.int z)) (by rw [own_mm, if_pos hcy3]; first | done | rfl)), Ny2, rfl⟩
  · refine Fin.step (fun _ k => Yo.ifNo Xy2.here hx (hb hby d16_11) rfl ((if0 _ _).trans (feq (hcy3 : ¬ ((own_is (own_at asl pn (0 : Int32)) (120 : Int32)) = (0 : Int32)))).1) (Yo.aloadN Xy2.here hx (hb hby d16_14) rfl rfl (Yo.iloadN Xy2.here hx (hb hby d16_15) rfl (Yo.iloadN Xy2.here hx (hb hby d16_16) rfl (Yo.iconst Xy2.here hx (hb hby d16_17) (Yo.iadd Xy2.here hx (hb hby d16_18) rfl k)))))) ?_
    show Fin p e below s _ _ _ (Ty2.setTop (mkF m 19 #[rv a1, iv pn, iv 0] [(.int 1), (.int pn), (.ref a1)]))
    obtain ⟨_, Ty4, Lcy4, Xy4, hQy4, sty4⟩ := packS (Jvm.LawKit.callS Xy2 hx (y := n17) hown (mvT hZ (W_ hw 84)) (mvT hZ (W_ hw 85)) (mvT hZ (W_ hw 3)) (mvT hZ (W_ hw 86)) (by decide) (backOf (W := 0) (rmat l Z a0 hw [] a1 pn 1 ka asl h0 n0 Z0 HV_a1 hca h7 (by decide)) hZ (W_ hw 86) (W_ hw 3) (by decide) (by decide)) (g := (mkF m 19 #[rv a1, iv pn, iv 0] [(.int 1), (.int pn), (.ref a1)])) rfl (by rw [hml]; rfl) (argsL := [(.ref a1), (.int pn), (.int 1)]) (rest := []) (lenOf pd_4 rfl) rfl (lb rfl) (hb hby d16_19) (fun _ _ => ⟨rfl, eqy2, (by decide : 0 + 0 ≤ _), (by decide : 0 + 0 ≤ _)⟩))
    obtain ⟨rfl, Nqy4, eqy4⟩ := hQy4
    have Ny4 := Fr.app Ny2 Nqy4
    refine Fin.step (sty4) ?_
    show Fin p e below s _ _ _ (Ty4.setTop (mkF m 22 #[rv a1, iv pn, iv 0] [(.int (own_at asl pn (1 : Int32)))]))
    refine Fin.step (fun _ k => Yo.bipush Xy4.here hx (hb hby d16_22) k) ?_
    obtain ⟨_, Ty5, Lcy5, Xy5, hQy5, sty5⟩ := packS (Jvm.LawKit.callS Xy4 hx (y := n18) hown (mvT hZ (W_ hw 87)) (mvT hZ (W_ hw 88)) (mvT hZ (W_ hw 3)) (mvT hZ (W_ hw 89)) (by decide) (backOf (W := 0) (rmis l Z a0 hw [] (own_at asl pn (1 : Int32)) 112 h0 n0 Z0 ) hZ (W_ hw 89) (W_ hw 3) (by decide) (by decide)) (g := (mkF m 24 #[rv a1, iv pn, iv 0] [(.int 112), (.int (own_at asl pn (1 : Int32)))])) rfl (by rw [hml]; rfl) (argsL := [(.int (own_at asl pn (1 : Int32))), (.int 112)]) (rest := []) (lenOf pd_5 rfl) rfl (lb rfl) (hb hby d16_24) (fun _ _ => ⟨rfl, eqy4, (by decide : 0 + 0 ≤ _), (by decide : 0 + 0 ≤ _)⟩))
    obtain ⟨rfl, Nqy5, eqy5⟩ := hQy5
    have Ny5 := Fr.app Ny4 Nqy5
    refine Fin.step (sty5) ?_
    show Fin p e below s _ _ _ (Ty5.setTop (mkF m 27 #[rv a1, iv pn, iv 0] [(.int (own_is (own_at asl pn (1 : Int32)) (112 : Int32)))]))
    by_cases hcy6 : (own_is (own_at asl pn (1 : Int32)) (112 : Int32)) = (0 : Int32)
    · refine Fin.step (fun _ k => Yo.ifYes Xy5.here hx (pc0 := 27) (pc' := 82) rfl (hb hby d16_27) rfl ((if0 _ _).trans (teq (hcy6 : ((own_is (own_at asl pn (1 : Int32)) (112 : Int32)) = (0 : Int32)))).1) (by decide) (by decide) (Yo.iconst Xy5.here hx (hb hby d16_82) k)) ?_
      refine Fin.retN Xy5 hx (t := .boolean) hret (by simp) hlk (hb hby d16_83) (by decide) (by decide) ?_
      show Qm0 Z a1 pn ka asl h0 n0 _ Ty5.heap _
      rw [eqy5]
      exact ⟨(congrArg (fun z => some (Value.int z)) (by rw [own_mm, if_neg hcy3, if_pos hcy6]; first | done | rfl)), Ny5, rfl⟩
    · refine Fin.step (fun _ k => Yo.ifNo Xy5.here hx (hb hby d16_27) rfl ((if0 _ _).trans (feq (hcy6 : ¬ ((own_is (own_at asl pn (1 : Int32)) (112 : Int32)) = (0 : Int32)))).1) (Yo.aloadN Xy5.here hx (hb hby d16_30) rfl rfl (Yo.iloadN Xy5.here hx (hb hby d16_31) rfl (Yo.iloadN Xy5.here hx (hb hby d16_32) rfl (Yo.iconst Xy5.here hx (hb hby d16_33) (Yo.iadd Xy5.here hx (hb hby d16_34) rfl k)))))) ?_
      show Fin p e below s _ _ _ (Ty5.setTop (mkF m 35 #[rv a1, iv pn, iv 0] [(.int 2), (.int pn), (.ref a1)]))
      obtain ⟨_, Ty7, Lcy7, Xy7, hQy7, sty7⟩ := packS (Jvm.LawKit.callS Xy5 hx (y := n17) hown (mvT hZ (W_ hw 84)) (mvT hZ (W_ hw 85)) (mvT hZ (W_ hw 3)) (mvT hZ (W_ hw 86)) (by decide) (backOf (W := 0) (rmat l Z a0 hw [] a1 pn 2 ka asl h0 n0 Z0 HV_a1 hca h7 (by decide)) hZ (W_ hw 86) (W_ hw 3) (by decide) (by decide)) (g := (mkF m 35 #[rv a1, iv pn, iv 0] [(.int 2), (.int pn), (.ref a1)])) rfl (by rw [hml]; rfl) (argsL := [(.ref a1), (.int pn), (.int 2)]) (rest := []) (lenOf pd_4 rfl) rfl (lb rfl) (hb hby d16_35) (fun _ _ => ⟨rfl, eqy5, (by decide : 0 + 0 ≤ _), (by decide : 0 + 0 ≤ _)⟩))
      obtain ⟨rfl, Nqy7, eqy7⟩ := hQy7
      have Ny7 := Fr.app Ny5 Nqy7
      refine Fin.step (sty7) ?_
      show Fin p e below s _ _ _ (Ty7.setTop (mkF m 38 #[rv a1, iv pn, iv 0] [(.int (own_at asl pn (2 : Int32)))]))
      refine Fin.step (fun _ k => Yo.bipush Xy7.here hx (hb hby d16_38) k) ?_
      obtain ⟨_, Ty8, Lcy8, Xy8, hQy8, sty8⟩ := packS (Jvm.LawKit.callS Xy7 hx (y := n18) hown (mvT hZ (W_ hw 87)) (mvT hZ (W_ hw 88)) (mvT hZ (W_ hw 3)) (mvT hZ (W_ hw 89)) (by decide) (backOf (W := 0) (rmis l Z a0 hw [] (own_at asl pn (2 : Int32)) 97 h0 n0 Z0 ) hZ (W_ hw 89) (W_ hw 3) (by decide) (by decide)) (g := (mkF m 40 #[rv a1, iv pn, iv 0] [(.int 97), (.int (own_at asl pn (2 : Int32)))])) rfl (by rw [hml]; rfl) (argsL := [(.int (own_at asl pn (2 : Int32))), (.int 97)]) (rest := []) (lenOf pd_5 rfl) rfl (lb rfl) (hb hby d16_40) (fun _ _ => ⟨rfl, eqy7, (by decide : 0 + 0 ≤ _), (by decide : 0 + 0 ≤ _)⟩))
      obtain ⟨rfl, Nqy8, eqy8⟩ := hQy8
      have Ny8 := Fr.app Ny7 Nqy8
      refine Fin.step (sty8) ?_
      show Fin p e below s _ _ _ (Ty8.setTop (mkF m 43 #[rv a1, iv pn, iv 0] [(.int (own_is (own_at asl pn (2 : Int32)) (97 : Int32)))]))
      by_cases hcy9 : (own_is (own_at asl pn (2 : Int32)) (97 : Int32)) = (0 : Int32)
      · refine Fin.step (fun _ k => Yo.ifYes Xy8.here hx (pc0 := 43) (pc' := 82) rfl (hb hby d16_43) rfl ((if0 _ _).trans (teq (hcy9 : ((own_is (own_at asl pn (2 : Int32)) (97 : Int32)) = (0 : Int32)))).1) (by decide) (by decide) (Yo.iconst Xy8.here hx (hb hby d16_82) k)) ?_
        refine Fin.retN Xy8 hx (t := .boolean) hret (by simp) hlk (hb hby d16_83) (by decide) (by decide) ?_
        show Qm0 Z a1 pn ka asl h0 n0 _ Ty8.heap _
        rw [eqy8]
        exact ⟨(congrArg (fun z => some (Value.int z)) (by rw [own_mm, if_neg hcy3, if_neg hcy6, if_pos hcy9]; first | done | rfl)), Ny8, rfl⟩
      · refine Fin.step (fun _ k => Yo.ifNo Xy8.here hx (hb hby d16_43) rfl ((if0 _ _).trans (feq (hcy9 : ¬ ((own_is (own_at asl pn (2 : Int32)) (97 : Int32)) = (0 : Int32)))).1) (Yo.aloadN Xy8.here hx (hb hby d16_46) rfl rfl (Yo.iloadN Xy8.here hx (hb hby d16_47) rfl (Yo.iloadN Xy8.here hx (hb hby d16_48) rfl (Yo.iconst Xy8.here hx (hb hby d16_49) (Yo.iadd Xy8.here hx (hb hby d16_50) rfl k)))))) ?_
        show Fin p e below s _ _ _ (Ty8.setTop (mkF m 51 #[rv a1, iv pn, iv 0] [(.int 3), (.int pn), (.ref a1)]))
        obtain ⟨_, Ty10, Lcy10, Xy10, hQy10, sty10⟩ := packS (Jvm.LawKit.callS Xy8 hx (y := n17) hown (mvT hZ (W_ hw 84)) (mvT hZ (W_ hw 85)) (mvT hZ (W_ hw 3)) (mvT hZ (W_ hw 86)) (by decide) (backOf (W := 0) (rmat l Z a0 hw [] a1 pn 3 ka asl h0 n0 Z0 HV_a1 hca h7 (by decide)) hZ (W_ hw 86) (W_ hw 3) (by decide) (by decide)) (g := (mkF m 51 #[rv a1, iv pn, iv 0] [(.int 3), (.int pn), (.ref a1)])) rfl (by rw [hml]; rfl) (argsL := [(.ref a1), (.int pn), (.int 3)]) (rest := []) (lenOf pd_4 rfl) rfl (lb rfl) (hb hby d16_51) (fun _ _ => ⟨rfl, eqy8, (by decide : 0 + 0 ≤ _), (by decide : 0 + 0 ≤ _)⟩))
        obtain ⟨rfl, Nqy10, eqy10⟩ := hQy10
        have Ny10 := Fr.app Ny8 Nqy10
        refine Fin.step (sty10) ?_
        show Fin p e below s _ _ _ (Ty10.setTop (mkF m 54 #[rv a1, iv pn, iv 0] [(.int (own_at asl pn (3 : Int32)))]))
        refine Fin.step (fun _ k => Yo.bipush Xy10.here hx (hb hby d16_54) k) ?_
        obtain ⟨_, Ty11, Lcy11, Xy11, hQy11, sty11⟩ := packS (Jvm.LawKit.callS Xy10 hx (y := n18) hown (mvT hZ (W_ hw 87)) (mvT hZ (W_ hw 88)) (mvT hZ (W_ hw 3)) (mvT hZ (W_ hw 89)) (by decide) (backOf (W := 0) (rmis l Z a0 hw [] (own_at asl pn (3 : Int32)) 116 h0 n0 Z0 ) hZ (W_ hw 89) (W_ hw 3) (by decide) (by decide)) (g := (mkF m 56 #[rv a1, iv pn, iv 0] [(.int 116), (.int (own_at asl pn (3 : Int32)))])) rfl (by rw [hml]; rfl) (argsL := [(.int (own_at asl pn (3 : Int32))), (.int 116)]) (rest := []) (lenOf pd_5 rfl) rfl (lb rfl) (hb hby d16_56) (fun _ _ => ⟨rfl, eqy10, (by decide : 0 + 0 ≤ _), (by decide : 0 + 0 ≤ _)⟩))
        obtain ⟨rfl, Nqy11, eqy11⟩ := hQy11
        have Ny11 := Fr.app Ny10 Nqy11
        refine Fin.step (sty11) ?_
        show Fin p e below s _ _ _ (Ty11.setTop (mkF m 59 #[rv a1, iv pn, iv 0] [(.int (own_is (own_at asl pn (3 : Int32)) (116 : Int32)))]))
        by_cases hcy12 : (own_is (own_at asl pn (3 : Int32)) (116 : Int32)) = (0 : Int32)
        · refine Fin.step (fun _ k => Yo.ifYes Xy11.here hx (pc0 := 59) (pc' := 82) rfl (hb hby d16_59) rfl ((if0 _ _).trans (teq (hcy12 : ((own_is (own_at asl pn (3 : Int32)) (116 : Int32)) = (0 : Int32)))).1) (by decide) (by decide) (Yo.iconst Xy11.here hx (hb hby d16_82) k)) ?_
          refine Fin.retN Xy11 hx (t := .boolean) hret (by simp) hlk (hb hby d16_83) (by decide) (by decide) ?_
          show Qm0 Z a1 pn ka asl h0 n0 _ Ty11.heap _
          rw [eqy11]
          exact ⟨(congrArg (fun z => some (Value.int z)) (by rw [own_mm, if_neg hcy3, if_neg hcy6, if_neg hcy9, if_pos hcy12]; first | done | rfl)), Ny11, rfl⟩
        · refine Fin.step (fun _ k => Yo.ifNo Xy11.here hx (hb hby d16_59) rfl ((if0 _ _).trans (feq (hcy12 : ¬ ((own_is (own_at asl pn (3 : Int32)) (116 : Int32)) = (0 : Int32)))).1) (Yo.aloadN Xy11.here hx (hb hby d16_62) rfl rfl (Yo.iloadN Xy11.here hx (hb hby d16_63) rfl (Yo.iloadN Xy11.here hx (hb hby d16_64) rfl (Yo.iconst Xy11.here hx (hb hby d16_65) (Yo.iadd Xy11.here hx (hb hby d16_66) rfl k)))))) ?_
          show Fin p e below s _ _ _ (Ty11.setTop (mkF m 67 #[rv a1, iv pn, iv 0] [(.int 4), (.int pn), (.ref a1)]))
          obtain ⟨_, Ty13, Lcy13, Xy13, hQy13, sty13⟩ := packS (Jvm.LawKit.callS Xy11 hx (y := n17) hown (mvT hZ (W_ hw 84)) (mvT hZ (W_ hw 85)) (mvT hZ (W_ hw 3)) (mvT hZ (W_ hw 86)) (by decide) (backOf (W := 0) (rmat l Z a0 hw [] a1 pn 4 ka asl h0 n0 Z0 HV_a1 hca h7 (by decide)) hZ (W_ hw 86) (W_ hw 3) (by decide) (by decide)) (g := (mkF m 67 #[rv a1, iv pn, iv 0] [(.int 4), (.int pn), (.ref a1)])) rfl (by rw [hml]; rfl) (argsL := [(.ref a1), (.int pn), (.int 4)]) (rest := []) (lenOf pd_4 rfl) rfl (lb rfl) (hb hby d16_67) (fun _ _ => ⟨rfl, eqy11, (by decide : 0 + 0 ≤ _), (by decide : 0 + 0 ≤ _)⟩))
          obtain ⟨rfl, Nqy13, eqy13⟩ := hQy13
          have Ny13 := Fr.app Ny11 Nqy13
          refine Fin.step (sty13) ?_
          show Fin p e below s _ _ _ (Ty13.setTop (mkF m 70 #[rv a1, iv pn, iv 0] [(.int (own_at asl pn (4 : Int32)))]))
          refine Fin.step (fun _ k => Yo.bipush Xy13.here hx (hb hby d16_70) k) ?_
          obtain ⟨_, Ty14, Lcy14, Xy14, hQy14, sty14⟩ := packS (Jvm.LawKit.callS Xy13 hx (y := n18) hown (mvT hZ (W_ hw 87)) (mvT hZ (W_ hw 88)) (mvT hZ (W_ hw 3)) (mvT hZ (W_ hw 89)) (by decide) (backOf (W := 0) (rmis l Z a0 hw [] (own_at asl pn (4 : Int32)) 104 h0 n0 Z0 ) hZ (W_ hw 89) (W_ hw 3) (by decide) (by decide)) (g := (mkF m 72 #[rv a1, iv pn, iv 0] [(.int 104), (.int (own_at asl pn (4 : Int32)))])) rfl (by rw [hml]; rfl) (argsL := [(.int (own_at asl pn (4 : Int32))), (.int 104)]) (rest := []) (lenOf pd_5 rfl) rfl (lb rfl) (hb hby d16_72) (fun _ _ => ⟨rfl, eqy13, (by decide : 0 + 0 ≤ _), (by decide : 0 + 0 ≤ _)⟩))
          obtain ⟨rfl, Nqy14, eqy14⟩ := hQy14
          have Ny14 := Fr.app Ny13 Nqy14
          refine Fin.step (sty14) ?_
          show Fin p e below s _ _ _ (Ty14.setTop (mkF m 75 #[rv a1, iv pn, iv 0] [(.int (own_is (own_at asl pn (4 : Int32)) (104 : Int32)))]))
          by_cases hcy15 : (own_is (own_at asl pn (4 : Int32)) (104 : Int32)) = (0 : Int32)
          · refine Fin.step (fun _ k => Yo.ifYes Xy14.here hx (pc0 := 75) (pc' := 82) rfl (hb hby d16_75) rfl ((if0 _ _).trans (teq (hcy15 : ((own_is (own_at asl pn (4 : Int32)) (104 : Int32)) = (0 : Int32)))).1) (by decide) (by decide) (Yo.iconst Xy14.here hx (hb hby d16_82) k)) ?_
            refine Fin.retN Xy14 hx (t := .boolean) hret (by simp) hlk (hb hby d16_83) (by decide) (by decide) ?_
            show Qm0 Z a1 pn ka asl h0 n0 _ Ty14.heap _
            rw [eqy14]
            exact ⟨(congrArg (fun z => some (Value.int z)) (by rw [own_mm, if_neg hcy3, if_neg hcy6, if_neg hcy9, if_neg hcy12, if_pos hcy15]; first | done | rfl)), Ny14, rfl⟩
          · refine Fin.step (fun _ k => Yo.ifNo Xy14.here hx (hb hby d16_75) rfl ((if0 _ _).trans (feq (hcy15 : ¬ ((own_is (own_at asl pn (4 : Int32)) (104 : Int32)) = (0 : Int32)))).1) (Yo.iconst Xy14.here hx (hb hby d16_78) (Yo.goto Xy14.here hx (pc0 := 79) (pc' := 83) rfl (hb hby d16_79) (by decide) (by decide) k))) ?_
            refine Fin.retN Xy14 hx (t := .boolean) hret (by simp) hlk (hb hby d16_83) (by decide) (by decide) ?_
            show Qm0 Z a1 pn ka asl h0 n0 _ Ty14.heap _
            rw [eqy14]
            exact ⟨(congrArg (fun z => some (Value.int z)) (by rw [own_mm, if_neg hcy3, if_neg hcy6, if_neg hcy9, if_neg hcy12, if_neg hcy15]; first | done | rfl)), Ny14, rfl⟩
theorem ef_rmm1 (m : MethodId) (x0 : Addr) (x1 : Int32) : entryFrame m #[(.ref x0), (.int x1), (.int (1 : Int32))] 3 = mkF m 0 #[.val (.ref x0), .val (.int x1), .val (.int (1 : Int32))] [] := by first | (simp [entryFrame, mkF, argsToLocals, Value.category]; done) | rfl
abbrev R_rmm1 : Room := ({ frames := 1, cells := 0, slots := 0, locals := 14 } : Room)
def Qm1 (Z : State) (a1 : Addr) (pn : Int32) (ka : ClassId) (asl : List Value) (h0 : Heap) (n0 : Nat) (v : Option Value) (h : Heap) (L : List Loc) : Prop := v = some (.int (own_mm asl pn (1 : Int32) (2 : Int32) (3 : Int32) (4 : Int32) (5 : Int32))) ∧ Fr n0 L ∧ h = h0
set_option maxRecDepth 65536 in
set_option maxHeartbeats 40000000 in
theorem rmm1 (l : Launch) (Z : State) (a0 : Array Value) (hw : ∀ d ∈ tables_1, d.before a0 Z = true) (ws : List Jvm.Cond) (a1 : Addr) (pn : Int32) (ka : ClassId) (asl : List Value) (h0 : Heap) (n0 : Nat) (Z0 : n0 ≤ h0.size) (HV_a1 : Arv Z h0 a1 ka .int (7 : Int32) asl (.int 0)) (hca : own_chs asl) (h7 : 0 ≤ pn.toInt ∧ pn.toInt ≤ 7) :
    Met1 l n16 method_6_code 3 (some .boolean) ws R_rmm1 #[(.ref a1), (.int pn), (.int 1)] Z h0 (Qm1 Z a1 pn ka asl h0 n0) := by
  refine Met1.enter (plainFor_of_name pn_16) (fun m => ef_rmm1 m a1 pn) fun p e s m below meth c s₁ hx hby hlk hret hml hown hnm hZ X0 e0 => ?_
  have N0 := Fr.nil n0
  have K0 : Keep h0 h0 [] := Keep.refl h0 _
  show Fin p e below s _ _ _ (s₁.setTop (mkF m 0 #[rv a1, iv pn, iv 1] []))
  refine Fin.step (fun _ k => Yo.aloadN X0.here hx (hb hby d16_0) rfl rfl (Yo.iloadN X0.here hx (hb hby d16_1) rfl (Yo.iloadN X0.here hx (hb hby d16_2) rfl k))) ?_
  obtain ⟨_, Ty1, Lcy1, Xy1, hQy1, sty1⟩ := packS (Jvm.LawKit.callS X0 hx (y := n17) hown (mvT hZ (W_ hw 84)) (mvT hZ (W_ hw 85)) (mvT hZ (W_ hw 3)) (mvT hZ (W_ hw 86)) (by decide) (backOf (W := 0) (rmat l Z a0 hw [] a1 pn 1 ka asl h0 n0 Z0 HV_a1 hca h7 (by decide)) hZ (W_ hw 86) (W_ hw 3) (by decide) (by decide)) (g := (mkF m 3 #[rv a1, iv pn, iv 1] [(.int 1), (.int pn), (.ref a1)])) rfl (by rw [hml]; rfl) (argsL := [(.ref a1), (.int pn), (.int 1)]) (rest := []) (lenOf pd_4 rfl) rfl (lb rfl) (hb hby d16_3) (fun _ _ => ⟨rfl, e0, (by decide : 0 + 0 ≤ _), (by decide : 0 + 0 ≤ _)⟩))
  obtain ⟨rfl, Nqy1, eqy1⟩ := hQy1
  have Ny1 := Fr.app N0 Nqy1
  refine Fin.step (sty1) ?_
  show Fin p e below s _ _ _ (Ty1.setTop (mkF m 6 #[rv a1, iv pn, iv 1] [(.int (own_at asl pn (1 : Int32)))]))
  refine Fin.step (fun _ k => Yo.bipush Xy1.here hx (hb hby d16_6) k) ?_
  obtain ⟨_, Ty2, Lcy2, Xy2, hQy2, sty2⟩ := packS (Jvm.LawKit.callS Xy1 hx (y := n18) hown (mvT hZ (W_ hw 87)) (mvT hZ (W_ hw 88)) (mvT hZ (W_ hw 3)) (mvT hZ (W_ hw 89)) (by decide) (backOf (W := 0) (rmis l Z a0 hw [] (own_at asl pn (1 : Int32)) 120 h0 n0 Z0 ) hZ (W_ hw 89) (W_ hw 3) (by decide) (by decide)) (g := (mkF m 8 #[rv a1, iv pn, iv 1] [(.int 120), (.int (own_at asl pn (1 : Int32)))])) rfl (by rw [hml]; rfl) (argsL := [(.int (own_at asl pn (1 : Int32))), (.int 120)]) (rest := []) (lenOf pd_5 rfl) rfl (lb rfl) (hb hby d16_8) (fun _ _ => ⟨rfl, eqy1, (by decide : 0 + 0 ≤ _), (by decide : 0 + 0 ≤ _)⟩))
  obtain ⟨rfl, Nqy2, eqy2⟩ := hQy2
  have Ny2 := Fr.app Ny1 Nqy2
  refine Fin.step (sty2) ?_
  show Fin p e below s _ _ _ (Ty2.setTop (mkF m 11 #[rv a1, iv pn, iv 1] [(.int (own_is (own_at asl pn (1 : Int32)) (120 : Int32)))]))
  by_cases hcy3 : (own_is (own_at asl pn (1 : Int32)) (120 : Int32)) = (0 : Int32)
  · refine Fin.step (fun _ k => Yo.ifYes Xy2.here hx (pc0 := 11) (pc' := 82) rfl (hb hby d16_11) rfl ((if0 _ _).trans (teq (hcy3 : ((own_is (own_at asl pn (1 : Int32)) (120 : Int32)) = (0 : Int32)))).1) (by decide) (by decide) (Yo.iconst Xy2.here hx (hb hby d16_82) k)) ?_
    refine Fin.retN Xy2 hx (t := .boolean) hret (by simp) hlk (hb hby d16_83) (by decide) (by decide) ?_
    show Qm1 Z a1 pn ka asl h0 n0 _ Ty2.heap _
    rw [eqy2]
    exact ⟨(congrArg (fun z => some (Value.int z)) (by rw [own_mm, if_pos hcy3]; first | done | rfl)), Ny2, rfl⟩
  · refine Fin.step (fun _ k => Yo.ifNo Xy2.here hx (hb hby d16_11) rfl ((if0 _ _).trans (feq (hcy3 : ¬ ((own_is (own_at asl pn (1 : Int32)) (120 : Int32)) = (0 : Int32)))).1) (Yo.aloadN Xy2.here hx (hb hby d16_14) rfl rfl (Yo.iloadN Xy2.here hx (hb hby d16_15) rfl (Yo.iloadN Xy2.here hx (hb hby d16_16) rfl (Yo.iconst Xy2.here hx (hb hby d16_17) (Yo.iadd Xy2.here hx (hb hby d16_18) rfl k)))))) ?_
    show Fin p e below s _ _ _ (Ty2.setTop (mkF m 19 #[rv a1, iv pn, iv 1] [(.int 2), (.int pn), (.ref a1)]))
    obtain ⟨_, Ty4, Lcy4, Xy4, hQy4, sty4⟩ := packS (Jvm.LawKit.callS Xy2 hx (y := n17) hown (mvT hZ (W_ hw 84)) (mvT hZ (W_ hw 85)) (mvT hZ (W_ hw 3)) (mvT hZ (W_ hw 86)) (by decide) (backOf (W := 0) (rmat l Z a0 hw [] a1 pn 2 ka asl h0 n0 Z0 HV_a1 hca h7 (by decide)) hZ (W_ hw 86) (W_ hw 3) (by decide) (by decide)) (g := (mkF m 19 #[rv a1, iv pn, iv 1] [(.int 2), (.int pn), (.ref a1)])) rfl (by rw [hml]; rfl) (argsL := [(.ref a1), (.int pn), (.int 2)]) (rest := []) (lenOf pd_4 rfl) rfl (lb rfl) (hb hby d16_19) (fun _ _ => ⟨rfl, eqy2, (by decide : 0 + 0 ≤ _), (by decide : 0 + 0 ≤ _)⟩))
    obtain ⟨rfl, Nqy4, eqy4⟩ := hQy4
    have Ny4 := Fr.app Ny2 Nqy4
    refine Fin.step (sty4) ?_
    show Fin p e below s _ _ _ (Ty4.setTop (mkF m 22 #[rv a1, iv pn, iv 1] [(.int (own_at asl pn (2 : Int32)))]))
    refine Fin.step (fun _ k => Yo.bipush Xy4.here hx (hb hby d16_22) k) ?_
    obtain ⟨_, Ty5, Lcy5, Xy5, hQy5, sty5⟩ := packS (Jvm.LawKit.callS Xy4 hx (y := n18) hown (mvT hZ (W_ hw 87)) (mvT hZ (W_ hw 88)) (mvT hZ (W_ hw 3)) (mvT hZ (W_ hw 89)) (by decide) (backOf (W := 0) (rmis l Z a0 hw [] (own_at asl pn (2 : Int32)) 112 h0 n0 Z0 ) hZ (W_ hw 89) (W_ hw 3) (by decide) (by decide)) (g := (mkF m 24 #[rv a1, iv pn, iv 1] [(.int 112), (.int (own_at asl pn (2 : Int32)))])) rfl (by rw [hml]; rfl) (argsL := [(.int (own_at asl pn (2 : Int32))), (.int 112)]) (rest := []) (lenOf pd_5 rfl) rfl (lb rfl) (hb hby d16_24) (fun _ _ => ⟨rfl, eqy4, (by decide : 0 + 0 ≤ _), (by decide : 0 + 0 ≤ _)⟩))
    obtain ⟨rfl, Nqy5, eqy5⟩ := hQy5
    have Ny5 := Fr.app Ny4 Nqy5
    refine Fin.step (sty5) ?_
    show Fin p e below s _ _ _ (Ty5.setTop (mkF m 27 #[rv a1, iv pn, iv 1] [(.int (own_is (own_at asl pn (2 : Int32)) (112 : Int32)))]))
    by_cases hcy6 : (own_is (own_at asl pn (2 : Int32)) (112 : Int32)) = (0 : Int32)
    · refine Fin.step (fun _ k => Yo.ifYes Xy5.here hx (pc0 := 27) (pc' := 82) rfl (hb hby d16_27) rfl ((if0 _ _).trans (teq (hcy6 : ((own_is (own_at asl pn (2 : Int32)) (112 : Int32)) = (0 : Int32)))).1) (by decide) (by decide) (Yo.iconst Xy5.here hx (hb hby d16_82) k)) ?_
      refine Fin.retN Xy5 hx (t := .boolean) hret (by simp) hlk (hb hby d16_83) (by decide) (by decide) ?_
      show Qm1 Z a1 pn ka asl h0 n0 _ Ty5.heap _
      rw [eqy5]
      exact ⟨(congrArg (fun z => some (Value.int z)) (by rw [own_mm, if_neg hcy3, if_pos hcy6]; first | done | rfl)), Ny5, rfl⟩
    · refine Fin.step (fun _ k => Yo.ifNo Xy5.here hx (hb hby d16_27) rfl ((if0 _ _).trans (feq (hcy6 : ¬ ((own_is (own_at asl pn (2 : Int32)) (112 : Int32)) = (0 : Int32)))).1) (Yo.aloadN Xy5.here hx (hb hby d16_30) rfl rfl (Yo.iloadN Xy5.here hx (hb hby d16_31) rfl (Yo.iloadN Xy5.here hx (hb hby d16_32) rfl (Yo.iconst Xy5.here hx (hb hby d16_33) (Yo.iadd Xy5.here hx (hb hby d16_34) rfl k)))))) ?_
      show Fin p e below s _ _ _ (Ty5.setTop (mkF m 35 #[rv a1, iv pn, iv 1] [(.int 3), (.int pn), (.ref a1)]))
      obtain ⟨_, Ty7, Lcy7, Xy7, hQy7, sty7⟩ := packS (Jvm.LawKit.callS Xy5 hx (y := n17) hown (mvT hZ (W_ hw 84)) (mvT hZ (W_ hw 85)) (mvT hZ (W_ hw 3)) (mvT hZ (W_ hw 86)) (by decide) (backOf (W := 0) (rmat l Z a0 hw [] a1 pn 3 ka asl h0 n0 Z0 HV_a1 hca h7 (by decide)) hZ (W_ hw 86) (W_ hw 3) (by decide) (by decide)) (g := (mkF m 35 #[rv a1, iv pn, iv 1] [(.int 3), (.int pn), (.ref a1)])) rfl (by rw [hml]; rfl) (argsL := [(.ref a1), (.int pn), (.int 3)]) (rest := []) (lenOf pd_4 rfl) rfl (lb rfl) (hb hby d16_35) (fun _ _ => ⟨rfl, eqy5, (by decide : 0 + 0 ≤ _), (by decide : 0 + 0 ≤ _)⟩))
      obtain ⟨rfl, Nqy7, eqy7⟩ := hQy7
      have Ny7 := Fr.app Ny5 Nqy7
      refine Fin.step (sty7) ?_
      show Fin p e below s _ _ _ (Ty7.setTop (mkF m 38 #[rv a1, iv pn, iv 1] [(.int (own_at asl pn (3 : Int32)))]))
      refine Fin.step (fun _ k => Yo.bipush Xy7.here hx (hb hby d16_38) k) ?_
      obtain ⟨_, Ty8, Lcy8, Xy8, hQy8, sty8⟩ := packS (Jvm.LawKit.callS Xy7 hx (y := n18) hown (mvT hZ (W_ hw 87)) (mvT hZ (W_ hw 88)) (mvT hZ (W_ hw 3)) (mvT hZ (W_ hw 89)) (by decide) (backOf (W := 0) (rmis l Z a0 hw [] (own_at asl pn (3 : Int32)) 97 h0 n0 Z0 ) hZ (W_ hw 89) (W_ hw 3) (by decide) (by decide)) (g := (mkF m 40 #[rv a1, iv pn, iv 1] [(.int 97), (.int (own_at asl pn (3 : Int32)))])) rfl (by rw [hml]; rfl) (argsL := [(.int (own_at asl pn (3 : Int32))), (.int 97)]) (rest := []) (lenOf pd_5 rfl) rfl (lb rfl) (hb hby d16_40) (fun _ _ => ⟨rfl, eqy7, (by decide : 0 + 0 ≤ _), (by decide : 0 + 0 ≤ _)⟩))
      obtain ⟨rfl, Nqy8, eqy8⟩ := hQy8
      have Ny8 := Fr.app Ny7 Nqy8
      refine Fin.step (sty8) ?_
      show Fin p e below s _ _ _ (Ty8.setTop (mkF m 43 #[rv a1, iv pn, iv 1] [(.int (own_is (own_at asl pn (3 : Int32)) (97 : Int32)))]))
      by_cases hcy9 : (own_is (own_at asl pn (3 : Int32)) (97 : Int32)) = (0 : Int32)
      · refine Fin.step (fun _ k => Yo.ifYes Xy8.here hx (pc0 := 43) (pc' := 82) rfl (hb hby d16_43) rfl ((if0 _ _).trans (teq (hcy9 : ((own_is (own_at asl pn (3 : Int32)) (97 : Int32)) = (0 : Int32)))).1) (by decide) (by decide) (Yo.iconst Xy8.here hx (hb hby d16_82) k)) ?_
        refine Fin.retN Xy8 hx (t := .boolean) hret (by simp) hlk (hb hby d16_83) (by decide) (by decide) ?_
        show Qm1 Z a1 pn ka asl h0 n0 _ Ty8.heap _
        rw [eqy8]
        exact ⟨(congrArg (fun z => some (Value.int z)) (by rw [own_mm, if_neg hcy3, if_neg hcy6, if_pos hcy9]; first | done | rfl)), Ny8, rfl⟩
      · refine Fin.step (fun _ k => Yo.ifNo Xy8.here hx (hb hby d16_43) rfl ((if0 _ _).trans (feq (hcy9 : ¬ ((own_is (own_at asl pn (3 : Int32)) (97 : Int32)) = (0 : Int32)))).1) (Yo.aloadN Xy8.here hx (hb hby d16_46) rfl rfl (Yo.iloadN Xy8.here hx (hb hby d16_47) rfl (Yo.iloadN Xy8.here hx (hb hby d16_48) rfl (Yo.iconst Xy8.here hx (hb hby d16_49) (Yo.iadd Xy8.here hx (hb hby d16_50) rfl k)))))) ?_
        show Fin p e below s _ _ _ (Ty8.setTop (mkF m 51 #[rv a1, iv pn, iv 1] [(.int 4), (.int pn), (.ref a1)]))
        obtain ⟨_, Ty10, Lcy10, Xy10, hQy10, sty10⟩ := packS (Jvm.LawKit.callS Xy8 hx (y := n17) hown (mvT hZ (W_ hw 84)) (mvT hZ (W_ hw 85)) (mvT hZ (W_ hw 3)) (mvT hZ (W_ hw 86)) (by decide) (backOf (W := 0) (rmat l Z a0 hw [] a1 pn 4 ka asl h0 n0 Z0 HV_a1 hca h7 (by decide)) hZ (W_ hw 86) (W_ hw 3) (by decide) (by decide)) (g := (mkF m 51 #[rv a1, iv pn, iv 1] [(.int 4), (.int pn), (.ref a1)])) rfl (by rw [hml]; rfl) (argsL := [(.ref a1), (.int pn), (.int 4)]) (rest := []) (lenOf pd_4 rfl) rfl (lb rfl) (hb hby d16_51) (fun _ _ => ⟨rfl, eqy8, (by decide : 0 + 0 ≤ _), (by decide : 0 + 0 ≤ _)⟩))
        obtain ⟨rfl, Nqy10, eqy10⟩ := hQy10
        have Ny10 := Fr.app Ny8 Nqy10
        refine Fin.step (sty10) ?_
        show Fin p e below s _ _ _ (Ty10.setTop (mkF m 54 #[rv a1, iv pn, iv 1] [(.int (own_at asl pn (4 : Int32)))]))
        refine Fin.step (fun _ k => Yo.bipush Xy10.here hx (hb hby d16_54) k) ?_
        obtain ⟨_, Ty11, Lcy11, Xy11, hQy11, sty11⟩ := packS (Jvm.LawKit.callS Xy10 hx (y := n18) hown (mvT hZ (W_ hw 87)) (mvT hZ (W_ hw 88)) (mvT hZ (W_ hw 3)) (mvT hZ (W_ hw 89)) (by decide) (backOf (W := 0) (rmis l Z a0 hw [] (own_at asl pn (4 : Int32)) 116 h0 n0 Z0 ) hZ (W_ hw 89) (W_ hw 3) (by decide) (by decide)) (g := (mkF m 56 #[rv a1, iv pn, iv 1] [(.int 116), (.int (own_at asl pn (4 : Int32)))])) rfl (by rw [hml]; rfl) (argsL := [(.int (own_at asl pn (4 : Int32))), (.int 116)]) (rest := []) (lenOf pd_5 rfl) rfl (lb rfl) (hb hby d16_56) (fun _ _ => ⟨rfl, eqy10, (by decide : 0 + 0 ≤ _), (by decide : 0 + 0 ≤ _)⟩))
        obtain ⟨rfl, Nqy11, eqy11⟩ := hQy11
        have Ny11 := Fr.app Ny10 Nqy11
        refine Fin.step (sty11) ?_
        show Fin p e below s _ _ _ (Ty11.setTop (mkF m 59 #[rv a1, iv pn, iv 1] [(.int (own_is (own_at asl pn (4 : Int32)) (116 : Int32)))]))
        by_cases hcy12 : (own_is (own_at asl pn (4 : Int32)) (116 : Int32)) = (0 : Int32)
        · refine Fin.step (fun _ k => Yo.ifYes Xy11.here hx (pc0 := 59) (pc' := 82) rfl (hb hby d16_59) rfl ((if0 _ _).trans (teq (hcy12 : ((own_is (own_at asl pn (4 : Int32)) (116 : Int32)) = (0 : Int32)))).1) (by decide) (by decide) (Yo.iconst Xy11.here hx (hb hby d16_82) k)) ?_
          refine Fin.retN Xy11 hx (t := .boolean) hret (by simp) hlk (hb hby d16_83) (by decide) (by decide) ?_
          show Qm1 Z a1 pn ka asl h0 n0 _ Ty11.heap _
          rw [eqy11]
          exact ⟨(congrArg (fun z => some (Value.int z)) (by rw [own_mm, if_neg hcy3, if_neg hcy6, if_neg hcy9, if_pos hcy12]; first | done | rfl)), Ny11, rfl⟩
        · refine Fin.step (fun _ k => Yo.ifNo Xy11.here hx (hb hby d16_59) rfl ((if0 _ _).trans (feq (hcy12 : ¬ ((own_is (own_at asl pn (4 : Int32)) (116 : Int32)) = (0 : Int32)))).1) (Yo.aloadN Xy11.here hx (hb hby d16_62) rfl rfl (Yo.iloadN Xy11.here hx (hb hby d16_63) rfl (Yo.iloadN Xy11.here hx (hb hby d16_64) rfl (Yo.iconst Xy11.here hx (hb hby d16_65) (Yo.iadd Xy11.here hx (hb hby d16_66) rfl k)))))) ?_
          show Fin p e below s _ _ _ (Ty11.setTop (mkF m 67 #[rv a1, iv pn, iv 1] [(.int 5), (.int pn), (.ref a1)]))
          obtain ⟨_, Ty13, Lcy13, Xy13, hQy13, sty13⟩ := packS (Jvm.LawKit.callS Xy11 hx (y := n17) hown (mvT hZ (W_ hw 84)) (mvT hZ (W_ hw 85)) (mvT hZ (W_ hw 3)) (mvT hZ (W_ hw 86)) (by decide) (backOf (W := 0) (rmat l Z a0 hw [] a1 pn 5 ka asl h0 n0 Z0 HV_a1 hca h7 (by decide)) hZ (W_ hw 86) (W_ hw 3) (by decide) (by decide)) (g := (mkF m 67 #[rv a1, iv pn, iv 1] [(.int 5), (.int pn), (.ref a1)])) rfl (by rw [hml]; rfl) (argsL := [(.ref a1), (.int pn), (.int 5)]) (rest := []) (lenOf pd_4 rfl) rfl (lb rfl) (hb hby d16_67) (fun _ _ => ⟨rfl, eqy11, (by decide : 0 + 0 ≤ _), (by decide : 0 + 0 ≤ _)⟩))
          obtain ⟨rfl, Nqy13, eqy13⟩ := hQy13
          have Ny13 := Fr.app Ny11 Nqy13
          refine Fin.step (sty13) ?_
          show Fin p e below s _ _ _ (Ty13.setTop (mkF m 70 #[rv a1, iv pn, iv 1] [(.int (own_at asl pn (5 : Int32)))]))
          refine Fin.step (fun _ k => Yo.bipush Xy13.here hx (hb hby d16_70) k) ?_
          obtain ⟨_, Ty14, Lcy14, Xy14, hQy14, sty14⟩ := packS (Jvm.LawKit.callS Xy13 hx (y := n18) hown (mvT hZ (W_ hw 87)) (mvT hZ (W_ hw 88)) (mvT hZ (W_ hw 3)) (mvT hZ (W_ hw 89)) (by decide) (backOf (W := 0) (rmis l Z a0 hw [] (own_at asl pn (5 : Int32)) 104 h0 n0 Z0 ) hZ (W_ hw 89) (W_ hw 3) (by decide) (by decide)) (g := (mkF m 72 #[rv a1, iv pn, iv 1] [(.int 104), (.int (own_at asl pn (5 : Int32)))])) rfl (by rw [hml]; rfl) (argsL := [(.int (own_at asl pn (5 : Int32))), (.int 104)]) (rest := []) (lenOf pd_5 rfl) rfl (lb rfl) (hb hby d16_72) (fun _ _ => ⟨rfl, eqy13, (by decide : 0 + 0 ≤ _), (by decide : 0 + 0 ≤ _)⟩))
          obtain ⟨rfl, Nqy14, eqy14⟩ := hQy14
          have Ny14 := Fr.app Ny13 Nqy14
          refine Fin.step (sty14) ?_
          show Fin p e below s _ _ _ (Ty14.setTop (mkF m 75 #[rv a1, iv pn, iv 1] [(.int (own_is (own_at asl pn (5 : Int32)) (104 : Int32)))]))
          by_cases hcy15 : (own_is (own_at asl pn (5 : Int32)) (104 : Int32)) = (0 : Int32)
          · refine Fin.step (fun _ k => Yo.ifYes Xy14.here hx (pc0 := 75) (pc' := 82) rfl (hb hby d16_75) rfl ((if0 _ _).trans (teq (hcy15 : ((own_is (own_at asl pn (5 : Int32)) (104 : Int32)) = (0 : Int32)))).1) (by decide) (by decide) (Yo.iconst Xy14.here hx (hb hby d16_82) k)) ?_
            refine Fin.retN Xy14 hx (t := .boolean) hret (by simp) hlk (hb hby d16_83) (by decide) (by decide) ?_
            show Qm1 Z a1 pn ka asl h0 n0 _ Ty14.heap _
            rw [eqy14]
            exact ⟨(congrArg (fun z => some (Value.int z)) (by rw [own_mm, if_neg hcy3, if_neg hcy6, if_neg hcy9, if_neg hcy12, if_pos hcy15]; first | done | rfl)), Ny14, rfl⟩
          · refine Fin.step (fun _ k => Yo.ifNo Xy14.here hx (hb hby d16_75) rfl ((if0 _ _).trans (feq (hcy15 : ¬ ((own_is (own_at asl pn (5 : Int32)) (104 : Int32)) = (0 : Int32)))).1) (Yo.iconst Xy14.here hx (hb hby d16_78) (Yo.goto Xy14.here hx (pc0 := 79) (pc' := 83) rfl (hb hby d16_79) (by decide) (by decide) k))) ?_
            refine Fin.retN Xy14 hx (t := .boolean) hret (by simp) hlk (hb hby d16_83) (by decide) (by decide) ?_
            show Qm1 Z a1 pn ka asl h0 n0 _ Ty14.heap _
            rw [eqy14]
            exact ⟨(congrArg (fun z => some (Value.int z)) (by rw [own_mm, if_neg hcy3, if_neg hcy6, if_neg hcy9, if_neg hcy12, if_neg hcy15]; first | done | rfl)), Ny14, rfl⟩
theorem ef_rmm2 (m : MethodId) (x0 : Addr) (x1 : Int32) : entryFrame m #[(.ref x0), (.int x1), (.int (2 : Int32))] 3 = mkF m 0 #[.val (.ref x0), .val (.int x1), .val (.int (2 : Int32))] [] := by first | (simp [entryFrame, mkF, argsToLocals, Value.category]; done) | rfl
abbrev R_rmm2 : Room := ({ frames := 1, cells := 0, slots := 0, locals := 14 } : Room)
def Qm2 (Z : State) (a1 : Addr) (pn : Int32) (ka : ClassId) (asl : List Value) (h0 : Heap) (n0 : Nat) (v : Option Value) (h : Heap) (L : List Loc) : Prop := v = some (.int (own_mm asl pn (2 : Int32) (3 : Int32) (4 : Int32) (5 : Int32) (6 : Int32))) ∧ Fr n0 L ∧ h = h0
set_option maxRecDepth 65536 in
set_option maxHeartbeats 40000000 in
theorem rmm2 (l : Launch) (Z : State) (a0 : Array Value) (hw : ∀ d ∈ tables_1, d.before a0 Z = true) (ws : List Jvm.Cond) (a1 : Addr) (pn : Int32) (ka : ClassId) (asl : List Value) (h0 : Heap) (n0 : Nat) (Z0 : n0 ≤ h0.size) (HV_a1 : Arv Z h0 a1 ka .int (7 : Int32) asl (.int 0)) (hca : own_chs asl) (h7 : 0 ≤ pn.toInt ∧ pn.toInt ≤ 7) :
    Met1 l n16 method_6_code 3 (some .boolean) ws R_rmm2 #[(.ref a1), (.int pn), (.int 2)] Z h0 (Qm2 Z a1 pn ka asl h0 n0) := by
  refine Met1.enter (plainFor_of_name pn_16) (fun m => ef_rmm2 m a1 pn) fun p e s m below meth c s₁ hx hby hlk hret hml hown hnm hZ X0 e0 => ?_
  have N0 := Fr.nil n0
  have K0 : Keep h0 h0 [] := Keep.refl h0 _
  show Fin p e below s _ _ _ (s₁.setTop (mkF m 0 #[rv a1, iv pn, iv 2] []))
  refine Fin.step (fun _ k => Yo.aloadN X0.here hx (hb hby d16_0) rfl rfl (Yo.iloadN X0.here hx (hb hby d16_1) rfl (Yo.iloadN X0.here hx (hb hby d16_2) rfl k))) ?_
  obtain ⟨_, Ty1, Lcy1, Xy1, hQy1, sty1⟩ := packS (Jvm.LawKit.callS X0 hx (y := n17) hown (mvT hZ (W_ hw 84)) (mvT hZ (W_ hw 85)) (mvT hZ (W_ hw 3)) (mvT hZ (W_ hw 86)) (by decide) (backOf (W := 0) (rmat l Z a0 hw [] a1 pn 2 ka asl h0 n0 Z0 HV_a1 hca h7 (by decide)) hZ (W_ hw 86) (W_ hw 3) (by decide) (by decide)) (g := (mkF m 3 #[rv a1, iv pn, iv 2] [(.int 2), (.int pn), (.ref a1)])) rfl (by rw [hml]; rfl) (argsL := [(.ref a1), (.int pn), (.int 2)]) (rest := []) (lenOf pd_4 rfl) rfl (lb rfl) (hb hby d16_3) (fun _ _ => ⟨rfl, e0, (by decide : 0 + 0 ≤ _), (by decide : 0 + 0 ≤ _)⟩))
  obtain ⟨rfl, Nqy1, eqy1⟩ := hQy1
  have Ny1 := Fr.app N0 Nqy1
  refine Fin.step (sty1) ?_
  show Fin p e below s _ _ _ (Ty1.setTop (mkF m 6 #[rv a1, iv pn, iv 2] [(.int (own_at asl pn (2 : Int32)))]))
  refine Fin.step (fun _ k => Yo.bipush Xy1.here hx (hb hby d16_6) k) ?_
  obtain ⟨_, Ty2, Lcy2, Xy2, hQy2, sty2⟩ := packS (Jvm.LawKit.callS Xy1 hx (y := n18) hown (mvT hZ (W_ hw 87)) (mvT hZ (W_ hw 88)) (mvT hZ (W_ hw 3)) (mvT hZ (W_ hw 89)) (by decide) (backOf (W := 0) (rmis l Z a0 hw [] (own_at asl pn (2 : Int32)) 120 h0 n0 Z0 ) hZ (W_ hw 89) (W_ hw 3) (by decide) (by decide)) (g := (mkF m 8 #[rv a1, iv pn, iv 2] [(.int 120), (.int (own_at asl pn (2 : Int32)))])) rfl (by rw [hml]; rfl) (argsL := [(.int (own_at asl pn (2 : Int32))), (.int 120)]) (rest := []) (lenOf pd_5 rfl) rfl (lb rfl) (hb hby d16_8) (fun _ _ => ⟨rfl, eqy1, (by decide : 0 + 0 ≤ _), (by decide : 0 + 0 ≤ _)⟩))
  obtain ⟨rfl, Nqy2, eqy2⟩ := hQy2
  have Ny2 := Fr.app Ny1 Nqy2
  refine Fin.step (sty2) ?_
  show Fin p e below s _ _ _ (Ty2.setTop (mkF m 11 #[rv a1, iv pn, iv 2] [(.int (own_is (own_at asl pn (2 : Int32)) (120 : Int32)))]))
  by_cases hcy3 : (own_is (own_at asl pn (2 : Int32)) (120 : Int32)) = (0 : Int32)
  · refine Fin.step (fun _ k => Yo.ifYes Xy2.here hx (pc0 := 11) (pc' := 82) rfl (hb hby d16_11) rfl ((if0 _ _).trans (teq (hcy3 : ((own_is (own_at asl pn (2 : Int32)) (120 : Int32)) = (0 : Int32)))).1) (by decide) (by decide) (Yo.iconst Xy2.here hx (hb hby d16_82) k)) ?_
    refine Fin.retN Xy2 hx (t := .boolean) hret (by simp) hlk (hb hby d16_83) (by decide) (by decide) ?_
    show Qm2 Z a1 pn ka asl h0 n0 _ Ty2.heap _
    rw [eqy2]
    exact ⟨(congrArg (fun z => some (Value.int z)) (by rw [own_mm, if_pos hcy3]; first | done | rfl)), Ny2, rfl⟩
  · refine Fin.step (fun _ k => Yo.ifNo Xy2.here hx (hb hby d16_11) rfl ((if0 _ _).trans (feq (hcy3 : ¬ ((own_is (own_at asl pn (2 : Int32)) (120 : Int32)) = (0 : Int32)))).1) (Yo.aloadN Xy2.here hx (hb hby d16_14) rfl rfl (Yo.iloadN Xy2.here hx (hb hby d16_15) rfl (Yo.iloadN Xy2.here hx (hb hby d16_16) rfl (Yo.iconst Xy2.here hx (hb hby d16_17) (Yo.iadd Xy2.here hx (hb hby d16_18) rfl k)))))) ?_
    show Fin p e below s _ _ _ (Ty2.setTop (mkF m 19 #[rv a1, iv pn, iv 2] [(.int 3), (.int pn), (.ref a1)]))
    obtain ⟨_, Ty4, Lcy4, Xy4, hQy4, sty4⟩ := packS (Jvm.LawKit.callS Xy2 hx (y := n17) hown (mvT hZ (W_ hw 84)) (mvT hZ (W_ hw 85)) (mvT hZ (W_ hw 3)) (mvT hZ (W_ hw 86)) (by decide) (backOf (W := 0) (rmat l Z a0 hw [] a1 pn 3 ka asl h0 n0 Z0 HV_a1 hca h7 (by decide)) hZ (W_ hw 86) (W_ hw 3) (by decide) (by decide)) (g := (mkF m 19 #[rv a1, iv pn, iv 2] [(.int 3), (.int pn), (.ref a1)])) rfl (by rw [hml]; rfl) (argsL := [(.ref a1), (.int pn), (.int 3)]) (rest := []) (lenOf pd_4 rfl) rfl (lb rfl) (hb hby d16_19) (fun _ _ => ⟨rfl, eqy2, (by decide : 0 + 0 ≤ _), (by decide : 0 + 0 ≤ _)⟩))
    obtain ⟨rfl, Nqy4, eqy4⟩ := hQy4
    have Ny4 := Fr.app Ny2 Nqy4
    refine Fin.step (sty4) ?_
    show Fin p e below s _ _ _ (Ty4.setTop (mkF m 22 #[rv a1, iv pn, iv 2] [(.int (own_at asl pn (3 : Int32)))]))
    refine Fin.step (fun _ k => Yo.bipush Xy4.here hx (hb hby d16_22) k) ?_
    obtain ⟨_, Ty5, Lcy5, Xy5, hQy5, sty5⟩ := packS (Jvm.LawKit.callS Xy4 hx (y := n18) hown (mvT hZ (W_ hw 87)) (mvT hZ (W_ hw 88)) (mvT hZ (W_ hw 3)) (mvT hZ (W_ hw 89)) (by decide) (backOf (W := 0) (rmis l Z a0 hw [] (own_at asl pn (3 : Int32)) 112 h0 n0 Z0 ) hZ (W_ hw 89) (W_ hw 3) (by decide) (by decide)) (g := (mkF m 24 #[rv a1, iv pn, iv 2] [(.int 112), (.int (own_at asl pn (3 : Int32)))])) rfl (by rw [hml]; rfl) (argsL := [(.int (own_at asl pn (3 : Int32))), (.int 112)]) (rest := []) (lenOf pd_5 rfl) rfl (lb rfl) (hb hby d16_24) (fun _ _ => ⟨rfl, eqy4, (by decide : 0 + 0 ≤ _), (by decide : 0 + 0 ≤ _)⟩))
    obtain ⟨rfl, Nqy5, eqy5⟩ := hQy5
    have Ny5 := Fr.app Ny4 Nqy5
    refine Fin.step (sty5) ?_
    show Fin p e below s _ _ _ (Ty5.setTop (mkF m 27 #[rv a1, iv pn, iv 2] [(.int (own_is (own_at asl pn (3 : Int32)) (112 : Int32)))]))
    by_cases hcy6 : (own_is (own_at asl pn (3 : Int32)) (112 : Int32)) = (0 : Int32)
    · refine Fin.step (fun _ k => Yo.ifYes Xy5.here hx (pc0 := 27) (pc' := 82) rfl (hb hby d16_27) rfl ((if0 _ _).trans (teq (hcy6 : ((own_is (own_at asl pn (3 : Int32)) (112 : Int32)) = (0 : Int32)))).1) (by decide) (by decide) (Yo.iconst Xy5.here hx (hb hby d16_82) k)) ?_
      refine Fin.retN Xy5 hx (t := .boolean) hret (by simp) hlk (hb hby d16_83) (by decide) (by decide) ?_
      show Qm2 Z a1 pn ka asl h0 n0 _ Ty5.heap _
      rw [eqy5]
      exact ⟨(congrArg (fun z => some (Value.int z)) (by rw [own_mm, if_neg hcy3, if_pos hcy6]; first | done | rfl)), Ny5, rfl⟩
    · refine Fin.step (fun _ k => Yo.ifNo Xy5.here hx (hb hby d16_27) rfl ((if0 _ _).trans (feq (hcy6 : ¬ ((own_is (own_at asl pn (3 : Int32)) (112 : Int32)) = (0 : Int32)))).1) (Yo.aloadN Xy5.here hx (hb hby d16_30) rfl rfl (Yo.iloadN Xy5.here hx (hb hby d16_31) rfl (Yo.iloadN Xy5.here hx (hb hby d16_32) rfl (Yo.iconst Xy5.here hx (hb hby d16_33) (Yo.iadd Xy5.here hx (hb hby d16_34) rfl k)))))) ?_
      show Fin p e below s _ _ _ (Ty5.setTop (mkF m 35 #[rv a1, iv pn, iv 2] [(.int 4), (.int pn), (.ref a1)]))
      obtain ⟨_, Ty7, Lcy7, Xy7, hQy7, sty7⟩ := packS (Jvm.LawKit.callS Xy5 hx (y := n17) hown (mvT hZ (W_ hw 84)) (mvT hZ (W_ hw 85)) (mvT hZ (W_ hw 3)) (mvT hZ (W_ hw 86)) (by decide) (backOf (W := 0) (rmat l Z a0 hw [] a1 pn 4 ka asl h0 n0 Z0 HV_a1 hca h7 (by decide)) hZ (W_ hw 86) (W_ hw 3) (by decide) (by decide)) (g := (mkF m 35 #[rv a1, iv pn, iv 2] [(.int 4), (.int pn), (.ref a1)])) rfl (by rw [hml]; rfl) (argsL := [(.ref a1), (.int pn), (.int 4)]) (rest := []) (lenOf pd_4 rfl) rfl (lb rfl) (hb hby d16_35) (fun _ _ => ⟨rfl, eqy5, (by decide : 0 + 0 ≤ _), (by decide : 0 + 0 ≤ _)⟩))
      obtain ⟨rfl, Nqy7, eqy7⟩ := hQy7
      have Ny7 := Fr.app Ny5 Nqy7
      refine Fin.step (sty7) ?_
      show Fin p e below s _ _ _ (Ty7.setTop (mkF m 38 #[rv a1, iv pn, iv 2] [(.int (own_at asl pn (4 : Int32)))]))
      refine Fin.step (fun _ k => Yo.bipush Xy7.here hx (hb hby d16_38) k) ?_
      obtain ⟨_, Ty8, Lcy8, Xy8, hQy8, sty8⟩ := packS (Jvm.LawKit.callS Xy7 hx (y := n18) hown (mvT hZ (W_ hw 87)) (mvT hZ (W_ hw 88)) (mvT hZ (W_ hw 3)) (mvT hZ (W_ hw 89)) (by decide) (backOf (W := 0) (rmis l Z a0 hw [] (own_at asl pn (4 : Int32)) 97 h0 n0 Z0 ) hZ (W_ hw 89) (W_ hw 3) (by decide) (by decide)) (g := (mkF m 40 #[rv a1, iv pn, iv 2] [(.int 97), (.int (own_at asl pn (4 : Int32)))])) rfl (by rw [hml]; rfl) (argsL := [(.int (own_at asl pn (4 : Int32))), (.int 97)]) (rest := []) (lenOf pd_5 rfl) rfl (lb rfl) (hb hby d16_40) (fun _ _ => ⟨rfl, eqy7, (by decide : 0 + 0 ≤ _), (by decide : 0 + 0 ≤ _)⟩))
      obtain ⟨rfl, Nqy8, eqy8⟩ := hQy8
      have Ny8 := Fr.app Ny7 Nqy8
      refine Fin.step (sty8) ?_
      show Fin p e below s _ _ _ (Ty8.setTop (mkF m 43 #[rv a1, iv pn, iv 2] [(.int (own_is (own_at asl pn (4 : Int32)) (97 : Int32)))]))
      by_cases hcy9 : (own_is (own_at asl pn (4 : Int32)) (97 : Int32)) = (0 : Int32)
      · refine Fin.step (fun _ k => Yo.ifYes Xy8.here hx (pc0 := 43) (pc' := 82) rfl (hb hby d16_43) rfl ((if0 _ _).trans (teq (hcy9 : ((own_is (own_at asl pn (4 : Int32)) (97 : Int32)) = (0 : Int32)))).1) (by decide) (by decide) (Yo.iconst Xy8.here hx (hb hby d16_82) k)) ?_
        refine Fin.retN Xy8 hx (t := .boolean) hret (by simp) hlk (hb hby d16_83) (by decide) (by decide) ?_
        show Qm2 Z a1 pn ka asl h0 n0 _ Ty8.heap _
        rw [eqy8]
        exact ⟨(congrArg (fun z => some (Value.int z)) (by rw [own_mm, if_neg hcy3, if_neg hcy6, if_pos hcy9]; first | done | rfl)), Ny8, rfl⟩
      · refine Fin.step (fun _ k => Yo.ifNo Xy8.here hx (hb hby d16_43) rfl ((if0 _ _).trans (feq (hcy9 : ¬ ((own_is (own_at asl pn (4 : Int32)) (97 : Int32)) = (0 : Int32)))).1) (Yo.aloadN Xy8.here hx (hb hby d16_46) rfl rfl (Yo.iloadN Xy8.here hx (hb hby d16_47) rfl (Yo.iloadN Xy8.here hx (hb hby d16_48) rfl (Yo.iconst Xy8.here hx (hb hby d16_49) (Yo.iadd Xy8.here hx (hb hby d16_50) rfl k)))))) ?_
        show Fin p e below s _ _ _ (Ty8.setTop (mkF m 51 #[rv a1, iv pn, iv 2] [(.int 5), (.int pn), (.ref a1)]))
        obtain ⟨_, Ty10, Lcy10, Xy10, hQy10, sty10⟩ := packS (Jvm.LawKit.callS Xy8 hx (y := n17) hown (mvT hZ (W_ hw 84)) (mvT hZ (W_ hw 85)) (mvT hZ (W_ hw 3)) (mvT hZ (W_ hw 86)) (by decide) (backOf (W := 0) (rmat l Z a0 hw [] a1 pn 5 ka asl h0 n0 Z0 HV_a1 hca h7 (by decide)) hZ (W_ hw 86) (W_ hw 3) (by decide) (by decide)) (g := (mkF m 51 #[rv a1, iv pn, iv 2] [(.int 5), (.int pn), (.ref a1)])) rfl (by rw [hml]; rfl) (argsL := [(.ref a1), (.int pn), (.int 5)]) (rest := []) (lenOf pd_4 rfl) rfl (lb rfl) (hb hby d16_51) (fun _ _ => ⟨rfl, eqy8, (by decide : 0 + 0 ≤ _), (by decide : 0 + 0 ≤ _)⟩))
        obtain ⟨rfl, Nqy10, eqy10⟩ := hQy10
        have Ny10 := Fr.app Ny8 Nqy10
        refine Fin.step (sty10) ?_
        show Fin p e below s _ _ _ (Ty10.setTop (mkF m 54 #[rv a1, iv pn, iv 2] [(.int (own_at asl pn (5 : Int32)))]))
        refine Fin.step (fun _ k => Yo.bipush Xy10.here hx (hb hby d16_54) k) ?_
        obtain ⟨_, Ty11, Lcy11, Xy11, hQy11, sty11⟩ := packS (Jvm.LawKit.callS Xy10 hx (y := n18) hown (mvT hZ (W_ hw 87)) (mvT hZ (W_ hw 88)) (mvT hZ (W_ hw 3)) (mvT hZ (W_ hw 89)) (by decide) (backOf (W := 0) (rmis l Z a0 hw [] (own_at asl pn (5 : Int32)) 116 h0 n0 Z0 ) hZ (W_ hw 89) (W_ hw 3) (by decide) (by decide)) (g := (mkF m 56 #[rv a1, iv pn, iv 2] [(.int 116), (.int (own_at asl pn (5 : Int32)))])) rfl (by rw [hml]; rfl) (argsL := [(.int (own_at asl pn (5 : Int32))), (.int 116)]) (rest := []) (lenOf pd_5 rfl) rfl (lb rfl) (hb hby d16_56) (fun _ _ => ⟨rfl, eqy10, (by decide : 0 + 0 ≤ _), (by decide : 0 + 0 ≤ _)⟩))
        obtain ⟨rfl, Nqy11, eqy11⟩ := hQy11
        have Ny11 := Fr.app Ny10 Nqy11
        refine Fin.step (sty11) ?_
        show Fin p e below s _ _ _ (Ty11.setTop (mkF m 59 #[rv a1, iv pn, iv 2] [(.int (own_is (own_at asl pn (5 : Int32)) (116 : Int32)))]))
        by_cases hcy12 : (own_is (own_at asl pn (5 : Int32)) (116 : Int32)) = (0 : Int32)
        · refine Fin.step (fun _ k => Yo.ifYes Xy11.here hx (pc0 := 59) (pc' := 82) rfl (hb hby d16_59) rfl ((if0 _ _).trans (teq (hcy12 : ((own_is (own_at asl pn (5 : Int32)) (116 : Int32)) = (0 : Int32)))).1) (by decide) (by decide) (Yo.iconst Xy11.here hx (hb hby d16_82) k)) ?_
          refine Fin.retN Xy11 hx (t := .boolean) hret (by simp) hlk (hb hby d16_83) (by decide) (by decide) ?_
          show Qm2 Z a1 pn ka asl h0 n0 _ Ty11.heap _
          rw [eqy11]
          exact ⟨(congrArg (fun z => some (Value.int z)) (by rw [own_mm, if_neg hcy3, if_neg hcy6, if_neg hcy9, if_pos hcy12]; first | done | rfl)), Ny11, rfl⟩
        · refine Fin.step (fun _ k => Yo.ifNo Xy11.here hx (hb hby d16_59) rfl ((if0 _ _).trans (feq (hcy12 : ¬ ((own_is (own_at asl pn (5 : Int32)) (116 : Int32)) = (0 : Int32)))).1) (Yo.aloadN Xy11.here hx (hb hby d16_62) rfl rfl (Yo.iloadN Xy11.here hx (hb hby d16_63) rfl (Yo.iloadN Xy11.here hx (hb hby d16_64) rfl (Yo.iconst Xy11.here hx (hb hby d16_65) (Yo.iadd Xy11.here hx (hb hby d16_66) rfl k)))))) ?_
          show Fin p e below s _ _ _ (Ty11.setTop (mkF m 67 #[rv a1, iv pn, iv 2] [(.int 6), (.int pn), (.ref a1)]))
          obtain ⟨_, Ty13, Lcy13, Xy13, hQy13, sty13⟩ := packS (Jvm.LawKit.callS Xy11 hx (y := n17) hown (mvT hZ (W_ hw 84)) (mvT hZ (W_ hw 85)) (mvT hZ (W_ hw 3)) (mvT hZ (W_ hw 86)) (by decide) (backOf (W := 0) (rmat l Z a0 hw [] a1 pn 6 ka asl h0 n0 Z0 HV_a1 hca h7 (by decide)) hZ (W_ hw 86) (W_ hw 3) (by decide) (by decide)) (g := (mkF m 67 #[rv a1, iv pn, iv 2] [(.int 6), (.int pn), (.ref a1)])) rfl (by rw [hml]; rfl) (argsL := [(.ref a1), (.int pn), (.int 6)]) (rest := []) (lenOf pd_4 rfl) rfl (lb rfl) (hb hby d16_67) (fun _ _ => ⟨rfl, eqy11, (by decide : 0 + 0 ≤ _), (by decide : 0 + 0 ≤ _)⟩))
          obtain ⟨rfl, Nqy13, eqy13⟩ := hQy13
          have Ny13 := Fr.app Ny11 Nqy13
          refine Fin.step (sty13) ?_
          show Fin p e below s _ _ _ (Ty13.setTop (mkF m 70 #[rv a1, iv pn, iv 2] [(.int (own_at asl pn (6 : Int32)))]))
          refine Fin.step (fun _ k => Yo.bipush Xy13.here hx (hb hby d16_70) k) ?_
          obtain ⟨_, Ty14, Lcy14, Xy14, hQy14, sty14⟩ := packS (Jvm.LawKit.callS Xy13 hx (y := n18) hown (mvT hZ (W_ hw 87)) (mvT hZ (W_ hw 88)) (mvT hZ (W_ hw 3)) (mvT hZ (W_ hw 89)) (by decide) (backOf (W := 0) (rmis l Z a0 hw [] (own_at asl pn (6 : Int32)) 104 h0 n0 Z0 ) hZ (W_ hw 89) (W_ hw 3) (by decide) (by decide)) (g := (mkF m 72 #[rv a1, iv pn, iv 2] [(.int 104), (.int (own_at asl pn (6 : Int32)))])) rfl (by rw [hml]; rfl) (argsL := [(.int (own_at asl pn (6 : Int32))), (.int 104)]) (rest := []) (lenOf pd_5 rfl) rfl (lb rfl) (hb hby d16_72) (fun _ _ => ⟨rfl, eqy13, (by decide : 0 + 0 ≤ _), (by decide : 0 + 0 ≤ _)⟩))
          obtain ⟨rfl, Nqy14, eqy14⟩ := hQy14
          have Ny14 := Fr.app Ny13 Nqy14
          refine Fin.step (sty14) ?_
          show Fin p e below s _ _ _ (Ty14.setTop (mkF m 75 #[rv a1, iv pn, iv 2] [(.int (own_is (own_at asl pn (6 : Int32)) (104 : Int32)))]))
          by_cases hcy15 : (own_is (own_at asl pn (6 : Int32)) (104 : Int32)) = (0 : Int32)
          · refine Fin.step (fun _ k => Yo.ifYes Xy14.here hx (pc0 := 75) (pc' := 82) rfl (hb hby d16_75) rfl ((if0 _ _).trans (teq (hcy15 : ((own_is (own_at asl pn (6 : Int32)) (104 : Int32)) = (0 : Int32)))).1) (by decide) (by decide) (Yo.iconst Xy14.here hx (hb hby d16_82) k)) ?_
            refine Fin.retN Xy14 hx (t := .boolean) hret (by simp) hlk (hb hby d16_83) (by decide) (by decide) ?_
            show Qm2 Z a1 pn ka asl h0 n0 _ Ty14.heap _
            rw [eqy14]
            exact ⟨(congrArg (fun z => some (Value.int z)) (by rw [own_mm, if_neg hcy3, if_neg hcy6, if_neg hcy9, if_neg hcy12, if_pos hcy15]; first | done | rfl)), Ny14, rfl⟩
          · refine Fin.step (fun _ k => Yo.ifNo Xy14.here hx (hb hby d16_75) rfl ((if0 _ _).trans (feq (hcy15 : ¬ ((own_is (own_at asl pn (6 : Int32)) (104 : Int32)) = (0 : Int32)))).1) (Yo.iconst Xy14.here hx (hb hby d16_78) (Yo.goto Xy14.here hx (pc0 := 79) (pc' := 83) rfl (hb hby d16_79) (by decide) (by decide) k))) ?_
            refine Fin.retN Xy14 hx (t := .boolean) hret (by simp) hlk (hb hby d16_83) (by decide) (by decide) ?_
            show Qm2 Z a1 pn ka asl h0 n0 _ Ty14.heap _
            rw [eqy14]
            exact ⟨(congrArg (fun z => some (Value.int z)) (by rw [own_mm, if_neg hcy3, if_neg hcy6, if_neg hcy9, if_neg hcy12, if_neg hcy15]; first | done | rfl)), Ny14, rfl⟩
theorem pn_9 : plainName "java/lang/StringLatin1" = true := by first | (simp [plainName, overriddenIn]; done) | decide +kernel
theorem d9_0 : decode jdk_43_method_3_code 0 = .ok (.iload_n 0, 1) := by decide +kernel
theorem d9_1 : decode jdk_43_method_3_code 1 = .ok (.sipush 255, 3) := by decide +kernel
theorem d9_4 : decode jdk_43_method_3_code 4 = .ok (.if_icmp .gt 7, 3) := by decide +kernel
theorem d9_7 : decode jdk_43_method_3_code 7 = .ok (.iconst 1, 1) := by decide +kernel
theorem d9_8 : decode jdk_43_method_3_code 8 = .ok (.goto 4, 3) := by decide +kernel
theorem d9_12 : decode jdk_43_method_3_code 12 = .ok (.ireturn, 1) := by decide +kernel
theorem ef_rmce (m : MethodId) (x0 : Int32) : entryFrame m #[(.int x0)] 1 = mkF m 0 #[.val (.int x0)] [] := by first | (simp [entryFrame, mkF, argsToLocals, Value.category]; done) | rfl
abbrev R_rmce : Room := ({ frames := 0, cells := 0, slots := 0, locals := 0 } : Room)
def Qce (Z : State) (pz : Int32) (h0 : Heap) (n0 : Nat) (v : Option Value) (h : Heap) (L : List Loc) : Prop := v = some (.int 1) ∧ Fr n0 L ∧ h = h0
set_option maxRecDepth 65536 in
set_option maxHeartbeats 40000000 in
theorem rmce (l : Launch) (Z : State) (a0 : Array Value) (hw : ∀ d ∈ tables_1, d.before a0 Z = true) (ws : List Jvm.Cond) (pz : Int32) (h0 : Heap) (n0 : Nat) (Z0 : n0 ≤ h0.size) (hz : ¬ (255 : Int32) < pz) :
    Met1 l n9 jdk_43_method_3_code 1 (some .boolean) ws R_rmce #[(.int pz)] Z h0 (Qce Z pz h0 n0) := by
  refine Met1.enter (plainFor_of_name pn_9) (fun m => ef_rmce m pz) fun p e s m below meth c s₁ hx hby hlk hret hml hown hnm hZ X0 e0 => ?_
  have N0 := Fr.nil n0
  have K0 : Keep h0 h0 [] := Keep.refl h0 _
  show Fin p e below s _ _ _ (s₁.setTop (mkF m 0 #[iv pz] []))
  refine Fin.step (fun _ k => Yo.iloadN X0.here hx (hb hby d9_0) rfl (Yo.sipush X0.here hx (hb hby d9_1) (Yo.icmpNo X0.here hx (hb hby d9_4) rfl (flt (hz : ¬ ((255 : Int32) < pz))).2.2.1 (Yo.iconst X0.here hx (hb hby d9_7) (Yo.goto X0.here hx (pc0 := 8) (pc' := 12) rfl (hb hby d9_8) (by decide) (by decide) k))))) ?_
  refine Fin.retN X0 hx (t := .boolean) hret (by simp) hlk (hb hby d9_12) (by decide) (by decide) ?_
  show Qce Z pz h0 n0 _ s₁.heap _
  rw [e0]
  exact ⟨rfl, N0, rfl⟩
theorem pn_10 : plainName "java/lang/StringLatin1" = true := by first | (simp [plainName, overriddenIn]; done) | decide +kernel
theorem d10_0 : decode jdk_43_method_46_code 0 = .ok (.iconst 1, 1) := by decide +kernel
theorem d10_1 : decode jdk_43_method_46_code 1 = .ok (.newarray .byte, 2) := by decide +kernel
theorem d10_3 : decode jdk_43_method_46_code 3 = .ok (.dup, 1) := by decide +kernel
theorem d10_4 : decode jdk_43_method_46_code 4 = .ok (.iconst 0, 1) := by decide +kernel
theorem d10_5 : decode jdk_43_method_46_code 5 = .ok (.iload_n 0, 1) := by decide +kernel
theorem d10_6 : decode jdk_43_method_46_code 6 = .ok (.i2b, 1) := by decide +kernel
theorem d10_7 : decode jdk_43_method_46_code 7 = .ok (.bastore, 1) := by decide +kernel
theorem d10_8 : decode jdk_43_method_46_code 8 = .ok (.areturn, 1) := by decide +kernel
theorem ef_rmtb1 (m : MethodId) (x0 : Int32) : entryFrame m #[(.int x0)] 1 = mkF m 0 #[.val (.int x0)] [] := by first | (simp [entryFrame, mkF, argsToLocals, Value.category]; done) | rfl
abbrev R_rmtb1 : Room := ({ frames := 0, cells := 1, slots := 1, locals := 0 } : Room)
def Qtb1 (Z : State) (pz : Int32) (h0 : Heap) (n0 : Nat) (v : Option Value) (h : Heap) (L : List Loc) : Prop := ∃ nb : Addr, v = some (.ref nb) ∧ h0.size ≤ nb ∧ Fr n0 L ∧ Keep h0 h []
set_option maxRecDepth 65536 in
set_option maxHeartbeats 40000000 in
theorem rmtb1 (l : Launch) (Z : State) (a0 : Array Value) (hw : ∀ d ∈ tables_1, d.before a0 Z = true) (ws : List Jvm.Cond) (pz : Int32) (h0 : Heap) (n0 : Nat) (Z0 : n0 ≤ h0.size) :
    Met1 l n10 jdk_43_method_46_code 1 (some (.array .byte)) ws R_rmtb1 #[(.int pz)] Z h0 (Qtb1 Z pz h0 n0) := by
  refine Met1.enter (plainFor_of_name pn_10) (fun m => ef_rmtb1 m pz) fun p e s m below meth c s₁ hx hby hlk hret hml hown hnm hZ X0 e0 => ?_
  have N0 := Fr.nil n0
  have K0 : Keep h0 h0 [] := Keep.refl h0 _
  show Fin p e below s _ _ _ (s₁.setTop (mkF m 0 #[iv pz] []))
  refine Fin.step (fun _ k => Yo.iconst X0.here hx (hb hby d10_0) k) ?_
  obtain ⟨Ty1, hy1, ky1, Xy1, ey1, Ey1, Ay1, sty1⟩ := newP X0 hx hZ (W_ hw 25) e0 (g := (mkF m 1 #[iv pz] [(.int 1)])) rfl (hb hby d10_1) rfl (by decide) (cap := 1) (by decide) (by decide) (by decide) (by decide)
  obtain ⟨by1, gy1⟩ : ∃ z, z = h0.size := ⟨_, rfl⟩
  rw [← gy1] at Ay1 sty1
  have gzy1 : n0 ≤ by1 := Nat.le_trans Z0 (Nat.le_of_eq gy1.symm)
  have szy1 : h0.size ≤ by1 := Nat.le_trans K0.1 (Nat.le_of_eq gy1.symm)
  have Zy1 := Nat.le_trans Z0 Ey1.1
  have Ky1 := K0.ext Ey1
  have Vy1 : Arv Z hy1 by1 ky1 .byte (1 : Int32) [(.int 0)] (.int 0) := (Arv.new Ay1 (by decide)).pad (pad_rep [] (.int 0) 1)
  refine Fin.step (sty1) ?_
  show Fin p e below s _ _ _ (Ty1.setTop (mkF m 3 #[iv pz] [(.ref by1)]))
  refine Fin.step (fun _ k => Yo.dup Xy1.here hx (hb hby d10_3) rfl rfl (Yo.iconst Xy1.here hx (hb hby d10_4) (Yo.iloadN Xy1.here hx (hb hby d10_5) rfl (Yo.i2b Xy1.here hx (hb hby d10_6) rfl k)))) ?_
  show Fin p e below s _ _ _ (Ty1.setTop (mkF m 7 #[iv pz] [(.int (pz.toInt8.toInt32)), (.int 0), (.ref by1), (.ref by1)]))
  have voy2 := Vy1
  obtain ⟨cly2, Ary2, qay2, say2, nay2, hay2, gay2⟩ := voy2
  obtain ⟨Ty2, hy2, Xy2, ey2, Wy2, sty2⟩ := stB Xy1 hx hZ ey1 Ary2 (j := 0) (inb_of say2 ⟨by decide, by decide⟩) (g := (mkF m 7 #[iv pz] [(.int (pz.toInt8.toInt32)), (.int 0), (.ref by1), (.ref by1)])) rfl rfl (hb hby d10_7)
  have Vy2 : Arv Z hy2 by1 ky1 .byte (1 : Int32) [(.int (nar .byte (pz.toInt8.toInt32)))] (.int 0) := Arv.set Ary2 qay2 say2 nay2 hay2 gay2 (fits_nar_byte _) Wy2 0 rfl (Nat.le_of_ble_eq_true rfl)
  have Zy2 : n0 ≤ hy2.size := Nat.le_trans Zy1 (Keep.of_wr Wy2).1
  have Ky2 : Keep h0 hy2 [] := Ky1.wr Wy2 (Or.inr szy1)
  have Ny2 := Fr.snoc Xy2 N0 gzy1
  refine Fin.step (sty2) ?_
  show Fin p e below s _ _ _ (Ty2.setTop (mkF m 8 #[iv pz] [(.ref by1)]))
  refine Fin.retR Xy2 hx hret rfl rfl hlk (hb hby d10_8) (by decide) (by decide) ?_
  show Qtb1 Z pz h0 n0 _ Ty2.heap _
  rw [ey2]
  exact ⟨by1, rfl, szy1, Ny2, Ky2⟩
theorem pn_11 : plainName "java/lang/String" = true := by first | (simp [plainName, overriddenIn]; done) | decide +kernel
theorem d11_0 : decode jdk_42_method_151_code 0 = .ok (.aload_n 0, 1) := by decide +kernel
theorem d11_1 : decode jdk_42_method_151_code 1 = .ok (.invokespecial 1, 3) := by decide +kernel
theorem d11_4 : decode jdk_42_method_151_code 4 = .ok (.aload_n 0, 1) := by decide +kernel
theorem d11_5 : decode jdk_42_method_151_code 5 = .ok (.aload_n 1, 1) := by decide +kernel
theorem d11_6 : decode jdk_42_method_151_code 6 = .ok (.putfield 9, 3) := by decide +kernel
theorem d11_9 : decode jdk_42_method_151_code 9 = .ok (.aload_n 0, 1) := by decide +kernel
theorem d11_10 : decode jdk_42_method_151_code 10 = .ok (.iload_n 2, 1) := by decide +kernel
theorem d11_11 : decode jdk_42_method_151_code 11 = .ok (.putfield 15, 3) := by decide +kernel
theorem d11_14 : decode jdk_42_method_151_code 14 = .ok (.return_, 1) := by decide +kernel
theorem ef_rmsb (m : MethodId) (x0 : Addr) (x1 : Addr) : entryFrame m #[(.ref x0), (.ref x1), (.int (0 : Int32))] 3 = mkF m 0 #[.val (.ref x0), .val (.ref x1), .val (.int (0 : Int32))] [] := by first | (simp [entryFrame, mkF, argsToLocals, Value.category]; done) | rfl
abbrev R_rmsb : Room := ({ frames := 1, cells := 0, slots := 0, locals := 12 } : Room)
def Qsb (Z : State) (a1 a2 : Addr) (h0 : Heap) (n0 : Nat) (v : Option Value) (h : Heap) (L : List Loc) : Prop := v = none ∧ Fr n0 L ∧ Keep h0 h [a1] ∧ Fld Z h a1 q2 "coder" "B" (.int 0) ∧ Fld Z h a1 q2 "value" "[B" (.ref a2)
set_option maxRecDepth 65536 in
set_option maxHeartbeats 40000000 in
theorem rmsb (l : Launch) (Z : State) (a0 : Array Value) (hw : ∀ d ∈ tables_1, d.before a0 Z = true) (ws : List Jvm.Cond) (a1 a2 : Addr) (h0 : Heap) (n0 : Nat) (Z0 : n0 ≤ h0.size) (HE_a1 : Exa Z h0 a1 q2) (HF_a1_coder : Fld Z h0 a1 q2 "coder" "B" (.int 0)) (HF_a1_value : Fld Z h0 a1 q2 "value" "[B" .null) (g_a1 : n0 ≤ a1) :
    Met1 l n11 jdk_42_method_151_code 3 none ws R_rmsb #[(.ref a1), (.ref a2), (.int 0)] Z h0 (Qsb Z a1 a2 h0 n0) := by
  refine Met1.enter (plainFor_of_name pn_11) (fun m => ef_rmsb m a1 a2) fun p e s m below meth c s₁ hx hby hlk hret hml hown hnm hZ X0 e0 => ?_
  have N0 := Fr.nil n0
  have K0 := Keep.refl h0 [a1]
  show Fin p e below s _ _ _ (s₁.setTop (mkF m 0 #[rv a1, rv a2, iv 0] []))
  refine Fin.step (fun _ k => Yo.aloadN X0.here hx (hb hby d11_0) rfl rfl k) ?_
  obtain ⟨Ty1, Xy1, ey1, sty1⟩ := initO X0 hx hZ hown (W_ hw 17) (W_ hw 18) (W_ hw 19) e0 (g := (mkF m 1 #[rv a1, rv a2, iv 0] [(.ref a1)])) rfl (by rw [hml]; rfl) rfl (hb hby d11_1) (by decide) (W := 0) (by show 2 * 0 + _ ≤ _; exact Nat.le_of_eq rfl) (by decide)
  refine Fin.step (sty1) ?_
  show Fin p e below s _ _ _ (Ty1.setTop (mkF m 4 #[rv a1, rv a2, iv 0] []))
  refine Fin.step (fun _ k => Yo.aloadN Xy1.here hx (hb hby d11_4) rfl rfl (Yo.aloadN Xy1.here hx (hb hby d11_5) rfl rfl k)) ?_
  obtain ⟨Ty2, hy2, Xy2, ey2, Wy2, sty2⟩ := putF Xy1 hx hZ hown (host := "") (Or.inl (W_ hw 34)) Via.refl ey1 HF_a1_value HE_a1 (Or.inr ⟨(W_ hw 35), rfl, hnm⟩) (W_ hw 8) (ty := (.array .byte)) (by decide) rfl rfl (g := (mkF m 6 #[rv a1, rv a2, iv 0] [(.ref a2), (.ref a1)])) rfl rfl (hb hby d11_6)
  have Fwy2 : Fld Z hy2 a1 q2 "value" "[B" (.ref a2) := HF_a1_value.same Wy2
  have Zy2 : n0 ≤ hy2.size := Nat.le_trans Z0 (Keep.of_wr Wy2).1
  have Ky2 : Keep h0 hy2 [a1] := K0.wr Wy2 m0
  have Ny2 := Fr.snoc Xy2 N0 g_a1
  refine Fin.step (sty2) ?_
  show Fin p e below s _ _ _ (Ty2.setTop (mkF m 9 #[rv a1, rv a2, iv 0] []))
  refine Fin.step (fun _ k => Yo.aloadN Xy2.here hx (hb hby d11_9) rfl rfl (Yo.iloadN Xy2.here hx (hb hby d11_10) rfl k)) ?_
  obtain ⟨Ty3, hy3, Xy3, ey3, Wy3, sty3⟩ := putFN Xy2 hx hZ hown (W_ hw 32) Via.refl ey2 (HF_a1_coder.other Wy2 (Or.inr (slot_ne (Or.inr (W_ hw 33)) (Or.inr (W_ hw 35)) (by decide) (t := .byte) (t' := (.array .byte)) (by decide) (by decide)))) (HE_a1.wr Wy2) (Or.inr ⟨(W_ hw 33), rfl, hnm⟩) (W_ hw 8) (ty := .byte) (v' := (.int 0)) (by decide) rfl rfl (g := (mkF m 11 #[rv a1, rv a2, iv 0] [(.int 0), (.ref a1)])) rfl rfl (hb hby d11_11)
  have Fwy3 : Fld Z hy3 a1 q2 "coder" "B" (.int 0) := (HF_a1_coder.other Wy2 (Or.inr (slot_ne (Or.inr (W_ hw 33)) (Or.inr (W_ hw 35)) (by decide) (t := .byte) (t' := (.array .byte)) (by decide) (by decide)))).same Wy3
  have Zy3 : n0 ≤ hy3.size := Nat.le_trans Zy2 (Keep.of_wr Wy3).1
  have Ky3 : Keep h0 hy3 [a1] := Ky2.wr Wy3 m0
  have Ny3 := Fr.snoc Xy3 Ny2 g_a1
  refine Fin.step (sty3) ?_
  show Fin p e below s _ _ _ (Ty3.setTop (mkF m 14 #[rv a1, rv a2, iv 0] []))
  refine Fin.retV Xy3 hx hret hlk (hb hby d11_14) (by decide) (by decide) ?_
  show Qsb Z a1 a2 h0 n0 _ Ty3.heap _
  rw [ey3]
  exact ⟨rfl, Ny3, Ky3, Fwy3, (Fwy2.other Wy3 (Or.inr (slot_ne (Or.inr (W_ hw 35)) (Or.inr (W_ hw 33)) (by decide) (t := (.array .byte)) (t' := .byte) (by decide) (by decide))))⟩
theorem pn_8 : plainName "java/lang/String" = true := by first | (simp [plainName, overriddenIn]; done) | decide +kernel
theorem d8_0 : decode jdk_42_method_139_code 0 = .ok (.getstatic 38, 3) := by decide +kernel
theorem d8_3 : decode jdk_42_method_139_code 3 = .ok (.ifCond .eq 23, 3) := by decide +kernel
theorem d8_6 : decode jdk_42_method_139_code 6 = .ok (.iload_n 0, 1) := by decide +kernel
theorem d8_7 : decode jdk_42_method_139_code 7 = .ok (.invokestatic 1015, 3) := by decide +kernel
theorem pd_6 : parseMethodDescriptor "(C)Z" = some ⟨[.char], some .boolean⟩ := by decide +kernel
theorem d8_10 : decode jdk_42_method_139_code 10 = .ok (.ifCond .eq 16, 3) := by decide +kernel
theorem d8_13 : decode jdk_42_method_139_code 13 = .ok (.new 10, 3) := by decide +kernel
theorem d8_16 : decode jdk_42_method_139_code 16 = .ok (.dup, 1) := by decide +kernel
theorem d8_17 : decode jdk_42_method_139_code 17 = .ok (.iload_n 0, 1) := by decide +kernel
theorem d8_18 : decode jdk_42_method_139_code 18 = .ok (.invokestatic 1018, 3) := by decide +kernel
theorem pd_7 : parseMethodDescriptor "(C)[B" = some ⟨[.char], some (.array .byte)⟩ := by decide +kernel
theorem d8_21 : decode jdk_42_method_139_code 21 = .ok (.iconst 0, 1) := by decide +kernel
theorem d8_22 : decode jdk_42_method_139_code 22 = .ok (.invokespecial 209, 3) := by decide +kernel
theorem pd_8 : parseMethodDescriptor "([BB)V" = some ⟨[(.array .byte), .byte], none⟩ := by decide +kernel
theorem d8_25 : decode jdk_42_method_139_code 25 = .ok (.areturn, 1) := by decide +kernel
theorem ef_rmvo (m : MethodId) (x0 : Int32) : entryFrame m #[(.int x0)] 1 = mkF m 0 #[.val (.int x0)] [] := by first | (simp [entryFrame, mkF, argsToLocals, Value.category]; done) | rfl
abbrev R_rmvo : Room := ({ frames := 2, cells := 2, slots := 5, locals := 27 } : Room)
def Qvo (Z : State) (pz wc : Int32) (h0 : Heap) (n0 : Nat) (v : Option Value) (h : Heap) (L : List Loc) : Prop := ∃ so : Addr, v = some (.ref so) ∧ h0.size ≤ so ∧ Fr n0 L ∧ Keep h0 h []
set_option maxRecDepth 65536 in
set_option maxHeartbeats 40000000 in
theorem rmvo (l : Launch) (Z : State) (a0 : Array Value) (hw : ∀ d ∈ tables_1, d.before a0 Z = true) (ws : List Jvm.Cond) (pz wc : Int32) (h0 : Heap) (n0 : Nat) (Z0 : n0 ≤ h0.size) (HS_java_lang_String_COMPACT_STRINGS : Sta Z h0 q2 q9 "Z" (.int wc)) (hwc : ¬ wc = 0) (hz : ¬ (255 : Int32) < pz) :
    Met1 l n8 jdk_42_method_139_code 1 (some (.object "java/lang/String")) ws R_rmvo #[(.int pz)] Z h0 (Qvo Z pz wc h0 n0) := by
  refine Met1.enter (plainFor_of_name pn_8) (fun m => ef_rmvo m pz) fun p e s m below meth c s₁ hx hby hlk hret hml hown hnm hZ X0 e0 => ?_
  have N0 := Fr.nil n0
  have K0 : Keep h0 h0 [] := Keep.refl h0 _
  show Fin p e below s _ _ _ (s₁.setTop (mkF m 0 #[iv pz] []))
  obtain ⟨Ty1, Xy1, ey1, sty1⟩ := getS2 X0 hx hZ hown (host := "") (Or.inl (W_ hw 20)) Via.refl e0 HS_java_lang_String_COMPACT_STRINGS (g := (mkF m 0 #[iv pz] [])) rfl (hb hby d8_0)
  refine Fin.step (sty1) ?_
  show Fin p e below s _ _ _ (Ty1.setTop (mkF m 3 #[iv pz] [(.int wc)]))
  refine Fin.step (fun _ k => Yo.ifNo Xy1.here hx (hb hby d8_3) rfl ((if0 _ _).trans (feq (hwc : ¬ (wc = (0 : Int32)))).1) (Yo.iloadN Xy1.here hx (hb hby d8_6) rfl k)) ?_
  obtain ⟨_, Ty2, Lcy2, Xy2, hQy2, sty2⟩ := packS (Jvm.LawKit.callS Xy1 hx (y := n9) hown (mvT hZ (W_ hw 39)) (mvT hZ (W_ hw 40)) (mvT hZ (W_ hw 41)) (mvT hZ (W_ hw 42)) (by decide) (backOf (W := 0) (rmce l Z a0 hw [] pz h0 n0 Z0 hz) hZ (W_ hw 42) (W_ hw 41) (by decide) (by decide)) (g := (mkF m 7 #[iv pz] [(.int pz)])) rfl (by rw [hml]; rfl) (argsL := [(.int pz)]) (rest := []) (lenOf pd_6 rfl) rfl (lb rfl) (hb hby d8_7) (fun _ _ => ⟨rfl, ey1, (by decide : 0 + 0 ≤ _), (by decide : 0 + 0 ≤ _)⟩))
  obtain ⟨rfl, Nqy2, eqy2⟩ := hQy2
  have Ny2 := Fr.app N0 Nqy2
  refine Fin.step (sty2) ?_
  show Fin p e below s _ _ _ (Ty2.setTop (mkF m 10 #[iv pz] [(.int 1)]))
  refine Fin.step (fun _ k => Yo.ifNo Xy2.here hx (hb hby d8_10) rfl ((if0 _ _).trans (feq ((by decide) : ¬ ((1 : Int32) = (0 : Int32)))).1) k) ?_
  obtain ⟨Ty3, hy3, Xy3, ey3, Ey3, Ay3, Dy3, -, sty3⟩ := newO Xy2 hx hZ hown (W_ hw 43) (W_ hw 8) (W_ hw 9) eqy2 (g := (mkF m 13 #[iv pz] [])) rfl (hb hby d8_13) (by decide) (by decide)
  obtain ⟨by3, gy3⟩ : ∃ z, z = h0.size := ⟨_, rfl⟩
  rw [← gy3] at Ay3 Dy3 sty3
  have gzy3 : n0 ≤ by3 := Nat.le_trans Z0 (Nat.le_of_eq gy3.symm)
  have szy3 : h0.size ≤ by3 := Nat.le_trans K0.1 (Nat.le_of_eq gy3.symm)
  have Zy3 := Nat.le_trans Z0 Ey3.1
  have Ky3 := K0.ext Ey3
  have F_coder_by3 : Fld Z hy3 by3 q2 "coder" "B" (.int 0) := Dy3 (Or.inr (W_ hw 33)) (ty := .byte) (by decide)
  have F_value_by3 : Fld Z hy3 by3 q2 "value" "[B" .null := Dy3 (Or.inr (W_ hw 35)) (ty := (.array .byte)) (by decide)
  refine Fin.step (sty3) ?_
  show Fin p e below s _ _ _ (Ty3.setTop (mkF m 16 #[iv pz] [(.ref by3)]))
  refine Fin.step (fun _ k => Yo.dup Xy3.here hx (hb hby d8_16) rfl rfl (Yo.iloadN Xy3.here hx (hb hby d8_17) rfl k)) ?_
  obtain ⟨_, Ty4, Lcy4, Xy4, hQy4, sty4⟩ := packS (Jvm.LawKit.callS Xy3 hx (y := n10) hown (mvT hZ (W_ hw 44)) (mvT hZ (W_ hw 45)) (mvT hZ (W_ hw 41)) (mvT hZ (W_ hw 46)) (by decide) (backOf (W := 2) (rmtb1 l Z a0 hw [] pz hy3 n0 Zy3 ) hZ (W_ hw 46) (W_ hw 41) (by decide) (by decide)) (g := (mkF m 18 #[iv pz] [(.int pz), (.ref by3), (.ref by3)])) rfl (by rw [hml]; rfl) (argsL := [(.int pz)]) (rest := [(.ref by3), (.ref by3)]) (lenOf pd_7 rfl) rfl (lb rfl) (hb hby d8_18) (fun _ _ => ⟨rfl, ey3, (by decide : 1 + 1 ≤ _), (by decide : 4 + 1 ≤ _)⟩))
  obtain ⟨by4, rfl, bzy4, Nqy4, Kcy4⟩ := hQy4
  have Ny4 := Fr.app Ny2 Nqy4
  have gzy4 : n0 ≤ by4 := Nat.le_trans Zy3 bzy4
  have szy4 : h0.size ≤ by4 := Nat.le_trans Ky3.1 bzy4
  have Zy4 := Nat.le_trans Zy3 Kcy4.1
  have Ky4 := Ky3.trans Kcy4 all0
  refine Fin.step (sty4) ?_
  show Fin p e below s _ _ _ (Ty4.setTop (mkF m 21 #[iv pz] [(.ref by4), (.ref by3), (.ref by3)]))
  refine Fin.step (fun _ k => Yo.iconst Xy4.here hx (hb hby d8_21) k) ?_
  obtain ⟨_, Ty5, Lcy5, Xy5, hQy5, sty5⟩ := pack (Xy4.specialBack hx (y := n11) rfl hown (mvT hZ (W_ hw 47)) (mvT hZ (W_ hw 48)) (mvT hZ (W_ hw 49)) (by decide) (backOf (W := 1) (rmsb l Z a0 hw [] by3 by4 Ty4.heap n0 Zy4 (Ay3.keep Kcy4) (F_coder_by3.keep Kcy4 nin0) (F_value_by3.keep Kcy4 nin0) gzy3) hZ (W_ hw 49) (W_ hw 9) (by decide) (by decide)) (g := (mkF m 22 #[iv pz] [(.int 0), (.ref by4), (.ref by3), (.ref by3)])) rfl (by rw [hml]; rfl) (Steps.refl _) (a := by3) (argsL := [(.ref by4), (.int 0)]) (rest := [(.ref by3)]) (lenOf pd_8 rfl) rfl (lb rfl) (hb hby d8_22) (fun _ _ => ⟨rfl, rfl, (by decide : 2 + 0 ≤ _), (by decide : 5 + 0 ≤ _)⟩))
  obtain ⟨rfl, Nqy5, Kcy5, fy5_0, fy5_1⟩ := hQy5
  have Ny5 := Fr.app Ny4 Nqy5
  have Zy5 := Nat.le_trans Zy4 Kcy5.1
  have Ky5 := Ky4.trans Kcy5 (allS (Or.inr szy3) all0)
  refine Fin.step (sty5) ?_
  show Fin p e below s _ _ _ (Ty5.setTop (mkF m 25 #[iv pz] [(.ref by3)]))
  refine Fin.retR Xy5 hx hret rfl rfl hlk (hb hby d8_25) (by decide) (by decide) ?_
  show Qvo Z pz wc h0 n0 _ Ty5.heap _
  exact ⟨by3, rfl, szy3, Ny5, Ky5⟩
theorem pn_12 : plainName "java/util/Map" = true := by first | (simp [plainName, overriddenIn]; done) | decide +kernel
theorem d12_0 : decode jdk_72_method_26_code 0 = .ok (.getstatic 81, 3) := by decide +kernel
theorem d12_3 : decode jdk_72_method_26_code 3 = .ok (.areturn, 1) := by decide +kernel
theorem ef_rmmo (m : MethodId)  : entryFrame m #[] 0 = mkF m 0 #[] [] := by first | (simp [entryFrame, mkF, argsToLocals, Value.category]; done) | rfl
abbrev R_rmmo : Room := ({ frames := 0, cells := 0, slots := 0, locals := 0 } : Room)
def Qmo (Z : State) (em : Addr) (h0 : Heap) (n0 : Nat) (v : Option Value) (h : Heap) (L : List Loc) : Prop := v = some (.ref em) ∧ Fr n0 L ∧ h = h0
set_option maxRecDepth 65536 in
set_option maxHeartbeats 40000000 in
theorem rmmo (l : Launch) (Z : State) (a0 : Array Value) (hw : ∀ d ∈ tables_1, d.before a0 Z = true) (ws : List Jvm.Cond) (em : Addr) (h0 : Heap) (n0 : Nat) (Z0 : n0 ≤ h0.size) (HS_java_util_ImmutableCollections_EMPTY_MAP : Sta Z h0 q5 "EMPTY_MAP" "Ljava/util/ImmutableCollections$MapN;" (.ref em)) :
    Met1 l n12 jdk_72_method_26_code 0 (some (.object "java/util/Map")) ws R_rmmo #[] Z h0 (Qmo Z em h0 n0) := by
  refine Met1.enter (plainFor_of_name pn_12) (fun m => ef_rmmo m ) fun p e s m below meth c s₁ hx hby hlk hret hml hown hnm hZ X0 e0 => ?_
  have N0 := Fr.nil n0
  have K0 : Keep h0 h0 [] := Keep.refl h0 _
  show Fin p e below s _ _ _ (s₁.setTop (mkF m 0 #[] []))
  obtain ⟨Ty1, Xy1, ey1, sty1⟩ := getS2 X0 hx hZ hown (host := "") (Or.inl (W_ hw 54)) Via.refl e0 HS_java_util_ImmutableCollections_EMPTY_MAP (g := (mkF m 0 #[] [])) rfl (hb hby d12_0)
  refine Fin.step (sty1) ?_
  show Fin p e below s _ _ _ (Ty1.setTop (mkF m 3 #[] [(.ref em)]))
  refine Fin.retR Xy1 hx hret rfl rfl hlk (hb hby d12_3) (by decide) (by decide) ?_
  show Qmo Z em h0 n0 _ Ty1.heap _
  rw [ey1]
  exact ⟨rfl, N0, rfl⟩
theorem pn_15 : plainName "java/util/Map" = true := by first | (simp [plainName, overriddenIn]; done) | decide +kernel
theorem d15_0 : decode jdk_72_method_39_code 0 = .ok (.aload_n 0, 1) := by decide +kernel
theorem d15_1 : decode jdk_72_method_39_code 1 = .ok (.instanceof 101, 3) := by decide +kernel
theorem d15_4 : decode jdk_72_method_39_code 4 = .ok (.ifCond .eq 5, 3) := by decide +kernel
theorem d15_7 : decode jdk_72_method_39_code 7 = .ok (.aload_n 0, 1) := by decide +kernel
theorem d15_8 : decode jdk_72_method_39_code 8 = .ok (.areturn, 1) := by decide +kernel
theorem ef_rmmc (m : MethodId) (x0 : Addr) : entryFrame m #[(.ref x0)] 1 = mkF m 0 #[.val (.ref x0)] [] := by first | (simp [entryFrame, mkF, argsToLocals, Value.category]; done) | rfl
abbrev R_rmmc : Room := ({ frames := 0, cells := 0, slots := 0, locals := 0 } : Room)
def Qmc (Z : State) (a1 : Addr) (h0 : Heap) (n0 : Nat) (v : Option Value) (h : Heap) (L : List Loc) : Prop := v = some (.ref a1) ∧ Fr n0 L ∧ h = h0
set_option maxRecDepth 65536 in
set_option maxHeartbeats 40000000 in
theorem rmmc (l : Launch) (Z : State) (a0 : Array Value) (hw : ∀ d ∈ tables_1, d.before a0 Z = true) (ws : List Jvm.Cond) (a1 : Addr) (h0 : Heap) (n0 : Nat) (Z0 : n0 ≤ h0.size) (HE_a1 : Exa Z h0 a1 q6) :
    Met1 l n15 jdk_72_method_39_code 1 (some (.object "java/util/Map")) ws R_rmmc #[(.ref a1)] Z h0 (Qmc Z a1 h0 n0) := by
  refine Met1.enter (plainFor_of_name pn_15) (fun m => ef_rmmc m a1) fun p e s m below meth c s₁ hx hby hlk hret hml hown hnm hZ X0 e0 => ?_
  have N0 := Fr.nil n0
  have K0 : Keep h0 h0 [] := Keep.refl h0 _
  show Fin p e below s _ _ _ (s₁.setTop (mkF m 0 #[rv a1] []))
  refine Fin.step (fun _ k => Yo.aloadN X0.here hx (hb hby d15_0) rfl rfl k) ?_
  obtain ⟨Ty1, Xy1, ey1, sty1⟩ := instY X0 hx hZ hown (W_ hw 71) e0 (Ins.of_exa HE_a1 (W_ hw 72)) (g := (mkF m 1 #[rv a1] [(.ref a1)])) rfl rfl (hb hby d15_1)
  refine Fin.step (sty1) ?_
  show Fin p e below s _ _ _ (Ty1.setTop (mkF m 4 #[rv a1] [(.int 1)]))
  refine Fin.step (fun _ k => Yo.ifNo Xy1.here hx (hb hby d15_4) rfl ((if0 _ _).trans (feq ((by decide) : ¬ ((1 : Int32) = (0 : Int32)))).1) (Yo.aloadN Xy1.here hx (hb hby d15_7) rfl rfl k)) ?_
  refine Fin.retR Xy1 hx hret rfl rfl hlk (hb hby d15_8) (by decide) (by decide) ?_
  show Qmc Z a1 h0 n0 _ Ty1.heap _
  rw [ey1]
  exact ⟨rfl, N0, rfl⟩
theorem pn_14 : plainName "java/lang/Record" = true := by first | (simp [plainName, overriddenIn]; done) | decide +kernel
theorem d14_0 : decode jdk_30_method_1_code 0 = .ok (.aload_n 0, 1) := by decide +kernel
theorem d14_1 : decode jdk_30_method_1_code 1 = .ok (.invokespecial 1, 3) := by decide +kernel
theorem d14_4 : decode jdk_30_method_1_code 4 = .ok (.return_, 1) := by decide +kernel
theorem ef_rmrc (m : MethodId) (x0 : Addr) : entryFrame m #[(.ref x0)] 1 = mkF m 0 #[.val (.ref x0)] [] := by first | (simp [entryFrame, mkF, argsToLocals, Value.category]; done) | rfl
abbrev R_rmrc : Room := ({ frames := 1, cells := 0, slots := 0, locals := 12 } : Room)
def Qrc (Z : State) (a1 : Addr) (h0 : Heap) (n0 : Nat) (v : Option Value) (h : Heap) (L : List Loc) : Prop := v = none ∧ Fr n0 L ∧ h = h0
set_option maxRecDepth 65536 in
set_option maxHeartbeats 40000000 in
theorem rmrc (l : Launch) (Z : State) (a0 : Array Value) (hw : ∀ d ∈ tables_1, d.before a0 Z = true) (ws : List Jvm.Cond) (a1 : Addr) (h0 : Heap) (n0 : Nat) (Z0 : n0 ≤ h0.size) (HE_a1 : Exa Z h0 a1 q0) :
    Met1 l n14 jdk_30_method_1_code 1 none ws R_rmrc #[(.ref a1)] Z h0 (Qrc Z a1 h0 n0) := by
  refine Met1.enter (plainFor_of_name pn_14) (fun m => ef_rmrc m a1) fun p e s m below meth c s₁ hx hby hlk hret hml hown hnm hZ X0 e0 => ?_
  have N0 := Fr.nil n0
  have K0 : Keep h0 h0 [] := Keep.refl h0 _
  show Fin p e below s _ _ _ (s₁.setTop (mkF m 0 #[rv a1] []))
  refine Fin.step (fun _ k => Yo.aloadN X0.here hx (hb hby d14_0) rfl rfl k) ?_
  obtain ⟨Ty1, Xy1, ey1, sty1⟩ := initO X0 hx hZ hown (W_ hw 67) (W_ hw 18) (W_ hw 19) e0 (g := (mkF m 1 #[rv a1] [(.ref a1)])) rfl (by rw [hml]; rfl) rfl (hb hby d14_1) (by decide) (W := 0) (by show 2 * 0 + _ ≤ _; exact Nat.le_of_eq rfl) (by decide)
  refine Fin.step (sty1) ?_
  show Fin p e below s _ _ _ (Ty1.setTop (mkF m 4 #[rv a1] []))
  refine Fin.retV Xy1 hx hret hlk (hb hby d14_4) (by decide) (by decide) ?_
  show Qrc Z a1 h0 n0 _ Ty1.heap _
  rw [ey1]
  exact ⟨rfl, N0, rfl⟩
theorem pn_13 : plainName "com/example/shallmark/shallmark/Expression" = true := by first | (simp [plainName, overriddenIn]; done) | decide +kernel
theorem d13_0 : decode prog_9_method_1_code 0 = .ok (.aload_n 0, 1) := by decide +kernel
theorem d13_1 : decode prog_9_method_1_code 1 = .ok (.invokespecial 1, 3) := by decide +kernel
theorem pd_9 : parseMethodDescriptor "()V" = some ⟨[], none⟩ := by decide +kernel
theorem d13_4 : decode prog_9_method_1_code 4 = .ok (.aload_n 2, 1) := by decide +kernel
theorem d13_5 : decode prog_9_method_1_code 5 = .ok (.invokestatic 7, 3) := by decide +kernel
theorem pd_10 : parseMethodDescriptor "(Ljava/util/Map;)Ljava/util/Map;" = some ⟨[(.object "java/util/Map")], some (.object "java/util/Map")⟩ := by decide +kernel
theorem d13_8 : decode prog_9_method_1_code 8 = .ok (.astore_n 2, 1) := by decide +kernel
theorem d13_9 : decode prog_9_method_1_code 9 = .ok (.aload_n 0, 1) := by decide +kernel
theorem d13_10 : decode prog_9_method_1_code 10 = .ok (.aload_n 1, 1) := by decide +kernel
theorem d13_11 : decode prog_9_method_1_code 11 = .ok (.putfield 13, 3) := by decide +kernel
theorem d13_14 : decode prog_9_method_1_code 14 = .ok (.aload_n 0, 1) := by decide +kernel
theorem d13_15 : decode prog_9_method_1_code 15 = .ok (.aload_n 2, 1) := by decide +kernel
theorem d13_16 : decode prog_9_method_1_code 16 = .ok (.putfield 19, 3) := by decide +kernel
theorem d13_19 : decode prog_9_method_1_code 19 = .ok (.aload_n 0, 1) := by decide +kernel
theorem d13_20 : decode prog_9_method_1_code 20 = .ok (.aload_n 3, 1) := by decide +kernel
theorem d13_21 : decode prog_9_method_1_code 21 = .ok (.putfield 23, 3) := by decide +kernel
theorem d13_24 : decode prog_9_method_1_code 24 = .ok (.aload_n 0, 1) := by decide +kernel
theorem d13_25 : decode prog_9_method_1_code 25 = .ok (.iload 4, 2) := by decide +kernel
theorem d13_27 : decode prog_9_method_1_code 27 = .ok (.putfield 26, 3) := by decide +kernel
theorem d13_30 : decode prog_9_method_1_code 30 = .ok (.return_, 1) := by decide +kernel
theorem ef_rmexN (m : MethodId) (x0 : Addr) (x1 : Addr) (x2 : Addr) (x4 : Int32) : entryFrame m #[(.ref x0), (.ref x1), (.ref x2), .null, (.int x4)] 5 = mkF m 0 #[.val (.ref x0), .val (.ref x1), .val (.ref x2), .val .null, .val (.int x4)] [] := by first | (simp [entryFrame, mkF, argsToLocals, Value.category]; done) | rfl
abbrev R_rmexN : Room := ({ frames := 2, cells := 0, slots := 0, locals := 24 } : Room)
def QexN (Z : State) (a1 a2 a3 : Addr) (p5 : Int32) (h0 : Heap) (n0 : Nat) (v : Option Value) (h : Heap) (L : List Loc) : Prop := v = none ∧ Fr n0 L ∧ Keep h0 h [a1] ∧ Fld Z h a1 q0 "language" q8 .null
set_option maxRecDepth 65536 in
set_option maxHeartbeats 40000000 in
theorem rmexN (l : Launch) (Z : State) (a0 : Array Value) (hw : ∀ d ∈ tables_1, d.before a0 Z = true) (ws : List Jvm.Cond) (a1 a2 a3 : Addr) (p5 : Int32) (h0 : Heap) (n0 : Nat) (Z0 : n0 ≤ h0.size) (HE_a1 : Exa Z h0 a1 q0) (HF_a1_text : Fld Z h0 a1 q0 "text" q8 .null) (HF_a1_namespaces : Fld Z h0 a1 q0 "namespaces" q7 .null) (HF_a1_language : Fld Z h0 a1 q0 "language" q8 .null) (HF_a1_line : Fld Z h0 a1 q0 "line" "I" (.int 0)) (HE_a3 : Exa Z h0 a3 q6) (g_a1 : n0 ≤ a1) :
    Met1 l n13 prog_9_method_1_code 5 none ws R_rmexN #[(.ref a1), (.ref a2), (.ref a3), .null, (.int p5)] Z h0 (QexN Z a1 a2 a3 p5 h0 n0) := by
  refine Met1.enter (plainFor_of_name pn_13) (fun m => ef_rmexN m a1 a2 a3 p5) fun p e s m below meth c s₁ hx hby hlk hret hml hown hnm hZ X0 e0 => ?_
  have N0 := Fr.nil n0
  have K0 := Keep.refl h0 [a1]
  show Fin p e below s _ _ _ (s₁.setTop (mkF m 0 #[rv a1, rv a2, rv a3, .val .null, iv p5] []))
  refine Fin.step (fun _ k => Yo.aloadN X0.here hx (hb hby d13_0) rfl rfl k) ?_
  obtain ⟨_, Ty1, Lcy1, Xy1, hQy1, sty1⟩ := pack (X0.specialBack hx (y := n14) rfl hown (mvT hZ (W_ hw 62)) (mvT hZ (W_ hw 63)) (mvT hZ (W_ hw 66)) (by decide) (backOf (W := 0) (rmrc l Z a0 hw [] a1 h0 n0 Z0 HE_a1) hZ (W_ hw 66) (W_ hw 65) (by decide) (by decide)) (g := (mkF m 1 #[rv a1, rv a2, rv a3, .val .null, iv p5] [(.ref a1)])) rfl (by rw [hml]; rfl) (Steps.refl _) (a := a1) (argsL := []) (rest := []) (lenOf pd_9 rfl) rfl (lb rfl) (hb hby d13_1) (fun _ _ => ⟨rfl, e0, (by decide : 0 + 0 ≤ _), (by decide : 0 + 0 ≤ _)⟩))
  obtain ⟨rfl, Nqy1, eqy1⟩ := hQy1
  have Ny1 := Fr.app N0 Nqy1
  refine Fin.step (sty1) ?_
  show Fin p e below s _ _ _ (Ty1.setTop (mkF m 4 #[rv a1, rv a2, rv a3, .val .null, iv p5] []))
  refine Fin.step (fun _ k => Yo.aloadN Xy1.here hx (hb hby d13_4) rfl rfl k) ?_
  obtain ⟨_, Ty2, Lcy2, Xy2, hQy2, sty2⟩ := packS (Jvm.LawKit.callS Xy1 hx (y := n15) hown (mvT hZ (W_ hw 68)) (mvT hZ (W_ hw 69)) (mvT hZ (W_ hw 52)) (mvT hZ (W_ hw 70)) (by decide) (backOf (W := 0) (rmmc l Z a0 hw [] a3 h0 n0 Z0 HE_a3) hZ (W_ hw 70) (W_ hw 52) (by decide) (by decide)) (g := (mkF m 5 #[rv a1, rv a2, rv a3, .val .null, iv p5] [(.ref a3)])) rfl (by rw [hml]; rfl) (argsL := [(.ref a3)]) (rest := []) (lenOf pd_10 rfl) rfl (lb rfl) (hb hby d13_5) (fun _ _ => ⟨rfl, eqy1, (by decide : 0 + 0 ≤ _), (by decide : 0 + 0 ≤ _)⟩))
  obtain ⟨rfl, Nqy2, eqy2⟩ := hQy2
  have Ny2 := Fr.app Ny1 Nqy2
  refine Fin.step (sty2) ?_
  show Fin p e below s _ _ _ (Ty2.setTop (mkF m 8 #[rv a1, rv a2, rv a3, .val .null, iv p5] [(.ref a3)]))
  refine Fin.step (fun _ k => Yo.astoreN Xy2.here hx (hb hby d13_8) rfl rfl (l' := #[rv a1, rv a2, rv a3, .val .null, iv p5]) rfl (Yo.aloadN Xy2.here hx (hb hby d13_9) rfl rfl (Yo.aloadN Xy2.here hx (hb hby d13_10) rfl rfl k))) ?_
  obtain ⟨Ty3, hy3, Xy3, ey3, Wy3, sty3⟩ := putF Xy2 hx hZ hown (host := "") (Or.inl (W_ hw 73)) Via.refl eqy2 HF_a1_text HE_a1 (Or.inr ⟨(W_ hw 74), rfl, hnm⟩) (W_ hw 57) (ty := (.object "java/lang/String")) (by decide) rfl rfl (g := (mkF m 11 #[rv a1, rv a2, rv a3, .val .null, iv p5] [(.ref a2), (.ref a1)])) rfl rfl (hb hby d13_11)
  have Fwy3 : Fld Z hy3 a1 q0 "text" q8 (.ref a2) := HF_a1_text.same Wy3
  have Zy3 : n0 ≤ hy3.size := Nat.le_trans Z0 (Keep.of_wr Wy3).1
  have Ky3 : Keep h0 hy3 [a1] := K0.wr Wy3 m0
  have Ny3 := Fr.snoc Xy3 Ny2 g_a1
  refine Fin.step (sty3) ?_
  show Fin p e below s _ _ _ (Ty3.setTop (mkF m 14 #[rv a1, rv a2, rv a3, .val .null, iv p5] []))
  refine Fin.step (fun _ k => Yo.aloadN Xy3.here hx (hb hby d13_14) rfl rfl (Yo.aloadN Xy3.here hx (hb hby d13_15) rfl rfl k)) ?_
  obtain ⟨Ty4, hy4, Xy4, ey4, Wy4, sty4⟩ := putF Xy3 hx hZ hown (host := "") (Or.inl (W_ hw 75)) Via.refl ey3 (HF_a1_namespaces.other Wy3 (Or.inr (slot_ne (Or.inr (W_ hw 76)) (Or.inr (W_ hw 74)) (by decide) (t := (.object "java/util/Map")) (t' := (.object "java/lang/String")) (by decide) (by decide)))) (HE_a1.wr Wy3) (Or.inr ⟨(W_ hw 76), rfl, hnm⟩) (W_ hw 57) (ty := (.object "java/util/Map")) (by decide) rfl rfl (g := (mkF m 16 #[rv a1, rv a2, rv a3, .val .null, iv p5] [(.ref a3), (.ref a1)])) rfl rfl (hb hby d13_16)
  have Fwy4 : Fld Z hy4 a1 q0 "namespaces" q7 (.ref a3) := (HF_a1_namespaces.other Wy3 (Or.inr (slot_ne (Or.inr (W_ hw 76)) (Or.inr (W_ hw 74)) (by decide) (t := (.object "java/util/Map")) (t' := (.object "java/lang/String")) (by decide) (by decide)))).same Wy4
  have Zy4 : n0 ≤ hy4.size := Nat.le_trans Zy3 (Keep.of_wr Wy4).1
  have Ky4 : Keep h0 hy4 [a1] := Ky3.wr Wy4 m0
  have Ny4 := Fr.snoc Xy4 Ny3 g_a1
  refine Fin.step (sty4) ?_
  show Fin p e below s _ _ _ (Ty4.setTop (mkF m 19 #[rv a1, rv a2, rv a3, .val .null, iv p5] []))
  refine Fin.step (fun _ k => Yo.aloadN Xy4.here hx (hb hby d13_19) rfl rfl (Yo.aloadN Xy4.here hx (hb hby d13_20) rfl rfl k)) ?_
  obtain ⟨Ty5, hy5, Xy5, ey5, Wy5, sty5⟩ := putF Xy4 hx hZ hown (host := "") (Or.inl (W_ hw 77)) Via.refl ey4 ((HF_a1_language.other Wy3 (Or.inr (slot_ne (Or.inr (W_ hw 78)) (Or.inr (W_ hw 74)) (by decide) (t := (.object "java/lang/String")) (t' := (.object "java/lang/String")) (by decide) (by decide)))).other Wy4 (Or.inr (slot_ne (Or.inr (W_ hw 78)) (Or.inr (W_ hw 76)) (by decide) (t := (.object "java/lang/String")) (t' := (.object "java/util/Map")) (by decide) (by decide)))) ((HE_a1.wr Wy3).wr Wy4) (Or.inr ⟨(W_ hw 78), rfl, hnm⟩) (W_ hw 57) (ty := (.object "java/lang/String")) (by decide) rfl rfl (g := (mkF m 21 #[rv a1, rv a2, rv a3, .val .null, iv p5] [.null, (.ref a1)])) rfl rfl (hb hby d13_21)
  have Fwy5 : Fld Z hy5 a1 q0 "language" q8 .null := ((HF_a1_language.other Wy3 (Or.inr (slot_ne (Or.inr (W_ hw 78)) (Or.inr (W_ hw 74)) (by decide) (t := (.object "java/lang/String")) (t' := (.object "java/lang/String")) (by decide) (by decide)))).other Wy4 (Or.inr (slot_ne (Or.inr (W_ hw 78)) (Or.inr (W_ hw 76)) (by decide) (t := (.object "java/lang/String")) (t' := (.object "java/util/Map")) (by decide) (by decide)))).same Wy5
  have Zy5 : n0 ≤ hy5.size := Nat.le_trans Zy4 (Keep.of_wr Wy5).1
  have Ky5 : Keep h0 hy5 [a1] := Ky4.wr Wy5 m0
  have Ny5 := Fr.snoc Xy5 Ny4 g_a1
  refine Fin.step (sty5) ?_
  show Fin p e below s _ _ _ (Ty5.setTop (mkF m 24 #[rv a1, rv a2, rv a3, .val .null, iv p5] []))
  refine Fin.step (fun _ k => Yo.aloadN Xy5.here hx (hb hby d13_24) rfl rfl (Yo.iload Xy5.here hx (hb hby d13_25) rfl k)) ?_
  obtain ⟨Ty6, hy6, Xy6, ey6, Wy6, sty6⟩ := putF Xy5 hx hZ hown (host := "") (Or.inl (W_ hw 79)) Via.refl ey5 (((HF_a1_line.other Wy3 (Or.inr (slot_ne (Or.inr (W_ hw 80)) (Or.inr (W_ hw 74)) (by decide) (t := .int) (t' := (.object "java/lang/String")) (by decide) (by decide)))).other Wy4 (Or.inr (slot_ne (Or.inr (W_ hw 80)) (Or.inr (W_ hw 76)) (by decide) (t := .int) (t' := (.object "java/util/Map")) (by decide) (by decide)))).other Wy5 (Or.inr (slot_ne (Or.inr (W_ hw 80)) (Or.inr (W_ hw 78)) (by decide) (t := .int) (t' := (.object "java/lang/String")) (by decide) (by decide)))) (((HE_a1.wr Wy3).wr Wy4).wr Wy5) (Or.inr ⟨(W_ hw 80), rfl, hnm⟩) (W_ hw 57) (ty := .int) (by decide) rfl rfl (g := (mkF m 27 #[rv a1, rv a2, rv a3, .val .null, iv p5] [(.int p5), (.ref a1)])) rfl rfl (hb hby d13_27)
  have Fwy6 : Fld Z hy6 a1 q0 "line" "I" (.int p5) := (((HF_a1_line.other Wy3 (Or.inr (slot_ne (Or.inr (W_ hw 80)) (Or.inr (W_ hw 74)) (by decide) (t := .int) (t' := (.object "java/lang/String")) (by decide) (by decide)))).other Wy4 (Or.inr (slot_ne (Or.inr (W_ hw 80)) (Or.inr (W_ hw 76)) (by decide) (t := .int) (t' := (.object "java/util/Map")) (by decide) (by decide)))).other Wy5 (Or.inr (slot_ne (Or.inr (W_ hw 80)) (Or.inr (W_ hw 78)) (by decide) (t := .int) (t' := (.object "java/lang/String")) (by decide) (by decide)))).same Wy6
  have Zy6 : n0 ≤ hy6.size := Nat.le_trans Zy5 (Keep.of_wr Wy6).1
  have Ky6 : Keep h0 hy6 [a1] := Ky5.wr Wy6 m0
  have Ny6 := Fr.snoc Xy6 Ny5 g_a1
  refine Fin.step (sty6) ?_
  show Fin p e below s _ _ _ (Ty6.setTop (mkF m 30 #[rv a1, rv a2, rv a3, .val .null, iv p5] []))
  refine Fin.retV Xy6 hx hret hlk (hb hby d13_30) (by decide) (by decide) ?_
  show QexN Z a1 a2 a3 p5 h0 n0 _ Ty6.heap _
  rw [ey6]
  exact ⟨rfl, Ny6, Ky6, (Fwy5.other Wy6 (Or.inr (slot_ne (Or.inr (W_ hw 78)) (Or.inr (W_ hw 80)) (by decide) (t := (.object "java/lang/String")) (t' := .int) (by decide) (by decide))))⟩
theorem ef_rmexR (m : MethodId) (x0 : Addr) (x1 : Addr) (x2 : Addr) (x3 : Addr) (x4 : Int32) : entryFrame m #[(.ref x0), (.ref x1), (.ref x2), (.ref x3), (.int x4)] 5 = mkF m 0 #[.val (.ref x0), .val (.ref x1), .val (.ref x2), .val (.ref x3), .val (.int x4)] [] := by first | (simp [entryFrame, mkF, argsToLocals, Value.category]; done) | rfl
abbrev R_rmexR : Room := ({ frames := 2, cells := 0, slots := 0, locals := 24 } : Room)
def QexR (Z : State) (a1 a2 a3 a4 : Addr) (p5 : Int32) (h0 : Heap) (n0 : Nat) (v : Option Value) (h : Heap) (L : List Loc) : Prop := v = none ∧ Fr n0 L ∧ Keep h0 h [a1] ∧ Fld Z h a1 q0 "language" q8 (.ref a4)
set_option maxRecDepth 65536 in
set_option maxHeartbeats 40000000 in
theorem rmexR (l : Launch) (Z : State) (a0 : Array Value) (hw : ∀ d ∈ tables_1, d.before a0 Z = true) (ws : List Jvm.Cond) (a1 a2 a3 a4 : Addr) (p5 : Int32) (h0 : Heap) (n0 : Nat) (Z0 : n0 ≤ h0.size) (HE_a1 : Exa Z h0 a1 q0) (HF_a1_text : Fld Z h0 a1 q0 "text" q8 .null) (HF_a1_namespaces : Fld Z h0 a1 q0 "namespaces" q7 .null) (HF_a1_language : Fld Z h0 a1 q0 "language" q8 .null) (HF_a1_line : Fld Z h0 a1 q0 "line" "I" (.int 0)) (HE_a3 : Exa Z h0 a3 q6) (g_a1 : n0 ≤ a1) :
    Met1 l n13 prog_9_method_1_code 5 none ws R_rmexR #[(.ref a1), (.ref a2), (.ref a3), (.ref a4), (.int p5)] Z h0 (QexR Z a1 a2 a3 a4 p5 h0 n0) := by
  refine Met1.enter (plainFor_of_name pn_13) (fun m => ef_rmexR m a1 a2 a3 a4 p5) fun p e s m below meth c s₁ hx hby hlk hret hml hown hnm hZ X0 e0 => ?_
  have N0 := Fr.nil n0
  have K0 := Keep.refl h0 [a1]
  show Fin p e below s _ _ _ (s₁.setTop (mkF m 0 #[rv a1, rv a2, rv a3, rv a4, iv p5] []))
  refine Fin.step (fun _ k => Yo.aloadN X0.here hx (hb hby d13_0) rfl rfl k) ?_
  obtain ⟨_, Ty1, Lcy1, Xy1, hQy1, sty1⟩ := pack (X0.specialBack hx (y := n14) rfl hown (mvT hZ (W_ hw 62)) (mvT hZ (W_ hw 63)) (mvT hZ (W_ hw 66)) (by decide) (backOf (W := 0) (rmrc l Z a0 hw [] a1 h0 n0 Z0 HE_a1) hZ (W_ hw 66) (W_ hw 65) (by decide) (by decide)) (g := (mkF m 1 #[rv a1, rv a2, rv a3, rv a4, iv p5] [(.ref a1)])) rfl (by rw [hml]; rfl) (Steps.refl _) (a := a1) (argsL := []) (rest := []) (lenOf pd_9 rfl) rfl (lb rfl) (hb hby d13_1) (fun _ _ => ⟨rfl, e0, (by decide : 0 + 0 ≤ _), (by decide : 0 + 0 ≤ _)⟩))
  obtain ⟨rfl, Nqy1, eqy1⟩ := hQy1
  have Ny1 := Fr.app N0 Nqy1
  refine Fin.step (sty1) ?_
  show Fin p e below s _ _ _ (Ty1.setTop (mkF m 4 #[rv a1, rv a2, rv a3, rv a4, iv p5] []))
  refine Fin.step (fun _ k => Yo.aloadN Xy1.here hx (hb hby d13_4) rfl rfl k) ?_
  obtain ⟨_, Ty2, Lcy2, Xy2, hQy2, sty2⟩ := packS (Jvm.LawKit.callS Xy1 hx (y := n15) hown (mvT hZ (W_ hw 68)) (mvT hZ (W_ hw 69)) (mvT hZ (W_ hw 52)) (mvT hZ (W_ hw 70)) (by decide) (backOf (W := 0) (rmmc l Z a0 hw [] a3 h0 n0 Z0 HE_a3) hZ (W_ hw 70) (W_ hw 52) (by decide) (by decide)) (g := (mkF m 5 #[rv a1, rv a2, rv a3, rv a4, iv p5] [(.ref a3)])) rfl (by rw [hml]; rfl) (argsL := [(.ref a3)]) (rest := []) (lenOf pd_10 rfl) rfl (lb rfl) (hb hby d13_5) (fun _ _ => ⟨rfl, eqy1, (by decide : 0 + 0 ≤ _), (by decide : 0 + 0 ≤ _)⟩))
  obtain ⟨rfl, Nqy2, eqy2⟩ := hQy2
  have Ny2 := Fr.app Ny1 Nqy2
  refine Fin.step (sty2) ?_
  show Fin p e below s _ _ _ (Ty2.setTop (mkF m 8 #[rv a1, rv a2, rv a3, rv a4, iv p5] [(.ref a3)]))
  refine Fin.step (fun _ k => Yo.astoreN Xy2.here hx (hb hby d13_8) rfl rfl (l' := #[rv a1, rv a2, rv a3, rv a4, iv p5]) rfl (Yo.aloadN Xy2.here hx (hb hby d13_9) rfl rfl (Yo.aloadN Xy2.here hx (hb hby d13_10) rfl rfl k))) ?_
  obtain ⟨Ty3, hy3, Xy3, ey3, Wy3, sty3⟩ := putF Xy2 hx hZ hown (host := "") (Or.inl (W_ hw 73)) Via.refl eqy2 HF_a1_text HE_a1 (Or.inr ⟨(W_ hw 74), rfl, hnm⟩) (W_ hw 57) (ty := (.object "java/lang/String")) (by decide) rfl rfl (g := (mkF m 11 #[rv a1, rv a2, rv a3, rv a4, iv p5] [(.ref a2), (.ref a1)])) rfl rfl (hb hby d13_11)
  have Fwy3 : Fld Z hy3 a1 q0 "text" q8 (.ref a2) := HF_a1_text.same Wy3
  have Zy3 : n0 ≤ hy3.size := Nat.le_trans Z0 (Keep.of_wr Wy3).1
  have Ky3 : Keep h0 hy3 [a1] := K0.wr Wy3 m0
  have Ny3 := Fr.snoc Xy3 Ny2 g_a1
  refine Fin.step (sty3) ?_
  show Fin p e below s _ _ _ (Ty3.setTop (mkF m 14 #[rv a1, rv a2, rv a3, rv a4, iv p5] []))
  refine Fin.step (fun _ k => Yo.aloadN Xy3.here hx (hb hby d13_14) rfl rfl (Yo.aloadN Xy3.here hx (hb hby d13_15) rfl rfl k)) ?_
  obtain ⟨Ty4, hy4, Xy4, ey4, Wy4, sty4⟩ := putF Xy3 hx hZ hown (host := "") (Or.inl (W_ hw 75)) Via.refl ey3 (HF_a1_namespaces.other Wy3 (Or.inr (slot_ne (Or.inr (W_ hw 76)) (Or.inr (W_ hw 74)) (by decide) (t := (.object "java/util/Map")) (t' := (.object "java/lang/String")) (by decide) (by decide)))) (HE_a1.wr Wy3) (Or.inr ⟨(W_ hw 76), rfl, hnm⟩) (W_ hw 57) (ty := (.object "java/util/Map")) (by decide) rfl rfl (g := (mkF m 16 #[rv a1, rv a2, rv a3, rv a4, iv p5] [(.ref a3), (.ref a1)])) rfl rfl (hb hby d13_16)
  have Fwy4 : Fld Z hy4 a1 q0 "namespaces" q7 (.ref a3) := (HF_a1_namespaces.other Wy3 (Or.inr (slot_ne (Or.inr (W_ hw 76)) (Or.inr (W_ hw 74)) (by decide) (t := (.object "java/util/Map")) (t' := (.object "java/lang/String")) (by decide) (by decide)))).same Wy4
  have Zy4 : n0 ≤ hy4.size := Nat.le_trans Zy3 (Keep.of_wr Wy4).1
  have Ky4 : Keep h0 hy4 [a1] := Ky3.wr Wy4 m0
  have Ny4 := Fr.snoc Xy4 Ny3 g_a1
  refine Fin.step (sty4) ?_
  show Fin p e below s _ _ _ (Ty4.setTop (mkF m 19 #[rv a1, rv a2, rv a3, rv a4, iv p5] []))
  refine Fin.step (fun _ k => Yo.aloadN Xy4.here hx (hb hby d13_19) rfl rfl (Yo.aloadN Xy4.here hx (hb hby d13_20) rfl rfl k)) ?_
  obtain ⟨Ty5, hy5, Xy5, ey5, Wy5, sty5⟩ := putF Xy4 hx hZ hown (host := "") (Or.inl (W_ hw 77)) Via.refl ey4 ((HF_a1_language.other Wy3 (Or.inr (slot_ne (Or.inr (W_ hw 78)) (Or.inr (W_ hw 74)) (by decide) (t := (.object "java/lang/String")) (t' := (.object "java/lang/String")) (by decide) (by decide)))).other Wy4 (Or.inr (slot_ne (Or.inr (W_ hw 78)) (Or.inr (W_ hw 76)) (by decide) (t := (.object "java/lang/String")) (t' := (.object "java/util/Map")) (by decide) (by decide)))) ((HE_a1.wr Wy3).wr Wy4) (Or.inr ⟨(W_ hw 78), rfl, hnm⟩) (W_ hw 57) (ty := (.object "java/lang/String")) (by decide) rfl rfl (g := (mkF m 21 #[rv a1, rv a2, rv a3, rv a4, iv p5] [(.ref a4), (.ref a1)])) rfl rfl (hb hby d13_21)
  have Fwy5 : Fld Z hy5 a1 q0 "language" q8 (.ref a4) := ((HF_a1_language.other Wy3 (Or.inr (slot_ne (Or.inr (W_ hw 78)) (Or.inr (W_ hw 74)) (by decide) (t := (.object "java/lang/String")) (t' := (.object "java/lang/String")) (by decide) (by decide)))).other Wy4 (Or.inr (slot_ne (Or.inr (W_ hw 78)) (Or.inr (W_ hw 76)) (by decide) (t := (.object "java/lang/String")) (t' := (.object "java/util/Map")) (by decide) (by decide)))).same Wy5
  have Zy5 : n0 ≤ hy5.size := Nat.le_trans Zy4 (Keep.of_wr Wy5).1
  have Ky5 : Keep h0 hy5 [a1] := Ky4.wr Wy5 m0
  have Ny5 := Fr.snoc Xy5 Ny4 g_a1
  refine Fin.step (sty5) ?_
  show Fin p e below s _ _ _ (Ty5.setTop (mkF m 24 #[rv a1, rv a2, rv a3, rv a4, iv p5] []))
  refine Fin.step (fun _ k => Yo.aloadN Xy5.here hx (hb hby d13_24) rfl rfl (Yo.iload Xy5.here hx (hb hby d13_25) rfl k)) ?_
  obtain ⟨Ty6, hy6, Xy6, ey6, Wy6, sty6⟩ := putF Xy5 hx hZ hown (host := "") (Or.inl (W_ hw 79)) Via.refl ey5 (((HF_a1_line.other Wy3 (Or.inr (slot_ne (Or.inr (W_ hw 80)) (Or.inr (W_ hw 74)) (by decide) (t := .int) (t' := (.object "java/lang/String")) (by decide) (by decide)))).other Wy4 (Or.inr (slot_ne (Or.inr (W_ hw 80)) (Or.inr (W_ hw 76)) (by decide) (t := .int) (t' := (.object "java/util/Map")) (by decide) (by decide)))).other Wy5 (Or.inr (slot_ne (Or.inr (W_ hw 80)) (Or.inr (W_ hw 78)) (by decide) (t := .int) (t' := (.object "java/lang/String")) (by decide) (by decide)))) (((HE_a1.wr Wy3).wr Wy4).wr Wy5) (Or.inr ⟨(W_ hw 80), rfl, hnm⟩) (W_ hw 57) (ty := .int) (by decide) rfl rfl (g := (mkF m 27 #[rv a1, rv a2, rv a3, rv a4, iv p5] [(.int p5), (.ref a1)])) rfl rfl (hb hby d13_27)
  have Fwy6 : Fld Z hy6 a1 q0 "line" "I" (.int p5) := (((HF_a1_line.other Wy3 (Or.inr (slot_ne (Or.inr (W_ hw 80)) (Or.inr (W_ hw 74)) (by decide) (t := .int) (t' := (.object "java/lang/String")) (by decide) (by decide)))).other Wy4 (Or.inr (slot_ne (Or.inr (W_ hw 80)) (Or.inr (W_ hw 76)) (by decide) (t := .int) (t' := (.object "java/util/Map")) (by decide) (by decide)))).other Wy5 (Or.inr (slot_ne (Or.inr (W_ hw 80)) (Or.inr (W_ hw 78)) (by decide) (t := .int) (t' := (.object "java/lang/String")) (by decide) (by decide)))).same Wy6
  have Zy6 : n0 ≤ hy6.size := Nat.le_trans Zy5 (Keep.of_wr Wy6).1
  have Ky6 : Keep h0 hy6 [a1] := Ky5.wr Wy6 m0
  have Ny6 := Fr.snoc Xy6 Ny5 g_a1
  refine Fin.step (sty6) ?_
  show Fin p e below s _ _ _ (Ty6.setTop (mkF m 30 #[rv a1, rv a2, rv a3, rv a4, iv p5] []))
  refine Fin.retV Xy6 hx hret hlk (hb hby d13_30) (by decide) (by decide) ?_
  show QexR Z a1 a2 a3 a4 p5 h0 n0 _ Ty6.heap _
  rw [ey6]
  exact ⟨rfl, Ny6, Ky6, (Fwy5.other Wy6 (Or.inr (slot_ne (Or.inr (W_ hw 78)) (Or.inr (W_ hw 80)) (by decide) (t := (.object "java/lang/String")) (t' := .int) (by decide) (by decide))))⟩
def own_isI : Value → Bool
  | .int _ => true
  | _ => false
theorem own_ALc : own_chs own_AL := own_chsI fun v hv => by
  have h : own_AL.all own_isI = true := by decide +kernel
  have q := List.all_eq_true.mp h v hv
  cases v <;> simp [own_isI] at q ⊢
theorem own_p256 {x : Int32} (h : 0 ≤ x.toInt ∧ x.toInt ≤ 255) : ¬ x < 0 ∧ x < 256 := by
  rw [Int32.lt_iff_toInt_lt, Int32.lt_iff_toInt_lt]
  show ¬ _ < (0 : Int) ∧ _ < (256 : Int)
  omega
theorem pn_25 : plainName "java/lang/StringLatin1" = true := by first | (simp [plainName, overriddenIn]; done) | decide +kernel
theorem d25_0 : decode jdk_43_method_44_code 0 = .ok (.aload_n 0, 1) := by decide +kernel
theorem d25_1 : decode jdk_43_method_44_code 1 = .ok (.iload_n 1, 1) := by decide +kernel
theorem d25_2 : decode jdk_43_method_44_code 2 = .ok (.baload, 1) := by decide +kernel
theorem d25_3 : decode jdk_43_method_44_code 3 = .ok (.sipush 255, 3) := by decide +kernel
theorem d25_6 : decode jdk_43_method_44_code 6 = .ok (.iand, 1) := by decide +kernel
theorem d25_7 : decode jdk_43_method_44_code 7 = .ok (.i2c, 1) := by decide +kernel
theorem d25_8 : decode jdk_43_method_44_code 8 = .ok (.ireturn, 1) := by decide +kernel
theorem ef_rmgc (m : MethodId) (x0 : Addr) (x1 : Int32) : entryFrame m #[(.ref x0), (.int x1)] 2 = mkF m 0 #[.val (.ref x0), .val (.int x1)] [] := by first | (simp [entryFrame, mkF, argsToLocals, Value.category]; done) | rfl
abbrev R_rmgc : Room := ({ frames := 0, cells := 0, slots := 0, locals := 0 } : Room)
def Qgc (Z : State) (a1 : Addr) (pj : Int32) (kb : ClassId) (pn : Int32) (vs : List Value) (h0 : Heap) (n0 : Nat) (v : Option Value) (h : Heap) (L : List Loc) : Prop := v = some (.int (own_ch (own_gt vs pj.toNatClampNeg))) ∧ Fr n0 L ∧ h = h0
set_option maxRecDepth 65536 in
set_option maxHeartbeats 40000000 in
theorem rmgc (l : Launch) (Z : State) (a0 : Array Value) (hw : ∀ d ∈ tables_1, d.before a0 Z = true) (ws : List Jvm.Cond) (a1 : Addr) (pj : Int32) (kb : ClassId) (pn : Int32) (vs : List Value) (h0 : Heap) (n0 : Nat) (Z0 : n0 ≤ h0.size) (HV_a1 : Arv Z h0 a1 kb .byte pn vs (.int 0)) (hcv : own_chs vs) (hj : ¬ pj < 0 ∧ pj < pn) :
    Met1 l n25 jdk_43_method_44_code 2 (some .char) ws R_rmgc #[(.ref a1), (.int pj)] Z h0 (Qgc Z a1 pj kb pn vs h0 n0) := by
  refine Met1.enter (plainFor_of_name pn_25) (fun m => ef_rmgc m a1 pj) fun p e s m below meth c s₁ hx hby hlk hret hml hown hnm hZ X0 e0 => ?_
  have N0 := Fr.nil n0
  have K0 : Keep h0 h0 [] := Keep.refl h0 _
  show Fin p e below s _ _ _ (s₁.setTop (mkF m 0 #[rv a1, iv pj] []))
  refine Fin.step (fun _ k => Yo.aloadN X0.here hx (hb hby d25_0) rfl rfl (Yo.iloadN X0.here hx (hb hby d25_1) rfl (bld3 X0 hx hZ e0 (j := pj) (v := (.int (own_gt vs pj.toNatClampNeg))) HV_a1 hj (own_lg hcv _) (hb hby d25_2) (Yo.sipush X0.here hx (hb hby d25_3) (Yo.iand X0.here hx (hb hby d25_6) rfl k))))) ?_
  show Fin p e below s _ _ _ (s₁.setTop (mkF m 7 #[rv a1, iv pj] [(.int ((own_gt vs pj.toNatClampNeg) &&& (255 : Int32)))]))
  refine Fin.step (fun _ k => Yo.i2c X0.here hx (hb hby d25_7) rfl k) ?_
  show Fin p e below s _ _ _ (s₁.setTop (mkF m 8 #[rv a1, iv pj] [(.int (((own_gt vs pj.toNatClampNeg) &&& (255 : Int32)).toUInt32.toUInt16.toUInt32.toInt32))]))
  refine Fin.retN X0 hx (t := .char) hret (by simp) hlk (hb hby d25_8) (by decide) (by decide) ?_
  show Qgc Z a1 pj kb pn vs h0 n0 _ s₁.heap _
  rw [e0]
  exact ⟨(congrArg (fun z => some (Value.int z)) (own_chn _)), N0, rfl⟩
theorem pn_27 : plainName "java/lang/CharacterDataLatin1" = true := by first | (simp [plainName, overriddenIn]; done) | decide +kernel
theorem d27_0 : decode jdk_116_method_1_code 0 = .ok (.iload_n 1, 1) := by decide +kernel
theorem d27_1 : decode jdk_116_method_1_code 1 = .ok (.i2c, 1) := by decide +kernel
theorem d27_2 : decode jdk_116_method_1_code 2 = .ok (.istore_n 2, 1) := by decide +kernel
theorem d27_3 : decode jdk_116_method_1_code 3 = .ok (.getstatic 1, 3) := by decide +kernel
theorem d27_6 : decode jdk_116_method_1_code 6 = .ok (.iload_n 2, 1) := by decide +kernel
theorem d27_7 : decode jdk_116_method_1_code 7 = .ok (.iaload, 1) := by decide +kernel
theorem d27_8 : decode jdk_116_method_1_code 8 = .ok (.istore_n 3, 1) := by decide +kernel
theorem d27_9 : decode jdk_116_method_1_code 9 = .ok (.iload_n 3, 1) := by decide +kernel
theorem d27_10 : decode jdk_116_method_1_code 10 = .ok (.ireturn, 1) := by decide +kernel
theorem ef_rmgp (m : MethodId) (x0 : Addr) (x1 : Int32) : entryFrame m #[(.ref x0), (.int x1)] 4 = mkF m 0 #[.val (.ref x0), .val (.int x1), .unset, .unset] [] := by first | (simp [entryFrame, mkF, argsToLocals, Value.category]; done) | rfl
abbrev R_rmgp : Room := ({ frames := 0, cells := 0, slots := 0, locals := 0 } : Room)
def Qgp (Z : State) (a1 : Addr) (pz : Int32) (aa : Addr) (kA : ClassId) (h0 : Heap) (n0 : Nat) (v : Option Value) (h : Heap) (L : List Loc) : Prop := v = some (.int (own_gt own_AL pz.toNatClampNeg)) ∧ Fr n0 L ∧ h = h0
set_option maxRecDepth 65536 in
set_option maxHeartbeats 40000000 in
theorem rmgp (l : Launch) (Z : State) (a0 : Array Value) (hw : ∀ d ∈ tables_1, d.before a0 Z = true) (ws : List Jvm.Cond) (a1 : Addr) (pz : Int32) (aa : Addr) (kA : ClassId) (h0 : Heap) (n0 : Nat) (Z0 : n0 ≤ h0.size) (HS_java_lang_CharacterDataLatin1_A : Sta Z h0 q4 "A" "[I" (.ref aa)) (HV_aa : Arv Z h0 aa kA .int (256 : Int32) own_AL (.int 0)) (hz : 0 ≤ pz.toInt ∧ pz.toInt ≤ 255) :
    Met1 l n27 jdk_116_method_1_code 4 (some .int) ws R_rmgp #[(.ref a1), (.int pz)] Z h0 (Qgp Z a1 pz aa kA h0 n0) := by
  refine Met1.enter (plainFor_of_name pn_27) (fun m => ef_rmgp m a1 pz) fun p e s m below meth c s₁ hx hby hlk hret hml hown hnm hZ X0 e0 => ?_
  have N0 := Fr.nil n0
  have K0 : Keep h0 h0 [] := Keep.refl h0 _
  show Fin p e below s _ _ _ (s₁.setTop (mkF m 0 #[rv a1, iv pz, u_, u_] []))
  refine Fin.step (fun _ k => Yo.iloadN X0.here hx (hb hby d27_0) rfl (Yo.i2c X0.here hx (hb hby d27_1) rfl k)) ?_
  show Fin p e below s _ _ _ (s₁.setTop (mkF m 2 #[rv a1, iv pz, u_, u_] [(.int (pz.toUInt32.toUInt16.toUInt32.toInt32))]))
  refine Fin.step (fun _ k => Yo.istoreN X0.here hx (hb hby d27_2) rfl (l' := #[rv a1, iv pz, .val (.int (pz.toUInt32.toUInt16.toUInt32.toInt32)), u_]) rfl k) ?_
  rw [own_i2c hz]
  show Fin p e below s _ _ _ (s₁.setTop (mkF m 3 #[rv a1, iv pz, iv pz, u_] []))
  obtain ⟨Ty1, Xy1, ey1, sty1⟩ := getS2 X0 hx hZ hown (host := "") (Or.inl (W_ hw 129)) Via.refl e0 HS_java_lang_CharacterDataLatin1_A (g := (mkF m 3 #[rv a1, iv pz, iv pz, u_] [])) rfl (hb hby d27_3)
  refine Fin.step (sty1) ?_
  show Fin p e below s _ _ _ (Ty1.setTop (mkF m 6 #[rv a1, iv pz, iv pz, u_] [(.ref aa)]))
  refine Fin.step (fun _ k => Yo.iloadN Xy1.here hx (hb hby d27_6) rfl (ild3 Xy1 hx hZ ey1 (j := pz) (v := (.int (own_gt own_AL pz.toNatClampNeg))) HV_aa (own_p256 hz) (own_lg own_ALc _) (hb hby d27_7) (Yo.istoreN Xy1.here hx (hb hby d27_8) rfl (l' := #[rv a1, iv pz, iv pz, .val (.int (own_gt own_AL pz.toNatClampNeg))]) rfl (Yo.iloadN Xy1.here hx (hb hby d27_9) rfl k)))) ?_
  refine Fin.retI Xy1 hx hret hlk (hb hby d27_10) (by decide) (by decide) ?_
  show Qgp Z a1 pz aa kA h0 n0 _ Ty1.heap _
  rw [ey1]
  exact ⟨rfl, N0, rfl⟩
theorem pn_26 : plainName "java/lang/CharacterDataLatin1" = true := by first | (simp [plainName, overriddenIn]; done) | decide +kernel
theorem d26_0 : decode jdk_116_method_26_code 0 = .ok (.aload_n 0, 1) := by decide +kernel
theorem d26_1 : decode jdk_116_method_26_code 1 = .ok (.iload_n 1, 1) := by decide +kernel
theorem d26_2 : decode jdk_116_method_26_code 2 = .ok (.invokevirtual 15, 3) := by decide +kernel
theorem pd_11 : parseMethodDescriptor "(I)I" = some ⟨[.int], some .int⟩ := by decide +kernel
theorem d26_5 : decode jdk_116_method_26_code 5 = .ok (.istore_n 2, 1) := by decide +kernel
theorem d26_6 : decode jdk_116_method_26_code 6 = .ok (.iload_n 2, 1) := by decide +kernel
theorem d26_7 : decode jdk_116_method_26_code 7 = .ok (.sipush 28672, 3) := by decide +kernel
theorem d26_10 : decode jdk_116_method_26_code 10 = .ok (.iand, 1) := by decide +kernel
theorem d26_11 : decode jdk_116_method_26_code 11 = .ok (.sipush 16384, 3) := by decide +kernel
theorem d26_14 : decode jdk_116_method_26_code 14 = .ok (.if_icmp .ne 7, 3) := by decide +kernel
theorem d26_17 : decode jdk_116_method_26_code 17 = .ok (.iconst 1, 1) := by decide +kernel
theorem d26_18 : decode jdk_116_method_26_code 18 = .ok (.goto 4, 3) := by decide +kernel
theorem d26_22 : decode jdk_116_method_26_code 22 = .ok (.ireturn, 1) := by decide +kernel
theorem d26_21 : decode jdk_116_method_26_code 21 = .ok (.iconst 0, 1) := by decide +kernel
theorem ef_rmiw (m : MethodId) (x0 : Addr) (x1 : Int32) : entryFrame m #[(.ref x0), (.int x1)] 3 = mkF m 0 #[.val (.ref x0), .val (.int x1), .unset] [] := by first | (simp [entryFrame, mkF, argsToLocals, Value.category]; done) | rfl
abbrev R_rmiw : Room := ({ frames := 1, cells := 0, slots := 0, locals := 15 } : Room)
def Qiw (Z : State) (a1 : Addr) (pz : Int32) (aa : Addr) (kA : ClassId) (h0 : Heap) (n0 : Nat) (v : Option Value) (h : Heap) (L : List Loc) : Prop := v = some (.int (own_iw pz)) ∧ Fr n0 L ∧ h = h0
set_option maxRecDepth 65536 in
set_option maxHeartbeats 40000000 in
theorem rmiw (l : Launch) (Z : State) (a0 : Array Value) (hw : ∀ d ∈ tables_1, d.before a0 Z = true) (ws : List Jvm.Cond) (a1 : Addr) (pz : Int32) (aa : Addr) (kA : ClassId) (h0 : Heap) (n0 : Nat) (Z0 : n0 ≤ h0.size) (HE_a1 : Exa Z h0 a1 q4) (HS_java_lang_CharacterDataLatin1_A : Sta Z h0 q4 "A" "[I" (.ref aa)) (HV_aa : Arv Z h0 aa kA .int (256 : Int32) own_AL (.int 0)) (hz : 0 ≤ pz.toInt ∧ pz.toInt ≤ 255) :
    Met1 l n26 jdk_116_method_26_code 3 (some .boolean) ws R_rmiw #[(.ref a1), (.int pz)] Z h0 (Qiw Z a1 pz aa kA h0 n0) := by
  refine Met1.enter (plainFor_of_name pn_26) (fun m => ef_rmiw m a1 pz) fun p e s m below meth c s₁ hx hby hlk hret hml hown hnm hZ X0 e0 => ?_
  have N0 := Fr.nil n0
  have K0 : Keep h0 h0 [] := Keep.refl h0 _
  show Fin p e below s _ _ _ (s₁.setTop (mkF m 0 #[rv a1, iv pz, u_] []))
  refine Fin.step (fun _ k => Yo.aloadN X0.here hx (hb hby d26_0) rfl rfl (Yo.iloadN X0.here hx (hb hby d26_1) rfl k)) ?_
  obtain ⟨cqy1, kqy1, qy1a, qy1b, qy1c⟩ := isOf hZ e0 HE_a1
  obtain ⟨_, Ty1, Lcy1, Xy1, hQy1, sty1⟩ := pack (X0.virtualBack hx (y := n27) (z := n27) hown (mvT hZ (W_ hw 124)) (mvT hZ (W_ hw 125)) (notFace_of_selects (args := #[]) (mvT hZ (W_ hw 127))) (mvT hZ (W_ hw 127)) (mvT hZ (W_ hw 126)) (by decide) (backOf (W := 0) (rmgp l Z a0 hw [] a1 pz aa kA h0 n0 Z0 HS_java_lang_CharacterDataLatin1_A HV_aa hz) hZ (W_ hw 128) (W_ hw 118) (by decide) (by decide)) qy1a qy1c (g := (mkF m 2 #[rv a1, iv pz, u_] [(.int pz), (.ref a1)])) rfl (by rw [hml]; rfl) (Steps.refl _) (argsL := [(.int pz)]) (rest := []) (lenOf pd_11 rfl) rfl (lb rfl) (hb hby d26_2) (fun _ _ => ⟨rfl, e0, (by decide : 0 + 0 ≤ _), (by decide : 0 + 0 ≤ _)⟩))
  obtain ⟨rfl, Nqy1, eqy1⟩ := hQy1
  have Ny1 := Fr.app N0 Nqy1
  refine Fin.step (sty1) ?_
  show Fin p e below s _ _ _ (Ty1.setTop (mkF m 5 #[rv a1, iv pz, u_] [(.int (own_gt own_AL pz.toNatClampNeg))]))
  refine Fin.step (fun _ k => Yo.istoreN Xy1.here hx (hb hby d26_5) rfl (l' := #[rv a1, iv pz, .val (.int (own_gt own_AL pz.toNatClampNeg))]) rfl (Yo.iloadN Xy1.here hx (hb hby d26_6) rfl (Yo.sipush Xy1.here hx (hb hby d26_7) (Yo.iand Xy1.here hx (hb hby d26_10) rfl k)))) ?_
  show Fin p e below s _ _ _ (Ty1.setTop (mkF m 11 #[rv a1, iv pz, .val (.int (own_gt own_AL pz.toNatClampNeg))] [(.int ((own_gt own_AL pz.toNatClampNeg) &&& (28672 : Int32)))]))
  refine Fin.step (fun _ k => Yo.sipush Xy1.here hx (hb hby d26_11) k) ?_
  by_cases hcy2 : ((own_gt own_AL pz.toNatClampNeg) &&& (28672 : Int32)) = (16384 : Int32)
  · refine Fin.step (fun _ k => Yo.icmpNo Xy1.here hx (hb hby d26_14) rfl (teq (hcy2 : (((own_gt own_AL pz.toNatClampNeg) &&& (28672 : Int32)) = (16384 : Int32)))).2 (Yo.iconst Xy1.here hx (hb hby d26_17) (Yo.goto Xy1.here hx (pc0 := 18) (pc' := 22) rfl (hb hby d26_18) (by decide) (by decide) k))) ?_
    refine Fin.retN Xy1 hx (t := .boolean) hret (by simp) hlk (hb hby d26_22) (by decide) (by decide) ?_
    show Qiw Z a1 pz aa kA h0 n0 _ Ty1.heap _
    rw [eqy1]
    exact ⟨(congrArg (fun z => some (Value.int z)) (by rw [own_iw, if_pos hcy2]; first | done | rfl)), Ny1, rfl⟩
  · refine Fin.step (fun _ k => Yo.icmpYes Xy1.here hx (pc0 := 14) (pc' := 21) rfl (hb hby d26_14) rfl (feq (hcy2 : ¬ (((own_gt own_AL pz.toNatClampNeg) &&& (28672 : Int32)) = (16384 : Int32)))).2 (by decide) (by decide) (Yo.iconst Xy1.here hx (hb hby d26_21) k)) ?_
    refine Fin.retN Xy1 hx (t := .boolean) hret (by simp) hlk (hb hby d26_22) (by decide) (by decide) ?_
    show Qiw Z a1 pz aa kA h0 n0 _ Ty1.heap _
    rw [eqy1]
    exact ⟨(congrArg (fun z => some (Value.int z)) (by rw [own_iw, if_neg hcy2]; first | done | rfl)), Ny1, rfl⟩
theorem pn_24 : plainName "java/lang/StringLatin1" = true := by first | (simp [plainName, overriddenIn]; done) | decide +kernel
theorem d24_0 : decode jdk_43_method_37_code 0 = .ok (.aload_n 0, 1) := by decide +kernel
theorem d24_1 : decode jdk_43_method_37_code 1 = .ok (.arraylength, 1) := by decide +kernel
theorem d24_2 : decode jdk_43_method_37_code 2 = .ok (.istore_n 1, 1) := by decide +kernel
theorem d24_3 : decode jdk_43_method_37_code 3 = .ok (.iconst 0, 1) := by decide +kernel
theorem d24_4 : decode jdk_43_method_37_code 4 = .ok (.istore_n 2, 1) := by decide +kernel
theorem d24_5 : decode jdk_43_method_37_code 5 = .ok (.iload_n 2, 1) := by decide +kernel
theorem d24_6 : decode jdk_43_method_37_code 6 = .ok (.iload_n 1, 1) := by decide +kernel
theorem d24_7 : decode jdk_43_method_37_code 7 = .ok (.if_icmp .ge 40, 3) := by decide +kernel
theorem d24_10 : decode jdk_43_method_37_code 10 = .ok (.aload_n 0, 1) := by decide +kernel
theorem d24_11 : decode jdk_43_method_37_code 11 = .ok (.iload_n 2, 1) := by decide +kernel
theorem d24_12 : decode jdk_43_method_37_code 12 = .ok (.invokestatic 50, 3) := by decide +kernel
theorem pd_12 : parseMethodDescriptor "([BI)C" = some ⟨[(.array .byte), .int], some .char⟩ := by decide +kernel
theorem d24_15 : decode jdk_43_method_37_code 15 = .ok (.istore_n 3, 1) := by decide +kernel
theorem d24_16 : decode jdk_43_method_37_code 16 = .ok (.iload_n 3, 1) := by decide +kernel
theorem d24_17 : decode jdk_43_method_37_code 17 = .ok (.bipush 32, 2) := by decide +kernel
theorem d24_19 : decode jdk_43_method_37_code 19 = .ok (.if_icmp .eq 22, 3) := by decide +kernel
theorem d24_41 : decode jdk_43_method_37_code 41 = .ok (.iinc 2 1, 3) := by decide +kernel
theorem d24_44 : decode jdk_43_method_37_code 44 = .ok (.goto (-39), 3) := by decide +kernel
theorem d24_22 : decode jdk_43_method_37_code 22 = .ok (.iload_n 3, 1) := by decide +kernel
theorem d24_23 : decode jdk_43_method_37_code 23 = .ok (.bipush 9, 2) := by decide +kernel
theorem d24_25 : decode jdk_43_method_37_code 25 = .ok (.if_icmp .eq 16, 3) := by decide +kernel
theorem d24_28 : decode jdk_43_method_37_code 28 = .ok (.getstatic 66, 3) := by decide +kernel
theorem d24_31 : decode jdk_43_method_37_code 31 = .ok (.iload_n 3, 1) := by decide +kernel
theorem d24_32 : decode jdk_43_method_37_code 32 = .ok (.invokevirtual 211, 3) := by decide +kernel
theorem pd_13 : parseMethodDescriptor "(I)Z" = some ⟨[.int], some .boolean⟩ := by decide +kernel
theorem d24_35 : decode jdk_43_method_37_code 35 = .ok (.ifCond .ne 6, 3) := by decide +kernel
theorem d24_38 : decode jdk_43_method_37_code 38 = .ok (.goto 9, 3) := by decide +kernel
theorem d24_47 : decode jdk_43_method_37_code 47 = .ok (.iload_n 2, 1) := by decide +kernel
theorem d24_48 : decode jdk_43_method_37_code 48 = .ok (.ireturn, 1) := by decide +kernel
theorem ef_rmix (m : MethodId) (x0 : Addr) : entryFrame m #[(.ref x0)] 4 = mkF m 0 #[.val (.ref x0), .unset, .unset, .unset] [] := by first | (simp [entryFrame, mkF, argsToLocals, Value.category]; done) | rfl
abbrev R_rmix : Room := ({ frames := 2, cells := 0, slots := 0, locals := 29 } : Room)
def Qix (Z : State) (a1 : Addr) (kb : ClassId) (pn : Int32) (vs : List Value) (ci aa : Addr) (kA : ClassId) (h0 : Heap) (n0 : Nat) (v : Option Value) (h : Heap) (L : List Loc) : Prop := ∃ pi : Int32, v = some (.int pi) ∧ Fr n0 L ∧ h = h0 ∧ own_ixs pn vs pi
set_option maxRecDepth 65536 in
set_option maxHeartbeats 40000000 in
theorem rmix (l : Launch) (Z : State) (a0 : Array Value) (hw : ∀ d ∈ tables_1, d.before a0 Z = true) (ws : List Jvm.Cond) (a1 : Addr) (kb : ClassId) (pn : Int32) (vs : List Value) (ci aa : Addr) (kA : ClassId) (h0 : Heap) (n0 : Nat) (Z0 : n0 ≤ h0.size) (HV_a1 : Arv Z h0 a1 kb .byte pn vs (.int 0)) (HS_java_lang_CharacterDataLatin1_instance : Sta Z h0 q4 "instance" "Ljava/lang/CharacterDataLatin1;" (.ref ci)) (HE_ci : Exa Z h0 ci q4) (HS_java_lang_CharacterDataLatin1_A : Sta Z h0 q4 "A" "[I" (.ref aa)) (HV_aa : Arv Z h0 aa kA .int (256 : Int32) own_AL (.int 0)) (hn : 0 ≤ pn.toInt ∧ pn.toInt ≤ 8) (hcv : own_chs vs) :
    Met1 l n24 jdk_43_method_37_code 4 (some .int) ws R_rmix #[(.ref a1)] Z h0 (Qix Z a1 kb pn vs ci aa kA h0 n0) := by
  refine Met1.enter (plainFor_of_name pn_24) (fun m => ef_rmix m a1) fun p e s m below meth c s₁ hx hby hlk hret hml hown hnm hZ X0 e0 => ?_
  have N0 := Fr.nil n0
  have K0 : Keep h0 h0 [] := Keep.refl h0 _
  show Fin p e below s _ _ _ (s₁.setTop (mkF m 0 #[rv a1, u_, u_, u_] []))
  refine Fin.step (fun _ k => Yo.aloadN X0.here hx (hb hby d24_0) rfl rfl k) ?_
  have voy1 := HV_a1
  obtain ⟨cly1, Ary1, qay1, say1, nay1, hay1, gay1⟩ := voy1
  refine Fin.step (X0.arraylength hx (by rw [e0]; exact Ary1.1) (State.isArrayOf_alike hZ.alike Ary1.2.1) (g := (mkF m 1 #[rv a1, u_, u_, u_] [(.ref a1)])) rfl rfl (hb hby d24_1)) ?_
  rw [len_of say1 nay1]
  show Fin p e below s _ _ _ (s₁.setTop (mkF m 2 #[rv a1, u_, u_, u_] [(.int pn)]))
  refine Fin.step (fun _ k => Yo.istoreN X0.here hx (hb hby d24_2) rfl (l' := #[rv a1, iv pn, u_, u_]) rfl (Yo.iconst X0.here hx (hb hby d24_3) (Yo.istoreN X0.here hx (hb hby d24_4) rfl (l' := #[rv a1, iv pn, iv 0, u_]) rfl k))) ?_
  have loop : ∀ (r : Nat) (Ty2 : State) (hy2 : Heap) (Ly2 : List Loc) (iq : Int32) (cq : Slot) (mry2 : pn.toNatClampNeg - iq.toNatClampNeg = r) (Xy2 : Stand p l e R_rmix s m #[(.ref a1)] below meth c Ty2 Ly2 0 0) (ey2 : Ty2.heap = hy2) (Ny2 : Fr n0 Ly2) (Zy2 : n0 ≤ hy2.size) (Ky2 : Keep h0 hy2 []) (fy2_0 : Arv Z hy2 a1 kb .byte pn vs (.int 0)) (fy2_1 : Sta Z hy2 q4 "instance" "Ljava/lang/CharacterDataLatin1;" (.ref ci)) (fy2_2 : Exa Z hy2 ci q4) (fy2_3 : Sta Z hy2 q4 "A" "[I" (.ref aa)) (fy2_4 : Arv Z hy2 aa kA .int (256 : Int32) own_AL (.int 0)) (hi0 : 0 ≤ iq.toInt) (hi1 : iq.toInt ≤ pn.toInt) (hall : ∀ k, k < iq.toNatClampNeg → own_wb (own_gt vs k)) (hcq : cq = u_ ∨ ∃ z : Int32, cq = iv z) (pqy2 : hy2 = h0), Fin p e below s (Qix Z a1 kb pn vs ci aa kA h0 n0) R_rmix.cells R_rmix.slots (Ty2.setTop (mkF m 5 #[rv a1, iv pn, iv iq, cq] [])) := by
    intro r
    induction r using Nat.strongRecOn with
    | _ r ih =>
      intro Ty2 hy2 Ly2 iq cq mry2 Xy2 ey2 Ny2 Zy2 Ky2 fy2_0 fy2_1 fy2_2 fy2_3 fy2_4 hi0 hi1 hall hcq pqy2
      refine Fin.step (fun _ k => Yo.iloadN Xy2.here hx (hb hby d24_5) rfl (Yo.iloadN Xy2.here hx (hb hby d24_6) rfl k)) ?_
      by_cases hcy3 : iq < pn
      · refine Fin.step (fun _ k => Yo.icmpNo Xy2.here hx (hb hby d24_7) rfl (tlt (hcy3 : (iq < pn))).2.1 k) ?_
        rcases hcq with rfl | ⟨cz, rfl⟩
        · show Fin p e below s _ _ _ (Ty2.setTop (mkF m 10 #[rv a1, iv pn, iv iq, u_] []))
          have G := own_nx hi0 hn.2 hcy3
          refine Fin.step (fun _ k => Yo.aloadN Xy2.here hx (hb hby d24_10) rfl rfl (Yo.iloadN Xy2.here hx (hb hby d24_11) rfl k)) ?_
          obtain ⟨_, Ty4, Lcy4, Xy4, hQy4, sty4⟩ := packS (Jvm.LawKit.callS Xy2 hx (y := n25) hown (mvT hZ (W_ hw 114)) (mvT hZ (W_ hw 115)) (mvT hZ (W_ hw 41)) (mvT hZ (W_ hw 116)) (by decide) (backOf (W := 0) (rmgc l Z a0 hw [] a1 iq kb pn vs hy2 n0 Zy2 fy2_0 hcv G.1) hZ (W_ hw 116) (W_ hw 41) (by decide) (by decide)) (g := (mkF m 12 #[rv a1, iv pn, iv iq, u_] [(.int iq), (.ref a1)])) rfl (by rw [hml]; rfl) (argsL := [(.ref a1), (.int iq)]) (rest := []) (lenOf pd_12 rfl) rfl (lb rfl) (hb hby d24_12) (fun _ _ => ⟨rfl, ey2, (by decide : 0 + 0 ≤ _), (by decide : 0 + 0 ≤ _)⟩))
          obtain ⟨rfl, Nqy4, eqy4⟩ := hQy4
          have Ny4 := Fr.app Ny2 Nqy4
          refine Fin.step (sty4) ?_
          show Fin p e below s _ _ _ (Ty4.setTop (mkF m 15 #[rv a1, iv pn, iv iq, u_] [(.int (own_ch (own_gt vs iq.toNatClampNeg)))]))
          refine Fin.step (fun _ k => Yo.istoreN Xy4.here hx (hb hby d24_15) rfl (l' := #[rv a1, iv pn, iv iq, .val (.int (own_ch (own_gt vs iq.toNatClampNeg)))]) rfl (Yo.iloadN Xy4.here hx (hb hby d24_16) rfl (Yo.bipush Xy4.here hx (hb hby d24_17) k))) ?_
          by_cases hcy5 : (own_ch (own_gt vs iq.toNatClampNeg)) = (32 : Int32)
          · refine Fin.step (fun _ k => Yo.icmpYes Xy4.here hx (pc0 := 19) (pc' := 41) rfl (hb hby d24_19) rfl (teq (hcy5 : ((own_ch (own_gt vs iq.toNatClampNeg)) = (32 : Int32)))).1 (by decide) (by decide) (Yo.iinc Xy4.here hx (hb hby d24_41) rfl (l' := #[rv a1, iv pn, .val (.int (iq + (1 : Int32))), .val (.int (own_ch (own_gt vs iq.toNatClampNeg)))]) rfl k)) ?_
            show Fin p e below s _ _ _ (Ty4.setTop (mkF m 44 #[rv a1, iv pn, .val (.int (iq + (1 : Int32))), .val (.int (own_ch (own_gt vs iq.toNatClampNeg)))] []))
            refine Fin.step (fun _ k => Yo.goto Xy4.here hx (pc0 := 44) (pc' := 5) rfl (hb hby d24_44) (by decide) (by decide) k) ?_
            exact ih _ (by rw [← mry2]; exact G.2.2.2.2.1) _ _ _ (iq + (1 : Int32)) _ rfl Xy4 eqy4 Ny4 Zy2 Ky2 fy2_0 fy2_1 fy2_2 fy2_3 fy2_4 G.2.1 G.2.2.1 (own_up hi0 (Int.le_trans hi1 hn.2) hall (Or.inl hcy5)) (Or.inr ⟨_, rfl⟩) pqy2
          · refine Fin.step (fun _ k => Yo.icmpNo Xy4.here hx (hb hby d24_19) rfl (feq (hcy5 : ¬ ((own_ch (own_gt vs iq.toNatClampNeg)) = (32 : Int32)))).1 (Yo.iloadN Xy4.here hx (hb hby d24_22) rfl (Yo.bipush Xy4.here hx (hb hby d24_23) k))) ?_
            by_cases hcy6 : (own_ch (own_gt vs iq.toNatClampNeg)) = (9 : Int32)
            · refine Fin.step (fun _ k => Yo.icmpYes Xy4.here hx (pc0 := 25) (pc' := 41) rfl (hb hby d24_25) rfl (teq (hcy6 : ((own_ch (own_gt vs iq.toNatClampNeg)) = (9 : Int32)))).1 (by decide) (by decide) (Yo.iinc Xy4.here hx (hb hby d24_41) rfl (l' := #[rv a1, iv pn, .val (.int (iq + (1 : Int32))), .val (.int (own_ch (own_gt vs iq.toNatClampNeg)))]) rfl k)) ?_
              show Fin p e below s _ _ _ (Ty4.setTop (mkF m 44 #[rv a1, iv pn, .val (.int (iq + (1 : Int32))), .val (.int (own_ch (own_gt vs iq.toNatClampNeg)))] []))
              refine Fin.step (fun _ k => Yo.goto Xy4.here hx (pc0 := 44) (pc' := 5) rfl (hb hby d24_44) (by decide) (by decide) k) ?_
              exact ih _ (by rw [← mry2]; exact G.2.2.2.2.1) _ _ _ (iq + (1 : Int32)) _ rfl Xy4 eqy4 Ny4 Zy2 Ky2 fy2_0 fy2_1 fy2_2 fy2_3 fy2_4 G.2.1 G.2.2.1 (own_up hi0 (Int.le_trans hi1 hn.2) hall (Or.inr (Or.inl hcy6))) (Or.inr ⟨_, rfl⟩) pqy2
            · refine Fin.step (fun _ k => Yo.icmpNo Xy4.here hx (hb hby d24_25) rfl (feq (hcy6 : ¬ ((own_ch (own_gt vs iq.toNatClampNeg)) = (9 : Int32)))).1 k) ?_
              obtain ⟨Ty7, Xy7, ey7, sty7⟩ := getS2 Xy4 hx hZ hown (host := "") (Or.inl (W_ hw 117)) Via.refl eqy4 fy2_1 (g := (mkF m 28 #[rv a1, iv pn, iv iq, .val (.int (own_ch (own_gt vs iq.toNatClampNeg)))] [])) rfl (hb hby d24_28)
              refine Fin.step (sty7) ?_
              show Fin p e below s _ _ _ (Ty7.setTop (mkF m 31 #[rv a1, iv pn, iv iq, .val (.int (own_ch (own_gt vs iq.toNatClampNeg)))] [(.ref ci)]))
              refine Fin.step (fun _ k => Yo.iloadN Xy7.here hx (hb hby d24_31) rfl k) ?_
              obtain ⟨cqy8, kqy8, qy8a, qy8b, qy8c⟩ := isOf hZ ey7 fy2_2
              obtain ⟨_, Ty8, Lcy8, Xy8, hQy8, sty8⟩ := pack (Xy7.virtualBack hx (y := n26) (z := n26) hown (mvT hZ (W_ hw 119)) (mvT hZ (W_ hw 120)) (notFace_of_selects (args := #[]) (mvT hZ (W_ hw 122))) (mvT hZ (W_ hw 122)) (mvT hZ (W_ hw 121)) (by decide) (backOf (W := 0) (rmiw l Z a0 hw [] ci (own_ch (own_gt vs iq.toNatClampNeg)) aa kA hy2 n0 Zy2 fy2_2 fy2_3 fy2_4 (own_chr _)) hZ (W_ hw 123) (W_ hw 118) (by decide) (by decide)) qy8a qy8c (g := (mkF m 32 #[rv a1, iv pn, iv iq, .val (.int (own_ch (own_gt vs iq.toNatClampNeg)))] [(.int (own_ch (own_gt vs iq.toNatClampNeg))), (.ref ci)])) rfl (by rw [hml]; rfl) (Steps.refl _) (argsL := [(.int (own_ch (own_gt vs iq.toNatClampNeg)))]) (rest := []) (lenOf pd_13 rfl) rfl (lb rfl) (hb hby d24_32) (fun _ _ => ⟨rfl, ey7, (by decide : 0 + 0 ≤ _), (by decide : 0 + 0 ≤ _)⟩))
              obtain ⟨rfl, Nqy8, eqy8⟩ := hQy8
              have Ny8 := Fr.app Ny4 Nqy8
              refine Fin.step (sty8) ?_
              show Fin p e below s _ _ _ (Ty8.setTop (mkF m 35 #[rv a1, iv pn, iv iq, .val (.int (own_ch (own_gt vs iq.toNatClampNeg)))] [(.int (own_iw (own_ch (own_gt vs iq.toNatClampNeg))))]))
              by_cases hcy9 : (own_iw (own_ch (own_gt vs iq.toNatClampNeg))) = (0 : Int32)
              · refine Fin.step (fun _ k => Yo.ifNo Xy8.here hx (hb hby d24_35) rfl ((if0 _ _).trans (teq (hcy9 : ((own_iw (own_ch (own_gt vs iq.toNatClampNeg))) = (0 : Int32)))).2) (Yo.goto Xy8.here hx (pc0 := 38) (pc' := 47) rfl (hb hby d24_38) (by decide) (by decide) (Yo.iloadN Xy8.here hx (hb hby d24_47) rfl k))) ?_
                refine Fin.retI Xy8 hx hret hlk (hb hby d24_48) (by decide) (by decide) ?_
                show Qix Z a1 kb pn vs ci aa kA h0 n0 _ Ty8.heap _
                rw [eqy8]
                exact ⟨iq, rfl, Ny8, pqy2, ⟨hi0, hi1, hall, fun q => (fun q => q.elim hcy5 fun q => q.elim hcy6 fun q => q hcy9)⟩⟩
              · refine Fin.step (fun _ k => Yo.ifYes Xy8.here hx (pc0 := 35) (pc' := 41) rfl (hb hby d24_35) rfl ((if0 _ _).trans (feq (hcy9 : ¬ ((own_iw (own_ch (own_gt vs iq.toNatClampNeg))) = (0 : Int32)))).2) (by decide) (by decide) (Yo.iinc Xy8.here hx (hb hby d24_41) rfl (l' := #[rv a1, iv pn, .val (.int (iq + (1 : Int32))), .val (.int (own_ch (own_gt vs iq.toNatClampNeg)))]) rfl k)) ?_
                show Fin p e below s _ _ _ (Ty8.setTop (mkF m 44 #[rv a1, iv pn, .val (.int (iq + (1 : Int32))), .val (.int (own_ch (own_gt vs iq.toNatClampNeg)))] []))
                refine Fin.step (fun _ k => Yo.goto Xy8.here hx (pc0 := 44) (pc' := 5) rfl (hb hby d24_44) (by decide) (by decide) k) ?_
                exact ih _ (by rw [← mry2]; exact G.2.2.2.2.1) _ _ _ (iq + (1 : Int32)) _ rfl Xy8 eqy8 Ny8 Zy2 Ky2 fy2_0 fy2_1 fy2_2 fy2_3 fy2_4 G.2.1 G.2.2.1 (own_up hi0 (Int.le_trans hi1 hn.2) hall (Or.inr (Or.inr hcy9))) (Or.inr ⟨_, rfl⟩) pqy2
        · show Fin p e below s _ _ _ (Ty2.setTop (mkF m 10 #[rv a1, iv pn, iv iq, iv cz] []))
          have G := own_nx hi0 hn.2 hcy3
          refine Fin.step (fun _ k => Yo.aloadN Xy2.here hx (hb hby d24_10) rfl rfl (Yo.iloadN Xy2.here hx (hb hby d24_11) rfl k)) ?_
          obtain ⟨_, Ty10, Lcy10, Xy10, hQy10, sty10⟩ := packS (Jvm.LawKit.callS Xy2 hx (y := n25) hown (mvT hZ (W_ hw 114)) (mvT hZ (W_ hw 115)) (mvT hZ (W_ hw 41)) (mvT hZ (W_ hw 116)) (by decide) (backOf (W := 0) (rmgc l Z a0 hw [] a1 iq kb pn vs hy2 n0 Zy2 fy2_0 hcv G.1) hZ (W_ hw 116) (W_ hw 41) (by decide) (by decide)) (g := (mkF m 12 #[rv a1, iv pn, iv iq, iv cz] [(.int iq), (.ref a1)])) rfl (by rw [hml]; rfl) (argsL := [(.ref a1), (.int iq)]) (rest := []) (lenOf pd_12 rfl) rfl (lb rfl) (hb hby d24_12) (fun _ _ => ⟨rfl, ey2, (by decide : 0 + 0 ≤ _), (by decide : 0 + 0 ≤ _)⟩))
          obtain ⟨rfl, Nqy10, eqy10⟩ := hQy10
          have Ny10 := Fr.app Ny2 Nqy10
          refine Fin.step (sty10) ?_
          show Fin p e below s _ _ _ (Ty10.setTop (mkF m 15 #[rv a1, iv pn, iv iq, iv cz] [(.int (own_ch (own_gt vs iq.toNatClampNeg)))]))
          refine Fin.step (fun _ k => Yo.istoreN Xy10.here hx (hb hby d24_15) rfl (l' := #[rv a1, iv pn, iv iq, .val (.int (own_ch (own_gt vs iq.toNatClampNeg)))]) rfl (Yo.iloadN Xy10.here hx (hb hby d24_16) rfl (Yo.bipush Xy10.here hx (hb hby d24_17) k))) ?_
          by_cases hcy11 : (own_ch (own_gt vs iq.toNatClampNeg)) = (32 : Int32)
          · refine Fin.step (fun _ k => Yo.icmpYes Xy10.here hx (pc0 := 19) (pc' := 41) rfl (hb hby d24_19) rfl (teq (hcy11 : ((own_ch (own_gt vs iq.toNatClampNeg)) = (32 : Int32)))).1 (by decide) (by decide) (Yo.iinc Xy10.here hx (hb hby d24_41) rfl (l' := #[rv a1, iv pn, .val (.int (iq + (1 : Int32))), .val (.int (own_ch (own_gt vs iq.toNatClampNeg)))]) rfl k)) ?_
            show Fin p e below s _ _ _ (Ty10.setTop (mkF m 44 #[rv a1, iv pn, .val (.int (iq + (1 : Int32))), .val (.int (own_ch (own_gt vs iq.toNatClampNeg)))] []))
            refine Fin.step (fun _ k => Yo.goto Xy10.here hx (pc0 := 44) (pc' := 5) rfl (hb hby d24_44) (by decide) (by decide) k) ?_
            exact ih _ (by rw [← mry2]; exact G.2.2.2.2.1) _ _ _ (iq + (1 : Int32)) _ rfl Xy10 eqy10 Ny10 Zy2 Ky2 fy2_0 fy2_1 fy2_2 fy2_3 fy2_4 G.2.1 G.2.2.1 (own_up hi0 (Int.le_trans hi1 hn.2) hall (Or.inl hcy11)) (Or.inr ⟨_, rfl⟩) pqy2
          · refine Fin.step (fun _ k => Yo.icmpNo Xy10.here hx (hb hby d24_19) rfl (feq (hcy11 : ¬ ((own_ch (own_gt vs iq.toNatClampNeg)) = (32 : Int32)))).1 (Yo.iloadN Xy10.here hx (hb hby d24_22) rfl (Yo.bipush Xy10.here hx (hb hby d24_23) k))) ?_
            by_cases hcy12 : (own_ch (own_gt vs iq.toNatClampNeg)) = (9 : Int32)
            · refine Fin.step (fun _ k => Yo.icmpYes Xy10.here hx (pc0 := 25) (pc' := 41) rfl (hb hby d24_25) rfl (teq (hcy12 : ((own_ch (own_gt vs iq.toNatClampNeg)) = (9 : Int32)))).1 (by decide) (by decide) (Yo.iinc Xy10.here hx (hb hby d24_41) rfl (l' := #[rv a1, iv pn, .val (.int (iq + (1 : Int32))), .val (.int (own_ch (own_gt vs iq.toNatClampNeg)))]) rfl k)) ?_
              show Fin p e below s _ _ _ (Ty10.setTop (mkF m 44 #[rv a1, iv pn, .val (.int (iq + (1 : Int32))), .val (.int (own_ch (own_gt vs iq.toNatClampNeg)))] []))
              refine Fin.step (fun _ k => Yo.goto Xy10.here hx (pc0 := 44) (pc' := 5) rfl (hb hby d24_44) (by decide) (by decide) k) ?_
              exact ih _ (by rw [← mry2]; exact G.2.2.2.2.1) _ _ _ (iq + (1 : Int32)) _ rfl Xy10 eqy10 Ny10 Zy2 Ky2 fy2_0 fy2_1 fy2_2 fy2_3 fy2_4 G.2.1 G.2.2.1 (own_up hi0 (Int.le_trans hi1 hn.2) hall (Or.inr (Or.inl hcy12))) (Or.inr ⟨_, rfl⟩) pqy2
            · refine Fin.step (fun _ k => Yo.icmpNo Xy10.here hx (hb hby d24_25) rfl (feq (hcy12 : ¬ ((own_ch (own_gt vs iq.toNatClampNeg)) = (9 : Int32)))).1 k) ?_
              obtain ⟨Ty13, Xy13, ey13, sty13⟩ := getS2 Xy10 hx hZ hown (host := "") (Or.inl (W_ hw 117)) Via.refl eqy10 fy2_1 (g := (mkF m 28 #[rv a1, iv pn, iv iq, .val (.int (own_ch (own_gt vs iq.toNatClampNeg)))] [])) rfl (hb hby d24_28)
              refine Fin.step (sty13) ?_
              show Fin p e below s _ _ _ (Ty13.setTop (mkF m 31 #[rv a1, iv pn, iv iq, .val (.int (own_ch (own_gt vs iq.toNatClampNeg)))] [(.ref ci)]))
              refine Fin.step (fun _ k => Yo.iloadN Xy13.here hx (hb hby d24_31) rfl k) ?_
              obtain ⟨cqy14, kqy14, qy14a, qy14b, qy14c⟩ := isOf hZ ey13 fy2_2
              obtain ⟨_, Ty14, Lcy14, Xy14, hQy14, sty14⟩ := pack (Xy13.virtualBack hx (y := n26) (z := n26) hown (mvT hZ (W_ hw 119)) (mvT hZ (W_ hw 120)) (notFace_of_selects (args := #[]) (mvT hZ (W_ hw 122))) (mvT hZ (W_ hw 122)) (mvT hZ (W_ hw 121)) (by decide) (backOf (W := 0) (rmiw l Z a0 hw [] ci (own_ch (own_gt vs iq.toNatClampNeg)) aa kA hy2 n0 Zy2 fy2_2 fy2_3 fy2_4 (own_chr _)) hZ (W_ hw 123) (W_ hw 118) (by decide) (by decide)) qy14a qy14c (g := (mkF m 32 #[rv a1, iv pn, iv iq, .val (.int (own_ch (own_gt vs iq.toNatClampNeg)))] [(.int (own_ch (own_gt vs iq.toNatClampNeg))), (.ref ci)])) rfl (by rw [hml]; rfl) (Steps.refl _) (argsL := [(.int (own_ch (own_gt vs iq.toNatClampNeg)))]) (rest := []) (lenOf pd_13 rfl) rfl (lb rfl) (hb hby d24_32) (fun _ _ => ⟨rfl, ey13, (by decide : 0 + 0 ≤ _), (by decide : 0 + 0 ≤ _)⟩))
              obtain ⟨rfl, Nqy14, eqy14⟩ := hQy14
              have Ny14 := Fr.app Ny10 Nqy14
              refine Fin.step (sty14) ?_
              show Fin p e below s _ _ _ (Ty14.setTop (mkF m 35 #[rv a1, iv pn, iv iq, .val (.int (own_ch (own_gt vs iq.toNatClampNeg)))] [(.int (own_iw (own_ch (own_gt vs iq.toNatClampNeg))))]))
              by_cases hcy15 : (own_iw (own_ch (own_gt vs iq.toNatClampNeg))) = (0 : Int32)
              · refine Fin.step (fun _ k => Yo.ifNo Xy14.here hx (hb hby d24_35) rfl ((if0 _ _).trans (teq (hcy15 : ((own_iw (own_ch (own_gt vs iq.toNatClampNeg))) = (0 : Int32)))).2) (Yo.goto Xy14.here hx (pc0 := 38) (pc' := 47) rfl (hb hby d24_38) (by decide) (by decide) (Yo.iloadN Xy14.here hx (hb hby d24_47) rfl k))) ?_
                refine Fin.retI Xy14 hx hret hlk (hb hby d24_48) (by decide) (by decide) ?_
                show Qix Z a1 kb pn vs ci aa kA h0 n0 _ Ty14.heap _
                rw [eqy14]
                exact ⟨iq, rfl, Ny14, pqy2, ⟨hi0, hi1, hall, fun q => (fun q => q.elim hcy11 fun q => q.elim hcy12 fun q => q hcy15)⟩⟩
              · refine Fin.step (fun _ k => Yo.ifYes Xy14.here hx (pc0 := 35) (pc' := 41) rfl (hb hby d24_35) rfl ((if0 _ _).trans (feq (hcy15 : ¬ ((own_iw (own_ch (own_gt vs iq.toNatClampNeg))) = (0 : Int32)))).2) (by decide) (by decide) (Yo.iinc Xy14.here hx (hb hby d24_41) rfl (l' := #[rv a1, iv pn, .val (.int (iq + (1 : Int32))), .val (.int (own_ch (own_gt vs iq.toNatClampNeg)))]) rfl k)) ?_
                show Fin p e below s _ _ _ (Ty14.setTop (mkF m 44 #[rv a1, iv pn, .val (.int (iq + (1 : Int32))), .val (.int (own_ch (own_gt vs iq.toNatClampNeg)))] []))
                refine Fin.step (fun _ k => Yo.goto Xy14.here hx (pc0 := 44) (pc' := 5) rfl (hb hby d24_44) (by decide) (by decide) k) ?_
                exact ih _ (by rw [← mry2]; exact G.2.2.2.2.1) _ _ _ (iq + (1 : Int32)) _ rfl Xy14 eqy14 Ny14 Zy2 Ky2 fy2_0 fy2_1 fy2_2 fy2_3 fy2_4 G.2.1 G.2.2.1 (own_up hi0 (Int.le_trans hi1 hn.2) hall (Or.inr (Or.inr hcy15))) (Or.inr ⟨_, rfl⟩) pqy2
      · refine Fin.step (fun _ k => Yo.icmpYes Xy2.here hx (pc0 := 7) (pc' := 47) rfl (hb hby d24_7) rfl (flt (hcy3 : ¬ (iq < pn))).2.1 (by decide) (by decide) (Yo.iloadN Xy2.here hx (hb hby d24_47) rfl k)) ?_
        refine Fin.retI Xy2 hx hret hlk (hb hby d24_48) (by decide) (by decide) ?_
        show Qix Z a1 kb pn vs ci aa kA h0 n0 _ Ty2.heap _
        rw [ey2]
        exact ⟨iq, rfl, Ny2, pqy2, ⟨hi0, hi1, hall, fun q => absurd q hcy3⟩⟩
  exact loop _ _ _ _ (0 : Int32) _ rfl X0 e0 N0 Z0 K0 HV_a1 HS_java_lang_CharacterDataLatin1_instance HE_ci HS_java_lang_CharacterDataLatin1_A HV_aa (by decide) hn.1 (fun k hk => absurd hk (Nat.not_lt_zero k)) (Or.inl rfl) rfl
theorem pn_28 : plainName "java/lang/StringLatin1" = true := by first | (simp [plainName, overriddenIn]; done) | decide +kernel
theorem d28_0 : decode jdk_43_method_38_code 0 = .ok (.aload_n 0, 1) := by decide +kernel
theorem d28_1 : decode jdk_43_method_38_code 1 = .ok (.arraylength, 1) := by decide +kernel
theorem d28_2 : decode jdk_43_method_38_code 2 = .ok (.istore_n 1, 1) := by decide +kernel
theorem d28_3 : decode jdk_43_method_38_code 3 = .ok (.iload_n 1, 1) := by decide +kernel
theorem d28_4 : decode jdk_43_method_38_code 4 = .ok (.istore_n 2, 1) := by decide +kernel
theorem d28_5 : decode jdk_43_method_38_code 5 = .ok (.iconst 0, 1) := by decide +kernel
theorem d28_6 : decode jdk_43_method_38_code 6 = .ok (.iload_n 2, 1) := by decide +kernel
theorem d28_7 : decode jdk_43_method_38_code 7 = .ok (.if_icmp .ge 42, 3) := by decide +kernel
theorem d28_10 : decode jdk_43_method_38_code 10 = .ok (.aload_n 0, 1) := by decide +kernel
theorem d28_11 : decode jdk_43_method_38_code 11 = .ok (.iload_n 2, 1) := by decide +kernel
theorem d28_12 : decode jdk_43_method_38_code 12 = .ok (.iconst 1, 1) := by decide +kernel
theorem d28_13 : decode jdk_43_method_38_code 13 = .ok (.isub, 1) := by decide +kernel
theorem d28_14 : decode jdk_43_method_38_code 14 = .ok (.invokestatic 50, 3) := by decide +kernel
theorem d28_17 : decode jdk_43_method_38_code 17 = .ok (.istore_n 3, 1) := by decide +kernel
theorem d28_18 : decode jdk_43_method_38_code 18 = .ok (.iload_n 3, 1) := by decide +kernel
theorem d28_19 : decode jdk_43_method_38_code 19 = .ok (.bipush 32, 2) := by decide +kernel
theorem d28_21 : decode jdk_43_method_38_code 21 = .ok (.if_icmp .eq 22, 3) := by decide +kernel
theorem d28_43 : decode jdk_43_method_38_code 43 = .ok (.iinc 2 (-1), 3) := by decide +kernel
theorem d28_46 : decode jdk_43_method_38_code 46 = .ok (.goto (-41), 3) := by decide +kernel
theorem d28_24 : decode jdk_43_method_38_code 24 = .ok (.iload_n 3, 1) := by decide +kernel
theorem d28_25 : decode jdk_43_method_38_code 25 = .ok (.bipush 9, 2) := by decide +kernel
theorem d28_27 : decode jdk_43_method_38_code 27 = .ok (.if_icmp .eq 16, 3) := by decide +kernel
theorem d28_30 : decode jdk_43_method_38_code 30 = .ok (.getstatic 66, 3) := by decide +kernel
theorem d28_33 : decode jdk_43_method_38_code 33 = .ok (.iload_n 3, 1) := by decide +kernel
theorem d28_34 : decode jdk_43_method_38_code 34 = .ok (.invokevirtual 211, 3) := by decide +kernel
theorem d28_37 : decode jdk_43_method_38_code 37 = .ok (.ifCond .ne 6, 3) := by decide +kernel
theorem d28_40 : decode jdk_43_method_38_code 40 = .ok (.goto 9, 3) := by decide +kernel
theorem d28_49 : decode jdk_43_method_38_code 49 = .ok (.iload_n 2, 1) := by decide +kernel
theorem d28_50 : decode jdk_43_method_38_code 50 = .ok (.ireturn, 1) := by decide +kernel
theorem ef_rmlx (m : MethodId) (x0 : Addr) : entryFrame m #[(.ref x0)] 4 = mkF m 0 #[.val (.ref x0), .unset, .unset, .unset] [] := by first | (simp [entryFrame, mkF, argsToLocals, Value.category]; done) | rfl
abbrev R_rmlx : Room := ({ frames := 2, cells := 0, slots := 0, locals := 29 } : Room)
def Qlx (Z : State) (a1 : Addr) (kb : ClassId) (pn : Int32) (vs : List Value) (ci aa : Addr) (kA : ClassId) (h0 : Heap) (n0 : Nat) (v : Option Value) (h : Heap) (L : List Loc) : Prop := ∃ pl : Int32, v = some (.int pl) ∧ Fr n0 L ∧ h = h0 ∧ own_lxs pn vs pl
set_option maxRecDepth 65536 in
set_option maxHeartbeats 40000000 in
theorem rmlx (l : Launch) (Z : State) (a0 : Array Value) (hw : ∀ d ∈ tables_1, d.before a0 Z = true) (ws : List Jvm.Cond) (a1 : Addr) (kb : ClassId) (pn : Int32) (vs : List Value) (ci aa : Addr) (kA : ClassId) (h0 : Heap) (n0 : Nat) (Z0 : n0 ≤ h0.size) (HV_a1 : Arv Z h0 a1 kb .byte pn vs (.int 0)) (HS_java_lang_CharacterDataLatin1_instance : Sta Z h0 q4 "instance" "Ljava/lang/CharacterDataLatin1;" (.ref ci)) (HE_ci : Exa Z h0 ci q4) (HS_java_lang_CharacterDataLatin1_A : Sta Z h0 q4 "A" "[I" (.ref aa)) (HV_aa : Arv Z h0 aa kA .int (256 : Int32) own_AL (.int 0)) (hn : 0 ≤ pn.toInt ∧ pn.toInt ≤ 8) (hcv : own_chs vs) :
    Met1 l n28 jdk_43_method_38_code 4 (some .int) ws R_rmlx #[(.ref a1)] Z h0 (Qlx Z a1 kb pn vs ci aa kA h0 n0) := by
  refine Met1.enter (plainFor_of_name pn_28) (fun m => ef_rmlx m a1) fun p e s m below meth c s₁ hx hby hlk hret hml hown hnm hZ X0 e0 => ?_
  have N0 := Fr.nil n0
  have K0 : Keep h0 h0 [] := Keep.refl h0 _
  show Fin p e below s _ _ _ (s₁.setTop (mkF m 0 #[rv a1, u_, u_, u_] []))
  refine Fin.step (fun _ k => Yo.aloadN X0.here hx (hb hby d28_0) rfl rfl k) ?_
  have voy1 := HV_a1
  obtain ⟨cly1, Ary1, qay1, say1, nay1, hay1, gay1⟩ := voy1
  refine Fin.step (X0.arraylength hx (by rw [e0]; exact Ary1.1) (State.isArrayOf_alike hZ.alike Ary1.2.1) (g := (mkF m 1 #[rv a1, u_, u_, u_] [(.ref a1)])) rfl rfl (hb hby d28_1)) ?_
  rw [len_of say1 nay1]
  show Fin p e below s _ _ _ (s₁.setTop (mkF m 2 #[rv a1, u_, u_, u_] [(.int pn)]))
  refine Fin.step (fun _ k => Yo.istoreN X0.here hx (hb hby d28_2) rfl (l' := #[rv a1, iv pn, u_, u_]) rfl (Yo.iloadN X0.here hx (hb hby d28_3) rfl (Yo.istoreN X0.here hx (hb hby d28_4) rfl (l' := #[rv a1, iv pn, iv pn, u_]) rfl k))) ?_
  have loop : ∀ (r : Nat) (Ty2 : State) (hy2 : Heap) (Ly2 : List Loc) (iq : Int32) (cq : Slot) (mry2 : iq.toNatClampNeg = r) (Xy2 : Stand p l e R_rmlx s m #[(.ref a1)] below meth c Ty2 Ly2 0 0) (ey2 : Ty2.heap = hy2) (Ny2 : Fr n0 Ly2) (Zy2 : n0 ≤ hy2.size) (Ky2 : Keep h0 hy2 []) (fy2_0 : Arv Z hy2 a1 kb .byte pn vs (.int 0)) (fy2_1 : Sta Z hy2 q4 "instance" "Ljava/lang/CharacterDataLatin1;" (.ref ci)) (fy2_2 : Exa Z hy2 ci q4) (fy2_3 : Sta Z hy2 q4 "A" "[I" (.ref aa)) (fy2_4 : Arv Z hy2 aa kA .int (256 : Int32) own_AL (.int 0)) (hi0 : 0 ≤ iq.toInt) (hi1 : iq.toInt ≤ pn.toInt) (hall : ∀ k, iq.toNatClampNeg ≤ k → k < pn.toNatClampNeg → own_wb (own_gt vs k)) (hcq : cq = u_ ∨ ∃ z : Int32, cq = iv z) (pqy2 : hy2 = h0), Fin p e below s (Qlx Z a1 kb pn vs ci aa kA h0 n0) R_rmlx.cells R_rmlx.slots (Ty2.setTop (mkF m 5 #[rv a1, iv pn, iv iq, cq] [])) := by
    intro r
    induction r using Nat.strongRecOn with
    | _ r ih =>
      intro Ty2 hy2 Ly2 iq cq mry2 Xy2 ey2 Ny2 Zy2 Ky2 fy2_0 fy2_1 fy2_2 fy2_3 fy2_4 hi0 hi1 hall hcq pqy2
      refine Fin.step (fun _ k => Yo.iconst Xy2.here hx (hb hby d28_5) (Yo.iloadN Xy2.here hx (hb hby d28_6) rfl k)) ?_
      by_cases hcy3 : (0 : Int32) < iq
      · refine Fin.step (fun _ k => Yo.icmpNo Xy2.here hx (hb hby d28_7) rfl (tlt (hcy3 : ((0 : Int32) < iq))).2.1 k) ?_
        rcases hcq with rfl | ⟨cz, rfl⟩
        · show Fin p e below s _ _ _ (Ty2.setTop (mkF m 10 #[rv a1, iv pn, iv iq, u_] []))
          have G := own_dn hn.2 hi1 hcy3
          refine Fin.step (fun _ k => Yo.aloadN Xy2.here hx (hb hby d28_10) rfl rfl (Yo.iloadN Xy2.here hx (hb hby d28_11) rfl (Yo.iconst Xy2.here hx (hb hby d28_12) (Yo.isub Xy2.here hx (hb hby d28_13) rfl k)))) ?_
          show Fin p e below s _ _ _ (Ty2.setTop (mkF m 14 #[rv a1, iv pn, iv iq, u_] [(.int (iq - (1 : Int32))), (.ref a1)]))
          obtain ⟨_, Ty4, Lcy4, Xy4, hQy4, sty4⟩ := packS (Jvm.LawKit.callS Xy2 hx (y := n25) hown (mvT hZ (W_ hw 114)) (mvT hZ (W_ hw 115)) (mvT hZ (W_ hw 41)) (mvT hZ (W_ hw 116)) (by decide) (backOf (W := 0) (rmgc l Z a0 hw [] a1 (iq - (1 : Int32)) kb pn vs hy2 n0 Zy2 fy2_0 hcv G.1) hZ (W_ hw 116) (W_ hw 41) (by decide) (by decide)) (g := (mkF m 14 #[rv a1, iv pn, iv iq, u_] [(.int (iq - (1 : Int32))), (.ref a1)])) rfl (by rw [hml]; rfl) (argsL := [(.ref a1), (.int (iq - (1 : Int32)))]) (rest := []) (lenOf pd_12 rfl) rfl (lb rfl) (hb hby d28_14) (fun _ _ => ⟨rfl, ey2, (by decide : 0 + 0 ≤ _), (by decide : 0 + 0 ≤ _)⟩))
          obtain ⟨rfl, Nqy4, eqy4⟩ := hQy4
          have Ny4 := Fr.app Ny2 Nqy4
          refine Fin.step (sty4) ?_
          show Fin p e below s _ _ _ (Ty4.setTop (mkF m 17 #[rv a1, iv pn, iv iq, u_] [(.int (own_ch (own_gt vs (iq - (1 : Int32)).toNatClampNeg)))]))
          refine Fin.step (fun _ k => Yo.istoreN Xy4.here hx (hb hby d28_17) rfl (l' := #[rv a1, iv pn, iv iq, .val (.int (own_ch (own_gt vs (iq - (1 : Int32)).toNatClampNeg)))]) rfl (Yo.iloadN Xy4.here hx (hb hby d28_18) rfl (Yo.bipush Xy4.here hx (hb hby d28_19) k))) ?_
          by_cases hcy5 : (own_ch (own_gt vs (iq - (1 : Int32)).toNatClampNeg)) = (32 : Int32)
          · refine Fin.step (fun _ k => Yo.icmpYes Xy4.here hx (pc0 := 21) (pc' := 43) rfl (hb hby d28_21) rfl (teq (hcy5 : ((own_ch (own_gt vs (iq - (1 : Int32)).toNatClampNeg)) = (32 : Int32)))).1 (by decide) (by decide) (Yo.iinc Xy4.here hx (hb hby d28_43) rfl (l' := #[rv a1, iv pn, .val (.int (iq + (-1 : Int32))), .val (.int (own_ch (own_gt vs (iq - (1 : Int32)).toNatClampNeg)))]) rfl k)) ?_
            show Fin p e below s _ _ _ (Ty4.setTop (mkF m 46 #[rv a1, iv pn, .val (.int (iq + (-1 : Int32))), .val (.int (own_ch (own_gt vs (iq - (1 : Int32)).toNatClampNeg)))] []))
            rw [G.2.2.2.2.2]
            show Fin p e below s _ _ _ (Ty4.setTop (mkF m 46 #[rv a1, iv pn, .val (.int (iq - (1 : Int32))), .val (.int (own_ch (own_gt vs (iq - (1 : Int32)).toNatClampNeg)))] []))
            refine Fin.step (fun _ k => Yo.goto Xy4.here hx (pc0 := 46) (pc' := 5) rfl (hb hby d28_46) (by decide) (by decide) k) ?_
            exact ih _ (by rw [← mry2]; exact G.2.2.2.2.1) _ _ _ (iq - (1 : Int32)) _ rfl Xy4 eqy4 Ny4 Zy2 Ky2 fy2_0 fy2_1 fy2_2 fy2_3 fy2_4 G.2.1 G.2.2.1 (own_down hn.2 hi1 hcy3 hall (Or.inl hcy5)) (Or.inr ⟨_, rfl⟩) pqy2
          · refine Fin.step (fun _ k => Yo.icmpNo Xy4.here hx (hb hby d28_21) rfl (feq (hcy5 : ¬ ((own_ch (own_gt vs (iq - (1 : Int32)).toNatClampNeg)) = (32 : Int32)))).1 (Yo.iloadN Xy4.here hx (hb hby d28_24) rfl (Yo.bipush Xy4.here hx (hb hby d28_25) k))) ?_
            by_cases hcy6 : (own_ch (own_gt vs (iq - (1 : Int32)).toNatClampNeg)) = (9 : Int32)
            · refine Fin.step (fun _ k => Yo.icmpYes Xy4.here hx (pc0 := 27) (pc' := 43) rfl (hb hby d28_27) rfl (teq (hcy6 : ((own_ch (own_gt vs (iq - (1 : Int32)).toNatClampNeg)) = (9 : Int32)))).1 (by decide) (by decide) (Yo.iinc Xy4.here hx (hb hby d28_43) rfl (l' := #[rv a1, iv pn, .val (.int (iq + (-1 : Int32))), .val (.int (own_ch (own_gt vs (iq - (1 : Int32)).toNatClampNeg)))]) rfl k)) ?_
              show Fin p e below s _ _ _ (Ty4.setTop (mkF m 46 #[rv a1, iv pn, .val (.int (iq + (-1 : Int32))), .val (.int (own_ch (own_gt vs (iq - (1 : Int32)).toNatClampNeg)))] []))
              rw [G.2.2.2.2.2]
              show Fin p e below s _ _ _ (Ty4.setTop (mkF m 46 #[rv a1, iv pn, .val (.int (iq - (1 : Int32))), .val (.int (own_ch (own_gt vs (iq - (1 : Int32)).toNatClampNeg)))] []))
              refine Fin.step (fun _ k => Yo.goto Xy4.here hx (pc0 := 46) (pc' := 5) rfl (hb hby d28_46) (by decide) (by decide) k) ?_
              exact ih _ (by rw [← mry2]; exact G.2.2.2.2.1) _ _ _ (iq - (1 : Int32)) _ rfl Xy4 eqy4 Ny4 Zy2 Ky2 fy2_0 fy2_1 fy2_2 fy2_3 fy2_4 G.2.1 G.2.2.1 (own_down hn.2 hi1 hcy3 hall (Or.inr (Or.inl hcy6))) (Or.inr ⟨_, rfl⟩) pqy2
            · refine Fin.step (fun _ k => Yo.icmpNo Xy4.here hx (hb hby d28_27) rfl (feq (hcy6 : ¬ ((own_ch (own_gt vs (iq - (1 : Int32)).toNatClampNeg)) = (9 : Int32)))).1 k) ?_
              obtain ⟨Ty7, Xy7, ey7, sty7⟩ := getS2 Xy4 hx hZ hown (host := "") (Or.inl (W_ hw 117)) Via.refl eqy4 fy2_1 (g := (mkF m 30 #[rv a1, iv pn, iv iq, .val (.int (own_ch (own_gt vs (iq - (1 : Int32)).toNatClampNeg)))] [])) rfl (hb hby d28_30)
              refine Fin.step (sty7) ?_
              show Fin p e below s _ _ _ (Ty7.setTop (mkF m 33 #[rv a1, iv pn, iv iq, .val (.int (own_ch (own_gt vs (iq - (1 : Int32)).toNatClampNeg)))] [(.ref ci)]))
              refine Fin.step (fun _ k => Yo.iloadN Xy7.here hx (hb hby d28_33) rfl k) ?_
              obtain ⟨cqy8, kqy8, qy8a, qy8b, qy8c⟩ := isOf hZ ey7 fy2_2
              obtain ⟨_, Ty8, Lcy8, Xy8, hQy8, sty8⟩ := pack (Xy7.virtualBack hx (y := n26) (z := n26) hown (mvT hZ (W_ hw 119)) (mvT hZ (W_ hw 120)) (notFace_of_selects (args := #[]) (mvT hZ (W_ hw 122))) (mvT hZ (W_ hw 122)) (mvT hZ (W_ hw 121)) (by decide) (backOf (W := 0) (rmiw l Z a0 hw [] ci (own_ch (own_gt vs (iq - (1 : Int32)).toNatClampNeg)) aa kA hy2 n0 Zy2 fy2_2 fy2_3 fy2_4 (own_chr _)) hZ (W_ hw 123) (W_ hw 118) (by decide) (by decide)) qy8a qy8c (g := (mkF m 34 #[rv a1, iv pn, iv iq, .val (.int (own_ch (own_gt vs (iq - (1 : Int32)).toNatClampNeg)))] [(.int (own_ch (own_gt vs (iq - (1 : Int32)).toNatClampNeg))), (.ref ci)])) rfl (by rw [hml]; rfl) (Steps.refl _) (argsL := [(.int (own_ch (own_gt vs (iq - (1 : Int32)).toNatClampNeg)))]) (rest := []) (lenOf pd_13 rfl) rfl (lb rfl) (hb hby d28_34) (fun _ _ => ⟨rfl, ey7, (by decide : 0 + 0 ≤ _), (by decide : 0 + 0 ≤ _)⟩))
              obtain ⟨rfl, Nqy8, eqy8⟩ := hQy8
              have Ny8 := Fr.app Ny4 Nqy8
              refine Fin.step (sty8) ?_
              show Fin p e below s _ _ _ (Ty8.setTop (mkF m 37 #[rv a1, iv pn, iv iq, .val (.int (own_ch (own_gt vs (iq - (1 : Int32)).toNatClampNeg)))] [(.int (own_iw (own_ch (own_gt vs (iq - (1 : Int32)).toNatClampNeg))))]))
              by_cases hcy9 : (own_iw (own_ch (own_gt vs (iq - (1 : Int32)).toNatClampNeg))) = (0 : Int32)
              · refine Fin.step (fun _ k => Yo.ifNo Xy8.here hx (hb hby d28_37) rfl ((if0 _ _).trans (teq (hcy9 : ((own_iw (own_ch (own_gt vs (iq - (1 : Int32)).toNatClampNeg))) = (0 : Int32)))).2) (Yo.goto Xy8.here hx (pc0 := 40) (pc' := 49) rfl (hb hby d28_40) (by decide) (by decide) (Yo.iloadN Xy8.here hx (hb hby d28_49) rfl k))) ?_
                refine Fin.retI Xy8 hx hret hlk (hb hby d28_50) (by decide) (by decide) ?_
                show Qlx Z a1 kb pn vs ci aa kA h0 n0 _ Ty8.heap _
                rw [eqy8]
                exact ⟨iq, rfl, Ny8, pqy2, ⟨hi0, hi1, hall, fun q => (by rw [← G.2.2.2.1]; exact (fun q => q.elim hcy5 fun q => q.elim hcy6 fun q => q hcy9))⟩⟩
              · refine Fin.step (fun _ k => Yo.ifYes Xy8.here hx (pc0 := 37) (pc' := 43) rfl (hb hby d28_37) rfl ((if0 _ _).trans (feq (hcy9 : ¬ ((own_iw (own_ch (own_gt vs (iq - (1 : Int32)).toNatClampNeg))) = (0 : Int32)))).2) (by decide) (by decide) (Yo.iinc Xy8.here hx (hb hby d28_43) rfl (l' := #[rv a1, iv pn, .val (.int (iq + (-1 : Int32))), .val (.int (own_ch (own_gt vs (iq - (1 : Int32)).toNatClampNeg)))]) rfl k)) ?_
                show Fin p e below s _ _ _ (Ty8.setTop (mkF m 46 #[rv a1, iv pn, .val (.int (iq + (-1 : Int32))), .val (.int (own_ch (own_gt vs (iq - (1 : Int32)).toNatClampNeg)))] []))
                rw [G.2.2.2.2.2]
                show Fin p e below s _ _ _ (Ty8.setTop (mkF m 46 #[rv a1, iv pn, .val (.int (iq - (1 : Int32))), .val (.int (own_ch (own_gt vs (iq - (1 : Int32)).toNatClampNeg)))] []))
                refine Fin.step (fun _ k => Yo.goto Xy8.here hx (pc0 := 46) (pc' := 5) rfl (hb hby d28_46) (by decide) (by decide) k) ?_
                exact ih _ (by rw [← mry2]; exact G.2.2.2.2.1) _ _ _ (iq - (1 : Int32)) _ rfl Xy8 eqy8 Ny8 Zy2 Ky2 fy2_0 fy2_1 fy2_2 fy2_3 fy2_4 G.2.1 G.2.2.1 (own_down hn.2 hi1 hcy3 hall (Or.inr (Or.inr hcy9))) (Or.inr ⟨_, rfl⟩) pqy2
        · show Fin p e below s _ _ _ (Ty2.setTop (mkF m 10 #[rv a1, iv pn, iv iq, iv cz] []))
          have G := own_dn hn.2 hi1 hcy3
          refine Fin.step (fun _ k => Yo.aloadN Xy2.here hx (hb hby d28_10) rfl rfl (Yo.iloadN Xy2.here hx (hb hby d28_11) rfl (Yo.iconst Xy2.here hx (hb hby d28_12) (Yo.isub Xy2.here hx (hb hby d28_13) rfl k)))) ?_
          show Fin p e below s _ _ _ (Ty2.setTop (mkF m 14 #[rv a1, iv pn, iv iq, iv cz] [(.int (iq - (1 : Int32))), (.ref a1)]))
          obtain ⟨_, Ty10, Lcy10, Xy10, hQy10, sty10⟩ := packS (Jvm.LawKit.callS Xy2 hx (y := n25) hown (mvT hZ (W_ hw 114)) (mvT hZ (W_ hw 115)) (mvT hZ (W_ hw 41)) (mvT hZ (W_ hw 116)) (by decide) (backOf (W := 0) (rmgc l Z a0 hw [] a1 (iq - (1 : Int32)) kb pn vs hy2 n0 Zy2 fy2_0 hcv G.1) hZ (W_ hw 116) (W_ hw 41) (by decide) (by decide)) (g := (mkF m 14 #[rv a1, iv pn, iv iq, iv cz] [(.int (iq - (1 : Int32))), (.ref a1)])) rfl (by rw [hml]; rfl) (argsL := [(.ref a1), (.int (iq - (1 : Int32)))]) (rest := []) (lenOf pd_12 rfl) rfl (lb rfl) (hb hby d28_14) (fun _ _ => ⟨rfl, ey2, (by decide : 0 + 0 ≤ _), (by decide : 0 + 0 ≤ _)⟩))
          obtain ⟨rfl, Nqy10, eqy10⟩ := hQy10
          have Ny10 := Fr.app Ny2 Nqy10
          refine Fin.step (sty10) ?_
          show Fin p e below s _ _ _ (Ty10.setTop (mkF m 17 #[rv a1, iv pn, iv iq, iv cz] [(.int (own_ch (own_gt vs (iq - (1 : Int32)).toNatClampNeg)))]))
          refine Fin.step (fun _ k => Yo.istoreN Xy10.here hx (hb hby d28_17) rfl (l' := #[rv a1, iv pn, iv iq, .val (.int (own_ch (own_gt vs (iq - (1 : Int32)).toNatClampNeg)))]) rfl (Yo.iloadN Xy10.here hx (hb hby d28_18) rfl (Yo.bipush Xy10.here hx (hb hby d28_19) k))) ?_
          by_cases hcy11 : (own_ch (own_gt vs (iq - (1 : Int32)).toNatClampNeg)) = (32 : Int32)
          · refine Fin.step (fun _ k => Yo.icmpYes Xy10.here hx (pc0 := 21) (pc' := 43) rfl (hb hby d28_21) rfl (teq (hcy11 : ((own_ch (own_gt vs (iq - (1 : Int32)).toNatClampNeg)) = (32 : Int32)))).1 (by decide) (by decide) (Yo.iinc Xy10.here hx (hb hby d28_43) rfl (l' := #[rv a1, iv pn, .val (.int (iq + (-1 : Int32))), .val (.int (own_ch (own_gt vs (iq - (1 : Int32)).toNatClampNeg)))]) rfl k)) ?_
            show Fin p e below s _ _ _ (Ty10.setTop (mkF m 46 #[rv a1, iv pn, .val (.int (iq + (-1 : Int32))), .val (.int (own_ch (own_gt vs (iq - (1 : Int32)).toNatClampNeg)))] []))
            rw [G.2.2.2.2.2]
            show Fin p e below s _ _ _ (Ty10.setTop (mkF m 46 #[rv a1, iv pn, .val (.int (iq - (1 : Int32))), .val (.int (own_ch (own_gt vs (iq - (1 : Int32)).toNatClampNeg)))] []))
            refine Fin.step (fun _ k => Yo.goto Xy10.here hx (pc0 := 46) (pc' := 5) rfl (hb hby d28_46) (by decide) (by decide) k) ?_
            exact ih _ (by rw [← mry2]; exact G.2.2.2.2.1) _ _ _ (iq - (1 : Int32)) _ rfl Xy10 eqy10 Ny10 Zy2 Ky2 fy2_0 fy2_1 fy2_2 fy2_3 fy2_4 G.2.1 G.2.2.1 (own_down hn.2 hi1 hcy3 hall (Or.inl hcy11)) (Or.inr ⟨_, rfl⟩) pqy2
          · refine Fin.step (fun _ k => Yo.icmpNo Xy10.here hx (hb hby d28_21) rfl (feq (hcy11 : ¬ ((own_ch (own_gt vs (iq - (1 : Int32)).toNatClampNeg)) = (32 : Int32)))).1 (Yo.iloadN Xy10.here hx (hb hby d28_24) rfl (Yo.bipush Xy10.here hx (hb hby d28_25) k))) ?_
            by_cases hcy12 : (own_ch (own_gt vs (iq - (1 : Int32)).toNatClampNeg)) = (9 : Int32)
            · refine Fin.step (fun _ k => Yo.icmpYes Xy10.here hx (pc0 := 27) (pc' := 43) rfl (hb hby d28_27) rfl (teq (hcy12 : ((own_ch (own_gt vs (iq - (1 : Int32)).toNatClampNeg)) = (9 : Int32)))).1 (by decide) (by decide) (Yo.iinc Xy10.here hx (hb hby d28_43) rfl (l' := #[rv a1, iv pn, .val (.int (iq + (-1 : Int32))), .val (.int (own_ch (own_gt vs (iq - (1 : Int32)).toNatClampNeg)))]) rfl k)) ?_
              show Fin p e below s _ _ _ (Ty10.setTop (mkF m 46 #[rv a1, iv pn, .val (.int (iq + (-1 : Int32))), .val (.int (own_ch (own_gt vs (iq - (1 : Int32)).toNatClampNeg)))] []))
              rw [G.2.2.2.2.2]
              show Fin p e below s _ _ _ (Ty10.setTop (mkF m 46 #[rv a1, iv pn, .val (.int (iq - (1 : Int32))), .val (.int (own_ch (own_gt vs (iq - (1 : Int32)).toNatClampNeg)))] []))
              refine Fin.step (fun _ k => Yo.goto Xy10.here hx (pc0 := 46) (pc' := 5) rfl (hb hby d28_46) (by decide) (by decide) k) ?_
              exact ih _ (by rw [← mry2]; exact G.2.2.2.2.1) _ _ _ (iq - (1 : Int32)) _ rfl Xy10 eqy10 Ny10 Zy2 Ky2 fy2_0 fy2_1 fy2_2 fy2_3 fy2_4 G.2.1 G.2.2.1 (own_down hn.2 hi1 hcy3 hall (Or.inr (Or.inl hcy12))) (Or.inr ⟨_, rfl⟩) pqy2
            · refine Fin.step (fun _ k => Yo.icmpNo Xy10.here hx (hb hby d28_27) rfl (feq (hcy12 : ¬ ((own_ch (own_gt vs (iq - (1 : Int32)).toNatClampNeg)) = (9 : Int32)))).1 k) ?_
              obtain ⟨Ty13, Xy13, ey13, sty13⟩ := getS2 Xy10 hx hZ hown (host := "") (Or.inl (W_ hw 117)) Via.refl eqy10 fy2_1 (g := (mkF m 30 #[rv a1, iv pn, iv iq, .val (.int (own_ch (own_gt vs (iq - (1 : Int32)).toNatClampNeg)))] [])) rfl (hb hby d28_30)
              refine Fin.step (sty13) ?_
              show Fin p e below s _ _ _ (Ty13.setTop (mkF m 33 #[rv a1, iv pn, iv iq, .val (.int (own_ch (own_gt vs (iq - (1 : Int32)).toNatClampNeg)))] [(.ref ci)]))
              refine Fin.step (fun _ k => Yo.iloadN Xy13.here hx (hb hby d28_33) rfl k) ?_
              obtain ⟨cqy14, kqy14, qy14a, qy14b, qy14c⟩ := isOf hZ ey13 fy2_2
              obtain ⟨_, Ty14, Lcy14, Xy14, hQy14, sty14⟩ := pack (Xy13.virtualBack hx (y := n26) (z := n26) hown (mvT hZ (W_ hw 119)) (mvT hZ (W_ hw 120)) (notFace_of_selects (args := #[]) (mvT hZ (W_ hw 122))) (mvT hZ (W_ hw 122)) (mvT hZ (W_ hw 121)) (by decide) (backOf (W := 0) (rmiw l Z a0 hw [] ci (own_ch (own_gt vs (iq - (1 : Int32)).toNatClampNeg)) aa kA hy2 n0 Zy2 fy2_2 fy2_3 fy2_4 (own_chr _)) hZ (W_ hw 123) (W_ hw 118) (by decide) (by decide)) qy14a qy14c (g := (mkF m 34 #[rv a1, iv pn, iv iq, .val (.int (own_ch (own_gt vs (iq - (1 : Int32)).toNatClampNeg)))] [(.int (own_ch (own_gt vs (iq - (1 : Int32)).toNatClampNeg))), (.ref ci)])) rfl (by rw [hml]; rfl) (Steps.refl _) (argsL := [(.int (own_ch (own_gt vs (iq - (1 : Int32)).toNatClampNeg)))]) (rest := []) (lenOf pd_13 rfl) rfl (lb rfl) (hb hby d28_34) (fun _ _ => ⟨rfl, ey13, (by decide : 0 + 0 ≤ _), (by decide : 0 + 0 ≤ _)⟩))
              obtain ⟨rfl, Nqy14, eqy14⟩ := hQy14
              have Ny14 := Fr.app Ny10 Nqy14
              refine Fin.step (sty14) ?_
              show Fin p e below s _ _ _ (Ty14.setTop (mkF m 37 #[rv a1, iv pn, iv iq, .val (.int (own_ch (own_gt vs (iq - (1 : Int32)).toNatClampNeg)))] [(.int (own_iw (own_ch (own_gt vs (iq - (1 : Int32)).toNatClampNeg))))]))
              by_cases hcy15 : (own_iw (own_ch (own_gt vs (iq - (1 : Int32)).toNatClampNeg))) = (0 : Int32)
              · refine Fin.step (fun _ k => Yo.ifNo Xy14.here hx (hb hby d28_37) rfl ((if0 _ _).trans (teq (hcy15 : ((own_iw (own_ch (own_gt vs (iq - (1 : Int32)).toNatClampNeg))) = (0 : Int32)))).2) (Yo.goto Xy14.here hx (pc0 := 40) (pc' := 49) rfl (hb hby d28_40) (by decide) (by decide) (Yo.iloadN Xy14.here hx (hb hby d28_49) rfl k))) ?_
                refine Fin.retI Xy14 hx hret hlk (hb hby d28_50) (by decide) (by decide) ?_
                show Qlx Z a1 kb pn vs ci aa kA h0 n0 _ Ty14.heap _
                rw [eqy14]
                exact ⟨iq, rfl, Ny14, pqy2, ⟨hi0, hi1, hall, fun q => (by rw [← G.2.2.2.1]; exact (fun q => q.elim hcy11 fun q => q.elim hcy12 fun q => q hcy15))⟩⟩
              · refine Fin.step (fun _ k => Yo.ifYes Xy14.here hx (pc0 := 37) (pc' := 43) rfl (hb hby d28_37) rfl ((if0 _ _).trans (feq (hcy15 : ¬ ((own_iw (own_ch (own_gt vs (iq - (1 : Int32)).toNatClampNeg))) = (0 : Int32)))).2) (by decide) (by decide) (Yo.iinc Xy14.here hx (hb hby d28_43) rfl (l' := #[rv a1, iv pn, .val (.int (iq + (-1 : Int32))), .val (.int (own_ch (own_gt vs (iq - (1 : Int32)).toNatClampNeg)))]) rfl k)) ?_
                show Fin p e below s _ _ _ (Ty14.setTop (mkF m 46 #[rv a1, iv pn, .val (.int (iq + (-1 : Int32))), .val (.int (own_ch (own_gt vs (iq - (1 : Int32)).toNatClampNeg)))] []))
                rw [G.2.2.2.2.2]
                show Fin p e below s _ _ _ (Ty14.setTop (mkF m 46 #[rv a1, iv pn, .val (.int (iq - (1 : Int32))), .val (.int (own_ch (own_gt vs (iq - (1 : Int32)).toNatClampNeg)))] []))
                refine Fin.step (fun _ k => Yo.goto Xy14.here hx (pc0 := 46) (pc' := 5) rfl (hb hby d28_46) (by decide) (by decide) k) ?_
                exact ih _ (by rw [← mry2]; exact G.2.2.2.2.1) _ _ _ (iq - (1 : Int32)) _ rfl Xy14 eqy14 Ny14 Zy2 Ky2 fy2_0 fy2_1 fy2_2 fy2_3 fy2_4 G.2.1 G.2.2.1 (own_down hn.2 hi1 hcy3 hall (Or.inr (Or.inr hcy15))) (Or.inr ⟨_, rfl⟩) pqy2
      · refine Fin.step (fun _ k => Yo.icmpYes Xy2.here hx (pc0 := 7) (pc' := 49) rfl (hb hby d28_7) rfl (flt (hcy3 : ¬ ((0 : Int32) < iq))).2.1 (by decide) (by decide) (Yo.iloadN Xy2.here hx (hb hby d28_49) rfl k)) ?_
        refine Fin.retI Xy2 hx hret hlk (hb hby d28_50) (by decide) (by decide) ?_
        show Qlx Z a1 kb pn vs ci aa kA h0 n0 _ Ty2.heap _
        rw [ey2]
        exact ⟨iq, rfl, Ny2, pqy2, ⟨hi0, hi1, hall, fun q => absurd q hcy3⟩⟩
  exact loop _ _ _ _ pn _ rfl X0 e0 N0 Z0 K0 HV_a1 HS_java_lang_CharacterDataLatin1_instance HE_ci HS_java_lang_CharacterDataLatin1_A HV_aa hn.1 (Int.le_refl _) (fun k a b => absurd b (by omega)) (Or.inl rfl) rfl
theorem pn_37 : plainName "java/util/Arrays" = true := by first | (simp [plainName, overriddenIn]; done) | decide +kernel
theorem d37_0 : decode jdk_65_method_131_code 0 = .ok (.iload_n 1, 1) := by decide +kernel
theorem d37_1 : decode jdk_65_method_131_code 1 = .ok (.iload_n 0, 1) := by decide +kernel
theorem d37_2 : decode jdk_65_method_131_code 2 = .ok (.if_icmp .ge 35, 3) := by decide +kernel
theorem d37_37 : decode jdk_65_method_131_code 37 = .ok (.return_, 1) := by decide +kernel
theorem ef_rmcl (m : MethodId) (x0 : Int32) (x1 : Int32) : entryFrame m #[(.int x0), (.int x1)] 2 = mkF m 0 #[.val (.int x0), .val (.int x1)] [] := by first | (simp [entryFrame, mkF, argsToLocals, Value.category]; done) | rfl
abbrev R_rmcl : Room := ({ frames := 0, cells := 0, slots := 0, locals := 0 } : Room)
def Qcl (Z : State) (pi pt : Int32) (h0 : Heap) (n0 : Nat) (v : Option Value) (h : Heap) (L : List Loc) : Prop := v = none ∧ Fr n0 L ∧ h = h0
set_option maxRecDepth 65536 in
set_option maxHeartbeats 40000000 in
theorem rmcl (l : Launch) (Z : State) (a0 : Array Value) (hw : ∀ d ∈ tables_1, d.before a0 Z = true) (ws : List Jvm.Cond) (pi pt : Int32) (h0 : Heap) (n0 : Nat) (Z0 : n0 ≤ h0.size) (h1 : ¬ pt < pi) :
    Met1 l n37 jdk_65_method_131_code 2 none ws R_rmcl #[(.int pi), (.int pt)] Z h0 (Qcl Z pi pt h0 n0) := by
  refine Met1.enter (plainFor_of_name pn_37) (fun m => ef_rmcl m pi pt) fun p e s m below meth c s₁ hx hby hlk hret hml hown hnm hZ X0 e0 => ?_
  have N0 := Fr.nil n0
  have K0 : Keep h0 h0 [] := Keep.refl h0 _
  show Fin p e below s _ _ _ (s₁.setTop (mkF m 0 #[iv pi, iv pt] []))
  refine Fin.step (fun _ k => Yo.iloadN X0.here hx (hb hby d37_0) rfl (Yo.iloadN X0.here hx (hb hby d37_1) rfl (Yo.icmpYes X0.here hx (pc0 := 2) (pc' := 37) rfl (hb hby d37_2) rfl (flt (h1 : ¬ (pt < pi))).2.1 (by decide) (by decide) k))) ?_
  refine Fin.retV X0 hx hret hlk (hb hby d37_37) (by decide) (by decide) ?_
  show Qcl Z pi pt h0 n0 _ s₁.heap _
  rw [e0]
  exact ⟨rfl, N0, rfl⟩
theorem d38_0 : decode jdk_29_method_69_code 0 = .ok (.iload_n 0, 1) := by decide +kernel
theorem d38_1 : decode jdk_29_method_69_code 1 = .ok (.iload_n 1, 1) := by decide +kernel
theorem d38_2 : decode jdk_29_method_69_code 2 = .ok (.if_icmp .gt 7, 3) := by decide +kernel
theorem d38_9 : decode jdk_29_method_69_code 9 = .ok (.iload_n 1, 1) := by decide +kernel
theorem d38_10 : decode jdk_29_method_69_code 10 = .ok (.ireturn, 1) := by decide +kernel
theorem d38_5 : decode jdk_29_method_69_code 5 = .ok (.iload_n 0, 1) := by decide +kernel
theorem d38_6 : decode jdk_29_method_69_code 6 = .ok (.goto 4, 3) := by decide +kernel
theorem ef_rmmin (m : MethodId) (x0 : Int32) (x1 : Int32) : entryFrame m #[(.int x0), (.int x1)] 2 = mkF m 0 #[.val (.int x0), .val (.int x1)] [] := by first | (simp [entryFrame, mkF, argsToLocals, Value.category]; done) | rfl
abbrev R_rmmin : Room := ({ frames := 0, cells := 0, slots := 0, locals := 0 } : Room)
def Qmin (Z : State) (p1 p2 : Int32) (h0 : Heap) (n0 : Nat) (v : Option Value) (h : Heap) (L : List Loc) : Prop := v = some (.int p2) ∧ Fr n0 L ∧ h = h0
set_option maxRecDepth 65536 in
set_option maxHeartbeats 40000000 in
theorem rmmin (l : Launch) (Z : State) (a0 : Array Value) (hw : ∀ d ∈ tables_1, d.before a0 Z = true) (ws : List Jvm.Cond) (p1 p2 : Int32) (h0 : Heap) (n0 : Nat) (Z0 : n0 ≤ h0.size) (h1 : ¬ p2 < p1 → p1 = p2) :
    Met1 l n38 jdk_29_method_69_code 2 (some .int) ws R_rmmin #[(.int p1), (.int p2)] Z h0 (Qmin Z p1 p2 h0 n0) := by
  refine Met1.enter (Jvm.Free.JP.mathPlain rfl (by decide +kernel)) (fun m => ef_rmmin m p1 p2) fun p e s m below meth c s₁ hx hby hlk hret hml hown hnm hZ X0 e0 => ?_
  have N0 := Fr.nil n0
  have K0 : Keep h0 h0 [] := Keep.refl h0 _
  show Fin p e below s _ _ _ (s₁.setTop (mkF m 0 #[iv p1, iv p2] []))
  refine Fin.step (fun _ k => Yo.iloadN X0.here hx (hb hby d38_0) rfl (Yo.iloadN X0.here hx (hb hby d38_1) rfl k)) ?_
  by_cases hcy1 : p2 < p1
  · refine Fin.step (fun _ k => Yo.icmpYes X0.here hx (pc0 := 2) (pc' := 9) rfl (hb hby d38_2) rfl (tlt (hcy1 : (p2 < p1))).2.2.1 (by decide) (by decide) (Yo.iloadN X0.here hx (hb hby d38_9) rfl k)) ?_
    refine Fin.retI X0 hx hret hlk (hb hby d38_10) (by decide) (by decide) ?_
    show Qmin Z p1 p2 h0 n0 _ s₁.heap _
    rw [e0]
    exact ⟨rfl, N0, rfl⟩
  · refine Fin.step (fun _ k => Yo.icmpNo X0.here hx (hb hby d38_2) rfl (flt (hcy1 : ¬ (p2 < p1))).2.2.1 (Yo.iloadN X0.here hx (hb hby d38_5) rfl (Yo.goto X0.here hx (pc0 := 6) (pc' := 10) rfl (hb hby d38_6) (by decide) (by decide) k))) ?_
    refine Fin.retI X0 hx hret hlk (hb hby d38_10) (by decide) (by decide) ?_
    show Qmin Z p1 p2 h0 n0 _ s₁.heap _
    rw [e0]
    exact ⟨(congrArg (fun z => some (Value.int z)) (h1 hcy1)), N0, rfl⟩
theorem pn_36 : plainName "java/util/Arrays" = true := by first | (simp [plainName, overriddenIn]; done) | decide +kernel
theorem d36_0 : decode jdk_65_method_133_code 0 = .ok (.iload_n 1, 1) := by decide +kernel
theorem d36_1 : decode jdk_65_method_133_code 1 = .ok (.iload_n 2, 1) := by decide +kernel
theorem d36_2 : decode jdk_65_method_133_code 2 = .ok (.invokestatic 343, 3) := by decide +kernel
theorem pd_14 : parseMethodDescriptor "(II)V" = some ⟨[.int, .int], none⟩ := by decide +kernel
theorem d36_5 : decode jdk_65_method_133_code 5 = .ok (.iload_n 2, 1) := by decide +kernel
theorem d36_6 : decode jdk_65_method_133_code 6 = .ok (.iload_n 1, 1) := by decide +kernel
theorem d36_7 : decode jdk_65_method_133_code 7 = .ok (.isub, 1) := by decide +kernel
theorem d36_8 : decode jdk_65_method_133_code 8 = .ok (.istore_n 3, 1) := by decide +kernel
theorem d36_9 : decode jdk_65_method_133_code 9 = .ok (.iload_n 3, 1) := by decide +kernel
theorem d36_10 : decode jdk_65_method_133_code 10 = .ok (.newarray .byte, 2) := by decide +kernel
theorem d36_12 : decode jdk_65_method_133_code 12 = .ok (.astore 4, 2) := by decide +kernel
theorem d36_14 : decode jdk_65_method_133_code 14 = .ok (.aload_n 0, 1) := by decide +kernel
theorem d36_15 : decode jdk_65_method_133_code 15 = .ok (.iload_n 1, 1) := by decide +kernel
theorem d36_16 : decode jdk_65_method_133_code 16 = .ok (.aload 4, 2) := by decide +kernel
theorem d36_18 : decode jdk_65_method_133_code 18 = .ok (.iconst 0, 1) := by decide +kernel
theorem d36_19 : decode jdk_65_method_133_code 19 = .ok (.aload_n 0, 1) := by decide +kernel
theorem d36_20 : decode jdk_65_method_133_code 20 = .ok (.arraylength, 1) := by decide +kernel
theorem d36_21 : decode jdk_65_method_133_code 21 = .ok (.iload_n 1, 1) := by decide +kernel
theorem d36_22 : decode jdk_65_method_133_code 22 = .ok (.isub, 1) := by decide +kernel
theorem d36_23 : decode jdk_65_method_133_code 23 = .ok (.iload_n 3, 1) := by decide +kernel
theorem d36_24 : decode jdk_65_method_133_code 24 = .ok (.invokestatic 304, 3) := by decide +kernel
theorem pd_15 : parseMethodDescriptor "(II)I" = some ⟨[.int, .int], some .int⟩ := by decide +kernel
theorem d36_27 : decode jdk_65_method_133_code 27 = .ok (.invokestatic 150, 3) := by decide +kernel
theorem d36_30 : decode jdk_65_method_133_code 30 = .ok (.aload 4, 2) := by decide +kernel
theorem d36_32 : decode jdk_65_method_133_code 32 = .ok (.areturn, 1) := by decide +kernel
theorem ef_rmcrb (m : MethodId) (x0 : Addr) (x1 : Int32) (x2 : Int32) : entryFrame m #[(.ref x0), (.int x1), (.int x2)] 5 = mkF m 0 #[.val (.ref x0), .val (.int x1), .val (.int x2), .unset, .unset] [] := by first | (simp [entryFrame, mkF, argsToLocals, Value.category]; done) | rfl
abbrev R_rmcrb : Room := ({ frames := 1, cells := 1, slots := 8, locals := 18 } : Room)
def Qcrb (Z : State) (a1 : Addr) (pi pt : Int32) (kb : ClassId) (pn : Int32) (vs : List Value) (h0 : Heap) (n0 : Nat) (v : Option Value) (h : Heap) (L : List Loc) : Prop := ∃ kn : ClassId, ∃ nb : Addr, v = some (.ref nb) ∧ h0.size ≤ nb ∧ Fr n0 L ∧ Keep h0 h [] ∧ Arv Z h nb kn .byte (pt - pi) (own_cq vs pi.toNatClampNeg (pt - pi).toNatClampNeg) (.int 0)
set_option maxRecDepth 65536 in
set_option maxHeartbeats 40000000 in
theorem rmcrb (l : Launch) (Z : State) (a0 : Array Value) (hw : ∀ d ∈ tables_1, d.before a0 Z = true) (ws : List Jvm.Cond) (a1 : Addr) (pi pt : Int32) (kb : ClassId) (pn : Int32) (vs : List Value) (h0 : Heap) (n0 : Nat) (Z0 : n0 ≤ h0.size) (HV_a1 : Arv Z h0 a1 kb .byte pn vs (.int 0)) (hn : 0 ≤ pn.toInt ∧ pn.toInt ≤ 8) (hi : 0 ≤ pi.toInt) (hij : pi < pt) (hjn : pt.toInt ≤ pn.toInt) :
    Met1 l n36 jdk_65_method_133_code 5 (some (.array .byte)) ws R_rmcrb #[(.ref a1), (.int pi), (.int pt)] Z h0 (Qcrb Z a1 pi pt kb pn vs h0 n0) := by
  refine Met1.enter (plainFor_of_name pn_36) (fun m => ef_rmcrb m a1 pi pt) fun p e s m below meth c s₁ hx hby hlk hret hml hown hnm hZ X0 e0 => ?_
  have N0 := Fr.nil n0
  have K0 : Keep h0 h0 [] := Keep.refl h0 _
  show Fin p e below s _ _ _ (s₁.setTop (mkF m 0 #[rv a1, iv pi, iv pt, u_, u_] []))
  refine Fin.step (fun _ k => Yo.iloadN X0.here hx (hb hby d36_0) rfl (Yo.iloadN X0.here hx (hb hby d36_1) rfl k)) ?_
  obtain ⟨_, Ty1, Lcy1, Xy1, hQy1, sty1⟩ := packS (Jvm.LawKit.callS X0 hx (y := n37) hown (mvT hZ (W_ hw 170)) (mvT hZ (W_ hw 171)) (mvT hZ (W_ hw 165)) (mvT hZ (W_ hw 172)) (by decide) (backOf (W := 0) (rmcl l Z a0 hw [] pi pt h0 n0 Z0 (own_rng hn hi hij hjn).2.2.2.2.2.2.1) hZ (W_ hw 172) (W_ hw 165) (by decide) (by decide)) (g := (mkF m 2 #[rv a1, iv pi, iv pt, u_, u_] [(.int pt), (.int pi)])) rfl (by rw [hml]; rfl) (argsL := [(.int pi), (.int pt)]) (rest := []) (lenOf pd_14 rfl) rfl (lb rfl) (hb hby d36_2) (fun _ _ => ⟨rfl, e0, (by decide : 0 + 0 ≤ _), (by decide : 0 + 0 ≤ _)⟩))
  obtain ⟨rfl, Nqy1, eqy1⟩ := hQy1
  have Ny1 := Fr.app N0 Nqy1
  refine Fin.step (sty1) ?_
  show Fin p e below s _ _ _ (Ty1.setTop (mkF m 5 #[rv a1, iv pi, iv pt, u_, u_] []))
  have G := own_rng hn hi hij hjn
  refine Fin.step (fun _ k => Yo.iloadN Xy1.here hx (hb hby d36_5) rfl (Yo.iloadN Xy1.here hx (hb hby d36_6) rfl (Yo.isub Xy1.here hx (hb hby d36_7) rfl k))) ?_
  show Fin p e below s _ _ _ (Ty1.setTop (mkF m 8 #[rv a1, iv pi, iv pt, u_, u_] [(.int (pt - pi))]))
  refine Fin.step (fun _ k => Yo.istoreN Xy1.here hx (hb hby d36_8) rfl (l' := #[rv a1, iv pi, iv pt, .val (.int (pt - pi)), u_]) rfl (Yo.iloadN Xy1.here hx (hb hby d36_9) rfl k)) ?_
  obtain ⟨Ty2, hy2, ky2, Xy2, ey2, Ey2, Ay2, sty2⟩ := newP Xy1 hx hZ (W_ hw 25) eqy1 (g := (mkF m 10 #[rv a1, iv pi, iv pt, .val (.int (pt - pi)), u_] [(.int (pt - pi))])) rfl (hb hby d36_10) rfl G.2.2.1 (cap := 8) G.2.2.2.2.2.2.2.1 (by decide) (by decide) (by decide)
  obtain ⟨by2, gy2⟩ : ∃ z, z = h0.size := ⟨_, rfl⟩
  rw [← gy2] at Ay2 sty2
  have gzy2 : n0 ≤ by2 := Nat.le_trans Z0 (Nat.le_of_eq gy2.symm)
  have szy2 : h0.size ≤ by2 := Nat.le_trans K0.1 (Nat.le_of_eq gy2.symm)
  have Zy2 := Nat.le_trans Z0 Ey2.1
  have Ky2 := K0.ext Ey2
  have Vy2 : Arv Z hy2 by2 ky2 .byte (pt - pi) (List.replicate ((pt - pi)).toNatClampNeg (.int 0)) (.int 0) := (Arv.new Ay2 G.2.2.1).pad (pad_rep [] (.int 0) _)
  refine Fin.step (sty2) ?_
  show Fin p e below s _ _ _ (Ty2.setTop (mkF m 12 #[rv a1, iv pi, iv pt, .val (.int (pt - pi)), u_] [(.ref by2)]))
  refine Fin.step (fun _ k => Yo.astore Xy2.here hx (hb hby d36_12) rfl rfl (l' := #[rv a1, iv pi, iv pt, .val (.int (pt - pi)), rv by2]) rfl (Yo.aloadN Xy2.here hx (hb hby d36_14) rfl rfl (Yo.iloadN Xy2.here hx (hb hby d36_15) rfl (Yo.aload Xy2.here hx (hb hby d36_16) rfl rfl (Yo.iconst Xy2.here hx (hb hby d36_18) (Yo.aloadN Xy2.here hx (hb hby d36_19) rfl rfl k)))))) ?_
  have voy3 := (HV_a1.ext Ey2)
  obtain ⟨cly3, Ary3, qay3, say3, nay3, hay3, gay3⟩ := voy3
  refine Fin.step (Xy2.arraylength hx (by rw [ey2]; exact Ary3.1) (State.isArrayOf_alike hZ.alike Ary3.2.1) (g := (mkF m 20 #[rv a1, iv pi, iv pt, .val (.int (pt - pi)), rv by2] [(.ref a1), (.int 0), (.ref by2), (.int pi), (.ref a1)])) rfl rfl (hb hby d36_20)) ?_
  rw [len_of say3 nay3]
  show Fin p e below s _ _ _ (Ty2.setTop (mkF m 21 #[rv a1, iv pi, iv pt, .val (.int (pt - pi)), rv by2] [(.int pn), (.int 0), (.ref by2), (.int pi), (.ref a1)]))
  refine Fin.step (fun _ k => Yo.iloadN Xy2.here hx (hb hby d36_21) rfl (Yo.isub Xy2.here hx (hb hby d36_22) rfl k)) ?_
  show Fin p e below s _ _ _ (Ty2.setTop (mkF m 23 #[rv a1, iv pi, iv pt, .val (.int (pt - pi)), rv by2] [(.int (pn - pi)), (.int 0), (.ref by2), (.int pi), (.ref a1)]))
  refine Fin.step (fun _ k => Yo.iloadN Xy2.here hx (hb hby d36_23) rfl k) ?_
  obtain ⟨_, Ty4, Lcy4, Xy4, hQy4, sty4⟩ := packS (Jvm.LawKit.callS Xy2 hx (y := n38) hown (mvT hZ (W_ hw 173)) (mvT hZ (W_ hw 174)) (mvT hZ (W_ hw 175)) (mvT hZ (W_ hw 176)) (by decide) (backOf (W := 4) (rmmin l Z a0 hw [] (pn - pi) (pt - pi) hy2 n0 Zy2 G.2.2.2.2.2.2.2.2.2.2) hZ (W_ hw 176) (W_ hw 175) (by decide) (by decide)) (g := (mkF m 24 #[rv a1, iv pi, iv pt, .val (.int (pt - pi)), rv by2] [(.int (pt - pi)), (.int (pn - pi)), (.int 0), (.ref by2), (.int pi), (.ref a1)])) rfl (by rw [hml]; rfl) (argsL := [(.int (pn - pi)), (.int (pt - pi))]) (rest := [(.int 0), (.ref by2), (.int pi), (.ref a1)]) (lenOf pd_15 rfl) rfl (lb rfl) (hb hby d36_24) (fun _ _ => ⟨rfl, ey2, (by decide : 1 + 0 ≤ _), (by decide : 8 + 0 ≤ _)⟩))
  obtain ⟨rfl, Nqy4, eqy4⟩ := hQy4
  have Ny4 := Fr.app Ny1 Nqy4
  refine Fin.step (sty4) ?_
  show Fin p e below s _ _ _ (Ty4.setTop (mkF m 27 #[rv a1, iv pi, iv pt, .val (.int (pt - pi)), rv by2] [(.int (pt - pi)), (.int 0), (.ref by2), (.int pi), (.ref a1)]))
  obtain ⟨Ty5, hy5, Ly5, Xy5, ey5, Ny5, Kcy5, Vy5, sty5⟩ := cpA Xy4 hx hZ hown (W_ hw 177) (W_ hw 180) (W_ hw 178) (W_ hw 179) eqy4 (HV_a1.ext Ey2) Vy2 (Or.inl ⟨rfl, rfl⟩) (sp := pi) (dp := (0 : Int32)) (nn := (pt - pi)) G.2.2.2.2.2.1 (by decide) G.2.2.1 G.2.2.2.2.2.2.2.2.1 (by rw [show (0 : Int32).toNatClampNeg = 0 by decide]; omega) (us := (own_cq vs pi.toNatClampNeg (pt - pi).toNatClampNeg)) rfl (by rw [List.length_replicate, show (0 : Int32).toNatClampNeg = 0 by decide]; omega) Ny4 gzy2 (g := (mkF m 27 #[rv a1, iv pi, iv pt, .val (.int (pt - pi)), rv by2] [(.int (pt - pi)), (.int 0), (.ref by2), (.int pi), (.ref a1)])) rfl (by rw [hml]; rfl) rfl (hb hby d36_27) (by decide) (W := 0) (by show 2 * 0 + _ ≤ _; exact Nat.le_of_eq rfl) (by decide)
  have Vy5 : Arv Z hy5 by2 ky2 .byte (pt - pi) (own_cq vs pi.toNatClampNeg (pt - pi).toNatClampNeg) (.int 0) := by rw [own_cqv] at Vy5; exact Vy5
  have Zy5 := Nat.le_trans Zy2 Kcy5.1
  have Ky5 := Ky2.trans Kcy5 (allS (Or.inr szy2) all0)
  refine Fin.step (sty5) ?_
  show Fin p e below s _ _ _ (Ty5.setTop (mkF m 30 #[rv a1, iv pi, iv pt, .val (.int (pt - pi)), rv by2] []))
  refine Fin.step (fun _ k => Yo.aload Xy5.here hx (hb hby d36_30) rfl rfl k) ?_
  refine Fin.retR Xy5 hx hret rfl rfl hlk (hb hby d36_32) (by decide) (by decide) ?_
  show Qcrb Z a1 pi pt kb pn vs h0 n0 _ Ty5.heap _
  rw [ey5]
  exact ⟨ky2, by2, rfl, szy2, Ny5, Ky5, Vy5⟩
theorem pn_35 : plainName "java/util/Arrays" = true := by first | (simp [plainName, overriddenIn]; done) | decide +kernel
theorem d35_0 : decode jdk_65_method_132_code 0 = .ok (.iload_n 1, 1) := by decide +kernel
theorem d35_1 : decode jdk_65_method_132_code 1 = .ok (.ifCond .ne 9, 3) := by decide +kernel
theorem d35_4 : decode jdk_65_method_132_code 4 = .ok (.iload_n 2, 1) := by decide +kernel
theorem d35_5 : decode jdk_65_method_132_code 5 = .ok (.aload_n 0, 1) := by decide +kernel
theorem d35_6 : decode jdk_65_method_132_code 6 = .ok (.arraylength, 1) := by decide +kernel
theorem d35_7 : decode jdk_65_method_132_code 7 = .ok (.if_icmp .eq 10, 3) := by decide +kernel
theorem d35_10 : decode jdk_65_method_132_code 10 = .ok (.aload_n 0, 1) := by decide +kernel
theorem d35_11 : decode jdk_65_method_132_code 11 = .ok (.iload_n 1, 1) := by decide +kernel
theorem d35_12 : decode jdk_65_method_132_code 12 = .ok (.iload_n 2, 1) := by decide +kernel
theorem d35_13 : decode jdk_65_method_132_code 13 = .ok (.invokestatic 339, 3) := by decide +kernel
theorem pd_16 : parseMethodDescriptor "([BII)[B" = some ⟨[(.array .byte), .int, .int], some (.array .byte)⟩ := by decide +kernel
theorem d35_16 : decode jdk_65_method_132_code 16 = .ok (.areturn, 1) := by decide +kernel
theorem ef_rmcr (m : MethodId) (x0 : Addr) (x1 : Int32) (x2 : Int32) : entryFrame m #[(.ref x0), (.int x1), (.int x2)] 3 = mkF m 0 #[.val (.ref x0), .val (.int x1), .val (.int x2)] [] := by first | (simp [entryFrame, mkF, argsToLocals, Value.category]; done) | rfl
abbrev R_rmcr : Room := ({ frames := 2, cells := 1, slots := 8, locals := 34 } : Room)
def Qcr (Z : State) (a1 : Addr) (pi pt : Int32) (kb : ClassId) (pn : Int32) (vs : List Value) (h0 : Heap) (n0 : Nat) (v : Option Value) (h : Heap) (L : List Loc) : Prop := ∃ kn : ClassId, ∃ nb : Addr, v = some (.ref nb) ∧ h0.size ≤ nb ∧ Fr n0 L ∧ Keep h0 h [] ∧ Arv Z h nb kn .byte (pt - pi) (own_cq vs pi.toNatClampNeg (pt - pi).toNatClampNeg) (.int 0)
set_option maxRecDepth 65536 in
set_option maxHeartbeats 40000000 in
theorem rmcr (l : Launch) (Z : State) (a0 : Array Value) (hw : ∀ d ∈ tables_1, d.before a0 Z = true) (ws : List Jvm.Cond) (a1 : Addr) (pi pt : Int32) (kb : ClassId) (pn : Int32) (vs : List Value) (h0 : Heap) (n0 : Nat) (Z0 : n0 ≤ h0.size) (HV_a1 : Arv Z h0 a1 kb .byte pn vs (.int 0)) (hn : 0 ≤ pn.toInt ∧ pn.toInt ≤ 8) (hi : 0 ≤ pi.toInt) (hij : pi < pt) (hjn : pt.toInt ≤ pn.toInt) (hor : ¬ pi = 0 ∨ ¬ pt = pn) :
    Met1 l n35 jdk_65_method_132_code 3 (some (.array .byte)) ws R_rmcr #[(.ref a1), (.int pi), (.int pt)] Z h0 (Qcr Z a1 pi pt kb pn vs h0 n0) := by
  refine Met1.enter (plainFor_of_name pn_35) (fun m => ef_rmcr m a1 pi pt) fun p e s m below meth c s₁ hx hby hlk hret hml hown hnm hZ X0 e0 => ?_
  have N0 := Fr.nil n0
  have K0 : Keep h0 h0 [] := Keep.refl h0 _
  show Fin p e below s _ _ _ (s₁.setTop (mkF m 0 #[rv a1, iv pi, iv pt] []))
  refine Fin.step (fun _ k => Yo.iloadN X0.here hx (hb hby d35_0) rfl k) ?_
  by_cases hcy1 : pi = (0 : Int32)
  · refine Fin.step (fun _ k => Yo.ifNo X0.here hx (hb hby d35_1) rfl ((if0 _ _).trans (teq (hcy1 : (pi = (0 : Int32)))).2) (Yo.iloadN X0.here hx (hb hby d35_4) rfl (Yo.aloadN X0.here hx (hb hby d35_5) rfl rfl k))) ?_
    have voy2 := HV_a1
    obtain ⟨cly2, Ary2, qay2, say2, nay2, hay2, gay2⟩ := voy2
    refine Fin.step (X0.arraylength hx (by rw [e0]; exact Ary2.1) (State.isArrayOf_alike hZ.alike Ary2.2.1) (g := (mkF m 6 #[rv a1, iv pi, iv pt] [(.ref a1), (.int pt)])) rfl rfl (hb hby d35_6)) ?_
    rw [len_of say2 nay2]
    show Fin p e below s _ _ _ (s₁.setTop (mkF m 7 #[rv a1, iv pi, iv pt] [(.int pn), (.int pt)]))
    refine Fin.step (fun _ k => Yo.icmpNo X0.here hx (hb hby d35_7) rfl (feq ((hor.resolve_left (fun q => q hcy1)) : ¬ (pt = pn))).1 (Yo.aloadN X0.here hx (hb hby d35_10) rfl rfl (Yo.iloadN X0.here hx (hb hby d35_11) rfl (Yo.iloadN X0.here hx (hb hby d35_12) rfl k)))) ?_
    obtain ⟨_, Ty3, Lcy3, Xy3, hQy3, sty3⟩ := packS (Jvm.LawKit.callS X0 hx (y := n36) hown (mvT hZ (W_ hw 167)) (mvT hZ (W_ hw 168)) (mvT hZ (W_ hw 165)) (mvT hZ (W_ hw 169)) (by decide) (backOf (W := 0) (rmcrb l Z a0 hw [] a1 pi pt kb pn vs h0 n0 Z0 HV_a1 hn hi hij hjn) hZ (W_ hw 169) (W_ hw 165) (by decide) (by decide)) (g := (mkF m 13 #[rv a1, iv pi, iv pt] [(.int pt), (.int pi), (.ref a1)])) rfl (by rw [hml]; rfl) (argsL := [(.ref a1), (.int pi), (.int pt)]) (rest := []) (lenOf pd_16 rfl) rfl (lb rfl) (hb hby d35_13) (fun _ _ => ⟨rfl, e0, (by decide : 0 + 1 ≤ _), (by decide : 0 + 8 ≤ _)⟩))
    obtain ⟨kn_y3, by3, rfl, bzy3, Nqy3, Kcy3, fy3_0⟩ := hQy3
    have Ny3 := Fr.app N0 Nqy3
    have gzy3 : n0 ≤ by3 := Nat.le_trans Z0 bzy3
    have szy3 : h0.size ≤ by3 := Nat.le_trans K0.1 bzy3
    have Zy3 := Nat.le_trans Z0 Kcy3.1
    have Ky3 := K0.trans Kcy3 all0
    refine Fin.step (sty3) ?_
    show Fin p e below s _ _ _ (Ty3.setTop (mkF m 16 #[rv a1, iv pi, iv pt] [(.ref by3)]))
    refine Fin.retR Xy3 hx hret rfl rfl hlk (hb hby d35_16) (by decide) (by decide) ?_
    show Qcr Z a1 pi pt kb pn vs h0 n0 _ Ty3.heap _
    exact ⟨kn_y3, by3, rfl, szy3, Ny3, Ky3, fy3_0⟩
  · refine Fin.step (fun _ k => Yo.ifYes X0.here hx (pc0 := 1) (pc' := 10) rfl (hb hby d35_1) rfl ((if0 _ _).trans (feq (hcy1 : ¬ (pi = (0 : Int32)))).2) (by decide) (by decide) (Yo.aloadN X0.here hx (hb hby d35_10) rfl rfl (Yo.iloadN X0.here hx (hb hby d35_11) rfl (Yo.iloadN X0.here hx (hb hby d35_12) rfl k)))) ?_
    obtain ⟨_, Ty4, Lcy4, Xy4, hQy4, sty4⟩ := packS (Jvm.LawKit.callS X0 hx (y := n36) hown (mvT hZ (W_ hw 167)) (mvT hZ (W_ hw 168)) (mvT hZ (W_ hw 165)) (mvT hZ (W_ hw 169)) (by decide) (backOf (W := 0) (rmcrb l Z a0 hw [] a1 pi pt kb pn vs h0 n0 Z0 HV_a1 hn hi hij hjn) hZ (W_ hw 169) (W_ hw 165) (by decide) (by decide)) (g := (mkF m 13 #[rv a1, iv pi, iv pt] [(.int pt), (.int pi), (.ref a1)])) rfl (by rw [hml]; rfl) (argsL := [(.ref a1), (.int pi), (.int pt)]) (rest := []) (lenOf pd_16 rfl) rfl (lb rfl) (hb hby d35_13) (fun _ _ => ⟨rfl, e0, (by decide : 0 + 1 ≤ _), (by decide : 0 + 8 ≤ _)⟩))
    obtain ⟨kn_y4, by4, rfl, bzy4, Nqy4, Kcy4, fy4_0⟩ := hQy4
    have Ny4 := Fr.app N0 Nqy4
    have gzy4 : n0 ≤ by4 := Nat.le_trans Z0 bzy4
    have szy4 : h0.size ≤ by4 := Nat.le_trans K0.1 bzy4
    have Zy4 := Nat.le_trans Z0 Kcy4.1
    have Ky4 := K0.trans Kcy4 all0
    refine Fin.step (sty4) ?_
    show Fin p e below s _ _ _ (Ty4.setTop (mkF m 16 #[rv a1, iv pi, iv pt] [(.ref by4)]))
    refine Fin.retR Xy4 hx hret rfl rfl hlk (hb hby d35_16) (by decide) (by decide) ?_
    show Qcr Z a1 pi pt kb pn vs h0 n0 _ Ty4.heap _
    exact ⟨kn_y4, by4, rfl, szy4, Ny4, Ky4, fy4_0⟩
theorem pn_34 : plainName "java/lang/StringLatin1" = true := by first | (simp [plainName, overriddenIn]; done) | decide +kernel
theorem d34_0 : decode jdk_43_method_47_code 0 = .ok (.iload_n 2, 1) := by decide +kernel
theorem d34_1 : decode jdk_43_method_47_code 1 = .ok (.ifCond .ne 6, 3) := by decide +kernel
theorem d34_7 : decode jdk_43_method_47_code 7 = .ok (.new 1, 3) := by decide +kernel
theorem d34_10 : decode jdk_43_method_47_code 10 = .ok (.dup, 1) := by decide +kernel
theorem d34_11 : decode jdk_43_method_47_code 11 = .ok (.aload_n 0, 1) := by decide +kernel
theorem d34_12 : decode jdk_43_method_47_code 12 = .ok (.iload_n 1, 1) := by decide +kernel
theorem d34_13 : decode jdk_43_method_47_code 13 = .ok (.iload_n 1, 1) := by decide +kernel
theorem d34_14 : decode jdk_43_method_47_code 14 = .ok (.iload_n 2, 1) := by decide +kernel
theorem d34_15 : decode jdk_43_method_47_code 15 = .ok (.iadd, 1) := by decide +kernel
theorem d34_16 : decode jdk_43_method_47_code 16 = .ok (.invokestatic 232, 3) := by decide +kernel
theorem d34_19 : decode jdk_43_method_47_code 19 = .ok (.iconst 0, 1) := by decide +kernel
theorem d34_20 : decode jdk_43_method_47_code 20 = .ok (.invokespecial 112, 3) := by decide +kernel
theorem d34_23 : decode jdk_43_method_47_code 23 = .ok (.areturn, 1) := by decide +kernel
theorem ef_rmns (m : MethodId) (x0 : Addr) (x1 : Int32) (x2 : Int32) : entryFrame m #[(.ref x0), (.int x1), (.int x2)] 3 = mkF m 0 #[.val (.ref x0), .val (.int x1), .val (.int x2)] [] := by first | (simp [entryFrame, mkF, argsToLocals, Value.category]; done) | rfl
abbrev R_rmns : Room := ({ frames := 3, cells := 2, slots := 12, locals := 50 } : Room)
def Qns (Z : State) (a1 : Addr) (pi pm : Int32) (kb : ClassId) (pn : Int32) (vs : List Value) (pt : Int32) (h0 : Heap) (n0 : Nat) (v : Option Value) (h : Heap) (L : List Loc) : Prop := ∃ nb : Addr, ∃ kn : ClassId, ∃ so : Addr, v = some (.ref so) ∧ h0.size ≤ so ∧ h0.size ≤ nb ∧ Fr n0 L ∧ Keep h0 h [] ∧ Exa Z h so q2 ∧ Fld Z h so q2 "coder" "B" (.int 0) ∧ Fld Z h so q2 "value" "[B" (.ref nb) ∧ Arv Z h nb kn .byte (pt - pi) (own_cq vs pi.toNatClampNeg (pt - pi).toNatClampNeg) (.int 0)
set_option maxRecDepth 65536 in
set_option maxHeartbeats 40000000 in
theorem rmns (l : Launch) (Z : State) (a0 : Array Value) (hw : ∀ d ∈ tables_1, d.before a0 Z = true) (ws : List Jvm.Cond) (a1 : Addr) (pi pm : Int32) (kb : ClassId) (pn : Int32) (vs : List Value) (pt : Int32) (h0 : Heap) (n0 : Nat) (Z0 : n0 ≤ h0.size) (HV_a1 : Arv Z h0 a1 kb .byte pn vs (.int 0)) (hn : 0 ≤ pn.toInt ∧ pn.toInt ≤ 8) (hi : 0 ≤ pi.toInt) (hij : pi < pt) (hjn : pt.toInt ≤ pn.toInt) (hor : ¬ pi = 0 ∨ ¬ pt = pn) (hm : pm = pt - pi) :
    Met1 l n34 jdk_43_method_47_code 3 (some (.object "java/lang/String")) ws R_rmns #[(.ref a1), (.int pi), (.int pm)] Z h0 (Qns Z a1 pi pm kb pn vs pt h0 n0) := by
  refine Met1.enter (plainFor_of_name pn_34) (fun m => ef_rmns m a1 pi pm) fun p e s m below meth c s₁ hx hby hlk hret hml hown hnm hZ X0 e0 => ?_
  have N0 := Fr.nil n0
  have K0 : Keep h0 h0 [] := Keep.refl h0 _
  show Fin p e below s _ _ _ (s₁.setTop (mkF m 0 #[rv a1, iv pi, iv pm] []))
  refine Fin.step (fun _ k => Yo.iloadN X0.here hx (hb hby d34_0) rfl (Yo.ifYes X0.here hx (pc0 := 1) (pc' := 7) rfl (hb hby d34_1) rfl ((if0 _ _).trans (feq ((by rw [hm]; exact (own_rng hn hi hij hjn).2.2.2.1) : ¬ (pm = (0 : Int32)))).2) (by decide) (by decide) k)) ?_
  obtain ⟨Ty1, hy1, Xy1, ey1, Ey1, Ay1, Dy1, -, sty1⟩ := newO X0 hx hZ hown (W_ hw 162) (W_ hw 8) (W_ hw 9) e0 (g := (mkF m 7 #[rv a1, iv pi, iv pm] [])) rfl (hb hby d34_7) (by decide) (by decide)
  obtain ⟨by1, gy1⟩ : ∃ z, z = h0.size := ⟨_, rfl⟩
  rw [← gy1] at Ay1 Dy1 sty1
  have gzy1 : n0 ≤ by1 := Nat.le_trans Z0 (Nat.le_of_eq gy1.symm)
  have szy1 : h0.size ≤ by1 := Nat.le_trans K0.1 (Nat.le_of_eq gy1.symm)
  have Zy1 := Nat.le_trans Z0 Ey1.1
  have Ky1 := K0.ext Ey1
  have F_coder_by1 : Fld Z hy1 by1 q2 "coder" "B" (.int 0) := Dy1 (Or.inr (W_ hw 33)) (ty := .byte) (by decide)
  have F_value_by1 : Fld Z hy1 by1 q2 "value" "[B" .null := Dy1 (Or.inr (W_ hw 35)) (ty := (.array .byte)) (by decide)
  refine Fin.step (sty1) ?_
  show Fin p e below s _ _ _ (Ty1.setTop (mkF m 10 #[rv a1, iv pi, iv pm] [(.ref by1)]))
  refine Fin.step (fun _ k => Yo.dup Xy1.here hx (hb hby d34_10) rfl rfl (Yo.aloadN Xy1.here hx (hb hby d34_11) rfl rfl (Yo.iloadN Xy1.here hx (hb hby d34_12) rfl (Yo.iloadN Xy1.here hx (hb hby d34_13) rfl (Yo.iloadN Xy1.here hx (hb hby d34_14) rfl (Yo.iadd Xy1.here hx (hb hby d34_15) rfl k)))))) ?_
  show Fin p e below s _ _ _ (Ty1.setTop (mkF m 16 #[rv a1, iv pi, iv pm] [(.int (pi + pm)), (.int pi), (.ref a1), (.ref by1), (.ref by1)]))
  rw [show pi + pm = pt by rw [hm]; exact (own_rng hn hi hij hjn).2.2.2.2.1]
  show Fin p e below s _ _ _ (Ty1.setTop (mkF m 16 #[rv a1, iv pi, iv pm] [(.int pt), (.int pi), (.ref a1), (.ref by1), (.ref by1)]))
  obtain ⟨_, Ty2, Lcy2, Xy2, hQy2, sty2⟩ := packS (Jvm.LawKit.callS Xy1 hx (y := n35) hown (mvT hZ (W_ hw 163)) (mvT hZ (W_ hw 164)) (mvT hZ (W_ hw 165)) (mvT hZ (W_ hw 166)) (by decide) (backOf (W := 2) (rmcr l Z a0 hw [] a1 pi pt kb pn vs hy1 n0 Zy1 (HV_a1.ext Ey1) hn hi hij hjn hor) hZ (W_ hw 166) (W_ hw 165) (by decide) (by decide)) (g := (mkF m 16 #[rv a1, iv pi, iv pm] [(.int pt), (.int pi), (.ref a1), (.ref by1), (.ref by1)])) rfl (by rw [hml]; rfl) (argsL := [(.ref a1), (.int pi), (.int pt)]) (rest := [(.ref by1), (.ref by1)]) (lenOf pd_16 rfl) rfl (lb rfl) (hb hby d34_16) (fun _ _ => ⟨rfl, ey1, (by decide : 1 + 1 ≤ _), (by decide : 4 + 8 ≤ _)⟩))
  obtain ⟨kn_y2, by2, rfl, bzy2, Nqy2, Kcy2, fy2_0⟩ := hQy2
  have Ny2 := Fr.app N0 Nqy2
  have gzy2 : n0 ≤ by2 := Nat.le_trans Zy1 bzy2
  have szy2 : h0.size ≤ by2 := Nat.le_trans Ky1.1 bzy2
  have Zy2 := Nat.le_trans Zy1 Kcy2.1
  have Ky2 := Ky1.trans Kcy2 all0
  refine Fin.step (sty2) ?_
  show Fin p e below s _ _ _ (Ty2.setTop (mkF m 19 #[rv a1, iv pi, iv pm] [(.ref by2), (.ref by1), (.ref by1)]))
  refine Fin.step (fun _ k => Yo.iconst Xy2.here hx (hb hby d34_19) k) ?_
  obtain ⟨_, Ty3, Lcy3, Xy3, hQy3, sty3⟩ := pack (Xy2.specialBack hx (y := n11) rfl hown (mvT hZ (W_ hw 181)) (mvT hZ (W_ hw 48)) (mvT hZ (W_ hw 49)) (by decide) (backOf (W := 1) (rmsb l Z a0 hw [] by1 by2 Ty2.heap n0 Zy2 (Ay1.keep Kcy2) (F_coder_by1.keep Kcy2 nin0) (F_value_by1.keep Kcy2 nin0) gzy1) hZ (W_ hw 49) (W_ hw 9) (by decide) (by decide)) (g := (mkF m 20 #[rv a1, iv pi, iv pm] [(.int 0), (.ref by2), (.ref by1), (.ref by1)])) rfl (by rw [hml]; rfl) (Steps.refl _) (a := by1) (argsL := [(.ref by2), (.int 0)]) (rest := [(.ref by1)]) (lenOf pd_8 rfl) rfl (lb rfl) (hb hby d34_20) (fun _ _ => ⟨rfl, rfl, (by decide : 2 + 0 ≤ _), (by decide : 12 + 0 ≤ _)⟩))
  obtain ⟨rfl, Nqy3, Kcy3, fy3_0, fy3_1⟩ := hQy3
  have Ny3 := Fr.app Ny2 Nqy3
  have Zy3 := Nat.le_trans Zy2 Kcy3.1
  have Ky3 := Ky2.trans Kcy3 (allS (Or.inr szy1) all0)
  refine Fin.step (sty3) ?_
  show Fin p e below s _ _ _ (Ty3.setTop (mkF m 23 #[rv a1, iv pi, iv pm] [(.ref by1)]))
  refine Fin.retR Xy3 hx hret rfl rfl hlk (hb hby d34_23) (by decide) (by decide) ?_
  show Qns Z a1 pi pm kb pn vs pt h0 n0 _ Ty3.heap _
  have ney4 := nlt Ay1.lt bzy2
  exact ⟨by2, kn_y2, by1, rfl, szy1, szy2, Ny3, Ky3, ((Ay1.keep Kcy2).keep Kcy3), fy3_0, fy3_1, (fy2_0.keep Kcy3 (ninS (Ne.symm ney4) nin0))⟩
theorem own_cqc (vs : List Value) (a m : Nat) (h : own_chs vs) : own_chs (own_cq vs a m) := own_chsI fun v hv => by
  obtain ⟨i, -, e⟩ := List.mem_map.mp hv
  obtain ⟨z, e2⟩ := h (a + i)
  exact ⟨z, by rw [← e, e2]⟩
theorem own_rng8 {n i j : Int32} (hn : 0 ≤ n.toInt ∧ n.toInt ≤ 8) (hi : 0 ≤ i.toInt) (hij : i < j) (hj : j.toInt ≤ n.toInt) : 0 ≤ (j - i).toInt ∧ (j - i).toInt ≤ 8 := by
  have e := (own_rng hn hi hij hj).1
  rw [Int32.lt_iff_toInt_lt] at hij
  omega
theorem own_0lt {i : Int32} (h : (0 : Int32) < i) (q : i = 0) : False := by rw [q] at h; exact absurd h (by decide)
theorem pn_23 : plainName "java/lang/StringLatin1" = true := by first | (simp [plainName, overriddenIn]; done) | decide +kernel
theorem d23_0 : decode jdk_43_method_39_code 0 = .ok (.aload_n 0, 1) := by decide +kernel
theorem d23_1 : decode jdk_43_method_39_code 1 = .ok (.invokestatic 214, 3) := by decide +kernel
theorem pd_17 : parseMethodDescriptor "([B)I" = some ⟨[(.array .byte)], some .int⟩ := by decide +kernel
theorem d23_4 : decode jdk_43_method_39_code 4 = .ok (.istore_n 1, 1) := by decide +kernel
theorem d23_5 : decode jdk_43_method_39_code 5 = .ok (.iload_n 1, 1) := by decide +kernel
theorem d23_6 : decode jdk_43_method_39_code 6 = .ok (.aload_n 0, 1) := by decide +kernel
theorem d23_7 : decode jdk_43_method_39_code 7 = .ok (.arraylength, 1) := by decide +kernel
theorem d23_8 : decode jdk_43_method_39_code 8 = .ok (.if_icmp .ne 6, 3) := by decide +kernel
theorem d23_11 : decode jdk_43_method_39_code 11 = .ok (.ldc 151, 2) := by decide +kernel
theorem d23_13 : decode jdk_43_method_39_code 13 = .ok (.areturn, 1) := by decide +kernel
theorem d23_14 : decode jdk_43_method_39_code 14 = .ok (.aload_n 0, 1) := by decide +kernel
theorem d23_15 : decode jdk_43_method_39_code 15 = .ok (.invokestatic 217, 3) := by decide +kernel
theorem d23_18 : decode jdk_43_method_39_code 18 = .ok (.istore_n 2, 1) := by decide +kernel
theorem d23_19 : decode jdk_43_method_39_code 19 = .ok (.iload_n 1, 1) := by decide +kernel
theorem d23_20 : decode jdk_43_method_39_code 20 = .ok (.ifCond .gt 9, 3) := by decide +kernel
theorem d23_29 : decode jdk_43_method_39_code 29 = .ok (.iconst 1, 1) := by decide +kernel
theorem d23_30 : decode jdk_43_method_39_code 30 = .ok (.goto 4, 3) := by decide +kernel
theorem d23_34 : decode jdk_43_method_39_code 34 = .ok (.istore_n 3, 1) := by decide +kernel
theorem d23_35 : decode jdk_43_method_39_code 35 = .ok (.iload_n 3, 1) := by decide +kernel
theorem d23_36 : decode jdk_43_method_39_code 36 = .ok (.ifCond .eq 14, 3) := by decide +kernel
theorem d23_39 : decode jdk_43_method_39_code 39 = .ok (.aload_n 0, 1) := by decide +kernel
theorem d23_40 : decode jdk_43_method_39_code 40 = .ok (.iload_n 1, 1) := by decide +kernel
theorem d23_41 : decode jdk_43_method_39_code 41 = .ok (.iload_n 2, 1) := by decide +kernel
theorem d23_42 : decode jdk_43_method_39_code 42 = .ok (.iload_n 1, 1) := by decide +kernel
theorem d23_43 : decode jdk_43_method_39_code 43 = .ok (.isub, 1) := by decide +kernel
theorem d23_44 : decode jdk_43_method_39_code 44 = .ok (.invokestatic 210, 3) := by decide +kernel
theorem pd_18 : parseMethodDescriptor "([BII)Ljava/lang/String;" = some ⟨[(.array .byte), .int, .int], some (.object "java/lang/String")⟩ := by decide +kernel
theorem d23_47 : decode jdk_43_method_39_code 47 = .ok (.goto 4, 3) := by decide +kernel
theorem d23_51 : decode jdk_43_method_39_code 51 = .ok (.areturn, 1) := by decide +kernel
theorem d23_23 : decode jdk_43_method_39_code 23 = .ok (.iload_n 2, 1) := by decide +kernel
theorem d23_24 : decode jdk_43_method_39_code 24 = .ok (.aload_n 0, 1) := by decide +kernel
theorem d23_25 : decode jdk_43_method_39_code 25 = .ok (.arraylength, 1) := by decide +kernel
theorem d23_26 : decode jdk_43_method_39_code 26 = .ok (.if_icmp .ge 7, 3) := by decide +kernel
theorem d23_33 : decode jdk_43_method_39_code 33 = .ok (.iconst 0, 1) := by decide +kernel
theorem d23_50 : decode jdk_43_method_39_code 50 = .ok (.aconst_null, 1) := by decide +kernel
theorem ef_rmls (m : MethodId) (x0 : Addr) : entryFrame m #[(.ref x0)] 4 = mkF m 0 #[.val (.ref x0), .unset, .unset, .unset] [] := by first | (simp [entryFrame, mkF, argsToLocals, Value.category]; done) | rfl
abbrev R_rmls : Room := ({ frames := 4, cells := 2, slots := 12, locals := 64 } : Room)
def Qls (Z : State) (a1 : Addr) (kb : ClassId) (pn : Int32) (vs : List Value) (ci aa : Addr) (kA : ClassId) (h0 : Heap) (n0 : Nat) (v : Option Value) (h : Heap) (L : List Loc) : Prop := ∃ rv : Value, v = some rv ∧ Fr n0 L ∧ Keep h0 h [] ∧ ((rv = .null ∧ own_st pn vs pn vs) ∨ ∃ (so nb : Addr) (kn : ClassId) (pm : Int32) (wl : List Value), rv = .ref so ∧ Exa Z h so q2 ∧ Fld Z h so q2 "coder" "B" (.int 0) ∧ Fld Z h so q2 "value" "[B" (.ref nb) ∧ Arv Z h nb kn .byte pm wl (.int 0) ∧ own_st pn vs pm wl ∧ own_chs wl ∧ 0 ≤ pm.toInt ∧ pm.toInt ≤ 8)
set_option maxRecDepth 65536 in
set_option maxHeartbeats 40000000 in
theorem rmls (l : Launch) (Z : State) (a0 : Array Value) (hw : ∀ d ∈ tables_1, d.before a0 Z = true) (ws : List Jvm.Cond) (a1 : Addr) (kb : ClassId) (pn : Int32) (vs : List Value) (ci aa : Addr) (kA : ClassId) (h0 : Heap) (n0 : Nat) (Z0 : n0 ≤ h0.size) (HV_a1 : Arv Z h0 a1 kb .byte pn vs (.int 0)) (HS_java_lang_CharacterDataLatin1_instance : Sta Z h0 q4 "instance" "Ljava/lang/CharacterDataLatin1;" (.ref ci)) (HE_ci : Exa Z h0 ci q4) (HS_java_lang_CharacterDataLatin1_A : Sta Z h0 q4 "A" "[I" (.ref aa)) (HV_aa : Arv Z h0 aa kA .int (256 : Int32) own_AL (.int 0)) (hn : 0 ≤ pn.toInt ∧ pn.toInt ≤ 8) (hcv : own_chs vs) :
    Met1H l n23 jdk_43_method_39_code 4 (some (.object "java/lang/String")) ws R_rmls #[(.ref a1)] Z h0 own_EL (Qls Z a1 kb pn vs ci aa kA h0 n0) := by
  refine Met1H.enter (plainFor_of_name pn_23) (fun m => ef_rmls m a1) fun p e s m below meth c s₁ hx hby hlk hret hml hown hnm hZ X0 e0 hsh hch => ?_
  have N0 := Fr.nil n0
  have K0 : Keep h0 h0 [] := Keep.refl h0 _
  have hEL := own_EW hw
  have wS := own_wS hw
  have CH0 := CHr.refl hch
  show FinH p e below s Z own_EL _ _ _ (s₁.setTop (mkF m 0 #[rv a1, u_, u_, u_] []))
  refine FinH.step (fun _ k => Yo.aloadN X0.here hx (hb hby d23_0) rfl rfl k) ?_
  obtain ⟨_, Ty1, Lcy1, Xy1, hQy1, sty1⟩ := packS (Jvm.LawKit.callS X0 hx (y := n24) hown (mvT hZ (W_ hw 111)) (mvT hZ (W_ hw 112)) (mvT hZ (W_ hw 41)) (mvT hZ (W_ hw 113)) (by decide) (backOf (W := 0) (rmix l Z a0 hw [] a1 kb pn vs ci aa kA h0 n0 Z0 HV_a1 HS_java_lang_CharacterDataLatin1_instance HE_ci HS_java_lang_CharacterDataLatin1_A HV_aa hn hcv) hZ (W_ hw 113) (W_ hw 41) (by decide) (by decide)) (g := (mkF m 1 #[rv a1, u_, u_, u_] [(.ref a1)])) rfl (by rw [hml]; rfl) (argsL := [(.ref a1)]) (rest := []) (lenOf pd_17 rfl) rfl (lb rfl) (hb hby d23_1) (fun _ _ => ⟨rfl, e0, (by decide : 0 + 0 ≤ _), (by decide : 0 + 0 ≤ _)⟩))
  obtain ⟨pi_y1, rfl, Nqy1, eqy1, ppy1_0⟩ := hQy1
  have Ny1 := Fr.app N0 Nqy1
  refine FinH.step (sty1) ?_
  show FinH p e below s Z own_EL _ _ _ (Ty1.setTop (mkF m 4 #[rv a1, u_, u_, u_] [(.int pi_y1)]))
  refine FinH.step (fun _ k => Yo.istoreN Xy1.here hx (hb hby d23_4) rfl (l' := #[rv a1, iv pi_y1, u_, u_]) rfl (Yo.iloadN Xy1.here hx (hb hby d23_5) rfl (Yo.aloadN Xy1.here hx (hb hby d23_6) rfl rfl k))) ?_
  have voy2 := HV_a1
  obtain ⟨cly2, Ary2, qay2, say2, nay2, hay2, gay2⟩ := voy2
  refine FinH.step (Xy1.arraylength hx (by rw [eqy1]; exact Ary2.1) (State.isArrayOf_alike hZ.alike Ary2.2.1) (g := (mkF m 7 #[rv a1, iv pi_y1, u_, u_] [(.ref a1), (.int pi_y1)])) rfl rfl (hb hby d23_7)) ?_
  rw [len_of say2 nay2]
  show FinH p e below s Z own_EL _ _ _ (Ty1.setTop (mkF m 8 #[rv a1, iv pi_y1, u_, u_] [(.int pn), (.int pi_y1)]))
  by_cases hcy3 : pi_y1 = pn
  · refine FinH.step (fun _ k => Yo.icmpNo Xy1.here hx (hb hby d23_8) rfl (teq (hcy3 : (pi_y1 = pn))).2 k) ?_
    obtain ⟨ay4, Ty4, hy4, k1y4, by4, kby4, Xy4, ey4, Ey4, hSy4, hky4, hZ, hown, Ay4, Fcy4, Fvy4, Vy4, -, -, CHcy4, -, nly4, sty4⟩ := ldcCH (s := s) (vm0 := s.vm) Xy1 hx hZ hown (W_ hw 158) wS eqy1 ((State.WarmedH.refl s).since 0) (Nat.zero_le _) hEL (List.mem_of_getElem? (i := 2) rfl) CH0.1 (vs := ([] : List Value)) (z := (0 : Int32)) ⟨by decide, by rfl⟩ (by decide) (by decide) (g := (mkF m 11 #[rv a1, iv pi_y1, u_, u_] [])) rfl (hb hby d23_11) (n := 0) (by decide) (by decide) (by decide) (by decide)
    have CHy4 := CH0.trans CHcy4
    have Zy4 := Nat.le_trans Z0 Ey4.1
    have Ky4 := K0.ext Ey4
    refine FinH.step (sty4) ?_
    show FinH p e below s Z own_EL _ _ _ (Ty4.setTop (mkF m 13 #[rv a1, iv pi_y1, u_, u_] [(.ref ay4)]))
    refine FinH.retR Xy4 hSy4 (by rw [ey4]; exact hky4) hZ hEL (by rw [hsh, ey4]; exact CHy4) hx hret rfl rfl hlk (hb hby d23_13) (by decide) (by decide) ?_
    show Qls Z a1 kb pn vs ci aa kA h0 n0 _ Ty4.heap _
    rw [ey4]
    exact ⟨(.ref ay4), rfl, Ny1, Ky4, (Or.inr ⟨ay4, by4, kby4, (0 : Int32), ([] : List Value), rfl, Ay4, Fcy4, Fvy4, Vy4, own_stA ppy1_0 hcy3, own_repc 0, by decide, by decide⟩)⟩
  · refine FinH.step (fun _ k => Yo.icmpYes Xy1.here hx (pc0 := 8) (pc' := 14) rfl (hb hby d23_8) rfl (feq (hcy3 : ¬ (pi_y1 = pn))).2 (by decide) (by decide) (Yo.aloadN Xy1.here hx (hb hby d23_14) rfl rfl k)) ?_
    obtain ⟨_, Ty5, Lcy5, Xy5, hQy5, sty5⟩ := packS (Jvm.LawKit.callS Xy1 hx (y := n28) hown (mvT hZ (W_ hw 130)) (mvT hZ (W_ hw 131)) (mvT hZ (W_ hw 41)) (mvT hZ (W_ hw 132)) (by decide) (backOf (W := 0) (rmlx l Z a0 hw [] a1 kb pn vs ci aa kA h0 n0 Z0 HV_a1 HS_java_lang_CharacterDataLatin1_instance HE_ci HS_java_lang_CharacterDataLatin1_A HV_aa hn hcv) hZ (W_ hw 132) (W_ hw 41) (by decide) (by decide)) (g := (mkF m 15 #[rv a1, iv pi_y1, u_, u_] [(.ref a1)])) rfl (by rw [hml]; rfl) (argsL := [(.ref a1)]) (rest := []) (lenOf pd_17 rfl) rfl (lb rfl) (hb hby d23_15) (fun _ _ => ⟨rfl, eqy1, (by decide : 0 + 0 ≤ _), (by decide : 0 + 0 ≤ _)⟩))
    obtain ⟨pl_y5, rfl, Nqy5, eqy5, ppy5_0⟩ := hQy5
    have Ny5 := Fr.app Ny1 Nqy5
    refine FinH.step (sty5) ?_
    show FinH p e below s Z own_EL _ _ _ (Ty5.setTop (mkF m 18 #[rv a1, iv pi_y1, u_, u_] [(.int pl_y5)]))
    have GX := own_ixlx ppy1_0 ppy5_0 hcy3
    refine FinH.step (fun _ k => Yo.istoreN Xy5.here hx (hb hby d23_18) rfl (l' := #[rv a1, iv pi_y1, iv pl_y5, u_]) rfl (Yo.iloadN Xy5.here hx (hb hby d23_19) rfl k)) ?_
    by_cases hcy6 : (0 : Int32) < pi_y1
    · refine FinH.step (fun _ k => Yo.ifYes Xy5.here hx (pc0 := 20) (pc' := 29) rfl (hb hby d23_20) rfl ((if0 _ _).trans (tlt (hcy6 : ((0 : Int32) < pi_y1))).2.2.1) (by decide) (by decide) (Yo.iconst Xy5.here hx (hb hby d23_29) (Yo.goto Xy5.here hx (pc0 := 30) (pc' := 34) rfl (hb hby d23_30) (by decide) (by decide) (Yo.istoreN Xy5.here hx (hb hby d23_34) rfl (l' := #[rv a1, iv pi_y1, iv pl_y5, iv 1]) rfl (Yo.iloadN Xy5.here hx (hb hby d23_35) rfl (Yo.ifNo Xy5.here hx (hb hby d23_36) rfl ((if0 _ _).trans (feq ((by decide) : ¬ ((1 : Int32) = (0 : Int32)))).1) (Yo.aloadN Xy5.here hx (hb hby d23_39) rfl rfl (Yo.iloadN Xy5.here hx (hb hby d23_40) rfl k)))))))) ?_
      refine FinH.step (fun _ k => Yo.iloadN Xy5.here hx (hb hby d23_41) rfl (Yo.iloadN Xy5.here hx (hb hby d23_42) rfl (Yo.isub Xy5.here hx (hb hby d23_43) rfl k))) ?_
      show FinH p e below s Z own_EL _ _ _ (Ty5.setTop (mkF m 44 #[rv a1, iv pi_y1, iv pl_y5, iv 1] [(.int (pl_y5 - pi_y1)), (.int pi_y1), (.ref a1)]))
      obtain ⟨_, Ty7, Lcy7, Xy7, hQy7, sty7⟩ := packS (Jvm.LawKit.callS Xy5 hx (y := n34) hown (mvT hZ (W_ hw 159)) (mvT hZ (W_ hw 160)) (mvT hZ (W_ hw 41)) (mvT hZ (W_ hw 161)) (by decide) (backOf (W := 0) (rmns l Z a0 hw [] a1 pi_y1 (pl_y5 - pi_y1) kb pn vs pl_y5 h0 n0 Z0 HV_a1 hn ppy1_0.1 GX.2.1 ppy5_0.2.1 (Or.inl (fun q => own_0lt hcy6 q)) rfl) hZ (W_ hw 161) (W_ hw 41) (by decide) (by decide)) (g := (mkF m 44 #[rv a1, iv pi_y1, iv pl_y5, iv 1] [(.int (pl_y5 - pi_y1)), (.int pi_y1), (.ref a1)])) rfl (by rw [hml]; rfl) (argsL := [(.ref a1), (.int pi_y1), (.int (pl_y5 - pi_y1))]) (rest := []) (lenOf pd_18 rfl) rfl (lb rfl) (hb hby d23_44) (fun _ _ => ⟨rfl, eqy5, (by decide : 0 + 2 ≤ _), (by decide : 0 + 12 ≤ _)⟩))
      obtain ⟨nb_y7, kn_y7, by7, rfl, bzy7, bfy7_0, Nqy7, Kcy7, fy7_0, fy7_1, fy7_2, fy7_3⟩ := hQy7
      have Ny7 := Fr.app Ny5 Nqy7
      have gzy7 : n0 ≤ by7 := Nat.le_trans Z0 bzy7
      have szy7 : h0.size ≤ by7 := Nat.le_trans K0.1 bzy7
      have gzy7_0 : n0 ≤ nb_y7 := Nat.le_trans Z0 bfy7_0
      have szy7_0 : h0.size ≤ nb_y7 := Nat.le_trans K0.1 bfy7_0
      have CHy7 := CH0.trans (CHr.keep Kcy7 all0 CH0.1)
      have Zy7 := Nat.le_trans Z0 Kcy7.1
      have Ky7 := K0.trans Kcy7 all0
      refine FinH.step (sty7) ?_
      show FinH p e below s Z own_EL _ _ _ (Ty7.setTop (mkF m 47 #[rv a1, iv pi_y1, iv pl_y5, iv 1] [(.ref by7)]))
      refine FinH.step (fun _ k => Yo.goto Xy7.here hx (pc0 := 47) (pc' := 51) rfl (hb hby d23_47) (by decide) (by decide) k) ?_
      have hky8 := (Nat.le_trans (Nat.zero_le _) Kcy7.1)
      refine FinH.retR (s := s) (vm₁ := s.vm) Xy7 ((State.WarmedH.refl s).since 0) hky8 hZ hEL (by rw [hsh]; exact CHy7) hx hret rfl rfl hlk (hb hby d23_51) (by decide) (by decide) ?_
      show Qls Z a1 kb pn vs ci aa kA h0 n0 _ Ty7.heap _
      exact ⟨(.ref by7), rfl, Ny7, Ky7, (Or.inr ⟨by7, nb_y7, kn_y7, (pl_y5 - pi_y1), (own_cq vs pi_y1.toNatClampNeg (pl_y5 - pi_y1).toNatClampNeg), rfl, fy7_0, fy7_1, fy7_2, fy7_3, own_stC hn ppy1_0 ppy5_0 hcy3, own_cqc _ _ _ hcv, (own_rng8 hn ppy1_0.1 GX.2.1 ppy5_0.2.1).1, (own_rng8 hn ppy1_0.1 GX.2.1 ppy5_0.2.1).2⟩)⟩
    · refine FinH.step (fun _ k => Yo.ifNo Xy5.here hx (hb hby d23_20) rfl ((if0 _ _).trans (flt (hcy6 : ¬ ((0 : Int32) < pi_y1))).2.2.1) (Yo.iloadN Xy5.here hx (hb hby d23_23) rfl (Yo.aloadN Xy5.here hx (hb hby d23_24) rfl rfl k))) ?_
      have voy9 := HV_a1
      obtain ⟨cly9, Ary9, qay9, say9, nay9, hay9, gay9⟩ := voy9
      refine FinH.step (Xy5.arraylength hx (by rw [eqy5]; exact Ary9.1) (State.isArrayOf_alike hZ.alike Ary9.2.1) (g := (mkF m 25 #[rv a1, iv pi_y1, iv pl_y5, u_] [(.ref a1), (.int pl_y5)])) rfl rfl (hb hby d23_25)) ?_
      rw [len_of say9 nay9]
      show FinH p e below s Z own_EL _ _ _ (Ty5.setTop (mkF m 26 #[rv a1, iv pi_y1, iv pl_y5, u_] [(.int pn), (.int pl_y5)]))
      by_cases hcy10 : pl_y5 < pn
      · refine FinH.step (fun _ k => Yo.icmpNo Xy5.here hx (hb hby d23_26) rfl (tlt (hcy10 : (pl_y5 < pn))).2.1 (Yo.iconst Xy5.here hx (hb hby d23_29) (Yo.goto Xy5.here hx (pc0 := 30) (pc' := 34) rfl (hb hby d23_30) (by decide) (by decide) (Yo.istoreN Xy5.here hx (hb hby d23_34) rfl (l' := #[rv a1, iv pi_y1, iv pl_y5, iv 1]) rfl (Yo.iloadN Xy5.here hx (hb hby d23_35) rfl (Yo.ifNo Xy5.here hx (hb hby d23_36) rfl ((if0 _ _).trans (feq ((by decide) : ¬ ((1 : Int32) = (0 : Int32)))).1) (Yo.aloadN Xy5.here hx (hb hby d23_39) rfl rfl (Yo.iloadN Xy5.here hx (hb hby d23_40) rfl k)))))))) ?_
        refine FinH.step (fun _ k => Yo.iloadN Xy5.here hx (hb hby d23_41) rfl (Yo.iloadN Xy5.here hx (hb hby d23_42) rfl (Yo.isub Xy5.here hx (hb hby d23_43) rfl k))) ?_
        show FinH p e below s Z own_EL _ _ _ (Ty5.setTop (mkF m 44 #[rv a1, iv pi_y1, iv pl_y5, iv 1] [(.int (pl_y5 - pi_y1)), (.int pi_y1), (.ref a1)]))
        obtain ⟨_, Ty11, Lcy11, Xy11, hQy11, sty11⟩ := packS (Jvm.LawKit.callS Xy5 hx (y := n34) hown (mvT hZ (W_ hw 159)) (mvT hZ (W_ hw 160)) (mvT hZ (W_ hw 41)) (mvT hZ (W_ hw 161)) (by decide) (backOf (W := 0) (rmns l Z a0 hw [] a1 pi_y1 (pl_y5 - pi_y1) kb pn vs pl_y5 h0 n0 Z0 HV_a1 hn ppy1_0.1 GX.2.1 ppy5_0.2.1 (Or.inr (fun q => own_ltne hcy10 q)) rfl) hZ (W_ hw 161) (W_ hw 41) (by decide) (by decide)) (g := (mkF m 44 #[rv a1, iv pi_y1, iv pl_y5, iv 1] [(.int (pl_y5 - pi_y1)), (.int pi_y1), (.ref a1)])) rfl (by rw [hml]; rfl) (argsL := [(.ref a1), (.int pi_y1), (.int (pl_y5 - pi_y1))]) (rest := []) (lenOf pd_18 rfl) rfl (lb rfl) (hb hby d23_44) (fun _ _ => ⟨rfl, eqy5, (by decide : 0 + 2 ≤ _), (by decide : 0 + 12 ≤ _)⟩))
        obtain ⟨nb_y11, kn_y11, by11, rfl, bzy11, bfy11_0, Nqy11, Kcy11, fy11_0, fy11_1, fy11_2, fy11_3⟩ := hQy11
        have Ny11 := Fr.app Ny5 Nqy11
        have gzy11 : n0 ≤ by11 := Nat.le_trans Z0 bzy11
        have szy11 : h0.size ≤ by11 := Nat.le_trans K0.1 bzy11
        have gzy11_0 : n0 ≤ nb_y11 := Nat.le_trans Z0 bfy11_0
        have szy11_0 : h0.size ≤ nb_y11 := Nat.le_trans K0.1 bfy11_0
        have CHy11 := CH0.trans (CHr.keep Kcy11 all0 CH0.1)
        have Zy11 := Nat.le_trans Z0 Kcy11.1
        have Ky11 := K0.trans Kcy11 all0
        refine FinH.step (sty11) ?_
        show FinH p e below s Z own_EL _ _ _ (Ty11.setTop (mkF m 47 #[rv a1, iv pi_y1, iv pl_y5, iv 1] [(.ref by11)]))
        refine FinH.step (fun _ k => Yo.goto Xy11.here hx (pc0 := 47) (pc' := 51) rfl (hb hby d23_47) (by decide) (by decide) k) ?_
        have hky12 := (Nat.le_trans (Nat.zero_le _) Kcy11.1)
        refine FinH.retR (s := s) (vm₁ := s.vm) Xy11 ((State.WarmedH.refl s).since 0) hky12 hZ hEL (by rw [hsh]; exact CHy11) hx hret rfl rfl hlk (hb hby d23_51) (by decide) (by decide) ?_
        show Qls Z a1 kb pn vs ci aa kA h0 n0 _ Ty11.heap _
        exact ⟨(.ref by11), rfl, Ny11, Ky11, (Or.inr ⟨by11, nb_y11, kn_y11, (pl_y5 - pi_y1), (own_cq vs pi_y1.toNatClampNeg (pl_y5 - pi_y1).toNatClampNeg), rfl, fy11_0, fy11_1, fy11_2, fy11_3, own_stC hn ppy1_0 ppy5_0 hcy3, own_cqc _ _ _ hcv, (own_rng8 hn ppy1_0.1 GX.2.1 ppy5_0.2.1).1, (own_rng8 hn ppy1_0.1 GX.2.1 ppy5_0.2.1).2⟩)⟩
      · refine FinH.step (fun _ k => Yo.icmpYes Xy5.here hx (pc0 := 26) (pc' := 33) rfl (hb hby d23_26) rfl (flt (hcy10 : ¬ (pl_y5 < pn))).2.1 (by decide) (by decide) (Yo.iconst Xy5.here hx (hb hby d23_33) (Yo.istoreN Xy5.here hx (hb hby d23_34) rfl (l' := #[rv a1, iv pi_y1, iv pl_y5, iv 0]) rfl (Yo.iloadN Xy5.here hx (hb hby d23_35) rfl (Yo.ifYes Xy5.here hx (pc0 := 36) (pc' := 50) rfl (hb hby d23_36) rfl ((if0 _ _).trans (teq ((by decide) : ((0 : Int32) = (0 : Int32)))).1) (by decide) (by decide) (Yo.aconstNull Xy5.here hx (hb hby d23_50) k)))))) ?_
        refine FinH.retR (s := s) (vm₁ := s.vm) Xy5 ((State.WarmedH.refl s).since 0) (by rw [eqy5]; exact (Nat.zero_le _)) hZ hEL (by rw [hsh, eqy5]; exact CH0) hx hret rfl rfl hlk (hb hby d23_51) (by decide) (by decide) ?_
        show Qls Z a1 kb pn vs ci aa kA h0 n0 _ Ty5.heap _
        rw [eqy5]
        exact ⟨.null, rfl, Ny5, K0, (Or.inl ⟨rfl, own_stB ppy1_0 ppy5_0 hcy3 hcy6 hcy10⟩)⟩
theorem pn_22 : plainName "java/lang/String" = true := by first | (simp [plainName, overriddenIn]; done) | decide +kernel
theorem d22_0 : decode jdk_42_method_154_code 0 = .ok (.getstatic 38, 3) := by decide +kernel
theorem d22_3 : decode jdk_42_method_154_code 3 = .ok (.ifCond .eq 14, 3) := by decide +kernel
theorem d22_6 : decode jdk_42_method_154_code 6 = .ok (.aload_n 0, 1) := by decide +kernel
theorem d22_7 : decode jdk_42_method_154_code 7 = .ok (.getfield 15, 3) := by decide +kernel
theorem d22_10 : decode jdk_42_method_154_code 10 = .ok (.ifCond .ne 7, 3) := by decide +kernel
theorem d22_13 : decode jdk_42_method_154_code 13 = .ok (.iconst 1, 1) := by decide +kernel
theorem d22_14 : decode jdk_42_method_154_code 14 = .ok (.goto 4, 3) := by decide +kernel
theorem d22_18 : decode jdk_42_method_154_code 18 = .ok (.ireturn, 1) := by decide +kernel
theorem ef_rms1 (m : MethodId) (x0 : Addr) : entryFrame m #[(.ref x0)] 1 = mkF m 0 #[.val (.ref x0)] [] := by first | (simp [entryFrame, mkF, argsToLocals, Value.category]; done) | rfl
abbrev R_rms1 : Room := ({ frames := 0, cells := 0, slots := 0, locals := 0 } : Room)
def Qs1 (Z : State) (a1 : Addr) (wc : Int32) (h0 : Heap) (n0 : Nat) (v : Option Value) (h : Heap) (L : List Loc) : Prop := v = some (.int 1) ∧ Fr n0 L ∧ h = h0
set_option maxRecDepth 65536 in
set_option maxHeartbeats 40000000 in
theorem rms1 (l : Launch) (Z : State) (a0 : Array Value) (hw : ∀ d ∈ tables_1, d.before a0 Z = true) (ws : List Jvm.Cond) (a1 : Addr) (wc : Int32) (h0 : Heap) (n0 : Nat) (Z0 : n0 ≤ h0.size) (HS_java_lang_String_COMPACT_STRINGS : Sta Z h0 q2 q9 "Z" (.int wc)) (HF_a1_coder : Fld Z h0 a1 q2 "coder" "B" (.int 0)) (hwc : ¬ wc = 0) :
    Met1 l n22 jdk_42_method_154_code 1 (some .boolean) ws R_rms1 #[(.ref a1)] Z h0 (Qs1 Z a1 wc h0 n0) := by
  refine Met1.enter (plainFor_of_name pn_22) (fun m => ef_rms1 m a1) fun p e s m below meth c s₁ hx hby hlk hret hml hown hnm hZ X0 e0 => ?_
  have N0 := Fr.nil n0
  have K0 : Keep h0 h0 [] := Keep.refl h0 _
  show Fin p e below s _ _ _ (s₁.setTop (mkF m 0 #[rv a1] []))
  obtain ⟨Ty1, Xy1, ey1, sty1⟩ := getS2 X0 hx hZ hown (host := "") (Or.inl (W_ hw 20)) Via.refl e0 HS_java_lang_String_COMPACT_STRINGS (g := (mkF m 0 #[rv a1] [])) rfl (hb hby d22_0)
  refine Fin.step (sty1) ?_
  show Fin p e below s _ _ _ (Ty1.setTop (mkF m 3 #[rv a1] [(.int wc)]))
  refine Fin.step (fun _ k => Yo.ifNo Xy1.here hx (hb hby d22_3) rfl ((if0 _ _).trans (feq (hwc : ¬ (wc = (0 : Int32)))).1) (Yo.aloadN Xy1.here hx (hb hby d22_6) rfl rfl k)) ?_
  refine fget Xy1 hx hZ hown (W_ hw 32) ey1 HF_a1_coder (hb hby d22_7) fun Ty2 Xy2 ey2 => ?_
  refine Fin.step (fun _ k => Yo.ifNo Xy2.here hx (hb hby d22_10) rfl ((if0 _ _).trans (teq ((by decide) : ((0 : Int32) = (0 : Int32)))).2) (Yo.iconst Xy2.here hx (hb hby d22_13) (Yo.goto Xy2.here hx (pc0 := 14) (pc' := 18) rfl (hb hby d22_14) (by decide) (by decide) k))) ?_
  refine Fin.retN Xy2 hx (t := .boolean) hret (by simp) hlk (hb hby d22_18) (by decide) (by decide) ?_
  show Qs1 Z a1 wc h0 n0 _ Ty2.heap _
  rw [ey2]
  exact ⟨rfl, N0, rfl⟩
theorem pn_31 : plainName "java/lang/String" = true := by first | (simp [plainName, overriddenIn]; done) | decide +kernel
theorem d31_0 : decode jdk_42_method_152_code 0 = .ok (.getstatic 38, 3) := by decide +kernel
theorem d31_3 : decode jdk_42_method_152_code 3 = .ok (.ifCond .eq 10, 3) := by decide +kernel
theorem d31_6 : decode jdk_42_method_152_code 6 = .ok (.aload_n 0, 1) := by decide +kernel
theorem d31_7 : decode jdk_42_method_152_code 7 = .ok (.getfield 15, 3) := by decide +kernel
theorem d31_10 : decode jdk_42_method_152_code 10 = .ok (.goto 4, 3) := by decide +kernel
theorem d31_14 : decode jdk_42_method_152_code 14 = .ok (.ireturn, 1) := by decide +kernel
theorem ef_rmsc (m : MethodId) (x0 : Addr) : entryFrame m #[(.ref x0)] 1 = mkF m 0 #[.val (.ref x0)] [] := by first | (simp [entryFrame, mkF, argsToLocals, Value.category]; done) | rfl
abbrev R_rmsc : Room := ({ frames := 0, cells := 0, slots := 0, locals := 0 } : Room)
def Qsc (Z : State) (a1 : Addr) (wc : Int32) (h0 : Heap) (n0 : Nat) (v : Option Value) (h : Heap) (L : List Loc) : Prop := v = some (.int 0) ∧ Fr n0 L ∧ h = h0
set_option maxRecDepth 65536 in
set_option maxHeartbeats 40000000 in
theorem rmsc (l : Launch) (Z : State) (a0 : Array Value) (hw : ∀ d ∈ tables_1, d.before a0 Z = true) (ws : List Jvm.Cond) (a1 : Addr) (wc : Int32) (h0 : Heap) (n0 : Nat) (Z0 : n0 ≤ h0.size) (HS_java_lang_String_COMPACT_STRINGS : Sta Z h0 q2 q9 "Z" (.int wc)) (HF_a1_coder : Fld Z h0 a1 q2 "coder" "B" (.int 0)) (hwc : ¬ wc = 0) :
    Met1 l n31 jdk_42_method_152_code 1 (some .byte) ws R_rmsc #[(.ref a1)] Z h0 (Qsc Z a1 wc h0 n0) := by
  refine Met1.enter (plainFor_of_name pn_31) (fun m => ef_rmsc m a1) fun p e s m below meth c s₁ hx hby hlk hret hml hown hnm hZ X0 e0 => ?_
  have N0 := Fr.nil n0
  have K0 : Keep h0 h0 [] := Keep.refl h0 _
  show Fin p e below s _ _ _ (s₁.setTop (mkF m 0 #[rv a1] []))
  obtain ⟨Ty1, Xy1, ey1, sty1⟩ := getS2 X0 hx hZ hown (host := "") (Or.inl (W_ hw 20)) Via.refl e0 HS_java_lang_String_COMPACT_STRINGS (g := (mkF m 0 #[rv a1] [])) rfl (hb hby d31_0)
  refine Fin.step (sty1) ?_
  show Fin p e below s _ _ _ (Ty1.setTop (mkF m 3 #[rv a1] [(.int wc)]))
  refine Fin.step (fun _ k => Yo.ifNo Xy1.here hx (hb hby d31_3) rfl ((if0 _ _).trans (feq (hwc : ¬ (wc = (0 : Int32)))).1) (Yo.aloadN Xy1.here hx (hb hby d31_6) rfl rfl k)) ?_
  refine fget Xy1 hx hZ hown (W_ hw 32) ey1 HF_a1_coder (hb hby d31_7) fun Ty2 Xy2 ey2 => ?_
  refine Fin.step (fun _ k => Yo.goto Xy2.here hx (pc0 := 10) (pc' := 14) rfl (hb hby d31_10) (by decide) (by decide) k) ?_
  refine Fin.retN Xy2 hx (t := .byte) hret (by simp) hlk (hb hby d31_14) (by decide) (by decide) ?_
  show Qsc Z a1 wc h0 n0 _ Ty2.heap _
  rw [ey2]
  exact ⟨rfl, N0, rfl⟩
theorem pn_21 : plainName "java/lang/String" = true := by first | (simp [plainName, overriddenIn]; done) | decide +kernel
theorem d21_0 : decode jdk_42_method_114_code 0 = .ok (.aload_n 0, 1) := by decide +kernel
theorem d21_1 : decode jdk_42_method_114_code 1 = .ok (.invokevirtual 492, 3) := by decide +kernel
theorem pd_19 : parseMethodDescriptor "()Z" = some ⟨[], some .boolean⟩ := by decide +kernel
theorem d21_4 : decode jdk_42_method_114_code 4 = .ok (.ifCond .eq 13, 3) := by decide +kernel
theorem d21_7 : decode jdk_42_method_114_code 7 = .ok (.aload_n 0, 1) := by decide +kernel
theorem d21_8 : decode jdk_42_method_114_code 8 = .ok (.getfield 9, 3) := by decide +kernel
theorem d21_11 : decode jdk_42_method_114_code 11 = .ok (.invokestatic 864, 3) := by decide +kernel
theorem pd_20 : parseMethodDescriptor "([B)Ljava/lang/String;" = some ⟨[(.array .byte)], some (.object "java/lang/String")⟩ := by decide +kernel
theorem d21_14 : decode jdk_42_method_114_code 14 = .ok (.goto 10, 3) := by decide +kernel
theorem d21_24 : decode jdk_42_method_114_code 24 = .ok (.astore_n 1, 1) := by decide +kernel
theorem d21_25 : decode jdk_42_method_114_code 25 = .ok (.aload_n 1, 1) := by decide +kernel
theorem d21_26 : decode jdk_42_method_114_code 26 = .ok (.ifnonnull 7, 3) := by decide +kernel
theorem d21_29 : decode jdk_42_method_114_code 29 = .ok (.aload_n 0, 1) := by decide +kernel
theorem d21_30 : decode jdk_42_method_114_code 30 = .ok (.goto 4, 3) := by decide +kernel
theorem d21_34 : decode jdk_42_method_114_code 34 = .ok (.areturn, 1) := by decide +kernel
theorem d21_33 : decode jdk_42_method_114_code 33 = .ok (.aload_n 1, 1) := by decide +kernel
theorem ef_rmst (m : MethodId) (x0 : Addr) : entryFrame m #[(.ref x0)] 2 = mkF m 0 #[.val (.ref x0), .unset] [] := by first | (simp [entryFrame, mkF, argsToLocals, Value.category]; done) | rfl
abbrev R_rmst : Room := ({ frames := 5, cells := 2, slots := 12, locals := 79 } : Room)
def Qst (Z : State) (a1 ab : Addr) (kb : ClassId) (pn : Int32) (vs : List Value) (ci aa : Addr) (kA : ClassId) (wc : Int32) (h0 : Heap) (n0 : Nat) (v : Option Value) (h : Heap) (L : List Loc) : Prop := ∃ so : Addr, ∃ nb : Addr, ∃ kn : ClassId, ∃ pm : Int32, ∃ wl : List Value, v = some (.ref so) ∧ Fr n0 L ∧ Keep h0 h [] ∧ Exa Z h so q2 ∧ Fld Z h so q2 "coder" "B" (.int 0) ∧ Fld Z h so q2 "value" "[B" (.ref nb) ∧ Arv Z h nb kn .byte pm wl (.int 0) ∧ own_st pn vs pm wl ∧ own_chs wl ∧ 0 ≤ pm.toInt ∧ pm.toInt ≤ 8
set_option maxRecDepth 65536 in
set_option maxHeartbeats 40000000 in
theorem rmst (l : Launch) (Z : State) (a0 : Array Value) (hw : ∀ d ∈ tables_1, d.before a0 Z = true) (ws : List Jvm.Cond) (a1 ab : Addr) (kb : ClassId) (pn : Int32) (vs : List Value) (ci aa : Addr) (kA : ClassId) (wc : Int32) (h0 : Heap) (n0 : Nat) (Z0 : n0 ≤ h0.size) (HE_a1 : Exa Z h0 a1 q2) (HF_a1_coder : Fld Z h0 a1 q2 "coder" "B" (.int 0)) (HF_a1_value : Fld Z h0 a1 q2 "value" "[B" (.ref ab)) (HV_ab : Arv Z h0 ab kb .byte pn vs (.int 0)) (HS_java_lang_CharacterDataLatin1_instance : Sta Z h0 q4 "instance" "Ljava/lang/CharacterDataLatin1;" (.ref ci)) (HE_ci : Exa Z h0 ci q4) (HS_java_lang_CharacterDataLatin1_A : Sta Z h0 q4 "A" "[I" (.ref aa)) (HV_aa : Arv Z h0 aa kA .int (256 : Int32) own_AL (.int 0)) (HS_java_lang_String_COMPACT_STRINGS : Sta Z h0 q2 q9 "Z" (.int wc)) (hwc : ¬ wc = 0) (hn : 0 ≤ pn.toInt ∧ pn.toInt ≤ 8) (hcv : own_chs vs) :
    Met1H l n21 jdk_42_method_114_code 2 (some (.object "java/lang/String")) ws R_rmst #[(.ref a1)] Z h0 own_EL (Qst Z a1 ab kb pn vs ci aa kA wc h0 n0) := by
  refine Met1H.enter (plainFor_of_name pn_21) (fun m => ef_rmst m a1) fun p e s m below meth c s₁ hx hby hlk hret hml hown hnm hZ X0 e0 hsh hch => ?_
  have N0 := Fr.nil n0
  have K0 : Keep h0 h0 [] := Keep.refl h0 _
  have hEL := own_EW hw
  have wS := own_wS hw
  have CH0 := CHr.refl hch
  show FinH p e below s Z own_EL _ _ _ (s₁.setTop (mkF m 0 #[rv a1, u_] []))
  refine FinH.step (fun _ k => Yo.aloadN X0.here hx (hb hby d21_0) rfl rfl k) ?_
  obtain ⟨cqy1, kqy1, qy1a, qy1b, qy1c⟩ := isOf hZ e0 HE_a1
  obtain ⟨_, Ty1, Lcy1, Xy1, hQy1, sty1⟩ := pack (X0.virtualBack hx (y := n22) (z := n22) hown (mvT hZ (W_ hw 103)) (mvT hZ (W_ hw 104)) (notFace_of_selects (args := #[]) (mvT hZ (W_ hw 106))) (mvT hZ (W_ hw 106)) (mvT hZ (W_ hw 105)) (by decide) (backOf (W := 0) (rms1 l Z a0 hw [] a1 wc h0 n0 Z0 HS_java_lang_String_COMPACT_STRINGS HF_a1_coder hwc) hZ (W_ hw 107) (W_ hw 9) (by decide) (by decide)) qy1a qy1c (g := (mkF m 1 #[rv a1, u_] [(.ref a1)])) rfl (by rw [hml]; rfl) (Steps.refl _) (argsL := []) (rest := []) (lenOf pd_19 rfl) rfl (lb rfl) (hb hby d21_1) (fun _ _ => ⟨rfl, e0, (by decide : 0 + 0 ≤ _), (by decide : 0 + 0 ≤ _)⟩))
  obtain ⟨rfl, Nqy1, eqy1⟩ := hQy1
  have Ny1 := Fr.app N0 Nqy1
  refine FinH.step (sty1) ?_
  show FinH p e below s Z own_EL _ _ _ (Ty1.setTop (mkF m 4 #[rv a1, u_] [(.int 1)]))
  refine FinH.step (fun _ k => Yo.ifNo Xy1.here hx (hb hby d21_4) rfl ((if0 _ _).trans (feq ((by decide) : ¬ ((1 : Int32) = (0 : Int32)))).1) (Yo.aloadN Xy1.here hx (hb hby d21_7) rfl rfl k)) ?_
  obtain ⟨Ty2, Xy2, ey2, sty2⟩ := getF Xy1 hx hZ hown (host := "") (Or.inl (W_ hw 34)) Via.refl eqy1 HF_a1_value (g := (mkF m 8 #[rv a1, u_] [(.ref a1)])) rfl rfl (hb hby d21_8)
  refine FinH.step (sty2) ?_
  show FinH p e below s Z own_EL _ _ _ (Ty2.setTop (mkF m 11 #[rv a1, u_] [(.ref ab)]))
  obtain ⟨_, Ty3, Lcy3, Xy3, hSy3, hZ, hown, hQy3, CHcy3, sty3⟩ := packH (s := s) (vm0 := s.vm) ((State.WarmedH.refl s).since 0) (by rw [ey2]; exact (Nat.zero_le _)) hZ hown (callSS Xy2 hx (y := n23) hown (mvT hZ (W_ hw 108)) (mvT hZ (W_ hw 109)) (mvT hZ (W_ hw 41)) (mvT hZ (W_ hw 110)) (by decide) (backOfSH (s := s) (vm0 := s.vm) (W := 0) (rmls l Z a0 hw [] ab kb pn vs ci aa kA h0 n0 Z0 HV_ab HS_java_lang_CharacterDataLatin1_instance HE_ci HS_java_lang_CharacterDataLatin1_A HV_aa hn hcv) hZ (W_ hw 110) (W_ hw 41) (by decide) (by decide) hEL CH0.1) (g := (mkF m 11 #[rv a1, u_] [(.ref ab)])) rfl (by rw [hml]; rfl) (argsL := [(.ref ab)]) (rest := []) (lenOf pd_20 rfl) rfl (lb rfl) (hb hby d21_11) (fun _ _ => ⟨rfl, ey2, (by decide : 0 + 2 ≤ _), (by decide : 0 + 12 ≤ _)⟩))
  replace hZ : Z.Warmed39 (s.setVm Ty3.vm).vm := hZ
  replace hown : (s.setVm Ty3.vm).vm.findClass q2 = some m.cls := hown
  obtain ⟨rv_y3, rfl, Nqy3, Kcy3, ppy3_0⟩ := hQy3
  have Ny3 := Fr.app Ny1 Nqy3
  have CHy3 := CH0.trans CHcy3
  have Zy3 := Nat.le_trans Z0 Kcy3.1
  have Ky3 := K0.trans Kcy3 all0
  refine FinH.step (sty3) ?_
  show FinH p e below s Z own_EL _ _ _ (Ty3.setTop (mkF m 14 #[rv a1, u_] [rv_y3]))
  refine FinH.step (fun _ k => Yo.goto Xy3.here hx (pc0 := 14) (pc' := 24) rfl (hb hby d21_14) (by decide) (by decide) k) ?_
  rcases ppy3_0 with ⟨rfl, hst⟩ | ⟨sq, nq, kq, pq, wq, rfl, hq1, hq2, hq3, hq4, hst, hcw, hp0, hp8⟩
  · show FinH p e below s Z own_EL _ _ _ (Ty3.setTop (mkF m 24 #[rv a1, u_] [.null]))
    refine FinH.step (fun _ k => Yo.astoreN Xy3.here hx (hb hby d21_24) rfl rfl (l' := #[rv a1, .val .null]) rfl (Yo.aloadN Xy3.here hx (hb hby d21_25) rfl rfl (Yo.ifnonnullNo Xy3.here hx (hb hby d21_26) rfl (Yo.aloadN Xy3.here hx (hb hby d21_29) rfl rfl (Yo.goto Xy3.here hx (pc0 := 30) (pc' := 34) rfl (hb hby d21_30) (by decide) (by decide) k))))) ?_
    refine FinH.retR Xy3 hSy3 (Nat.le_refl _) hZ hEL (by rw [hsh]; exact CHy3) hx hret rfl rfl hlk (hb hby d21_34) (by decide) (by decide) ?_
    show Qst Z a1 ab kb pn vs ci aa kA wc h0 n0 _ Ty3.heap _
    exact ⟨a1, ab, kb, pn, vs, rfl, Ny3, Ky3, (HE_a1.keep Kcy3), (HF_a1_coder.keep Kcy3 nin0), (HF_a1_value.keep Kcy3 nin0), (HV_ab.keep Kcy3 nin0), hst, hcv, hn⟩
  · show FinH p e below s Z own_EL _ _ _ (Ty3.setTop (mkF m 24 #[rv a1, u_] [(.ref sq)]))
    refine FinH.step (fun _ k => Yo.astoreN Xy3.here hx (hb hby d21_24) rfl rfl (l' := #[rv a1, rv sq]) rfl (Yo.aloadN Xy3.here hx (hb hby d21_25) rfl rfl (Yo.ifnonnullYes Xy3.here hx (pc0 := 26) (pc' := 33) rfl (hb hby d21_26) rfl (by decide) (by decide) (Yo.aloadN Xy3.here hx (hb hby d21_33) rfl rfl k)))) ?_
    refine FinH.retR Xy3 hSy3 (Nat.le_refl _) hZ hEL (by rw [hsh]; exact CHy3) hx hret rfl rfl hlk (hb hby d21_34) (by decide) (by decide) ?_
    show Qst Z a1 ab kb pn vs ci aa kA wc h0 n0 _ Ty3.heap _
    exact ⟨sq, nq, kq, pq, wq, rfl, Ny3, Ky3, hq1, hq2, hq3, hq4, hst, hcw, ⟨hp0, hp8⟩⟩
theorem pn_33 : plainName "java/lang/CharacterDataLatin1" = true := by first | (simp [plainName, overriddenIn]; done) | decide +kernel
theorem d33_0 : decode jdk_116_method_22_code 0 = .ok (.iload_n 0, 1) := by decide +kernel
theorem d33_1 : decode jdk_116_method_22_code 1 = .ok (.iload_n 1, 1) := by decide +kernel
theorem d33_2 : decode jdk_116_method_22_code 2 = .ok (.if_icmp .ne 5, 3) := by decide +kernel
theorem d33_5 : decode jdk_116_method_22_code 5 = .ok (.iconst 1, 1) := by decide +kernel
theorem d33_6 : decode jdk_116_method_22_code 6 = .ok (.ireturn, 1) := by decide +kernel
theorem d33_7 : decode jdk_116_method_22_code 7 = .ok (.iload_n 0, 1) := by decide +kernel
theorem d33_8 : decode jdk_116_method_22_code 8 = .ok (.sipush 223, 3) := by decide +kernel
theorem d33_11 : decode jdk_116_method_22_code 11 = .ok (.iand, 1) := by decide +kernel
theorem d33_12 : decode jdk_116_method_22_code 12 = .ok (.istore_n 2, 1) := by decide +kernel
theorem d33_13 : decode jdk_116_method_22_code 13 = .ok (.iload_n 2, 1) := by decide +kernel
theorem d33_14 : decode jdk_116_method_22_code 14 = .ok (.bipush 65, 2) := by decide +kernel
theorem d33_16 : decode jdk_116_method_22_code 16 = .ok (.if_icmp .ge 5, 3) := by decide +kernel
theorem d33_19 : decode jdk_116_method_22_code 19 = .ok (.iconst 0, 1) := by decide +kernel
theorem d33_20 : decode jdk_116_method_22_code 20 = .ok (.ireturn, 1) := by decide +kernel
theorem d33_21 : decode jdk_116_method_22_code 21 = .ok (.iload_n 2, 1) := by decide +kernel
theorem d33_22 : decode jdk_116_method_22_code 22 = .ok (.bipush 90, 2) := by decide +kernel
theorem d33_24 : decode jdk_116_method_22_code 24 = .ok (.if_icmp .le 24, 3) := by decide +kernel
theorem d33_27 : decode jdk_116_method_22_code 27 = .ok (.iload_n 2, 1) := by decide +kernel
theorem d33_28 : decode jdk_116_method_22_code 28 = .ok (.sipush 192, 3) := by decide +kernel
theorem d33_31 : decode jdk_116_method_22_code 31 = .ok (.if_icmp .lt 30, 3) := by decide +kernel
theorem d33_61 : decode jdk_116_method_22_code 61 = .ok (.iconst 0, 1) := by decide +kernel
theorem d33_62 : decode jdk_116_method_22_code 62 = .ok (.ireturn, 1) := by decide +kernel
theorem d33_34 : decode jdk_116_method_22_code 34 = .ok (.iload_n 2, 1) := by decide +kernel
theorem d33_35 : decode jdk_116_method_22_code 35 = .ok (.sipush 222, 3) := by decide +kernel
theorem d33_38 : decode jdk_116_method_22_code 38 = .ok (.if_icmp .gt 23, 3) := by decide +kernel
theorem d33_41 : decode jdk_116_method_22_code 41 = .ok (.iload_n 2, 1) := by decide +kernel
theorem d33_42 : decode jdk_116_method_22_code 42 = .ok (.sipush 215, 3) := by decide +kernel
theorem d33_45 : decode jdk_116_method_22_code 45 = .ok (.if_icmp .eq 16, 3) := by decide +kernel
theorem d33_48 : decode jdk_116_method_22_code 48 = .ok (.iload_n 2, 1) := by decide +kernel
theorem d33_49 : decode jdk_116_method_22_code 49 = .ok (.iload_n 1, 1) := by decide +kernel
theorem d33_50 : decode jdk_116_method_22_code 50 = .ok (.sipush 223, 3) := by decide +kernel
theorem d33_53 : decode jdk_116_method_22_code 53 = .ok (.iand, 1) := by decide +kernel
theorem d33_54 : decode jdk_116_method_22_code 54 = .ok (.if_icmp .ne 7, 3) := by decide +kernel
theorem d33_57 : decode jdk_116_method_22_code 57 = .ok (.iconst 1, 1) := by decide +kernel
theorem d33_58 : decode jdk_116_method_22_code 58 = .ok (.goto 4, 3) := by decide +kernel
theorem ef_rmci (m : MethodId) (x0 : Int32) (x1 : Int32) : entryFrame m #[(.int x0), (.int x1)] 3 = mkF m 0 #[.val (.int x0), .val (.int x1), .unset] [] := by first | (simp [entryFrame, mkF, argsToLocals, Value.category]; done) | rfl
abbrev R_rmci : Room := ({ frames := 0, cells := 0, slots := 0, locals := 0 } : Room)
def Qci (Z : State) (pa pb : Int32) (h0 : Heap) (n0 : Nat) (v : Option Value) (h : Heap) (L : List Loc) : Prop := v = some (.int (own_ci pa pb)) ∧ Fr n0 L ∧ h = h0
set_option maxRecDepth 65536 in
set_option maxHeartbeats 40000000 in
theorem rmci (l : Launch) (Z : State) (a0 : Array Value) (hw : ∀ d ∈ tables_1, d.before a0 Z = true) (ws : List Jvm.Cond) (pa pb : Int32) (h0 : Heap) (n0 : Nat) (Z0 : n0 ≤ h0.size) :
    Met1 l n33 jdk_116_method_22_code 3 (some .boolean) ws R_rmci #[(.int pa), (.int pb)] Z h0 (Qci Z pa pb h0 n0) := by
  refine Met1.enter (plainFor_of_name pn_33) (fun m => ef_rmci m pa pb) fun p e s m below meth c s₁ hx hby hlk hret hml hown hnm hZ X0 e0 => ?_
  have N0 := Fr.nil n0
  have K0 : Keep h0 h0 [] := Keep.refl h0 _
  show Fin p e below s _ _ _ (s₁.setTop (mkF m 0 #[iv pa, iv pb, u_] []))
  refine Fin.step (fun _ k => Yo.iloadN X0.here hx (hb hby d33_0) rfl (Yo.iloadN X0.here hx (hb hby d33_1) rfl k)) ?_
  by_cases hcy1 : pa = pb
  · refine Fin.step (fun _ k => Yo.icmpNo X0.here hx (hb hby d33_2) rfl (teq (hcy1 : (pa = pb))).2 (Yo.iconst X0.here hx (hb hby d33_5) k)) ?_
    refine Fin.retN X0 hx (t := .boolean) hret (by simp) hlk (hb hby d33_6) (by decide) (by decide) ?_
    show Qci Z pa pb h0 n0 _ s₁.heap _
    rw [e0]
    exact ⟨(congrArg (fun z => some (Value.int z)) (by rw [own_ci, if_pos hcy1]; first | done | rfl)), N0, rfl⟩
  · refine Fin.step (fun _ k => Yo.icmpYes X0.here hx (pc0 := 2) (pc' := 7) rfl (hb hby d33_2) rfl (feq (hcy1 : ¬ (pa = pb))).2 (by decide) (by decide) (Yo.iloadN X0.here hx (hb hby d33_7) rfl (Yo.sipush X0.here hx (hb hby d33_8) (Yo.iand X0.here hx (hb hby d33_11) rfl k)))) ?_
    show Fin p e below s _ _ _ (s₁.setTop (mkF m 12 #[iv pa, iv pb, u_] [(.int (pa &&& (223 : Int32)))]))
    refine Fin.step (fun _ k => Yo.istoreN X0.here hx (hb hby d33_12) rfl (l' := #[iv pa, iv pb, .val (.int (pa &&& (223 : Int32)))]) rfl (Yo.iloadN X0.here hx (hb hby d33_13) rfl (Yo.bipush X0.here hx (hb hby d33_14) k))) ?_
    by_cases hcy2 : (pa &&& (223 : Int32)) < (65 : Int32)
    · refine Fin.step (fun _ k => Yo.icmpNo X0.here hx (hb hby d33_16) rfl (tlt (hcy2 : ((pa &&& (223 : Int32)) < (65 : Int32)))).2.1 (Yo.iconst X0.here hx (hb hby d33_19) k)) ?_
      refine Fin.retN X0 hx (t := .boolean) hret (by simp) hlk (hb hby d33_20) (by decide) (by decide) ?_
      show Qci Z pa pb h0 n0 _ s₁.heap _
      rw [e0]
      exact ⟨(congrArg (fun z => some (Value.int z)) (by rw [own_ci, if_neg hcy1, if_pos hcy2]; first | done | rfl)), N0, rfl⟩
    · refine Fin.step (fun _ k => Yo.icmpYes X0.here hx (pc0 := 16) (pc' := 21) rfl (hb hby d33_16) rfl (flt (hcy2 : ¬ ((pa &&& (223 : Int32)) < (65 : Int32)))).2.1 (by decide) (by decide) (Yo.iloadN X0.here hx (hb hby d33_21) rfl (Yo.bipush X0.here hx (hb hby d33_22) k))) ?_
      by_cases hcy3 : (90 : Int32) < (pa &&& (223 : Int32))
      · refine Fin.step (fun _ k => Yo.icmpNo X0.here hx (hb hby d33_24) rfl (tlt (hcy3 : ((90 : Int32) < (pa &&& (223 : Int32))))).2.2.2 (Yo.iloadN X0.here hx (hb hby d33_27) rfl (Yo.sipush X0.here hx (hb hby d33_28) k))) ?_
        by_cases hcy4 : (pa &&& (223 : Int32)) < (192 : Int32)
        · refine Fin.step (fun _ k => Yo.icmpYes X0.here hx (pc0 := 31) (pc' := 61) rfl (hb hby d33_31) rfl (tlt (hcy4 : ((pa &&& (223 : Int32)) < (192 : Int32)))).1 (by decide) (by decide) (Yo.iconst X0.here hx (hb hby d33_61) k)) ?_
          refine Fin.retN X0 hx (t := .boolean) hret (by simp) hlk (hb hby d33_62) (by decide) (by decide) ?_
          show Qci Z pa pb h0 n0 _ s₁.heap _
          rw [e0]
          exact ⟨(congrArg (fun z => some (Value.int z)) (by rw [own_ci, if_neg hcy1, if_neg hcy2, if_pos hcy3, if_pos hcy4]; first | done | rfl)), N0, rfl⟩
        · refine Fin.step (fun _ k => Yo.icmpNo X0.here hx (hb hby d33_31) rfl (flt (hcy4 : ¬ ((pa &&& (223 : Int32)) < (192 : Int32)))).1 (Yo.iloadN X0.here hx (hb hby d33_34) rfl (Yo.sipush X0.here hx (hb hby d33_35) k))) ?_
          by_cases hcy5 : (222 : Int32) < (pa &&& (223 : Int32))
          · refine Fin.step (fun _ k => Yo.icmpYes X0.here hx (pc0 := 38) (pc' := 61) rfl (hb hby d33_38) rfl (tlt (hcy5 : ((222 : Int32) < (pa &&& (223 : Int32))))).2.2.1 (by decide) (by decide) (Yo.iconst X0.here hx (hb hby d33_61) k)) ?_
            refine Fin.retN X0 hx (t := .boolean) hret (by simp) hlk (hb hby d33_62) (by decide) (by decide) ?_
            show Qci Z pa pb h0 n0 _ s₁.heap _
            rw [e0]
            exact ⟨(congrArg (fun z => some (Value.int z)) (by rw [own_ci, if_neg hcy1, if_neg hcy2, if_pos hcy3, if_neg hcy4, if_pos hcy5]; first | done | rfl)), N0, rfl⟩
          · refine Fin.step (fun _ k => Yo.icmpNo X0.here hx (hb hby d33_38) rfl (flt (hcy5 : ¬ ((222 : Int32) < (pa &&& (223 : Int32))))).2.2.1 (Yo.iloadN X0.here hx (hb hby d33_41) rfl (Yo.sipush X0.here hx (hb hby d33_42) k))) ?_
            by_cases hcy6 : (pa &&& (223 : Int32)) = (215 : Int32)
            · refine Fin.step (fun _ k => Yo.icmpYes X0.here hx (pc0 := 45) (pc' := 61) rfl (hb hby d33_45) rfl (teq (hcy6 : ((pa &&& (223 : Int32)) = (215 : Int32)))).1 (by decide) (by decide) (Yo.iconst X0.here hx (hb hby d33_61) k)) ?_
              refine Fin.retN X0 hx (t := .boolean) hret (by simp) hlk (hb hby d33_62) (by decide) (by decide) ?_
              show Qci Z pa pb h0 n0 _ s₁.heap _
              rw [e0]
              exact ⟨(congrArg (fun z => some (Value.int z)) (by rw [own_ci, if_neg hcy1, if_neg hcy2, if_pos hcy3, if_neg hcy4, if_neg hcy5, if_pos hcy6]; first | done | rfl)), N0, rfl⟩
            · refine Fin.step (fun _ k => Yo.icmpNo X0.here hx (hb hby d33_45) rfl (feq (hcy6 : ¬ ((pa &&& (223 : Int32)) = (215 : Int32)))).1 (Yo.iloadN X0.here hx (hb hby d33_48) rfl (Yo.iloadN X0.here hx (hb hby d33_49) rfl (Yo.sipush X0.here hx (hb hby d33_50) (Yo.iand X0.here hx (hb hby d33_53) rfl k))))) ?_
              show Fin p e below s _ _ _ (s₁.setTop (mkF m 54 #[iv pa, iv pb, .val (.int (pa &&& (223 : Int32)))] [(.int (pb &&& (223 : Int32))), (.int (pa &&& (223 : Int32)))]))
              by_cases hcy7 : (pa &&& (223 : Int32)) = (pb &&& (223 : Int32))
              · refine Fin.step (fun _ k => Yo.icmpNo X0.here hx (hb hby d33_54) rfl (teq (hcy7 : ((pa &&& (223 : Int32)) = (pb &&& (223 : Int32))))).2 (Yo.iconst X0.here hx (hb hby d33_57) (Yo.goto X0.here hx (pc0 := 58) (pc' := 62) rfl (hb hby d33_58) (by decide) (by decide) k))) ?_
                refine Fin.retN X0 hx (t := .boolean) hret (by simp) hlk (hb hby d33_62) (by decide) (by decide) ?_
                show Qci Z pa pb h0 n0 _ s₁.heap _
                rw [e0]
                exact ⟨(congrArg (fun z => some (Value.int z)) (by rw [own_ci, if_neg hcy1, if_neg hcy2, if_pos hcy3, if_neg hcy4, if_neg hcy5, if_neg hcy6, if_pos hcy7]; first | done | rfl)), N0, rfl⟩
              · refine Fin.step (fun _ k => Yo.icmpYes X0.here hx (pc0 := 54) (pc' := 61) rfl (hb hby d33_54) rfl (feq (hcy7 : ¬ ((pa &&& (223 : Int32)) = (pb &&& (223 : Int32))))).2 (by decide) (by decide) (Yo.iconst X0.here hx (hb hby d33_61) k)) ?_
                refine Fin.retN X0 hx (t := .boolean) hret (by simp) hlk (hb hby d33_62) (by decide) (by decide) ?_
                show Qci Z pa pb h0 n0 _ s₁.heap _
                rw [e0]
                exact ⟨(congrArg (fun z => some (Value.int z)) (by rw [own_ci, if_neg hcy1, if_neg hcy2, if_pos hcy3, if_neg hcy4, if_neg hcy5, if_neg hcy6, if_neg hcy7]; first | done | rfl)), N0, rfl⟩
      · refine Fin.step (fun _ k => Yo.icmpYes X0.here hx (pc0 := 24) (pc' := 48) rfl (hb hby d33_24) rfl (flt (hcy3 : ¬ ((90 : Int32) < (pa &&& (223 : Int32))))).2.2.2 (by decide) (by decide) (Yo.iloadN X0.here hx (hb hby d33_48) rfl (Yo.iloadN X0.here hx (hb hby d33_49) rfl (Yo.sipush X0.here hx (hb hby d33_50) (Yo.iand X0.here hx (hb hby d33_53) rfl k))))) ?_
        show Fin p e below s _ _ _ (s₁.setTop (mkF m 54 #[iv pa, iv pb, .val (.int (pa &&& (223 : Int32)))] [(.int (pb &&& (223 : Int32))), (.int (pa &&& (223 : Int32)))]))
        by_cases hcy8 : (pa &&& (223 : Int32)) = (pb &&& (223 : Int32))
        · refine Fin.step (fun _ k => Yo.icmpNo X0.here hx (hb hby d33_54) rfl (teq (hcy8 : ((pa &&& (223 : Int32)) = (pb &&& (223 : Int32))))).2 (Yo.iconst X0.here hx (hb hby d33_57) (Yo.goto X0.here hx (pc0 := 58) (pc' := 62) rfl (hb hby d33_58) (by decide) (by decide) k))) ?_
          refine Fin.retN X0 hx (t := .boolean) hret (by simp) hlk (hb hby d33_62) (by decide) (by decide) ?_
          show Qci Z pa pb h0 n0 _ s₁.heap _
          rw [e0]
          exact ⟨(congrArg (fun z => some (Value.int z)) (by rw [own_ci, if_neg hcy1, if_neg hcy2, if_neg hcy3, if_pos hcy8]; first | done | rfl)), N0, rfl⟩
        · refine Fin.step (fun _ k => Yo.icmpYes X0.here hx (pc0 := 54) (pc' := 61) rfl (hb hby d33_54) rfl (feq (hcy8 : ¬ ((pa &&& (223 : Int32)) = (pb &&& (223 : Int32))))).2 (by decide) (by decide) (Yo.iconst X0.here hx (hb hby d33_61) k)) ?_
          refine Fin.retN X0 hx (t := .boolean) hret (by simp) hlk (hb hby d33_62) (by decide) (by decide) ?_
          show Qci Z pa pb h0 n0 _ s₁.heap _
          rw [e0]
          exact ⟨(congrArg (fun z => some (Value.int z)) (by rw [own_ci, if_neg hcy1, if_neg hcy2, if_neg hcy3, if_neg hcy8]; first | done | rfl)), N0, rfl⟩
theorem own_i5 {j n : Int32} {k : Nat} (hj : j.toInt = k) (hk : k < 5) (h : ¬ n < 5) : ¬ j < 0 ∧ j < n := by
  rw [Int32.lt_iff_toInt_lt] at h
  rw [Int32.lt_iff_toInt_lt, Int32.lt_iff_toInt_lt]
  have z : ((5 : Int32)).toInt = 5 := rfl
  have z0 : ((0 : Int32)).toInt = 0 := rfl
  omega
theorem pn_32 : plainName "java/lang/StringLatin1" = true := by first | (simp [plainName, overriddenIn]; done) | decide +kernel
theorem d32_0 : decode jdk_43_method_30_code 0 = .ok (.iload_n 1, 1) := by decide +kernel
theorem d32_1 : decode jdk_43_method_30_code 1 = .ok (.iload 4, 2) := by decide +kernel
theorem d32_3 : decode jdk_43_method_30_code 3 = .ok (.iadd, 1) := by decide +kernel
theorem d32_4 : decode jdk_43_method_30_code 4 = .ok (.istore 5, 2) := by decide +kernel
theorem d32_6 : decode jdk_43_method_30_code 6 = .ok (.iload_n 1, 1) := by decide +kernel
theorem d32_7 : decode jdk_43_method_30_code 7 = .ok (.iload 5, 2) := by decide +kernel
theorem d32_9 : decode jdk_43_method_30_code 9 = .ok (.if_icmp .ge 34, 3) := by decide +kernel
theorem d32_12 : decode jdk_43_method_30_code 12 = .ok (.aload_n 0, 1) := by decide +kernel
theorem d32_13 : decode jdk_43_method_30_code 13 = .ok (.iload_n 1, 1) := by decide +kernel
theorem d32_14 : decode jdk_43_method_30_code 14 = .ok (.iinc 1 1, 3) := by decide +kernel
theorem d32_17 : decode jdk_43_method_30_code 17 = .ok (.baload, 1) := by decide +kernel
theorem d32_18 : decode jdk_43_method_30_code 18 = .ok (.istore 6, 2) := by decide +kernel
theorem d32_20 : decode jdk_43_method_30_code 20 = .ok (.aload_n 2, 1) := by decide +kernel
theorem d32_21 : decode jdk_43_method_30_code 21 = .ok (.iload_n 3, 1) := by decide +kernel
theorem d32_22 : decode jdk_43_method_30_code 22 = .ok (.iinc 3 1, 3) := by decide +kernel
theorem d32_25 : decode jdk_43_method_30_code 25 = .ok (.baload, 1) := by decide +kernel
theorem d32_26 : decode jdk_43_method_30_code 26 = .ok (.istore 7, 2) := by decide +kernel
theorem d32_28 : decode jdk_43_method_30_code 28 = .ok (.iload 6, 2) := by decide +kernel
theorem d32_30 : decode jdk_43_method_30_code 30 = .ok (.iload 7, 2) := by decide +kernel
theorem d32_32 : decode jdk_43_method_30_code 32 = .ok (.invokestatic 153, 3) := by decide +kernel
theorem pd_21 : parseMethodDescriptor "(BB)Z" = some ⟨[.byte, .byte], some .boolean⟩ := by decide +kernel
theorem d32_35 : decode jdk_43_method_30_code 35 = .ok (.ifCond .eq 6, 3) := by decide +kernel
theorem d32_41 : decode jdk_43_method_30_code 41 = .ok (.iconst 0, 1) := by decide +kernel
theorem d32_42 : decode jdk_43_method_30_code 42 = .ok (.ireturn, 1) := by decide +kernel
theorem d32_38 : decode jdk_43_method_30_code 38 = .ok (.goto (-32), 3) := by decide +kernel
theorem d32_43 : decode jdk_43_method_30_code 43 = .ok (.iconst 1, 1) := by decide +kernel
theorem d32_44 : decode jdk_43_method_30_code 44 = .ok (.ireturn, 1) := by decide +kernel
theorem ef_rmrc5 (m : MethodId) (x0 : Addr) (x2 : Addr) : entryFrame m #[(.ref x0), (.int (0 : Int32)), (.ref x2), (.int (0 : Int32)), (.int (5 : Int32))] 8 = mkF m 0 #[.val (.ref x0), .val (.int (0 : Int32)), .val (.ref x2), .val (.int (0 : Int32)), .val (.int (5 : Int32)), .unset, .unset, .unset] [] := by first | (simp [entryFrame, mkF, argsToLocals, Value.category]; done) | rfl
abbrev R_rmrc5 : Room := ({ frames := 1, cells := 0, slots := 0, locals := 14 } : Room)
def Qrc5 (Z : State) (a1 a3 : Addr) (kb : ClassId) (pn : Int32) (vs : List Value) (k3 : ClassId) (h0 : Heap) (n0 : Nat) (v : Option Value) (h : Heap) (L : List Loc) : Prop := v = some (.int (own_rx vs)) ∧ Fr n0 L ∧ h = h0
set_option maxRecDepth 65536 in
set_option maxHeartbeats 40000000 in
theorem rmrc5 (l : Launch) (Z : State) (a0 : Array Value) (hw : ∀ d ∈ tables_1, d.before a0 Z = true) (ws : List Jvm.Cond) (a1 a3 : Addr) (kb : ClassId) (pn : Int32) (vs : List Value) (k3 : ClassId) (h0 : Heap) (n0 : Nat) (Z0 : n0 ≤ h0.size) (HV_a1 : Arv Z h0 a1 kb .byte pn vs (.int 0)) (HV_a3 : Arv Z h0 a3 k3 .byte (5 : Int32) [(.int 120), (.int 112), (.int 97), (.int 116), (.int 104)] (.int 0)) (hcv : own_chs vs) (h5 : ¬ pn < 5) :
    Met1 l n32 jdk_43_method_30_code 8 (some .boolean) ws R_rmrc5 #[(.ref a1), (.int 0), (.ref a3), (.int 0), (.int 5)] Z h0 (Qrc5 Z a1 a3 kb pn vs k3 h0 n0) := by
  refine Met1.enter (plainFor_of_name pn_32) (fun m => ef_rmrc5 m a1 a3) fun p e s m below meth c s₁ hx hby hlk hret hml hown hnm hZ X0 e0 => ?_
  have N0 := Fr.nil n0
  have K0 : Keep h0 h0 [] := Keep.refl h0 _
  show Fin p e below s _ _ _ (s₁.setTop (mkF m 0 #[rv a1, iv 0, rv a3, iv 0, iv 5, u_, u_, u_] []))
  refine Fin.step (fun _ k => Yo.iloadN X0.here hx (hb hby d32_0) rfl (Yo.iload X0.here hx (hb hby d32_1) rfl (Yo.iadd X0.here hx (hb hby d32_3) rfl k))) ?_
  show Fin p e below s _ _ _ (s₁.setTop (mkF m 4 #[rv a1, iv 0, rv a3, iv 0, iv 5, u_, u_, u_] [(.int 5)]))
  refine Fin.step (fun _ k => Yo.istore X0.here hx (hb hby d32_4) rfl (l' := #[rv a1, iv 0, rv a3, iv 0, iv 5, iv 5, u_, u_]) rfl (Yo.iloadN X0.here hx (hb hby d32_6) rfl (Yo.iload X0.here hx (hb hby d32_7) rfl (Yo.icmpNo X0.here hx (hb hby d32_9) rfl (tlt ((by decide) : ((0 : Int32) < (5 : Int32)))).2.1 (Yo.aloadN X0.here hx (hb hby d32_12) rfl rfl (Yo.iloadN X0.here hx (hb hby d32_13) rfl (Yo.iinc X0.here hx (hb hby d32_14) rfl (l' := #[rv a1, iv 1, rv a3, iv 0, iv 5, iv 5, u_, u_]) rfl k))))))) ?_
  show Fin p e below s _ _ _ (s₁.setTop (mkF m 17 #[rv a1, iv 1, rv a3, iv 0, iv 5, iv 5, u_, u_] [(.int 0), (.ref a1)]))
  refine Fin.step (fun _ k => bld3 X0 hx hZ e0 (j := 0) (v := (.int (own_gt vs 0))) HV_a1 (own_i5 (k := 0) rfl (by decide) h5) (own_lg hcv 0) (hb hby d32_17) (Yo.istore X0.here hx (hb hby d32_18) rfl (l' := #[rv a1, iv 1, rv a3, iv 0, iv 5, iv 5, .val (.int (own_gt vs 0)), u_]) rfl (Yo.aloadN X0.here hx (hb hby d32_20) rfl rfl (Yo.iloadN X0.here hx (hb hby d32_21) rfl (Yo.iinc X0.here hx (hb hby d32_22) rfl (l' := #[rv a1, iv 1, rv a3, iv 1, iv 5, iv 5, .val (.int (own_gt vs 0)), u_]) rfl k))))) ?_
  show Fin p e below s _ _ _ (s₁.setTop (mkF m 25 #[rv a1, iv 1, rv a3, iv 1, iv 5, iv 5, .val (.int (own_gt vs 0)), u_] [(.int 0), (.ref a3)]))
  refine Fin.step (fun _ k => bld3 X0 hx hZ e0 (j := 0) (v := (.int 120)) HV_a3 ⟨by decide, by decide⟩ rfl (hb hby d32_25) (Yo.istore X0.here hx (hb hby d32_26) rfl (l' := #[rv a1, iv 1, rv a3, iv 1, iv 5, iv 5, .val (.int (own_gt vs 0)), iv 120]) rfl (Yo.iload X0.here hx (hb hby d32_28) rfl (Yo.iload X0.here hx (hb hby d32_30) rfl k)))) ?_
  obtain ⟨_, Ty3, Lcy3, Xy3, hQy3, sty3⟩ := packS (Jvm.LawKit.callS X0 hx (y := n33) hown (mvT hZ (W_ hw 154)) (mvT hZ (W_ hw 155)) (mvT hZ (W_ hw 118)) (mvT hZ (W_ hw 156)) (by decide) (backOf (W := 0) (rmci l Z a0 hw [] (own_gt vs 0) 120 h0 n0 Z0 ) hZ (W_ hw 156) (W_ hw 118) (by decide) (by decide)) (g := (mkF m 32 #[rv a1, iv 1, rv a3, iv 1, iv 5, iv 5, .val (.int (own_gt vs 0)), iv 120] [(.int 120), (.int (own_gt vs 0))])) rfl (by rw [hml]; rfl) (argsL := [(.int (own_gt vs 0)), (.int 120)]) (rest := []) (lenOf pd_21 rfl) rfl (lb rfl) (hb hby d32_32) (fun _ _ => ⟨rfl, e0, (by decide : 0 + 0 ≤ _), (by decide : 0 + 0 ≤ _)⟩))
  obtain ⟨rfl, Nqy3, eqy3⟩ := hQy3
  have Ny3 := Fr.app N0 Nqy3
  refine Fin.step (sty3) ?_
  show Fin p e below s _ _ _ (Ty3.setTop (mkF m 35 #[rv a1, iv 1, rv a3, iv 1, iv 5, iv 5, .val (.int (own_gt vs 0)), iv 120] [(.int (own_ci (own_gt vs 0) (120 : Int32)))]))
  by_cases hcy4 : (own_ci (own_gt vs 0) (120 : Int32)) = (0 : Int32)
  · refine Fin.step (fun _ k => Yo.ifYes Xy3.here hx (pc0 := 35) (pc' := 41) rfl (hb hby d32_35) rfl ((if0 _ _).trans (teq (hcy4 : ((own_ci (own_gt vs 0) (120 : Int32)) = (0 : Int32)))).1) (by decide) (by decide) (Yo.iconst Xy3.here hx (hb hby d32_41) k)) ?_
    refine Fin.retN Xy3 hx (t := .boolean) hret (by simp) hlk (hb hby d32_42) (by decide) (by decide) ?_
    show Qrc5 Z a1 a3 kb pn vs k3 h0 n0 _ Ty3.heap _
    rw [eqy3]
    exact ⟨(congrArg (fun z => some (Value.int z)) (by rw [own_rx, if_pos hcy4]; first | done | rfl)), Ny3, rfl⟩
  · refine Fin.step (fun _ k => Yo.ifNo Xy3.here hx (hb hby d32_35) rfl ((if0 _ _).trans (feq (hcy4 : ¬ ((own_ci (own_gt vs 0) (120 : Int32)) = (0 : Int32)))).1) (Yo.goto Xy3.here hx (pc0 := 38) (pc' := 6) rfl (hb hby d32_38) (by decide) (by decide) (Yo.iloadN Xy3.here hx (hb hby d32_6) rfl (Yo.iload Xy3.here hx (hb hby d32_7) rfl (Yo.icmpNo Xy3.here hx (hb hby d32_9) rfl (tlt ((by decide) : ((1 : Int32) < (5 : Int32)))).2.1 (Yo.aloadN Xy3.here hx (hb hby d32_12) rfl rfl (Yo.iloadN Xy3.here hx (hb hby d32_13) rfl (Yo.iinc Xy3.here hx (hb hby d32_14) rfl (l' := #[rv a1, iv 2, rv a3, iv 1, iv 5, iv 5, .val (.int (own_gt vs 0)), iv 120]) rfl k)))))))) ?_
    show Fin p e below s _ _ _ (Ty3.setTop (mkF m 17 #[rv a1, iv 2, rv a3, iv 1, iv 5, iv 5, .val (.int (own_gt vs 0)), iv 120] [(.int 1), (.ref a1)]))
    refine Fin.step (fun _ k => bld3 Xy3 hx hZ eqy3 (j := 1) (v := (.int (own_gt vs 1))) HV_a1 (own_i5 (k := 1) rfl (by decide) h5) (own_lg hcv 1) (hb hby d32_17) (Yo.istore Xy3.here hx (hb hby d32_18) rfl (l' := #[rv a1, iv 2, rv a3, iv 1, iv 5, iv 5, .val (.int (own_gt vs 1)), iv 120]) rfl (Yo.aloadN Xy3.here hx (hb hby d32_20) rfl rfl (Yo.iloadN Xy3.here hx (hb hby d32_21) rfl (Yo.iinc Xy3.here hx (hb hby d32_22) rfl (l' := #[rv a1, iv 2, rv a3, iv 2, iv 5, iv 5, .val (.int (own_gt vs 1)), iv 120]) rfl k))))) ?_
    show Fin p e below s _ _ _ (Ty3.setTop (mkF m 25 #[rv a1, iv 2, rv a3, iv 2, iv 5, iv 5, .val (.int (own_gt vs 1)), iv 120] [(.int 1), (.ref a3)]))
    refine Fin.step (fun _ k => bld3 Xy3 hx hZ eqy3 (j := 1) (v := (.int 112)) HV_a3 ⟨by decide, by decide⟩ rfl (hb hby d32_25) (Yo.istore Xy3.here hx (hb hby d32_26) rfl (l' := #[rv a1, iv 2, rv a3, iv 2, iv 5, iv 5, .val (.int (own_gt vs 1)), iv 112]) rfl (Yo.iload Xy3.here hx (hb hby d32_28) rfl (Yo.iload Xy3.here hx (hb hby d32_30) rfl k)))) ?_
    obtain ⟨_, Ty7, Lcy7, Xy7, hQy7, sty7⟩ := packS (Jvm.LawKit.callS Xy3 hx (y := n33) hown (mvT hZ (W_ hw 154)) (mvT hZ (W_ hw 155)) (mvT hZ (W_ hw 118)) (mvT hZ (W_ hw 156)) (by decide) (backOf (W := 0) (rmci l Z a0 hw [] (own_gt vs 1) 112 h0 n0 Z0 ) hZ (W_ hw 156) (W_ hw 118) (by decide) (by decide)) (g := (mkF m 32 #[rv a1, iv 2, rv a3, iv 2, iv 5, iv 5, .val (.int (own_gt vs 1)), iv 112] [(.int 112), (.int (own_gt vs 1))])) rfl (by rw [hml]; rfl) (argsL := [(.int (own_gt vs 1)), (.int 112)]) (rest := []) (lenOf pd_21 rfl) rfl (lb rfl) (hb hby d32_32) (fun _ _ => ⟨rfl, eqy3, (by decide : 0 + 0 ≤ _), (by decide : 0 + 0 ≤ _)⟩))
    obtain ⟨rfl, Nqy7, eqy7⟩ := hQy7
    have Ny7 := Fr.app Ny3 Nqy7
    refine Fin.step (sty7) ?_
    show Fin p e below s _ _ _ (Ty7.setTop (mkF m 35 #[rv a1, iv 2, rv a3, iv 2, iv 5, iv 5, .val (.int (own_gt vs 1)), iv 112] [(.int (own_ci (own_gt vs 1) (112 : Int32)))]))
    by_cases hcy8 : (own_ci (own_gt vs 1) (112 : Int32)) = (0 : Int32)
    · refine Fin.step (fun _ k => Yo.ifYes Xy7.here hx (pc0 := 35) (pc' := 41) rfl (hb hby d32_35) rfl ((if0 _ _).trans (teq (hcy8 : ((own_ci (own_gt vs 1) (112 : Int32)) = (0 : Int32)))).1) (by decide) (by decide) (Yo.iconst Xy7.here hx (hb hby d32_41) k)) ?_
      refine Fin.retN Xy7 hx (t := .boolean) hret (by simp) hlk (hb hby d32_42) (by decide) (by decide) ?_
      show Qrc5 Z a1 a3 kb pn vs k3 h0 n0 _ Ty7.heap _
      rw [eqy7]
      exact ⟨(congrArg (fun z => some (Value.int z)) (by rw [own_rx, if_neg hcy4, if_pos hcy8]; first | done | rfl)), Ny7, rfl⟩
    · refine Fin.step (fun _ k => Yo.ifNo Xy7.here hx (hb hby d32_35) rfl ((if0 _ _).trans (feq (hcy8 : ¬ ((own_ci (own_gt vs 1) (112 : Int32)) = (0 : Int32)))).1) (Yo.goto Xy7.here hx (pc0 := 38) (pc' := 6) rfl (hb hby d32_38) (by decide) (by decide) (Yo.iloadN Xy7.here hx (hb hby d32_6) rfl (Yo.iload Xy7.here hx (hb hby d32_7) rfl (Yo.icmpNo Xy7.here hx (hb hby d32_9) rfl (tlt ((by decide) : ((2 : Int32) < (5 : Int32)))).2.1 (Yo.aloadN Xy7.here hx (hb hby d32_12) rfl rfl (Yo.iloadN Xy7.here hx (hb hby d32_13) rfl (Yo.iinc Xy7.here hx (hb hby d32_14) rfl (l' := #[rv a1, iv 3, rv a3, iv 2, iv 5, iv 5, .val (.int (own_gt vs 1)), iv 112]) rfl k)))))))) ?_
      show Fin p e below s _ _ _ (Ty7.setTop (mkF m 17 #[rv a1, iv 3, rv a3, iv 2, iv 5, iv 5, .val (.int (own_gt vs 1)), iv 112] [(.int 2), (.ref a1)]))
      refine Fin.step (fun _ k => bld3 Xy7 hx hZ eqy7 (j := 2) (v := (.int (own_gt vs 2))) HV_a1 (own_i5 (k := 2) rfl (by decide) h5) (own_lg hcv 2) (hb hby d32_17) (Yo.istore Xy7.here hx (hb hby d32_18) rfl (l' := #[rv a1, iv 3, rv a3, iv 2, iv 5, iv 5, .val (.int (own_gt vs 2)), iv 112]) rfl (Yo.aloadN Xy7.here hx (hb hby d32_20) rfl rfl (Yo.iloadN Xy7.here hx (hb hby d32_21) rfl (Yo.iinc Xy7.here hx (hb hby d32_22) rfl (l' := #[rv a1, iv 3, rv a3, iv 3, iv 5, iv 5, .val (.int (own_gt vs 2)), iv 112]) rfl k))))) ?_
      show Fin p e below s _ _ _ (Ty7.setTop (mkF m 25 #[rv a1, iv 3, rv a3, iv 3, iv 5, iv 5, .val (.int (own_gt vs 2)), iv 112] [(.int 2), (.ref a3)]))
      refine Fin.step (fun _ k => bld3 Xy7 hx hZ eqy7 (j := 2) (v := (.int 97)) HV_a3 ⟨by decide, by decide⟩ rfl (hb hby d32_25) (Yo.istore Xy7.here hx (hb hby d32_26) rfl (l' := #[rv a1, iv 3, rv a3, iv 3, iv 5, iv 5, .val (.int (own_gt vs 2)), iv 97]) rfl (Yo.iload Xy7.here hx (hb hby d32_28) rfl (Yo.iload Xy7.here hx (hb hby d32_30) rfl k)))) ?_
      obtain ⟨_, Ty11, Lcy11, Xy11, hQy11, sty11⟩ := packS (Jvm.LawKit.callS Xy7 hx (y := n33) hown (mvT hZ (W_ hw 154)) (mvT hZ (W_ hw 155)) (mvT hZ (W_ hw 118)) (mvT hZ (W_ hw 156)) (by decide) (backOf (W := 0) (rmci l Z a0 hw [] (own_gt vs 2) 97 h0 n0 Z0 ) hZ (W_ hw 156) (W_ hw 118) (by decide) (by decide)) (g := (mkF m 32 #[rv a1, iv 3, rv a3, iv 3, iv 5, iv 5, .val (.int (own_gt vs 2)), iv 97] [(.int 97), (.int (own_gt vs 2))])) rfl (by rw [hml]; rfl) (argsL := [(.int (own_gt vs 2)), (.int 97)]) (rest := []) (lenOf pd_21 rfl) rfl (lb rfl) (hb hby d32_32) (fun _ _ => ⟨rfl, eqy7, (by decide : 0 + 0 ≤ _), (by decide : 0 + 0 ≤ _)⟩))
      obtain ⟨rfl, Nqy11, eqy11⟩ := hQy11
      have Ny11 := Fr.app Ny7 Nqy11
      refine Fin.step (sty11) ?_
      show Fin p e below s _ _ _ (Ty11.setTop (mkF m 35 #[rv a1, iv 3, rv a3, iv 3, iv 5, iv 5, .val (.int (own_gt vs 2)), iv 97] [(.int (own_ci (own_gt vs 2) (97 : Int32)))]))
      by_cases hcy12 : (own_ci (own_gt vs 2) (97 : Int32)) = (0 : Int32)
      · refine Fin.step (fun _ k => Yo.ifYes Xy11.here hx (pc0 := 35) (pc' := 41) rfl (hb hby d32_35) rfl ((if0 _ _).trans (teq (hcy12 : ((own_ci (own_gt vs 2) (97 : Int32)) = (0 : Int32)))).1) (by decide) (by decide) (Yo.iconst Xy11.here hx (hb hby d32_41) k)) ?_
        refine Fin.retN Xy11 hx (t := .boolean) hret (by simp) hlk (hb hby d32_42) (by decide) (by decide) ?_
        show Qrc5 Z a1 a3 kb pn vs k3 h0 n0 _ Ty11.heap _
        rw [eqy11]
        exact ⟨(congrArg (fun z => some (Value.int z)) (by rw [own_rx, if_neg hcy4, if_neg hcy8, if_pos hcy12]; first | done | rfl)), Ny11, rfl⟩
      · refine Fin.step (fun _ k => Yo.ifNo Xy11.here hx (hb hby d32_35) rfl ((if0 _ _).trans (feq (hcy12 : ¬ ((own_ci (own_gt vs 2) (97 : Int32)) = (0 : Int32)))).1) (Yo.goto Xy11.here hx (pc0 := 38) (pc' := 6) rfl (hb hby d32_38) (by decide) (by decide) (Yo.iloadN Xy11.here hx (hb hby d32_6) rfl (Yo.iload Xy11.here hx (hb hby d32_7) rfl (Yo.icmpNo Xy11.here hx (hb hby d32_9) rfl (tlt ((by decide) : ((3 : Int32) < (5 : Int32)))).2.1 (Yo.aloadN Xy11.here hx (hb hby d32_12) rfl rfl (Yo.iloadN Xy11.here hx (hb hby d32_13) rfl (Yo.iinc Xy11.here hx (hb hby d32_14) rfl (l' := #[rv a1, iv 4, rv a3, iv 3, iv 5, iv 5, .val (.int (own_gt vs 2)), iv 97]) rfl k)))))))) ?_
        show Fin p e below s _ _ _ (Ty11.setTop (mkF m 17 #[rv a1, iv 4, rv a3, iv 3, iv 5, iv 5, .val (.int (own_gt vs 2)), iv 97] [(.int 3), (.ref a1)]))
        refine Fin.step (fun _ k => bld3 Xy11 hx hZ eqy11 (j := 3) (v := (.int (own_gt vs 3))) HV_a1 (own_i5 (k := 3) rfl (by decide) h5) (own_lg hcv 3) (hb hby d32_17) (Yo.istore Xy11.here hx (hb hby d32_18) rfl (l' := #[rv a1, iv 4, rv a3, iv 3, iv 5, iv 5, .val (.int (own_gt vs 3)), iv 97]) rfl (Yo.aloadN Xy11.here hx (hb hby d32_20) rfl rfl (Yo.iloadN Xy11.here hx (hb hby d32_21) rfl (Yo.iinc Xy11.here hx (hb hby d32_22) rfl (l' := #[rv a1, iv 4, rv a3, iv 4, iv 5, iv 5, .val (.int (own_gt vs 3)), iv 97]) rfl k))))) ?_
        show Fin p e below s _ _ _ (Ty11.setTop (mkF m 25 #[rv a1, iv 4, rv a3, iv 4, iv 5, iv 5, .val (.int (own_gt vs 3)), iv 97] [(.int 3), (.ref a3)]))
        refine Fin.step (fun _ k => bld3 Xy11 hx hZ eqy11 (j := 3) (v := (.int 116)) HV_a3 ⟨by decide, by decide⟩ rfl (hb hby d32_25) (Yo.istore Xy11.here hx (hb hby d32_26) rfl (l' := #[rv a1, iv 4, rv a3, iv 4, iv 5, iv 5, .val (.int (own_gt vs 3)), iv 116]) rfl (Yo.iload Xy11.here hx (hb hby d32_28) rfl (Yo.iload Xy11.here hx (hb hby d32_30) rfl k)))) ?_
        obtain ⟨_, Ty15, Lcy15, Xy15, hQy15, sty15⟩ := packS (Jvm.LawKit.callS Xy11 hx (y := n33) hown (mvT hZ (W_ hw 154)) (mvT hZ (W_ hw 155)) (mvT hZ (W_ hw 118)) (mvT hZ (W_ hw 156)) (by decide) (backOf (W := 0) (rmci l Z a0 hw [] (own_gt vs 3) 116 h0 n0 Z0 ) hZ (W_ hw 156) (W_ hw 118) (by decide) (by decide)) (g := (mkF m 32 #[rv a1, iv 4, rv a3, iv 4, iv 5, iv 5, .val (.int (own_gt vs 3)), iv 116] [(.int 116), (.int (own_gt vs 3))])) rfl (by rw [hml]; rfl) (argsL := [(.int (own_gt vs 3)), (.int 116)]) (rest := []) (lenOf pd_21 rfl) rfl (lb rfl) (hb hby d32_32) (fun _ _ => ⟨rfl, eqy11, (by decide : 0 + 0 ≤ _), (by decide : 0 + 0 ≤ _)⟩))
        obtain ⟨rfl, Nqy15, eqy15⟩ := hQy15
        have Ny15 := Fr.app Ny11 Nqy15
        refine Fin.step (sty15) ?_
        show Fin p e below s _ _ _ (Ty15.setTop (mkF m 35 #[rv a1, iv 4, rv a3, iv 4, iv 5, iv 5, .val (.int (own_gt vs 3)), iv 116] [(.int (own_ci (own_gt vs 3) (116 : Int32)))]))
        by_cases hcy16 : (own_ci (own_gt vs 3) (116 : Int32)) = (0 : Int32)
        · refine Fin.step (fun _ k => Yo.ifYes Xy15.here hx (pc0 := 35) (pc' := 41) rfl (hb hby d32_35) rfl ((if0 _ _).trans (teq (hcy16 : ((own_ci (own_gt vs 3) (116 : Int32)) = (0 : Int32)))).1) (by decide) (by decide) (Yo.iconst Xy15.here hx (hb hby d32_41) k)) ?_
          refine Fin.retN Xy15 hx (t := .boolean) hret (by simp) hlk (hb hby d32_42) (by decide) (by decide) ?_
          show Qrc5 Z a1 a3 kb pn vs k3 h0 n0 _ Ty15.heap _
          rw [eqy15]
          exact ⟨(congrArg (fun z => some (Value.int z)) (by rw [own_rx, if_neg hcy4, if_neg hcy8, if_neg hcy12, if_pos hcy16]; first | done | rfl)), Ny15, rfl⟩
        · refine Fin.step (fun _ k => Yo.ifNo Xy15.here hx (hb hby d32_35) rfl ((if0 _ _).trans (feq (hcy16 : ¬ ((own_ci (own_gt vs 3) (116 : Int32)) = (0 : Int32)))).1) (Yo.goto Xy15.here hx (pc0 := 38) (pc' := 6) rfl (hb hby d32_38) (by decide) (by decide) (Yo.iloadN Xy15.here hx (hb hby d32_6) rfl (Yo.iload Xy15.here hx (hb hby d32_7) rfl (Yo.icmpNo Xy15.here hx (hb hby d32_9) rfl (tlt ((by decide) : ((4 : Int32) < (5 : Int32)))).2.1 (Yo.aloadN Xy15.here hx (hb hby d32_12) rfl rfl (Yo.iloadN Xy15.here hx (hb hby d32_13) rfl (Yo.iinc Xy15.here hx (hb hby d32_14) rfl (l' := #[rv a1, iv 5, rv a3, iv 4, iv 5, iv 5, .val (.int (own_gt vs 3)), iv 116]) rfl k)))))))) ?_
          show Fin p e below s _ _ _ (Ty15.setTop (mkF m 17 #[rv a1, iv 5, rv a3, iv 4, iv 5, iv 5, .val (.int (own_gt vs 3)), iv 116] [(.int 4), (.ref a1)]))
          refine Fin.step (fun _ k => bld3 Xy15 hx hZ eqy15 (j := 4) (v := (.int (own_gt vs 4))) HV_a1 (own_i5 (k := 4) rfl (by decide) h5) (own_lg hcv 4) (hb hby d32_17) (Yo.istore Xy15.here hx (hb hby d32_18) rfl (l' := #[rv a1, iv 5, rv a3, iv 4, iv 5, iv 5, .val (.int (own_gt vs 4)), iv 116]) rfl (Yo.aloadN Xy15.here hx (hb hby d32_20) rfl rfl (Yo.iloadN Xy15.here hx (hb hby d32_21) rfl (Yo.iinc Xy15.here hx (hb hby d32_22) rfl (l' := #[rv a1, iv 5, rv a3, iv 5, iv 5, iv 5, .val (.int (own_gt vs 4)), iv 116]) rfl k))))) ?_
          show Fin p e below s _ _ _ (Ty15.setTop (mkF m 25 #[rv a1, iv 5, rv a3, iv 5, iv 5, iv 5, .val (.int (own_gt vs 4)), iv 116] [(.int 4), (.ref a3)]))
          refine Fin.step (fun _ k => bld3 Xy15 hx hZ eqy15 (j := 4) (v := (.int 104)) HV_a3 ⟨by decide, by decide⟩ rfl (hb hby d32_25) (Yo.istore Xy15.here hx (hb hby d32_26) rfl (l' := #[rv a1, iv 5, rv a3, iv 5, iv 5, iv 5, .val (.int (own_gt vs 4)), iv 104]) rfl (Yo.iload Xy15.here hx (hb hby d32_28) rfl (Yo.iload Xy15.here hx (hb hby d32_30) rfl k)))) ?_
          obtain ⟨_, Ty19, Lcy19, Xy19, hQy19, sty19⟩ := packS (Jvm.LawKit.callS Xy15 hx (y := n33) hown (mvT hZ (W_ hw 154)) (mvT hZ (W_ hw 155)) (mvT hZ (W_ hw 118)) (mvT hZ (W_ hw 156)) (by decide) (backOf (W := 0) (rmci l Z a0 hw [] (own_gt vs 4) 104 h0 n0 Z0 ) hZ (W_ hw 156) (W_ hw 118) (by decide) (by decide)) (g := (mkF m 32 #[rv a1, iv 5, rv a3, iv 5, iv 5, iv 5, .val (.int (own_gt vs 4)), iv 104] [(.int 104), (.int (own_gt vs 4))])) rfl (by rw [hml]; rfl) (argsL := [(.int (own_gt vs 4)), (.int 104)]) (rest := []) (lenOf pd_21 rfl) rfl (lb rfl) (hb hby d32_32) (fun _ _ => ⟨rfl, eqy15, (by decide : 0 + 0 ≤ _), (by decide : 0 + 0 ≤ _)⟩))
          obtain ⟨rfl, Nqy19, eqy19⟩ := hQy19
          have Ny19 := Fr.app Ny15 Nqy19
          refine Fin.step (sty19) ?_
          show Fin p e below s _ _ _ (Ty19.setTop (mkF m 35 #[rv a1, iv 5, rv a3, iv 5, iv 5, iv 5, .val (.int (own_gt vs 4)), iv 104] [(.int (own_ci (own_gt vs 4) (104 : Int32)))]))
          by_cases hcy20 : (own_ci (own_gt vs 4) (104 : Int32)) = (0 : Int32)
          · refine Fin.step (fun _ k => Yo.ifYes Xy19.here hx (pc0 := 35) (pc' := 41) rfl (hb hby d32_35) rfl ((if0 _ _).trans (teq (hcy20 : ((own_ci (own_gt vs 4) (104 : Int32)) = (0 : Int32)))).1) (by decide) (by decide) (Yo.iconst Xy19.here hx (hb hby d32_41) k)) ?_
            refine Fin.retN Xy19 hx (t := .boolean) hret (by simp) hlk (hb hby d32_42) (by decide) (by decide) ?_
            show Qrc5 Z a1 a3 kb pn vs k3 h0 n0 _ Ty19.heap _
            rw [eqy19]
            exact ⟨(congrArg (fun z => some (Value.int z)) (by rw [own_rx, if_neg hcy4, if_neg hcy8, if_neg hcy12, if_neg hcy16, if_pos hcy20]; first | done | rfl)), Ny19, rfl⟩
          · refine Fin.step (fun _ k => Yo.ifNo Xy19.here hx (hb hby d32_35) rfl ((if0 _ _).trans (feq (hcy20 : ¬ ((own_ci (own_gt vs 4) (104 : Int32)) = (0 : Int32)))).1) (Yo.goto Xy19.here hx (pc0 := 38) (pc' := 6) rfl (hb hby d32_38) (by decide) (by decide) (Yo.iloadN Xy19.here hx (hb hby d32_6) rfl (Yo.iload Xy19.here hx (hb hby d32_7) rfl (Yo.icmpYes Xy19.here hx (pc0 := 9) (pc' := 43) rfl (hb hby d32_9) rfl (flt ((by decide) : ¬ ((5 : Int32) < (5 : Int32)))).2.1 (by decide) (by decide) (Yo.iconst Xy19.here hx (hb hby d32_43) k)))))) ?_
            refine Fin.retN Xy19 hx (t := .boolean) hret (by simp) hlk (hb hby d32_44) (by decide) (by decide) ?_
            show Qrc5 Z a1 a3 kb pn vs k3 h0 n0 _ Ty19.heap _
            rw [eqy19]
            exact ⟨(congrArg (fun z => some (Value.int z)) (by rw [own_rx, if_neg hcy4, if_neg hcy8, if_neg hcy12, if_neg hcy16, if_neg hcy20]; first | done | rfl)), Ny19, rfl⟩
theorem pn_30 : plainName "java/lang/String" = true := by first | (simp [plainName, overriddenIn]; done) | decide +kernel
theorem d30_0 : decode jdk_42_method_54_code 0 = .ok (.aload_n 0, 1) := by decide +kernel
theorem d30_1 : decode jdk_42_method_54_code 1 = .ok (.getfield 9, 3) := by decide +kernel
theorem d30_4 : decode jdk_42_method_54_code 4 = .ok (.arraylength, 1) := by decide +kernel
theorem d30_5 : decode jdk_42_method_54_code 5 = .ok (.aload_n 0, 1) := by decide +kernel
theorem d30_6 : decode jdk_42_method_54_code 6 = .ok (.invokevirtual 335, 3) := by decide +kernel
theorem pd_22 : parseMethodDescriptor "()B" = some ⟨[], some .byte⟩ := by decide +kernel
theorem d30_9 : decode jdk_42_method_54_code 9 = .ok (.ishr, 1) := by decide +kernel
theorem d30_10 : decode jdk_42_method_54_code 10 = .ok (.ireturn, 1) := by decide +kernel
theorem ef_rmsl (m : MethodId) (x0 : Addr) : entryFrame m #[(.ref x0)] 1 = mkF m 0 #[.val (.ref x0)] [] := by first | (simp [entryFrame, mkF, argsToLocals, Value.category]; done) | rfl
abbrev R_rmsl : Room := ({ frames := 1, cells := 0, slots := 0, locals := 13 } : Room)
def Qsl (Z : State) (a1 ab : Addr) (kb : ClassId) (pn : Int32) (vs : List Value) (wc : Int32) (h0 : Heap) (n0 : Nat) (v : Option Value) (h : Heap) (L : List Loc) : Prop := v = some (.int pn) ∧ Fr n0 L ∧ h = h0
set_option maxRecDepth 65536 in
set_option maxHeartbeats 40000000 in
theorem rmsl (l : Launch) (Z : State) (a0 : Array Value) (hw : ∀ d ∈ tables_1, d.before a0 Z = true) (ws : List Jvm.Cond) (a1 ab : Addr) (kb : ClassId) (pn : Int32) (vs : List Value) (wc : Int32) (h0 : Heap) (n0 : Nat) (Z0 : n0 ≤ h0.size) (HE_a1 : Exa Z h0 a1 q2) (HF_a1_coder : Fld Z h0 a1 q2 "coder" "B" (.int 0)) (HF_a1_value : Fld Z h0 a1 q2 "value" "[B" (.ref ab)) (HV_ab : Arv Z h0 ab kb .byte pn vs (.int 0)) (HS_java_lang_String_COMPACT_STRINGS : Sta Z h0 q2 q9 "Z" (.int wc)) (hwc : ¬ wc = 0) :
    Met1 l n30 jdk_42_method_54_code 1 (some .int) ws R_rmsl #[(.ref a1)] Z h0 (Qsl Z a1 ab kb pn vs wc h0 n0) := by
  refine Met1.enter (plainFor_of_name pn_30) (fun m => ef_rmsl m a1) fun p e s m below meth c s₁ hx hby hlk hret hml hown hnm hZ X0 e0 => ?_
  have N0 := Fr.nil n0
  have K0 : Keep h0 h0 [] := Keep.refl h0 _
  show Fin p e below s _ _ _ (s₁.setTop (mkF m 0 #[rv a1] []))
  refine Fin.step (fun _ k => Yo.aloadN X0.here hx (hb hby d30_0) rfl rfl k) ?_
  refine fget X0 hx hZ hown (W_ hw 34) e0 HF_a1_value (hb hby d30_1) fun Ty1 Xy1 ey1 => ?_
  have voy2 := HV_ab
  obtain ⟨cly2, Ary2, qay2, say2, nay2, hay2, gay2⟩ := voy2
  refine Fin.step (Xy1.arraylength hx (by rw [ey1]; exact Ary2.1) (State.isArrayOf_alike hZ.alike Ary2.2.1) (g := (mkF m 4 #[rv a1] [(.ref ab)])) rfl rfl (hb hby d30_4)) ?_
  rw [len_of say2 nay2]
  show Fin p e below s _ _ _ (Ty1.setTop (mkF m 5 #[rv a1] [(.int pn)]))
  refine Fin.step (fun _ k => Yo.aloadN Xy1.here hx (hb hby d30_5) rfl rfl k) ?_
  obtain ⟨cqy3, kqy3, qy3a, qy3b, qy3c⟩ := isOf hZ ey1 HE_a1
  obtain ⟨_, Ty3, Lcy3, Xy3, hQy3, sty3⟩ := pack (Xy1.virtualBack hx (y := n31) (z := n31) hown (mvT hZ (W_ hw 146)) (mvT hZ (W_ hw 147)) (notFace_of_selects (args := #[]) (mvT hZ (W_ hw 149))) (mvT hZ (W_ hw 149)) (mvT hZ (W_ hw 148)) (by decide) (backOf (W := 1) (rmsc l Z a0 hw [] a1 wc h0 n0 Z0 HS_java_lang_String_COMPACT_STRINGS HF_a1_coder hwc) hZ (W_ hw 150) (W_ hw 9) (by decide) (by decide)) qy3a qy3c (g := (mkF m 6 #[rv a1] [(.ref a1), (.int pn)])) rfl (by rw [hml]; rfl) (Steps.refl _) (argsL := []) (rest := [(.int pn)]) (lenOf pd_22 rfl) rfl (lb rfl) (hb hby d30_6) (fun _ _ => ⟨rfl, ey1, (by decide : 0 + 0 ≤ _), (by decide : 0 + 0 ≤ _)⟩))
  obtain ⟨rfl, Nqy3, eqy3⟩ := hQy3
  have Ny3 := Fr.app N0 Nqy3
  refine Fin.step (sty3) ?_
  show Fin p e below s _ _ _ (Ty3.setTop (mkF m 9 #[rv a1] [(.int 0), (.int pn)]))
  refine Fin.step (fun _ k => Yo.ishr Xy3.here hx (hb hby d30_9) rfl k) ?_
  show Fin p e below s _ _ _ (Ty3.setTop (mkF m 10 #[rv a1] [(.int (pn >>> ((0 : Int32) &&& 31)))]))
  refine Fin.retI Xy3 hx hret hlk (hb hby d30_10) (by decide) (by decide) ?_
  show Qsl Z a1 ab kb pn vs wc h0 n0 _ Ty3.heap _
  rw [eqy3]
  exact ⟨(congrArg (fun z => some (Value.int z)) (own_sh0 pn)), Ny3, rfl⟩
theorem pn_29 : plainName "java/lang/String" = true := by first | (simp [plainName, overriddenIn]; done) | decide +kernel
theorem d29_0 : decode jdk_42_method_74_code 0 = .ok (.iload_n 1, 1) := by decide +kernel
theorem d29_1 : decode jdk_42_method_74_code 1 = .ok (.ifCond .ne 14, 3) := by decide +kernel
theorem d29_15 : decode jdk_42_method_74_code 15 = .ok (.iload 4, 2) := by decide +kernel
theorem d29_17 : decode jdk_42_method_74_code 17 = .ok (.ifCond .lt 38, 3) := by decide +kernel
theorem d29_20 : decode jdk_42_method_74_code 20 = .ok (.iload_n 2, 1) := by decide +kernel
theorem d29_21 : decode jdk_42_method_74_code 21 = .ok (.ifCond .lt 34, 3) := by decide +kernel
theorem d29_24 : decode jdk_42_method_74_code 24 = .ok (.iload_n 2, 1) := by decide +kernel
theorem d29_25 : decode jdk_42_method_74_code 25 = .ok (.i2l, 1) := by decide +kernel
theorem d29_26 : decode jdk_42_method_74_code 26 = .ok (.aload_n 0, 1) := by decide +kernel
theorem d29_27 : decode jdk_42_method_74_code 27 = .ok (.invokevirtual 505, 3) := by decide +kernel
theorem pd_23 : parseMethodDescriptor "()I" = some ⟨[], some .int⟩ := by decide +kernel
theorem d29_30 : decode jdk_42_method_74_code 30 = .ok (.i2l, 1) := by decide +kernel
theorem d29_31 : decode jdk_42_method_74_code 31 = .ok (.iload 5, 2) := by decide +kernel
theorem d29_33 : decode jdk_42_method_74_code 33 = .ok (.i2l, 1) := by decide +kernel
theorem d29_34 : decode jdk_42_method_74_code 34 = .ok (.lsub, 1) := by decide +kernel
theorem d29_35 : decode jdk_42_method_74_code 35 = .ok (.lcmp, 1) := by decide +kernel
theorem d29_36 : decode jdk_42_method_74_code 36 = .ok (.ifCond .gt 19, 3) := by decide +kernel
theorem d29_55 : decode jdk_42_method_74_code 55 = .ok (.iconst 0, 1) := by decide +kernel
theorem d29_56 : decode jdk_42_method_74_code 56 = .ok (.ireturn, 1) := by decide +kernel
theorem d29_39 : decode jdk_42_method_74_code 39 = .ok (.iload 4, 2) := by decide +kernel
theorem d29_41 : decode jdk_42_method_74_code 41 = .ok (.i2l, 1) := by decide +kernel
theorem d29_42 : decode jdk_42_method_74_code 42 = .ok (.aload_n 3, 1) := by decide +kernel
theorem d29_43 : decode jdk_42_method_74_code 43 = .ok (.invokevirtual 505, 3) := by decide +kernel
theorem d29_46 : decode jdk_42_method_74_code 46 = .ok (.i2l, 1) := by decide +kernel
theorem d29_47 : decode jdk_42_method_74_code 47 = .ok (.iload 5, 2) := by decide +kernel
theorem d29_49 : decode jdk_42_method_74_code 49 = .ok (.i2l, 1) := by decide +kernel
theorem d29_50 : decode jdk_42_method_74_code 50 = .ok (.lsub, 1) := by decide +kernel
theorem d29_51 : decode jdk_42_method_74_code 51 = .ok (.lcmp, 1) := by decide +kernel
theorem d29_52 : decode jdk_42_method_74_code 52 = .ok (.ifCond .le 5, 3) := by decide +kernel
theorem d29_57 : decode jdk_42_method_74_code 57 = .ok (.aload_n 0, 1) := by decide +kernel
theorem d29_58 : decode jdk_42_method_74_code 58 = .ok (.getfield 9, 3) := by decide +kernel
theorem d29_61 : decode jdk_42_method_74_code 61 = .ok (.astore 6, 2) := by decide +kernel
theorem d29_63 : decode jdk_42_method_74_code 63 = .ok (.aload_n 3, 1) := by decide +kernel
theorem d29_64 : decode jdk_42_method_74_code 64 = .ok (.getfield 9, 3) := by decide +kernel
theorem d29_67 : decode jdk_42_method_74_code 67 = .ok (.astore 7, 2) := by decide +kernel
theorem d29_69 : decode jdk_42_method_74_code 69 = .ok (.aload_n 0, 1) := by decide +kernel
theorem d29_70 : decode jdk_42_method_74_code 70 = .ok (.invokevirtual 335, 3) := by decide +kernel
theorem d29_73 : decode jdk_42_method_74_code 73 = .ok (.istore 8, 2) := by decide +kernel
theorem d29_75 : decode jdk_42_method_74_code 75 = .ok (.iload 8, 2) := by decide +kernel
theorem d29_77 : decode jdk_42_method_74_code 77 = .ok (.aload_n 3, 1) := by decide +kernel
theorem d29_78 : decode jdk_42_method_74_code 78 = .ok (.invokevirtual 335, 3) := by decide +kernel
theorem d29_81 : decode jdk_42_method_74_code 81 = .ok (.if_icmp .ne 36, 3) := by decide +kernel
theorem d29_84 : decode jdk_42_method_74_code 84 = .ok (.iload 8, 2) := by decide +kernel
theorem d29_86 : decode jdk_42_method_74_code 86 = .ok (.ifCond .ne 18, 3) := by decide +kernel
theorem d29_89 : decode jdk_42_method_74_code 89 = .ok (.aload 6, 2) := by decide +kernel
theorem d29_91 : decode jdk_42_method_74_code 91 = .ok (.iload_n 2, 1) := by decide +kernel
theorem d29_92 : decode jdk_42_method_74_code 92 = .ok (.aload 7, 2) := by decide +kernel
theorem d29_94 : decode jdk_42_method_74_code 94 = .ok (.iload 4, 2) := by decide +kernel
theorem d29_96 : decode jdk_42_method_74_code 96 = .ok (.iload 5, 2) := by decide +kernel
theorem d29_98 : decode jdk_42_method_74_code 98 = .ok (.invokestatic 613, 3) := by decide +kernel
theorem pd_24 : parseMethodDescriptor "([BI[BII)Z" = some ⟨[(.array .byte), .int, (.array .byte), .int, .int], some .boolean⟩ := by decide +kernel
theorem d29_101 : decode jdk_42_method_74_code 101 = .ok (.goto 15, 3) := by decide +kernel
theorem d29_116 : decode jdk_42_method_74_code 116 = .ok (.ireturn, 1) := by decide +kernel
theorem ef_rmrm (m : MethodId) (x0 : Addr) (x3 : Addr) : entryFrame m #[(.ref x0), (.int (1 : Int32)), (.int (0 : Int32)), (.ref x3), (.int (0 : Int32)), (.int (5 : Int32))] 9 = mkF m 0 #[.val (.ref x0), .val (.int (1 : Int32)), .val (.int (0 : Int32)), .val (.ref x3), .val (.int (0 : Int32)), .val (.int (5 : Int32)), .unset, .unset, .unset] [] := by first | (simp [entryFrame, mkF, argsToLocals, Value.category]; done) | rfl
abbrev R_rmrm : Room := ({ frames := 2, cells := 0, slots := 0, locals := 33 } : Room)
def QQ (Z : State) (a1 a4 ab : Addr) (kb : ClassId) (pn : Int32) (vs : List Value) (a3 : Addr) (k3 : ClassId) (wc : Int32) (h0 : Heap) (n0 : Nat) (v : Option Value) (h : Heap) (L : List Loc) : Prop := v = some (.int (own_rm pn vs)) ∧ Fr n0 L ∧ h = h0
set_option maxRecDepth 65536 in
set_option maxHeartbeats 40000000 in
theorem rmrm (l : Launch) (Z : State) (a0 : Array Value) (hw : ∀ d ∈ tables_1, d.before a0 Z = true) (ws : List Jvm.Cond) (a1 a4 ab : Addr) (kb : ClassId) (pn : Int32) (vs : List Value) (a3 : Addr) (k3 : ClassId) (wc : Int32) (h0 : Heap) (n0 : Nat) (Z0 : n0 ≤ h0.size) (HE_a1 : Exa Z h0 a1 q2) (HF_a1_coder : Fld Z h0 a1 q2 "coder" "B" (.int 0)) (HF_a1_value : Fld Z h0 a1 q2 "value" "[B" (.ref ab)) (HV_ab : Arv Z h0 ab kb .byte pn vs (.int 0)) (HE_a4 : Exa Z h0 a4 q2) (HF_a4_coder : Fld Z h0 a4 q2 "coder" "B" (.int 0)) (HF_a4_value : Fld Z h0 a4 q2 "value" "[B" (.ref a3)) (HV_a3 : Arv Z h0 a3 k3 .byte (5 : Int32) [(.int 120), (.int 112), (.int 97), (.int 116), (.int 104)] (.int 0)) (HS_java_lang_String_COMPACT_STRINGS : Sta Z h0 q2 q9 "Z" (.int wc)) (hwc : ¬ wc = 0) (hn : 0 ≤ pn.toInt ∧ pn.toInt ≤ 8) (hcv : own_chs vs) :
    Met1 l n29 jdk_42_method_74_code 9 (some .boolean) ws R_rmrm #[(.ref a1), (.int 1), (.int 0), (.ref a4), (.int 0), (.int 5)] Z h0 (QQ Z a1 a4 ab kb pn vs a3 k3 wc h0 n0) := by
  refine Met1.enter (plainFor_of_name pn_29) (fun m => ef_rmrm m a1 a4) fun p e s m below meth c s₁ hx hby hlk hret hml hown hnm hZ X0 e0 => ?_
  have N0 := Fr.nil n0
  have K0 : Keep h0 h0 [] := Keep.refl h0 _
  show Fin p e below s _ _ _ (s₁.setTop (mkF m 0 #[rv a1, iv 1, iv 0, rv a4, iv 0, iv 5, u_, u_, u_] []))
  refine Fin.step (fun _ k => Yo.iloadN X0.here hx (hb hby d29_0) rfl (Yo.ifYes X0.here hx (pc0 := 1) (pc' := 15) rfl (hb hby d29_1) rfl ((if0 _ _).trans (feq ((by decide) : ¬ ((1 : Int32) = (0 : Int32)))).2) (by decide) (by decide) k)) ?_
  rcases Classical.em (pn < 5) with h5 | h5
  · show Fin p e below s _ _ _ (s₁.setTop (mkF m 15 #[rv a1, iv 1, iv 0, rv a4, iv 0, iv 5, u_, u_, u_] []))
    refine Fin.step (fun _ k => Yo.iload X0.here hx (hb hby d29_15) rfl (Yo.ifNo X0.here hx (hb hby d29_17) rfl ((if0 _ _).trans (flt ((by decide) : ¬ ((0 : Int32) < (0 : Int32)))).1) (Yo.iloadN X0.here hx (hb hby d29_20) rfl (Yo.ifNo X0.here hx (hb hby d29_21) rfl ((if0 _ _).trans (flt ((by decide) : ¬ ((0 : Int32) < (0 : Int32)))).1) (Yo.iloadN X0.here hx (hb hby d29_24) rfl k))))) ?_
    refine Fin.step (fun _ => XS.i2l X0.here hx rfl (hb hby d29_25) rfl) ?_
    show Fin p e below s _ _ _ (s₁.setTop (mkF m 26 #[rv a1, iv 1, iv 0, rv a4, iv 0, iv 5, u_, u_, u_] [(.long (0 : Int32).toInt64)]))
    refine Fin.step (fun _ k => Yo.aloadN X0.here hx (hb hby d29_26) rfl rfl k) ?_
    obtain ⟨cqy1, kqy1, qy1a, qy1b, qy1c⟩ := isOf hZ e0 HE_a1
    obtain ⟨_, Ty1, Lcy1, Xy1, hQy1, sty1⟩ := pack (X0.virtualBack hx (y := n30) (z := n30) hown (mvT hZ (W_ hw 141)) (mvT hZ (W_ hw 142)) (notFace_of_selects (args := #[]) (mvT hZ (W_ hw 144))) (mvT hZ (W_ hw 144)) (mvT hZ (W_ hw 143)) (by decide) (backOf (W := 2) (rmsl l Z a0 hw [] a1 ab kb pn vs wc h0 n0 Z0 HE_a1 HF_a1_coder HF_a1_value HV_ab HS_java_lang_String_COMPACT_STRINGS hwc) hZ (W_ hw 145) (W_ hw 9) (by decide) (by decide)) qy1a qy1c (g := (mkF m 27 #[rv a1, iv 1, iv 0, rv a4, iv 0, iv 5, u_, u_, u_] [(.ref a1), (.long (0 : Int32).toInt64)])) rfl (by rw [hml]; rfl) (Steps.refl _) (argsL := []) (rest := [(.long (0 : Int32).toInt64)]) (lenOf pd_23 rfl) rfl (lb rfl) (hb hby d29_27) (fun _ _ => ⟨rfl, e0, (by decide : 0 + 0 ≤ _), (by decide : 0 + 0 ≤ _)⟩))
    obtain ⟨rfl, Nqy1, eqy1⟩ := hQy1
    have Ny1 := Fr.app N0 Nqy1
    refine Fin.step (sty1) ?_
    show Fin p e below s _ _ _ (Ty1.setTop (mkF m 30 #[rv a1, iv 1, iv 0, rv a4, iv 0, iv 5, u_, u_, u_] [(.int pn), (.long (0 : Int32).toInt64)]))
    refine Fin.step (fun _ => XS.i2l Xy1.here hx rfl (hb hby d29_30) rfl) ?_
    show Fin p e below s _ _ _ (Ty1.setTop (mkF m 31 #[rv a1, iv 1, iv 0, rv a4, iv 0, iv 5, u_, u_, u_] [(.long pn.toInt64), (.long (0 : Int32).toInt64)]))
    refine Fin.step (fun _ k => Yo.iload Xy1.here hx (hb hby d29_31) rfl k) ?_
    refine Fin.step (fun _ => XS.i2l Xy1.here hx rfl (hb hby d29_33) rfl) ?_
    show Fin p e below s _ _ _ (Ty1.setTop (mkF m 34 #[rv a1, iv 1, iv 0, rv a4, iv 0, iv 5, u_, u_, u_] [(.long (5 : Int32).toInt64), (.long pn.toInt64), (.long (0 : Int32).toInt64)]))
    refine Fin.step (fun _ => XS.lsub Xy1.here hx rfl (hb hby d29_34) rfl) ?_
    show Fin p e below s _ _ _ (Ty1.setTop (mkF m 35 #[rv a1, iv 1, iv 0, rv a4, iv 0, iv 5, u_, u_, u_] [(.long (pn.toInt64 - (5 : Int32).toInt64)), (.long (0 : Int32).toInt64)]))
    refine Fin.step (fun _ => XS.lcmp Xy1.here hx rfl (hb hby d29_35) rfl) ?_
    show Fin p e below s _ _ _ (Ty1.setTop (mkF m 36 #[rv a1, iv 1, iv 0, rv a4, iv 0, iv 5, u_, u_, u_] [(.int (lcmpW (0 : Int32).toInt64 (pn.toInt64 - (5 : Int32).toInt64)))]))
    refine Fin.step (fun _ k => Yo.ifYes Xy1.here hx (pc0 := 36) (pc' := 55) rfl (hb hby d29_36) rfl ((if0 _ _).trans (tlt ((lcG ((own_l5 hn).mpr h5)) : ((0 : Int32) < (lcmpW (0 : Int32).toInt64 (pn.toInt64 - (5 : Int32).toInt64))))).2.2.1) (by decide) (by decide) (Yo.iconst Xy1.here hx (hb hby d29_55) k)) ?_
    refine Fin.retN Xy1 hx (t := .boolean) hret (by simp) hlk (hb hby d29_56) (by decide) (by decide) ?_
    show QQ Z a1 a4 ab kb pn vs a3 k3 wc h0 n0 _ Ty1.heap _
    rw [eqy1]
    exact ⟨(congrArg (fun z => some (Value.int z)) (by rw [own_rm, if_pos h5]; first | done | rfl)), Ny1, rfl⟩
  · show Fin p e below s _ _ _ (s₁.setTop (mkF m 15 #[rv a1, iv 1, iv 0, rv a4, iv 0, iv 5, u_, u_, u_] []))
    refine Fin.step (fun _ k => Yo.iload X0.here hx (hb hby d29_15) rfl (Yo.ifNo X0.here hx (hb hby d29_17) rfl ((if0 _ _).trans (flt ((by decide) : ¬ ((0 : Int32) < (0 : Int32)))).1) (Yo.iloadN X0.here hx (hb hby d29_20) rfl (Yo.ifNo X0.here hx (hb hby d29_21) rfl ((if0 _ _).trans (flt ((by decide) : ¬ ((0 : Int32) < (0 : Int32)))).1) (Yo.iloadN X0.here hx (hb hby d29_24) rfl k))))) ?_
    refine Fin.step (fun _ => XS.i2l X0.here hx rfl (hb hby d29_25) rfl) ?_
    show Fin p e below s _ _ _ (s₁.setTop (mkF m 26 #[rv a1, iv 1, iv 0, rv a4, iv 0, iv 5, u_, u_, u_] [(.long (0 : Int32).toInt64)]))
    refine Fin.step (fun _ k => Yo.aloadN X0.here hx (hb hby d29_26) rfl rfl k) ?_
    obtain ⟨cqy2, kqy2, qy2a, qy2b, qy2c⟩ := isOf hZ e0 HE_a1
    obtain ⟨_, Ty2, Lcy2, Xy2, hQy2, sty2⟩ := pack (X0.virtualBack hx (y := n30) (z := n30) hown (mvT hZ (W_ hw 141)) (mvT hZ (W_ hw 142)) (notFace_of_selects (args := #[]) (mvT hZ (W_ hw 144))) (mvT hZ (W_ hw 144)) (mvT hZ (W_ hw 143)) (by decide) (backOf (W := 2) (rmsl l Z a0 hw [] a1 ab kb pn vs wc h0 n0 Z0 HE_a1 HF_a1_coder HF_a1_value HV_ab HS_java_lang_String_COMPACT_STRINGS hwc) hZ (W_ hw 145) (W_ hw 9) (by decide) (by decide)) qy2a qy2c (g := (mkF m 27 #[rv a1, iv 1, iv 0, rv a4, iv 0, iv 5, u_, u_, u_] [(.ref a1), (.long (0 : Int32).toInt64)])) rfl (by rw [hml]; rfl) (Steps.refl _) (argsL := []) (rest := [(.long (0 : Int32).toInt64)]) (lenOf pd_23 rfl) rfl (lb rfl) (hb hby d29_27) (fun _ _ => ⟨rfl, e0, (by decide : 0 + 0 ≤ _), (by decide : 0 + 0 ≤ _)⟩))
    obtain ⟨rfl, Nqy2, eqy2⟩ := hQy2
    have Ny2 := Fr.app N0 Nqy2
    refine Fin.step (sty2) ?_
    show Fin p e below s _ _ _ (Ty2.setTop (mkF m 30 #[rv a1, iv 1, iv 0, rv a4, iv 0, iv 5, u_, u_, u_] [(.int pn), (.long (0 : Int32).toInt64)]))
    refine Fin.step (fun _ => XS.i2l Xy2.here hx rfl (hb hby d29_30) rfl) ?_
    show Fin p e below s _ _ _ (Ty2.setTop (mkF m 31 #[rv a1, iv 1, iv 0, rv a4, iv 0, iv 5, u_, u_, u_] [(.long pn.toInt64), (.long (0 : Int32).toInt64)]))
    refine Fin.step (fun _ k => Yo.iload Xy2.here hx (hb hby d29_31) rfl k) ?_
    refine Fin.step (fun _ => XS.i2l Xy2.here hx rfl (hb hby d29_33) rfl) ?_
    show Fin p e below s _ _ _ (Ty2.setTop (mkF m 34 #[rv a1, iv 1, iv 0, rv a4, iv 0, iv 5, u_, u_, u_] [(.long (5 : Int32).toInt64), (.long pn.toInt64), (.long (0 : Int32).toInt64)]))
    refine Fin.step (fun _ => XS.lsub Xy2.here hx rfl (hb hby d29_34) rfl) ?_
    show Fin p e below s _ _ _ (Ty2.setTop (mkF m 35 #[rv a1, iv 1, iv 0, rv a4, iv 0, iv 5, u_, u_, u_] [(.long (pn.toInt64 - (5 : Int32).toInt64)), (.long (0 : Int32).toInt64)]))
    refine Fin.step (fun _ => XS.lcmp Xy2.here hx rfl (hb hby d29_35) rfl) ?_
    show Fin p e below s _ _ _ (Ty2.setTop (mkF m 36 #[rv a1, iv 1, iv 0, rv a4, iv 0, iv 5, u_, u_, u_] [(.int (lcmpW (0 : Int32).toInt64 (pn.toInt64 - (5 : Int32).toInt64)))]))
    refine Fin.step (fun _ k => Yo.ifNo Xy2.here hx (hb hby d29_36) rfl ((if0 _ _).trans (flt ((lcNG (fun q => h5 ((own_l5 hn).mp q))) : ¬ ((0 : Int32) < (lcmpW (0 : Int32).toInt64 (pn.toInt64 - (5 : Int32).toInt64))))).2.2.1) (Yo.iload Xy2.here hx (hb hby d29_39) rfl k)) ?_
    refine Fin.step (fun _ => XS.i2l Xy2.here hx rfl (hb hby d29_41) rfl) ?_
    show Fin p e below s _ _ _ (Ty2.setTop (mkF m 42 #[rv a1, iv 1, iv 0, rv a4, iv 0, iv 5, u_, u_, u_] [(.long (0 : Int32).toInt64)]))
    refine Fin.step (fun _ k => Yo.aloadN Xy2.here hx (hb hby d29_42) rfl rfl k) ?_
    obtain ⟨cqy3, kqy3, qy3a, qy3b, qy3c⟩ := isOf hZ eqy2 HE_a4
    obtain ⟨_, Ty3, Lcy3, Xy3, hQy3, sty3⟩ := pack (Xy2.virtualBack hx (y := n30) (z := n30) hown (mvT hZ (W_ hw 141)) (mvT hZ (W_ hw 142)) (notFace_of_selects (args := #[]) (mvT hZ (W_ hw 144))) (mvT hZ (W_ hw 144)) (mvT hZ (W_ hw 143)) (by decide) (backOf (W := 2) (rmsl l Z a0 hw [] a4 a3 k3 5 _ wc h0 n0 Z0 HE_a4 HF_a4_coder HF_a4_value HV_a3 HS_java_lang_String_COMPACT_STRINGS hwc) hZ (W_ hw 145) (W_ hw 9) (by decide) (by decide)) qy3a qy3c (g := (mkF m 43 #[rv a1, iv 1, iv 0, rv a4, iv 0, iv 5, u_, u_, u_] [(.ref a4), (.long (0 : Int32).toInt64)])) rfl (by rw [hml]; rfl) (Steps.refl _) (argsL := []) (rest := [(.long (0 : Int32).toInt64)]) (lenOf pd_23 rfl) rfl (lb rfl) (hb hby d29_43) (fun _ _ => ⟨rfl, eqy2, (by decide : 0 + 0 ≤ _), (by decide : 0 + 0 ≤ _)⟩))
    obtain ⟨rfl, Nqy3, eqy3⟩ := hQy3
    have Ny3 := Fr.app Ny2 Nqy3
    refine Fin.step (sty3) ?_
    show Fin p e below s _ _ _ (Ty3.setTop (mkF m 46 #[rv a1, iv 1, iv 0, rv a4, iv 0, iv 5, u_, u_, u_] [(.int 5), (.long (0 : Int32).toInt64)]))
    refine Fin.step (fun _ => XS.i2l Xy3.here hx rfl (hb hby d29_46) rfl) ?_
    show Fin p e below s _ _ _ (Ty3.setTop (mkF m 47 #[rv a1, iv 1, iv 0, rv a4, iv 0, iv 5, u_, u_, u_] [(.long (5 : Int32).toInt64), (.long (0 : Int32).toInt64)]))
    refine Fin.step (fun _ k => Yo.iload Xy3.here hx (hb hby d29_47) rfl k) ?_
    refine Fin.step (fun _ => XS.i2l Xy3.here hx rfl (hb hby d29_49) rfl) ?_
    show Fin p e below s _ _ _ (Ty3.setTop (mkF m 50 #[rv a1, iv 1, iv 0, rv a4, iv 0, iv 5, u_, u_, u_] [(.long (5 : Int32).toInt64), (.long (5 : Int32).toInt64), (.long (0 : Int32).toInt64)]))
    refine Fin.step (fun _ => XS.lsub Xy3.here hx rfl (hb hby d29_50) rfl) ?_
    show Fin p e below s _ _ _ (Ty3.setTop (mkF m 51 #[rv a1, iv 1, iv 0, rv a4, iv 0, iv 5, u_, u_, u_] [(.long ((5 : Int32).toInt64 - (5 : Int32).toInt64)), (.long (0 : Int32).toInt64)]))
    refine Fin.step (fun _ => XS.lcmp Xy3.here hx rfl (hb hby d29_51) rfl) ?_
    show Fin p e below s _ _ _ (Ty3.setTop (mkF m 52 #[rv a1, iv 1, iv 0, rv a4, iv 0, iv 5, u_, u_, u_] [(.int (lcmpW (0 : Int32).toInt64 ((5 : Int32).toInt64 - (5 : Int32).toInt64)))]))
    refine Fin.step (fun _ k => Yo.ifYes Xy3.here hx (pc0 := 52) (pc' := 57) rfl (hb hby d29_52) rfl ((if0 _ _).trans (flt ((lcNG (by decide)) : ¬ ((0 : Int32) < (lcmpW (0 : Int32).toInt64 ((5 : Int32).toInt64 - (5 : Int32).toInt64))))).2.2.2) (by decide) (by decide) (Yo.aloadN Xy3.here hx (hb hby d29_57) rfl rfl k)) ?_
    refine fget Xy3 hx hZ hown (W_ hw 34) eqy3 HF_a1_value (hb hby d29_58) fun Ty4 Xy4 ey4 => ?_
    refine Fin.step (fun _ k => Yo.astore Xy4.here hx (hb hby d29_61) rfl rfl (l' := #[rv a1, iv 1, iv 0, rv a4, iv 0, iv 5, rv ab, u_, u_]) rfl (Yo.aloadN Xy4.here hx (hb hby d29_63) rfl rfl k)) ?_
    refine fget Xy4 hx hZ hown (W_ hw 34) ey4 HF_a4_value (hb hby d29_64) fun Ty5 Xy5 ey5 => ?_
    refine Fin.step (fun _ k => Yo.astore Xy5.here hx (hb hby d29_67) rfl rfl (l' := #[rv a1, iv 1, iv 0, rv a4, iv 0, iv 5, rv ab, rv a3, u_]) rfl (Yo.aloadN Xy5.here hx (hb hby d29_69) rfl rfl k)) ?_
    obtain ⟨cqy6, kqy6, qy6a, qy6b, qy6c⟩ := isOf hZ ey5 HE_a1
    obtain ⟨_, Ty6, Lcy6, Xy6, hQy6, sty6⟩ := pack (Xy5.virtualBack hx (y := n31) (z := n31) hown (mvT hZ (W_ hw 146)) (mvT hZ (W_ hw 147)) (notFace_of_selects (args := #[]) (mvT hZ (W_ hw 149))) (mvT hZ (W_ hw 149)) (mvT hZ (W_ hw 148)) (by decide) (backOf (W := 0) (rmsc l Z a0 hw [] a1 wc h0 n0 Z0 HS_java_lang_String_COMPACT_STRINGS HF_a1_coder hwc) hZ (W_ hw 150) (W_ hw 9) (by decide) (by decide)) qy6a qy6c (g := (mkF m 70 #[rv a1, iv 1, iv 0, rv a4, iv 0, iv 5, rv ab, rv a3, u_] [(.ref a1)])) rfl (by rw [hml]; rfl) (Steps.refl _) (argsL := []) (rest := []) (lenOf pd_22 rfl) rfl (lb rfl) (hb hby d29_70) (fun _ _ => ⟨rfl, ey5, (by decide : 0 + 0 ≤ _), (by decide : 0 + 0 ≤ _)⟩))
    obtain ⟨rfl, Nqy6, eqy6⟩ := hQy6
    have Ny6 := Fr.app Ny3 Nqy6
    refine Fin.step (sty6) ?_
    show Fin p e below s _ _ _ (Ty6.setTop (mkF m 73 #[rv a1, iv 1, iv 0, rv a4, iv 0, iv 5, rv ab, rv a3, u_] [(.int 0)]))
    refine Fin.step (fun _ k => Yo.istore Xy6.here hx (hb hby d29_73) rfl (l' := #[rv a1, iv 1, iv 0, rv a4, iv 0, iv 5, rv ab, rv a3, iv 0]) rfl (Yo.iload Xy6.here hx (hb hby d29_75) rfl (Yo.aloadN Xy6.here hx (hb hby d29_77) rfl rfl k))) ?_
    obtain ⟨cqy7, kqy7, qy7a, qy7b, qy7c⟩ := isOf hZ eqy6 HE_a4
    obtain ⟨_, Ty7, Lcy7, Xy7, hQy7, sty7⟩ := pack (Xy6.virtualBack hx (y := n31) (z := n31) hown (mvT hZ (W_ hw 146)) (mvT hZ (W_ hw 147)) (notFace_of_selects (args := #[]) (mvT hZ (W_ hw 149))) (mvT hZ (W_ hw 149)) (mvT hZ (W_ hw 148)) (by decide) (backOf (W := 1) (rmsc l Z a0 hw [] a4 wc h0 n0 Z0 HS_java_lang_String_COMPACT_STRINGS HF_a4_coder hwc) hZ (W_ hw 150) (W_ hw 9) (by decide) (by decide)) qy7a qy7c (g := (mkF m 78 #[rv a1, iv 1, iv 0, rv a4, iv 0, iv 5, rv ab, rv a3, iv 0] [(.ref a4), (.int 0)])) rfl (by rw [hml]; rfl) (Steps.refl _) (argsL := []) (rest := [(.int 0)]) (lenOf pd_22 rfl) rfl (lb rfl) (hb hby d29_78) (fun _ _ => ⟨rfl, eqy6, (by decide : 0 + 0 ≤ _), (by decide : 0 + 0 ≤ _)⟩))
    obtain ⟨rfl, Nqy7, eqy7⟩ := hQy7
    have Ny7 := Fr.app Ny6 Nqy7
    refine Fin.step (sty7) ?_
    show Fin p e below s _ _ _ (Ty7.setTop (mkF m 81 #[rv a1, iv 1, iv 0, rv a4, iv 0, iv 5, rv ab, rv a3, iv 0] [(.int 0), (.int 0)]))
    refine Fin.step (fun _ k => Yo.icmpNo Xy7.here hx (hb hby d29_81) rfl (teq ((by decide) : ((0 : Int32) = (0 : Int32)))).2 (Yo.iload Xy7.here hx (hb hby d29_84) rfl (Yo.ifNo Xy7.here hx (hb hby d29_86) rfl ((if0 _ _).trans (teq ((by decide) : ((0 : Int32) = (0 : Int32)))).2) (Yo.aload Xy7.here hx (hb hby d29_89) rfl rfl (Yo.iloadN Xy7.here hx (hb hby d29_91) rfl (Yo.aload Xy7.here hx (hb hby d29_92) rfl rfl (Yo.iload Xy7.here hx (hb hby d29_94) rfl (Yo.iload Xy7.here hx (hb hby d29_96) rfl k)))))))) ?_
    obtain ⟨_, Ty8, Lcy8, Xy8, hQy8, sty8⟩ := packS (Jvm.LawKit.callS Xy7 hx (y := n32) hown (mvT hZ (W_ hw 151)) (mvT hZ (W_ hw 152)) (mvT hZ (W_ hw 41)) (mvT hZ (W_ hw 153)) (by decide) (backOf (W := 0) (rmrc5 l Z a0 hw [] ab a3 kb pn vs k3 h0 n0 Z0 HV_ab HV_a3 hcv h5) hZ (W_ hw 153) (W_ hw 41) (by decide) (by decide)) (g := (mkF m 98 #[rv a1, iv 1, iv 0, rv a4, iv 0, iv 5, rv ab, rv a3, iv 0] [(.int 5), (.int 0), (.ref a3), (.int 0), (.ref ab)])) rfl (by rw [hml]; rfl) (argsL := [(.ref ab), (.int 0), (.ref a3), (.int 0), (.int 5)]) (rest := []) (lenOf pd_24 rfl) rfl (lb rfl) (hb hby d29_98) (fun _ _ => ⟨rfl, eqy7, (by decide : 0 + 0 ≤ _), (by decide : 0 + 0 ≤ _)⟩))
    obtain ⟨rfl, Nqy8, eqy8⟩ := hQy8
    have Ny8 := Fr.app Ny7 Nqy8
    refine Fin.step (sty8) ?_
    show Fin p e below s _ _ _ (Ty8.setTop (mkF m 101 #[rv a1, iv 1, iv 0, rv a4, iv 0, iv 5, rv ab, rv a3, iv 0] [(.int (own_rx vs))]))
    refine Fin.step (fun _ k => Yo.goto Xy8.here hx (pc0 := 101) (pc' := 116) rfl (hb hby d29_101) (by decide) (by decide) k) ?_
    refine Fin.retN Xy8 hx (t := .boolean) hret (by simp) hlk (hb hby d29_116) (by decide) (by decide) ?_
    show QQ Z a1 a4 ab kb pn vs a3 k3 wc h0 n0 _ Ty8.heap _
    rw [eqy8]
    exact ⟨(congrArg (fun z => some (Value.int z)) (by rw [own_rm, if_neg h5]; exact own_rx01 vs)), Ny8, rfl⟩
theorem pn_20 : plainName "com/example/shallmark/shallmark/Expression" = true := by first | (simp [plainName, overriddenIn]; done) | decide +kernel
theorem d20_0 : decode prog_9_method_2_code 0 = .ok (.aload_n 0, 1) := by decide +kernel
theorem d20_1 : decode prog_9_method_2_code 1 = .ok (.getfield 23, 3) := by decide +kernel
theorem d20_4 : decode prog_9_method_2_code 4 = .ok (.ifnull 22, 3) := by decide +kernel
theorem d20_26 : decode prog_9_method_2_code 26 = .ok (.iconst 1, 1) := by decide +kernel
theorem d20_27 : decode prog_9_method_2_code 27 = .ok (.goto 4, 3) := by decide +kernel
theorem d20_31 : decode prog_9_method_2_code 31 = .ok (.ireturn, 1) := by decide +kernel
theorem ef_rmxN (m : MethodId) (x0 : Addr) : entryFrame m #[(.ref x0)] 1 = mkF m 0 #[.val (.ref x0)] [] := by first | (simp [entryFrame, mkF, argsToLocals, Value.category]; done) | rfl
abbrev R_rmxN : Room := ({ frames := 0, cells := 0, slots := 0, locals := 0 } : Room)
def QxN (Z : State) (a1 : Addr) (h0 : Heap) (n0 : Nat) (v : Option Value) (h : Heap) (L : List Loc) : Prop := v = some (.int 1) ∧ Fr n0 L ∧ h = h0
set_option maxRecDepth 65536 in
set_option maxHeartbeats 40000000 in
theorem rmxN (l : Launch) (Z : State) (a0 : Array Value) (hw : ∀ d ∈ tables_1, d.before a0 Z = true) (ws : List Jvm.Cond) (a1 : Addr) (h0 : Heap) (n0 : Nat) (Z0 : n0 ≤ h0.size) (HF_a1_language : Fld Z h0 a1 q0 "language" q8 .null) :
    Met1 l n20 prog_9_method_2_code 1 (some .boolean) ws R_rmxN #[(.ref a1)] Z h0 (QxN Z a1 h0 n0) := by
  refine Met1.enter (plainFor_of_name pn_20) (fun m => ef_rmxN m a1) fun p e s m below meth c s₁ hx hby hlk hret hml hown hnm hZ X0 e0 => ?_
  have N0 := Fr.nil n0
  have K0 : Keep h0 h0 [] := Keep.refl h0 _
  show Fin p e below s _ _ _ (s₁.setTop (mkF m 0 #[rv a1] []))
  refine Fin.step (fun _ k => Yo.aloadN X0.here hx (hb hby d20_0) rfl rfl k) ?_
  refine fget X0 hx hZ hown (W_ hw 77) e0 HF_a1_language (hb hby d20_1) fun Ty1 Xy1 ey1 => ?_
  refine Fin.step (fun _ k => Yo.ifnullYes Xy1.here hx (pc0 := 4) (pc' := 26) rfl (hb hby d20_4) rfl (by decide) (by decide) (Yo.iconst Xy1.here hx (hb hby d20_26) (Yo.goto Xy1.here hx (pc0 := 27) (pc' := 31) rfl (hb hby d20_27) (by decide) (by decide) k))) ?_
  refine Fin.retN Xy1 hx (t := .boolean) hret (by simp) hlk (hb hby d20_31) (by decide) (by decide) ?_
  show QxN Z a1 h0 n0 _ Ty1.heap _
  rw [ey1]
  exact ⟨rfl, N0, rfl⟩
theorem own_fin {m n : Int32} {ws as : List Value} (e : own_rm m ws = own_xp n as) : (h : own_rm m ws = 0) → (0 : Int32) = own_xp n as := fun h => by rw [← e, h]
theorem own_fin1 {m n : Int32} {ws as : List Value} (e : own_rm m ws = own_xp n as) (h : ¬ own_rm m ws = 0) : (1 : Int32) = own_xp n as := by
  rw [← e]
  rcases own_rm01 m ws with q | q
  · exact absurd q h
  · exact q.symm
theorem own_78 {n : Int32} (h : 0 ≤ n.toInt ∧ n.toInt ≤ 7) : 0 ≤ n.toInt ∧ n.toInt ≤ 8 := ⟨h.1, by omega⟩
theorem d20_7 : decode prog_9_method_2_code 7 = .ok (.aload_n 0, 1) := by decide +kernel
theorem d20_8 : decode prog_9_method_2_code 8 = .ok (.getfield 23, 3) := by decide +kernel
theorem d20_11 : decode prog_9_method_2_code 11 = .ok (.invokevirtual 30, 3) := by decide +kernel
theorem pd_25 : parseMethodDescriptor "()Ljava/lang/String;" = some ⟨[], some (.object "java/lang/String")⟩ := by decide +kernel
theorem d20_14 : decode prog_9_method_2_code 14 = .ok (.iconst 1, 1) := by decide +kernel
theorem d20_15 : decode prog_9_method_2_code 15 = .ok (.iconst 0, 1) := by decide +kernel
theorem d20_16 : decode prog_9_method_2_code 16 = .ok (.ldc 36, 2) := by decide +kernel
theorem d20_18 : decode prog_9_method_2_code 18 = .ok (.iconst 0, 1) := by decide +kernel
theorem d20_19 : decode prog_9_method_2_code 19 = .ok (.iconst 5, 1) := by decide +kernel
theorem d20_20 : decode prog_9_method_2_code 20 = .ok (.invokevirtual 38, 3) := by decide +kernel
theorem pd_26 : parseMethodDescriptor "(ZILjava/lang/String;II)Z" = some ⟨[.boolean, .int, (.object "java/lang/String"), .int, .int], some .boolean⟩ := by decide +kernel
theorem d20_23 : decode prog_9_method_2_code 23 = .ok (.ifCond .eq 7, 3) := by decide +kernel
theorem d20_30 : decode prog_9_method_2_code 30 = .ok (.iconst 0, 1) := by decide +kernel
theorem ef_rmxR (m : MethodId) (x0 : Addr) : entryFrame m #[(.ref x0)] 1 = mkF m 0 #[.val (.ref x0)] [] := by first | (simp [entryFrame, mkF, argsToLocals, Value.category]; done) | rfl
abbrev R_rmxR : Room := ({ frames := 6, cells := 4, slots := 36, locals := 92 } : Room)
def QxR (Z : State) (a1 so ab : Addr) (kb : ClassId) (pn : Int32) (vs : List Value) (ci aa : Addr) (kA : ClassId) (wc : Int32) (asl : List Value) (h0 : Heap) (n0 : Nat) (v : Option Value) (h : Heap) (L : List Loc) : Prop := v = some (.int (own_xp pn asl)) ∧ Fr n0 L ∧ Keep h0 h []
set_option maxRecDepth 65536 in
set_option maxHeartbeats 40000000 in
theorem rmxR (l : Launch) (Z : State) (a0 : Array Value) (hw : ∀ d ∈ tables_1, d.before a0 Z = true) (ws : List Jvm.Cond) (a1 so ab : Addr) (kb : ClassId) (pn : Int32) (vs : List Value) (ci aa : Addr) (kA : ClassId) (wc : Int32) (asl : List Value) (h0 : Heap) (n0 : Nat) (Z0 : n0 ≤ h0.size) (HF_a1_language : Fld Z h0 a1 q0 "language" q8 (.ref so)) (HE_so : Exa Z h0 so q2) (HF_so_coder : Fld Z h0 so q2 "coder" "B" (.int 0)) (HF_so_value : Fld Z h0 so q2 "value" "[B" (.ref ab)) (HV_ab : Arv Z h0 ab kb .byte pn vs (.int 0)) (HS_java_lang_CharacterDataLatin1_instance : Sta Z h0 q4 "instance" "Ljava/lang/CharacterDataLatin1;" (.ref ci)) (HE_ci : Exa Z h0 ci q4) (HS_java_lang_CharacterDataLatin1_A : Sta Z h0 q4 "A" "[I" (.ref aa)) (HV_aa : Arv Z h0 aa kA .int (256 : Int32) own_AL (.int 0)) (HS_java_lang_String_COMPACT_STRINGS : Sta Z h0 q2 q9 "Z" (.int wc)) (hwc : ¬ wc = 0) (hn : 0 ≤ pn.toInt ∧ pn.toInt ≤ 7) (hcv : own_chs vs) (hbb : ∀ i, i < pn.toNatClampNeg → own_gt vs i = nar .byte ((own_gt asl i).toInt8.toInt32) ∧ 0 ≤ (own_gt asl i).toInt ∧ (own_gt asl i).toInt ≤ 255) :
    Met1H l n20 prog_9_method_2_code 1 (some .boolean) ws R_rmxR #[(.ref a1)] Z h0 own_EL (QxR Z a1 so ab kb pn vs ci aa kA wc asl h0 n0) := by
  refine Met1H.enter (plainFor_of_name pn_20) (fun m => ef_rmxR m a1) fun p e s m below meth c s₁ hx hby hlk hret hml hown hnm hZ X0 e0 hsh hch => ?_
  have N0 := Fr.nil n0
  have K0 : Keep h0 h0 [] := Keep.refl h0 _
  have hEL := own_EW hw
  have wS := own_wS hw
  have CH0 := CHr.refl hch
  show FinH p e below s Z own_EL _ _ _ (s₁.setTop (mkF m 0 #[rv a1] []))
  refine FinH.step (fun _ k => Yo.aloadN X0.here hx (hb hby d20_0) rfl rfl k) ?_
  obtain ⟨Ty1, Xy1, ey1, sty1⟩ := getF X0 hx hZ hown (host := "") (Or.inl (W_ hw 77)) Via.refl e0 HF_a1_language (g := (mkF m 1 #[rv a1] [(.ref a1)])) rfl rfl (hb hby d20_1)
  refine FinH.step (sty1) ?_
  show FinH p e below s Z own_EL _ _ _ (Ty1.setTop (mkF m 4 #[rv a1] [(.ref so)]))
  refine FinH.step (fun _ k => Yo.ifnullNo Xy1.here hx (hb hby d20_4) rfl (Yo.aloadN Xy1.here hx (hb hby d20_7) rfl rfl k)) ?_
  obtain ⟨Ty2, Xy2, ey2, sty2⟩ := getF Xy1 hx hZ hown (host := "") (Or.inl (W_ hw 77)) Via.refl ey1 HF_a1_language (g := (mkF m 8 #[rv a1] [(.ref a1)])) rfl rfl (hb hby d20_8)
  refine FinH.step (sty2) ?_
  show FinH p e below s Z own_EL _ _ _ (Ty2.setTop (mkF m 11 #[rv a1] [(.ref so)]))
  obtain ⟨cqy3, kqy3, qy3a, qy3b, qy3c⟩ := isOf hZ ey2 HE_so
  obtain ⟨_, Ty3, Lcy3, Xy3, hSy3, hZ, hown, hQy3, CHcy3, sty3⟩ := packH (s := s) (vm0 := s.vm) ((State.WarmedH.refl s).since 0) (by rw [ey2]; exact (Nat.zero_le _)) hZ hown (Jvm.Stand.virtualBackS Xy2 hx (y := n21) (z := n21) hown (mvT hZ (W_ hw 98)) (mvT hZ (W_ hw 99)) (notFace_of_selects (args := #[]) (mvT hZ (W_ hw 101))) (mvT hZ (W_ hw 101)) (mvT hZ (W_ hw 100)) (by decide) (backOfSH (s := s) (vm0 := s.vm) (W := 0) (rmst l Z a0 hw [] so ab kb pn vs ci aa kA wc h0 n0 Z0 HE_so HF_so_coder HF_so_value HV_ab HS_java_lang_CharacterDataLatin1_instance HE_ci HS_java_lang_CharacterDataLatin1_A HV_aa HS_java_lang_String_COMPACT_STRINGS hwc (own_78 hn) hcv) hZ (W_ hw 102) (W_ hw 9) (by decide) (by decide) hEL CH0.1) qy3a qy3c (g := (mkF m 11 #[rv a1] [(.ref so)])) rfl (by rw [hml]; rfl) (Steps.refl _) (argsL := []) (rest := []) (lenOf pd_25 rfl) rfl (lb rfl) (hb hby d20_11) (fun _ _ => ⟨rfl, ey2, (by decide : 0 + 2 ≤ _), (by decide : 0 + 12 ≤ _)⟩))
  replace hZ : Z.Warmed39 (s.setVm Ty3.vm).vm := hZ
  replace hown : (s.setVm Ty3.vm).vm.findClass q0 = some m.cls := hown
  obtain ⟨so_y3, nb_y3, kn_y3, pm_y3, wl_y3, rfl, Nqy3, Kcy3, fy3_0, fy3_1, fy3_2, fy3_3, ppy3_0, ppy3_1, ppy3_2⟩ := hQy3
  have Ny3 := Fr.app N0 Nqy3
  have CHy3 := CH0.trans CHcy3
  have Zy3 := Nat.le_trans Z0 Kcy3.1
  have Ky3 := K0.trans Kcy3 all0
  refine FinH.step (sty3) ?_
  show FinH p e below s Z own_EL _ _ _ (Ty3.setTop (mkF m 14 #[rv a1] [(.ref so_y3)]))
  refine FinH.step (fun _ k => Yo.iconst Xy3.here hx (hb hby d20_14) (Yo.iconst Xy3.here hx (hb hby d20_15) k)) ?_
  obtain ⟨ay4, Ty4, hy4, k1y4, by4, kby4, Xy4, ey4, Ey4, hSy4, hky4, hZ, hown, Ay4, Fcy4, Fvy4, Vy4, -, -, CHcy4, -, nly4, sty4⟩ := ldcCH (s := s) (vm0 := Ty3.vm) Xy3 hx hZ hown (W_ hw 133) wS rfl hSy3 (Nat.le_refl _) hEL (List.mem_of_getElem? (i := 0) rfl) CHy3.1 (vs := [(.int 120), (.int 112), (.int 97), (.int 116), (.int 104)]) (z := (5 : Int32)) ⟨by decide, by rfl⟩ (by decide) (by decide) (g := (mkF m 16 #[rv a1] [(.int 0), (.int 1), (.ref so_y3)])) rfl (hb hby d20_16) (n := 20) (by decide) (by decide) (by decide) (by decide)
  have CHy4 := CHy3.trans CHcy4
  have Zy4 := Nat.le_trans Zy3 Ey4.1
  have Ky4 := Ky3.ext Ey4
  refine FinH.step (sty4) ?_
  show FinH p e below s Z own_EL _ _ _ (Ty4.setTop (mkF m 18 #[rv a1] [(.ref ay4), (.int 0), (.int 1), (.ref so_y3)]))
  refine FinH.step (fun _ k => Yo.iconst Xy4.here hx (hb hby d20_18) (Yo.iconst Xy4.here hx (hb hby d20_19) k)) ?_
  have ry5 := (Sta_keep HS_java_lang_String_COMPACT_STRINGS Ky4)
  obtain ⟨cqy6, kqy6, qy6a, qy6b, qy6c⟩ := isOf hZ ey4 (fy3_0.ext Ey4)
  obtain ⟨_, Ty6, Lcy6, Xy6, hQy6, sty6⟩ := pack (Xy4.virtualBack hx (y := n29) (z := n29) hown (mvT hZ (W_ hw 136)) (mvT hZ (W_ hw 137)) (notFace_of_selects (args := #[]) (mvT hZ (W_ hw 139))) (mvT hZ (W_ hw 139)) (mvT hZ (W_ hw 138)) (by decide) (backOf (W := 0) (rmrm l Z a0 hw [] so_y3 ay4 nb_y3 kn_y3 pm_y3 wl_y3 by4 kby4 wc hy4 n0 Zy4 (fy3_0.ext Ey4) (fy3_1.ext Ey4) (fy3_2.ext Ey4) (fy3_3.ext Ey4) Ay4 Fcy4 Fvy4 Vy4 ry5 hwc ppy3_2 ppy3_1) hZ (W_ hw 140) (W_ hw 9) (by decide) (by decide)) qy6a qy6c (g := (mkF m 20 #[rv a1] [(.int 5), (.int 0), (.ref ay4), (.int 0), (.int 1), (.ref so_y3)])) rfl (by rw [hml]; rfl) (Steps.refl _) (argsL := [(.int 1), (.int 0), (.ref ay4), (.int 0), (.int 5)]) (rest := []) (lenOf pd_26 rfl) rfl (lb rfl) (hb hby d20_20) (fun _ _ => ⟨rfl, ey4, (by decide : 4 + 0 ≤ _), (by decide : 36 + 0 ≤ _)⟩))
  obtain ⟨rfl, Nqy6, eqy6⟩ := hQy6
  have Ny6 := Fr.app Ny3 Nqy6
  refine FinH.step (sty6) ?_
  show FinH p e below s Z own_EL _ _ _ (Ty6.setTop (mkF m 23 #[rv a1] [(.int (own_rm pm_y3 wl_y3))]))
  by_cases hcy7 : (own_rm pm_y3 wl_y3) = (0 : Int32)
  · refine FinH.step (fun _ k => Yo.ifYes Xy6.here hx (pc0 := 23) (pc' := 30) rfl (hb hby d20_23) rfl ((if0 _ _).trans (teq (hcy7 : ((own_rm pm_y3 wl_y3) = (0 : Int32)))).1) (by decide) (by decide) (Yo.iconst Xy6.here hx (hb hby d20_30) k)) ?_
    refine FinH.retN Xy6 hSy4 (by rw [eqy6]; exact hky4) hZ hEL (by rw [hsh, eqy6]; exact CHy4) hx (t := .boolean) hret (by simp) hlk (hb hby d20_31) (by decide) (by decide) ?_
    show QxR Z a1 so ab kb pn vs ci aa kA wc asl h0 n0 _ Ty6.heap _
    rw [eqy6]
    exact ⟨(congrArg (fun z => some (Value.int z)) (own_fin (own_core hn hbb ppy3_0) hcy7)), Ny6, Ky4⟩
  · refine FinH.step (fun _ k => Yo.ifNo Xy6.here hx (hb hby d20_23) rfl ((if0 _ _).trans (feq (hcy7 : ¬ ((own_rm pm_y3 wl_y3) = (0 : Int32)))).1) (Yo.iconst Xy6.here hx (hb hby d20_26) (Yo.goto Xy6.here hx (pc0 := 27) (pc' := 31) rfl (hb hby d20_27) (by decide) (by decide) k))) ?_
    refine FinH.retN Xy6 hSy4 (by rw [eqy6]; exact hky4) hZ hEL (by rw [hsh, eqy6]; exact CHy4) hx (t := .boolean) hret (by simp) hlk (hb hby d20_31) (by decide) (by decide) ?_
    show QxR Z a1 so ab kb pn vs ci aa kA wc asl h0 n0 _ Ty6.heap _
    rw [eqy6]
    exact ⟨(congrArg (fun z => some (Value.int z)) (own_fin1 (own_core hn hbb ppy3_0) hcy7)), Ny6, Ky4⟩
theorem own_qz (x : Int32) : ¬ (255 : Int32) < ((ushI x 8 &&& 255).toUInt32.toUInt16.toUInt32.toInt32) := by
  have e := own_chr (ushI x 8)
  rw [Int32.lt_iff_toInt_lt]
  show ¬ (255 : Int) < (own_ch (ushI x 8)).toInt
  omega
theorem pn_0 : plainName "com/example/shallmark/shallmark/ExpressionIsXPathPinLaw" = true := by first | (simp [plainName, overriddenIn]; done) | decide +kernel
theorem pd_27 : parseMethodDescriptor "(JI)I" = some ⟨[.long, .int], some .int⟩ := by decide +kernel
theorem pd_28 : parseMethodDescriptor "([C)V" = some ⟨[(.array .char)], none⟩ := by decide +kernel
theorem pd_29 : parseMethodDescriptor "(C)Ljava/lang/String;" = some ⟨[.char], some (.object "java/lang/String")⟩ := by decide +kernel
theorem pd_30 : parseMethodDescriptor "()Ljava/util/Map;" = some ⟨[], some (.object "java/util/Map")⟩ := by decide +kernel
theorem pd_31 : parseMethodDescriptor "(Ljava/lang/String;Ljava/util/Map;Ljava/lang/String;I)V" = some ⟨[(.object "java/lang/String"), (.object "java/util/Map"), (.object "java/lang/String"), .int], none⟩ := by decide +kernel
theorem pd_32 : parseMethodDescriptor "([III)Z" = some ⟨[(.array .int), .int, .int], some .boolean⟩ := by decide +kernel
theorem ef_rm0 (m : MethodId) (x0 : Int64) (x1 : Int32) : entryFrame m #[(.long x0), (.int x1)] maxLocals = mkF m 0 #[.val (.long x0), .second, .val (.int x1), .unset, .unset, .unset, .unset, .unset, .unset, .unset, .unset, .unset] [] := by first | (simp [entryFrame, mkF, argsToLocals, Value.category, maxLocals]; done) | rfl
def Q0 (Z : State) (pd : Int64) (pq wc : Int32) (em ci aa : Addr) (kA : ClassId) (h0 : Heap) (n0 : Nat) (v : Option Value) (h : Heap) (L : List Loc) : Prop := v = some (.int (1 : Int32)) ∧ Fr n0 L ∧ Keep h0 h []
set_option maxRecDepth 65536 in
set_option maxHeartbeats 40000000 in
theorem rm0 (l : Launch) (Z : State) (a0 : Array Value) (hw : ∀ d ∈ tables_1, d.before a0 Z = true) (ws : List Jvm.Cond) (pd : Int64) (pq : Int32) (wc : Int32) (em : Addr) (ci : Addr) (aa : Addr) (kA : ClassId) (h0 : Heap) (n0 : Nat) (Z0 : n0 ≤ h0.size) (HS_java_lang_String_COMPACT_STRINGS : Sta Z h0 q2 q9 "Z" (.int wc)) (HS_java_util_ImmutableCollections_EMPTY_MAP : Sta Z h0 q5 "EMPTY_MAP" "Ljava/util/ImmutableCollections$MapN;" (.ref em)) (HE_em : Exa Z h0 em q6) (HS_java_lang_CharacterDataLatin1_instance : Sta Z h0 q4 "instance" "Ljava/lang/CharacterDataLatin1;" (.ref ci)) (HE_ci : Exa Z h0 ci q4) (HS_java_lang_CharacterDataLatin1_A : Sta Z h0 q4 "A" "[I" (.ref aa)) (HV_aa : Arv Z h0 aa kA .int (256 : Int32) own_AL (.int (0 : Int32))) (hwc : ¬ wc = 0) (hCH : CHv Z own_EL Z.vm h0) :
    MetFree l x (head1 (Jvm.Cond.code x code maxLocals ret :: ws) room_1) (fun a U => a = #[(.long pd), (.int pq)] ∧ U = Z ∧ Z.heap = h0) (fun _ _ _ _ _ => True) (fun _ U o U' => ∃ v L, o = .returned v ∧ Q0 Z pd pq wc em ci aa kA h0 n0 v U'.heap L ∧ ReturnedEndW U o U' L room_1.cells room_1.slots) := by
  refine MetFree.of_bodySF (plainFor_of_name pn_0) hisR ?_
  intro p e s m args below meth c s₁ Bd hml0 hP hK
  obtain ⟨rfl, hUZ, hh0⟩ := hP
  have hZ : Z.Warmed39 s.vm := by rw [hUZ]; exact State.Warmed39.refl _
  have hh : s.heap = h0 := by rw [hUZ]; exact hh0
  have hx := Bd.exec
  have hby := Bd.bytes
  have hlk := BodyLoose.notSynchronized Bd
  have hret := Bd.returns
  have hml : c.maxLocals = 12 := hml0
  have hown : s.vm.findClass "com/example/shallmark/shallmark/ExpressionIsXPathPinLaw" = some m.cls := findClass_of_methodNamed Bd.named
  have hnm := (name_of_methodNamed Bd.named Bd.method).1
  have X0 : Stand p l e room_1 s m #[(.long pd), (.int pq)] below meth c s₁ [] 0 0 := Stand.of_body Bd
  have e0 : s₁.heap = h0 := by rw [← hh, Bd.state]; rfl
  have N0 := Fr.nil n0
  have K0 : Keep h0 h0 [] := Keep.refl h0 _
  have hEL := own_EW hw
  have wS := own_wS hw
  have CH0 : CHr Z own_EL s.vm h0 s.vm h0 := by rw [hUZ]; exact CHr.refl hCH
  refine FinW.step (Q := fun v h L => Q0 Z pd pq wc em ci aa kA h0 n0 v h L) (st' := s₁.setTop (mkF m 0 #[.val (.long pd), .second, .val (.int pq), .unset, .unset, .unset, .unset, .unset, .unset, .unset, .unset, .unset] [])) (fun t k => castTop (ef_rm0 m pd pq) k) ?_
  show FinW p e below s _ _ _ (s₁.setTop (mkF m 0 #[.val (.long pd), .second, iv pq, u_, u_, u_, u_, u_, u_, u_, u_, u_] []))
  refine FinW.step (fun _ k => Yo.iloadN X0.here hx (hb hby at_0) rfl (Yo.bipush X0.here hx (hb hby at_1) (Yo.iand X0.here hx (hb hby at_3) rfl k))) ?_
  show FinW p e below s _ _ _ (s₁.setTop (mkF m 4 #[.val (.long pd), .second, iv pq, u_, u_, u_, u_, u_, u_, u_, u_, u_] [(.int (pq &&& (7 : Int32)))]))
  refine FinW.step (fun _ k => Yo.istoreN X0.here hx (hb hby at_4) rfl (l' := #[.val (.long pd), .second, iv pq, .val (.int (pq &&& (7 : Int32))), u_, u_, u_, u_, u_, u_, u_, u_]) rfl k) ?_
  obtain ⟨zn, h_zn⟩ : ∃ z : Int32, z = (pq &&& (7 : Int32)) := ⟨_, rfl⟩
  rw [← h_zn]
  show FinW p e below s _ _ _ (s₁.setTop (mkF m 5 #[.val (.long pd), .second, iv pq, iv zn, u_, u_, u_, u_, u_, u_, u_, u_] []))
  have hzn : 0 ≤ zn.toInt ∧ zn.toInt ≤ 7 := by rw [h_zn]; exact own_m7 pq
  clear h_zn
  have J0 : ∀ (zq : Int32) (hzq : zq = 0 ∨ zq = 1), FinW p e below s (fun v h L => Q0 Z pd pq wc em ci aa kA h0 n0 v h L) room_1.cells room_1.slots (s₁.setTop (mkF m 20 #[.val (.long pd), .second, iv pq, iv zn, iv zq, u_, u_, u_, u_, u_, u_, u_] [])) := by
    intro zq hzq
    refine FinW.step (fun _ k => Yo.bipush X0.here hx (hb hby at_20) k) ?_
    obtain ⟨Ty1, hy1, ky1, Xy1, ey1, Ey1, Ay1, sty1⟩ := newP X0 hx hZ (W_ hw 0) e0 (g := (mkF m 22 #[.val (.long pd), .second, iv pq, iv zn, iv zq, u_, u_, u_, u_, u_, u_, u_] [(.int 7)])) rfl (hb hby at_22) rfl (by decide) (cap := 7) (by decide) (by decide) (by decide) (by decide)
    obtain ⟨by1, gy1⟩ : ∃ z, z = h0.size := ⟨_, rfl⟩
    rw [← gy1] at Ay1 sty1
    have gzy1 : n0 ≤ by1 := Nat.le_trans Z0 (Nat.le_of_eq gy1.symm)
    have szy1 : h0.size ≤ by1 := Nat.le_trans K0.1 (Nat.le_of_eq gy1.symm)
    have Zy1 := Nat.le_trans Z0 Ey1.1
    have Ky1 := K0.ext Ey1
    have Vy1 : Arv Z hy1 by1 ky1 .int (7 : Int32) [(.int 0), (.int 0), (.int 0), (.int 0), (.int 0), (.int 0), (.int 0)] (.int 0) := (Arv.new Ay1 (by decide)).pad (pad_rep [] (.int 0) 7)
    refine FinW.step (sty1) ?_
    show FinW p e below s _ _ _ (Ty1.setTop (mkF m 24 #[.val (.long pd), .second, iv pq, iv zn, iv zq, u_, u_, u_, u_, u_, u_, u_] [(.ref by1)]))
    refine FinW.step (fun _ k => Yo.astore Xy1.here hx (hb hby at_24) rfl rfl (l' := #[.val (.long pd), .second, iv pq, iv zn, iv zq, rv by1, u_, u_, u_, u_, u_, u_]) rfl (Yo.aload Xy1.here hx (hb hby at_26) rfl rfl (Yo.iconst Xy1.here hx (hb hby at_28) k))) ?_
    refine FinW.step (fun _ => XS.lloadN Xy1.here hx rfl (hb hby at_29) rfl) ?_
    show FinW p e below s _ _ _ (Ty1.setTop (mkF m 30 #[.val (.long pd), .second, iv pq, iv zn, iv zq, rv by1, u_, u_, u_, u_, u_, u_] [(.long pd), (.int 0), (.ref by1)]))
    refine FinW.step (fun _ k => Yo.iconst Xy1.here hx (hb hby at_30) k) ?_
    obtain ⟨_, Ty2, Lcy2, Xy2, hQy2, sty2⟩ := packS (Jvm.LawKit.callS Xy1 hx (y := n1) hown (mvT hZ (W_ hw 1)) (mvT hZ (W_ hw 2)) (mvT hZ (W_ hw 3)) (mvT hZ (W_ hw 4)) (by decide) (backOf (W := 2) (rmdr l Z a0 hw [] pd 0 hy1 n0 Zy1 ) hZ (W_ hw 4) (W_ hw 3) (by decide) (by decide)) (g := (mkF m 31 #[.val (.long pd), .second, iv pq, iv zn, iv zq, rv by1, u_, u_, u_, u_, u_, u_] [(.int 0), (.long pd), (.int 0), (.ref by1)])) rfl (by rw [hml]; rfl) (argsL := [(.long pd), (.int 0)]) (rest := [(.int 0), (.ref by1)]) (lenOf pd_27 rfl) rfl (lb rfl) (hb hby at_31) (fun _ _ => ⟨rfl, ey1, (by decide : 1 + 1 ≤ _), (by decide : 7 + 16 ≤ _)⟩))
    obtain ⟨rfl, Nqy2, Kcy2⟩ := hQy2
    have Ny2 := Fr.app N0 Nqy2
    have Zy2 := Nat.le_trans Zy1 Kcy2.1
    have Ky2 := Ky1.trans Kcy2 all0
    refine FinW.step (sty2) ?_
    show FinW p e below s _ _ _ (Ty2.setTop (mkF m 34 #[.val (.long pd), .second, iv pq, iv zn, iv zq, rv by1, u_, u_, u_, u_, u_, u_] [(.int (own_dr pd (0 : Int32))), (.int 0), (.ref by1)]))
    obtain ⟨Ty3, hy3, Xy3, ey3, Wy3, Vy3, Ny3, Zy3, Ky3, sty3⟩ := ist3 Xy2 hx hZ rfl (j := 0) (x := (own_dr pd (0 : Int32))) (ix := 0) (Vy1.keep Kcy2 nin0) ⟨by decide, by decide⟩ rfl (lb rfl) Ny2 Zy2 Ky2 gzy1 (Or.inr szy1) (hb hby at_34)
    refine FinW.step (sty3) ?_
    refine FinW.step (fun _ k => Yo.aload Xy3.here hx (hb hby at_35) rfl rfl (Yo.iconst Xy3.here hx (hb hby at_37) k)) ?_
    refine FinW.step (fun _ => XS.lloadN Xy3.here hx rfl (hb hby at_38) rfl) ?_
    show FinW p e below s _ _ _ (Ty3.setTop (mkF m 39 #[.val (.long pd), .second, iv pq, iv zn, iv zq, rv by1, u_, u_, u_, u_, u_, u_] [(.long pd), (.int 1), (.ref by1)]))
    refine FinW.step (fun _ k => Yo.iconst Xy3.here hx (hb hby at_39) k) ?_
    obtain ⟨_, Ty4, Lcy4, Xy4, hQy4, sty4⟩ := packS (Jvm.LawKit.callS Xy3 hx (y := n1) hown (mvT hZ (W_ hw 1)) (mvT hZ (W_ hw 2)) (mvT hZ (W_ hw 3)) (mvT hZ (W_ hw 4)) (by decide) (backOf (W := 2) (rmdr l Z a0 hw [] pd 1 hy3 n0 Zy3 ) hZ (W_ hw 4) (W_ hw 3) (by decide) (by decide)) (g := (mkF m 40 #[.val (.long pd), .second, iv pq, iv zn, iv zq, rv by1, u_, u_, u_, u_, u_, u_] [(.int 1), (.long pd), (.int 1), (.ref by1)])) rfl (by rw [hml]; rfl) (argsL := [(.long pd), (.int 1)]) (rest := [(.int 1), (.ref by1)]) (lenOf pd_27 rfl) rfl (lb rfl) (hb hby at_40) (fun _ _ => ⟨rfl, ey3, (by decide : 2 + 1 ≤ _), (by decide : 23 + 16 ≤ _)⟩))
    obtain ⟨rfl, Nqy4, Kcy4⟩ := hQy4
    have Ny4 := Fr.app Ny3 Nqy4
    have Zy4 := Nat.le_trans Zy3 Kcy4.1
    have Ky4 := Ky3.trans Kcy4 all0
    refine FinW.step (sty4) ?_
    show FinW p e below s _ _ _ (Ty4.setTop (mkF m 43 #[.val (.long pd), .second, iv pq, iv zn, iv zq, rv by1, u_, u_, u_, u_, u_, u_] [(.int (own_dr pd (1 : Int32))), (.int 1), (.ref by1)]))
    obtain ⟨Ty5, hy5, Xy5, ey5, Wy5, Vy5, Ny5, Zy5, Ky5, sty5⟩ := ist3 Xy4 hx hZ rfl (j := 1) (x := (own_dr pd (1 : Int32))) (ix := 1) (Vy3.keep Kcy4 nin0) ⟨by decide, by decide⟩ rfl (lb rfl) Ny4 Zy4 Ky4 gzy1 (Or.inr szy1) (hb hby at_43)
    refine FinW.step (sty5) ?_
    refine FinW.step (fun _ k => Yo.aload Xy5.here hx (hb hby at_44) rfl rfl (Yo.iconst Xy5.here hx (hb hby at_46) k)) ?_
    refine FinW.step (fun _ => XS.lloadN Xy5.here hx rfl (hb hby at_47) rfl) ?_
    show FinW p e below s _ _ _ (Ty5.setTop (mkF m 48 #[.val (.long pd), .second, iv pq, iv zn, iv zq, rv by1, u_, u_, u_, u_, u_, u_] [(.long pd), (.int 2), (.ref by1)]))
    refine FinW.step (fun _ k => Yo.iconst Xy5.here hx (hb hby at_48) k) ?_
    obtain ⟨_, Ty6, Lcy6, Xy6, hQy6, sty6⟩ := packS (Jvm.LawKit.callS Xy5 hx (y := n1) hown (mvT hZ (W_ hw 1)) (mvT hZ (W_ hw 2)) (mvT hZ (W_ hw 3)) (mvT hZ (W_ hw 4)) (by decide) (backOf (W := 2) (rmdr l Z a0 hw [] pd 2 hy5 n0 Zy5 ) hZ (W_ hw 4) (W_ hw 3) (by decide) (by decide)) (g := (mkF m 49 #[.val (.long pd), .second, iv pq, iv zn, iv zq, rv by1, u_, u_, u_, u_, u_, u_] [(.int 2), (.long pd), (.int 2), (.ref by1)])) rfl (by rw [hml]; rfl) (argsL := [(.long pd), (.int 2)]) (rest := [(.int 2), (.ref by1)]) (lenOf pd_27 rfl) rfl (lb rfl) (hb hby at_49) (fun _ _ => ⟨rfl, ey5, (by decide : 3 + 1 ≤ _), (by decide : 39 + 16 ≤ _)⟩))
    obtain ⟨rfl, Nqy6, Kcy6⟩ := hQy6
    have Ny6 := Fr.app Ny5 Nqy6
    have Zy6 := Nat.le_trans Zy5 Kcy6.1
    have Ky6 := Ky5.trans Kcy6 all0
    refine FinW.step (sty6) ?_
    show FinW p e below s _ _ _ (Ty6.setTop (mkF m 52 #[.val (.long pd), .second, iv pq, iv zn, iv zq, rv by1, u_, u_, u_, u_, u_, u_] [(.int (own_dr pd (2 : Int32))), (.int 2), (.ref by1)]))
    obtain ⟨Ty7, hy7, Xy7, ey7, Wy7, Vy7, Ny7, Zy7, Ky7, sty7⟩ := ist3 Xy6 hx hZ rfl (j := 2) (x := (own_dr pd (2 : Int32))) (ix := 2) (Vy5.keep Kcy6 nin0) ⟨by decide, by decide⟩ rfl (lb rfl) Ny6 Zy6 Ky6 gzy1 (Or.inr szy1) (hb hby at_52)
    refine FinW.step (sty7) ?_
    refine FinW.step (fun _ k => Yo.aload Xy7.here hx (hb hby at_53) rfl rfl (Yo.iconst Xy7.here hx (hb hby at_55) k)) ?_
    refine FinW.step (fun _ => XS.lloadN Xy7.here hx rfl (hb hby at_56) rfl) ?_
    show FinW p e below s _ _ _ (Ty7.setTop (mkF m 57 #[.val (.long pd), .second, iv pq, iv zn, iv zq, rv by1, u_, u_, u_, u_, u_, u_] [(.long pd), (.int 3), (.ref by1)]))
    refine FinW.step (fun _ k => Yo.iconst Xy7.here hx (hb hby at_57) k) ?_
    obtain ⟨_, Ty8, Lcy8, Xy8, hQy8, sty8⟩ := packS (Jvm.LawKit.callS Xy7 hx (y := n1) hown (mvT hZ (W_ hw 1)) (mvT hZ (W_ hw 2)) (mvT hZ (W_ hw 3)) (mvT hZ (W_ hw 4)) (by decide) (backOf (W := 2) (rmdr l Z a0 hw [] pd 3 hy7 n0 Zy7 ) hZ (W_ hw 4) (W_ hw 3) (by decide) (by decide)) (g := (mkF m 58 #[.val (.long pd), .second, iv pq, iv zn, iv zq, rv by1, u_, u_, u_, u_, u_, u_] [(.int 3), (.long pd), (.int 3), (.ref by1)])) rfl (by rw [hml]; rfl) (argsL := [(.long pd), (.int 3)]) (rest := [(.int 3), (.ref by1)]) (lenOf pd_27 rfl) rfl (lb rfl) (hb hby at_58) (fun _ _ => ⟨rfl, ey7, (by decide : 4 + 1 ≤ _), (by decide : 55 + 16 ≤ _)⟩))
    obtain ⟨rfl, Nqy8, Kcy8⟩ := hQy8
    have Ny8 := Fr.app Ny7 Nqy8
    have Zy8 := Nat.le_trans Zy7 Kcy8.1
    have Ky8 := Ky7.trans Kcy8 all0
    refine FinW.step (sty8) ?_
    show FinW p e below s _ _ _ (Ty8.setTop (mkF m 61 #[.val (.long pd), .second, iv pq, iv zn, iv zq, rv by1, u_, u_, u_, u_, u_, u_] [(.int (own_dr pd (3 : Int32))), (.int 3), (.ref by1)]))
    obtain ⟨Ty9, hy9, Xy9, ey9, Wy9, Vy9, Ny9, Zy9, Ky9, sty9⟩ := ist3 Xy8 hx hZ rfl (j := 3) (x := (own_dr pd (3 : Int32))) (ix := 3) (Vy7.keep Kcy8 nin0) ⟨by decide, by decide⟩ rfl (lb rfl) Ny8 Zy8 Ky8 gzy1 (Or.inr szy1) (hb hby at_61)
    refine FinW.step (sty9) ?_
    refine FinW.step (fun _ k => Yo.aload Xy9.here hx (hb hby at_62) rfl rfl (Yo.iconst Xy9.here hx (hb hby at_64) k)) ?_
    refine FinW.step (fun _ => XS.lloadN Xy9.here hx rfl (hb hby at_65) rfl) ?_
    show FinW p e below s _ _ _ (Ty9.setTop (mkF m 66 #[.val (.long pd), .second, iv pq, iv zn, iv zq, rv by1, u_, u_, u_, u_, u_, u_] [(.long pd), (.int 4), (.ref by1)]))
    refine FinW.step (fun _ k => Yo.iconst Xy9.here hx (hb hby at_66) k) ?_
    obtain ⟨_, Ty10, Lcy10, Xy10, hQy10, sty10⟩ := packS (Jvm.LawKit.callS Xy9 hx (y := n1) hown (mvT hZ (W_ hw 1)) (mvT hZ (W_ hw 2)) (mvT hZ (W_ hw 3)) (mvT hZ (W_ hw 4)) (by decide) (backOf (W := 2) (rmdr l Z a0 hw [] pd 4 hy9 n0 Zy9 ) hZ (W_ hw 4) (W_ hw 3) (by decide) (by decide)) (g := (mkF m 67 #[.val (.long pd), .second, iv pq, iv zn, iv zq, rv by1, u_, u_, u_, u_, u_, u_] [(.int 4), (.long pd), (.int 4), (.ref by1)])) rfl (by rw [hml]; rfl) (argsL := [(.long pd), (.int 4)]) (rest := [(.int 4), (.ref by1)]) (lenOf pd_27 rfl) rfl (lb rfl) (hb hby at_67) (fun _ _ => ⟨rfl, ey9, (by decide : 5 + 1 ≤ _), (by decide : 71 + 16 ≤ _)⟩))
    obtain ⟨rfl, Nqy10, Kcy10⟩ := hQy10
    have Ny10 := Fr.app Ny9 Nqy10
    have Zy10 := Nat.le_trans Zy9 Kcy10.1
    have Ky10 := Ky9.trans Kcy10 all0
    refine FinW.step (sty10) ?_
    show FinW p e below s _ _ _ (Ty10.setTop (mkF m 70 #[.val (.long pd), .second, iv pq, iv zn, iv zq, rv by1, u_, u_, u_, u_, u_, u_] [(.int (own_dr pd (4 : Int32))), (.int 4), (.ref by1)]))
    obtain ⟨Ty11, hy11, Xy11, ey11, Wy11, Vy11, Ny11, Zy11, Ky11, sty11⟩ := ist3 Xy10 hx hZ rfl (j := 4) (x := (own_dr pd (4 : Int32))) (ix := 4) (Vy9.keep Kcy10 nin0) ⟨by decide, by decide⟩ rfl (lb rfl) Ny10 Zy10 Ky10 gzy1 (Or.inr szy1) (hb hby at_70)
    refine FinW.step (sty11) ?_
    refine FinW.step (fun _ k => Yo.aload Xy11.here hx (hb hby at_71) rfl rfl (Yo.iconst Xy11.here hx (hb hby at_73) k)) ?_
    refine FinW.step (fun _ => XS.lloadN Xy11.here hx rfl (hb hby at_74) rfl) ?_
    show FinW p e below s _ _ _ (Ty11.setTop (mkF m 75 #[.val (.long pd), .second, iv pq, iv zn, iv zq, rv by1, u_, u_, u_, u_, u_, u_] [(.long pd), (.int 5), (.ref by1)]))
    refine FinW.step (fun _ k => Yo.iconst Xy11.here hx (hb hby at_75) k) ?_
    obtain ⟨_, Ty12, Lcy12, Xy12, hQy12, sty12⟩ := packS (Jvm.LawKit.callS Xy11 hx (y := n1) hown (mvT hZ (W_ hw 1)) (mvT hZ (W_ hw 2)) (mvT hZ (W_ hw 3)) (mvT hZ (W_ hw 4)) (by decide) (backOf (W := 2) (rmdr l Z a0 hw [] pd 5 hy11 n0 Zy11 ) hZ (W_ hw 4) (W_ hw 3) (by decide) (by decide)) (g := (mkF m 76 #[.val (.long pd), .second, iv pq, iv zn, iv zq, rv by1, u_, u_, u_, u_, u_, u_] [(.int 5), (.long pd), (.int 5), (.ref by1)])) rfl (by rw [hml]; rfl) (argsL := [(.long pd), (.int 5)]) (rest := [(.int 5), (.ref by1)]) (lenOf pd_27 rfl) rfl (lb rfl) (hb hby at_76) (fun _ _ => ⟨rfl, ey11, (by decide : 6 + 1 ≤ _), (by decide : 87 + 16 ≤ _)⟩))
    obtain ⟨rfl, Nqy12, Kcy12⟩ := hQy12
    have Ny12 := Fr.app Ny11 Nqy12
    have Zy12 := Nat.le_trans Zy11 Kcy12.1
    have Ky12 := Ky11.trans Kcy12 all0
    refine FinW.step (sty12) ?_
    show FinW p e below s _ _ _ (Ty12.setTop (mkF m 79 #[.val (.long pd), .second, iv pq, iv zn, iv zq, rv by1, u_, u_, u_, u_, u_, u_] [(.int (own_dr pd (5 : Int32))), (.int 5), (.ref by1)]))
    obtain ⟨Ty13, hy13, Xy13, ey13, Wy13, Vy13, Ny13, Zy13, Ky13, sty13⟩ := ist3 Xy12 hx hZ rfl (j := 5) (x := (own_dr pd (5 : Int32))) (ix := 5) (Vy11.keep Kcy12 nin0) ⟨by decide, by decide⟩ rfl (lb rfl) Ny12 Zy12 Ky12 gzy1 (Or.inr szy1) (hb hby at_79)
    refine FinW.step (sty13) ?_
    refine FinW.step (fun _ k => Yo.aload Xy13.here hx (hb hby at_80) rfl rfl (Yo.bipush Xy13.here hx (hb hby at_82) k)) ?_
    refine FinW.step (fun _ => XS.lloadN Xy13.here hx rfl (hb hby at_84) rfl) ?_
    show FinW p e below s _ _ _ (Ty13.setTop (mkF m 85 #[.val (.long pd), .second, iv pq, iv zn, iv zq, rv by1, u_, u_, u_, u_, u_, u_] [(.long pd), (.int 6), (.ref by1)]))
    refine FinW.step (fun _ k => Yo.bipush Xy13.here hx (hb hby at_85) k) ?_
    obtain ⟨_, Ty14, Lcy14, Xy14, hQy14, sty14⟩ := packS (Jvm.LawKit.callS Xy13 hx (y := n1) hown (mvT hZ (W_ hw 1)) (mvT hZ (W_ hw 2)) (mvT hZ (W_ hw 3)) (mvT hZ (W_ hw 4)) (by decide) (backOf (W := 2) (rmdr l Z a0 hw [] pd 6 hy13 n0 Zy13 ) hZ (W_ hw 4) (W_ hw 3) (by decide) (by decide)) (g := (mkF m 87 #[.val (.long pd), .second, iv pq, iv zn, iv zq, rv by1, u_, u_, u_, u_, u_, u_] [(.int 6), (.long pd), (.int 6), (.ref by1)])) rfl (by rw [hml]; rfl) (argsL := [(.long pd), (.int 6)]) (rest := [(.int 6), (.ref by1)]) (lenOf pd_27 rfl) rfl (lb rfl) (hb hby at_87) (fun _ _ => ⟨rfl, ey13, (by decide : 7 + 1 ≤ _), (by decide : 103 + 16 ≤ _)⟩))
    obtain ⟨rfl, Nqy14, Kcy14⟩ := hQy14
    have Ny14 := Fr.app Ny13 Nqy14
    have Zy14 := Nat.le_trans Zy13 Kcy14.1
    have Ky14 := Ky13.trans Kcy14 all0
    refine FinW.step (sty14) ?_
    show FinW p e below s _ _ _ (Ty14.setTop (mkF m 90 #[.val (.long pd), .second, iv pq, iv zn, iv zq, rv by1, u_, u_, u_, u_, u_, u_] [(.int (own_dr pd (6 : Int32))), (.int 6), (.ref by1)]))
    obtain ⟨Ty15, hy15, Xy15, ey15, Wy15, Vy15, Ny15, Zy15, Ky15, sty15⟩ := ist3 Xy14 hx hZ rfl (j := 6) (x := (own_dr pd (6 : Int32))) (ix := 6) (Vy13.keep Kcy14 nin0) ⟨by decide, by decide⟩ rfl (lb rfl) Ny14 Zy14 Ky14 gzy1 (Or.inr szy1) (hb hby at_90)
    refine FinW.step (sty15) ?_
    have Vy16 : Arv Z hy15 by1 ky1 .int (7 : Int32) (own_vl pd) (.int 0) := castL Vy15 (by rfl)
    have J1 : ∀ (Ty17 : State) (hy17 : Heap) (Ly17 : List Loc) (zm : Int32) (cs : Addr) (kc : ClassId) (va : Addr) (kv : ClassId) (Xy17 : Stand p l e room_1 s m #[(.long pd), (.int pq)] below meth c Ty17 Ly17 9 126) (ey17 : Ty17.heap = hy17) (Ny17 : Fr n0 Ly17) (Zy17 : n0 ≤ hy17.size) (Ky17 : Keep h0 hy17 []) (fy17_0 : Arv Z hy17 va kv .int (7 : Int32) (own_vl pd) (.int 0)) (fy17_1 : Arv Z hy17 cs kc .char zm (own_xl pd zm.toNatClampNeg) (.int 0)) (fy17_2 : Sta Z hy17 q2 q9 "Z" (.int wc)) (fy17_3 : Sta Z hy17 q5 "EMPTY_MAP" "Ljava/util/ImmutableCollections$MapN;" (.ref em)) (fy17_4 : Exa Z hy17 em q6) (fy17_5 : Sta Z hy17 q4 "instance" "Ljava/lang/CharacterDataLatin1;" (.ref ci)) (fy17_6 : Exa Z hy17 ci q4) (fy17_7 : Sta Z hy17 q4 "A" "[I" (.ref aa)) (fy17_8 : Arv Z hy17 aa kA .int (256 : Int32) own_AL (.int 0)) (hzm : 0 ≤ zm.toInt ∧ zm.toInt ≤ 7), FinW p e below s (Q0 Z pd pq wc em ci aa kA h0 n0) room_1.cells room_1.slots (Ty17.setTop (mkF m 196 #[.val (.long pd), .second, iv pq, iv zm, iv zq, rv va, rv cs, u_, u_, u_, u_, u_] [])) := by
      intro Ty17 hy17 Ly17 zm cs kc va kv Xy17 ey17 Ny17 Zy17 Ky17 fy17_0 fy17_1 fy17_2 fy17_3 fy17_4 fy17_5 fy17_6 fy17_7 fy17_8 hzm
      rcases hzq with rfl | rfl
      · show FinW p e below s _ _ _ (Ty17.setTop (mkF m 196 #[.val (.long pd), .second, iv pq, iv zm, iv 0, rv va, rv cs, u_, u_, u_, u_, u_] []))
        refine FinW.step (fun _ k => Yo.iload Xy17.here hx (hb hby at_196) rfl (Yo.ifYes Xy17.here hx (pc0 := 198) (pc' := 205) rfl (hb hby at_198) rfl ((if0 _ _).trans (teq ((by decide) : ((0 : Int32) = (0 : Int32)))).1) (by decide) (by decide) k)) ?_
        have CHy18 := CH0.trans (CHr.keep Ky17 (fun x hx => by cases hx) CH0.1)
        rcases Classical.em (zm = 0) with rfl | hz0
        · show FinW p e below s _ _ _ (Ty17.setTop (mkF m 205 #[.val (.long pd), .second, iv pq, iv 0, iv 0, rv va, rv cs, u_, u_, u_, u_, u_] []))
          obtain ⟨Ty19, hy19, Xy19, ey19, Ey19, Ay19, Dy19, -, sty19⟩ := newO Xy17 hx hZ hown (W_ hw 7) (W_ hw 8) (W_ hw 9) ey17 (g := (mkF m 205 #[.val (.long pd), .second, iv pq, iv 0, iv 0, rv va, rv cs, u_, u_, u_, u_, u_] [])) rfl (hb hby at_205) (by decide) (by decide)
          obtain ⟨by19, gy19⟩ : ∃ z, z = hy17.size := ⟨_, rfl⟩
          rw [← gy19] at Ay19 Dy19 sty19
          have gzy19 : n0 ≤ by19 := Nat.le_trans Zy17 (Nat.le_of_eq gy19.symm)
          have szy19 : h0.size ≤ by19 := Nat.le_trans Ky17.1 (Nat.le_of_eq gy19.symm)
          have CHy19 := CHy18.trans (CHr.ext Ey19 CHy18.1)
          have Zy19 := Nat.le_trans Zy17 Ey19.1
          have Ky19 := Ky17.ext Ey19
          have F_coder_by19 : Fld Z hy19 by19 q2 "coder" "B" (.int 0) := Dy19 (Or.inr (W_ hw 33)) (ty := .byte) (by decide)
          have F_value_by19 : Fld Z hy19 by19 q2 "value" "[B" .null := Dy19 (Or.inr (W_ hw 35)) (ty := (.array .byte)) (by decide)
          refine FinW.step (sty19) ?_
          show FinW p e below s _ _ _ (Ty19.setTop (mkF m 208 #[.val (.long pd), .second, iv pq, iv 0, iv 0, rv va, rv cs, u_, u_, u_, u_, u_] [(.ref by19)]))
          refine FinW.step (fun _ k => Yo.dup Xy19.here hx (hb hby at_208) rfl rfl (Yo.aload Xy19.here hx (hb hby at_209) rfl rfl k)) ?_
          have hky21 := (Nat.le_trans (Nat.zero_le _) Ey19.1)
          obtain ⟨_, Ty20, Lcy20, Xy20, hSy20, hZ, hown, hQy20, CHcy20, sty20⟩ := packH (s := s) (vm0 := s.vm) ((State.WarmedH.refl s).since 0) (by rw [ey19]; exact hky21) hZ hown (Jvm.Stand.specialBackS Xy19 hx (y := n2) rfl hown (mvT hZ (W_ hw 10)) (mvT hZ (W_ hw 11)) (mvT hZ (W_ hw 12)) (by decide) (backOfSH (s := s) (vm0 := s.vm) (W := 1) (rmsi1H l Z a0 hw [] by19 cs kc _ hy19 n0 Zy19 Ay19 F_coder_by19 F_value_by19 (fy17_1.ext Ey19) gzy19) hZ (W_ hw 12) (W_ hw 9) (by decide) (by decide) hEL CHy19.1) (g := (mkF m 211 #[.val (.long pd), .second, iv pq, iv 0, iv 0, rv va, rv cs, u_, u_, u_, u_, u_] [(.ref cs), (.ref by19), (.ref by19)])) rfl (by rw [hml]; rfl) (Steps.refl _) (a := by19) (argsL := [(.ref cs)]) (rest := [(.ref by19)]) (lenOf pd_28 rfl) rfl (lb rfl) (hb hby at_211) (fun _ _ => ⟨rfl, ey19, (by decide : 10 + 4 ≤ _), (by decide : 130 + 8 ≤ _)⟩))
          replace hZ : Z.Warmed39 (s.setVm Ty20.vm).vm := hZ
          replace hown : (s.setVm Ty20.vm).vm.findClass q1 = some m.cls := hown
          obtain ⟨nb_y20, kn_y20, rfl, Nqy20, Kcy20, fy20_0, fy20_1, fy20_2⟩ := hQy20
          have Ny20 := Fr.app Ny17 Nqy20
          have CHy20 := CHy19.trans CHcy20
          have Zy20 := Nat.le_trans Zy19 Kcy20.1
          have Ky20 := Ky19.trans Kcy20 (allS (Or.inr szy19) all0)
          refine FinW.step (sty20) ?_
          show FinW p e below s _ _ _ (Ty20.setTop (mkF m 214 #[.val (.long pd), .second, iv pq, iv 0, iv 0, rv va, rv cs, u_, u_, u_, u_, u_] [(.ref by19)]))
          have Vy22 : Arv Z Ty20.heap nb_y20 kn_y20 .byte (0 : Int32) (own_wl pd (0 : Int32)) (.int 0) := castL fy20_2 (by rfl)
          refine FinW.step (fun _ k => Yo.astore Xy20.here hx (hb hby at_214) rfl rfl (l' := #[.val (.long pd), .second, iv pq, iv 0, iv 0, rv va, rv cs, rv by19, u_, u_, u_, u_]) rfl (Yo.iloadN Xy20.here hx (hb hby at_216) rfl (Yo.bipush Xy20.here hx (hb hby at_217) (Yo.iushr Xy20.here hx (hb hby at_219) rfl k)))) ?_
          show FinW p e below s _ _ _ (Ty20.setTop (mkF m 220 #[.val (.long pd), .second, iv pq, iv 0, iv 0, rv va, rv cs, rv by19, u_, u_, u_, u_] [(.int (ushI pq (8 : Int32)))]))
          refine FinW.step (fun _ k => Yo.sipush Xy20.here hx (hb hby at_220) (Yo.iand Xy20.here hx (hb hby at_223) rfl k)) ?_
          show FinW p e below s _ _ _ (Ty20.setTop (mkF m 224 #[.val (.long pd), .second, iv pq, iv 0, iv 0, rv va, rv cs, rv by19, u_, u_, u_, u_] [(.int ((ushI pq (8 : Int32)) &&& (255 : Int32)))]))
          refine FinW.step (fun _ k => Yo.i2c Xy20.here hx (hb hby at_224) rfl k) ?_
          show FinW p e below s _ _ _ (Ty20.setTop (mkF m 225 #[.val (.long pd), .second, iv pq, iv 0, iv 0, rv va, rv cs, rv by19, u_, u_, u_, u_] [(.int (((ushI pq (8 : Int32)) &&& (255 : Int32)).toUInt32.toUInt16.toUInt32.toInt32))]))
          have ry23 := (Sta_keepW (fy17_2.ext Ey19) Kcy20 (allS (nsE Ay19) all0))
          obtain ⟨_, Ty24, Lcy24, Xy24, hQy24, sty24⟩ := packS (Jvm.LawKit.callS Xy20 hx (y := n8) hown (mvT hZ (W_ hw 36)) (mvT hZ (W_ hw 37)) (mvT hZ (W_ hw 9)) (mvT hZ (W_ hw 38)) (by decide) (backOf (W := 0) (rmvo l Z a0 hw [] (((ushI pq (8 : Int32)) &&& (255 : Int32)).toUInt32.toUInt16.toUInt32.toInt32) wc Ty20.heap n0 Zy20 ry23 hwc (own_qz pq)) hZ (W_ hw 38) (W_ hw 9) (by decide) (by decide)) (g := (mkF m 225 #[.val (.long pd), .second, iv pq, iv 0, iv 0, rv va, rv cs, rv by19, u_, u_, u_, u_] [(.int (((ushI pq (8 : Int32)) &&& (255 : Int32)).toUInt32.toUInt16.toUInt32.toInt32))])) rfl (by rw [hml]; rfl) (argsL := [(.int (((ushI pq (8 : Int32)) &&& (255 : Int32)).toUInt32.toUInt16.toUInt32.toInt32))]) (rest := []) (lenOf pd_29 rfl) rfl (lb rfl) (hb hby at_225) (fun _ _ => ⟨rfl, rfl, (by decide : 14 + 2 ≤ _), (by decide : 138 + 5 ≤ _)⟩))
          obtain ⟨by24, rfl, bzy24, Nqy24, Kcy24⟩ := hQy24
          have Ny24 := Fr.app Ny20 Nqy24
          have gzy24 : n0 ≤ by24 := Nat.le_trans Zy20 bzy24
          have szy24 : h0.size ≤ by24 := Nat.le_trans Ky20.1 bzy24
          have CHy24 := CHy20.trans (CHr.keep Kcy24 all0 CHy20.1)
          have Zy24 := Nat.le_trans Zy20 Kcy24.1
          have Ky24 := Ky20.trans Kcy24 all0
          refine FinW.step (sty24) ?_
          show FinW p e below s _ _ _ (Ty24.setTop (mkF m 228 #[.val (.long pd), .second, iv pq, iv 0, iv 0, rv va, rv cs, rv by19, u_, u_, u_, u_] [(.ref by24)]))
          refine FinW.step (fun _ k => Yo.astore Xy24.here hx (hb hby at_228) rfl rfl (l' := #[.val (.long pd), .second, iv pq, iv 0, iv 0, rv va, rv cs, rv by19, rv by24, u_, u_, u_]) rfl k) ?_
          have ry25 := (Sta_keepW (Sta_keepW (fy17_3.ext Ey19) Kcy20 (allS (nsE Ay19) all0)) Kcy24 all0)
          obtain ⟨_, Ty26, Lcy26, Xy26, hQy26, sty26⟩ := packS (Jvm.LawKit.callS Xy24 hx (y := n12) hown (mvT hZ (W_ hw 50)) (mvT hZ (W_ hw 51)) (mvT hZ (W_ hw 52)) (mvT hZ (W_ hw 53)) (by decide) (backOf (W := 0) (rmmo l Z a0 hw [] em Ty24.heap n0 Zy24 ry25) hZ (W_ hw 53) (W_ hw 52) (by decide) (by decide)) (g := (mkF m 230 #[.val (.long pd), .second, iv pq, iv 0, iv 0, rv va, rv cs, rv by19, rv by24, u_, u_, u_] [])) rfl (by rw [hml]; rfl) (argsL := []) (rest := []) (lenOf pd_30 rfl) rfl (lb rfl) (hb hby at_230) (fun _ _ => ⟨rfl, rfl, (by decide : 16 + 0 ≤ _), (by decide : 143 + 0 ≤ _)⟩))
          obtain ⟨rfl, Nqy26, eqy26⟩ := hQy26
          have Ny26 := Fr.app Ny24 Nqy26
          refine FinW.step (sty26) ?_
          show FinW p e below s _ _ _ (Ty26.setTop (mkF m 233 #[.val (.long pd), .second, iv pq, iv 0, iv 0, rv va, rv cs, rv by19, rv by24, u_, u_, u_] [(.ref em)]))
          refine FinW.step (fun _ k => Yo.astore Xy26.here hx (hb hby at_233) rfl rfl (l' := #[.val (.long pd), .second, iv pq, iv 0, iv 0, rv va, rv cs, rv by19, rv by24, rv em, u_, u_]) rfl k) ?_
          obtain ⟨Ty27, hy27, Xy27, ey27, Ey27, Ay27, Dy27, -, sty27⟩ := newO Xy26 hx hZ hown (W_ hw 56) (W_ hw 57) (W_ hw 58) eqy26 (g := (mkF m 235 #[.val (.long pd), .second, iv pq, iv 0, iv 0, rv va, rv cs, rv by19, rv by24, rv em, u_, u_] [])) rfl (hb hby at_235) (by decide) (by decide)
          obtain ⟨by27, gy27⟩ : ∃ z, z = Ty24.heap.size := ⟨_, rfl⟩
          rw [← gy27] at Ay27 Dy27 sty27
          have gzy27 : n0 ≤ by27 := Nat.le_trans Zy24 (Nat.le_of_eq gy27.symm)
          have szy27 : h0.size ≤ by27 := Nat.le_trans Ky24.1 (Nat.le_of_eq gy27.symm)
          have CHy27 := CHy24.trans (CHr.ext Ey27 CHy24.1)
          have Zy27 := Nat.le_trans Zy24 Ey27.1
          have Ky27 := Ky24.ext Ey27
          have F_text_by27 : Fld Z hy27 by27 q0 "text" q8 .null := Dy27 (Or.inr (W_ hw 74)) (ty := (.object "java/lang/String")) (by decide)
          have F_namespaces_by27 : Fld Z hy27 by27 q0 "namespaces" q7 .null := Dy27 (Or.inr (W_ hw 76)) (ty := (.object "java/util/Map")) (by decide)
          have F_language_by27 : Fld Z hy27 by27 q0 "language" q8 .null := Dy27 (Or.inr (W_ hw 78)) (ty := (.object "java/lang/String")) (by decide)
          have F_line_by27 : Fld Z hy27 by27 q0 "line" "I" (.int 0) := Dy27 (Or.inr (W_ hw 80)) (ty := .int) (by decide)
          refine FinW.step (sty27) ?_
          show FinW p e below s _ _ _ (Ty27.setTop (mkF m 238 #[.val (.long pd), .second, iv pq, iv 0, iv 0, rv va, rv cs, rv by19, rv by24, rv em, u_, u_] [(.ref by27)]))
          refine FinW.step (fun _ k => Yo.dup Xy27.here hx (hb hby at_238) rfl rfl (Yo.aload Xy27.here hx (hb hby at_239) rfl rfl (Yo.aload Xy27.here hx (hb hby at_241) rfl rfl (Yo.aload Xy27.here hx (hb hby at_243) rfl rfl (Yo.iloadN Xy27.here hx (hb hby at_245) rfl k))))) ?_
          have ry28 := ((((fy17_4.ext Ey19).keep Kcy20).keep Kcy24).ext Ey27)
          have sfby27_y29 : Safe Z own_EL _ _ _ := Safe.exa hZ.alike Ay27 (by decide) (by decide)
          obtain ⟨_, Ty30, Lcy30, Xy30, hQy30, sty30⟩ := pack (Xy27.specialBack hx (y := n13) rfl hown (mvT hZ (W_ hw 59)) (mvT hZ (W_ hw 60)) (mvT hZ (W_ hw 61)) (by decide) (backOf (W := 1) (rmexR l Z a0 hw [] by27 by24 em by19 pq hy27 n0 Zy27 Ay27 F_text_by27 F_namespaces_by27 F_language_by27 F_line_by27 ry28 gzy27) hZ (W_ hw 61) (W_ hw 58) (by decide) (by decide)) (g := (mkF m 246 #[.val (.long pd), .second, iv pq, iv 0, iv 0, rv va, rv cs, rv by19, rv by24, rv em, u_, u_] [(.int pq), (.ref by19), (.ref em), (.ref by24), (.ref by27), (.ref by27)])) rfl (by rw [hml]; rfl) (Steps.refl _) (a := by27) (argsL := [(.ref by24), (.ref em), (.ref by19), (.int pq)]) (rest := [(.ref by27)]) (lenOf pd_31 rfl) rfl (lb rfl) (hb hby at_246) (fun _ _ => ⟨rfl, ey27, (by decide : 17 + 0 ≤ _), (by decide : 147 + 0 ≤ _)⟩))
          obtain ⟨rfl, Nqy30, Kcy30, fy30_0⟩ := hQy30
          have Ny30 := Fr.app Ny26 Nqy30
          have CHy30 := CHy27.trans (CHr.keep Kcy30 (allS sfby27_y29 all0) CHy27.1)
          have sfby27_y30 := Safe.keep Kcy30 (allS sfby27_y29 all0) CHy27.1 sfby27_y29
          have Zy30 := Nat.le_trans Zy27 Kcy30.1
          have Ky30 := Ky27.trans Kcy30 (allS (Or.inr szy27) all0)
          refine FinW.step (sty30) ?_
          show FinW p e below s _ _ _ (Ty30.setTop (mkF m 249 #[.val (.long pd), .second, iv pq, iv 0, iv 0, rv va, rv cs, rv by19, rv by24, rv em, u_, u_] [(.ref by27)]))
          refine FinW.step (fun _ k => Yo.astore Xy30.here hx (hb hby at_249) rfl rfl (l' := #[.val (.long pd), .second, iv pq, iv 0, iv 0, rv va, rv cs, rv by19, rv by24, rv em, rv by27, u_]) rfl (Yo.iload Xy30.here hx (hb hby at_251) rfl (Yo.ifNo Xy30.here hx (hb hby at_253) rfl ((if0 _ _).trans (teq ((by decide) : ((0 : Int32) = (0 : Int32)))).2) (Yo.aload Xy30.here hx (hb hby at_256) rfl rfl (Yo.iloadN Xy30.here hx (hb hby at_258) rfl (Yo.iconst Xy30.here hx (hb hby at_259) k)))))) ?_
          have ney31 := nlt (nsV fy17_0).lt (Nat.le_of_eq gy19.symm)
          have ney32 := nlt ((((nsV fy17_0).ext Ey19).keep Kcy20).keep Kcy24).lt (Nat.le_of_eq gy27.symm)
          have ry33 := (((((fy17_0.ext Ey19).keep Kcy20 (ninS ney31 nin0)).keep Kcy24 nin0).ext Ey27).keep Kcy30 (ninS ney32 nin0))
          obtain ⟨_, Ty34, Lcy34, Xy34, hQy34, sty34⟩ := packS (Jvm.LawKit.callS Xy30 hx (y := n16) hown (mvT hZ (W_ hw 81)) (mvT hZ (W_ hw 82)) (mvT hZ (W_ hw 3)) (mvT hZ (W_ hw 83)) (by decide) (backOf (W := 0) (rmm0 l Z a0 hw [] va 0 kv (own_vl pd) Ty30.heap n0 Zy30 ry33 (own_vlc pd) (by decide)) hZ (W_ hw 83) (W_ hw 3) (by decide) (by decide)) (g := (mkF m 260 #[.val (.long pd), .second, iv pq, iv 0, iv 0, rv va, rv cs, rv by19, rv by24, rv em, rv by27, u_] [(.int 0), (.int 0), (.ref va)])) rfl (by rw [hml]; rfl) (argsL := [(.ref va), (.int 0), (.int 0)]) (rest := []) (lenOf pd_32 rfl) rfl (lb rfl) (hb hby at_260) (fun _ _ => ⟨rfl, rfl, (by decide : 17 + 0 ≤ _), (by decide : 147 + 0 ≤ _)⟩))
          obtain ⟨rfl, Nqy34, eqy34⟩ := hQy34
          have Ny34 := Fr.app Ny30 Nqy34
          refine FinW.step (sty34) ?_
          show FinW p e below s _ _ _ (Ty34.setTop (mkF m 263 #[.val (.long pd), .second, iv pq, iv 0, iv 0, rv va, rv cs, rv by19, rv by24, rv em, rv by27, u_] [(.int (own_mm (own_vl pd) (0 : Int32) (0 : Int32) (1 : Int32) (2 : Int32) (3 : Int32) (4 : Int32)))]))
          by_cases hcy35 : (own_mm (own_vl pd) (0 : Int32) (0 : Int32) (1 : Int32) (2 : Int32) (3 : Int32) (4 : Int32)) = (0 : Int32)
          · refine FinW.step (fun _ k => Yo.ifNo Xy34.here hx (hb hby at_263) rfl ((if0 _ _).trans (teq (hcy35 : ((own_mm (own_vl pd) (0 : Int32) (0 : Int32) (1 : Int32) (2 : Int32) (3 : Int32) (4 : Int32)) = (0 : Int32)))).2) (Yo.aload Xy34.here hx (hb hby at_266) rfl rfl (Yo.iloadN Xy34.here hx (hb hby at_268) rfl (Yo.iconst Xy34.here hx (hb hby at_269) k)))) ?_
            obtain ⟨_, Ty36, Lcy36, Xy36, hQy36, sty36⟩ := packS (Jvm.LawKit.callS Xy34 hx (y := n17) hown (mvT hZ (W_ hw 84)) (mvT hZ (W_ hw 85)) (mvT hZ (W_ hw 3)) (mvT hZ (W_ hw 86)) (by decide) (backOf (W := 0) (rmat l Z a0 hw [] va 0 0 kv (own_vl pd) Ty30.heap n0 Zy30 ry33 (own_vlc pd) (by decide) (by decide)) hZ (W_ hw 86) (W_ hw 3) (by decide) (by decide)) (g := (mkF m 270 #[.val (.long pd), .second, iv pq, iv 0, iv 0, rv va, rv cs, rv by19, rv by24, rv em, rv by27, u_] [(.int 0), (.int 0), (.ref va)])) rfl (by rw [hml]; rfl) (argsL := [(.ref va), (.int 0), (.int 0)]) (rest := []) (lenOf pd_4 rfl) rfl (lb rfl) (hb hby at_270) (fun _ _ => ⟨rfl, eqy34, (by decide : 17 + 0 ≤ _), (by decide : 147 + 0 ≤ _)⟩))
            obtain ⟨rfl, Nqy36, eqy36⟩ := hQy36
            have Ny36 := Fr.app Ny34 Nqy36
            refine FinW.step (sty36) ?_
            show FinW p e below s _ _ _ (Ty36.setTop (mkF m 273 #[.val (.long pd), .second, iv pq, iv 0, iv 0, rv va, rv cs, rv by19, rv by24, rv em, rv by27, u_] [(.int (own_at (own_vl pd) (0 : Int32) (0 : Int32)))]))
            obtain ⟨_, Ty37, Lcy37, Xy37, hQy37, sty37⟩ := packS (Jvm.LawKit.callS Xy36 hx (y := n19) hown (mvT hZ (W_ hw 90)) (mvT hZ (W_ hw 91)) (mvT hZ (W_ hw 3)) (mvT hZ (W_ hw 92)) (by decide) (backOf (W := 0) (rmws l Z a0 hw [] (own_at (own_vl pd) (0 : Int32) (0 : Int32)) Ty30.heap n0 Zy30 ) hZ (W_ hw 92) (W_ hw 3) (by decide) (by decide)) (g := (mkF m 273 #[.val (.long pd), .second, iv pq, iv 0, iv 0, rv va, rv cs, rv by19, rv by24, rv em, rv by27, u_] [(.int (own_at (own_vl pd) (0 : Int32) (0 : Int32)))])) rfl (by rw [hml]; rfl) (argsL := [(.int (own_at (own_vl pd) (0 : Int32) (0 : Int32)))]) (rest := []) (lenOf pd_13 rfl) rfl (lb rfl) (hb hby at_273) (fun _ _ => ⟨rfl, eqy36, (by decide : 17 + 0 ≤ _), (by decide : 147 + 0 ≤ _)⟩))
            obtain ⟨rfl, Nqy37, eqy37⟩ := hQy37
            have Ny37 := Fr.app Ny36 Nqy37
            refine FinW.step (sty37) ?_
            show FinW p e below s _ _ _ (Ty37.setTop (mkF m 276 #[.val (.long pd), .second, iv pq, iv 0, iv 0, rv va, rv cs, rv by19, rv by24, rv em, rv by27, u_] [(.int (own_ws (own_at (own_vl pd) (0 : Int32) (0 : Int32))))]))
            by_cases hcy38 : (own_ws (own_at (own_vl pd) (0 : Int32) (0 : Int32))) = (0 : Int32)
            · refine FinW.step (fun _ k => Yo.ifYes Xy37.here hx (pc0 := 276) (pc' := 289) rfl (hb hby at_276) rfl ((if0 _ _).trans (teq (hcy38 : ((own_ws (own_at (own_vl pd) (0 : Int32) (0 : Int32))) = (0 : Int32)))).1) (by decide) (by decide) (Yo.aload Xy37.here hx (hb hby at_289) rfl rfl (Yo.iloadN Xy37.here hx (hb hby at_291) rfl (Yo.iconst Xy37.here hx (hb hby at_292) k)))) ?_
              obtain ⟨_, Ty39, Lcy39, Xy39, hQy39, sty39⟩ := packS (Jvm.LawKit.callS Xy37 hx (y := n17) hown (mvT hZ (W_ hw 84)) (mvT hZ (W_ hw 85)) (mvT hZ (W_ hw 3)) (mvT hZ (W_ hw 86)) (by decide) (backOf (W := 0) (rmat l Z a0 hw [] va 0 0 kv (own_vl pd) Ty30.heap n0 Zy30 ry33 (own_vlc pd) (by decide) (by decide)) hZ (W_ hw 86) (W_ hw 3) (by decide) (by decide)) (g := (mkF m 293 #[.val (.long pd), .second, iv pq, iv 0, iv 0, rv va, rv cs, rv by19, rv by24, rv em, rv by27, u_] [(.int 0), (.int 0), (.ref va)])) rfl (by rw [hml]; rfl) (argsL := [(.ref va), (.int 0), (.int 0)]) (rest := []) (lenOf pd_4 rfl) rfl (lb rfl) (hb hby at_293) (fun _ _ => ⟨rfl, eqy37, (by decide : 17 + 0 ≤ _), (by decide : 147 + 0 ≤ _)⟩))
              obtain ⟨rfl, Nqy39, eqy39⟩ := hQy39
              have Ny39 := Fr.app Ny37 Nqy39
              refine FinW.step (sty39) ?_
              show FinW p e below s _ _ _ (Ty39.setTop (mkF m 296 #[.val (.long pd), .second, iv pq, iv 0, iv 0, rv va, rv cs, rv by19, rv by24, rv em, rv by27, u_] [(.int (own_at (own_vl pd) (0 : Int32) (0 : Int32)))]))
              obtain ⟨_, Ty40, Lcy40, Xy40, hQy40, sty40⟩ := packS (Jvm.LawKit.callS Xy39 hx (y := n19) hown (mvT hZ (W_ hw 90)) (mvT hZ (W_ hw 91)) (mvT hZ (W_ hw 3)) (mvT hZ (W_ hw 92)) (by decide) (backOf (W := 0) (rmws l Z a0 hw [] (own_at (own_vl pd) (0 : Int32) (0 : Int32)) Ty30.heap n0 Zy30 ) hZ (W_ hw 92) (W_ hw 3) (by decide) (by decide)) (g := (mkF m 296 #[.val (.long pd), .second, iv pq, iv 0, iv 0, rv va, rv cs, rv by19, rv by24, rv em, rv by27, u_] [(.int (own_at (own_vl pd) (0 : Int32) (0 : Int32)))])) rfl (by rw [hml]; rfl) (argsL := [(.int (own_at (own_vl pd) (0 : Int32) (0 : Int32)))]) (rest := []) (lenOf pd_13 rfl) rfl (lb rfl) (hb hby at_296) (fun _ _ => ⟨rfl, eqy39, (by decide : 17 + 0 ≤ _), (by decide : 147 + 0 ≤ _)⟩))
              obtain ⟨rfl, Nqy40, eqy40⟩ := hQy40
              have Ny40 := Fr.app Ny39 Nqy40
              refine FinW.step (sty40) ?_
              show FinW p e below s _ _ _ (Ty40.setTop (mkF m 299 #[.val (.long pd), .second, iv pq, iv 0, iv 0, rv va, rv cs, rv by19, rv by24, rv em, rv by27, u_] [(.int (own_ws (own_at (own_vl pd) (0 : Int32) (0 : Int32))))]))
              refine FinW.step (fun _ k => Yo.ifYes Xy40.here hx (pc0 := 299) (pc' := 329) rfl (hb hby at_299) rfl ((if0 _ _).trans (teq (hcy38 : ((own_ws (own_at (own_vl pd) (0 : Int32) (0 : Int32))) = (0 : Int32)))).1) (by decide) (by decide) (Yo.iconst Xy40.here hx (hb hby at_329) (Yo.istore Xy40.here hx (hb hby at_330) rfl (l' := #[.val (.long pd), .second, iv pq, iv 0, iv 0, rv va, rv cs, rv by19, rv by24, rv em, rv by27, iv 0]) rfl (Yo.aload Xy40.here hx (hb hby at_332) rfl rfl k)))) ?_
              have ry41 := ((((Ay19.keep Kcy20).keep Kcy24).ext Ey27).keep Kcy30)
              have ney42 := nlt ((Ay19.keep Kcy20).keep Kcy24).lt (Nat.le_of_eq gy27.symm)
              have ry43 := (((fy20_0.keep Kcy24 nin0).ext Ey27).keep Kcy30 (ninS ney42 nin0))
              have ry44 := (((fy20_1.keep Kcy24 nin0).ext Ey27).keep Kcy30 (ninS ney42 nin0))
              have ney45 := nlt ((nsV fy20_2).keep Kcy24).lt (Nat.le_of_eq gy27.symm)
              have ry46 := (((Vy22.keep Kcy24 nin0).ext Ey27).keep Kcy30 (ninS ney45 nin0))
              have ry47 := (Sta_keepW ((Sta_keepW (Sta_keepW (fy17_5.ext Ey19) Kcy20 (allS (nsE Ay19) all0)) Kcy24 all0).ext Ey27) Kcy30 (allS (nsE Ay27) all0))
              have ry48 := (((((fy17_6.ext Ey19).keep Kcy20).keep Kcy24).ext Ey27).keep Kcy30)
              have ry49 := (Sta_keepW ((Sta_keepW (Sta_keepW (fy17_7.ext Ey19) Kcy20 (allS (nsE Ay19) all0)) Kcy24 all0).ext Ey27) Kcy30 (allS (nsE Ay27) all0))
              have ney50 := nlt (nsV fy17_8).lt (Nat.le_of_eq gy19.symm)
              have ney51 := nlt ((((nsV fy17_8).ext Ey19).keep Kcy20).keep Kcy24).lt (Nat.le_of_eq gy27.symm)
              have ry52 := (((((fy17_8.ext Ey19).keep Kcy20 (ninS ney50 nin0)).keep Kcy24 nin0).ext Ey27).keep Kcy30 (ninS ney51 nin0))
              have ry53 := (Sta_keepW ((Sta_keepW ry23 Kcy24 all0).ext Ey27) Kcy30 (allS (nsE Ay27) all0))
              have hky55 := (Nat.le_trans (Nat.le_trans (Nat.le_trans (Nat.le_refl _) Kcy24.1) Ey27.1) Kcy30.1)
              obtain ⟨cqy54, kqy54, qy54a, qy54b, qy54c⟩ := isOf hZ eqy40 (Ay27.keep Kcy30)
              obtain ⟨_, Ty54, Lcy54, Xy54, hSy54, hZ, hown, hQy54, CHcy54, sty54⟩ := packH (s := s) (vm0 := Ty20.vm) hSy20 (by rw [eqy40]; exact hky55) hZ hown (Jvm.Stand.virtualBackS Xy40 hx (y := n20) (z := n20) hown (mvT hZ (W_ hw 93)) (mvT hZ (W_ hw 94)) (notFace_of_selects (args := #[]) (mvT hZ (W_ hw 96))) (mvT hZ (W_ hw 96)) (mvT hZ (W_ hw 95)) (by decide) (backOfSH (s := s) (vm0 := Ty20.vm) (W := 0) (rmxR l Z a0 hw [] by27 by19 nb_y20 kn_y20 0 _ ci aa kA wc (own_vl pd) Ty30.heap n0 Zy30 fy30_0 ry41 ry43 ry44 ry46 ry47 ry48 ry49 ry52 ry53 hwc (by decide) (own_wlc _ _ _) (own_wlg pd (0 : Int32))) hZ (W_ hw 97) (W_ hw 58) (by decide) (by decide) hEL CHy30.1) qy54a qy54c (g := (mkF m 334 #[.val (.long pd), .second, iv pq, iv 0, iv 0, rv va, rv cs, rv by19, rv by24, rv em, rv by27, iv 0] [(.ref by27)])) rfl (by rw [hml]; rfl) (Steps.refl _) (argsL := []) (rest := []) (lenOf pd_19 rfl) rfl (lb rfl) (hb hby at_334) (fun _ _ => ⟨rfl, eqy40, (by decide : 17 + 4 ≤ _), (by decide : 147 + 36 ≤ _)⟩))
              replace hZ : Z.Warmed39 (s.setVm Ty54.vm).vm := hZ
              replace hown : (s.setVm Ty54.vm).vm.findClass q1 = some m.cls := hown
              obtain ⟨rfl, Nqy54, Kcy54⟩ := hQy54
              have Ny54 := Fr.app Ny40 Nqy54
              have sfby27_y54 := CHcy54.safe (Ay27.keep Kcy30).lt sfby27_y30
              have CHy54 := CHy30.trans CHcy54
              have Zy54 := Nat.le_trans Zy30 Kcy54.1
              have Ky54 := Ky30.trans Kcy54 all0
              refine FinW.step (sty54) ?_
              show FinW p e below s _ _ _ (Ty54.setTop (mkF m 337 #[.val (.long pd), .second, iv pq, iv 0, iv 0, rv va, rv cs, rv by19, rv by24, rv em, rv by27, iv 0] [(.int (own_xp (0 : Int32) (own_vl pd)))]))
              refine FinW.step (fun _ k => Yo.iload Xy54.here hx (hb hby at_337) rfl (Yo.icmpNo Xy54.here hx (hb hby at_339) rfl (teq ((by rw [own_xp, if_pos hcy35, if_pos hcy38]) : ((own_xp (0 : Int32) (own_vl pd)) = (0 : Int32)))).2 (Yo.iconst Xy54.here hx (hb hby at_342) (Yo.goto Xy54.here hx (pc0 := 343) (pc' := 347) rfl (hb hby at_343) (by decide) (by decide) k)))) ?_
              refine FinW.retN Xy54 hSy54 (Nat.le_refl _) hx (t := .boolean) hret (by simp) hlk (hb hby at_347) (by decide) (by decide) ?_
              show Q0 Z pd pq wc em ci aa kA h0 n0 _ Ty54.heap _
              exact ⟨rfl, Ny54, Ky54⟩
            · refine FinW.step (fun _ k => Yo.ifNo Xy37.here hx (hb hby at_276) rfl ((if0 _ _).trans (feq (hcy38 : ¬ ((own_ws (own_at (own_vl pd) (0 : Int32) (0 : Int32))) = (0 : Int32)))).1) (Yo.aload Xy37.here hx (hb hby at_279) rfl rfl (Yo.iloadN Xy37.here hx (hb hby at_281) rfl (Yo.iconst Xy37.here hx (hb hby at_282) k)))) ?_
              obtain ⟨_, Ty56, Lcy56, Xy56, hQy56, sty56⟩ := packS (Jvm.LawKit.callS Xy37 hx (y := n16) hown (mvT hZ (W_ hw 81)) (mvT hZ (W_ hw 82)) (mvT hZ (W_ hw 3)) (mvT hZ (W_ hw 83)) (by decide) (backOf (W := 0) (rmm1 l Z a0 hw [] va 0 kv (own_vl pd) Ty30.heap n0 Zy30 ry33 (own_vlc pd) (by decide)) hZ (W_ hw 83) (W_ hw 3) (by decide) (by decide)) (g := (mkF m 283 #[.val (.long pd), .second, iv pq, iv 0, iv 0, rv va, rv cs, rv by19, rv by24, rv em, rv by27, u_] [(.int 1), (.int 0), (.ref va)])) rfl (by rw [hml]; rfl) (argsL := [(.ref va), (.int 0), (.int 1)]) (rest := []) (lenOf pd_32 rfl) rfl (lb rfl) (hb hby at_283) (fun _ _ => ⟨rfl, eqy37, (by decide : 17 + 0 ≤ _), (by decide : 147 + 0 ≤ _)⟩))
              obtain ⟨rfl, Nqy56, eqy56⟩ := hQy56
              have Ny56 := Fr.app Ny37 Nqy56
              refine FinW.step (sty56) ?_
              show FinW p e below s _ _ _ (Ty56.setTop (mkF m 286 #[.val (.long pd), .second, iv pq, iv 0, iv 0, rv va, rv cs, rv by19, rv by24, rv em, rv by27, u_] [(.int (own_mm (own_vl pd) (0 : Int32) (1 : Int32) (2 : Int32) (3 : Int32) (4 : Int32) (5 : Int32)))]))
              by_cases hcy57 : (own_mm (own_vl pd) (0 : Int32) (1 : Int32) (2 : Int32) (3 : Int32) (4 : Int32) (5 : Int32)) = (0 : Int32)
              · refine FinW.step (fun _ k => Yo.ifNo Xy56.here hx (hb hby at_286) rfl ((if0 _ _).trans (teq (hcy57 : ((own_mm (own_vl pd) (0 : Int32) (1 : Int32) (2 : Int32) (3 : Int32) (4 : Int32) (5 : Int32)) = (0 : Int32)))).2) (Yo.aload Xy56.here hx (hb hby at_289) rfl rfl (Yo.iloadN Xy56.here hx (hb hby at_291) rfl (Yo.iconst Xy56.here hx (hb hby at_292) k)))) ?_
                obtain ⟨_, Ty58, Lcy58, Xy58, hQy58, sty58⟩ := packS (Jvm.LawKit.callS Xy56 hx (y := n17) hown (mvT hZ (W_ hw 84)) (mvT hZ (W_ hw 85)) (mvT hZ (W_ hw 3)) (mvT hZ (W_ hw 86)) (by decide) (backOf (W := 0) (rmat l Z a0 hw [] va 0 0 kv (own_vl pd) Ty30.heap n0 Zy30 ry33 (own_vlc pd) (by decide) (by decide)) hZ (W_ hw 86) (W_ hw 3) (by decide) (by decide)) (g := (mkF m 293 #[.val (.long pd), .second, iv pq, iv 0, iv 0, rv va, rv cs, rv by19, rv by24, rv em, rv by27, u_] [(.int 0), (.int 0), (.ref va)])) rfl (by rw [hml]; rfl) (argsL := [(.ref va), (.int 0), (.int 0)]) (rest := []) (lenOf pd_4 rfl) rfl (lb rfl) (hb hby at_293) (fun _ _ => ⟨rfl, eqy56, (by decide : 17 + 0 ≤ _), (by decide : 147 + 0 ≤ _)⟩))
                obtain ⟨rfl, Nqy58, eqy58⟩ := hQy58
                have Ny58 := Fr.app Ny56 Nqy58
                refine FinW.step (sty58) ?_
                show FinW p e below s _ _ _ (Ty58.setTop (mkF m 296 #[.val (.long pd), .second, iv pq, iv 0, iv 0, rv va, rv cs, rv by19, rv by24, rv em, rv by27, u_] [(.int (own_at (own_vl pd) (0 : Int32) (0 : Int32)))]))
                obtain ⟨_, Ty59, Lcy59, Xy59, hQy59, sty59⟩ := packS (Jvm.LawKit.callS Xy58 hx (y := n19) hown (mvT hZ (W_ hw 90)) (mvT hZ (W_ hw 91)) (mvT hZ (W_ hw 3)) (mvT hZ (W_ hw 92)) (by decide) (backOf (W := 0) (rmws l Z a0 hw [] (own_at (own_vl pd) (0 : Int32) (0 : Int32)) Ty30.heap n0 Zy30 ) hZ (W_ hw 92) (W_ hw 3) (by decide) (by decide)) (g := (mkF m 296 #[.val (.long pd), .second, iv pq, iv 0, iv 0, rv va, rv cs, rv by19, rv by24, rv em, rv by27, u_] [(.int (own_at (own_vl pd) (0 : Int32) (0 : Int32)))])) rfl (by rw [hml]; rfl) (argsL := [(.int (own_at (own_vl pd) (0 : Int32) (0 : Int32)))]) (rest := []) (lenOf pd_13 rfl) rfl (lb rfl) (hb hby at_296) (fun _ _ => ⟨rfl, eqy58, (by decide : 17 + 0 ≤ _), (by decide : 147 + 0 ≤ _)⟩))
                obtain ⟨rfl, Nqy59, eqy59⟩ := hQy59
                have Ny59 := Fr.app Ny58 Nqy59
                refine FinW.step (sty59) ?_
                show FinW p e below s _ _ _ (Ty59.setTop (mkF m 299 #[.val (.long pd), .second, iv pq, iv 0, iv 0, rv va, rv cs, rv by19, rv by24, rv em, rv by27, u_] [(.int (own_ws (own_at (own_vl pd) (0 : Int32) (0 : Int32))))]))
                refine FinW.step (fun _ k => Yo.ifNo Xy59.here hx (hb hby at_299) rfl ((if0 _ _).trans (feq (hcy38 : ¬ ((own_ws (own_at (own_vl pd) (0 : Int32) (0 : Int32))) = (0 : Int32)))).1) (Yo.aload Xy59.here hx (hb hby at_302) rfl rfl (Yo.iloadN Xy59.here hx (hb hby at_304) rfl (Yo.iconst Xy59.here hx (hb hby at_305) k)))) ?_
                obtain ⟨_, Ty60, Lcy60, Xy60, hQy60, sty60⟩ := packS (Jvm.LawKit.callS Xy59 hx (y := n17) hown (mvT hZ (W_ hw 84)) (mvT hZ (W_ hw 85)) (mvT hZ (W_ hw 3)) (mvT hZ (W_ hw 86)) (by decide) (backOf (W := 0) (rmat l Z a0 hw [] va 0 1 kv (own_vl pd) Ty30.heap n0 Zy30 ry33 (own_vlc pd) (by decide) (by decide)) hZ (W_ hw 86) (W_ hw 3) (by decide) (by decide)) (g := (mkF m 306 #[.val (.long pd), .second, iv pq, iv 0, iv 0, rv va, rv cs, rv by19, rv by24, rv em, rv by27, u_] [(.int 1), (.int 0), (.ref va)])) rfl (by rw [hml]; rfl) (argsL := [(.ref va), (.int 0), (.int 1)]) (rest := []) (lenOf pd_4 rfl) rfl (lb rfl) (hb hby at_306) (fun _ _ => ⟨rfl, eqy59, (by decide : 17 + 0 ≤ _), (by decide : 147 + 0 ≤ _)⟩))
                obtain ⟨rfl, Nqy60, eqy60⟩ := hQy60
                have Ny60 := Fr.app Ny59 Nqy60
                refine FinW.step (sty60) ?_
                show FinW p e below s _ _ _ (Ty60.setTop (mkF m 309 #[.val (.long pd), .second, iv pq, iv 0, iv 0, rv va, rv cs, rv by19, rv by24, rv em, rv by27, u_] [(.int (own_at (own_vl pd) (0 : Int32) (1 : Int32)))]))
                obtain ⟨_, Ty61, Lcy61, Xy61, hQy61, sty61⟩ := packS (Jvm.LawKit.callS Xy60 hx (y := n19) hown (mvT hZ (W_ hw 90)) (mvT hZ (W_ hw 91)) (mvT hZ (W_ hw 3)) (mvT hZ (W_ hw 92)) (by decide) (backOf (W := 0) (rmws l Z a0 hw [] (own_at (own_vl pd) (0 : Int32) (1 : Int32)) Ty30.heap n0 Zy30 ) hZ (W_ hw 92) (W_ hw 3) (by decide) (by decide)) (g := (mkF m 309 #[.val (.long pd), .second, iv pq, iv 0, iv 0, rv va, rv cs, rv by19, rv by24, rv em, rv by27, u_] [(.int (own_at (own_vl pd) (0 : Int32) (1 : Int32)))])) rfl (by rw [hml]; rfl) (argsL := [(.int (own_at (own_vl pd) (0 : Int32) (1 : Int32)))]) (rest := []) (lenOf pd_13 rfl) rfl (lb rfl) (hb hby at_309) (fun _ _ => ⟨rfl, eqy60, (by decide : 17 + 0 ≤ _), (by decide : 147 + 0 ≤ _)⟩))
                obtain ⟨rfl, Nqy61, eqy61⟩ := hQy61
                have Ny61 := Fr.app Ny60 Nqy61
                refine FinW.step (sty61) ?_
                show FinW p e below s _ _ _ (Ty61.setTop (mkF m 312 #[.val (.long pd), .second, iv pq, iv 0, iv 0, rv va, rv cs, rv by19, rv by24, rv em, rv by27, u_] [(.int (own_ws (own_at (own_vl pd) (0 : Int32) (1 : Int32))))]))
                by_cases hcy62 : (own_ws (own_at (own_vl pd) (0 : Int32) (1 : Int32))) = (0 : Int32)
                · refine FinW.step (fun _ k => Yo.ifYes Xy61.here hx (pc0 := 312) (pc' := 329) rfl (hb hby at_312) rfl ((if0 _ _).trans (teq (hcy62 : ((own_ws (own_at (own_vl pd) (0 : Int32) (1 : Int32))) = (0 : Int32)))).1) (by decide) (by decide) (Yo.iconst Xy61.here hx (hb hby at_329) (Yo.istore Xy61.here hx (hb hby at_330) rfl (l' := #[.val (.long pd), .second, iv pq, iv 0, iv 0, rv va, rv cs, rv by19, rv by24, rv em, rv by27, iv 0]) rfl (Yo.aload Xy61.here hx (hb hby at_332) rfl rfl k)))) ?_
                  have ry63 := ((((Ay19.keep Kcy20).keep Kcy24).ext Ey27).keep Kcy30)
                  have ney64 := nlt ((Ay19.keep Kcy20).keep Kcy24).lt (Nat.le_of_eq gy27.symm)
                  have ry65 := (((fy20_0.keep Kcy24 nin0).ext Ey27).keep Kcy30 (ninS ney64 nin0))
                  have ry66 := (((fy20_1.keep Kcy24 nin0).ext Ey27).keep Kcy30 (ninS ney64 nin0))
                  have ney67 := nlt ((nsV fy20_2).keep Kcy24).lt (Nat.le_of_eq gy27.symm)
                  have ry68 := (((Vy22.keep Kcy24 nin0).ext Ey27).keep Kcy30 (ninS ney67 nin0))
                  have ry69 := (Sta_keepW ((Sta_keepW (Sta_keepW (fy17_5.ext Ey19) Kcy20 (allS (nsE Ay19) all0)) Kcy24 all0).ext Ey27) Kcy30 (allS (nsE Ay27) all0))
                  have ry70 := (((((fy17_6.ext Ey19).keep Kcy20).keep Kcy24).ext Ey27).keep Kcy30)
                  have ry71 := (Sta_keepW ((Sta_keepW (Sta_keepW (fy17_7.ext Ey19) Kcy20 (allS (nsE Ay19) all0)) Kcy24 all0).ext Ey27) Kcy30 (allS (nsE Ay27) all0))
                  have ney72 := nlt (nsV fy17_8).lt (Nat.le_of_eq gy19.symm)
                  have ney73 := nlt ((((nsV fy17_8).ext Ey19).keep Kcy20).keep Kcy24).lt (Nat.le_of_eq gy27.symm)
                  have ry74 := (((((fy17_8.ext Ey19).keep Kcy20 (ninS ney72 nin0)).keep Kcy24 nin0).ext Ey27).keep Kcy30 (ninS ney73 nin0))
                  have ry75 := (Sta_keepW ((Sta_keepW ry23 Kcy24 all0).ext Ey27) Kcy30 (allS (nsE Ay27) all0))
                  have hky77 := (Nat.le_trans (Nat.le_trans (Nat.le_trans (Nat.le_refl _) Kcy24.1) Ey27.1) Kcy30.1)
                  obtain ⟨cqy76, kqy76, qy76a, qy76b, qy76c⟩ := isOf hZ eqy61 (Ay27.keep Kcy30)
                  obtain ⟨_, Ty76, Lcy76, Xy76, hSy76, hZ, hown, hQy76, CHcy76, sty76⟩ := packH (s := s) (vm0 := Ty20.vm) hSy20 (by rw [eqy61]; exact hky77) hZ hown (Jvm.Stand.virtualBackS Xy61 hx (y := n20) (z := n20) hown (mvT hZ (W_ hw 93)) (mvT hZ (W_ hw 94)) (notFace_of_selects (args := #[]) (mvT hZ (W_ hw 96))) (mvT hZ (W_ hw 96)) (mvT hZ (W_ hw 95)) (by decide) (backOfSH (s := s) (vm0 := Ty20.vm) (W := 0) (rmxR l Z a0 hw [] by27 by19 nb_y20 kn_y20 0 _ ci aa kA wc (own_vl pd) Ty30.heap n0 Zy30 fy30_0 ry63 ry65 ry66 ry68 ry69 ry70 ry71 ry74 ry75 hwc (by decide) (own_wlc _ _ _) (own_wlg pd (0 : Int32))) hZ (W_ hw 97) (W_ hw 58) (by decide) (by decide) hEL CHy30.1) qy76a qy76c (g := (mkF m 334 #[.val (.long pd), .second, iv pq, iv 0, iv 0, rv va, rv cs, rv by19, rv by24, rv em, rv by27, iv 0] [(.ref by27)])) rfl (by rw [hml]; rfl) (Steps.refl _) (argsL := []) (rest := []) (lenOf pd_19 rfl) rfl (lb rfl) (hb hby at_334) (fun _ _ => ⟨rfl, eqy61, (by decide : 17 + 4 ≤ _), (by decide : 147 + 36 ≤ _)⟩))
                  replace hZ : Z.Warmed39 (s.setVm Ty76.vm).vm := hZ
                  replace hown : (s.setVm Ty76.vm).vm.findClass q1 = some m.cls := hown
                  obtain ⟨rfl, Nqy76, Kcy76⟩ := hQy76
                  have Ny76 := Fr.app Ny61 Nqy76
                  have sfby27_y76 := CHcy76.safe (Ay27.keep Kcy30).lt sfby27_y30
                  have CHy76 := CHy30.trans CHcy76
                  have Zy76 := Nat.le_trans Zy30 Kcy76.1
                  have Ky76 := Ky30.trans Kcy76 all0
                  refine FinW.step (sty76) ?_
                  show FinW p e below s _ _ _ (Ty76.setTop (mkF m 337 #[.val (.long pd), .second, iv pq, iv 0, iv 0, rv va, rv cs, rv by19, rv by24, rv em, rv by27, iv 0] [(.int (own_xp (0 : Int32) (own_vl pd)))]))
                  refine FinW.step (fun _ k => Yo.iload Xy76.here hx (hb hby at_337) rfl (Yo.icmpNo Xy76.here hx (hb hby at_339) rfl (teq ((by rw [own_xp, if_pos hcy35, if_neg hcy38, if_pos hcy57, if_pos hcy62]) : ((own_xp (0 : Int32) (own_vl pd)) = (0 : Int32)))).2 (Yo.iconst Xy76.here hx (hb hby at_342) (Yo.goto Xy76.here hx (pc0 := 343) (pc' := 347) rfl (hb hby at_343) (by decide) (by decide) k)))) ?_
                  refine FinW.retN Xy76 hSy76 (Nat.le_refl _) hx (t := .boolean) hret (by simp) hlk (hb hby at_347) (by decide) (by decide) ?_
                  show Q0 Z pd pq wc em ci aa kA h0 n0 _ Ty76.heap _
                  exact ⟨rfl, Ny76, Ky76⟩
                · refine FinW.step (fun _ k => Yo.ifNo Xy61.here hx (hb hby at_312) rfl ((if0 _ _).trans (feq (hcy62 : ¬ ((own_ws (own_at (own_vl pd) (0 : Int32) (1 : Int32))) = (0 : Int32)))).1) (Yo.aload Xy61.here hx (hb hby at_315) rfl rfl (Yo.iloadN Xy61.here hx (hb hby at_317) rfl (Yo.iconst Xy61.here hx (hb hby at_318) k)))) ?_
                  obtain ⟨_, Ty78, Lcy78, Xy78, hQy78, sty78⟩ := packS (Jvm.LawKit.callS Xy61 hx (y := n16) hown (mvT hZ (W_ hw 81)) (mvT hZ (W_ hw 82)) (mvT hZ (W_ hw 3)) (mvT hZ (W_ hw 83)) (by decide) (backOf (W := 0) (rmm2 l Z a0 hw [] va 0 kv (own_vl pd) Ty30.heap n0 Zy30 ry33 (own_vlc pd) (by decide)) hZ (W_ hw 83) (W_ hw 3) (by decide) (by decide)) (g := (mkF m 319 #[.val (.long pd), .second, iv pq, iv 0, iv 0, rv va, rv cs, rv by19, rv by24, rv em, rv by27, u_] [(.int 2), (.int 0), (.ref va)])) rfl (by rw [hml]; rfl) (argsL := [(.ref va), (.int 0), (.int 2)]) (rest := []) (lenOf pd_32 rfl) rfl (lb rfl) (hb hby at_319) (fun _ _ => ⟨rfl, eqy61, (by decide : 17 + 0 ≤ _), (by decide : 147 + 0 ≤ _)⟩))
                  obtain ⟨rfl, Nqy78, eqy78⟩ := hQy78
                  have Ny78 := Fr.app Ny61 Nqy78
                  refine FinW.step (sty78) ?_
                  show FinW p e below s _ _ _ (Ty78.setTop (mkF m 322 #[.val (.long pd), .second, iv pq, iv 0, iv 0, rv va, rv cs, rv by19, rv by24, rv em, rv by27, u_] [(.int (own_mm (own_vl pd) (0 : Int32) (2 : Int32) (3 : Int32) (4 : Int32) (5 : Int32) (6 : Int32)))]))
                  by_cases hcy79 : (own_mm (own_vl pd) (0 : Int32) (2 : Int32) (3 : Int32) (4 : Int32) (5 : Int32) (6 : Int32)) = (0 : Int32)
                  · refine FinW.step (fun _ k => Yo.ifYes Xy78.here hx (pc0 := 322) (pc' := 329) rfl (hb hby at_322) rfl ((if0 _ _).trans (teq (hcy79 : ((own_mm (own_vl pd) (0 : Int32) (2 : Int32) (3 : Int32) (4 : Int32) (5 : Int32) (6 : Int32)) = (0 : Int32)))).1) (by decide) (by decide) (Yo.iconst Xy78.here hx (hb hby at_329) (Yo.istore Xy78.here hx (hb hby at_330) rfl (l' := #[.val (.long pd), .second, iv pq, iv 0, iv 0, rv va, rv cs, rv by19, rv by24, rv em, rv by27, iv 0]) rfl (Yo.aload Xy78.here hx (hb hby at_332) rfl rfl k)))) ?_
                    have ry80 := ((((Ay19.keep Kcy20).keep Kcy24).ext Ey27).keep Kcy30)
                    have ney81 := nlt ((Ay19.keep Kcy20).keep Kcy24).lt (Nat.le_of_eq gy27.symm)
                    have ry82 := (((fy20_0.keep Kcy24 nin0).ext Ey27).keep Kcy30 (ninS ney81 nin0))
                    have ry83 := (((fy20_1.keep Kcy24 nin0).ext Ey27).keep Kcy30 (ninS ney81 nin0))
                    have ney84 := nlt ((nsV fy20_2).keep Kcy24).lt (Nat.le_of_eq gy27.symm)
                    have ry85 := (((Vy22.keep Kcy24 nin0).ext Ey27).keep Kcy30 (ninS ney84 nin0))
                    have ry86 := (Sta_keepW ((Sta_keepW (Sta_keepW (fy17_5.ext Ey19) Kcy20 (allS (nsE Ay19) all0)) Kcy24 all0).ext Ey27) Kcy30 (allS (nsE Ay27) all0))
                    have ry87 := (((((fy17_6.ext Ey19).keep Kcy20).keep Kcy24).ext Ey27).keep Kcy30)
                    have ry88 := (Sta_keepW ((Sta_keepW (Sta_keepW (fy17_7.ext Ey19) Kcy20 (allS (nsE Ay19) all0)) Kcy24 all0).ext Ey27) Kcy30 (allS (nsE Ay27) all0))
                    have ney89 := nlt (nsV fy17_8).lt (Nat.le_of_eq gy19.symm)
                    have ney90 := nlt ((((nsV fy17_8).ext Ey19).keep Kcy20).keep Kcy24).lt (Nat.le_of_eq gy27.symm)
                    have ry91 := (((((fy17_8.ext Ey19).keep Kcy20 (ninS ney89 nin0)).keep Kcy24 nin0).ext Ey27).keep Kcy30 (ninS ney90 nin0))
                    have ry92 := (Sta_keepW ((Sta_keepW ry23 Kcy24 all0).ext Ey27) Kcy30 (allS (nsE Ay27) all0))
                    have hky94 := (Nat.le_trans (Nat.le_trans (Nat.le_trans (Nat.le_refl _) Kcy24.1) Ey27.1) Kcy30.1)
                    obtain ⟨cqy93, kqy93, qy93a, qy93b, qy93c⟩ := isOf hZ eqy78 (Ay27.keep Kcy30)
                    obtain ⟨_, Ty93, Lcy93, Xy93, hSy93, hZ, hown, hQy93, CHcy93, sty93⟩ := packH (s := s) (vm0 := Ty20.vm) hSy20 (by rw [eqy78]; exact hky94) hZ hown (Jvm.Stand.virtualBackS Xy78 hx (y := n20) (z := n20) hown (mvT hZ (W_ hw 93)) (mvT hZ (W_ hw 94)) (notFace_of_selects (args := #[]) (mvT hZ (W_ hw 96))) (mvT hZ (W_ hw 96)) (mvT hZ (W_ hw 95)) (by decide) (backOfSH (s := s) (vm0 := Ty20.vm) (W := 0) (rmxR l Z a0 hw [] by27 by19 nb_y20 kn_y20 0 _ ci aa kA wc (own_vl pd) Ty30.heap n0 Zy30 fy30_0 ry80 ry82 ry83 ry85 ry86 ry87 ry88 ry91 ry92 hwc (by decide) (own_wlc _ _ _) (own_wlg pd (0 : Int32))) hZ (W_ hw 97) (W_ hw 58) (by decide) (by decide) hEL CHy30.1) qy93a qy93c (g := (mkF m 334 #[.val (.long pd), .second, iv pq, iv 0, iv 0, rv va, rv cs, rv by19, rv by24, rv em, rv by27, iv 0] [(.ref by27)])) rfl (by rw [hml]; rfl) (Steps.refl _) (argsL := []) (rest := []) (lenOf pd_19 rfl) rfl (lb rfl) (hb hby at_334) (fun _ _ => ⟨rfl, eqy78, (by decide : 17 + 4 ≤ _), (by decide : 147 + 36 ≤ _)⟩))
                    replace hZ : Z.Warmed39 (s.setVm Ty93.vm).vm := hZ
                    replace hown : (s.setVm Ty93.vm).vm.findClass q1 = some m.cls := hown
                    obtain ⟨rfl, Nqy93, Kcy93⟩ := hQy93
                    have Ny93 := Fr.app Ny78 Nqy93
                    have sfby27_y93 := CHcy93.safe (Ay27.keep Kcy30).lt sfby27_y30
                    have CHy93 := CHy30.trans CHcy93
                    have Zy93 := Nat.le_trans Zy30 Kcy93.1
                    have Ky93 := Ky30.trans Kcy93 all0
                    refine FinW.step (sty93) ?_
                    show FinW p e below s _ _ _ (Ty93.setTop (mkF m 337 #[.val (.long pd), .second, iv pq, iv 0, iv 0, rv va, rv cs, rv by19, rv by24, rv em, rv by27, iv 0] [(.int (own_xp (0 : Int32) (own_vl pd)))]))
                    refine FinW.step (fun _ k => Yo.iload Xy93.here hx (hb hby at_337) rfl (Yo.icmpNo Xy93.here hx (hb hby at_339) rfl (teq ((by rw [own_xp, if_pos hcy35, if_neg hcy38, if_pos hcy57, if_neg hcy62, if_pos hcy79]) : ((own_xp (0 : Int32) (own_vl pd)) = (0 : Int32)))).2 (Yo.iconst Xy93.here hx (hb hby at_342) (Yo.goto Xy93.here hx (pc0 := 343) (pc' := 347) rfl (hb hby at_343) (by decide) (by decide) k)))) ?_
                    refine FinW.retN Xy93 hSy93 (Nat.le_refl _) hx (t := .boolean) hret (by simp) hlk (hb hby at_347) (by decide) (by decide) ?_
                    show Q0 Z pd pq wc em ci aa kA h0 n0 _ Ty93.heap _
                    exact ⟨rfl, Ny93, Ky93⟩
                  · refine FinW.step (fun _ k => Yo.ifNo Xy78.here hx (hb hby at_322) rfl ((if0 _ _).trans (feq (hcy79 : ¬ ((own_mm (own_vl pd) (0 : Int32) (2 : Int32) (3 : Int32) (4 : Int32) (5 : Int32) (6 : Int32)) = (0 : Int32)))).1) (Yo.iconst Xy78.here hx (hb hby at_325) (Yo.goto Xy78.here hx (pc0 := 326) (pc' := 330) rfl (hb hby at_326) (by decide) (by decide) (Yo.istore Xy78.here hx (hb hby at_330) rfl (l' := #[.val (.long pd), .second, iv pq, iv 0, iv 0, rv va, rv cs, rv by19, rv by24, rv em, rv by27, iv 1]) rfl (Yo.aload Xy78.here hx (hb hby at_332) rfl rfl k))))) ?_
                    have ry95 := ((((Ay19.keep Kcy20).keep Kcy24).ext Ey27).keep Kcy30)
                    have ney96 := nlt ((Ay19.keep Kcy20).keep Kcy24).lt (Nat.le_of_eq gy27.symm)
                    have ry97 := (((fy20_0.keep Kcy24 nin0).ext Ey27).keep Kcy30 (ninS ney96 nin0))
                    have ry98 := (((fy20_1.keep Kcy24 nin0).ext Ey27).keep Kcy30 (ninS ney96 nin0))
                    have ney99 := nlt ((nsV fy20_2).keep Kcy24).lt (Nat.le_of_eq gy27.symm)
                    have ry100 := (((Vy22.keep Kcy24 nin0).ext Ey27).keep Kcy30 (ninS ney99 nin0))
                    have ry101 := (Sta_keepW ((Sta_keepW (Sta_keepW (fy17_5.ext Ey19) Kcy20 (allS (nsE Ay19) all0)) Kcy24 all0).ext Ey27) Kcy30 (allS (nsE Ay27) all0))
                    have ry102 := (((((fy17_6.ext Ey19).keep Kcy20).keep Kcy24).ext Ey27).keep Kcy30)
                    have ry103 := (Sta_keepW ((Sta_keepW (Sta_keepW (fy17_7.ext Ey19) Kcy20 (allS (nsE Ay19) all0)) Kcy24 all0).ext Ey27) Kcy30 (allS (nsE Ay27) all0))
                    have ney104 := nlt (nsV fy17_8).lt (Nat.le_of_eq gy19.symm)
                    have ney105 := nlt ((((nsV fy17_8).ext Ey19).keep Kcy20).keep Kcy24).lt (Nat.le_of_eq gy27.symm)
                    have ry106 := (((((fy17_8.ext Ey19).keep Kcy20 (ninS ney104 nin0)).keep Kcy24 nin0).ext Ey27).keep Kcy30 (ninS ney105 nin0))
                    have ry107 := (Sta_keepW ((Sta_keepW ry23 Kcy24 all0).ext Ey27) Kcy30 (allS (nsE Ay27) all0))
                    have hky109 := (Nat.le_trans (Nat.le_trans (Nat.le_trans (Nat.le_refl _) Kcy24.1) Ey27.1) Kcy30.1)
                    obtain ⟨cqy108, kqy108, qy108a, qy108b, qy108c⟩ := isOf hZ eqy78 (Ay27.keep Kcy30)
                    obtain ⟨_, Ty108, Lcy108, Xy108, hSy108, hZ, hown, hQy108, CHcy108, sty108⟩ := packH (s := s) (vm0 := Ty20.vm) hSy20 (by rw [eqy78]; exact hky109) hZ hown (Jvm.Stand.virtualBackS Xy78 hx (y := n20) (z := n20) hown (mvT hZ (W_ hw 93)) (mvT hZ (W_ hw 94)) (notFace_of_selects (args := #[]) (mvT hZ (W_ hw 96))) (mvT hZ (W_ hw 96)) (mvT hZ (W_ hw 95)) (by decide) (backOfSH (s := s) (vm0 := Ty20.vm) (W := 0) (rmxR l Z a0 hw [] by27 by19 nb_y20 kn_y20 0 _ ci aa kA wc (own_vl pd) Ty30.heap n0 Zy30 fy30_0 ry95 ry97 ry98 ry100 ry101 ry102 ry103 ry106 ry107 hwc (by decide) (own_wlc _ _ _) (own_wlg pd (0 : Int32))) hZ (W_ hw 97) (W_ hw 58) (by decide) (by decide) hEL CHy30.1) qy108a qy108c (g := (mkF m 334 #[.val (.long pd), .second, iv pq, iv 0, iv 0, rv va, rv cs, rv by19, rv by24, rv em, rv by27, iv 1] [(.ref by27)])) rfl (by rw [hml]; rfl) (Steps.refl _) (argsL := []) (rest := []) (lenOf pd_19 rfl) rfl (lb rfl) (hb hby at_334) (fun _ _ => ⟨rfl, eqy78, (by decide : 17 + 4 ≤ _), (by decide : 147 + 36 ≤ _)⟩))
                    replace hZ : Z.Warmed39 (s.setVm Ty108.vm).vm := hZ
                    replace hown : (s.setVm Ty108.vm).vm.findClass q1 = some m.cls := hown
                    obtain ⟨rfl, Nqy108, Kcy108⟩ := hQy108
                    have Ny108 := Fr.app Ny78 Nqy108
                    have sfby27_y108 := CHcy108.safe (Ay27.keep Kcy30).lt sfby27_y30
                    have CHy108 := CHy30.trans CHcy108
                    have Zy108 := Nat.le_trans Zy30 Kcy108.1
                    have Ky108 := Ky30.trans Kcy108 all0
                    refine FinW.step (sty108) ?_
                    show FinW p e below s _ _ _ (Ty108.setTop (mkF m 337 #[.val (.long pd), .second, iv pq, iv 0, iv 0, rv va, rv cs, rv by19, rv by24, rv em, rv by27, iv 1] [(.int (own_xp (0 : Int32) (own_vl pd)))]))
                    refine FinW.step (fun _ k => Yo.iload Xy108.here hx (hb hby at_337) rfl (Yo.icmpNo Xy108.here hx (hb hby at_339) rfl (teq ((by rw [own_xp, if_pos hcy35, if_neg hcy38, if_pos hcy57, if_neg hcy62, if_neg hcy79]) : ((own_xp (0 : Int32) (own_vl pd)) = (1 : Int32)))).2 (Yo.iconst Xy108.here hx (hb hby at_342) (Yo.goto Xy108.here hx (pc0 := 343) (pc' := 347) rfl (hb hby at_343) (by decide) (by decide) k)))) ?_
                    refine FinW.retN Xy108 hSy108 (Nat.le_refl _) hx (t := .boolean) hret (by simp) hlk (hb hby at_347) (by decide) (by decide) ?_
                    show Q0 Z pd pq wc em ci aa kA h0 n0 _ Ty108.heap _
                    exact ⟨rfl, Ny108, Ky108⟩
              · refine FinW.step (fun _ k => Yo.ifYes Xy56.here hx (pc0 := 286) (pc' := 325) rfl (hb hby at_286) rfl ((if0 _ _).trans (feq (hcy57 : ¬ ((own_mm (own_vl pd) (0 : Int32) (1 : Int32) (2 : Int32) (3 : Int32) (4 : Int32) (5 : Int32)) = (0 : Int32)))).2) (by decide) (by decide) (Yo.iconst Xy56.here hx (hb hby at_325) (Yo.goto Xy56.here hx (pc0 := 326) (pc' := 330) rfl (hb hby at_326) (by decide) (by decide) (Yo.istore Xy56.here hx (hb hby at_330) rfl (l' := #[.val (.long pd), .second, iv pq, iv 0, iv 0, rv va, rv cs, rv by19, rv by24, rv em, rv by27, iv 1]) rfl (Yo.aload Xy56.here hx (hb hby at_332) rfl rfl k))))) ?_
                have ry110 := ((((Ay19.keep Kcy20).keep Kcy24).ext Ey27).keep Kcy30)
                have ney111 := nlt ((Ay19.keep Kcy20).keep Kcy24).lt (Nat.le_of_eq gy27.symm)
                have ry112 := (((fy20_0.keep Kcy24 nin0).ext Ey27).keep Kcy30 (ninS ney111 nin0))
                have ry113 := (((fy20_1.keep Kcy24 nin0).ext Ey27).keep Kcy30 (ninS ney111 nin0))
                have ney114 := nlt ((nsV fy20_2).keep Kcy24).lt (Nat.le_of_eq gy27.symm)
                have ry115 := (((Vy22.keep Kcy24 nin0).ext Ey27).keep Kcy30 (ninS ney114 nin0))
                have ry116 := (Sta_keepW ((Sta_keepW (Sta_keepW (fy17_5.ext Ey19) Kcy20 (allS (nsE Ay19) all0)) Kcy24 all0).ext Ey27) Kcy30 (allS (nsE Ay27) all0))
                have ry117 := (((((fy17_6.ext Ey19).keep Kcy20).keep Kcy24).ext Ey27).keep Kcy30)
                have ry118 := (Sta_keepW ((Sta_keepW (Sta_keepW (fy17_7.ext Ey19) Kcy20 (allS (nsE Ay19) all0)) Kcy24 all0).ext Ey27) Kcy30 (allS (nsE Ay27) all0))
                have ney119 := nlt (nsV fy17_8).lt (Nat.le_of_eq gy19.symm)
                have ney120 := nlt ((((nsV fy17_8).ext Ey19).keep Kcy20).keep Kcy24).lt (Nat.le_of_eq gy27.symm)
                have ry121 := (((((fy17_8.ext Ey19).keep Kcy20 (ninS ney119 nin0)).keep Kcy24 nin0).ext Ey27).keep Kcy30 (ninS ney120 nin0))
                have ry122 := (Sta_keepW ((Sta_keepW ry23 Kcy24 all0).ext Ey27) Kcy30 (allS (nsE Ay27) all0))
                have hky124 := (Nat.le_trans (Nat.le_trans (Nat.le_trans (Nat.le_refl _) Kcy24.1) Ey27.1) Kcy30.1)
                obtain ⟨cqy123, kqy123, qy123a, qy123b, qy123c⟩ := isOf hZ eqy56 (Ay27.keep Kcy30)
                obtain ⟨_, Ty123, Lcy123, Xy123, hSy123, hZ, hown, hQy123, CHcy123, sty123⟩ := packH (s := s) (vm0 := Ty20.vm) hSy20 (by rw [eqy56]; exact hky124) hZ hown (Jvm.Stand.virtualBackS Xy56 hx (y := n20) (z := n20) hown (mvT hZ (W_ hw 93)) (mvT hZ (W_ hw 94)) (notFace_of_selects (args := #[]) (mvT hZ (W_ hw 96))) (mvT hZ (W_ hw 96)) (mvT hZ (W_ hw 95)) (by decide) (backOfSH (s := s) (vm0 := Ty20.vm) (W := 0) (rmxR l Z a0 hw [] by27 by19 nb_y20 kn_y20 0 _ ci aa kA wc (own_vl pd) Ty30.heap n0 Zy30 fy30_0 ry110 ry112 ry113 ry115 ry116 ry117 ry118 ry121 ry122 hwc (by decide) (own_wlc _ _ _) (own_wlg pd (0 : Int32))) hZ (W_ hw 97) (W_ hw 58) (by decide) (by decide) hEL CHy30.1) qy123a qy123c (g := (mkF m 334 #[.val (.long pd), .second, iv pq, iv 0, iv 0, rv va, rv cs, rv by19, rv by24, rv em, rv by27, iv 1] [(.ref by27)])) rfl (by rw [hml]; rfl) (Steps.refl _) (argsL := []) (rest := []) (lenOf pd_19 rfl) rfl (lb rfl) (hb hby at_334) (fun _ _ => ⟨rfl, eqy56, (by decide : 17 + 4 ≤ _), (by decide : 147 + 36 ≤ _)⟩))
                replace hZ : Z.Warmed39 (s.setVm Ty123.vm).vm := hZ
                replace hown : (s.setVm Ty123.vm).vm.findClass q1 = some m.cls := hown
                obtain ⟨rfl, Nqy123, Kcy123⟩ := hQy123
                have Ny123 := Fr.app Ny56 Nqy123
                have sfby27_y123 := CHcy123.safe (Ay27.keep Kcy30).lt sfby27_y30
                have CHy123 := CHy30.trans CHcy123
                have Zy123 := Nat.le_trans Zy30 Kcy123.1
                have Ky123 := Ky30.trans Kcy123 all0
                refine FinW.step (sty123) ?_
                show FinW p e below s _ _ _ (Ty123.setTop (mkF m 337 #[.val (.long pd), .second, iv pq, iv 0, iv 0, rv va, rv cs, rv by19, rv by24, rv em, rv by27, iv 1] [(.int (own_xp (0 : Int32) (own_vl pd)))]))
                refine FinW.step (fun _ k => Yo.iload Xy123.here hx (hb hby at_337) rfl (Yo.icmpNo Xy123.here hx (hb hby at_339) rfl (teq ((by rw [own_xp, if_pos hcy35, if_neg hcy38, if_neg hcy57]) : ((own_xp (0 : Int32) (own_vl pd)) = (1 : Int32)))).2 (Yo.iconst Xy123.here hx (hb hby at_342) (Yo.goto Xy123.here hx (pc0 := 343) (pc' := 347) rfl (hb hby at_343) (by decide) (by decide) k)))) ?_
                refine FinW.retN Xy123 hSy123 (Nat.le_refl _) hx (t := .boolean) hret (by simp) hlk (hb hby at_347) (by decide) (by decide) ?_
                show Q0 Z pd pq wc em ci aa kA h0 n0 _ Ty123.heap _
                exact ⟨rfl, Ny123, Ky123⟩
          · refine FinW.step (fun _ k => Yo.ifYes Xy34.here hx (pc0 := 263) (pc' := 325) rfl (hb hby at_263) rfl ((if0 _ _).trans (feq (hcy35 : ¬ ((own_mm (own_vl pd) (0 : Int32) (0 : Int32) (1 : Int32) (2 : Int32) (3 : Int32) (4 : Int32)) = (0 : Int32)))).2) (by decide) (by decide) (Yo.iconst Xy34.here hx (hb hby at_325) (Yo.goto Xy34.here hx (pc0 := 326) (pc' := 330) rfl (hb hby at_326) (by decide) (by decide) (Yo.istore Xy34.here hx (hb hby at_330) rfl (l' := #[.val (.long pd), .second, iv pq, iv 0, iv 0, rv va, rv cs, rv by19, rv by24, rv em, rv by27, iv 1]) rfl (Yo.aload Xy34.here hx (hb hby at_332) rfl rfl k))))) ?_
            have ry125 := ((((Ay19.keep Kcy20).keep Kcy24).ext Ey27).keep Kcy30)
            have ney126 := nlt ((Ay19.keep Kcy20).keep Kcy24).lt (Nat.le_of_eq gy27.symm)
            have ry127 := (((fy20_0.keep Kcy24 nin0).ext Ey27).keep Kcy30 (ninS ney126 nin0))
            have ry128 := (((fy20_1.keep Kcy24 nin0).ext Ey27).keep Kcy30 (ninS ney126 nin0))
            have ney129 := nlt ((nsV fy20_2).keep Kcy24).lt (Nat.le_of_eq gy27.symm)
            have ry130 := (((Vy22.keep Kcy24 nin0).ext Ey27).keep Kcy30 (ninS ney129 nin0))
            have ry131 := (Sta_keepW ((Sta_keepW (Sta_keepW (fy17_5.ext Ey19) Kcy20 (allS (nsE Ay19) all0)) Kcy24 all0).ext Ey27) Kcy30 (allS (nsE Ay27) all0))
            have ry132 := (((((fy17_6.ext Ey19).keep Kcy20).keep Kcy24).ext Ey27).keep Kcy30)
            have ry133 := (Sta_keepW ((Sta_keepW (Sta_keepW (fy17_7.ext Ey19) Kcy20 (allS (nsE Ay19) all0)) Kcy24 all0).ext Ey27) Kcy30 (allS (nsE Ay27) all0))
            have ney134 := nlt (nsV fy17_8).lt (Nat.le_of_eq gy19.symm)
            have ney135 := nlt ((((nsV fy17_8).ext Ey19).keep Kcy20).keep Kcy24).lt (Nat.le_of_eq gy27.symm)
            have ry136 := (((((fy17_8.ext Ey19).keep Kcy20 (ninS ney134 nin0)).keep Kcy24 nin0).ext Ey27).keep Kcy30 (ninS ney135 nin0))
            have ry137 := (Sta_keepW ((Sta_keepW ry23 Kcy24 all0).ext Ey27) Kcy30 (allS (nsE Ay27) all0))
            have hky139 := (Nat.le_trans (Nat.le_trans (Nat.le_trans (Nat.le_refl _) Kcy24.1) Ey27.1) Kcy30.1)
            obtain ⟨cqy138, kqy138, qy138a, qy138b, qy138c⟩ := isOf hZ eqy34 (Ay27.keep Kcy30)
            obtain ⟨_, Ty138, Lcy138, Xy138, hSy138, hZ, hown, hQy138, CHcy138, sty138⟩ := packH (s := s) (vm0 := Ty20.vm) hSy20 (by rw [eqy34]; exact hky139) hZ hown (Jvm.Stand.virtualBackS Xy34 hx (y := n20) (z := n20) hown (mvT hZ (W_ hw 93)) (mvT hZ (W_ hw 94)) (notFace_of_selects (args := #[]) (mvT hZ (W_ hw 96))) (mvT hZ (W_ hw 96)) (mvT hZ (W_ hw 95)) (by decide) (backOfSH (s := s) (vm0 := Ty20.vm) (W := 0) (rmxR l Z a0 hw [] by27 by19 nb_y20 kn_y20 0 _ ci aa kA wc (own_vl pd) Ty30.heap n0 Zy30 fy30_0 ry125 ry127 ry128 ry130 ry131 ry132 ry133 ry136 ry137 hwc (by decide) (own_wlc _ _ _) (own_wlg pd (0 : Int32))) hZ (W_ hw 97) (W_ hw 58) (by decide) (by decide) hEL CHy30.1) qy138a qy138c (g := (mkF m 334 #[.val (.long pd), .second, iv pq, iv 0, iv 0, rv va, rv cs, rv by19, rv by24, rv em, rv by27, iv 1] [(.ref by27)])) rfl (by rw [hml]; rfl) (Steps.refl _) (argsL := []) (rest := []) (lenOf pd_19 rfl) rfl (lb rfl) (hb hby at_334) (fun _ _ => ⟨rfl, eqy34, (by decide : 17 + 4 ≤ _), (by decide : 147 + 36 ≤ _)⟩))
            replace hZ : Z.Warmed39 (s.setVm Ty138.vm).vm := hZ
            replace hown : (s.setVm Ty138.vm).vm.findClass q1 = some m.cls := hown
            obtain ⟨rfl, Nqy138, Kcy138⟩ := hQy138
            have Ny138 := Fr.app Ny34 Nqy138
            have sfby27_y138 := CHcy138.safe (Ay27.keep Kcy30).lt sfby27_y30
            have CHy138 := CHy30.trans CHcy138
            have Zy138 := Nat.le_trans Zy30 Kcy138.1
            have Ky138 := Ky30.trans Kcy138 all0
            refine FinW.step (sty138) ?_
            show FinW p e below s _ _ _ (Ty138.setTop (mkF m 337 #[.val (.long pd), .second, iv pq, iv 0, iv 0, rv va, rv cs, rv by19, rv by24, rv em, rv by27, iv 1] [(.int (own_xp (0 : Int32) (own_vl pd)))]))
            refine FinW.step (fun _ k => Yo.iload Xy138.here hx (hb hby at_337) rfl (Yo.icmpNo Xy138.here hx (hb hby at_339) rfl (teq ((by rw [own_xp, if_neg hcy35]) : ((own_xp (0 : Int32) (own_vl pd)) = (1 : Int32)))).2 (Yo.iconst Xy138.here hx (hb hby at_342) (Yo.goto Xy138.here hx (pc0 := 343) (pc' := 347) rfl (hb hby at_343) (by decide) (by decide) k)))) ?_
            refine FinW.retN Xy138 hSy138 (Nat.le_refl _) hx (t := .boolean) hret (by simp) hlk (hb hby at_347) (by decide) (by decide) ?_
            show Q0 Z pd pq wc em ci aa kA h0 n0 _ Ty138.heap _
            exact ⟨rfl, Ny138, Ky138⟩
        · show FinW p e below s _ _ _ (Ty17.setTop (mkF m 205 #[.val (.long pd), .second, iv pq, iv zm, iv 0, rv va, rv cs, u_, u_, u_, u_, u_] []))
          obtain ⟨Ty140, hy140, Xy140, ey140, Ey140, Ay140, Dy140, -, sty140⟩ := newO Xy17 hx hZ hown (W_ hw 7) (W_ hw 8) (W_ hw 9) ey17 (g := (mkF m 205 #[.val (.long pd), .second, iv pq, iv zm, iv 0, rv va, rv cs, u_, u_, u_, u_, u_] [])) rfl (hb hby at_205) (by decide) (by decide)
          obtain ⟨by140, gy140⟩ : ∃ z, z = hy17.size := ⟨_, rfl⟩
          rw [← gy140] at Ay140 Dy140 sty140
          have gzy140 : n0 ≤ by140 := Nat.le_trans Zy17 (Nat.le_of_eq gy140.symm)
          have szy140 : h0.size ≤ by140 := Nat.le_trans Ky17.1 (Nat.le_of_eq gy140.symm)
          have CHy140 := CHy18.trans (CHr.ext Ey140 CHy18.1)
          have Zy140 := Nat.le_trans Zy17 Ey140.1
          have Ky140 := Ky17.ext Ey140
          have F_coder_by140 : Fld Z hy140 by140 q2 "coder" "B" (.int 0) := Dy140 (Or.inr (W_ hw 33)) (ty := .byte) (by decide)
          have F_value_by140 : Fld Z hy140 by140 q2 "value" "[B" .null := Dy140 (Or.inr (W_ hw 35)) (ty := (.array .byte)) (by decide)
          refine FinW.step (sty140) ?_
          show FinW p e below s _ _ _ (Ty140.setTop (mkF m 208 #[.val (.long pd), .second, iv pq, iv zm, iv 0, rv va, rv cs, u_, u_, u_, u_, u_] [(.ref by140)]))
          refine FinW.step (fun _ k => Yo.dup Xy140.here hx (hb hby at_208) rfl rfl (Yo.aload Xy140.here hx (hb hby at_209) rfl rfl k)) ?_
          have sfby140_y141 : Safe Z own_EL _ _ _ := safeNull hZ.alike Ay140 F_value_by140
          have ney142 := nlt (nsV fy17_1).lt (Nat.le_of_eq gy140.symm)
          obtain ⟨_, Ty143, Lcy143, Xy143, hQy143, sty143⟩ := pack (Xy140.specialBack hx (y := n2) rfl hown (mvT hZ (W_ hw 10)) (mvT hZ (W_ hw 11)) (mvT hZ (W_ hw 12)) (by decide) (backOf (W := 1) (rmsi1L l Z a0 hw [] by140 cs zm kc _ wc hy140 n0 Zy140 Ay140 F_coder_by140 F_value_by140 (fy17_1.ext Ey140) (fy17_2.ext Ey140) gzy140 (own_78 hzm) (own_xlc pd _) hwc hz0 (own_xll pd _) (Ne.symm ney142)) hZ (W_ hw 12) (W_ hw 9) (by decide) (by decide)) (g := (mkF m 211 #[.val (.long pd), .second, iv pq, iv zm, iv 0, rv va, rv cs, u_, u_, u_, u_, u_] [(.ref cs), (.ref by140), (.ref by140)])) rfl (by rw [hml]; rfl) (Steps.refl _) (a := by140) (argsL := [(.ref cs)]) (rest := [(.ref by140)]) (lenOf pd_28 rfl) rfl (lb rfl) (hb hby at_211) (fun _ _ => ⟨rfl, ey140, (by decide : 10 + 1 ≤ _), (by decide : 130 + 8 ≤ _)⟩))
          obtain ⟨nb_y143, kn_y143, rfl, bfy143_0, Nqy143, Kcy143, fy143_0, fy143_1, fy143_2, ney143_0⟩ := hQy143
          have Ny143 := Fr.app Ny17 Nqy143
          have gzy143_0 : n0 ≤ nb_y143 := Nat.le_trans Zy140 bfy143_0
          have szy143_0 : h0.size ≤ nb_y143 := Nat.le_trans Ky140.1 bfy143_0
          have CHy143 := CHy140.trans (CHr.keep Kcy143 (allS sfby140_y141 all0) CHy140.1)
          have sfby140_y143 := Safe.keep Kcy143 (allS sfby140_y141 all0) CHy140.1 sfby140_y141
          have Zy143 := Nat.le_trans Zy140 Kcy143.1
          have Ky143 := Ky140.trans Kcy143 (allS (Or.inr szy140) all0)
          refine FinW.step (sty143) ?_
          show FinW p e below s _ _ _ (Ty143.setTop (mkF m 214 #[.val (.long pd), .second, iv pq, iv zm, iv 0, rv va, rv cs, u_, u_, u_, u_, u_] [(.ref by140)]))
          have Vy144 : Arv Z Ty143.heap nb_y143 kn_y143 .byte zm (own_wl pd zm) (.int 0) := castL fy143_2 (by rfl)
          refine FinW.step (fun _ k => Yo.astore Xy143.here hx (hb hby at_214) rfl rfl (l' := #[.val (.long pd), .second, iv pq, iv zm, iv 0, rv va, rv cs, rv by140, u_, u_, u_, u_]) rfl (Yo.iloadN Xy143.here hx (hb hby at_216) rfl (Yo.bipush Xy143.here hx (hb hby at_217) (Yo.iushr Xy143.here hx (hb hby at_219) rfl k)))) ?_
          show FinW p e below s _ _ _ (Ty143.setTop (mkF m 220 #[.val (.long pd), .second, iv pq, iv zm, iv 0, rv va, rv cs, rv by140, u_, u_, u_, u_] [(.int (ushI pq (8 : Int32)))]))
          refine FinW.step (fun _ k => Yo.sipush Xy143.here hx (hb hby at_220) (Yo.iand Xy143.here hx (hb hby at_223) rfl k)) ?_
          show FinW p e below s _ _ _ (Ty143.setTop (mkF m 224 #[.val (.long pd), .second, iv pq, iv zm, iv 0, rv va, rv cs, rv by140, u_, u_, u_, u_] [(.int ((ushI pq (8 : Int32)) &&& (255 : Int32)))]))
          refine FinW.step (fun _ k => Yo.i2c Xy143.here hx (hb hby at_224) rfl k) ?_
          show FinW p e below s _ _ _ (Ty143.setTop (mkF m 225 #[.val (.long pd), .second, iv pq, iv zm, iv 0, rv va, rv cs, rv by140, u_, u_, u_, u_] [(.int (((ushI pq (8 : Int32)) &&& (255 : Int32)).toUInt32.toUInt16.toUInt32.toInt32))]))
          have ry145 := (Sta_keepW (fy17_2.ext Ey140) Kcy143 (allS (nsE Ay140) all0))
          obtain ⟨_, Ty146, Lcy146, Xy146, hQy146, sty146⟩ := packS (Jvm.LawKit.callS Xy143 hx (y := n8) hown (mvT hZ (W_ hw 36)) (mvT hZ (W_ hw 37)) (mvT hZ (W_ hw 9)) (mvT hZ (W_ hw 38)) (by decide) (backOf (W := 0) (rmvo l Z a0 hw [] (((ushI pq (8 : Int32)) &&& (255 : Int32)).toUInt32.toUInt16.toUInt32.toInt32) wc Ty143.heap n0 Zy143 ry145 hwc (own_qz pq)) hZ (W_ hw 38) (W_ hw 9) (by decide) (by decide)) (g := (mkF m 225 #[.val (.long pd), .second, iv pq, iv zm, iv 0, rv va, rv cs, rv by140, u_, u_, u_, u_] [(.int (((ushI pq (8 : Int32)) &&& (255 : Int32)).toUInt32.toUInt16.toUInt32.toInt32))])) rfl (by rw [hml]; rfl) (argsL := [(.int (((ushI pq (8 : Int32)) &&& (255 : Int32)).toUInt32.toUInt16.toUInt32.toInt32))]) (rest := []) (lenOf pd_29 rfl) rfl (lb rfl) (hb hby at_225) (fun _ _ => ⟨rfl, rfl, (by decide : 11 + 2 ≤ _), (by decide : 138 + 5 ≤ _)⟩))
          obtain ⟨by146, rfl, bzy146, Nqy146, Kcy146⟩ := hQy146
          have Ny146 := Fr.app Ny143 Nqy146
          have gzy146 : n0 ≤ by146 := Nat.le_trans Zy143 bzy146
          have szy146 : h0.size ≤ by146 := Nat.le_trans Ky143.1 bzy146
          have CHy146 := CHy143.trans (CHr.keep Kcy146 all0 CHy143.1)
          have sfby140_y146 := Safe.keep Kcy146 all0 CHy143.1 sfby140_y143
          have Zy146 := Nat.le_trans Zy143 Kcy146.1
          have Ky146 := Ky143.trans Kcy146 all0
          refine FinW.step (sty146) ?_
          show FinW p e below s _ _ _ (Ty146.setTop (mkF m 228 #[.val (.long pd), .second, iv pq, iv zm, iv 0, rv va, rv cs, rv by140, u_, u_, u_, u_] [(.ref by146)]))
          refine FinW.step (fun _ k => Yo.astore Xy146.here hx (hb hby at_228) rfl rfl (l' := #[.val (.long pd), .second, iv pq, iv zm, iv 0, rv va, rv cs, rv by140, rv by146, u_, u_, u_]) rfl k) ?_
          have ry147 := (Sta_keepW (Sta_keepW (fy17_3.ext Ey140) Kcy143 (allS (nsE Ay140) all0)) Kcy146 all0)
          obtain ⟨_, Ty148, Lcy148, Xy148, hQy148, sty148⟩ := packS (Jvm.LawKit.callS Xy146 hx (y := n12) hown (mvT hZ (W_ hw 50)) (mvT hZ (W_ hw 51)) (mvT hZ (W_ hw 52)) (mvT hZ (W_ hw 53)) (by decide) (backOf (W := 0) (rmmo l Z a0 hw [] em Ty146.heap n0 Zy146 ry147) hZ (W_ hw 53) (W_ hw 52) (by decide) (by decide)) (g := (mkF m 230 #[.val (.long pd), .second, iv pq, iv zm, iv 0, rv va, rv cs, rv by140, rv by146, u_, u_, u_] [])) rfl (by rw [hml]; rfl) (argsL := []) (rest := []) (lenOf pd_30 rfl) rfl (lb rfl) (hb hby at_230) (fun _ _ => ⟨rfl, rfl, (by decide : 13 + 0 ≤ _), (by decide : 143 + 0 ≤ _)⟩))
          obtain ⟨rfl, Nqy148, eqy148⟩ := hQy148
          have Ny148 := Fr.app Ny146 Nqy148
          refine FinW.step (sty148) ?_
          show FinW p e below s _ _ _ (Ty148.setTop (mkF m 233 #[.val (.long pd), .second, iv pq, iv zm, iv 0, rv va, rv cs, rv by140, rv by146, u_, u_, u_] [(.ref em)]))
          refine FinW.step (fun _ k => Yo.astore Xy148.here hx (hb hby at_233) rfl rfl (l' := #[.val (.long pd), .second, iv pq, iv zm, iv 0, rv va, rv cs, rv by140, rv by146, rv em, u_, u_]) rfl k) ?_
          obtain ⟨Ty149, hy149, Xy149, ey149, Ey149, Ay149, Dy149, -, sty149⟩ := newO Xy148 hx hZ hown (W_ hw 56) (W_ hw 57) (W_ hw 58) eqy148 (g := (mkF m 235 #[.val (.long pd), .second, iv pq, iv zm, iv 0, rv va, rv cs, rv by140, rv by146, rv em, u_, u_] [])) rfl (hb hby at_235) (by decide) (by decide)
          obtain ⟨by149, gy149⟩ : ∃ z, z = Ty146.heap.size := ⟨_, rfl⟩
          rw [← gy149] at Ay149 Dy149 sty149
          have gzy149 : n0 ≤ by149 := Nat.le_trans Zy146 (Nat.le_of_eq gy149.symm)
          have szy149 : h0.size ≤ by149 := Nat.le_trans Ky146.1 (Nat.le_of_eq gy149.symm)
          have CHy149 := CHy146.trans (CHr.ext Ey149 CHy146.1)
          have sfby140_y149 := Safe.ext Ey149 CHy146.1 sfby140_y146
          have Zy149 := Nat.le_trans Zy146 Ey149.1
          have Ky149 := Ky146.ext Ey149
          have F_text_by149 : Fld Z hy149 by149 q0 "text" q8 .null := Dy149 (Or.inr (W_ hw 74)) (ty := (.object "java/lang/String")) (by decide)
          have F_namespaces_by149 : Fld Z hy149 by149 q0 "namespaces" q7 .null := Dy149 (Or.inr (W_ hw 76)) (ty := (.object "java/util/Map")) (by decide)
          have F_language_by149 : Fld Z hy149 by149 q0 "language" q8 .null := Dy149 (Or.inr (W_ hw 78)) (ty := (.object "java/lang/String")) (by decide)
          have F_line_by149 : Fld Z hy149 by149 q0 "line" "I" (.int 0) := Dy149 (Or.inr (W_ hw 80)) (ty := .int) (by decide)
          refine FinW.step (sty149) ?_
          show FinW p e below s _ _ _ (Ty149.setTop (mkF m 238 #[.val (.long pd), .second, iv pq, iv zm, iv 0, rv va, rv cs, rv by140, rv by146, rv em, u_, u_] [(.ref by149)]))
          refine FinW.step (fun _ k => Yo.dup Xy149.here hx (hb hby at_238) rfl rfl (Yo.aload Xy149.here hx (hb hby at_239) rfl rfl (Yo.aload Xy149.here hx (hb hby at_241) rfl rfl (Yo.aload Xy149.here hx (hb hby at_243) rfl rfl (Yo.iloadN Xy149.here hx (hb hby at_245) rfl k))))) ?_
          have ry150 := ((((fy17_4.ext Ey140).keep Kcy143).keep Kcy146).ext Ey149)
          have sfby149_y151 : Safe Z own_EL _ _ _ := Safe.exa hZ.alike Ay149 (by decide) (by decide)
          obtain ⟨_, Ty152, Lcy152, Xy152, hQy152, sty152⟩ := pack (Xy149.specialBack hx (y := n13) rfl hown (mvT hZ (W_ hw 59)) (mvT hZ (W_ hw 60)) (mvT hZ (W_ hw 61)) (by decide) (backOf (W := 1) (rmexR l Z a0 hw [] by149 by146 em by140 pq hy149 n0 Zy149 Ay149 F_text_by149 F_namespaces_by149 F_language_by149 F_line_by149 ry150 gzy149) hZ (W_ hw 61) (W_ hw 58) (by decide) (by decide)) (g := (mkF m 246 #[.val (.long pd), .second, iv pq, iv zm, iv 0, rv va, rv cs, rv by140, rv by146, rv em, u_, u_] [(.int pq), (.ref by140), (.ref em), (.ref by146), (.ref by149), (.ref by149)])) rfl (by rw [hml]; rfl) (Steps.refl _) (a := by149) (argsL := [(.ref by146), (.ref em), (.ref by140), (.int pq)]) (rest := [(.ref by149)]) (lenOf pd_31 rfl) rfl (lb rfl) (hb hby at_246) (fun _ _ => ⟨rfl, ey149, (by decide : 14 + 0 ≤ _), (by decide : 147 + 0 ≤ _)⟩))
          obtain ⟨rfl, Nqy152, Kcy152, fy152_0⟩ := hQy152
          have Ny152 := Fr.app Ny148 Nqy152
          have CHy152 := CHy149.trans (CHr.keep Kcy152 (allS sfby149_y151 all0) CHy149.1)
          have sfby140_y152 := Safe.keep Kcy152 (allS sfby149_y151 all0) CHy149.1 sfby140_y149
          have sfby149_y152 := Safe.keep Kcy152 (allS sfby149_y151 all0) CHy149.1 sfby149_y151
          have Zy152 := Nat.le_trans Zy149 Kcy152.1
          have Ky152 := Ky149.trans Kcy152 (allS (Or.inr szy149) all0)
          refine FinW.step (sty152) ?_
          show FinW p e below s _ _ _ (Ty152.setTop (mkF m 249 #[.val (.long pd), .second, iv pq, iv zm, iv 0, rv va, rv cs, rv by140, rv by146, rv em, u_, u_] [(.ref by149)]))
          refine FinW.step (fun _ k => Yo.astore Xy152.here hx (hb hby at_249) rfl rfl (l' := #[.val (.long pd), .second, iv pq, iv zm, iv 0, rv va, rv cs, rv by140, rv by146, rv em, rv by149, u_]) rfl (Yo.iload Xy152.here hx (hb hby at_251) rfl (Yo.ifNo Xy152.here hx (hb hby at_253) rfl ((if0 _ _).trans (teq ((by decide) : ((0 : Int32) = (0 : Int32)))).2) (Yo.aload Xy152.here hx (hb hby at_256) rfl rfl (Yo.iloadN Xy152.here hx (hb hby at_258) rfl (Yo.iconst Xy152.here hx (hb hby at_259) k)))))) ?_
          have ney153 := nlt (nsV fy17_0).lt (Nat.le_of_eq gy140.symm)
          have ney154 := nlt ((((nsV fy17_0).ext Ey140).keep Kcy143).keep Kcy146).lt (Nat.le_of_eq gy149.symm)
          have ry155 := (((((fy17_0.ext Ey140).keep Kcy143 (ninS ney153 nin0)).keep Kcy146 nin0).ext Ey149).keep Kcy152 (ninS ney154 nin0))
          obtain ⟨_, Ty156, Lcy156, Xy156, hQy156, sty156⟩ := packS (Jvm.LawKit.callS Xy152 hx (y := n16) hown (mvT hZ (W_ hw 81)) (mvT hZ (W_ hw 82)) (mvT hZ (W_ hw 3)) (mvT hZ (W_ hw 83)) (by decide) (backOf (W := 0) (rmm0 l Z a0 hw [] va zm kv (own_vl pd) Ty152.heap n0 Zy152 ry155 (own_vlc pd) hzm) hZ (W_ hw 83) (W_ hw 3) (by decide) (by decide)) (g := (mkF m 260 #[.val (.long pd), .second, iv pq, iv zm, iv 0, rv va, rv cs, rv by140, rv by146, rv em, rv by149, u_] [(.int 0), (.int zm), (.ref va)])) rfl (by rw [hml]; rfl) (argsL := [(.ref va), (.int zm), (.int 0)]) (rest := []) (lenOf pd_32 rfl) rfl (lb rfl) (hb hby at_260) (fun _ _ => ⟨rfl, rfl, (by decide : 14 + 0 ≤ _), (by decide : 147 + 0 ≤ _)⟩))
          obtain ⟨rfl, Nqy156, eqy156⟩ := hQy156
          have Ny156 := Fr.app Ny152 Nqy156
          refine FinW.step (sty156) ?_
          show FinW p e below s _ _ _ (Ty156.setTop (mkF m 263 #[.val (.long pd), .second, iv pq, iv zm, iv 0, rv va, rv cs, rv by140, rv by146, rv em, rv by149, u_] [(.int (own_mm (own_vl pd) zm (0 : Int32) (1 : Int32) (2 : Int32) (3 : Int32) (4 : Int32)))]))
          by_cases hcy157 : (own_mm (own_vl pd) zm (0 : Int32) (1 : Int32) (2 : Int32) (3 : Int32) (4 : Int32)) = (0 : Int32)
          · refine FinW.step (fun _ k => Yo.ifNo Xy156.here hx (hb hby at_263) rfl ((if0 _ _).trans (teq (hcy157 : ((own_mm (own_vl pd) zm (0 : Int32) (1 : Int32) (2 : Int32) (3 : Int32) (4 : Int32)) = (0 : Int32)))).2) (Yo.aload Xy156.here hx (hb hby at_266) rfl rfl (Yo.iloadN Xy156.here hx (hb hby at_268) rfl (Yo.iconst Xy156.here hx (hb hby at_269) k)))) ?_
            obtain ⟨_, Ty158, Lcy158, Xy158, hQy158, sty158⟩ := packS (Jvm.LawKit.callS Xy156 hx (y := n17) hown (mvT hZ (W_ hw 84)) (mvT hZ (W_ hw 85)) (mvT hZ (W_ hw 3)) (mvT hZ (W_ hw 86)) (by decide) (backOf (W := 0) (rmat l Z a0 hw [] va zm 0 kv (own_vl pd) Ty152.heap n0 Zy152 ry155 (own_vlc pd) hzm (by decide)) hZ (W_ hw 86) (W_ hw 3) (by decide) (by decide)) (g := (mkF m 270 #[.val (.long pd), .second, iv pq, iv zm, iv 0, rv va, rv cs, rv by140, rv by146, rv em, rv by149, u_] [(.int 0), (.int zm), (.ref va)])) rfl (by rw [hml]; rfl) (argsL := [(.ref va), (.int zm), (.int 0)]) (rest := []) (lenOf pd_4 rfl) rfl (lb rfl) (hb hby at_270) (fun _ _ => ⟨rfl, eqy156, (by decide : 14 + 0 ≤ _), (by decide : 147 + 0 ≤ _)⟩))
            obtain ⟨rfl, Nqy158, eqy158⟩ := hQy158
            have Ny158 := Fr.app Ny156 Nqy158
            refine FinW.step (sty158) ?_
            show FinW p e below s _ _ _ (Ty158.setTop (mkF m 273 #[.val (.long pd), .second, iv pq, iv zm, iv 0, rv va, rv cs, rv by140, rv by146, rv em, rv by149, u_] [(.int (own_at (own_vl pd) zm (0 : Int32)))]))
            obtain ⟨_, Ty159, Lcy159, Xy159, hQy159, sty159⟩ := packS (Jvm.LawKit.callS Xy158 hx (y := n19) hown (mvT hZ (W_ hw 90)) (mvT hZ (W_ hw 91)) (mvT hZ (W_ hw 3)) (mvT hZ (W_ hw 92)) (by decide) (backOf (W := 0) (rmws l Z a0 hw [] (own_at (own_vl pd) zm (0 : Int32)) Ty152.heap n0 Zy152 ) hZ (W_ hw 92) (W_ hw 3) (by decide) (by decide)) (g := (mkF m 273 #[.val (.long pd), .second, iv pq, iv zm, iv 0, rv va, rv cs, rv by140, rv by146, rv em, rv by149, u_] [(.int (own_at (own_vl pd) zm (0 : Int32)))])) rfl (by rw [hml]; rfl) (argsL := [(.int (own_at (own_vl pd) zm (0 : Int32)))]) (rest := []) (lenOf pd_13 rfl) rfl (lb rfl) (hb hby at_273) (fun _ _ => ⟨rfl, eqy158, (by decide : 14 + 0 ≤ _), (by decide : 147 + 0 ≤ _)⟩))
            obtain ⟨rfl, Nqy159, eqy159⟩ := hQy159
            have Ny159 := Fr.app Ny158 Nqy159
            refine FinW.step (sty159) ?_
            show FinW p e below s _ _ _ (Ty159.setTop (mkF m 276 #[.val (.long pd), .second, iv pq, iv zm, iv 0, rv va, rv cs, rv by140, rv by146, rv em, rv by149, u_] [(.int (own_ws (own_at (own_vl pd) zm (0 : Int32))))]))
            by_cases hcy160 : (own_ws (own_at (own_vl pd) zm (0 : Int32))) = (0 : Int32)
            · refine FinW.step (fun _ k => Yo.ifYes Xy159.here hx (pc0 := 276) (pc' := 289) rfl (hb hby at_276) rfl ((if0 _ _).trans (teq (hcy160 : ((own_ws (own_at (own_vl pd) zm (0 : Int32))) = (0 : Int32)))).1) (by decide) (by decide) (Yo.aload Xy159.here hx (hb hby at_289) rfl rfl (Yo.iloadN Xy159.here hx (hb hby at_291) rfl (Yo.iconst Xy159.here hx (hb hby at_292) k)))) ?_
              obtain ⟨_, Ty161, Lcy161, Xy161, hQy161, sty161⟩ := packS (Jvm.LawKit.callS Xy159 hx (y := n17) hown (mvT hZ (W_ hw 84)) (mvT hZ (W_ hw 85)) (mvT hZ (W_ hw 3)) (mvT hZ (W_ hw 86)) (by decide) (backOf (W := 0) (rmat l Z a0 hw [] va zm 0 kv (own_vl pd) Ty152.heap n0 Zy152 ry155 (own_vlc pd) hzm (by decide)) hZ (W_ hw 86) (W_ hw 3) (by decide) (by decide)) (g := (mkF m 293 #[.val (.long pd), .second, iv pq, iv zm, iv 0, rv va, rv cs, rv by140, rv by146, rv em, rv by149, u_] [(.int 0), (.int zm), (.ref va)])) rfl (by rw [hml]; rfl) (argsL := [(.ref va), (.int zm), (.int 0)]) (rest := []) (lenOf pd_4 rfl) rfl (lb rfl) (hb hby at_293) (fun _ _ => ⟨rfl, eqy159, (by decide : 14 + 0 ≤ _), (by decide : 147 + 0 ≤ _)⟩))
              obtain ⟨rfl, Nqy161, eqy161⟩ := hQy161
              have Ny161 := Fr.app Ny159 Nqy161
              refine FinW.step (sty161) ?_
              show FinW p e below s _ _ _ (Ty161.setTop (mkF m 296 #[.val (.long pd), .second, iv pq, iv zm, iv 0, rv va, rv cs, rv by140, rv by146, rv em, rv by149, u_] [(.int (own_at (own_vl pd) zm (0 : Int32)))]))
              obtain ⟨_, Ty162, Lcy162, Xy162, hQy162, sty162⟩ := packS (Jvm.LawKit.callS Xy161 hx (y := n19) hown (mvT hZ (W_ hw 90)) (mvT hZ (W_ hw 91)) (mvT hZ (W_ hw 3)) (mvT hZ (W_ hw 92)) (by decide) (backOf (W := 0) (rmws l Z a0 hw [] (own_at (own_vl pd) zm (0 : Int32)) Ty152.heap n0 Zy152 ) hZ (W_ hw 92) (W_ hw 3) (by decide) (by decide)) (g := (mkF m 296 #[.val (.long pd), .second, iv pq, iv zm, iv 0, rv va, rv cs, rv by140, rv by146, rv em, rv by149, u_] [(.int (own_at (own_vl pd) zm (0 : Int32)))])) rfl (by rw [hml]; rfl) (argsL := [(.int (own_at (own_vl pd) zm (0 : Int32)))]) (rest := []) (lenOf pd_13 rfl) rfl (lb rfl) (hb hby at_296) (fun _ _ => ⟨rfl, eqy161, (by decide : 14 + 0 ≤ _), (by decide : 147 + 0 ≤ _)⟩))
              obtain ⟨rfl, Nqy162, eqy162⟩ := hQy162
              have Ny162 := Fr.app Ny161 Nqy162
              refine FinW.step (sty162) ?_
              show FinW p e below s _ _ _ (Ty162.setTop (mkF m 299 #[.val (.long pd), .second, iv pq, iv zm, iv 0, rv va, rv cs, rv by140, rv by146, rv em, rv by149, u_] [(.int (own_ws (own_at (own_vl pd) zm (0 : Int32))))]))
              refine FinW.step (fun _ k => Yo.ifYes Xy162.here hx (pc0 := 299) (pc' := 329) rfl (hb hby at_299) rfl ((if0 _ _).trans (teq (hcy160 : ((own_ws (own_at (own_vl pd) zm (0 : Int32))) = (0 : Int32)))).1) (by decide) (by decide) (Yo.iconst Xy162.here hx (hb hby at_329) (Yo.istore Xy162.here hx (hb hby at_330) rfl (l' := #[.val (.long pd), .second, iv pq, iv zm, iv 0, rv va, rv cs, rv by140, rv by146, rv em, rv by149, iv 0]) rfl (Yo.aload Xy162.here hx (hb hby at_332) rfl rfl k)))) ?_
              have ry163 := ((((Ay140.keep Kcy143).keep Kcy146).ext Ey149).keep Kcy152)
              have ney164 := nlt ((Ay140.keep Kcy143).keep Kcy146).lt (Nat.le_of_eq gy149.symm)
              have ry165 := (((fy143_0.keep Kcy146 nin0).ext Ey149).keep Kcy152 (ninS ney164 nin0))
              have ry166 := (((fy143_1.keep Kcy146 nin0).ext Ey149).keep Kcy152 (ninS ney164 nin0))
              have ney167 := nlt ((nsV fy143_2).keep Kcy146).lt (Nat.le_of_eq gy149.symm)
              have ry168 := (((Vy144.keep Kcy146 nin0).ext Ey149).keep Kcy152 (ninS ney167 nin0))
              have ry169 := (Sta_keepW ((Sta_keepW (Sta_keepW (fy17_5.ext Ey140) Kcy143 (allS (nsE Ay140) all0)) Kcy146 all0).ext Ey149) Kcy152 (allS (nsE Ay149) all0))
              have ry170 := (((((fy17_6.ext Ey140).keep Kcy143).keep Kcy146).ext Ey149).keep Kcy152)
              have ry171 := (Sta_keepW ((Sta_keepW (Sta_keepW (fy17_7.ext Ey140) Kcy143 (allS (nsE Ay140) all0)) Kcy146 all0).ext Ey149) Kcy152 (allS (nsE Ay149) all0))
              have ney172 := nlt (nsV fy17_8).lt (Nat.le_of_eq gy140.symm)
              have ney173 := nlt ((((nsV fy17_8).ext Ey140).keep Kcy143).keep Kcy146).lt (Nat.le_of_eq gy149.symm)
              have ry174 := (((((fy17_8.ext Ey140).keep Kcy143 (ninS ney172 nin0)).keep Kcy146 nin0).ext Ey149).keep Kcy152 (ninS ney173 nin0))
              have ry175 := (Sta_keepW ((Sta_keepW ry145 Kcy146 all0).ext Ey149) Kcy152 (allS (nsE Ay149) all0))
              have hky177 := (Nat.le_trans (Nat.le_trans (Nat.le_trans (Nat.le_trans (Nat.le_trans (Nat.zero_le _) Ey140.1) Kcy143.1) Kcy146.1) Ey149.1) Kcy152.1)
              obtain ⟨cqy176, kqy176, qy176a, qy176b, qy176c⟩ := isOf hZ eqy162 (Ay149.keep Kcy152)
              obtain ⟨_, Ty176, Lcy176, Xy176, hSy176, hZ, hown, hQy176, CHcy176, sty176⟩ := packH (s := s) (vm0 := s.vm) ((State.WarmedH.refl s).since 0) (by rw [eqy162]; exact hky177) hZ hown (Jvm.Stand.virtualBackS Xy162 hx (y := n20) (z := n20) hown (mvT hZ (W_ hw 93)) (mvT hZ (W_ hw 94)) (notFace_of_selects (args := #[]) (mvT hZ (W_ hw 96))) (mvT hZ (W_ hw 96)) (mvT hZ (W_ hw 95)) (by decide) (backOfSH (s := s) (vm0 := s.vm) (W := 0) (rmxR l Z a0 hw [] by149 by140 nb_y143 kn_y143 zm _ ci aa kA wc (own_vl pd) Ty152.heap n0 Zy152 fy152_0 ry163 ry165 ry166 ry168 ry169 ry170 ry171 ry174 ry175 hwc hzm (own_wlc _ _ _) (own_wlg pd zm)) hZ (W_ hw 97) (W_ hw 58) (by decide) (by decide) hEL CHy152.1) qy176a qy176c (g := (mkF m 334 #[.val (.long pd), .second, iv pq, iv zm, iv 0, rv va, rv cs, rv by140, rv by146, rv em, rv by149, iv 0] [(.ref by149)])) rfl (by rw [hml]; rfl) (Steps.refl _) (argsL := []) (rest := []) (lenOf pd_19 rfl) rfl (lb rfl) (hb hby at_334) (fun _ _ => ⟨rfl, eqy162, (by decide : 14 + 4 ≤ _), (by decide : 147 + 36 ≤ _)⟩))
              replace hZ : Z.Warmed39 (s.setVm Ty176.vm).vm := hZ
              replace hown : (s.setVm Ty176.vm).vm.findClass q1 = some m.cls := hown
              obtain ⟨rfl, Nqy176, Kcy176⟩ := hQy176
              have Ny176 := Fr.app Ny162 Nqy176
              have sfby140_y176 := CHcy176.safe ry163.lt sfby140_y152
              have sfby149_y176 := CHcy176.safe (Ay149.keep Kcy152).lt sfby149_y152
              have CHy176 := CHy152.trans CHcy176
              have Zy176 := Nat.le_trans Zy152 Kcy176.1
              have Ky176 := Ky152.trans Kcy176 all0
              refine FinW.step (sty176) ?_
              show FinW p e below s _ _ _ (Ty176.setTop (mkF m 337 #[.val (.long pd), .second, iv pq, iv zm, iv 0, rv va, rv cs, rv by140, rv by146, rv em, rv by149, iv 0] [(.int (own_xp zm (own_vl pd)))]))
              refine FinW.step (fun _ k => Yo.iload Xy176.here hx (hb hby at_337) rfl (Yo.icmpNo Xy176.here hx (hb hby at_339) rfl (teq ((by rw [own_xp, if_pos hcy157, if_pos hcy160]) : ((own_xp zm (own_vl pd)) = (0 : Int32)))).2 (Yo.iconst Xy176.here hx (hb hby at_342) (Yo.goto Xy176.here hx (pc0 := 343) (pc' := 347) rfl (hb hby at_343) (by decide) (by decide) k)))) ?_
              refine FinW.retN Xy176 hSy176 (Nat.le_refl _) hx (t := .boolean) hret (by simp) hlk (hb hby at_347) (by decide) (by decide) ?_
              show Q0 Z pd pq wc em ci aa kA h0 n0 _ Ty176.heap _
              exact ⟨rfl, Ny176, Ky176⟩
            · refine FinW.step (fun _ k => Yo.ifNo Xy159.here hx (hb hby at_276) rfl ((if0 _ _).trans (feq (hcy160 : ¬ ((own_ws (own_at (own_vl pd) zm (0 : Int32))) = (0 : Int32)))).1) (Yo.aload Xy159.here hx (hb hby at_279) rfl rfl (Yo.iloadN Xy159.here hx (hb hby at_281) rfl (Yo.iconst Xy159.here hx (hb hby at_282) k)))) ?_
              obtain ⟨_, Ty178, Lcy178, Xy178, hQy178, sty178⟩ := packS (Jvm.LawKit.callS Xy159 hx (y := n16) hown (mvT hZ (W_ hw 81)) (mvT hZ (W_ hw 82)) (mvT hZ (W_ hw 3)) (mvT hZ (W_ hw 83)) (by decide) (backOf (W := 0) (rmm1 l Z a0 hw [] va zm kv (own_vl pd) Ty152.heap n0 Zy152 ry155 (own_vlc pd) hzm) hZ (W_ hw 83) (W_ hw 3) (by decide) (by decide)) (g := (mkF m 283 #[.val (.long pd), .second, iv pq, iv zm, iv 0, rv va, rv cs, rv by140, rv by146, rv em, rv by149, u_] [(.int 1), (.int zm), (.ref va)])) rfl (by rw [hml]; rfl) (argsL := [(.ref va), (.int zm), (.int 1)]) (rest := []) (lenOf pd_32 rfl) rfl (lb rfl) (hb hby at_283) (fun _ _ => ⟨rfl, eqy159, (by decide : 14 + 0 ≤ _), (by decide : 147 + 0 ≤ _)⟩))
              obtain ⟨rfl, Nqy178, eqy178⟩ := hQy178
              have Ny178 := Fr.app Ny159 Nqy178
              refine FinW.step (sty178) ?_
              show FinW p e below s _ _ _ (Ty178.setTop (mkF m 286 #[.val (.long pd), .second, iv pq, iv zm, iv 0, rv va, rv cs, rv by140, rv by146, rv em, rv by149, u_] [(.int (own_mm (own_vl pd) zm (1 : Int32) (2 : Int32) (3 : Int32) (4 : Int32) (5 : Int32)))]))
              by_cases hcy179 : (own_mm (own_vl pd) zm (1 : Int32) (2 : Int32) (3 : Int32) (4 : Int32) (5 : Int32)) = (0 : Int32)
              · refine FinW.step (fun _ k => Yo.ifNo Xy178.here hx (hb hby at_286) rfl ((if0 _ _).trans (teq (hcy179 : ((own_mm (own_vl pd) zm (1 : Int32) (2 : Int32) (3 : Int32) (4 : Int32) (5 : Int32)) = (0 : Int32)))).2) (Yo.aload Xy178.here hx (hb hby at_289) rfl rfl (Yo.iloadN Xy178.here hx (hb hby at_291) rfl (Yo.iconst Xy178.here hx (hb hby at_292) k)))) ?_
                obtain ⟨_, Ty180, Lcy180, Xy180, hQy180, sty180⟩ := packS (Jvm.LawKit.callS Xy178 hx (y := n17) hown (mvT hZ (W_ hw 84)) (mvT hZ (W_ hw 85)) (mvT hZ (W_ hw 3)) (mvT hZ (W_ hw 86)) (by decide) (backOf (W := 0) (rmat l Z a0 hw [] va zm 0 kv (own_vl pd) Ty152.heap n0 Zy152 ry155 (own_vlc pd) hzm (by decide)) hZ (W_ hw 86) (W_ hw 3) (by decide) (by decide)) (g := (mkF m 293 #[.val (.long pd), .second, iv pq, iv zm, iv 0, rv va, rv cs, rv by140, rv by146, rv em, rv by149, u_] [(.int 0), (.int zm), (.ref va)])) rfl (by rw [hml]; rfl) (argsL := [(.ref va), (.int zm), (.int 0)]) (rest := []) (lenOf pd_4 rfl) rfl (lb rfl) (hb hby at_293) (fun _ _ => ⟨rfl, eqy178, (by decide : 14 + 0 ≤ _), (by decide : 147 + 0 ≤ _)⟩))
                obtain ⟨rfl, Nqy180, eqy180⟩ := hQy180
                have Ny180 := Fr.app Ny178 Nqy180
                refine FinW.step (sty180) ?_
                show FinW p e below s _ _ _ (Ty180.setTop (mkF m 296 #[.val (.long pd), .second, iv pq, iv zm, iv 0, rv va, rv cs, rv by140, rv by146, rv em, rv by149, u_] [(.int (own_at (own_vl pd) zm (0 : Int32)))]))
                obtain ⟨_, Ty181, Lcy181, Xy181, hQy181, sty181⟩ := packS (Jvm.LawKit.callS Xy180 hx (y := n19) hown (mvT hZ (W_ hw 90)) (mvT hZ (W_ hw 91)) (mvT hZ (W_ hw 3)) (mvT hZ (W_ hw 92)) (by decide) (backOf (W := 0) (rmws l Z a0 hw [] (own_at (own_vl pd) zm (0 : Int32)) Ty152.heap n0 Zy152 ) hZ (W_ hw 92) (W_ hw 3) (by decide) (by decide)) (g := (mkF m 296 #[.val (.long pd), .second, iv pq, iv zm, iv 0, rv va, rv cs, rv by140, rv by146, rv em, rv by149, u_] [(.int (own_at (own_vl pd) zm (0 : Int32)))])) rfl (by rw [hml]; rfl) (argsL := [(.int (own_at (own_vl pd) zm (0 : Int32)))]) (rest := []) (lenOf pd_13 rfl) rfl (lb rfl) (hb hby at_296) (fun _ _ => ⟨rfl, eqy180, (by decide : 14 + 0 ≤ _), (by decide : 147 + 0 ≤ _)⟩))
                obtain ⟨rfl, Nqy181, eqy181⟩ := hQy181
                have Ny181 := Fr.app Ny180 Nqy181
                refine FinW.step (sty181) ?_
                show FinW p e below s _ _ _ (Ty181.setTop (mkF m 299 #[.val (.long pd), .second, iv pq, iv zm, iv 0, rv va, rv cs, rv by140, rv by146, rv em, rv by149, u_] [(.int (own_ws (own_at (own_vl pd) zm (0 : Int32))))]))
                refine FinW.step (fun _ k => Yo.ifNo Xy181.here hx (hb hby at_299) rfl ((if0 _ _).trans (feq (hcy160 : ¬ ((own_ws (own_at (own_vl pd) zm (0 : Int32))) = (0 : Int32)))).1) (Yo.aload Xy181.here hx (hb hby at_302) rfl rfl (Yo.iloadN Xy181.here hx (hb hby at_304) rfl (Yo.iconst Xy181.here hx (hb hby at_305) k)))) ?_
                obtain ⟨_, Ty182, Lcy182, Xy182, hQy182, sty182⟩ := packS (Jvm.LawKit.callS Xy181 hx (y := n17) hown (mvT hZ (W_ hw 84)) (mvT hZ (W_ hw 85)) (mvT hZ (W_ hw 3)) (mvT hZ (W_ hw 86)) (by decide) (backOf (W := 0) (rmat l Z a0 hw [] va zm 1 kv (own_vl pd) Ty152.heap n0 Zy152 ry155 (own_vlc pd) hzm (by decide)) hZ (W_ hw 86) (W_ hw 3) (by decide) (by decide)) (g := (mkF m 306 #[.val (.long pd), .second, iv pq, iv zm, iv 0, rv va, rv cs, rv by140, rv by146, rv em, rv by149, u_] [(.int 1), (.int zm), (.ref va)])) rfl (by rw [hml]; rfl) (argsL := [(.ref va), (.int zm), (.int 1)]) (rest := []) (lenOf pd_4 rfl) rfl (lb rfl) (hb hby at_306) (fun _ _ => ⟨rfl, eqy181, (by decide : 14 + 0 ≤ _), (by decide : 147 + 0 ≤ _)⟩))
                obtain ⟨rfl, Nqy182, eqy182⟩ := hQy182
                have Ny182 := Fr.app Ny181 Nqy182
                refine FinW.step (sty182) ?_
                show FinW p e below s _ _ _ (Ty182.setTop (mkF m 309 #[.val (.long pd), .second, iv pq, iv zm, iv 0, rv va, rv cs, rv by140, rv by146, rv em, rv by149, u_] [(.int (own_at (own_vl pd) zm (1 : Int32)))]))
                obtain ⟨_, Ty183, Lcy183, Xy183, hQy183, sty183⟩ := packS (Jvm.LawKit.callS Xy182 hx (y := n19) hown (mvT hZ (W_ hw 90)) (mvT hZ (W_ hw 91)) (mvT hZ (W_ hw 3)) (mvT hZ (W_ hw 92)) (by decide) (backOf (W := 0) (rmws l Z a0 hw [] (own_at (own_vl pd) zm (1 : Int32)) Ty152.heap n0 Zy152 ) hZ (W_ hw 92) (W_ hw 3) (by decide) (by decide)) (g := (mkF m 309 #[.val (.long pd), .second, iv pq, iv zm, iv 0, rv va, rv cs, rv by140, rv by146, rv em, rv by149, u_] [(.int (own_at (own_vl pd) zm (1 : Int32)))])) rfl (by rw [hml]; rfl) (argsL := [(.int (own_at (own_vl pd) zm (1 : Int32)))]) (rest := []) (lenOf pd_13 rfl) rfl (lb rfl) (hb hby at_309) (fun _ _ => ⟨rfl, eqy182, (by decide : 14 + 0 ≤ _), (by decide : 147 + 0 ≤ _)⟩))
                obtain ⟨rfl, Nqy183, eqy183⟩ := hQy183
                have Ny183 := Fr.app Ny182 Nqy183
                refine FinW.step (sty183) ?_
                show FinW p e below s _ _ _ (Ty183.setTop (mkF m 312 #[.val (.long pd), .second, iv pq, iv zm, iv 0, rv va, rv cs, rv by140, rv by146, rv em, rv by149, u_] [(.int (own_ws (own_at (own_vl pd) zm (1 : Int32))))]))
                by_cases hcy184 : (own_ws (own_at (own_vl pd) zm (1 : Int32))) = (0 : Int32)
                · refine FinW.step (fun _ k => Yo.ifYes Xy183.here hx (pc0 := 312) (pc' := 329) rfl (hb hby at_312) rfl ((if0 _ _).trans (teq (hcy184 : ((own_ws (own_at (own_vl pd) zm (1 : Int32))) = (0 : Int32)))).1) (by decide) (by decide) (Yo.iconst Xy183.here hx (hb hby at_329) (Yo.istore Xy183.here hx (hb hby at_330) rfl (l' := #[.val (.long pd), .second, iv pq, iv zm, iv 0, rv va, rv cs, rv by140, rv by146, rv em, rv by149, iv 0]) rfl (Yo.aload Xy183.here hx (hb hby at_332) rfl rfl k)))) ?_
                  have ry185 := ((((Ay140.keep Kcy143).keep Kcy146).ext Ey149).keep Kcy152)
                  have ney186 := nlt ((Ay140.keep Kcy143).keep Kcy146).lt (Nat.le_of_eq gy149.symm)
                  have ry187 := (((fy143_0.keep Kcy146 nin0).ext Ey149).keep Kcy152 (ninS ney186 nin0))
                  have ry188 := (((fy143_1.keep Kcy146 nin0).ext Ey149).keep Kcy152 (ninS ney186 nin0))
                  have ney189 := nlt ((nsV fy143_2).keep Kcy146).lt (Nat.le_of_eq gy149.symm)
                  have ry190 := (((Vy144.keep Kcy146 nin0).ext Ey149).keep Kcy152 (ninS ney189 nin0))
                  have ry191 := (Sta_keepW ((Sta_keepW (Sta_keepW (fy17_5.ext Ey140) Kcy143 (allS (nsE Ay140) all0)) Kcy146 all0).ext Ey149) Kcy152 (allS (nsE Ay149) all0))
                  have ry192 := (((((fy17_6.ext Ey140).keep Kcy143).keep Kcy146).ext Ey149).keep Kcy152)
                  have ry193 := (Sta_keepW ((Sta_keepW (Sta_keepW (fy17_7.ext Ey140) Kcy143 (allS (nsE Ay140) all0)) Kcy146 all0).ext Ey149) Kcy152 (allS (nsE Ay149) all0))
                  have ney194 := nlt (nsV fy17_8).lt (Nat.le_of_eq gy140.symm)
                  have ney195 := nlt ((((nsV fy17_8).ext Ey140).keep Kcy143).keep Kcy146).lt (Nat.le_of_eq gy149.symm)
                  have ry196 := (((((fy17_8.ext Ey140).keep Kcy143 (ninS ney194 nin0)).keep Kcy146 nin0).ext Ey149).keep Kcy152 (ninS ney195 nin0))
                  have ry197 := (Sta_keepW ((Sta_keepW ry145 Kcy146 all0).ext Ey149) Kcy152 (allS (nsE Ay149) all0))
                  have hky199 := (Nat.le_trans (Nat.le_trans (Nat.le_trans (Nat.le_trans (Nat.le_trans (Nat.zero_le _) Ey140.1) Kcy143.1) Kcy146.1) Ey149.1) Kcy152.1)
                  obtain ⟨cqy198, kqy198, qy198a, qy198b, qy198c⟩ := isOf hZ eqy183 (Ay149.keep Kcy152)
                  obtain ⟨_, Ty198, Lcy198, Xy198, hSy198, hZ, hown, hQy198, CHcy198, sty198⟩ := packH (s := s) (vm0 := s.vm) ((State.WarmedH.refl s).since 0) (by rw [eqy183]; exact hky199) hZ hown (Jvm.Stand.virtualBackS Xy183 hx (y := n20) (z := n20) hown (mvT hZ (W_ hw 93)) (mvT hZ (W_ hw 94)) (notFace_of_selects (args := #[]) (mvT hZ (W_ hw 96))) (mvT hZ (W_ hw 96)) (mvT hZ (W_ hw 95)) (by decide) (backOfSH (s := s) (vm0 := s.vm) (W := 0) (rmxR l Z a0 hw [] by149 by140 nb_y143 kn_y143 zm _ ci aa kA wc (own_vl pd) Ty152.heap n0 Zy152 fy152_0 ry185 ry187 ry188 ry190 ry191 ry192 ry193 ry196 ry197 hwc hzm (own_wlc _ _ _) (own_wlg pd zm)) hZ (W_ hw 97) (W_ hw 58) (by decide) (by decide) hEL CHy152.1) qy198a qy198c (g := (mkF m 334 #[.val (.long pd), .second, iv pq, iv zm, iv 0, rv va, rv cs, rv by140, rv by146, rv em, rv by149, iv 0] [(.ref by149)])) rfl (by rw [hml]; rfl) (Steps.refl _) (argsL := []) (rest := []) (lenOf pd_19 rfl) rfl (lb rfl) (hb hby at_334) (fun _ _ => ⟨rfl, eqy183, (by decide : 14 + 4 ≤ _), (by decide : 147 + 36 ≤ _)⟩))
                  replace hZ : Z.Warmed39 (s.setVm Ty198.vm).vm := hZ
                  replace hown : (s.setVm Ty198.vm).vm.findClass q1 = some m.cls := hown
                  obtain ⟨rfl, Nqy198, Kcy198⟩ := hQy198
                  have Ny198 := Fr.app Ny183 Nqy198
                  have sfby140_y198 := CHcy198.safe ry185.lt sfby140_y152
                  have sfby149_y198 := CHcy198.safe (Ay149.keep Kcy152).lt sfby149_y152
                  have CHy198 := CHy152.trans CHcy198
                  have Zy198 := Nat.le_trans Zy152 Kcy198.1
                  have Ky198 := Ky152.trans Kcy198 all0
                  refine FinW.step (sty198) ?_
                  show FinW p e below s _ _ _ (Ty198.setTop (mkF m 337 #[.val (.long pd), .second, iv pq, iv zm, iv 0, rv va, rv cs, rv by140, rv by146, rv em, rv by149, iv 0] [(.int (own_xp zm (own_vl pd)))]))
                  refine FinW.step (fun _ k => Yo.iload Xy198.here hx (hb hby at_337) rfl (Yo.icmpNo Xy198.here hx (hb hby at_339) rfl (teq ((by rw [own_xp, if_pos hcy157, if_neg hcy160, if_pos hcy179, if_pos hcy184]) : ((own_xp zm (own_vl pd)) = (0 : Int32)))).2 (Yo.iconst Xy198.here hx (hb hby at_342) (Yo.goto Xy198.here hx (pc0 := 343) (pc' := 347) rfl (hb hby at_343) (by decide) (by decide) k)))) ?_
                  refine FinW.retN Xy198 hSy198 (Nat.le_refl _) hx (t := .boolean) hret (by simp) hlk (hb hby at_347) (by decide) (by decide) ?_
                  show Q0 Z pd pq wc em ci aa kA h0 n0 _ Ty198.heap _
                  exact ⟨rfl, Ny198, Ky198⟩
                · refine FinW.step (fun _ k => Yo.ifNo Xy183.here hx (hb hby at_312) rfl ((if0 _ _).trans (feq (hcy184 : ¬ ((own_ws (own_at (own_vl pd) zm (1 : Int32))) = (0 : Int32)))).1) (Yo.aload Xy183.here hx (hb hby at_315) rfl rfl (Yo.iloadN Xy183.here hx (hb hby at_317) rfl (Yo.iconst Xy183.here hx (hb hby at_318) k)))) ?_
                  obtain ⟨_, Ty200, Lcy200, Xy200, hQy200, sty200⟩ := packS (Jvm.LawKit.callS Xy183 hx (y := n16) hown (mvT hZ (W_ hw 81)) (mvT hZ (W_ hw 82)) (mvT hZ (W_ hw 3)) (mvT hZ (W_ hw 83)) (by decide) (backOf (W := 0) (rmm2 l Z a0 hw [] va zm kv (own_vl pd) Ty152.heap n0 Zy152 ry155 (own_vlc pd) hzm) hZ (W_ hw 83) (W_ hw 3) (by decide) (by decide)) (g := (mkF m 319 #[.val (.long pd), .second, iv pq, iv zm, iv 0, rv va, rv cs, rv by140, rv by146, rv em, rv by149, u_] [(.int 2), (.int zm), (.ref va)])) rfl (by rw [hml]; rfl) (argsL := [(.ref va), (.int zm), (.int 2)]) (rest := []) (lenOf pd_32 rfl) rfl (lb rfl) (hb hby at_319) (fun _ _ => ⟨rfl, eqy183, (by decide : 14 + 0 ≤ _), (by decide : 147 + 0 ≤ _)⟩))
                  obtain ⟨rfl, Nqy200, eqy200⟩ := hQy200
                  have Ny200 := Fr.app Ny183 Nqy200
                  refine FinW.step (sty200) ?_
                  show FinW p e below s _ _ _ (Ty200.setTop (mkF m 322 #[.val (.long pd), .second, iv pq, iv zm, iv 0, rv va, rv cs, rv by140, rv by146, rv em, rv by149, u_] [(.int (own_mm (own_vl pd) zm (2 : Int32) (3 : Int32) (4 : Int32) (5 : Int32) (6 : Int32)))]))
                  by_cases hcy201 : (own_mm (own_vl pd) zm (2 : Int32) (3 : Int32) (4 : Int32) (5 : Int32) (6 : Int32)) = (0 : Int32)
                  · refine FinW.step (fun _ k => Yo.ifYes Xy200.here hx (pc0 := 322) (pc' := 329) rfl (hb hby at_322) rfl ((if0 _ _).trans (teq (hcy201 : ((own_mm (own_vl pd) zm (2 : Int32) (3 : Int32) (4 : Int32) (5 : Int32) (6 : Int32)) = (0 : Int32)))).1) (by decide) (by decide) (Yo.iconst Xy200.here hx (hb hby at_329) (Yo.istore Xy200.here hx (hb hby at_330) rfl (l' := #[.val (.long pd), .second, iv pq, iv zm, iv 0, rv va, rv cs, rv by140, rv by146, rv em, rv by149, iv 0]) rfl (Yo.aload Xy200.here hx (hb hby at_332) rfl rfl k)))) ?_
                    have ry202 := ((((Ay140.keep Kcy143).keep Kcy146).ext Ey149).keep Kcy152)
                    have ney203 := nlt ((Ay140.keep Kcy143).keep Kcy146).lt (Nat.le_of_eq gy149.symm)
                    have ry204 := (((fy143_0.keep Kcy146 nin0).ext Ey149).keep Kcy152 (ninS ney203 nin0))
                    have ry205 := (((fy143_1.keep Kcy146 nin0).ext Ey149).keep Kcy152 (ninS ney203 nin0))
                    have ney206 := nlt ((nsV fy143_2).keep Kcy146).lt (Nat.le_of_eq gy149.symm)
                    have ry207 := (((Vy144.keep Kcy146 nin0).ext Ey149).keep Kcy152 (ninS ney206 nin0))
                    have ry208 := (Sta_keepW ((Sta_keepW (Sta_keepW (fy17_5.ext Ey140) Kcy143 (allS (nsE Ay140) all0)) Kcy146 all0).ext Ey149) Kcy152 (allS (nsE Ay149) all0))
                    have ry209 := (((((fy17_6.ext Ey140).keep Kcy143).keep Kcy146).ext Ey149).keep Kcy152)
                    have ry210 := (Sta_keepW ((Sta_keepW (Sta_keepW (fy17_7.ext Ey140) Kcy143 (allS (nsE Ay140) all0)) Kcy146 all0).ext Ey149) Kcy152 (allS (nsE Ay149) all0))
                    have ney211 := nlt (nsV fy17_8).lt (Nat.le_of_eq gy140.symm)
                    have ney212 := nlt ((((nsV fy17_8).ext Ey140).keep Kcy143).keep Kcy146).lt (Nat.le_of_eq gy149.symm)
                    have ry213 := (((((fy17_8.ext Ey140).keep Kcy143 (ninS ney211 nin0)).keep Kcy146 nin0).ext Ey149).keep Kcy152 (ninS ney212 nin0))
                    have ry214 := (Sta_keepW ((Sta_keepW ry145 Kcy146 all0).ext Ey149) Kcy152 (allS (nsE Ay149) all0))
                    have hky216 := (Nat.le_trans (Nat.le_trans (Nat.le_trans (Nat.le_trans (Nat.le_trans (Nat.zero_le _) Ey140.1) Kcy143.1) Kcy146.1) Ey149.1) Kcy152.1)
                    obtain ⟨cqy215, kqy215, qy215a, qy215b, qy215c⟩ := isOf hZ eqy200 (Ay149.keep Kcy152)
                    obtain ⟨_, Ty215, Lcy215, Xy215, hSy215, hZ, hown, hQy215, CHcy215, sty215⟩ := packH (s := s) (vm0 := s.vm) ((State.WarmedH.refl s).since 0) (by rw [eqy200]; exact hky216) hZ hown (Jvm.Stand.virtualBackS Xy200 hx (y := n20) (z := n20) hown (mvT hZ (W_ hw 93)) (mvT hZ (W_ hw 94)) (notFace_of_selects (args := #[]) (mvT hZ (W_ hw 96))) (mvT hZ (W_ hw 96)) (mvT hZ (W_ hw 95)) (by decide) (backOfSH (s := s) (vm0 := s.vm) (W := 0) (rmxR l Z a0 hw [] by149 by140 nb_y143 kn_y143 zm _ ci aa kA wc (own_vl pd) Ty152.heap n0 Zy152 fy152_0 ry202 ry204 ry205 ry207 ry208 ry209 ry210 ry213 ry214 hwc hzm (own_wlc _ _ _) (own_wlg pd zm)) hZ (W_ hw 97) (W_ hw 58) (by decide) (by decide) hEL CHy152.1) qy215a qy215c (g := (mkF m 334 #[.val (.long pd), .second, iv pq, iv zm, iv 0, rv va, rv cs, rv by140, rv by146, rv em, rv by149, iv 0] [(.ref by149)])) rfl (by rw [hml]; rfl) (Steps.refl _) (argsL := []) (rest := []) (lenOf pd_19 rfl) rfl (lb rfl) (hb hby at_334) (fun _ _ => ⟨rfl, eqy200, (by decide : 14 + 4 ≤ _), (by decide : 147 + 36 ≤ _)⟩))
                    replace hZ : Z.Warmed39 (s.setVm Ty215.vm).vm := hZ
                    replace hown : (s.setVm Ty215.vm).vm.findClass q1 = some m.cls := hown
                    obtain ⟨rfl, Nqy215, Kcy215⟩ := hQy215
                    have Ny215 := Fr.app Ny200 Nqy215
                    have sfby140_y215 := CHcy215.safe ry202.lt sfby140_y152
                    have sfby149_y215 := CHcy215.safe (Ay149.keep Kcy152).lt sfby149_y152
                    have CHy215 := CHy152.trans CHcy215
                    have Zy215 := Nat.le_trans Zy152 Kcy215.1
                    have Ky215 := Ky152.trans Kcy215 all0
                    refine FinW.step (sty215) ?_
                    show FinW p e below s _ _ _ (Ty215.setTop (mkF m 337 #[.val (.long pd), .second, iv pq, iv zm, iv 0, rv va, rv cs, rv by140, rv by146, rv em, rv by149, iv 0] [(.int (own_xp zm (own_vl pd)))]))
                    refine FinW.step (fun _ k => Yo.iload Xy215.here hx (hb hby at_337) rfl (Yo.icmpNo Xy215.here hx (hb hby at_339) rfl (teq ((by rw [own_xp, if_pos hcy157, if_neg hcy160, if_pos hcy179, if_neg hcy184, if_pos hcy201]) : ((own_xp zm (own_vl pd)) = (0 : Int32)))).2 (Yo.iconst Xy215.here hx (hb hby at_342) (Yo.goto Xy215.here hx (pc0 := 343) (pc' := 347) rfl (hb hby at_343) (by decide) (by decide) k)))) ?_
                    refine FinW.retN Xy215 hSy215 (Nat.le_refl _) hx (t := .boolean) hret (by simp) hlk (hb hby at_347) (by decide) (by decide) ?_
                    show Q0 Z pd pq wc em ci aa kA h0 n0 _ Ty215.heap _
                    exact ⟨rfl, Ny215, Ky215⟩
                  · refine FinW.step (fun _ k => Yo.ifNo Xy200.here hx (hb hby at_322) rfl ((if0 _ _).trans (feq (hcy201 : ¬ ((own_mm (own_vl pd) zm (2 : Int32) (3 : Int32) (4 : Int32) (5 : Int32) (6 : Int32)) = (0 : Int32)))).1) (Yo.iconst Xy200.here hx (hb hby at_325) (Yo.goto Xy200.here hx (pc0 := 326) (pc' := 330) rfl (hb hby at_326) (by decide) (by decide) (Yo.istore Xy200.here hx (hb hby at_330) rfl (l' := #[.val (.long pd), .second, iv pq, iv zm, iv 0, rv va, rv cs, rv by140, rv by146, rv em, rv by149, iv 1]) rfl (Yo.aload Xy200.here hx (hb hby at_332) rfl rfl k))))) ?_
                    have ry217 := ((((Ay140.keep Kcy143).keep Kcy146).ext Ey149).keep Kcy152)
                    have ney218 := nlt ((Ay140.keep Kcy143).keep Kcy146).lt (Nat.le_of_eq gy149.symm)
                    have ry219 := (((fy143_0.keep Kcy146 nin0).ext Ey149).keep Kcy152 (ninS ney218 nin0))
                    have ry220 := (((fy143_1.keep Kcy146 nin0).ext Ey149).keep Kcy152 (ninS ney218 nin0))
                    have ney221 := nlt ((nsV fy143_2).keep Kcy146).lt (Nat.le_of_eq gy149.symm)
                    have ry222 := (((Vy144.keep Kcy146 nin0).ext Ey149).keep Kcy152 (ninS ney221 nin0))
                    have ry223 := (Sta_keepW ((Sta_keepW (Sta_keepW (fy17_5.ext Ey140) Kcy143 (allS (nsE Ay140) all0)) Kcy146 all0).ext Ey149) Kcy152 (allS (nsE Ay149) all0))
                    have ry224 := (((((fy17_6.ext Ey140).keep Kcy143).keep Kcy146).ext Ey149).keep Kcy152)
                    have ry225 := (Sta_keepW ((Sta_keepW (Sta_keepW (fy17_7.ext Ey140) Kcy143 (allS (nsE Ay140) all0)) Kcy146 all0).ext Ey149) Kcy152 (allS (nsE Ay149) all0))
                    have ney226 := nlt (nsV fy17_8).lt (Nat.le_of_eq gy140.symm)
                    have ney227 := nlt ((((nsV fy17_8).ext Ey140).keep Kcy143).keep Kcy146).lt (Nat.le_of_eq gy149.symm)
                    have ry228 := (((((fy17_8.ext Ey140).keep Kcy143 (ninS ney226 nin0)).keep Kcy146 nin0).ext Ey149).keep Kcy152 (ninS ney227 nin0))
                    have ry229 := (Sta_keepW ((Sta_keepW ry145 Kcy146 all0).ext Ey149) Kcy152 (allS (nsE Ay149) all0))
                    have hky231 := (Nat.le_trans (Nat.le_trans (Nat.le_trans (Nat.le_trans (Nat.le_trans (Nat.zero_le _) Ey140.1) Kcy143.1) Kcy146.1) Ey149.1) Kcy152.1)
                    obtain ⟨cqy230, kqy230, qy230a, qy230b, qy230c⟩ := isOf hZ eqy200 (Ay149.keep Kcy152)
                    obtain ⟨_, Ty230, Lcy230, Xy230, hSy230, hZ, hown, hQy230, CHcy230, sty230⟩ := packH (s := s) (vm0 := s.vm) ((State.WarmedH.refl s).since 0) (by rw [eqy200]; exact hky231) hZ hown (Jvm.Stand.virtualBackS Xy200 hx (y := n20) (z := n20) hown (mvT hZ (W_ hw 93)) (mvT hZ (W_ hw 94)) (notFace_of_selects (args := #[]) (mvT hZ (W_ hw 96))) (mvT hZ (W_ hw 96)) (mvT hZ (W_ hw 95)) (by decide) (backOfSH (s := s) (vm0 := s.vm) (W := 0) (rmxR l Z a0 hw [] by149 by140 nb_y143 kn_y143 zm _ ci aa kA wc (own_vl pd) Ty152.heap n0 Zy152 fy152_0 ry217 ry219 ry220 ry222 ry223 ry224 ry225 ry228 ry229 hwc hzm (own_wlc _ _ _) (own_wlg pd zm)) hZ (W_ hw 97) (W_ hw 58) (by decide) (by decide) hEL CHy152.1) qy230a qy230c (g := (mkF m 334 #[.val (.long pd), .second, iv pq, iv zm, iv 0, rv va, rv cs, rv by140, rv by146, rv em, rv by149, iv 1] [(.ref by149)])) rfl (by rw [hml]; rfl) (Steps.refl _) (argsL := []) (rest := []) (lenOf pd_19 rfl) rfl (lb rfl) (hb hby at_334) (fun _ _ => ⟨rfl, eqy200, (by decide : 14 + 4 ≤ _), (by decide : 147 + 36 ≤ _)⟩))
                    replace hZ : Z.Warmed39 (s.setVm Ty230.vm).vm := hZ
                    replace hown : (s.setVm Ty230.vm).vm.findClass q1 = some m.cls := hown
                    obtain ⟨rfl, Nqy230, Kcy230⟩ := hQy230
                    have Ny230 := Fr.app Ny200 Nqy230
                    have sfby140_y230 := CHcy230.safe ry217.lt sfby140_y152
                    have sfby149_y230 := CHcy230.safe (Ay149.keep Kcy152).lt sfby149_y152
                    have CHy230 := CHy152.trans CHcy230
                    have Zy230 := Nat.le_trans Zy152 Kcy230.1
                    have Ky230 := Ky152.trans Kcy230 all0
                    refine FinW.step (sty230) ?_
                    show FinW p e below s _ _ _ (Ty230.setTop (mkF m 337 #[.val (.long pd), .second, iv pq, iv zm, iv 0, rv va, rv cs, rv by140, rv by146, rv em, rv by149, iv 1] [(.int (own_xp zm (own_vl pd)))]))
                    refine FinW.step (fun _ k => Yo.iload Xy230.here hx (hb hby at_337) rfl (Yo.icmpNo Xy230.here hx (hb hby at_339) rfl (teq ((by rw [own_xp, if_pos hcy157, if_neg hcy160, if_pos hcy179, if_neg hcy184, if_neg hcy201]) : ((own_xp zm (own_vl pd)) = (1 : Int32)))).2 (Yo.iconst Xy230.here hx (hb hby at_342) (Yo.goto Xy230.here hx (pc0 := 343) (pc' := 347) rfl (hb hby at_343) (by decide) (by decide) k)))) ?_
                    refine FinW.retN Xy230 hSy230 (Nat.le_refl _) hx (t := .boolean) hret (by simp) hlk (hb hby at_347) (by decide) (by decide) ?_
                    show Q0 Z pd pq wc em ci aa kA h0 n0 _ Ty230.heap _
                    exact ⟨rfl, Ny230, Ky230⟩
              · refine FinW.step (fun _ k => Yo.ifYes Xy178.here hx (pc0 := 286) (pc' := 325) rfl (hb hby at_286) rfl ((if0 _ _).trans (feq (hcy179 : ¬ ((own_mm (own_vl pd) zm (1 : Int32) (2 : Int32) (3 : Int32) (4 : Int32) (5 : Int32)) = (0 : Int32)))).2) (by decide) (by decide) (Yo.iconst Xy178.here hx (hb hby at_325) (Yo.goto Xy178.here hx (pc0 := 326) (pc' := 330) rfl (hb hby at_326) (by decide) (by decide) (Yo.istore Xy178.here hx (hb hby at_330) rfl (l' := #[.val (.long pd), .second, iv pq, iv zm, iv 0, rv va, rv cs, rv by140, rv by146, rv em, rv by149, iv 1]) rfl (Yo.aload Xy178.here hx (hb hby at_332) rfl rfl k))))) ?_
                have ry232 := ((((Ay140.keep Kcy143).keep Kcy146).ext Ey149).keep Kcy152)
                have ney233 := nlt ((Ay140.keep Kcy143).keep Kcy146).lt (Nat.le_of_eq gy149.symm)
                have ry234 := (((fy143_0.keep Kcy146 nin0).ext Ey149).keep Kcy152 (ninS ney233 nin0))
                have ry235 := (((fy143_1.keep Kcy146 nin0).ext Ey149).keep Kcy152 (ninS ney233 nin0))
                have ney236 := nlt ((nsV fy143_2).keep Kcy146).lt (Nat.le_of_eq gy149.symm)
                have ry237 := (((Vy144.keep Kcy146 nin0).ext Ey149).keep Kcy152 (ninS ney236 nin0))
                have ry238 := (Sta_keepW ((Sta_keepW (Sta_keepW (fy17_5.ext Ey140) Kcy143 (allS (nsE Ay140) all0)) Kcy146 all0).ext Ey149) Kcy152 (allS (nsE Ay149) all0))
                have ry239 := (((((fy17_6.ext Ey140).keep Kcy143).keep Kcy146).ext Ey149).keep Kcy152)
                have ry240 := (Sta_keepW ((Sta_keepW (Sta_keepW (fy17_7.ext Ey140) Kcy143 (allS (nsE Ay140) all0)) Kcy146 all0).ext Ey149) Kcy152 (allS (nsE Ay149) all0))
                have ney241 := nlt (nsV fy17_8).lt (Nat.le_of_eq gy140.symm)
                have ney242 := nlt ((((nsV fy17_8).ext Ey140).keep Kcy143).keep Kcy146).lt (Nat.le_of_eq gy149.symm)
                have ry243 := (((((fy17_8.ext Ey140).keep Kcy143 (ninS ney241 nin0)).keep Kcy146 nin0).ext Ey149).keep Kcy152 (ninS ney242 nin0))
                have ry244 := (Sta_keepW ((Sta_keepW ry145 Kcy146 all0).ext Ey149) Kcy152 (allS (nsE Ay149) all0))
                have hky246 := (Nat.le_trans (Nat.le_trans (Nat.le_trans (Nat.le_trans (Nat.le_trans (Nat.zero_le _) Ey140.1) Kcy143.1) Kcy146.1) Ey149.1) Kcy152.1)
                obtain ⟨cqy245, kqy245, qy245a, qy245b, qy245c⟩ := isOf hZ eqy178 (Ay149.keep Kcy152)
                obtain ⟨_, Ty245, Lcy245, Xy245, hSy245, hZ, hown, hQy245, CHcy245, sty245⟩ := packH (s := s) (vm0 := s.vm) ((State.WarmedH.refl s).since 0) (by rw [eqy178]; exact hky246) hZ hown (Jvm.Stand.virtualBackS Xy178 hx (y := n20) (z := n20) hown (mvT hZ (W_ hw 93)) (mvT hZ (W_ hw 94)) (notFace_of_selects (args := #[]) (mvT hZ (W_ hw 96))) (mvT hZ (W_ hw 96)) (mvT hZ (W_ hw 95)) (by decide) (backOfSH (s := s) (vm0 := s.vm) (W := 0) (rmxR l Z a0 hw [] by149 by140 nb_y143 kn_y143 zm _ ci aa kA wc (own_vl pd) Ty152.heap n0 Zy152 fy152_0 ry232 ry234 ry235 ry237 ry238 ry239 ry240 ry243 ry244 hwc hzm (own_wlc _ _ _) (own_wlg pd zm)) hZ (W_ hw 97) (W_ hw 58) (by decide) (by decide) hEL CHy152.1) qy245a qy245c (g := (mkF m 334 #[.val (.long pd), .second, iv pq, iv zm, iv 0, rv va, rv cs, rv by140, rv by146, rv em, rv by149, iv 1] [(.ref by149)])) rfl (by rw [hml]; rfl) (Steps.refl _) (argsL := []) (rest := []) (lenOf pd_19 rfl) rfl (lb rfl) (hb hby at_334) (fun _ _ => ⟨rfl, eqy178, (by decide : 14 + 4 ≤ _), (by decide : 147 + 36 ≤ _)⟩))
                replace hZ : Z.Warmed39 (s.setVm Ty245.vm).vm := hZ
                replace hown : (s.setVm Ty245.vm).vm.findClass q1 = some m.cls := hown
                obtain ⟨rfl, Nqy245, Kcy245⟩ := hQy245
                have Ny245 := Fr.app Ny178 Nqy245
                have sfby140_y245 := CHcy245.safe ry232.lt sfby140_y152
                have sfby149_y245 := CHcy245.safe (Ay149.keep Kcy152).lt sfby149_y152
                have CHy245 := CHy152.trans CHcy245
                have Zy245 := Nat.le_trans Zy152 Kcy245.1
                have Ky245 := Ky152.trans Kcy245 all0
                refine FinW.step (sty245) ?_
                show FinW p e below s _ _ _ (Ty245.setTop (mkF m 337 #[.val (.long pd), .second, iv pq, iv zm, iv 0, rv va, rv cs, rv by140, rv by146, rv em, rv by149, iv 1] [(.int (own_xp zm (own_vl pd)))]))
                refine FinW.step (fun _ k => Yo.iload Xy245.here hx (hb hby at_337) rfl (Yo.icmpNo Xy245.here hx (hb hby at_339) rfl (teq ((by rw [own_xp, if_pos hcy157, if_neg hcy160, if_neg hcy179]) : ((own_xp zm (own_vl pd)) = (1 : Int32)))).2 (Yo.iconst Xy245.here hx (hb hby at_342) (Yo.goto Xy245.here hx (pc0 := 343) (pc' := 347) rfl (hb hby at_343) (by decide) (by decide) k)))) ?_
                refine FinW.retN Xy245 hSy245 (Nat.le_refl _) hx (t := .boolean) hret (by simp) hlk (hb hby at_347) (by decide) (by decide) ?_
                show Q0 Z pd pq wc em ci aa kA h0 n0 _ Ty245.heap _
                exact ⟨rfl, Ny245, Ky245⟩
          · refine FinW.step (fun _ k => Yo.ifYes Xy156.here hx (pc0 := 263) (pc' := 325) rfl (hb hby at_263) rfl ((if0 _ _).trans (feq (hcy157 : ¬ ((own_mm (own_vl pd) zm (0 : Int32) (1 : Int32) (2 : Int32) (3 : Int32) (4 : Int32)) = (0 : Int32)))).2) (by decide) (by decide) (Yo.iconst Xy156.here hx (hb hby at_325) (Yo.goto Xy156.here hx (pc0 := 326) (pc' := 330) rfl (hb hby at_326) (by decide) (by decide) (Yo.istore Xy156.here hx (hb hby at_330) rfl (l' := #[.val (.long pd), .second, iv pq, iv zm, iv 0, rv va, rv cs, rv by140, rv by146, rv em, rv by149, iv 1]) rfl (Yo.aload Xy156.here hx (hb hby at_332) rfl rfl k))))) ?_
            have ry247 := ((((Ay140.keep Kcy143).keep Kcy146).ext Ey149).keep Kcy152)
            have ney248 := nlt ((Ay140.keep Kcy143).keep Kcy146).lt (Nat.le_of_eq gy149.symm)
            have ry249 := (((fy143_0.keep Kcy146 nin0).ext Ey149).keep Kcy152 (ninS ney248 nin0))
            have ry250 := (((fy143_1.keep Kcy146 nin0).ext Ey149).keep Kcy152 (ninS ney248 nin0))
            have ney251 := nlt ((nsV fy143_2).keep Kcy146).lt (Nat.le_of_eq gy149.symm)
            have ry252 := (((Vy144.keep Kcy146 nin0).ext Ey149).keep Kcy152 (ninS ney251 nin0))
            have ry253 := (Sta_keepW ((Sta_keepW (Sta_keepW (fy17_5.ext Ey140) Kcy143 (allS (nsE Ay140) all0)) Kcy146 all0).ext Ey149) Kcy152 (allS (nsE Ay149) all0))
            have ry254 := (((((fy17_6.ext Ey140).keep Kcy143).keep Kcy146).ext Ey149).keep Kcy152)
            have ry255 := (Sta_keepW ((Sta_keepW (Sta_keepW (fy17_7.ext Ey140) Kcy143 (allS (nsE Ay140) all0)) Kcy146 all0).ext Ey149) Kcy152 (allS (nsE Ay149) all0))
            have ney256 := nlt (nsV fy17_8).lt (Nat.le_of_eq gy140.symm)
            have ney257 := nlt ((((nsV fy17_8).ext Ey140).keep Kcy143).keep Kcy146).lt (Nat.le_of_eq gy149.symm)
            have ry258 := (((((fy17_8.ext Ey140).keep Kcy143 (ninS ney256 nin0)).keep Kcy146 nin0).ext Ey149).keep Kcy152 (ninS ney257 nin0))
            have ry259 := (Sta_keepW ((Sta_keepW ry145 Kcy146 all0).ext Ey149) Kcy152 (allS (nsE Ay149) all0))
            have hky261 := (Nat.le_trans (Nat.le_trans (Nat.le_trans (Nat.le_trans (Nat.le_trans (Nat.zero_le _) Ey140.1) Kcy143.1) Kcy146.1) Ey149.1) Kcy152.1)
            obtain ⟨cqy260, kqy260, qy260a, qy260b, qy260c⟩ := isOf hZ eqy156 (Ay149.keep Kcy152)
            obtain ⟨_, Ty260, Lcy260, Xy260, hSy260, hZ, hown, hQy260, CHcy260, sty260⟩ := packH (s := s) (vm0 := s.vm) ((State.WarmedH.refl s).since 0) (by rw [eqy156]; exact hky261) hZ hown (Jvm.Stand.virtualBackS Xy156 hx (y := n20) (z := n20) hown (mvT hZ (W_ hw 93)) (mvT hZ (W_ hw 94)) (notFace_of_selects (args := #[]) (mvT hZ (W_ hw 96))) (mvT hZ (W_ hw 96)) (mvT hZ (W_ hw 95)) (by decide) (backOfSH (s := s) (vm0 := s.vm) (W := 0) (rmxR l Z a0 hw [] by149 by140 nb_y143 kn_y143 zm _ ci aa kA wc (own_vl pd) Ty152.heap n0 Zy152 fy152_0 ry247 ry249 ry250 ry252 ry253 ry254 ry255 ry258 ry259 hwc hzm (own_wlc _ _ _) (own_wlg pd zm)) hZ (W_ hw 97) (W_ hw 58) (by decide) (by decide) hEL CHy152.1) qy260a qy260c (g := (mkF m 334 #[.val (.long pd), .second, iv pq, iv zm, iv 0, rv va, rv cs, rv by140, rv by146, rv em, rv by149, iv 1] [(.ref by149)])) rfl (by rw [hml]; rfl) (Steps.refl _) (argsL := []) (rest := []) (lenOf pd_19 rfl) rfl (lb rfl) (hb hby at_334) (fun _ _ => ⟨rfl, eqy156, (by decide : 14 + 4 ≤ _), (by decide : 147 + 36 ≤ _)⟩))
            replace hZ : Z.Warmed39 (s.setVm Ty260.vm).vm := hZ
            replace hown : (s.setVm Ty260.vm).vm.findClass q1 = some m.cls := hown
            obtain ⟨rfl, Nqy260, Kcy260⟩ := hQy260
            have Ny260 := Fr.app Ny156 Nqy260
            have sfby140_y260 := CHcy260.safe ry247.lt sfby140_y152
            have sfby149_y260 := CHcy260.safe (Ay149.keep Kcy152).lt sfby149_y152
            have CHy260 := CHy152.trans CHcy260
            have Zy260 := Nat.le_trans Zy152 Kcy260.1
            have Ky260 := Ky152.trans Kcy260 all0
            refine FinW.step (sty260) ?_
            show FinW p e below s _ _ _ (Ty260.setTop (mkF m 337 #[.val (.long pd), .second, iv pq, iv zm, iv 0, rv va, rv cs, rv by140, rv by146, rv em, rv by149, iv 1] [(.int (own_xp zm (own_vl pd)))]))
            refine FinW.step (fun _ k => Yo.iload Xy260.here hx (hb hby at_337) rfl (Yo.icmpNo Xy260.here hx (hb hby at_339) rfl (teq ((by rw [own_xp, if_neg hcy157]) : ((own_xp zm (own_vl pd)) = (1 : Int32)))).2 (Yo.iconst Xy260.here hx (hb hby at_342) (Yo.goto Xy260.here hx (pc0 := 343) (pc' := 347) rfl (hb hby at_343) (by decide) (by decide) k)))) ?_
            refine FinW.retN Xy260 hSy260 (Nat.le_refl _) hx (t := .boolean) hret (by simp) hlk (hb hby at_347) (by decide) (by decide) ?_
            show Q0 Z pd pq wc em ci aa kA h0 n0 _ Ty260.heap _
            exact ⟨rfl, Ny260, Ky260⟩
      · show FinW p e below s _ _ _ (Ty17.setTop (mkF m 196 #[.val (.long pd), .second, iv pq, iv zm, iv 1, rv va, rv cs, u_, u_, u_, u_, u_] []))
        refine FinW.step (fun _ k => Yo.iload Xy17.here hx (hb hby at_196) rfl (Yo.ifNo Xy17.here hx (hb hby at_198) rfl ((if0 _ _).trans (feq ((by decide) : ¬ ((1 : Int32) = (0 : Int32)))).1) (Yo.aconstNull Xy17.here hx (hb hby at_201) (Yo.goto Xy17.here hx (pc0 := 202) (pc' := 214) rfl (hb hby at_202) (by decide) (by decide) (Yo.astore Xy17.here hx (hb hby at_214) rfl rfl (l' := #[.val (.long pd), .second, iv pq, iv zm, iv 1, rv va, rv cs, .val .null, u_, u_, u_, u_]) rfl (Yo.iloadN Xy17.here hx (hb hby at_216) rfl (Yo.bipush Xy17.here hx (hb hby at_217) (Yo.iushr Xy17.here hx (hb hby at_219) rfl k)))))))) ?_
        show FinW p e below s _ _ _ (Ty17.setTop (mkF m 220 #[.val (.long pd), .second, iv pq, iv zm, iv 1, rv va, rv cs, .val .null, u_, u_, u_, u_] [(.int (ushI pq (8 : Int32)))]))
        refine FinW.step (fun _ k => Yo.sipush Xy17.here hx (hb hby at_220) (Yo.iand Xy17.here hx (hb hby at_223) rfl k)) ?_
        show FinW p e below s _ _ _ (Ty17.setTop (mkF m 224 #[.val (.long pd), .second, iv pq, iv zm, iv 1, rv va, rv cs, .val .null, u_, u_, u_, u_] [(.int ((ushI pq (8 : Int32)) &&& (255 : Int32)))]))
        refine FinW.step (fun _ k => Yo.i2c Xy17.here hx (hb hby at_224) rfl k) ?_
        show FinW p e below s _ _ _ (Ty17.setTop (mkF m 225 #[.val (.long pd), .second, iv pq, iv zm, iv 1, rv va, rv cs, .val .null, u_, u_, u_, u_] [(.int (((ushI pq (8 : Int32)) &&& (255 : Int32)).toUInt32.toUInt16.toUInt32.toInt32))]))
        obtain ⟨_, Ty262, Lcy262, Xy262, hQy262, sty262⟩ := packS (Jvm.LawKit.callS Xy17 hx (y := n8) hown (mvT hZ (W_ hw 36)) (mvT hZ (W_ hw 37)) (mvT hZ (W_ hw 9)) (mvT hZ (W_ hw 38)) (by decide) (backOf (W := 0) (rmvo l Z a0 hw [] (((ushI pq (8 : Int32)) &&& (255 : Int32)).toUInt32.toUInt16.toUInt32.toInt32) wc hy17 n0 Zy17 fy17_2 hwc (own_qz pq)) hZ (W_ hw 38) (W_ hw 9) (by decide) (by decide)) (g := (mkF m 225 #[.val (.long pd), .second, iv pq, iv zm, iv 1, rv va, rv cs, .val .null, u_, u_, u_, u_] [(.int (((ushI pq (8 : Int32)) &&& (255 : Int32)).toUInt32.toUInt16.toUInt32.toInt32))])) rfl (by rw [hml]; rfl) (argsL := [(.int (((ushI pq (8 : Int32)) &&& (255 : Int32)).toUInt32.toUInt16.toUInt32.toInt32))]) (rest := []) (lenOf pd_29 rfl) rfl (lb rfl) (hb hby at_225) (fun _ _ => ⟨rfl, ey17, (by decide : 9 + 2 ≤ _), (by decide : 126 + 5 ≤ _)⟩))
        obtain ⟨by262, rfl, bzy262, Nqy262, Kcy262⟩ := hQy262
        have Ny262 := Fr.app Ny17 Nqy262
        have gzy262 : n0 ≤ by262 := Nat.le_trans Zy17 bzy262
        have szy262 : h0.size ≤ by262 := Nat.le_trans Ky17.1 bzy262
        have Zy262 := Nat.le_trans Zy17 Kcy262.1
        have Ky262 := Ky17.trans Kcy262 all0
        refine FinW.step (sty262) ?_
        show FinW p e below s _ _ _ (Ty262.setTop (mkF m 228 #[.val (.long pd), .second, iv pq, iv zm, iv 1, rv va, rv cs, .val .null, u_, u_, u_, u_] [(.ref by262)]))
        refine FinW.step (fun _ k => Yo.astore Xy262.here hx (hb hby at_228) rfl rfl (l' := #[.val (.long pd), .second, iv pq, iv zm, iv 1, rv va, rv cs, .val .null, rv by262, u_, u_, u_]) rfl k) ?_
        have ry263 := (Sta_keepW fy17_3 Kcy262 all0)
        obtain ⟨_, Ty264, Lcy264, Xy264, hQy264, sty264⟩ := packS (Jvm.LawKit.callS Xy262 hx (y := n12) hown (mvT hZ (W_ hw 50)) (mvT hZ (W_ hw 51)) (mvT hZ (W_ hw 52)) (mvT hZ (W_ hw 53)) (by decide) (backOf (W := 0) (rmmo l Z a0 hw [] em Ty262.heap n0 Zy262 ry263) hZ (W_ hw 53) (W_ hw 52) (by decide) (by decide)) (g := (mkF m 230 #[.val (.long pd), .second, iv pq, iv zm, iv 1, rv va, rv cs, .val .null, rv by262, u_, u_, u_] [])) rfl (by rw [hml]; rfl) (argsL := []) (rest := []) (lenOf pd_30 rfl) rfl (lb rfl) (hb hby at_230) (fun _ _ => ⟨rfl, rfl, (by decide : 11 + 0 ≤ _), (by decide : 131 + 0 ≤ _)⟩))
        obtain ⟨rfl, Nqy264, eqy264⟩ := hQy264
        have Ny264 := Fr.app Ny262 Nqy264
        refine FinW.step (sty264) ?_
        show FinW p e below s _ _ _ (Ty264.setTop (mkF m 233 #[.val (.long pd), .second, iv pq, iv zm, iv 1, rv va, rv cs, .val .null, rv by262, u_, u_, u_] [(.ref em)]))
        refine FinW.step (fun _ k => Yo.astore Xy264.here hx (hb hby at_233) rfl rfl (l' := #[.val (.long pd), .second, iv pq, iv zm, iv 1, rv va, rv cs, .val .null, rv by262, rv em, u_, u_]) rfl k) ?_
        obtain ⟨Ty265, hy265, Xy265, ey265, Ey265, Ay265, Dy265, -, sty265⟩ := newO Xy264 hx hZ hown (W_ hw 56) (W_ hw 57) (W_ hw 58) eqy264 (g := (mkF m 235 #[.val (.long pd), .second, iv pq, iv zm, iv 1, rv va, rv cs, .val .null, rv by262, rv em, u_, u_] [])) rfl (hb hby at_235) (by decide) (by decide)
        obtain ⟨by265, gy265⟩ : ∃ z, z = Ty262.heap.size := ⟨_, rfl⟩
        rw [← gy265] at Ay265 Dy265 sty265
        have gzy265 : n0 ≤ by265 := Nat.le_trans Zy262 (Nat.le_of_eq gy265.symm)
        have szy265 : h0.size ≤ by265 := Nat.le_trans Ky262.1 (Nat.le_of_eq gy265.symm)
        have Zy265 := Nat.le_trans Zy262 Ey265.1
        have Ky265 := Ky262.ext Ey265
        have F_text_by265 : Fld Z hy265 by265 q0 "text" q8 .null := Dy265 (Or.inr (W_ hw 74)) (ty := (.object "java/lang/String")) (by decide)
        have F_namespaces_by265 : Fld Z hy265 by265 q0 "namespaces" q7 .null := Dy265 (Or.inr (W_ hw 76)) (ty := (.object "java/util/Map")) (by decide)
        have F_language_by265 : Fld Z hy265 by265 q0 "language" q8 .null := Dy265 (Or.inr (W_ hw 78)) (ty := (.object "java/lang/String")) (by decide)
        have F_line_by265 : Fld Z hy265 by265 q0 "line" "I" (.int 0) := Dy265 (Or.inr (W_ hw 80)) (ty := .int) (by decide)
        refine FinW.step (sty265) ?_
        show FinW p e below s _ _ _ (Ty265.setTop (mkF m 238 #[.val (.long pd), .second, iv pq, iv zm, iv 1, rv va, rv cs, .val .null, rv by262, rv em, u_, u_] [(.ref by265)]))
        refine FinW.step (fun _ k => Yo.dup Xy265.here hx (hb hby at_238) rfl rfl (Yo.aload Xy265.here hx (hb hby at_239) rfl rfl (Yo.aload Xy265.here hx (hb hby at_241) rfl rfl (Yo.aload Xy265.here hx (hb hby at_243) rfl rfl (Yo.iloadN Xy265.here hx (hb hby at_245) rfl k))))) ?_
        have ry266 := ((fy17_4.keep Kcy262).ext Ey265)
        obtain ⟨_, Ty267, Lcy267, Xy267, hQy267, sty267⟩ := pack (Xy265.specialBack hx (y := n13) rfl hown (mvT hZ (W_ hw 59)) (mvT hZ (W_ hw 60)) (mvT hZ (W_ hw 61)) (by decide) (backOf (W := 1) (rmexN l Z a0 hw [] by265 by262 em pq hy265 n0 Zy265 Ay265 F_text_by265 F_namespaces_by265 F_language_by265 F_line_by265 ry266 gzy265) hZ (W_ hw 61) (W_ hw 58) (by decide) (by decide)) (g := (mkF m 246 #[.val (.long pd), .second, iv pq, iv zm, iv 1, rv va, rv cs, .val .null, rv by262, rv em, u_, u_] [(.int pq), .null, (.ref em), (.ref by262), (.ref by265), (.ref by265)])) rfl (by rw [hml]; rfl) (Steps.refl _) (a := by265) (argsL := [(.ref by262), (.ref em), .null, (.int pq)]) (rest := [(.ref by265)]) (lenOf pd_31 rfl) rfl (lb rfl) (hb hby at_246) (fun _ _ => ⟨rfl, ey265, (by decide : 12 + 0 ≤ _), (by decide : 135 + 0 ≤ _)⟩))
        obtain ⟨rfl, Nqy267, Kcy267, fy267_0⟩ := hQy267
        have Ny267 := Fr.app Ny264 Nqy267
        have Zy267 := Nat.le_trans Zy265 Kcy267.1
        have Ky267 := Ky265.trans Kcy267 (allS (Or.inr szy265) all0)
        refine FinW.step (sty267) ?_
        show FinW p e below s _ _ _ (Ty267.setTop (mkF m 249 #[.val (.long pd), .second, iv pq, iv zm, iv 1, rv va, rv cs, .val .null, rv by262, rv em, u_, u_] [(.ref by265)]))
        refine FinW.step (fun _ k => Yo.astore Xy267.here hx (hb hby at_249) rfl rfl (l' := #[.val (.long pd), .second, iv pq, iv zm, iv 1, rv va, rv cs, .val .null, rv by262, rv em, rv by265, u_]) rfl (Yo.iload Xy267.here hx (hb hby at_251) rfl (Yo.ifYes Xy267.here hx (pc0 := 253) (pc' := 325) rfl (hb hby at_253) rfl ((if0 _ _).trans (feq ((by decide) : ¬ ((1 : Int32) = (0 : Int32)))).2) (by decide) (by decide) (Yo.iconst Xy267.here hx (hb hby at_325) (Yo.goto Xy267.here hx (pc0 := 326) (pc' := 330) rfl (hb hby at_326) (by decide) (by decide) (Yo.istore Xy267.here hx (hb hby at_330) rfl (l' := #[.val (.long pd), .second, iv pq, iv zm, iv 1, rv va, rv cs, .val .null, rv by262, rv em, rv by265, iv 1]) rfl (Yo.aload Xy267.here hx (hb hby at_332) rfl rfl k))))))) ?_
        obtain ⟨cqy268, kqy268, qy268a, qy268b, qy268c⟩ := isOf hZ rfl (Ay265.keep Kcy267)
        obtain ⟨_, Ty268, Lcy268, Xy268, hQy268, sty268⟩ := pack (Xy267.virtualBack hx (y := n20) (z := n20) hown (mvT hZ (W_ hw 93)) (mvT hZ (W_ hw 94)) (notFace_of_selects (args := #[]) (mvT hZ (W_ hw 96))) (mvT hZ (W_ hw 96)) (mvT hZ (W_ hw 95)) (by decide) (backOf (W := 0) (rmxN l Z a0 hw [] by265 Ty267.heap n0 Zy267 fy267_0) hZ (W_ hw 97) (W_ hw 58) (by decide) (by decide)) qy268a qy268c (g := (mkF m 334 #[.val (.long pd), .second, iv pq, iv zm, iv 1, rv va, rv cs, .val .null, rv by262, rv em, rv by265, iv 1] [(.ref by265)])) rfl (by rw [hml]; rfl) (Steps.refl _) (argsL := []) (rest := []) (lenOf pd_19 rfl) rfl (lb rfl) (hb hby at_334) (fun _ _ => ⟨rfl, rfl, (by decide : 12 + 0 ≤ _), (by decide : 135 + 0 ≤ _)⟩))
        obtain ⟨rfl, Nqy268, eqy268⟩ := hQy268
        have Ny268 := Fr.app Ny267 Nqy268
        refine FinW.step (sty268) ?_
        show FinW p e below s _ _ _ (Ty268.setTop (mkF m 337 #[.val (.long pd), .second, iv pq, iv zm, iv 1, rv va, rv cs, .val .null, rv by262, rv em, rv by265, iv 1] [(.int 1)]))
        refine FinW.step (fun _ k => Yo.iload Xy268.here hx (hb hby at_337) rfl (Yo.icmpNo Xy268.here hx (hb hby at_339) rfl (teq ((by decide) : ((1 : Int32) = (1 : Int32)))).2 (Yo.iconst Xy268.here hx (hb hby at_342) (Yo.goto Xy268.here hx (pc0 := 343) (pc' := 347) rfl (hb hby at_343) (by decide) (by decide) k)))) ?_
        have hky269 := (Nat.le_trans (Nat.le_trans (Nat.le_trans (Nat.zero_le _) Kcy262.1) Ey265.1) Kcy267.1)
        refine FinW.retN (s := s) (vm₁ := s.vm) Xy268 ((State.WarmedH.refl s).since 0) (by rw [eqy268]; exact hky269) hx (t := .boolean) hret (by simp) hlk (hb hby at_347) (by decide) (by decide) ?_
        show Q0 Z pd pq wc em ci aa kA h0 n0 _ Ty268.heap _
        rw [eqy268]
        exact ⟨rfl, Ny268, Ky267⟩
    rcases own_c8 hzn with rfl | rfl | rfl | rfl | rfl | rfl | rfl | rfl
    · show FinW p e below s _ _ _ (Ty15.setTop (mkF m 91 #[.val (.long pd), .second, iv pq, iv 0, iv zq, rv by1, u_, u_, u_, u_, u_, u_] []))
      refine FinW.step (fun _ k => Yo.iloadN Xy15.here hx (hb hby at_91) rfl k) ?_
      obtain ⟨Ty270, hy270, ky270, Xy270, ey270, Ey270, Ay270, sty270⟩ := newP Xy15 hx hZ (W_ hw 6) ey15 (g := (mkF m 92 #[.val (.long pd), .second, iv pq, iv 0, iv zq, rv by1, u_, u_, u_, u_, u_, u_] [(.int 0)])) rfl (hb hby at_92) rfl (by decide) (cap := 0) (by decide) (by decide) (by decide) (by decide)
      obtain ⟨by270, gy270⟩ : ∃ z, z = hy15.size := ⟨_, rfl⟩
      rw [← gy270] at Ay270 sty270
      have gzy270 : n0 ≤ by270 := Nat.le_trans Zy15 (Nat.le_of_eq gy270.symm)
      have szy270 : h0.size ≤ by270 := Nat.le_trans Ky15.1 (Nat.le_of_eq gy270.symm)
      have Zy270 := Nat.le_trans Zy15 Ey270.1
      have Ky270 := Ky15.ext Ey270
      have Vy270 : Arv Z hy270 by270 ky270 .char (0 : Int32) [] (.int 0) := (Arv.new Ay270 (by decide)).pad (pad_rep [] (.int 0) 0)
      refine FinW.step (sty270) ?_
      show FinW p e below s _ _ _ (Ty270.setTop (mkF m 94 #[.val (.long pd), .second, iv pq, iv 0, iv zq, rv by1, u_, u_, u_, u_, u_, u_] [(.ref by270)]))
      refine FinW.step (fun _ k => Yo.astore Xy270.here hx (hb hby at_94) rfl rfl (l' := #[.val (.long pd), .second, iv pq, iv 0, iv zq, rv by1, rv by270, u_, u_, u_, u_, u_]) rfl (Yo.iloadN Xy270.here hx (hb hby at_96) rfl (Yo.ifYes Xy270.here hx (pc0 := 97) (pc' := 109) rfl (hb hby at_97) rfl ((if0 _ _).trans (flt ((by decide) : ¬ ((0 : Int32) < (0 : Int32)))).2.2.2) (by decide) (by decide) (Yo.iloadN Xy270.here hx (hb hby at_109) rfl (Yo.iconst Xy270.here hx (hb hby at_110) (Yo.icmpYes Xy270.here hx (pc0 := 111) (pc' := 123) rfl (hb hby at_111) rfl (flt ((by decide) : ¬ ((1 : Int32) < (0 : Int32)))).2.2.2 (by decide) (by decide) (Yo.iloadN Xy270.here hx (hb hby at_123) rfl (Yo.iconst Xy270.here hx (hb hby at_124) k)))))))) ?_
      refine FinW.step (fun _ k => Yo.icmpYes Xy270.here hx (pc0 := 125) (pc' := 137) rfl (hb hby at_125) rfl (flt ((by decide) : ¬ ((2 : Int32) < (0 : Int32)))).2.2.2 (by decide) (by decide) (Yo.iloadN Xy270.here hx (hb hby at_137) rfl (Yo.iconst Xy270.here hx (hb hby at_138) (Yo.icmpYes Xy270.here hx (pc0 := 139) (pc' := 151) rfl (hb hby at_139) rfl (flt ((by decide) : ¬ ((3 : Int32) < (0 : Int32)))).2.2.2 (by decide) (by decide) (Yo.iloadN Xy270.here hx (hb hby at_151) rfl (Yo.iconst Xy270.here hx (hb hby at_152) (Yo.icmpYes Xy270.here hx (pc0 := 153) (pc' := 165) rfl (hb hby at_153) rfl (flt ((by decide) : ¬ ((4 : Int32) < (0 : Int32)))).2.2.2 (by decide) (by decide) (Yo.iloadN Xy270.here hx (hb hby at_165) rfl k)))))))) ?_
      refine FinW.step (fun _ k => Yo.iconst Xy270.here hx (hb hby at_166) (Yo.icmpYes Xy270.here hx (pc0 := 167) (pc' := 179) rfl (hb hby at_167) rfl (flt ((by decide) : ¬ ((5 : Int32) < (0 : Int32)))).2.2.2 (by decide) (by decide) (Yo.iloadN Xy270.here hx (hb hby at_179) rfl (Yo.bipush Xy270.here hx (hb hby at_180) (Yo.icmpYes Xy270.here hx (pc0 := 182) (pc' := 196) rfl (hb hby at_182) rfl (flt ((by decide) : ¬ ((6 : Int32) < (0 : Int32)))).2.2.2 (by decide) (by decide) k))))) ?_
      have Vy271 : Arv Z hy270 by270 ky270 .char (0 : Int32) (own_xl pd ((0 : Int32)).toNatClampNeg) (.int 0) := castL Vy270 (by rfl)
      have ry272 := (Sta_keep HS_java_lang_String_COMPACT_STRINGS Ky270)
      have ry273 := (Sta_keep HS_java_util_ImmutableCollections_EMPTY_MAP Ky270)
      have ry274 := (Sta_keep HS_java_lang_CharacterDataLatin1_instance Ky270)
      have ry275 := (Sta_keep HS_java_lang_CharacterDataLatin1_A Ky270)
      exact J1 _ _ _ (0 : Int32) by270 ky270 by1 ky1 (Xy270.mono (by decide) (by decide)) ey270 Ny15 Zy270 Ky270 (Vy16.ext Ey270) Vy271 ry272 ry273 (HE_em.keep Ky270) ry274 (HE_ci.keep Ky270) ry275 (HV_aa.keep Ky270 nin0) (by decide)
    · show FinW p e below s _ _ _ (Ty15.setTop (mkF m 91 #[.val (.long pd), .second, iv pq, iv 1, iv zq, rv by1, u_, u_, u_, u_, u_, u_] []))
      refine FinW.step (fun _ k => Yo.iloadN Xy15.here hx (hb hby at_91) rfl k) ?_
      obtain ⟨Ty276, hy276, ky276, Xy276, ey276, Ey276, Ay276, sty276⟩ := newP Xy15 hx hZ (W_ hw 6) ey15 (g := (mkF m 92 #[.val (.long pd), .second, iv pq, iv 1, iv zq, rv by1, u_, u_, u_, u_, u_, u_] [(.int 1)])) rfl (hb hby at_92) rfl (by decide) (cap := 1) (by decide) (by decide) (by decide) (by decide)
      obtain ⟨by276, gy276⟩ : ∃ z, z = hy15.size := ⟨_, rfl⟩
      rw [← gy276] at Ay276 sty276
      have gzy276 : n0 ≤ by276 := Nat.le_trans Zy15 (Nat.le_of_eq gy276.symm)
      have szy276 : h0.size ≤ by276 := Nat.le_trans Ky15.1 (Nat.le_of_eq gy276.symm)
      have Zy276 := Nat.le_trans Zy15 Ey276.1
      have Ky276 := Ky15.ext Ey276
      have Vy276 : Arv Z hy276 by276 ky276 .char (1 : Int32) [(.int 0)] (.int 0) := (Arv.new Ay276 (by decide)).pad (pad_rep [] (.int 0) 1)
      refine FinW.step (sty276) ?_
      show FinW p e below s _ _ _ (Ty276.setTop (mkF m 94 #[.val (.long pd), .second, iv pq, iv 1, iv zq, rv by1, u_, u_, u_, u_, u_, u_] [(.ref by276)]))
      refine FinW.step (fun _ k => Yo.astore Xy276.here hx (hb hby at_94) rfl rfl (l' := #[.val (.long pd), .second, iv pq, iv 1, iv zq, rv by1, rv by276, u_, u_, u_, u_, u_]) rfl (Yo.iloadN Xy276.here hx (hb hby at_96) rfl (Yo.ifNo Xy276.here hx (hb hby at_97) rfl ((if0 _ _).trans (tlt ((by decide) : ((0 : Int32) < (1 : Int32)))).2.2.2) (Yo.aload Xy276.here hx (hb hby at_100) rfl rfl (Yo.iconst Xy276.here hx (hb hby at_102) (Yo.aload Xy276.here hx (hb hby at_103) rfl rfl (Yo.iconst Xy276.here hx (hb hby at_105) (ild3 Xy276 hx hZ ey276 (j := 0) (v := (.int (own_gt (own_vl pd) 0))) (Vy16.ext Ey276) ⟨by decide, by decide⟩ (own_lg (own_vlc pd) 0) (hb hby at_106) k)))))))) ?_
      refine FinW.step (fun _ k => Yo.i2c Xy276.here hx (hb hby at_107) rfl k) ?_
      show FinW p e below s _ _ _ (Ty276.setTop (mkF m 108 #[.val (.long pd), .second, iv pq, iv 1, iv zq, rv by1, rv by276, u_, u_, u_, u_, u_] [(.int ((own_gt (own_vl pd) 0).toUInt32.toUInt16.toUInt32.toInt32)), (.int 0), (.ref by276)]))
      obtain ⟨Ty278, hy278, Xy278, ey278, Wy278, Vy278, Ny278, Zy278, Ky278, sty278⟩ := cst3 Xy276 hx hZ ey276 (j := 0) (x := ((own_gt (own_vl pd) 0).toUInt32.toUInt16.toUInt32.toInt32)) (ix := 0) Vy276 ⟨by decide, by decide⟩ rfl (lb rfl) Ny15 Zy276 Ky276 gzy276 (Or.inr szy276) (hb hby at_108)
      refine FinW.step (sty278) ?_
      refine FinW.step (fun _ k => Yo.iloadN Xy278.here hx (hb hby at_109) rfl (Yo.iconst Xy278.here hx (hb hby at_110) (Yo.icmpYes Xy278.here hx (pc0 := 111) (pc' := 123) rfl (hb hby at_111) rfl (flt ((by decide) : ¬ ((1 : Int32) < (1 : Int32)))).2.2.2 (by decide) (by decide) (Yo.iloadN Xy278.here hx (hb hby at_123) rfl (Yo.iconst Xy278.here hx (hb hby at_124) (Yo.icmpYes Xy278.here hx (pc0 := 125) (pc' := 137) rfl (hb hby at_125) rfl (flt ((by decide) : ¬ ((2 : Int32) < (1 : Int32)))).2.2.2 (by decide) (by decide) (Yo.iloadN Xy278.here hx (hb hby at_137) rfl (Yo.iconst Xy278.here hx (hb hby at_138) k)))))))) ?_
      refine FinW.step (fun _ k => Yo.icmpYes Xy278.here hx (pc0 := 139) (pc' := 151) rfl (hb hby at_139) rfl (flt ((by decide) : ¬ ((3 : Int32) < (1 : Int32)))).2.2.2 (by decide) (by decide) (Yo.iloadN Xy278.here hx (hb hby at_151) rfl (Yo.iconst Xy278.here hx (hb hby at_152) (Yo.icmpYes Xy278.here hx (pc0 := 153) (pc' := 165) rfl (hb hby at_153) rfl (flt ((by decide) : ¬ ((4 : Int32) < (1 : Int32)))).2.2.2 (by decide) (by decide) (Yo.iloadN Xy278.here hx (hb hby at_165) rfl (Yo.iconst Xy278.here hx (hb hby at_166) (Yo.icmpYes Xy278.here hx (pc0 := 167) (pc' := 179) rfl (hb hby at_167) rfl (flt ((by decide) : ¬ ((5 : Int32) < (1 : Int32)))).2.2.2 (by decide) (by decide) (Yo.iloadN Xy278.here hx (hb hby at_179) rfl k)))))))) ?_
      refine FinW.step (fun _ k => Yo.bipush Xy278.here hx (hb hby at_180) (Yo.icmpYes Xy278.here hx (pc0 := 182) (pc' := 196) rfl (hb hby at_182) rfl (flt ((by decide) : ¬ ((6 : Int32) < (1 : Int32)))).2.2.2 (by decide) (by decide) k)) ?_
      have Vy279 : Arv Z hy278 by276 ky276 .char (1 : Int32) (own_xl pd ((1 : Int32)).toNatClampNeg) (.int 0) := castL Vy278 (by rfl)
      have ney280 := nlt (((((((((((((((nsV Vy1).keep Kcy2).wr Wy3).keep Kcy4).wr Wy5).keep Kcy6).wr Wy7).keep Kcy8).wr Wy9).keep Kcy10).wr Wy11).keep Kcy12).wr Wy13).keep Kcy14).wr Wy15).lt (Nat.le_of_eq gy276.symm)
      have ry281 := ((Vy16.ext Ey276).other Wy278 ney280)
      have ry282 := (Sta_keep HS_java_lang_String_COMPACT_STRINGS Ky278)
      have ry283 := (Sta_keep HS_java_util_ImmutableCollections_EMPTY_MAP Ky278)
      have ry284 := (Sta_keep HS_java_lang_CharacterDataLatin1_instance Ky278)
      have ry285 := (Sta_keep HS_java_lang_CharacterDataLatin1_A Ky278)
      exact J1 _ _ _ (1 : Int32) by276 ky276 by1 ky1 (Xy278.mono (by decide) (by decide)) ey278 Ny278 Zy278 Ky278 ry281 Vy279 ry282 ry283 (HE_em.keep Ky278) ry284 (HE_ci.keep Ky278) ry285 (HV_aa.keep Ky278 nin0) (by decide)
    · show FinW p e below s _ _ _ (Ty15.setTop (mkF m 91 #[.val (.long pd), .second, iv pq, iv 2, iv zq, rv by1, u_, u_, u_, u_, u_, u_] []))
      refine FinW.step (fun _ k => Yo.iloadN Xy15.here hx (hb hby at_91) rfl k) ?_
      obtain ⟨Ty286, hy286, ky286, Xy286, ey286, Ey286, Ay286, sty286⟩ := newP Xy15 hx hZ (W_ hw 6) ey15 (g := (mkF m 92 #[.val (.long pd), .second, iv pq, iv 2, iv zq, rv by1, u_, u_, u_, u_, u_, u_] [(.int 2)])) rfl (hb hby at_92) rfl (by decide) (cap := 2) (by decide) (by decide) (by decide) (by decide)
      obtain ⟨by286, gy286⟩ : ∃ z, z = hy15.size := ⟨_, rfl⟩
      rw [← gy286] at Ay286 sty286
      have gzy286 : n0 ≤ by286 := Nat.le_trans Zy15 (Nat.le_of_eq gy286.symm)
      have szy286 : h0.size ≤ by286 := Nat.le_trans Ky15.1 (Nat.le_of_eq gy286.symm)
      have Zy286 := Nat.le_trans Zy15 Ey286.1
      have Ky286 := Ky15.ext Ey286
      have Vy286 : Arv Z hy286 by286 ky286 .char (2 : Int32) [(.int 0), (.int 0)] (.int 0) := (Arv.new Ay286 (by decide)).pad (pad_rep [] (.int 0) 2)
      refine FinW.step (sty286) ?_
      show FinW p e below s _ _ _ (Ty286.setTop (mkF m 94 #[.val (.long pd), .second, iv pq, iv 2, iv zq, rv by1, u_, u_, u_, u_, u_, u_] [(.ref by286)]))
      refine FinW.step (fun _ k => Yo.astore Xy286.here hx (hb hby at_94) rfl rfl (l' := #[.val (.long pd), .second, iv pq, iv 2, iv zq, rv by1, rv by286, u_, u_, u_, u_, u_]) rfl (Yo.iloadN Xy286.here hx (hb hby at_96) rfl (Yo.ifNo Xy286.here hx (hb hby at_97) rfl ((if0 _ _).trans (tlt ((by decide) : ((0 : Int32) < (2 : Int32)))).2.2.2) (Yo.aload Xy286.here hx (hb hby at_100) rfl rfl (Yo.iconst Xy286.here hx (hb hby at_102) (Yo.aload Xy286.here hx (hb hby at_103) rfl rfl (Yo.iconst Xy286.here hx (hb hby at_105) (ild3 Xy286 hx hZ ey286 (j := 0) (v := (.int (own_gt (own_vl pd) 0))) (Vy16.ext Ey286) ⟨by decide, by decide⟩ (own_lg (own_vlc pd) 0) (hb hby at_106) k)))))))) ?_
      refine FinW.step (fun _ k => Yo.i2c Xy286.here hx (hb hby at_107) rfl k) ?_
      show FinW p e below s _ _ _ (Ty286.setTop (mkF m 108 #[.val (.long pd), .second, iv pq, iv 2, iv zq, rv by1, rv by286, u_, u_, u_, u_, u_] [(.int ((own_gt (own_vl pd) 0).toUInt32.toUInt16.toUInt32.toInt32)), (.int 0), (.ref by286)]))
      obtain ⟨Ty288, hy288, Xy288, ey288, Wy288, Vy288, Ny288, Zy288, Ky288, sty288⟩ := cst3 Xy286 hx hZ ey286 (j := 0) (x := ((own_gt (own_vl pd) 0).toUInt32.toUInt16.toUInt32.toInt32)) (ix := 0) Vy286 ⟨by decide, by decide⟩ rfl (lb rfl) Ny15 Zy286 Ky286 gzy286 (Or.inr szy286) (hb hby at_108)
      refine FinW.step (sty288) ?_
      refine FinW.step (fun _ k => Yo.iloadN Xy288.here hx (hb hby at_109) rfl (Yo.iconst Xy288.here hx (hb hby at_110) (Yo.icmpNo Xy288.here hx (hb hby at_111) rfl (tlt ((by decide) : ((1 : Int32) < (2 : Int32)))).2.2.2 (Yo.aload Xy288.here hx (hb hby at_114) rfl rfl (Yo.iconst Xy288.here hx (hb hby at_116) (Yo.aload Xy288.here hx (hb hby at_117) rfl rfl (Yo.iconst Xy288.here hx (hb hby at_119) k))))))) ?_
      have ney290 := nlt (((((((((((((((nsV Vy1).keep Kcy2).wr Wy3).keep Kcy4).wr Wy5).keep Kcy6).wr Wy7).keep Kcy8).wr Wy9).keep Kcy10).wr Wy11).keep Kcy12).wr Wy13).keep Kcy14).wr Wy15).lt (Nat.le_of_eq gy286.symm)
      refine FinW.step (fun _ k => ild3 Xy288 hx hZ ey288 (j := 1) (v := (.int (own_gt (own_vl pd) 1))) ((Vy16.ext Ey286).other Wy288 ney290) ⟨by decide, by decide⟩ (own_lg (own_vlc pd) 1) (hb hby at_120) (Yo.i2c Xy288.here hx (hb hby at_121) rfl k)) ?_
      show FinW p e below s _ _ _ (Ty288.setTop (mkF m 122 #[.val (.long pd), .second, iv pq, iv 2, iv zq, rv by1, rv by286, u_, u_, u_, u_, u_] [(.int ((own_gt (own_vl pd) 1).toUInt32.toUInt16.toUInt32.toInt32)), (.int 1), (.ref by286)]))
      obtain ⟨Ty291, hy291, Xy291, ey291, Wy291, Vy291, Ny291, Zy291, Ky291, sty291⟩ := cst3 Xy288 hx hZ ey288 (j := 1) (x := ((own_gt (own_vl pd) 1).toUInt32.toUInt16.toUInt32.toInt32)) (ix := 1) Vy288 ⟨by decide, by decide⟩ rfl (lb rfl) Ny288 Zy288 Ky288 gzy286 (Or.inr szy286) (hb hby at_122)
      refine FinW.step (sty291) ?_
      refine FinW.step (fun _ k => Yo.iloadN Xy291.here hx (hb hby at_123) rfl (Yo.iconst Xy291.here hx (hb hby at_124) (Yo.icmpYes Xy291.here hx (pc0 := 125) (pc' := 137) rfl (hb hby at_125) rfl (flt ((by decide) : ¬ ((2 : Int32) < (2 : Int32)))).2.2.2 (by decide) (by decide) (Yo.iloadN Xy291.here hx (hb hby at_137) rfl (Yo.iconst Xy291.here hx (hb hby at_138) (Yo.icmpYes Xy291.here hx (pc0 := 139) (pc' := 151) rfl (hb hby at_139) rfl (flt ((by decide) : ¬ ((3 : Int32) < (2 : Int32)))).2.2.2 (by decide) (by decide) (Yo.iloadN Xy291.here hx (hb hby at_151) rfl (Yo.iconst Xy291.here hx (hb hby at_152) k)))))))) ?_
      refine FinW.step (fun _ k => Yo.icmpYes Xy291.here hx (pc0 := 153) (pc' := 165) rfl (hb hby at_153) rfl (flt ((by decide) : ¬ ((4 : Int32) < (2 : Int32)))).2.2.2 (by decide) (by decide) (Yo.iloadN Xy291.here hx (hb hby at_165) rfl (Yo.iconst Xy291.here hx (hb hby at_166) (Yo.icmpYes Xy291.here hx (pc0 := 167) (pc' := 179) rfl (hb hby at_167) rfl (flt ((by decide) : ¬ ((5 : Int32) < (2 : Int32)))).2.2.2 (by decide) (by decide) (Yo.iloadN Xy291.here hx (hb hby at_179) rfl (Yo.bipush Xy291.here hx (hb hby at_180) (Yo.icmpYes Xy291.here hx (pc0 := 182) (pc' := 196) rfl (hb hby at_182) rfl (flt ((by decide) : ¬ ((6 : Int32) < (2 : Int32)))).2.2.2 (by decide) (by decide) k))))))) ?_
      have Vy292 : Arv Z hy291 by286 ky286 .char (2 : Int32) (own_xl pd ((2 : Int32)).toNatClampNeg) (.int 0) := castL Vy291 (by rfl)
      have ry293 := (((Vy16.ext Ey286).other Wy288 ney290).other Wy291 ney290)
      have ry294 := (Sta_keep HS_java_lang_String_COMPACT_STRINGS Ky291)
      have ry295 := (Sta_keep HS_java_util_ImmutableCollections_EMPTY_MAP Ky291)
      have ry296 := (Sta_keep HS_java_lang_CharacterDataLatin1_instance Ky291)
      have ry297 := (Sta_keep HS_java_lang_CharacterDataLatin1_A Ky291)
      exact J1 _ _ _ (2 : Int32) by286 ky286 by1 ky1 (Xy291.mono (by decide) (by decide)) ey291 Ny291 Zy291 Ky291 ry293 Vy292 ry294 ry295 (HE_em.keep Ky291) ry296 (HE_ci.keep Ky291) ry297 (HV_aa.keep Ky291 nin0) (by decide)
    · show FinW p e below s _ _ _ (Ty15.setTop (mkF m 91 #[.val (.long pd), .second, iv pq, iv 3, iv zq, rv by1, u_, u_, u_, u_, u_, u_] []))
      refine FinW.step (fun _ k => Yo.iloadN Xy15.here hx (hb hby at_91) rfl k) ?_
      obtain ⟨Ty298, hy298, ky298, Xy298, ey298, Ey298, Ay298, sty298⟩ := newP Xy15 hx hZ (W_ hw 6) ey15 (g := (mkF m 92 #[.val (.long pd), .second, iv pq, iv 3, iv zq, rv by1, u_, u_, u_, u_, u_, u_] [(.int 3)])) rfl (hb hby at_92) rfl (by decide) (cap := 3) (by decide) (by decide) (by decide) (by decide)
      obtain ⟨by298, gy298⟩ : ∃ z, z = hy15.size := ⟨_, rfl⟩
      rw [← gy298] at Ay298 sty298
      have gzy298 : n0 ≤ by298 := Nat.le_trans Zy15 (Nat.le_of_eq gy298.symm)
      have szy298 : h0.size ≤ by298 := Nat.le_trans Ky15.1 (Nat.le_of_eq gy298.symm)
      have Zy298 := Nat.le_trans Zy15 Ey298.1
      have Ky298 := Ky15.ext Ey298
      have Vy298 : Arv Z hy298 by298 ky298 .char (3 : Int32) [(.int 0), (.int 0), (.int 0)] (.int 0) := (Arv.new Ay298 (by decide)).pad (pad_rep [] (.int 0) 3)
      refine FinW.step (sty298) ?_
      show FinW p e below s _ _ _ (Ty298.setTop (mkF m 94 #[.val (.long pd), .second, iv pq, iv 3, iv zq, rv by1, u_, u_, u_, u_, u_, u_] [(.ref by298)]))
      refine FinW.step (fun _ k => Yo.astore Xy298.here hx (hb hby at_94) rfl rfl (l' := #[.val (.long pd), .second, iv pq, iv 3, iv zq, rv by1, rv by298, u_, u_, u_, u_, u_]) rfl (Yo.iloadN Xy298.here hx (hb hby at_96) rfl (Yo.ifNo Xy298.here hx (hb hby at_97) rfl ((if0 _ _).trans (tlt ((by decide) : ((0 : Int32) < (3 : Int32)))).2.2.2) (Yo.aload Xy298.here hx (hb hby at_100) rfl rfl (Yo.iconst Xy298.here hx (hb hby at_102) (Yo.aload Xy298.here hx (hb hby at_103) rfl rfl (Yo.iconst Xy298.here hx (hb hby at_105) (ild3 Xy298 hx hZ ey298 (j := 0) (v := (.int (own_gt (own_vl pd) 0))) (Vy16.ext Ey298) ⟨by decide, by decide⟩ (own_lg (own_vlc pd) 0) (hb hby at_106) k)))))))) ?_
      refine FinW.step (fun _ k => Yo.i2c Xy298.here hx (hb hby at_107) rfl k) ?_
      show FinW p e below s _ _ _ (Ty298.setTop (mkF m 108 #[.val (.long pd), .second, iv pq, iv 3, iv zq, rv by1, rv by298, u_, u_, u_, u_, u_] [(.int ((own_gt (own_vl pd) 0).toUInt32.toUInt16.toUInt32.toInt32)), (.int 0), (.ref by298)]))
      obtain ⟨Ty300, hy300, Xy300, ey300, Wy300, Vy300, Ny300, Zy300, Ky300, sty300⟩ := cst3 Xy298 hx hZ ey298 (j := 0) (x := ((own_gt (own_vl pd) 0).toUInt32.toUInt16.toUInt32.toInt32)) (ix := 0) Vy298 ⟨by decide, by decide⟩ rfl (lb rfl) Ny15 Zy298 Ky298 gzy298 (Or.inr szy298) (hb hby at_108)
      refine FinW.step (sty300) ?_
      refine FinW.step (fun _ k => Yo.iloadN Xy300.here hx (hb hby at_109) rfl (Yo.iconst Xy300.here hx (hb hby at_110) (Yo.icmpNo Xy300.here hx (hb hby at_111) rfl (tlt ((by decide) : ((1 : Int32) < (3 : Int32)))).2.2.2 (Yo.aload Xy300.here hx (hb hby at_114) rfl rfl (Yo.iconst Xy300.here hx (hb hby at_116) (Yo.aload Xy300.here hx (hb hby at_117) rfl rfl (Yo.iconst Xy300.here hx (hb hby at_119) k))))))) ?_
      have ney302 := nlt (((((((((((((((nsV Vy1).keep Kcy2).wr Wy3).keep Kcy4).wr Wy5).keep Kcy6).wr Wy7).keep Kcy8).wr Wy9).keep Kcy10).wr Wy11).keep Kcy12).wr Wy13).keep Kcy14).wr Wy15).lt (Nat.le_of_eq gy298.symm)
      refine FinW.step (fun _ k => ild3 Xy300 hx hZ ey300 (j := 1) (v := (.int (own_gt (own_vl pd) 1))) ((Vy16.ext Ey298).other Wy300 ney302) ⟨by decide, by decide⟩ (own_lg (own_vlc pd) 1) (hb hby at_120) (Yo.i2c Xy300.here hx (hb hby at_121) rfl k)) ?_
      show FinW p e below s _ _ _ (Ty300.setTop (mkF m 122 #[.val (.long pd), .second, iv pq, iv 3, iv zq, rv by1, rv by298, u_, u_, u_, u_, u_] [(.int ((own_gt (own_vl pd) 1).toUInt32.toUInt16.toUInt32.toInt32)), (.int 1), (.ref by298)]))
      obtain ⟨Ty303, hy303, Xy303, ey303, Wy303, Vy303, Ny303, Zy303, Ky303, sty303⟩ := cst3 Xy300 hx hZ ey300 (j := 1) (x := ((own_gt (own_vl pd) 1).toUInt32.toUInt16.toUInt32.toInt32)) (ix := 1) Vy300 ⟨by decide, by decide⟩ rfl (lb rfl) Ny300 Zy300 Ky300 gzy298 (Or.inr szy298) (hb hby at_122)
      refine FinW.step (sty303) ?_
      refine FinW.step (fun _ k => Yo.iloadN Xy303.here hx (hb hby at_123) rfl (Yo.iconst Xy303.here hx (hb hby at_124) (Yo.icmpNo Xy303.here hx (hb hby at_125) rfl (tlt ((by decide) : ((2 : Int32) < (3 : Int32)))).2.2.2 (Yo.aload Xy303.here hx (hb hby at_128) rfl rfl (Yo.iconst Xy303.here hx (hb hby at_130) (Yo.aload Xy303.here hx (hb hby at_131) rfl rfl (Yo.iconst Xy303.here hx (hb hby at_133) (ild3 Xy303 hx hZ ey303 (j := 2) (v := (.int (own_gt (own_vl pd) 2))) (((Vy16.ext Ey298).other Wy300 ney302).other Wy303 ney302) ⟨by decide, by decide⟩ (own_lg (own_vlc pd) 2) (hb hby at_134) k)))))))) ?_
      refine FinW.step (fun _ k => Yo.i2c Xy303.here hx (hb hby at_135) rfl k) ?_
      show FinW p e below s _ _ _ (Ty303.setTop (mkF m 136 #[.val (.long pd), .second, iv pq, iv 3, iv zq, rv by1, rv by298, u_, u_, u_, u_, u_] [(.int ((own_gt (own_vl pd) 2).toUInt32.toUInt16.toUInt32.toInt32)), (.int 2), (.ref by298)]))
      obtain ⟨Ty305, hy305, Xy305, ey305, Wy305, Vy305, Ny305, Zy305, Ky305, sty305⟩ := cst3 Xy303 hx hZ ey303 (j := 2) (x := ((own_gt (own_vl pd) 2).toUInt32.toUInt16.toUInt32.toInt32)) (ix := 2) Vy303 ⟨by decide, by decide⟩ rfl (lb rfl) Ny303 Zy303 Ky303 gzy298 (Or.inr szy298) (hb hby at_136)
      refine FinW.step (sty305) ?_
      refine FinW.step (fun _ k => Yo.iloadN Xy305.here hx (hb hby at_137) rfl (Yo.iconst Xy305.here hx (hb hby at_138) (Yo.icmpYes Xy305.here hx (pc0 := 139) (pc' := 151) rfl (hb hby at_139) rfl (flt ((by decide) : ¬ ((3 : Int32) < (3 : Int32)))).2.2.2 (by decide) (by decide) (Yo.iloadN Xy305.here hx (hb hby at_151) rfl (Yo.iconst Xy305.here hx (hb hby at_152) (Yo.icmpYes Xy305.here hx (pc0 := 153) (pc' := 165) rfl (hb hby at_153) rfl (flt ((by decide) : ¬ ((4 : Int32) < (3 : Int32)))).2.2.2 (by decide) (by decide) (Yo.iloadN Xy305.here hx (hb hby at_165) rfl (Yo.iconst Xy305.here hx (hb hby at_166) k)))))))) ?_
      refine FinW.step (fun _ k => Yo.icmpYes Xy305.here hx (pc0 := 167) (pc' := 179) rfl (hb hby at_167) rfl (flt ((by decide) : ¬ ((5 : Int32) < (3 : Int32)))).2.2.2 (by decide) (by decide) (Yo.iloadN Xy305.here hx (hb hby at_179) rfl (Yo.bipush Xy305.here hx (hb hby at_180) (Yo.icmpYes Xy305.here hx (pc0 := 182) (pc' := 196) rfl (hb hby at_182) rfl (flt ((by decide) : ¬ ((6 : Int32) < (3 : Int32)))).2.2.2 (by decide) (by decide) k)))) ?_
      have Vy306 : Arv Z hy305 by298 ky298 .char (3 : Int32) (own_xl pd ((3 : Int32)).toNatClampNeg) (.int 0) := castL Vy305 (by rfl)
      have ry307 := ((((Vy16.ext Ey298).other Wy300 ney302).other Wy303 ney302).other Wy305 ney302)
      have ry308 := (Sta_keep HS_java_lang_String_COMPACT_STRINGS Ky305)
      have ry309 := (Sta_keep HS_java_util_ImmutableCollections_EMPTY_MAP Ky305)
      have ry310 := (Sta_keep HS_java_lang_CharacterDataLatin1_instance Ky305)
      have ry311 := (Sta_keep HS_java_lang_CharacterDataLatin1_A Ky305)
      exact J1 _ _ _ (3 : Int32) by298 ky298 by1 ky1 (Xy305.mono (by decide) (by decide)) ey305 Ny305 Zy305 Ky305 ry307 Vy306 ry308 ry309 (HE_em.keep Ky305) ry310 (HE_ci.keep Ky305) ry311 (HV_aa.keep Ky305 nin0) (by decide)
    · show FinW p e below s _ _ _ (Ty15.setTop (mkF m 91 #[.val (.long pd), .second, iv pq, iv 4, iv zq, rv by1, u_, u_, u_, u_, u_, u_] []))
      refine FinW.step (fun _ k => Yo.iloadN Xy15.here hx (hb hby at_91) rfl k) ?_
      obtain ⟨Ty312, hy312, ky312, Xy312, ey312, Ey312, Ay312, sty312⟩ := newP Xy15 hx hZ (W_ hw 6) ey15 (g := (mkF m 92 #[.val (.long pd), .second, iv pq, iv 4, iv zq, rv by1, u_, u_, u_, u_, u_, u_] [(.int 4)])) rfl (hb hby at_92) rfl (by decide) (cap := 4) (by decide) (by decide) (by decide) (by decide)
      obtain ⟨by312, gy312⟩ : ∃ z, z = hy15.size := ⟨_, rfl⟩
      rw [← gy312] at Ay312 sty312
      have gzy312 : n0 ≤ by312 := Nat.le_trans Zy15 (Nat.le_of_eq gy312.symm)
      have szy312 : h0.size ≤ by312 := Nat.le_trans Ky15.1 (Nat.le_of_eq gy312.symm)
      have Zy312 := Nat.le_trans Zy15 Ey312.1
      have Ky312 := Ky15.ext Ey312
      have Vy312 : Arv Z hy312 by312 ky312 .char (4 : Int32) [(.int 0), (.int 0), (.int 0), (.int 0)] (.int 0) := (Arv.new Ay312 (by decide)).pad (pad_rep [] (.int 0) 4)
      refine FinW.step (sty312) ?_
      show FinW p e below s _ _ _ (Ty312.setTop (mkF m 94 #[.val (.long pd), .second, iv pq, iv 4, iv zq, rv by1, u_, u_, u_, u_, u_, u_] [(.ref by312)]))
      refine FinW.step (fun _ k => Yo.astore Xy312.here hx (hb hby at_94) rfl rfl (l' := #[.val (.long pd), .second, iv pq, iv 4, iv zq, rv by1, rv by312, u_, u_, u_, u_, u_]) rfl (Yo.iloadN Xy312.here hx (hb hby at_96) rfl (Yo.ifNo Xy312.here hx (hb hby at_97) rfl ((if0 _ _).trans (tlt ((by decide) : ((0 : Int32) < (4 : Int32)))).2.2.2) (Yo.aload Xy312.here hx (hb hby at_100) rfl rfl (Yo.iconst Xy312.here hx (hb hby at_102) (Yo.aload Xy312.here hx (hb hby at_103) rfl rfl (Yo.iconst Xy312.here hx (hb hby at_105) (ild3 Xy312 hx hZ ey312 (j := 0) (v := (.int (own_gt (own_vl pd) 0))) (Vy16.ext Ey312) ⟨by decide, by decide⟩ (own_lg (own_vlc pd) 0) (hb hby at_106) k)))))))) ?_
      refine FinW.step (fun _ k => Yo.i2c Xy312.here hx (hb hby at_107) rfl k) ?_
      show FinW p e below s _ _ _ (Ty312.setTop (mkF m 108 #[.val (.long pd), .second, iv pq, iv 4, iv zq, rv by1, rv by312, u_, u_, u_, u_, u_] [(.int ((own_gt (own_vl pd) 0).toUInt32.toUInt16.toUInt32.toInt32)), (.int 0), (.ref by312)]))
      obtain ⟨Ty314, hy314, Xy314, ey314, Wy314, Vy314, Ny314, Zy314, Ky314, sty314⟩ := cst3 Xy312 hx hZ ey312 (j := 0) (x := ((own_gt (own_vl pd) 0).toUInt32.toUInt16.toUInt32.toInt32)) (ix := 0) Vy312 ⟨by decide, by decide⟩ rfl (lb rfl) Ny15 Zy312 Ky312 gzy312 (Or.inr szy312) (hb hby at_108)
      refine FinW.step (sty314) ?_
      refine FinW.step (fun _ k => Yo.iloadN Xy314.here hx (hb hby at_109) rfl (Yo.iconst Xy314.here hx (hb hby at_110) (Yo.icmpNo Xy314.here hx (hb hby at_111) rfl (tlt ((by decide) : ((1 : Int32) < (4 : Int32)))).2.2.2 (Yo.aload Xy314.here hx (hb hby at_114) rfl rfl (Yo.iconst Xy314.here hx (hb hby at_116) (Yo.aload Xy314.here hx (hb hby at_117) rfl rfl (Yo.iconst Xy314.here hx (hb hby at_119) k))))))) ?_
      have ney316 := nlt (((((((((((((((nsV Vy1).keep Kcy2).wr Wy3).keep Kcy4).wr Wy5).keep Kcy6).wr Wy7).keep Kcy8).wr Wy9).keep Kcy10).wr Wy11).keep Kcy12).wr Wy13).keep Kcy14).wr Wy15).lt (Nat.le_of_eq gy312.symm)
      refine FinW.step (fun _ k => ild3 Xy314 hx hZ ey314 (j := 1) (v := (.int (own_gt (own_vl pd) 1))) ((Vy16.ext Ey312).other Wy314 ney316) ⟨by decide, by decide⟩ (own_lg (own_vlc pd) 1) (hb hby at_120) (Yo.i2c Xy314.here hx (hb hby at_121) rfl k)) ?_
      show FinW p e below s _ _ _ (Ty314.setTop (mkF m 122 #[.val (.long pd), .second, iv pq, iv 4, iv zq, rv by1, rv by312, u_, u_, u_, u_, u_] [(.int ((own_gt (own_vl pd) 1).toUInt32.toUInt16.toUInt32.toInt32)), (.int 1), (.ref by312)]))
      obtain ⟨Ty317, hy317, Xy317, ey317, Wy317, Vy317, Ny317, Zy317, Ky317, sty317⟩ := cst3 Xy314 hx hZ ey314 (j := 1) (x := ((own_gt (own_vl pd) 1).toUInt32.toUInt16.toUInt32.toInt32)) (ix := 1) Vy314 ⟨by decide, by decide⟩ rfl (lb rfl) Ny314 Zy314 Ky314 gzy312 (Or.inr szy312) (hb hby at_122)
      refine FinW.step (sty317) ?_
      refine FinW.step (fun _ k => Yo.iloadN Xy317.here hx (hb hby at_123) rfl (Yo.iconst Xy317.here hx (hb hby at_124) (Yo.icmpNo Xy317.here hx (hb hby at_125) rfl (tlt ((by decide) : ((2 : Int32) < (4 : Int32)))).2.2.2 (Yo.aload Xy317.here hx (hb hby at_128) rfl rfl (Yo.iconst Xy317.here hx (hb hby at_130) (Yo.aload Xy317.here hx (hb hby at_131) rfl rfl (Yo.iconst Xy317.here hx (hb hby at_133) (ild3 Xy317 hx hZ ey317 (j := 2) (v := (.int (own_gt (own_vl pd) 2))) (((Vy16.ext Ey312).other Wy314 ney316).other Wy317 ney316) ⟨by decide, by decide⟩ (own_lg (own_vlc pd) 2) (hb hby at_134) k)))))))) ?_
      refine FinW.step (fun _ k => Yo.i2c Xy317.here hx (hb hby at_135) rfl k) ?_
      show FinW p e below s _ _ _ (Ty317.setTop (mkF m 136 #[.val (.long pd), .second, iv pq, iv 4, iv zq, rv by1, rv by312, u_, u_, u_, u_, u_] [(.int ((own_gt (own_vl pd) 2).toUInt32.toUInt16.toUInt32.toInt32)), (.int 2), (.ref by312)]))
      obtain ⟨Ty319, hy319, Xy319, ey319, Wy319, Vy319, Ny319, Zy319, Ky319, sty319⟩ := cst3 Xy317 hx hZ ey317 (j := 2) (x := ((own_gt (own_vl pd) 2).toUInt32.toUInt16.toUInt32.toInt32)) (ix := 2) Vy317 ⟨by decide, by decide⟩ rfl (lb rfl) Ny317 Zy317 Ky317 gzy312 (Or.inr szy312) (hb hby at_136)
      refine FinW.step (sty319) ?_
      refine FinW.step (fun _ k => Yo.iloadN Xy319.here hx (hb hby at_137) rfl (Yo.iconst Xy319.here hx (hb hby at_138) (Yo.icmpNo Xy319.here hx (hb hby at_139) rfl (tlt ((by decide) : ((3 : Int32) < (4 : Int32)))).2.2.2 (Yo.aload Xy319.here hx (hb hby at_142) rfl rfl (Yo.iconst Xy319.here hx (hb hby at_144) (Yo.aload Xy319.here hx (hb hby at_145) rfl rfl (Yo.iconst Xy319.here hx (hb hby at_147) (ild3 Xy319 hx hZ ey319 (j := 3) (v := (.int (own_gt (own_vl pd) 3))) ((((Vy16.ext Ey312).other Wy314 ney316).other Wy317 ney316).other Wy319 ney316) ⟨by decide, by decide⟩ (own_lg (own_vlc pd) 3) (hb hby at_148) k)))))))) ?_
      refine FinW.step (fun _ k => Yo.i2c Xy319.here hx (hb hby at_149) rfl k) ?_
      show FinW p e below s _ _ _ (Ty319.setTop (mkF m 150 #[.val (.long pd), .second, iv pq, iv 4, iv zq, rv by1, rv by312, u_, u_, u_, u_, u_] [(.int ((own_gt (own_vl pd) 3).toUInt32.toUInt16.toUInt32.toInt32)), (.int 3), (.ref by312)]))
      obtain ⟨Ty321, hy321, Xy321, ey321, Wy321, Vy321, Ny321, Zy321, Ky321, sty321⟩ := cst3 Xy319 hx hZ ey319 (j := 3) (x := ((own_gt (own_vl pd) 3).toUInt32.toUInt16.toUInt32.toInt32)) (ix := 3) Vy319 ⟨by decide, by decide⟩ rfl (lb rfl) Ny319 Zy319 Ky319 gzy312 (Or.inr szy312) (hb hby at_150)
      refine FinW.step (sty321) ?_
      refine FinW.step (fun _ k => Yo.iloadN Xy321.here hx (hb hby at_151) rfl (Yo.iconst Xy321.here hx (hb hby at_152) (Yo.icmpYes Xy321.here hx (pc0 := 153) (pc' := 165) rfl (hb hby at_153) rfl (flt ((by decide) : ¬ ((4 : Int32) < (4 : Int32)))).2.2.2 (by decide) (by decide) (Yo.iloadN Xy321.here hx (hb hby at_165) rfl (Yo.iconst Xy321.here hx (hb hby at_166) (Yo.icmpYes Xy321.here hx (pc0 := 167) (pc' := 179) rfl (hb hby at_167) rfl (flt ((by decide) : ¬ ((5 : Int32) < (4 : Int32)))).2.2.2 (by decide) (by decide) (Yo.iloadN Xy321.here hx (hb hby at_179) rfl (Yo.bipush Xy321.here hx (hb hby at_180) k)))))))) ?_
      refine FinW.step (fun _ k => Yo.icmpYes Xy321.here hx (pc0 := 182) (pc' := 196) rfl (hb hby at_182) rfl (flt ((by decide) : ¬ ((6 : Int32) < (4 : Int32)))).2.2.2 (by decide) (by decide) k) ?_
      have Vy322 : Arv Z hy321 by312 ky312 .char (4 : Int32) (own_xl pd ((4 : Int32)).toNatClampNeg) (.int 0) := castL Vy321 (by rfl)
      have ry323 := (((((Vy16.ext Ey312).other Wy314 ney316).other Wy317 ney316).other Wy319 ney316).other Wy321 ney316)
      have ry324 := (Sta_keep HS_java_lang_String_COMPACT_STRINGS Ky321)
      have ry325 := (Sta_keep HS_java_util_ImmutableCollections_EMPTY_MAP Ky321)
      have ry326 := (Sta_keep HS_java_lang_CharacterDataLatin1_instance Ky321)
      have ry327 := (Sta_keep HS_java_lang_CharacterDataLatin1_A Ky321)
      exact J1 _ _ _ (4 : Int32) by312 ky312 by1 ky1 (Xy321.mono (by decide) (by decide)) ey321 Ny321 Zy321 Ky321 ry323 Vy322 ry324 ry325 (HE_em.keep Ky321) ry326 (HE_ci.keep Ky321) ry327 (HV_aa.keep Ky321 nin0) (by decide)
    · show FinW p e below s _ _ _ (Ty15.setTop (mkF m 91 #[.val (.long pd), .second, iv pq, iv 5, iv zq, rv by1, u_, u_, u_, u_, u_, u_] []))
      refine FinW.step (fun _ k => Yo.iloadN Xy15.here hx (hb hby at_91) rfl k) ?_
      obtain ⟨Ty328, hy328, ky328, Xy328, ey328, Ey328, Ay328, sty328⟩ := newP Xy15 hx hZ (W_ hw 6) ey15 (g := (mkF m 92 #[.val (.long pd), .second, iv pq, iv 5, iv zq, rv by1, u_, u_, u_, u_, u_, u_] [(.int 5)])) rfl (hb hby at_92) rfl (by decide) (cap := 5) (by decide) (by decide) (by decide) (by decide)
      obtain ⟨by328, gy328⟩ : ∃ z, z = hy15.size := ⟨_, rfl⟩
      rw [← gy328] at Ay328 sty328
      have gzy328 : n0 ≤ by328 := Nat.le_trans Zy15 (Nat.le_of_eq gy328.symm)
      have szy328 : h0.size ≤ by328 := Nat.le_trans Ky15.1 (Nat.le_of_eq gy328.symm)
      have Zy328 := Nat.le_trans Zy15 Ey328.1
      have Ky328 := Ky15.ext Ey328
      have Vy328 : Arv Z hy328 by328 ky328 .char (5 : Int32) [(.int 0), (.int 0), (.int 0), (.int 0), (.int 0)] (.int 0) := (Arv.new Ay328 (by decide)).pad (pad_rep [] (.int 0) 5)
      refine FinW.step (sty328) ?_
      show FinW p e below s _ _ _ (Ty328.setTop (mkF m 94 #[.val (.long pd), .second, iv pq, iv 5, iv zq, rv by1, u_, u_, u_, u_, u_, u_] [(.ref by328)]))
      refine FinW.step (fun _ k => Yo.astore Xy328.here hx (hb hby at_94) rfl rfl (l' := #[.val (.long pd), .second, iv pq, iv 5, iv zq, rv by1, rv by328, u_, u_, u_, u_, u_]) rfl (Yo.iloadN Xy328.here hx (hb hby at_96) rfl (Yo.ifNo Xy328.here hx (hb hby at_97) rfl ((if0 _ _).trans (tlt ((by decide) : ((0 : Int32) < (5 : Int32)))).2.2.2) (Yo.aload Xy328.here hx (hb hby at_100) rfl rfl (Yo.iconst Xy328.here hx (hb hby at_102) (Yo.aload Xy328.here hx (hb hby at_103) rfl rfl (Yo.iconst Xy328.here hx (hb hby at_105) (ild3 Xy328 hx hZ ey328 (j := 0) (v := (.int (own_gt (own_vl pd) 0))) (Vy16.ext Ey328) ⟨by decide, by decide⟩ (own_lg (own_vlc pd) 0) (hb hby at_106) k)))))))) ?_
      refine FinW.step (fun _ k => Yo.i2c Xy328.here hx (hb hby at_107) rfl k) ?_
      show FinW p e below s _ _ _ (Ty328.setTop (mkF m 108 #[.val (.long pd), .second, iv pq, iv 5, iv zq, rv by1, rv by328, u_, u_, u_, u_, u_] [(.int ((own_gt (own_vl pd) 0).toUInt32.toUInt16.toUInt32.toInt32)), (.int 0), (.ref by328)]))
      obtain ⟨Ty330, hy330, Xy330, ey330, Wy330, Vy330, Ny330, Zy330, Ky330, sty330⟩ := cst3 Xy328 hx hZ ey328 (j := 0) (x := ((own_gt (own_vl pd) 0).toUInt32.toUInt16.toUInt32.toInt32)) (ix := 0) Vy328 ⟨by decide, by decide⟩ rfl (lb rfl) Ny15 Zy328 Ky328 gzy328 (Or.inr szy328) (hb hby at_108)
      refine FinW.step (sty330) ?_
      refine FinW.step (fun _ k => Yo.iloadN Xy330.here hx (hb hby at_109) rfl (Yo.iconst Xy330.here hx (hb hby at_110) (Yo.icmpNo Xy330.here hx (hb hby at_111) rfl (tlt ((by decide) : ((1 : Int32) < (5 : Int32)))).2.2.2 (Yo.aload Xy330.here hx (hb hby at_114) rfl rfl (Yo.iconst Xy330.here hx (hb hby at_116) (Yo.aload Xy330.here hx (hb hby at_117) rfl rfl (Yo.iconst Xy330.here hx (hb hby at_119) k))))))) ?_
      have ney332 := nlt (((((((((((((((nsV Vy1).keep Kcy2).wr Wy3).keep Kcy4).wr Wy5).keep Kcy6).wr Wy7).keep Kcy8).wr Wy9).keep Kcy10).wr Wy11).keep Kcy12).wr Wy13).keep Kcy14).wr Wy15).lt (Nat.le_of_eq gy328.symm)
      refine FinW.step (fun _ k => ild3 Xy330 hx hZ ey330 (j := 1) (v := (.int (own_gt (own_vl pd) 1))) ((Vy16.ext Ey328).other Wy330 ney332) ⟨by decide, by decide⟩ (own_lg (own_vlc pd) 1) (hb hby at_120) (Yo.i2c Xy330.here hx (hb hby at_121) rfl k)) ?_
      show FinW p e below s _ _ _ (Ty330.setTop (mkF m 122 #[.val (.long pd), .second, iv pq, iv 5, iv zq, rv by1, rv by328, u_, u_, u_, u_, u_] [(.int ((own_gt (own_vl pd) 1).toUInt32.toUInt16.toUInt32.toInt32)), (.int 1), (.ref by328)]))
      obtain ⟨Ty333, hy333, Xy333, ey333, Wy333, Vy333, Ny333, Zy333, Ky333, sty333⟩ := cst3 Xy330 hx hZ ey330 (j := 1) (x := ((own_gt (own_vl pd) 1).toUInt32.toUInt16.toUInt32.toInt32)) (ix := 1) Vy330 ⟨by decide, by decide⟩ rfl (lb rfl) Ny330 Zy330 Ky330 gzy328 (Or.inr szy328) (hb hby at_122)
      refine FinW.step (sty333) ?_
      refine FinW.step (fun _ k => Yo.iloadN Xy333.here hx (hb hby at_123) rfl (Yo.iconst Xy333.here hx (hb hby at_124) (Yo.icmpNo Xy333.here hx (hb hby at_125) rfl (tlt ((by decide) : ((2 : Int32) < (5 : Int32)))).2.2.2 (Yo.aload Xy333.here hx (hb hby at_128) rfl rfl (Yo.iconst Xy333.here hx (hb hby at_130) (Yo.aload Xy333.here hx (hb hby at_131) rfl rfl (Yo.iconst Xy333.here hx (hb hby at_133) (ild3 Xy333 hx hZ ey333 (j := 2) (v := (.int (own_gt (own_vl pd) 2))) (((Vy16.ext Ey328).other Wy330 ney332).other Wy333 ney332) ⟨by decide, by decide⟩ (own_lg (own_vlc pd) 2) (hb hby at_134) k)))))))) ?_
      refine FinW.step (fun _ k => Yo.i2c Xy333.here hx (hb hby at_135) rfl k) ?_
      show FinW p e below s _ _ _ (Ty333.setTop (mkF m 136 #[.val (.long pd), .second, iv pq, iv 5, iv zq, rv by1, rv by328, u_, u_, u_, u_, u_] [(.int ((own_gt (own_vl pd) 2).toUInt32.toUInt16.toUInt32.toInt32)), (.int 2), (.ref by328)]))
      obtain ⟨Ty335, hy335, Xy335, ey335, Wy335, Vy335, Ny335, Zy335, Ky335, sty335⟩ := cst3 Xy333 hx hZ ey333 (j := 2) (x := ((own_gt (own_vl pd) 2).toUInt32.toUInt16.toUInt32.toInt32)) (ix := 2) Vy333 ⟨by decide, by decide⟩ rfl (lb rfl) Ny333 Zy333 Ky333 gzy328 (Or.inr szy328) (hb hby at_136)
      refine FinW.step (sty335) ?_
      refine FinW.step (fun _ k => Yo.iloadN Xy335.here hx (hb hby at_137) rfl (Yo.iconst Xy335.here hx (hb hby at_138) (Yo.icmpNo Xy335.here hx (hb hby at_139) rfl (tlt ((by decide) : ((3 : Int32) < (5 : Int32)))).2.2.2 (Yo.aload Xy335.here hx (hb hby at_142) rfl rfl (Yo.iconst Xy335.here hx (hb hby at_144) (Yo.aload Xy335.here hx (hb hby at_145) rfl rfl (Yo.iconst Xy335.here hx (hb hby at_147) (ild3 Xy335 hx hZ ey335 (j := 3) (v := (.int (own_gt (own_vl pd) 3))) ((((Vy16.ext Ey328).other Wy330 ney332).other Wy333 ney332).other Wy335 ney332) ⟨by decide, by decide⟩ (own_lg (own_vlc pd) 3) (hb hby at_148) k)))))))) ?_
      refine FinW.step (fun _ k => Yo.i2c Xy335.here hx (hb hby at_149) rfl k) ?_
      show FinW p e below s _ _ _ (Ty335.setTop (mkF m 150 #[.val (.long pd), .second, iv pq, iv 5, iv zq, rv by1, rv by328, u_, u_, u_, u_, u_] [(.int ((own_gt (own_vl pd) 3).toUInt32.toUInt16.toUInt32.toInt32)), (.int 3), (.ref by328)]))
      obtain ⟨Ty337, hy337, Xy337, ey337, Wy337, Vy337, Ny337, Zy337, Ky337, sty337⟩ := cst3 Xy335 hx hZ ey335 (j := 3) (x := ((own_gt (own_vl pd) 3).toUInt32.toUInt16.toUInt32.toInt32)) (ix := 3) Vy335 ⟨by decide, by decide⟩ rfl (lb rfl) Ny335 Zy335 Ky335 gzy328 (Or.inr szy328) (hb hby at_150)
      refine FinW.step (sty337) ?_
      refine FinW.step (fun _ k => Yo.iloadN Xy337.here hx (hb hby at_151) rfl (Yo.iconst Xy337.here hx (hb hby at_152) (Yo.icmpNo Xy337.here hx (hb hby at_153) rfl (tlt ((by decide) : ((4 : Int32) < (5 : Int32)))).2.2.2 (Yo.aload Xy337.here hx (hb hby at_156) rfl rfl (Yo.iconst Xy337.here hx (hb hby at_158) (Yo.aload Xy337.here hx (hb hby at_159) rfl rfl (Yo.iconst Xy337.here hx (hb hby at_161) (ild3 Xy337 hx hZ ey337 (j := 4) (v := (.int (own_gt (own_vl pd) 4))) (((((Vy16.ext Ey328).other Wy330 ney332).other Wy333 ney332).other Wy335 ney332).other Wy337 ney332) ⟨by decide, by decide⟩ (own_lg (own_vlc pd) 4) (hb hby at_162) k)))))))) ?_
      refine FinW.step (fun _ k => Yo.i2c Xy337.here hx (hb hby at_163) rfl k) ?_
      show FinW p e below s _ _ _ (Ty337.setTop (mkF m 164 #[.val (.long pd), .second, iv pq, iv 5, iv zq, rv by1, rv by328, u_, u_, u_, u_, u_] [(.int ((own_gt (own_vl pd) 4).toUInt32.toUInt16.toUInt32.toInt32)), (.int 4), (.ref by328)]))
      obtain ⟨Ty339, hy339, Xy339, ey339, Wy339, Vy339, Ny339, Zy339, Ky339, sty339⟩ := cst3 Xy337 hx hZ ey337 (j := 4) (x := ((own_gt (own_vl pd) 4).toUInt32.toUInt16.toUInt32.toInt32)) (ix := 4) Vy337 ⟨by decide, by decide⟩ rfl (lb rfl) Ny337 Zy337 Ky337 gzy328 (Or.inr szy328) (hb hby at_164)
      refine FinW.step (sty339) ?_
      refine FinW.step (fun _ k => Yo.iloadN Xy339.here hx (hb hby at_165) rfl (Yo.iconst Xy339.here hx (hb hby at_166) (Yo.icmpYes Xy339.here hx (pc0 := 167) (pc' := 179) rfl (hb hby at_167) rfl (flt ((by decide) : ¬ ((5 : Int32) < (5 : Int32)))).2.2.2 (by decide) (by decide) (Yo.iloadN Xy339.here hx (hb hby at_179) rfl (Yo.bipush Xy339.here hx (hb hby at_180) (Yo.icmpYes Xy339.here hx (pc0 := 182) (pc' := 196) rfl (hb hby at_182) rfl (flt ((by decide) : ¬ ((6 : Int32) < (5 : Int32)))).2.2.2 (by decide) (by decide) k)))))) ?_
      have Vy340 : Arv Z hy339 by328 ky328 .char (5 : Int32) (own_xl pd ((5 : Int32)).toNatClampNeg) (.int 0) := castL Vy339 (by rfl)
      have ry341 := ((((((Vy16.ext Ey328).other Wy330 ney332).other Wy333 ney332).other Wy335 ney332).other Wy337 ney332).other Wy339 ney332)
      have ry342 := (Sta_keep HS_java_lang_String_COMPACT_STRINGS Ky339)
      have ry343 := (Sta_keep HS_java_util_ImmutableCollections_EMPTY_MAP Ky339)
      have ry344 := (Sta_keep HS_java_lang_CharacterDataLatin1_instance Ky339)
      have ry345 := (Sta_keep HS_java_lang_CharacterDataLatin1_A Ky339)
      exact J1 _ _ _ (5 : Int32) by328 ky328 by1 ky1 (Xy339.mono (by decide) (by decide)) ey339 Ny339 Zy339 Ky339 ry341 Vy340 ry342 ry343 (HE_em.keep Ky339) ry344 (HE_ci.keep Ky339) ry345 (HV_aa.keep Ky339 nin0) (by decide)
    · show FinW p e below s _ _ _ (Ty15.setTop (mkF m 91 #[.val (.long pd), .second, iv pq, iv 6, iv zq, rv by1, u_, u_, u_, u_, u_, u_] []))
      refine FinW.step (fun _ k => Yo.iloadN Xy15.here hx (hb hby at_91) rfl k) ?_
      obtain ⟨Ty346, hy346, ky346, Xy346, ey346, Ey346, Ay346, sty346⟩ := newP Xy15 hx hZ (W_ hw 6) ey15 (g := (mkF m 92 #[.val (.long pd), .second, iv pq, iv 6, iv zq, rv by1, u_, u_, u_, u_, u_, u_] [(.int 6)])) rfl (hb hby at_92) rfl (by decide) (cap := 6) (by decide) (by decide) (by decide) (by decide)
      obtain ⟨by346, gy346⟩ : ∃ z, z = hy15.size := ⟨_, rfl⟩
      rw [← gy346] at Ay346 sty346
      have gzy346 : n0 ≤ by346 := Nat.le_trans Zy15 (Nat.le_of_eq gy346.symm)
      have szy346 : h0.size ≤ by346 := Nat.le_trans Ky15.1 (Nat.le_of_eq gy346.symm)
      have Zy346 := Nat.le_trans Zy15 Ey346.1
      have Ky346 := Ky15.ext Ey346
      have Vy346 : Arv Z hy346 by346 ky346 .char (6 : Int32) [(.int 0), (.int 0), (.int 0), (.int 0), (.int 0), (.int 0)] (.int 0) := (Arv.new Ay346 (by decide)).pad (pad_rep [] (.int 0) 6)
      refine FinW.step (sty346) ?_
      show FinW p e below s _ _ _ (Ty346.setTop (mkF m 94 #[.val (.long pd), .second, iv pq, iv 6, iv zq, rv by1, u_, u_, u_, u_, u_, u_] [(.ref by346)]))
      refine FinW.step (fun _ k => Yo.astore Xy346.here hx (hb hby at_94) rfl rfl (l' := #[.val (.long pd), .second, iv pq, iv 6, iv zq, rv by1, rv by346, u_, u_, u_, u_, u_]) rfl (Yo.iloadN Xy346.here hx (hb hby at_96) rfl (Yo.ifNo Xy346.here hx (hb hby at_97) rfl ((if0 _ _).trans (tlt ((by decide) : ((0 : Int32) < (6 : Int32)))).2.2.2) (Yo.aload Xy346.here hx (hb hby at_100) rfl rfl (Yo.iconst Xy346.here hx (hb hby at_102) (Yo.aload Xy346.here hx (hb hby at_103) rfl rfl (Yo.iconst Xy346.here hx (hb hby at_105) (ild3 Xy346 hx hZ ey346 (j := 0) (v := (.int (own_gt (own_vl pd) 0))) (Vy16.ext Ey346) ⟨by decide, by decide⟩ (own_lg (own_vlc pd) 0) (hb hby at_106) k)))))))) ?_
      refine FinW.step (fun _ k => Yo.i2c Xy346.here hx (hb hby at_107) rfl k) ?_
      show FinW p e below s _ _ _ (Ty346.setTop (mkF m 108 #[.val (.long pd), .second, iv pq, iv 6, iv zq, rv by1, rv by346, u_, u_, u_, u_, u_] [(.int ((own_gt (own_vl pd) 0).toUInt32.toUInt16.toUInt32.toInt32)), (.int 0), (.ref by346)]))
      obtain ⟨Ty348, hy348, Xy348, ey348, Wy348, Vy348, Ny348, Zy348, Ky348, sty348⟩ := cst3 Xy346 hx hZ ey346 (j := 0) (x := ((own_gt (own_vl pd) 0).toUInt32.toUInt16.toUInt32.toInt32)) (ix := 0) Vy346 ⟨by decide, by decide⟩ rfl (lb rfl) Ny15 Zy346 Ky346 gzy346 (Or.inr szy346) (hb hby at_108)
      refine FinW.step (sty348) ?_
      refine FinW.step (fun _ k => Yo.iloadN Xy348.here hx (hb hby at_109) rfl (Yo.iconst Xy348.here hx (hb hby at_110) (Yo.icmpNo Xy348.here hx (hb hby at_111) rfl (tlt ((by decide) : ((1 : Int32) < (6 : Int32)))).2.2.2 (Yo.aload Xy348.here hx (hb hby at_114) rfl rfl (Yo.iconst Xy348.here hx (hb hby at_116) (Yo.aload Xy348.here hx (hb hby at_117) rfl rfl (Yo.iconst Xy348.here hx (hb hby at_119) k))))))) ?_
      have ney350 := nlt (((((((((((((((nsV Vy1).keep Kcy2).wr Wy3).keep Kcy4).wr Wy5).keep Kcy6).wr Wy7).keep Kcy8).wr Wy9).keep Kcy10).wr Wy11).keep Kcy12).wr Wy13).keep Kcy14).wr Wy15).lt (Nat.le_of_eq gy346.symm)
      refine FinW.step (fun _ k => ild3 Xy348 hx hZ ey348 (j := 1) (v := (.int (own_gt (own_vl pd) 1))) ((Vy16.ext Ey346).other Wy348 ney350) ⟨by decide, by decide⟩ (own_lg (own_vlc pd) 1) (hb hby at_120) (Yo.i2c Xy348.here hx (hb hby at_121) rfl k)) ?_
      show FinW p e below s _ _ _ (Ty348.setTop (mkF m 122 #[.val (.long pd), .second, iv pq, iv 6, iv zq, rv by1, rv by346, u_, u_, u_, u_, u_] [(.int ((own_gt (own_vl pd) 1).toUInt32.toUInt16.toUInt32.toInt32)), (.int 1), (.ref by346)]))
      obtain ⟨Ty351, hy351, Xy351, ey351, Wy351, Vy351, Ny351, Zy351, Ky351, sty351⟩ := cst3 Xy348 hx hZ ey348 (j := 1) (x := ((own_gt (own_vl pd) 1).toUInt32.toUInt16.toUInt32.toInt32)) (ix := 1) Vy348 ⟨by decide, by decide⟩ rfl (lb rfl) Ny348 Zy348 Ky348 gzy346 (Or.inr szy346) (hb hby at_122)
      refine FinW.step (sty351) ?_
      refine FinW.step (fun _ k => Yo.iloadN Xy351.here hx (hb hby at_123) rfl (Yo.iconst Xy351.here hx (hb hby at_124) (Yo.icmpNo Xy351.here hx (hb hby at_125) rfl (tlt ((by decide) : ((2 : Int32) < (6 : Int32)))).2.2.2 (Yo.aload Xy351.here hx (hb hby at_128) rfl rfl (Yo.iconst Xy351.here hx (hb hby at_130) (Yo.aload Xy351.here hx (hb hby at_131) rfl rfl (Yo.iconst Xy351.here hx (hb hby at_133) (ild3 Xy351 hx hZ ey351 (j := 2) (v := (.int (own_gt (own_vl pd) 2))) (((Vy16.ext Ey346).other Wy348 ney350).other Wy351 ney350) ⟨by decide, by decide⟩ (own_lg (own_vlc pd) 2) (hb hby at_134) k)))))))) ?_
      refine FinW.step (fun _ k => Yo.i2c Xy351.here hx (hb hby at_135) rfl k) ?_
      show FinW p e below s _ _ _ (Ty351.setTop (mkF m 136 #[.val (.long pd), .second, iv pq, iv 6, iv zq, rv by1, rv by346, u_, u_, u_, u_, u_] [(.int ((own_gt (own_vl pd) 2).toUInt32.toUInt16.toUInt32.toInt32)), (.int 2), (.ref by346)]))
      obtain ⟨Ty353, hy353, Xy353, ey353, Wy353, Vy353, Ny353, Zy353, Ky353, sty353⟩ := cst3 Xy351 hx hZ ey351 (j := 2) (x := ((own_gt (own_vl pd) 2).toUInt32.toUInt16.toUInt32.toInt32)) (ix := 2) Vy351 ⟨by decide, by decide⟩ rfl (lb rfl) Ny351 Zy351 Ky351 gzy346 (Or.inr szy346) (hb hby at_136)
      refine FinW.step (sty353) ?_
      refine FinW.step (fun _ k => Yo.iloadN Xy353.here hx (hb hby at_137) rfl (Yo.iconst Xy353.here hx (hb hby at_138) (Yo.icmpNo Xy353.here hx (hb hby at_139) rfl (tlt ((by decide) : ((3 : Int32) < (6 : Int32)))).2.2.2 (Yo.aload Xy353.here hx (hb hby at_142) rfl rfl (Yo.iconst Xy353.here hx (hb hby at_144) (Yo.aload Xy353.here hx (hb hby at_145) rfl rfl (Yo.iconst Xy353.here hx (hb hby at_147) (ild3 Xy353 hx hZ ey353 (j := 3) (v := (.int (own_gt (own_vl pd) 3))) ((((Vy16.ext Ey346).other Wy348 ney350).other Wy351 ney350).other Wy353 ney350) ⟨by decide, by decide⟩ (own_lg (own_vlc pd) 3) (hb hby at_148) k)))))))) ?_
      refine FinW.step (fun _ k => Yo.i2c Xy353.here hx (hb hby at_149) rfl k) ?_
      show FinW p e below s _ _ _ (Ty353.setTop (mkF m 150 #[.val (.long pd), .second, iv pq, iv 6, iv zq, rv by1, rv by346, u_, u_, u_, u_, u_] [(.int ((own_gt (own_vl pd) 3).toUInt32.toUInt16.toUInt32.toInt32)), (.int 3), (.ref by346)]))
      obtain ⟨Ty355, hy355, Xy355, ey355, Wy355, Vy355, Ny355, Zy355, Ky355, sty355⟩ := cst3 Xy353 hx hZ ey353 (j := 3) (x := ((own_gt (own_vl pd) 3).toUInt32.toUInt16.toUInt32.toInt32)) (ix := 3) Vy353 ⟨by decide, by decide⟩ rfl (lb rfl) Ny353 Zy353 Ky353 gzy346 (Or.inr szy346) (hb hby at_150)
      refine FinW.step (sty355) ?_
      refine FinW.step (fun _ k => Yo.iloadN Xy355.here hx (hb hby at_151) rfl (Yo.iconst Xy355.here hx (hb hby at_152) (Yo.icmpNo Xy355.here hx (hb hby at_153) rfl (tlt ((by decide) : ((4 : Int32) < (6 : Int32)))).2.2.2 (Yo.aload Xy355.here hx (hb hby at_156) rfl rfl (Yo.iconst Xy355.here hx (hb hby at_158) (Yo.aload Xy355.here hx (hb hby at_159) rfl rfl (Yo.iconst Xy355.here hx (hb hby at_161) (ild3 Xy355 hx hZ ey355 (j := 4) (v := (.int (own_gt (own_vl pd) 4))) (((((Vy16.ext Ey346).other Wy348 ney350).other Wy351 ney350).other Wy353 ney350).other Wy355 ney350) ⟨by decide, by decide⟩ (own_lg (own_vlc pd) 4) (hb hby at_162) k)))))))) ?_
      refine FinW.step (fun _ k => Yo.i2c Xy355.here hx (hb hby at_163) rfl k) ?_
      show FinW p e below s _ _ _ (Ty355.setTop (mkF m 164 #[.val (.long pd), .second, iv pq, iv 6, iv zq, rv by1, rv by346, u_, u_, u_, u_, u_] [(.int ((own_gt (own_vl pd) 4).toUInt32.toUInt16.toUInt32.toInt32)), (.int 4), (.ref by346)]))
      obtain ⟨Ty357, hy357, Xy357, ey357, Wy357, Vy357, Ny357, Zy357, Ky357, sty357⟩ := cst3 Xy355 hx hZ ey355 (j := 4) (x := ((own_gt (own_vl pd) 4).toUInt32.toUInt16.toUInt32.toInt32)) (ix := 4) Vy355 ⟨by decide, by decide⟩ rfl (lb rfl) Ny355 Zy355 Ky355 gzy346 (Or.inr szy346) (hb hby at_164)
      refine FinW.step (sty357) ?_
      refine FinW.step (fun _ k => Yo.iloadN Xy357.here hx (hb hby at_165) rfl (Yo.iconst Xy357.here hx (hb hby at_166) (Yo.icmpNo Xy357.here hx (hb hby at_167) rfl (tlt ((by decide) : ((5 : Int32) < (6 : Int32)))).2.2.2 (Yo.aload Xy357.here hx (hb hby at_170) rfl rfl (Yo.iconst Xy357.here hx (hb hby at_172) (Yo.aload Xy357.here hx (hb hby at_173) rfl rfl (Yo.iconst Xy357.here hx (hb hby at_175) (ild3 Xy357 hx hZ ey357 (j := 5) (v := (.int (own_gt (own_vl pd) 5))) ((((((Vy16.ext Ey346).other Wy348 ney350).other Wy351 ney350).other Wy353 ney350).other Wy355 ney350).other Wy357 ney350) ⟨by decide, by decide⟩ (own_lg (own_vlc pd) 5) (hb hby at_176) k)))))))) ?_
      refine FinW.step (fun _ k => Yo.i2c Xy357.here hx (hb hby at_177) rfl k) ?_
      show FinW p e below s _ _ _ (Ty357.setTop (mkF m 178 #[.val (.long pd), .second, iv pq, iv 6, iv zq, rv by1, rv by346, u_, u_, u_, u_, u_] [(.int ((own_gt (own_vl pd) 5).toUInt32.toUInt16.toUInt32.toInt32)), (.int 5), (.ref by346)]))
      obtain ⟨Ty359, hy359, Xy359, ey359, Wy359, Vy359, Ny359, Zy359, Ky359, sty359⟩ := cst3 Xy357 hx hZ ey357 (j := 5) (x := ((own_gt (own_vl pd) 5).toUInt32.toUInt16.toUInt32.toInt32)) (ix := 5) Vy357 ⟨by decide, by decide⟩ rfl (lb rfl) Ny357 Zy357 Ky357 gzy346 (Or.inr szy346) (hb hby at_178)
      refine FinW.step (sty359) ?_
      refine FinW.step (fun _ k => Yo.iloadN Xy359.here hx (hb hby at_179) rfl (Yo.bipush Xy359.here hx (hb hby at_180) (Yo.icmpYes Xy359.here hx (pc0 := 182) (pc' := 196) rfl (hb hby at_182) rfl (flt ((by decide) : ¬ ((6 : Int32) < (6 : Int32)))).2.2.2 (by decide) (by decide) k))) ?_
      have Vy360 : Arv Z hy359 by346 ky346 .char (6 : Int32) (own_xl pd ((6 : Int32)).toNatClampNeg) (.int 0) := castL Vy359 (by rfl)
      have ry361 := (((((((Vy16.ext Ey346).other Wy348 ney350).other Wy351 ney350).other Wy353 ney350).other Wy355 ney350).other Wy357 ney350).other Wy359 ney350)
      have ry362 := (Sta_keep HS_java_lang_String_COMPACT_STRINGS Ky359)
      have ry363 := (Sta_keep HS_java_util_ImmutableCollections_EMPTY_MAP Ky359)
      have ry364 := (Sta_keep HS_java_lang_CharacterDataLatin1_instance Ky359)
      have ry365 := (Sta_keep HS_java_lang_CharacterDataLatin1_A Ky359)
      exact J1 _ _ _ (6 : Int32) by346 ky346 by1 ky1 (Xy359.mono (by decide) (by decide)) ey359 Ny359 Zy359 Ky359 ry361 Vy360 ry362 ry363 (HE_em.keep Ky359) ry364 (HE_ci.keep Ky359) ry365 (HV_aa.keep Ky359 nin0) (by decide)
    · show FinW p e below s _ _ _ (Ty15.setTop (mkF m 91 #[.val (.long pd), .second, iv pq, iv 7, iv zq, rv by1, u_, u_, u_, u_, u_, u_] []))
      refine FinW.step (fun _ k => Yo.iloadN Xy15.here hx (hb hby at_91) rfl k) ?_
      obtain ⟨Ty366, hy366, ky366, Xy366, ey366, Ey366, Ay366, sty366⟩ := newP Xy15 hx hZ (W_ hw 6) ey15 (g := (mkF m 92 #[.val (.long pd), .second, iv pq, iv 7, iv zq, rv by1, u_, u_, u_, u_, u_, u_] [(.int 7)])) rfl (hb hby at_92) rfl (by decide) (cap := 7) (by decide) (by decide) (by decide) (by decide)
      obtain ⟨by366, gy366⟩ : ∃ z, z = hy15.size := ⟨_, rfl⟩
      rw [← gy366] at Ay366 sty366
      have gzy366 : n0 ≤ by366 := Nat.le_trans Zy15 (Nat.le_of_eq gy366.symm)
      have szy366 : h0.size ≤ by366 := Nat.le_trans Ky15.1 (Nat.le_of_eq gy366.symm)
      have Zy366 := Nat.le_trans Zy15 Ey366.1
      have Ky366 := Ky15.ext Ey366
      have Vy366 : Arv Z hy366 by366 ky366 .char (7 : Int32) [(.int 0), (.int 0), (.int 0), (.int 0), (.int 0), (.int 0), (.int 0)] (.int 0) := (Arv.new Ay366 (by decide)).pad (pad_rep [] (.int 0) 7)
      refine FinW.step (sty366) ?_
      show FinW p e below s _ _ _ (Ty366.setTop (mkF m 94 #[.val (.long pd), .second, iv pq, iv 7, iv zq, rv by1, u_, u_, u_, u_, u_, u_] [(.ref by366)]))
      refine FinW.step (fun _ k => Yo.astore Xy366.here hx (hb hby at_94) rfl rfl (l' := #[.val (.long pd), .second, iv pq, iv 7, iv zq, rv by1, rv by366, u_, u_, u_, u_, u_]) rfl (Yo.iloadN Xy366.here hx (hb hby at_96) rfl (Yo.ifNo Xy366.here hx (hb hby at_97) rfl ((if0 _ _).trans (tlt ((by decide) : ((0 : Int32) < (7 : Int32)))).2.2.2) (Yo.aload Xy366.here hx (hb hby at_100) rfl rfl (Yo.iconst Xy366.here hx (hb hby at_102) (Yo.aload Xy366.here hx (hb hby at_103) rfl rfl (Yo.iconst Xy366.here hx (hb hby at_105) (ild3 Xy366 hx hZ ey366 (j := 0) (v := (.int (own_gt (own_vl pd) 0))) (Vy16.ext Ey366) ⟨by decide, by decide⟩ (own_lg (own_vlc pd) 0) (hb hby at_106) k)))))))) ?_
      refine FinW.step (fun _ k => Yo.i2c Xy366.here hx (hb hby at_107) rfl k) ?_
      show FinW p e below s _ _ _ (Ty366.setTop (mkF m 108 #[.val (.long pd), .second, iv pq, iv 7, iv zq, rv by1, rv by366, u_, u_, u_, u_, u_] [(.int ((own_gt (own_vl pd) 0).toUInt32.toUInt16.toUInt32.toInt32)), (.int 0), (.ref by366)]))
      obtain ⟨Ty368, hy368, Xy368, ey368, Wy368, Vy368, Ny368, Zy368, Ky368, sty368⟩ := cst3 Xy366 hx hZ ey366 (j := 0) (x := ((own_gt (own_vl pd) 0).toUInt32.toUInt16.toUInt32.toInt32)) (ix := 0) Vy366 ⟨by decide, by decide⟩ rfl (lb rfl) Ny15 Zy366 Ky366 gzy366 (Or.inr szy366) (hb hby at_108)
      refine FinW.step (sty368) ?_
      refine FinW.step (fun _ k => Yo.iloadN Xy368.here hx (hb hby at_109) rfl (Yo.iconst Xy368.here hx (hb hby at_110) (Yo.icmpNo Xy368.here hx (hb hby at_111) rfl (tlt ((by decide) : ((1 : Int32) < (7 : Int32)))).2.2.2 (Yo.aload Xy368.here hx (hb hby at_114) rfl rfl (Yo.iconst Xy368.here hx (hb hby at_116) (Yo.aload Xy368.here hx (hb hby at_117) rfl rfl (Yo.iconst Xy368.here hx (hb hby at_119) k))))))) ?_
      have ney370 := nlt (((((((((((((((nsV Vy1).keep Kcy2).wr Wy3).keep Kcy4).wr Wy5).keep Kcy6).wr Wy7).keep Kcy8).wr Wy9).keep Kcy10).wr Wy11).keep Kcy12).wr Wy13).keep Kcy14).wr Wy15).lt (Nat.le_of_eq gy366.symm)
      refine FinW.step (fun _ k => ild3 Xy368 hx hZ ey368 (j := 1) (v := (.int (own_gt (own_vl pd) 1))) ((Vy16.ext Ey366).other Wy368 ney370) ⟨by decide, by decide⟩ (own_lg (own_vlc pd) 1) (hb hby at_120) (Yo.i2c Xy368.here hx (hb hby at_121) rfl k)) ?_
      show FinW p e below s _ _ _ (Ty368.setTop (mkF m 122 #[.val (.long pd), .second, iv pq, iv 7, iv zq, rv by1, rv by366, u_, u_, u_, u_, u_] [(.int ((own_gt (own_vl pd) 1).toUInt32.toUInt16.toUInt32.toInt32)), (.int 1), (.ref by366)]))
      obtain ⟨Ty371, hy371, Xy371, ey371, Wy371, Vy371, Ny371, Zy371, Ky371, sty371⟩ := cst3 Xy368 hx hZ ey368 (j := 1) (x := ((own_gt (own_vl pd) 1).toUInt32.toUInt16.toUInt32.toInt32)) (ix := 1) Vy368 ⟨by decide, by decide⟩ rfl (lb rfl) Ny368 Zy368 Ky368 gzy366 (Or.inr szy366) (hb hby at_122)
      refine FinW.step (sty371) ?_
      refine FinW.step (fun _ k => Yo.iloadN Xy371.here hx (hb hby at_123) rfl (Yo.iconst Xy371.here hx (hb hby at_124) (Yo.icmpNo Xy371.here hx (hb hby at_125) rfl (tlt ((by decide) : ((2 : Int32) < (7 : Int32)))).2.2.2 (Yo.aload Xy371.here hx (hb hby at_128) rfl rfl (Yo.iconst Xy371.here hx (hb hby at_130) (Yo.aload Xy371.here hx (hb hby at_131) rfl rfl (Yo.iconst Xy371.here hx (hb hby at_133) (ild3 Xy371 hx hZ ey371 (j := 2) (v := (.int (own_gt (own_vl pd) 2))) (((Vy16.ext Ey366).other Wy368 ney370).other Wy371 ney370) ⟨by decide, by decide⟩ (own_lg (own_vlc pd) 2) (hb hby at_134) k)))))))) ?_
      refine FinW.step (fun _ k => Yo.i2c Xy371.here hx (hb hby at_135) rfl k) ?_
      show FinW p e below s _ _ _ (Ty371.setTop (mkF m 136 #[.val (.long pd), .second, iv pq, iv 7, iv zq, rv by1, rv by366, u_, u_, u_, u_, u_] [(.int ((own_gt (own_vl pd) 2).toUInt32.toUInt16.toUInt32.toInt32)), (.int 2), (.ref by366)]))
      obtain ⟨Ty373, hy373, Xy373, ey373, Wy373, Vy373, Ny373, Zy373, Ky373, sty373⟩ := cst3 Xy371 hx hZ ey371 (j := 2) (x := ((own_gt (own_vl pd) 2).toUInt32.toUInt16.toUInt32.toInt32)) (ix := 2) Vy371 ⟨by decide, by decide⟩ rfl (lb rfl) Ny371 Zy371 Ky371 gzy366 (Or.inr szy366) (hb hby at_136)
      refine FinW.step (sty373) ?_
      refine FinW.step (fun _ k => Yo.iloadN Xy373.here hx (hb hby at_137) rfl (Yo.iconst Xy373.here hx (hb hby at_138) (Yo.icmpNo Xy373.here hx (hb hby at_139) rfl (tlt ((by decide) : ((3 : Int32) < (7 : Int32)))).2.2.2 (Yo.aload Xy373.here hx (hb hby at_142) rfl rfl (Yo.iconst Xy373.here hx (hb hby at_144) (Yo.aload Xy373.here hx (hb hby at_145) rfl rfl (Yo.iconst Xy373.here hx (hb hby at_147) (ild3 Xy373 hx hZ ey373 (j := 3) (v := (.int (own_gt (own_vl pd) 3))) ((((Vy16.ext Ey366).other Wy368 ney370).other Wy371 ney370).other Wy373 ney370) ⟨by decide, by decide⟩ (own_lg (own_vlc pd) 3) (hb hby at_148) k)))))))) ?_
      refine FinW.step (fun _ k => Yo.i2c Xy373.here hx (hb hby at_149) rfl k) ?_
      show FinW p e below s _ _ _ (Ty373.setTop (mkF m 150 #[.val (.long pd), .second, iv pq, iv 7, iv zq, rv by1, rv by366, u_, u_, u_, u_, u_] [(.int ((own_gt (own_vl pd) 3).toUInt32.toUInt16.toUInt32.toInt32)), (.int 3), (.ref by366)]))
      obtain ⟨Ty375, hy375, Xy375, ey375, Wy375, Vy375, Ny375, Zy375, Ky375, sty375⟩ := cst3 Xy373 hx hZ ey373 (j := 3) (x := ((own_gt (own_vl pd) 3).toUInt32.toUInt16.toUInt32.toInt32)) (ix := 3) Vy373 ⟨by decide, by decide⟩ rfl (lb rfl) Ny373 Zy373 Ky373 gzy366 (Or.inr szy366) (hb hby at_150)
      refine FinW.step (sty375) ?_
      refine FinW.step (fun _ k => Yo.iloadN Xy375.here hx (hb hby at_151) rfl (Yo.iconst Xy375.here hx (hb hby at_152) (Yo.icmpNo Xy375.here hx (hb hby at_153) rfl (tlt ((by decide) : ((4 : Int32) < (7 : Int32)))).2.2.2 (Yo.aload Xy375.here hx (hb hby at_156) rfl rfl (Yo.iconst Xy375.here hx (hb hby at_158) (Yo.aload Xy375.here hx (hb hby at_159) rfl rfl (Yo.iconst Xy375.here hx (hb hby at_161) (ild3 Xy375 hx hZ ey375 (j := 4) (v := (.int (own_gt (own_vl pd) 4))) (((((Vy16.ext Ey366).other Wy368 ney370).other Wy371 ney370).other Wy373 ney370).other Wy375 ney370) ⟨by decide, by decide⟩ (own_lg (own_vlc pd) 4) (hb hby at_162) k)))))))) ?_
      refine FinW.step (fun _ k => Yo.i2c Xy375.here hx (hb hby at_163) rfl k) ?_
      show FinW p e below s _ _ _ (Ty375.setTop (mkF m 164 #[.val (.long pd), .second, iv pq, iv 7, iv zq, rv by1, rv by366, u_, u_, u_, u_, u_] [(.int ((own_gt (own_vl pd) 4).toUInt32.toUInt16.toUInt32.toInt32)), (.int 4), (.ref by366)]))
      obtain ⟨Ty377, hy377, Xy377, ey377, Wy377, Vy377, Ny377, Zy377, Ky377, sty377⟩ := cst3 Xy375 hx hZ ey375 (j := 4) (x := ((own_gt (own_vl pd) 4).toUInt32.toUInt16.toUInt32.toInt32)) (ix := 4) Vy375 ⟨by decide, by decide⟩ rfl (lb rfl) Ny375 Zy375 Ky375 gzy366 (Or.inr szy366) (hb hby at_164)
      refine FinW.step (sty377) ?_
      refine FinW.step (fun _ k => Yo.iloadN Xy377.here hx (hb hby at_165) rfl (Yo.iconst Xy377.here hx (hb hby at_166) (Yo.icmpNo Xy377.here hx (hb hby at_167) rfl (tlt ((by decide) : ((5 : Int32) < (7 : Int32)))).2.2.2 (Yo.aload Xy377.here hx (hb hby at_170) rfl rfl (Yo.iconst Xy377.here hx (hb hby at_172) (Yo.aload Xy377.here hx (hb hby at_173) rfl rfl (Yo.iconst Xy377.here hx (hb hby at_175) (ild3 Xy377 hx hZ ey377 (j := 5) (v := (.int (own_gt (own_vl pd) 5))) ((((((Vy16.ext Ey366).other Wy368 ney370).other Wy371 ney370).other Wy373 ney370).other Wy375 ney370).other Wy377 ney370) ⟨by decide, by decide⟩ (own_lg (own_vlc pd) 5) (hb hby at_176) k)))))))) ?_
      refine FinW.step (fun _ k => Yo.i2c Xy377.here hx (hb hby at_177) rfl k) ?_
      show FinW p e below s _ _ _ (Ty377.setTop (mkF m 178 #[.val (.long pd), .second, iv pq, iv 7, iv zq, rv by1, rv by366, u_, u_, u_, u_, u_] [(.int ((own_gt (own_vl pd) 5).toUInt32.toUInt16.toUInt32.toInt32)), (.int 5), (.ref by366)]))
      obtain ⟨Ty379, hy379, Xy379, ey379, Wy379, Vy379, Ny379, Zy379, Ky379, sty379⟩ := cst3 Xy377 hx hZ ey377 (j := 5) (x := ((own_gt (own_vl pd) 5).toUInt32.toUInt16.toUInt32.toInt32)) (ix := 5) Vy377 ⟨by decide, by decide⟩ rfl (lb rfl) Ny377 Zy377 Ky377 gzy366 (Or.inr szy366) (hb hby at_178)
      refine FinW.step (sty379) ?_
      refine FinW.step (fun _ k => Yo.iloadN Xy379.here hx (hb hby at_179) rfl (Yo.bipush Xy379.here hx (hb hby at_180) (Yo.icmpNo Xy379.here hx (hb hby at_182) rfl (tlt ((by decide) : ((6 : Int32) < (7 : Int32)))).2.2.2 (Yo.aload Xy379.here hx (hb hby at_185) rfl rfl (Yo.bipush Xy379.here hx (hb hby at_187) (Yo.aload Xy379.here hx (hb hby at_189) rfl rfl (Yo.bipush Xy379.here hx (hb hby at_191) (ild3 Xy379 hx hZ ey379 (j := 6) (v := (.int (own_gt (own_vl pd) 6))) (((((((Vy16.ext Ey366).other Wy368 ney370).other Wy371 ney370).other Wy373 ney370).other Wy375 ney370).other Wy377 ney370).other Wy379 ney370) ⟨by decide, by decide⟩ (own_lg (own_vlc pd) 6) (hb hby at_193) k)))))))) ?_
      refine FinW.step (fun _ k => Yo.i2c Xy379.here hx (hb hby at_194) rfl k) ?_
      show FinW p e below s _ _ _ (Ty379.setTop (mkF m 195 #[.val (.long pd), .second, iv pq, iv 7, iv zq, rv by1, rv by366, u_, u_, u_, u_, u_] [(.int ((own_gt (own_vl pd) 6).toUInt32.toUInt16.toUInt32.toInt32)), (.int 6), (.ref by366)]))
      obtain ⟨Ty381, hy381, Xy381, ey381, Wy381, Vy381, Ny381, Zy381, Ky381, sty381⟩ := cst3 Xy379 hx hZ ey379 (j := 6) (x := ((own_gt (own_vl pd) 6).toUInt32.toUInt16.toUInt32.toInt32)) (ix := 6) Vy379 ⟨by decide, by decide⟩ rfl (lb rfl) Ny379 Zy379 Ky379 gzy366 (Or.inr szy366) (hb hby at_195)
      refine FinW.step (sty381) ?_
      have Vy382 : Arv Z hy381 by366 ky366 .char (7 : Int32) (own_xl pd ((7 : Int32)).toNatClampNeg) (.int 0) := castL Vy381 (by rfl)
      have ry383 := ((((((((Vy16.ext Ey366).other Wy368 ney370).other Wy371 ney370).other Wy373 ney370).other Wy375 ney370).other Wy377 ney370).other Wy379 ney370).other Wy381 ney370)
      have ry384 := (Sta_keep HS_java_lang_String_COMPACT_STRINGS Ky381)
      have ry385 := (Sta_keep HS_java_util_ImmutableCollections_EMPTY_MAP Ky381)
      have ry386 := (Sta_keep HS_java_lang_CharacterDataLatin1_instance Ky381)
      have ry387 := (Sta_keep HS_java_lang_CharacterDataLatin1_A Ky381)
      exact J1 _ _ _ (7 : Int32) by366 ky366 by1 ky1 (Xy381.mono (by decide) (by decide)) ey381 Ny381 Zy381 Ky381 ry383 Vy382 ry384 ry385 (HE_em.keep Ky381) ry386 (HE_ci.keep Ky381) ry387 (HV_aa.keep Ky381 nin0) (by decide)
  refine FinW.step (fun _ k => Yo.iloadN X0.here hx (hb hby at_5) rfl (Yo.iconst X0.here hx (hb hby at_6) (Yo.iushr X0.here hx (hb hby at_7) rfl k))) ?_
  show FinW p e below s _ _ _ (s₁.setTop (mkF m 8 #[.val (.long pd), .second, iv pq, iv zn, u_, u_, u_, u_, u_, u_, u_, u_] [(.int (ushI pq (3 : Int32)))]))
  refine FinW.step (fun _ k => Yo.iconst X0.here hx (hb hby at_8) (Yo.iand X0.here hx (hb hby at_9) rfl k)) ?_
  show FinW p e below s _ _ _ (s₁.setTop (mkF m 10 #[.val (.long pd), .second, iv pq, iv zn, u_, u_, u_, u_, u_, u_, u_, u_] [(.int ((ushI pq (3 : Int32)) &&& (1 : Int32)))]))
  by_cases hcy388 : ((ushI pq (3 : Int32)) &&& (1 : Int32)) = (0 : Int32)
  · refine FinW.step (fun _ k => Yo.ifYes X0.here hx (pc0 := 10) (pc' := 17) rfl (hb hby at_10) rfl ((if0 _ _).trans (teq (hcy388 : (((ushI pq (3 : Int32)) &&& (1 : Int32)) = (0 : Int32)))).1) (by decide) (by decide) (Yo.iconst X0.here hx (hb hby at_17) (Yo.istore X0.here hx (hb hby at_18) rfl (l' := #[.val (.long pd), .second, iv pq, iv zn, iv 0, u_, u_, u_, u_, u_, u_, u_]) rfl k))) ?_
    exact J0 (0 : Int32) (by decide)
  · refine FinW.step (fun _ k => Yo.ifNo X0.here hx (hb hby at_10) rfl ((if0 _ _).trans (feq (hcy388 : ¬ (((ushI pq (3 : Int32)) &&& (1 : Int32)) = (0 : Int32)))).1) (Yo.iconst X0.here hx (hb hby at_13) (Yo.goto X0.here hx (pc0 := 14) (pc' := 18) rfl (hb hby at_14) (by decide) (by decide) (Yo.istore X0.here hx (hb hby at_18) rfl (l' := #[.val (.long pd), .second, iv pq, iv zn, iv 1, u_, u_, u_, u_, u_, u_, u_]) rfl k)))) ?_
    exact J0 (1 : Int32) (by decide)
theorem own_hasapp {c : Cell} : ∀ (a b : List Value) (i : Nat), HasL c i a → HasL c (i + a.length) b → HasL c i (a ++ b)
  | [], b, i, _, h => by simpa using h
  | v :: r, b, i, h1, h2 => ⟨h1.1, own_hasapp r b (i + 1) h1.2 (by rw [show i + 1 + r.length = i + (v :: r).length by simp; omega]; exact h2)⟩
theorem own_fitI {v : Value} (h : ∃ z : Int32, v = .int z) : fits .int v = true := by obtain ⟨z, rfl⟩ := h; rfl
set_option maxRecDepth 65536 in
set_option maxHeartbeats 40000000 in
theorem comes_1 {Post : Tables → Env → Array Value → State → Outcome → State → Prop} (hpost : ∀ tb e args s v u, (limb_1_1.after args s (.returned v) u = true ∧ limb_1_2.after args s (.returned v) u = true ∧ True) → ReturnedEndW s (.returned v) u (Jvm.fieldLocs frame_1_writes args s ++ Jvm.arrayLocs frame_1_arrays args s ++ Jvm.staticLocs frame_1_statics s) 48 3520 → Post tb e args s (.returned v) u) :
    ArmFor flags0 classFile x code maxLocals ret World_1 tables_1 room_1 Calls_1 rest_1 Pre_1 Post := by
  intro l hfl _ _ p e ha hc hk s m args below hf hA hF happ hP
  obtain ⟨hcalls, hrest, hpre⟩ := hP
  obtain ⟨-, -, -, hnamed, -, -, -, hat⟩ := (Spec.applies_iff hf).mp happ
  obtain ⟨hg, hn⟩ := and_e (Cond.before_iff.mp (show (Jvm.Cond.and given_1 narrow_1).before args s = true from hpre))
  obtain ⟨gc, gr0⟩ := and_e hg
  obtain ⟨ga0, gr1⟩ := and_e gr0
  have ga1 := gr1
  obtain ⟨w0, w1, rfl⟩ : ∃ w0 w1 : Value, args = #[w0, w1] := by
    have hs : args.size = 2 := by simpa [Cond.value, given_1] using gc
    obtain ⟨L⟩ := args
    match L, hs with
    | [w0, w1], _ => exact ⟨w0, w1, rfl⟩
  have hw := fun d (hd : d ∈ tables_1) => atoms_spec (ws := Jvm.Cond.code x code maxLocals ret :: tables_1) hat d (List.mem_cons_of_mem _ hd)
  have hfit : Fit s := fun {y c} hc i hi => by
    obtain ⟨ha, rfl⟩ := Array.getElem?_eq_some_iff.mp hc
    have q := List.all_eq_true.mp ((Array.all_eq_true_iff_forall_mem.mp hF) _ (Array.getElem_mem ha)) i (List.mem_range.mpr hi)
    simpa [Array.getElem?_eq_getElem hi] using q
  obtain ⟨hsets, hown0⟩ := atoms_of _ (rest_1_c_eq ▸ (show rest_1_c.before _ s = true from hrest))
  have hr0 := Cond.before_iff.mp hown0
  obtain ⟨i0, ei0⟩ := isL_v ga0
  obtain rfl : w0 = (.long i0) := Option.some.inj ei0
  obtain ⟨i1, ei1⟩ := is_v ga1
  obtain rfl : w1 = (.int i1) := Option.some.inj ei1
  obtain ⟨wc, evc⟩ := is_v (Cond.before_iff.mp (hsets _ (List.mem_of_getElem? (i := 1) rfl)))
  have hcw := (hsets _ (List.mem_of_getElem? (i := 2) rfl))
  have hwc : ¬ wc = 0 := gotF (Cond.eq_ints evc (Term.int_eval 0)) (not_v (Cond.before_iff.mp hcw))
  have H_CS := Sta.start evc (Or.inl (hsets _ (List.mem_of_getElem? (i := 0) rfl)))
  obtain ⟨em, eem⟩ := exa_v (Cond.before_iff.mp (hsets _ (List.mem_of_getElem? (i := 11) rfl)))
  have H_EM := Sta.start eem (Or.inl (hsets _ (List.mem_of_getElem? (i := 10) rfl)))
  have H_EE := Exa.start eem (Cond.before_iff.mp (hsets _ (List.mem_of_getElem? (i := 11) rfl)))
  obtain ⟨ci, eci⟩ := exa_v (Cond.before_iff.mp (hsets _ (List.mem_of_getElem? (i := 18) rfl)))
  have H_CI := Sta.start eci (Or.inl (hsets _ (List.mem_of_getElem? (i := 17) rfl)))
  have H_EC := Exa.start eci (Cond.before_iff.mp (hsets _ (List.mem_of_getElem? (i := 18) rfl)))
  obtain ⟨aa, eaa⟩ := exa_v (Cond.before_iff.mp (hsets _ (List.mem_of_getElem? (i := 22) rfl)))
  have H_AA := Sta.start eaa (Or.inl (hsets _ (List.mem_of_getElem? (i := 20) rfl)))
  obtain ⟨ca, Aa⟩ := Arr.start eaa (Cond.before_iff.mp (hsets _ (List.mem_of_getElem? (i := 21) rfl)))
  have el0 : HasL ca 0 (own_AL.drop 0 |>.take 32) := ⟨(elem_in (own_eqv (Cond.before_iff.mp (hsets _ (List.mem_of_getElem? (i := 24) rfl)))) eaa (Term.int_eval _) Aa.1).2, (elem_in (own_eqv (Cond.before_iff.mp (hsets _ (List.mem_of_getElem? (i := 25) rfl)))) eaa (Term.int_eval _) Aa.1).2, (elem_in (own_eqv (Cond.before_iff.mp (hsets _ (List.mem_of_getElem? (i := 26) rfl)))) eaa (Term.int_eval _) Aa.1).2, (elem_in (own_eqv (Cond.before_iff.mp (hsets _ (List.mem_of_getElem? (i := 27) rfl)))) eaa (Term.int_eval _) Aa.1).2, (elem_in (own_eqv (Cond.before_iff.mp (hsets _ (List.mem_of_getElem? (i := 28) rfl)))) eaa (Term.int_eval _) Aa.1).2, (elem_in (own_eqv (Cond.before_iff.mp (hsets _ (List.mem_of_getElem? (i := 29) rfl)))) eaa (Term.int_eval _) Aa.1).2, (elem_in (own_eqv (Cond.before_iff.mp (hsets _ (List.mem_of_getElem? (i := 30) rfl)))) eaa (Term.int_eval _) Aa.1).2, (elem_in (own_eqv (Cond.before_iff.mp (hsets _ (List.mem_of_getElem? (i := 31) rfl)))) eaa (Term.int_eval _) Aa.1).2, (elem_in (own_eqv (Cond.before_iff.mp (hsets _ (List.mem_of_getElem? (i := 32) rfl)))) eaa (Term.int_eval _) Aa.1).2, (elem_in (own_eqv (Cond.before_iff.mp (hsets _ (List.mem_of_getElem? (i := 33) rfl)))) eaa (Term.int_eval _) Aa.1).2, (elem_in (own_eqv (Cond.before_iff.mp (hsets _ (List.mem_of_getElem? (i := 34) rfl)))) eaa (Term.int_eval _) Aa.1).2, (elem_in (own_eqv (Cond.before_iff.mp (hsets _ (List.mem_of_getElem? (i := 35) rfl)))) eaa (Term.int_eval _) Aa.1).2, (elem_in (own_eqv (Cond.before_iff.mp (hsets _ (List.mem_of_getElem? (i := 36) rfl)))) eaa (Term.int_eval _) Aa.1).2, (elem_in (own_eqv (Cond.before_iff.mp (hsets _ (List.mem_of_getElem? (i := 37) rfl)))) eaa (Term.int_eval _) Aa.1).2, (elem_in (own_eqv (Cond.before_iff.mp (hsets _ (List.mem_of_getElem? (i := 38) rfl)))) eaa (Term.int_eval _) Aa.1).2, (elem_in (own_eqv (Cond.before_iff.mp (hsets _ (List.mem_of_getElem? (i := 39) rfl)))) eaa (Term.int_eval _) Aa.1).2, (elem_in (own_eqv (Cond.before_iff.mp (hsets _ (List.mem_of_getElem? (i := 40) rfl)))) eaa (Term.int_eval _) Aa.1).2, (elem_in (own_eqv (Cond.before_iff.mp (hsets _ (List.mem_of_getElem? (i := 41) rfl)))) eaa (Term.int_eval _) Aa.1).2, (elem_in (own_eqv (Cond.before_iff.mp (hsets _ (List.mem_of_getElem? (i := 42) rfl)))) eaa (Term.int_eval _) Aa.1).2, (elem_in (own_eqv (Cond.before_iff.mp (hsets _ (List.mem_of_getElem? (i := 43) rfl)))) eaa (Term.int_eval _) Aa.1).2, (elem_in (own_eqv (Cond.before_iff.mp (hsets _ (List.mem_of_getElem? (i := 44) rfl)))) eaa (Term.int_eval _) Aa.1).2, (elem_in (own_eqv (Cond.before_iff.mp (hsets _ (List.mem_of_getElem? (i := 45) rfl)))) eaa (Term.int_eval _) Aa.1).2, (elem_in (own_eqv (Cond.before_iff.mp (hsets _ (List.mem_of_getElem? (i := 46) rfl)))) eaa (Term.int_eval _) Aa.1).2, (elem_in (own_eqv (Cond.before_iff.mp (hsets _ (List.mem_of_getElem? (i := 47) rfl)))) eaa (Term.int_eval _) Aa.1).2, (elem_in (own_eqv (Cond.before_iff.mp (hsets _ (List.mem_of_getElem? (i := 48) rfl)))) eaa (Term.int_eval _) Aa.1).2, (elem_in (own_eqv (Cond.before_iff.mp (hsets _ (List.mem_of_getElem? (i := 49) rfl)))) eaa (Term.int_eval _) Aa.1).2, (elem_in (own_eqv (Cond.before_iff.mp (hsets _ (List.mem_of_getElem? (i := 50) rfl)))) eaa (Term.int_eval _) Aa.1).2, (elem_in (own_eqv (Cond.before_iff.mp (hsets _ (List.mem_of_getElem? (i := 51) rfl)))) eaa (Term.int_eval _) Aa.1).2, (elem_in (own_eqv (Cond.before_iff.mp (hsets _ (List.mem_of_getElem? (i := 52) rfl)))) eaa (Term.int_eval _) Aa.1).2, (elem_in (own_eqv (Cond.before_iff.mp (hsets _ (List.mem_of_getElem? (i := 53) rfl)))) eaa (Term.int_eval _) Aa.1).2, (elem_in (own_eqv (Cond.before_iff.mp (hsets _ (List.mem_of_getElem? (i := 54) rfl)))) eaa (Term.int_eval _) Aa.1).2, (elem_in (own_eqv (Cond.before_iff.mp (hsets _ (List.mem_of_getElem? (i := 55) rfl)))) eaa (Term.int_eval _) Aa.1).2, trivial⟩
  have el1 : HasL ca 32 (own_AL.drop 32 |>.take 32) := ⟨(elem_in (own_eqv (Cond.before_iff.mp (hsets _ (List.mem_of_getElem? (i := 56) rfl)))) eaa (Term.int_eval _) Aa.1).2, (elem_in (own_eqv (Cond.before_iff.mp (hsets _ (List.mem_of_getElem? (i := 57) rfl)))) eaa (Term.int_eval _) Aa.1).2, (elem_in (own_eqv (Cond.before_iff.mp (hsets _ (List.mem_of_getElem? (i := 58) rfl)))) eaa (Term.int_eval _) Aa.1).2, (elem_in (own_eqv (Cond.before_iff.mp (hsets _ (List.mem_of_getElem? (i := 59) rfl)))) eaa (Term.int_eval _) Aa.1).2, (elem_in (own_eqv (Cond.before_iff.mp (hsets _ (List.mem_of_getElem? (i := 60) rfl)))) eaa (Term.int_eval _) Aa.1).2, (elem_in (own_eqv (Cond.before_iff.mp (hsets _ (List.mem_of_getElem? (i := 61) rfl)))) eaa (Term.int_eval _) Aa.1).2, (elem_in (own_eqv (Cond.before_iff.mp (hsets _ (List.mem_of_getElem? (i := 62) rfl)))) eaa (Term.int_eval _) Aa.1).2, (elem_in (own_eqv (Cond.before_iff.mp (hsets _ (List.mem_of_getElem? (i := 63) rfl)))) eaa (Term.int_eval _) Aa.1).2, (elem_in (own_eqv (Cond.before_iff.mp (hsets _ (List.mem_of_getElem? (i := 64) rfl)))) eaa (Term.int_eval _) Aa.1).2, (elem_in (own_eqv (Cond.before_iff.mp (hsets _ (List.mem_of_getElem? (i := 65) rfl)))) eaa (Term.int_eval _) Aa.1).2, (elem_in (own_eqv (Cond.before_iff.mp (hsets _ (List.mem_of_getElem? (i := 66) rfl)))) eaa (Term.int_eval _) Aa.1).2, (elem_in (own_eqv (Cond.before_iff.mp (hsets _ (List.mem_of_getElem? (i := 67) rfl)))) eaa (Term.int_eval _) Aa.1).2, (elem_in (own_eqv (Cond.before_iff.mp (hsets _ (List.mem_of_getElem? (i := 68) rfl)))) eaa (Term.int_eval _) Aa.1).2, (elem_in (own_eqv (Cond.before_iff.mp (hsets _ (List.mem_of_getElem? (i := 69) rfl)))) eaa (Term.int_eval _) Aa.1).2, (elem_in (own_eqv (Cond.before_iff.mp (hsets _ (List.mem_of_getElem? (i := 70) rfl)))) eaa (Term.int_eval _) Aa.1).2, (elem_in (own_eqv (Cond.before_iff.mp (hsets _ (List.mem_of_getElem? (i := 71) rfl)))) eaa (Term.int_eval _) Aa.1).2, (elem_in (own_eqv (Cond.before_iff.mp (hsets _ (List.mem_of_getElem? (i := 72) rfl)))) eaa (Term.int_eval _) Aa.1).2, (elem_in (own_eqv (Cond.before_iff.mp (hsets _ (List.mem_of_getElem? (i := 73) rfl)))) eaa (Term.int_eval _) Aa.1).2, (elem_in (own_eqv (Cond.before_iff.mp (hsets _ (List.mem_of_getElem? (i := 74) rfl)))) eaa (Term.int_eval _) Aa.1).2, (elem_in (own_eqv (Cond.before_iff.mp (hsets _ (List.mem_of_getElem? (i := 75) rfl)))) eaa (Term.int_eval _) Aa.1).2, (elem_in (own_eqv (Cond.before_iff.mp (hsets _ (List.mem_of_getElem? (i := 76) rfl)))) eaa (Term.int_eval _) Aa.1).2, (elem_in (own_eqv (Cond.before_iff.mp (hsets _ (List.mem_of_getElem? (i := 77) rfl)))) eaa (Term.int_eval _) Aa.1).2, (elem_in (own_eqv (Cond.before_iff.mp (hsets _ (List.mem_of_getElem? (i := 78) rfl)))) eaa (Term.int_eval _) Aa.1).2, (elem_in (own_eqv (Cond.before_iff.mp (hsets _ (List.mem_of_getElem? (i := 79) rfl)))) eaa (Term.int_eval _) Aa.1).2, (elem_in (own_eqv (Cond.before_iff.mp (hsets _ (List.mem_of_getElem? (i := 80) rfl)))) eaa (Term.int_eval _) Aa.1).2, (elem_in (own_eqv (Cond.before_iff.mp (hsets _ (List.mem_of_getElem? (i := 81) rfl)))) eaa (Term.int_eval _) Aa.1).2, (elem_in (own_eqv (Cond.before_iff.mp (hsets _ (List.mem_of_getElem? (i := 82) rfl)))) eaa (Term.int_eval _) Aa.1).2, (elem_in (own_eqv (Cond.before_iff.mp (hsets _ (List.mem_of_getElem? (i := 83) rfl)))) eaa (Term.int_eval _) Aa.1).2, (elem_in (own_eqv (Cond.before_iff.mp (hsets _ (List.mem_of_getElem? (i := 84) rfl)))) eaa (Term.int_eval _) Aa.1).2, (elem_in (own_eqv (Cond.before_iff.mp (hsets _ (List.mem_of_getElem? (i := 85) rfl)))) eaa (Term.int_eval _) Aa.1).2, (elem_in (own_eqv (Cond.before_iff.mp (hsets _ (List.mem_of_getElem? (i := 86) rfl)))) eaa (Term.int_eval _) Aa.1).2, (elem_in (own_eqv (Cond.before_iff.mp (hsets _ (List.mem_of_getElem? (i := 87) rfl)))) eaa (Term.int_eval _) Aa.1).2, trivial⟩
  have el2 : HasL ca 64 (own_AL.drop 64 |>.take 32) := ⟨(elem_in (own_eqv (Cond.before_iff.mp (hsets _ (List.mem_of_getElem? (i := 88) rfl)))) eaa (Term.int_eval _) Aa.1).2, (elem_in (own_eqv (Cond.before_iff.mp (hsets _ (List.mem_of_getElem? (i := 89) rfl)))) eaa (Term.int_eval _) Aa.1).2, (elem_in (own_eqv (Cond.before_iff.mp (hsets _ (List.mem_of_getElem? (i := 90) rfl)))) eaa (Term.int_eval _) Aa.1).2, (elem_in (own_eqv (Cond.before_iff.mp (hsets _ (List.mem_of_getElem? (i := 91) rfl)))) eaa (Term.int_eval _) Aa.1).2, (elem_in (own_eqv (Cond.before_iff.mp (hsets _ (List.mem_of_getElem? (i := 92) rfl)))) eaa (Term.int_eval _) Aa.1).2, (elem_in (own_eqv (Cond.before_iff.mp (hsets _ (List.mem_of_getElem? (i := 93) rfl)))) eaa (Term.int_eval _) Aa.1).2, (elem_in (own_eqv (Cond.before_iff.mp (hsets _ (List.mem_of_getElem? (i := 94) rfl)))) eaa (Term.int_eval _) Aa.1).2, (elem_in (own_eqv (Cond.before_iff.mp (hsets _ (List.mem_of_getElem? (i := 95) rfl)))) eaa (Term.int_eval _) Aa.1).2, (elem_in (own_eqv (Cond.before_iff.mp (hsets _ (List.mem_of_getElem? (i := 96) rfl)))) eaa (Term.int_eval _) Aa.1).2, (elem_in (own_eqv (Cond.before_iff.mp (hsets _ (List.mem_of_getElem? (i := 97) rfl)))) eaa (Term.int_eval _) Aa.1).2, (elem_in (own_eqv (Cond.before_iff.mp (hsets _ (List.mem_of_getElem? (i := 98) rfl)))) eaa (Term.int_eval _) Aa.1).2, (elem_in (own_eqv (Cond.before_iff.mp (hsets _ (List.mem_of_getElem? (i := 99) rfl)))) eaa (Term.int_eval _) Aa.1).2, (elem_in (own_eqv (Cond.before_iff.mp (hsets _ (List.mem_of_getElem? (i := 100) rfl)))) eaa (Term.int_eval _) Aa.1).2, (elem_in (own_eqv (Cond.before_iff.mp (hsets _ (List.mem_of_getElem? (i := 101) rfl)))) eaa (Term.int_eval _) Aa.1).2, (elem_in (own_eqv (Cond.before_iff.mp (hsets _ (List.mem_of_getElem? (i := 102) rfl)))) eaa (Term.int_eval _) Aa.1).2, (elem_in (own_eqv (Cond.before_iff.mp (hsets _ (List.mem_of_getElem? (i := 103) rfl)))) eaa (Term.int_eval _) Aa.1).2, (elem_in (own_eqv (Cond.before_iff.mp (hsets _ (List.mem_of_getElem? (i := 104) rfl)))) eaa (Term.int_eval _) Aa.1).2, (elem_in (own_eqv (Cond.before_iff.mp (hsets _ (List.mem_of_getElem? (i := 105) rfl)))) eaa (Term.int_eval _) Aa.1).2, (elem_in (own_eqv (Cond.before_iff.mp (hsets _ (List.mem_of_getElem? (i := 106) rfl)))) eaa (Term.int_eval _) Aa.1).2, (elem_in (own_eqv (Cond.before_iff.mp (hsets _ (List.mem_of_getElem? (i := 107) rfl)))) eaa (Term.int_eval _) Aa.1).2, (elem_in (own_eqv (Cond.before_iff.mp (hsets _ (List.mem_of_getElem? (i := 108) rfl)))) eaa (Term.int_eval _) Aa.1).2, (elem_in (own_eqv (Cond.before_iff.mp (hsets _ (List.mem_of_getElem? (i := 109) rfl)))) eaa (Term.int_eval _) Aa.1).2, (elem_in (own_eqv (Cond.before_iff.mp (hsets _ (List.mem_of_getElem? (i := 110) rfl)))) eaa (Term.int_eval _) Aa.1).2, (elem_in (own_eqv (Cond.before_iff.mp (hsets _ (List.mem_of_getElem? (i := 111) rfl)))) eaa (Term.int_eval _) Aa.1).2, (elem_in (own_eqv (Cond.before_iff.mp (hsets _ (List.mem_of_getElem? (i := 112) rfl)))) eaa (Term.int_eval _) Aa.1).2, (elem_in (own_eqv (Cond.before_iff.mp (hsets _ (List.mem_of_getElem? (i := 113) rfl)))) eaa (Term.int_eval _) Aa.1).2, (elem_in (own_eqv (Cond.before_iff.mp (hsets _ (List.mem_of_getElem? (i := 114) rfl)))) eaa (Term.int_eval _) Aa.1).2, (elem_in (own_eqv (Cond.before_iff.mp (hsets _ (List.mem_of_getElem? (i := 115) rfl)))) eaa (Term.int_eval _) Aa.1).2, (elem_in (own_eqv (Cond.before_iff.mp (hsets _ (List.mem_of_getElem? (i := 116) rfl)))) eaa (Term.int_eval _) Aa.1).2, (elem_in (own_eqv (Cond.before_iff.mp (hsets _ (List.mem_of_getElem? (i := 117) rfl)))) eaa (Term.int_eval _) Aa.1).2, (elem_in (own_eqv (Cond.before_iff.mp (hsets _ (List.mem_of_getElem? (i := 118) rfl)))) eaa (Term.int_eval _) Aa.1).2, (elem_in (own_eqv (Cond.before_iff.mp (hsets _ (List.mem_of_getElem? (i := 119) rfl)))) eaa (Term.int_eval _) Aa.1).2, trivial⟩
  have el3 : HasL ca 96 (own_AL.drop 96 |>.take 32) := ⟨(elem_in (own_eqv (Cond.before_iff.mp (hsets _ (List.mem_of_getElem? (i := 120) rfl)))) eaa (Term.int_eval _) Aa.1).2, (elem_in (own_eqv (Cond.before_iff.mp (hsets _ (List.mem_of_getElem? (i := 121) rfl)))) eaa (Term.int_eval _) Aa.1).2, (elem_in (own_eqv (Cond.before_iff.mp (hsets _ (List.mem_of_getElem? (i := 122) rfl)))) eaa (Term.int_eval _) Aa.1).2, (elem_in (own_eqv (Cond.before_iff.mp (hsets _ (List.mem_of_getElem? (i := 123) rfl)))) eaa (Term.int_eval _) Aa.1).2, (elem_in (own_eqv (Cond.before_iff.mp (hsets _ (List.mem_of_getElem? (i := 124) rfl)))) eaa (Term.int_eval _) Aa.1).2, (elem_in (own_eqv (Cond.before_iff.mp (hsets _ (List.mem_of_getElem? (i := 125) rfl)))) eaa (Term.int_eval _) Aa.1).2, (elem_in (own_eqv (Cond.before_iff.mp (hsets _ (List.mem_of_getElem? (i := 126) rfl)))) eaa (Term.int_eval _) Aa.1).2, (elem_in (own_eqv (Cond.before_iff.mp (hsets _ (List.mem_of_getElem? (i := 127) rfl)))) eaa (Term.int_eval _) Aa.1).2, (elem_in (own_eqv (Cond.before_iff.mp (hsets _ (List.mem_of_getElem? (i := 128) rfl)))) eaa (Term.int_eval _) Aa.1).2, (elem_in (own_eqv (Cond.before_iff.mp (hsets _ (List.mem_of_getElem? (i := 129) rfl)))) eaa (Term.int_eval _) Aa.1).2, (elem_in (own_eqv (Cond.before_iff.mp (hsets _ (List.mem_of_getElem? (i := 130) rfl)))) eaa (Term.int_eval _) Aa.1).2, (elem_in (own_eqv (Cond.before_iff.mp (hsets _ (List.mem_of_getElem? (i := 131) rfl)))) eaa (Term.int_eval _) Aa.1).2, (elem_in (own_eqv (Cond.before_iff.mp (hsets _ (List.mem_of_getElem? (i := 132) rfl)))) eaa (Term.int_eval _) Aa.1).2, (elem_in (own_eqv (Cond.before_iff.mp (hsets _ (List.mem_of_getElem? (i := 133) rfl)))) eaa (Term.int_eval _) Aa.1).2, (elem_in (own_eqv (Cond.before_iff.mp (hsets _ (List.mem_of_getElem? (i := 134) rfl)))) eaa (Term.int_eval _) Aa.1).2, (elem_in (own_eqv (Cond.before_iff.mp (hsets _ (List.mem_of_getElem? (i := 135) rfl)))) eaa (Term.int_eval _) Aa.1).2, (elem_in (own_eqv (Cond.before_iff.mp (hsets _ (List.mem_of_getElem? (i := 136) rfl)))) eaa (Term.int_eval _) Aa.1).2, (elem_in (own_eqv (Cond.before_iff.mp (hsets _ (List.mem_of_getElem? (i := 137) rfl)))) eaa (Term.int_eval _) Aa.1).2, (elem_in (own_eqv (Cond.before_iff.mp (hsets _ (List.mem_of_getElem? (i := 138) rfl)))) eaa (Term.int_eval _) Aa.1).2, (elem_in (own_eqv (Cond.before_iff.mp (hsets _ (List.mem_of_getElem? (i := 139) rfl)))) eaa (Term.int_eval _) Aa.1).2, (elem_in (own_eqv (Cond.before_iff.mp (hsets _ (List.mem_of_getElem? (i := 140) rfl)))) eaa (Term.int_eval _) Aa.1).2, (elem_in (own_eqv (Cond.before_iff.mp (hsets _ (List.mem_of_getElem? (i := 141) rfl)))) eaa (Term.int_eval _) Aa.1).2, (elem_in (own_eqv (Cond.before_iff.mp (hsets _ (List.mem_of_getElem? (i := 142) rfl)))) eaa (Term.int_eval _) Aa.1).2, (elem_in (own_eqv (Cond.before_iff.mp (hsets _ (List.mem_of_getElem? (i := 143) rfl)))) eaa (Term.int_eval _) Aa.1).2, (elem_in (own_eqv (Cond.before_iff.mp (hsets _ (List.mem_of_getElem? (i := 144) rfl)))) eaa (Term.int_eval _) Aa.1).2, (elem_in (own_eqv (Cond.before_iff.mp (hsets _ (List.mem_of_getElem? (i := 145) rfl)))) eaa (Term.int_eval _) Aa.1).2, (elem_in (own_eqv (Cond.before_iff.mp (hsets _ (List.mem_of_getElem? (i := 146) rfl)))) eaa (Term.int_eval _) Aa.1).2, (elem_in (own_eqv (Cond.before_iff.mp (hsets _ (List.mem_of_getElem? (i := 147) rfl)))) eaa (Term.int_eval _) Aa.1).2, (elem_in (own_eqv (Cond.before_iff.mp (hsets _ (List.mem_of_getElem? (i := 148) rfl)))) eaa (Term.int_eval _) Aa.1).2, (elem_in (own_eqv (Cond.before_iff.mp (hsets _ (List.mem_of_getElem? (i := 149) rfl)))) eaa (Term.int_eval _) Aa.1).2, (elem_in (own_eqv (Cond.before_iff.mp (hsets _ (List.mem_of_getElem? (i := 150) rfl)))) eaa (Term.int_eval _) Aa.1).2, (elem_in (own_eqv (Cond.before_iff.mp (hsets _ (List.mem_of_getElem? (i := 151) rfl)))) eaa (Term.int_eval _) Aa.1).2, trivial⟩
  have el4 : HasL ca 128 (own_AL.drop 128 |>.take 32) := ⟨(elem_in (own_eqv (Cond.before_iff.mp (hsets _ (List.mem_of_getElem? (i := 152) rfl)))) eaa (Term.int_eval _) Aa.1).2, (elem_in (own_eqv (Cond.before_iff.mp (hsets _ (List.mem_of_getElem? (i := 153) rfl)))) eaa (Term.int_eval _) Aa.1).2, (elem_in (own_eqv (Cond.before_iff.mp (hsets _ (List.mem_of_getElem? (i := 154) rfl)))) eaa (Term.int_eval _) Aa.1).2, (elem_in (own_eqv (Cond.before_iff.mp (hsets _ (List.mem_of_getElem? (i := 155) rfl)))) eaa (Term.int_eval _) Aa.1).2, (elem_in (own_eqv (Cond.before_iff.mp (hsets _ (List.mem_of_getElem? (i := 156) rfl)))) eaa (Term.int_eval _) Aa.1).2, (elem_in (own_eqv (Cond.before_iff.mp (hsets _ (List.mem_of_getElem? (i := 157) rfl)))) eaa (Term.int_eval _) Aa.1).2, (elem_in (own_eqv (Cond.before_iff.mp (hsets _ (List.mem_of_getElem? (i := 158) rfl)))) eaa (Term.int_eval _) Aa.1).2, (elem_in (own_eqv (Cond.before_iff.mp (hsets _ (List.mem_of_getElem? (i := 159) rfl)))) eaa (Term.int_eval _) Aa.1).2, (elem_in (own_eqv (Cond.before_iff.mp (hsets _ (List.mem_of_getElem? (i := 160) rfl)))) eaa (Term.int_eval _) Aa.1).2, (elem_in (own_eqv (Cond.before_iff.mp (hsets _ (List.mem_of_getElem? (i := 161) rfl)))) eaa (Term.int_eval _) Aa.1).2, (elem_in (own_eqv (Cond.before_iff.mp (hsets _ (List.mem_of_getElem? (i := 162) rfl)))) eaa (Term.int_eval _) Aa.1).2, (elem_in (own_eqv (Cond.before_iff.mp (hsets _ (List.mem_of_getElem? (i := 163) rfl)))) eaa (Term.int_eval _) Aa.1).2, (elem_in (own_eqv (Cond.before_iff.mp (hsets _ (List.mem_of_getElem? (i := 164) rfl)))) eaa (Term.int_eval _) Aa.1).2, (elem_in (own_eqv (Cond.before_iff.mp (hsets _ (List.mem_of_getElem? (i := 165) rfl)))) eaa (Term.int_eval _) Aa.1).2, (elem_in (own_eqv (Cond.before_iff.mp (hsets _ (List.mem_of_getElem? (i := 166) rfl)))) eaa (Term.int_eval _) Aa.1).2, (elem_in (own_eqv (Cond.before_iff.mp (hsets _ (List.mem_of_getElem? (i := 167) rfl)))) eaa (Term.int_eval _) Aa.1).2, (elem_in (own_eqv (Cond.before_iff.mp (hsets _ (List.mem_of_getElem? (i := 168) rfl)))) eaa (Term.int_eval _) Aa.1).2, (elem_in (own_eqv (Cond.before_iff.mp (hsets _ (List.mem_of_getElem? (i := 169) rfl)))) eaa (Term.int_eval _) Aa.1).2, (elem_in (own_eqv (Cond.before_iff.mp (hsets _ (List.mem_of_getElem? (i := 170) rfl)))) eaa (Term.int_eval _) Aa.1).2, (elem_in (own_eqv (Cond.before_iff.mp (hsets _ (List.mem_of_getElem? (i := 171) rfl)))) eaa (Term.int_eval _) Aa.1).2, (elem_in (own_eqv (Cond.before_iff.mp (hsets _ (List.mem_of_getElem? (i := 172) rfl)))) eaa (Term.int_eval _) Aa.1).2, (elem_in (own_eqv (Cond.before_iff.mp (hsets _ (List.mem_of_getElem? (i := 173) rfl)))) eaa (Term.int_eval _) Aa.1).2, (elem_in (own_eqv (Cond.before_iff.mp (hsets _ (List.mem_of_getElem? (i := 174) rfl)))) eaa (Term.int_eval _) Aa.1).2, (elem_in (own_eqv (Cond.before_iff.mp (hsets _ (List.mem_of_getElem? (i := 175) rfl)))) eaa (Term.int_eval _) Aa.1).2, (elem_in (own_eqv (Cond.before_iff.mp (hsets _ (List.mem_of_getElem? (i := 176) rfl)))) eaa (Term.int_eval _) Aa.1).2, (elem_in (own_eqv (Cond.before_iff.mp (hsets _ (List.mem_of_getElem? (i := 177) rfl)))) eaa (Term.int_eval _) Aa.1).2, (elem_in (own_eqv (Cond.before_iff.mp (hsets _ (List.mem_of_getElem? (i := 178) rfl)))) eaa (Term.int_eval _) Aa.1).2, (elem_in (own_eqv (Cond.before_iff.mp (hsets _ (List.mem_of_getElem? (i := 179) rfl)))) eaa (Term.int_eval _) Aa.1).2, (elem_in (own_eqv (Cond.before_iff.mp (hsets _ (List.mem_of_getElem? (i := 180) rfl)))) eaa (Term.int_eval _) Aa.1).2, (elem_in (own_eqv (Cond.before_iff.mp (hsets _ (List.mem_of_getElem? (i := 181) rfl)))) eaa (Term.int_eval _) Aa.1).2, (elem_in (own_eqv (Cond.before_iff.mp (hsets _ (List.mem_of_getElem? (i := 182) rfl)))) eaa (Term.int_eval _) Aa.1).2, (elem_in (own_eqv (Cond.before_iff.mp (hsets _ (List.mem_of_getElem? (i := 183) rfl)))) eaa (Term.int_eval _) Aa.1).2, trivial⟩
  have el5 : HasL ca 160 (own_AL.drop 160 |>.take 32) := ⟨(elem_in (own_eqv (Cond.before_iff.mp (hsets _ (List.mem_of_getElem? (i := 184) rfl)))) eaa (Term.int_eval _) Aa.1).2, (elem_in (own_eqv (Cond.before_iff.mp (hsets _ (List.mem_of_getElem? (i := 185) rfl)))) eaa (Term.int_eval _) Aa.1).2, (elem_in (own_eqv (Cond.before_iff.mp (hsets _ (List.mem_of_getElem? (i := 186) rfl)))) eaa (Term.int_eval _) Aa.1).2, (elem_in (own_eqv (Cond.before_iff.mp (hsets _ (List.mem_of_getElem? (i := 187) rfl)))) eaa (Term.int_eval _) Aa.1).2, (elem_in (own_eqv (Cond.before_iff.mp (hsets _ (List.mem_of_getElem? (i := 188) rfl)))) eaa (Term.int_eval _) Aa.1).2, (elem_in (own_eqv (Cond.before_iff.mp (hsets _ (List.mem_of_getElem? (i := 189) rfl)))) eaa (Term.int_eval _) Aa.1).2, (elem_in (own_eqv (Cond.before_iff.mp (hsets _ (List.mem_of_getElem? (i := 190) rfl)))) eaa (Term.int_eval _) Aa.1).2, (elem_in (own_eqv (Cond.before_iff.mp (hsets _ (List.mem_of_getElem? (i := 191) rfl)))) eaa (Term.int_eval _) Aa.1).2, (elem_in (own_eqv (Cond.before_iff.mp (hsets _ (List.mem_of_getElem? (i := 192) rfl)))) eaa (Term.int_eval _) Aa.1).2, (elem_in (own_eqv (Cond.before_iff.mp (hsets _ (List.mem_of_getElem? (i := 193) rfl)))) eaa (Term.int_eval _) Aa.1).2, (elem_in (own_eqv (Cond.before_iff.mp (hsets _ (List.mem_of_getElem? (i := 194) rfl)))) eaa (Term.int_eval _) Aa.1).2, (elem_in (own_eqv (Cond.before_iff.mp (hsets _ (List.mem_of_getElem? (i := 195) rfl)))) eaa (Term.int_eval _) Aa.1).2, (elem_in (own_eqv (Cond.before_iff.mp (hsets _ (List.mem_of_getElem? (i := 196) rfl)))) eaa (Term.int_eval _) Aa.1).2, (elem_in (own_eqv (Cond.before_iff.mp (hsets _ (List.mem_of_getElem? (i := 197) rfl)))) eaa (Term.int_eval _) Aa.1).2, (elem_in (own_eqv (Cond.before_iff.mp (hsets _ (List.mem_of_getElem? (i := 198) rfl)))) eaa (Term.int_eval _) Aa.1).2, (elem_in (own_eqv (Cond.before_iff.mp (hsets _ (List.mem_of_getElem? (i := 199) rfl)))) eaa (Term.int_eval _) Aa.1).2, (elem_in (own_eqv (Cond.before_iff.mp (hsets _ (List.mem_of_getElem? (i := 200) rfl)))) eaa (Term.int_eval _) Aa.1).2, (elem_in (own_eqv (Cond.before_iff.mp (hsets _ (List.mem_of_getElem? (i := 201) rfl)))) eaa (Term.int_eval _) Aa.1).2, (elem_in (own_eqv (Cond.before_iff.mp (hsets _ (List.mem_of_getElem? (i := 202) rfl)))) eaa (Term.int_eval _) Aa.1).2, (elem_in (own_eqv (Cond.before_iff.mp (hsets _ (List.mem_of_getElem? (i := 203) rfl)))) eaa (Term.int_eval _) Aa.1).2, (elem_in (own_eqv (Cond.before_iff.mp (hsets _ (List.mem_of_getElem? (i := 204) rfl)))) eaa (Term.int_eval _) Aa.1).2, (elem_in (own_eqv (Cond.before_iff.mp (hsets _ (List.mem_of_getElem? (i := 205) rfl)))) eaa (Term.int_eval _) Aa.1).2, (elem_in (own_eqv (Cond.before_iff.mp (hsets _ (List.mem_of_getElem? (i := 206) rfl)))) eaa (Term.int_eval _) Aa.1).2, (elem_in (own_eqv (Cond.before_iff.mp (hsets _ (List.mem_of_getElem? (i := 207) rfl)))) eaa (Term.int_eval _) Aa.1).2, (elem_in (own_eqv (Cond.before_iff.mp (hsets _ (List.mem_of_getElem? (i := 208) rfl)))) eaa (Term.int_eval _) Aa.1).2, (elem_in (own_eqv (Cond.before_iff.mp (hsets _ (List.mem_of_getElem? (i := 209) rfl)))) eaa (Term.int_eval _) Aa.1).2, (elem_in (own_eqv (Cond.before_iff.mp (hsets _ (List.mem_of_getElem? (i := 210) rfl)))) eaa (Term.int_eval _) Aa.1).2, (elem_in (own_eqv (Cond.before_iff.mp (hsets _ (List.mem_of_getElem? (i := 211) rfl)))) eaa (Term.int_eval _) Aa.1).2, (elem_in (own_eqv (Cond.before_iff.mp (hsets _ (List.mem_of_getElem? (i := 212) rfl)))) eaa (Term.int_eval _) Aa.1).2, (elem_in (own_eqv (Cond.before_iff.mp (hsets _ (List.mem_of_getElem? (i := 213) rfl)))) eaa (Term.int_eval _) Aa.1).2, (elem_in (own_eqv (Cond.before_iff.mp (hsets _ (List.mem_of_getElem? (i := 214) rfl)))) eaa (Term.int_eval _) Aa.1).2, (elem_in (own_eqv (Cond.before_iff.mp (hsets _ (List.mem_of_getElem? (i := 215) rfl)))) eaa (Term.int_eval _) Aa.1).2, trivial⟩
  have el6 : HasL ca 192 (own_AL.drop 192 |>.take 32) := ⟨(elem_in (own_eqv (Cond.before_iff.mp (hsets _ (List.mem_of_getElem? (i := 216) rfl)))) eaa (Term.int_eval _) Aa.1).2, (elem_in (own_eqv (Cond.before_iff.mp (hsets _ (List.mem_of_getElem? (i := 217) rfl)))) eaa (Term.int_eval _) Aa.1).2, (elem_in (own_eqv (Cond.before_iff.mp (hsets _ (List.mem_of_getElem? (i := 218) rfl)))) eaa (Term.int_eval _) Aa.1).2, (elem_in (own_eqv (Cond.before_iff.mp (hsets _ (List.mem_of_getElem? (i := 219) rfl)))) eaa (Term.int_eval _) Aa.1).2, (elem_in (own_eqv (Cond.before_iff.mp (hsets _ (List.mem_of_getElem? (i := 220) rfl)))) eaa (Term.int_eval _) Aa.1).2, (elem_in (own_eqv (Cond.before_iff.mp (hsets _ (List.mem_of_getElem? (i := 221) rfl)))) eaa (Term.int_eval _) Aa.1).2, (elem_in (own_eqv (Cond.before_iff.mp (hsets _ (List.mem_of_getElem? (i := 222) rfl)))) eaa (Term.int_eval _) Aa.1).2, (elem_in (own_eqv (Cond.before_iff.mp (hsets _ (List.mem_of_getElem? (i := 223) rfl)))) eaa (Term.int_eval _) Aa.1).2, (elem_in (own_eqv (Cond.before_iff.mp (hsets _ (List.mem_of_getElem? (i := 224) rfl)))) eaa (Term.int_eval _) Aa.1).2, (elem_in (own_eqv (Cond.before_iff.mp (hsets _ (List.mem_of_getElem? (i := 225) rfl)))) eaa (Term.int_eval _) Aa.1).2, (elem_in (own_eqv (Cond.before_iff.mp (hsets _ (List.mem_of_getElem? (i := 226) rfl)))) eaa (Term.int_eval _) Aa.1).2, (elem_in (own_eqv (Cond.before_iff.mp (hsets _ (List.mem_of_getElem? (i := 227) rfl)))) eaa (Term.int_eval _) Aa.1).2, (elem_in (own_eqv (Cond.before_iff.mp (hsets _ (List.mem_of_getElem? (i := 228) rfl)))) eaa (Term.int_eval _) Aa.1).2, (elem_in (own_eqv (Cond.before_iff.mp (hsets _ (List.mem_of_getElem? (i := 229) rfl)))) eaa (Term.int_eval _) Aa.1).2, (elem_in (own_eqv (Cond.before_iff.mp (hsets _ (List.mem_of_getElem? (i := 230) rfl)))) eaa (Term.int_eval _) Aa.1).2, (elem_in (own_eqv (Cond.before_iff.mp (hsets _ (List.mem_of_getElem? (i := 231) rfl)))) eaa (Term.int_eval _) Aa.1).2, (elem_in (own_eqv (Cond.before_iff.mp (hsets _ (List.mem_of_getElem? (i := 232) rfl)))) eaa (Term.int_eval _) Aa.1).2, (elem_in (own_eqv (Cond.before_iff.mp (hsets _ (List.mem_of_getElem? (i := 233) rfl)))) eaa (Term.int_eval _) Aa.1).2, (elem_in (own_eqv (Cond.before_iff.mp (hsets _ (List.mem_of_getElem? (i := 234) rfl)))) eaa (Term.int_eval _) Aa.1).2, (elem_in (own_eqv (Cond.before_iff.mp (hsets _ (List.mem_of_getElem? (i := 235) rfl)))) eaa (Term.int_eval _) Aa.1).2, (elem_in (own_eqv (Cond.before_iff.mp (hsets _ (List.mem_of_getElem? (i := 236) rfl)))) eaa (Term.int_eval _) Aa.1).2, (elem_in (own_eqv (Cond.before_iff.mp (hsets _ (List.mem_of_getElem? (i := 237) rfl)))) eaa (Term.int_eval _) Aa.1).2, (elem_in (own_eqv (Cond.before_iff.mp (hsets _ (List.mem_of_getElem? (i := 238) rfl)))) eaa (Term.int_eval _) Aa.1).2, (elem_in (own_eqv (Cond.before_iff.mp (hsets _ (List.mem_of_getElem? (i := 239) rfl)))) eaa (Term.int_eval _) Aa.1).2, (elem_in (own_eqv (Cond.before_iff.mp (hsets _ (List.mem_of_getElem? (i := 240) rfl)))) eaa (Term.int_eval _) Aa.1).2, (elem_in (own_eqv (Cond.before_iff.mp (hsets _ (List.mem_of_getElem? (i := 241) rfl)))) eaa (Term.int_eval _) Aa.1).2, (elem_in (own_eqv (Cond.before_iff.mp (hsets _ (List.mem_of_getElem? (i := 242) rfl)))) eaa (Term.int_eval _) Aa.1).2, (elem_in (own_eqv (Cond.before_iff.mp (hsets _ (List.mem_of_getElem? (i := 243) rfl)))) eaa (Term.int_eval _) Aa.1).2, (elem_in (own_eqv (Cond.before_iff.mp (hsets _ (List.mem_of_getElem? (i := 244) rfl)))) eaa (Term.int_eval _) Aa.1).2, (elem_in (own_eqv (Cond.before_iff.mp (hsets _ (List.mem_of_getElem? (i := 245) rfl)))) eaa (Term.int_eval _) Aa.1).2, (elem_in (own_eqv (Cond.before_iff.mp (hsets _ (List.mem_of_getElem? (i := 246) rfl)))) eaa (Term.int_eval _) Aa.1).2, (elem_in (own_eqv (Cond.before_iff.mp (hsets _ (List.mem_of_getElem? (i := 247) rfl)))) eaa (Term.int_eval _) Aa.1).2, trivial⟩
  have el7 : HasL ca 224 (own_AL.drop 224 |>.take 32) := ⟨(elem_in (own_eqv (Cond.before_iff.mp (hsets _ (List.mem_of_getElem? (i := 248) rfl)))) eaa (Term.int_eval _) Aa.1).2, (elem_in (own_eqv (Cond.before_iff.mp (hsets _ (List.mem_of_getElem? (i := 249) rfl)))) eaa (Term.int_eval _) Aa.1).2, (elem_in (own_eqv (Cond.before_iff.mp (hsets _ (List.mem_of_getElem? (i := 250) rfl)))) eaa (Term.int_eval _) Aa.1).2, (elem_in (own_eqv (Cond.before_iff.mp (hsets _ (List.mem_of_getElem? (i := 251) rfl)))) eaa (Term.int_eval _) Aa.1).2, (elem_in (own_eqv (Cond.before_iff.mp (hsets _ (List.mem_of_getElem? (i := 252) rfl)))) eaa (Term.int_eval _) Aa.1).2, (elem_in (own_eqv (Cond.before_iff.mp (hsets _ (List.mem_of_getElem? (i := 253) rfl)))) eaa (Term.int_eval _) Aa.1).2, (elem_in (own_eqv (Cond.before_iff.mp (hsets _ (List.mem_of_getElem? (i := 254) rfl)))) eaa (Term.int_eval _) Aa.1).2, (elem_in (own_eqv (Cond.before_iff.mp (hsets _ (List.mem_of_getElem? (i := 255) rfl)))) eaa (Term.int_eval _) Aa.1).2, (elem_in (own_eqv (Cond.before_iff.mp (hsets _ (List.mem_of_getElem? (i := 256) rfl)))) eaa (Term.int_eval _) Aa.1).2, (elem_in (own_eqv (Cond.before_iff.mp (hsets _ (List.mem_of_getElem? (i := 257) rfl)))) eaa (Term.int_eval _) Aa.1).2, (elem_in (own_eqv (Cond.before_iff.mp (hsets _ (List.mem_of_getElem? (i := 258) rfl)))) eaa (Term.int_eval _) Aa.1).2, (elem_in (own_eqv (Cond.before_iff.mp (hsets _ (List.mem_of_getElem? (i := 259) rfl)))) eaa (Term.int_eval _) Aa.1).2, (elem_in (own_eqv (Cond.before_iff.mp (hsets _ (List.mem_of_getElem? (i := 260) rfl)))) eaa (Term.int_eval _) Aa.1).2, (elem_in (own_eqv (Cond.before_iff.mp (hsets _ (List.mem_of_getElem? (i := 261) rfl)))) eaa (Term.int_eval _) Aa.1).2, (elem_in (own_eqv (Cond.before_iff.mp (hsets _ (List.mem_of_getElem? (i := 262) rfl)))) eaa (Term.int_eval _) Aa.1).2, (elem_in (own_eqv (Cond.before_iff.mp (hsets _ (List.mem_of_getElem? (i := 263) rfl)))) eaa (Term.int_eval _) Aa.1).2, (elem_in (own_eqv (Cond.before_iff.mp (hsets _ (List.mem_of_getElem? (i := 264) rfl)))) eaa (Term.int_eval _) Aa.1).2, (elem_in (own_eqv (Cond.before_iff.mp (hsets _ (List.mem_of_getElem? (i := 265) rfl)))) eaa (Term.int_eval _) Aa.1).2, (elem_in (own_eqv (Cond.before_iff.mp (hsets _ (List.mem_of_getElem? (i := 266) rfl)))) eaa (Term.int_eval _) Aa.1).2, (elem_in (own_eqv (Cond.before_iff.mp (hsets _ (List.mem_of_getElem? (i := 267) rfl)))) eaa (Term.int_eval _) Aa.1).2, (elem_in (own_eqv (Cond.before_iff.mp (hsets _ (List.mem_of_getElem? (i := 268) rfl)))) eaa (Term.int_eval _) Aa.1).2, (elem_in (own_eqv (Cond.before_iff.mp (hsets _ (List.mem_of_getElem? (i := 269) rfl)))) eaa (Term.int_eval _) Aa.1).2, (elem_in (own_eqv (Cond.before_iff.mp (hsets _ (List.mem_of_getElem? (i := 270) rfl)))) eaa (Term.int_eval _) Aa.1).2, (elem_in (own_eqv (Cond.before_iff.mp (hsets _ (List.mem_of_getElem? (i := 271) rfl)))) eaa (Term.int_eval _) Aa.1).2, (elem_in (own_eqv (Cond.before_iff.mp (hsets _ (List.mem_of_getElem? (i := 272) rfl)))) eaa (Term.int_eval _) Aa.1).2, (elem_in (own_eqv (Cond.before_iff.mp (hsets _ (List.mem_of_getElem? (i := 273) rfl)))) eaa (Term.int_eval _) Aa.1).2, (elem_in (own_eqv (Cond.before_iff.mp (hsets _ (List.mem_of_getElem? (i := 274) rfl)))) eaa (Term.int_eval _) Aa.1).2, (elem_in (own_eqv (Cond.before_iff.mp (hsets _ (List.mem_of_getElem? (i := 275) rfl)))) eaa (Term.int_eval _) Aa.1).2, (elem_in (own_eqv (Cond.before_iff.mp (hsets _ (List.mem_of_getElem? (i := 276) rfl)))) eaa (Term.int_eval _) Aa.1).2, (elem_in (own_eqv (Cond.before_iff.mp (hsets _ (List.mem_of_getElem? (i := 277) rfl)))) eaa (Term.int_eval _) Aa.1).2, (elem_in (own_eqv (Cond.before_iff.mp (hsets _ (List.mem_of_getElem? (i := 278) rfl)))) eaa (Term.int_eval _) Aa.1).2, (elem_in (own_eqv (Cond.before_iff.mp (hsets _ (List.mem_of_getElem? (i := 279) rfl)))) eaa (Term.int_eval _) Aa.1).2, trivial⟩
  have HA : HasL ca 0 own_AL := (own_hasapp _ _ _ el0 (own_hasapp _ _ _ el1 (own_hasapp _ _ _ el2 (own_hasapp _ _ _ el3 (own_hasapp _ _ _ el4 (own_hasapp _ _ _ el5 (own_hasapp _ _ _ el6 el7)))))))
  have H_VA : Arv s s.heap aa ca.cls .int (256 : Int32) own_AL (.int (0 : Int32)) := ofArr Aa (own_slots eaa Aa (own_eqv (Cond.before_iff.mp (hsets _ (List.mem_of_getElem? (i := 23) rfl)))) rfl HA) (by decide) rfl (fun v hv => own_fitI (own_chm' own_ALc v hv))
  have hCH := CHv.start (own_EW hw) (fun p hp => hcalls.1 p hp) hcw (W_ hw 25) (W_ hw 8)
  obtain ⟨n, o, h1, h2, h3, _, L, rfl, ⟨rfl, N, _⟩, hq⟩ := rm0 l s _ hw tables_1 i0 i1 wc em ci aa ca.cls s.heap s.heap.size (Nat.le_refl _) H_CS H_EM H_EE H_CI H_EC H_AA H_VA hwc hCH p e ha hc hk s m _ below hf ((Spec.applies_iff_loose hf).mp happ).1 ⟨rfl, rfl, rfl⟩ trivial
  refine ⟨n, _, h1, h2, h3, hpost _ _ _ _ _ _ ⟨Cond.after_iff.mpr rfl, Cond.after_iff.mpr (eq_i res_at (Term.int_eval (1)) rfl), trivial⟩ ⟨hq.1, hq.2.1, hq.2.2.1, (hq.2.2.2.sift fun y hy => Or.inr (N y hy)).mono (by decide) (by decide)⟩⟩
theorem main_1_1 : Claimed_1_1 := comes_1 fun _ _ _ _ _ _ h hF => ⟨h.1, hF⟩
theorem main_1_2 : Claimed_1_2 := comes_1 fun _ _ _ _ _ _ h hF => ⟨h.2.1, hF⟩
end Jvm.Pilot.@@N@@
namespace Jvm.Pilot.@@N@@
open Jvm Jvm.ClassFile Sem Op Lib Jvm.Free Jvm.Stand Jvm.Pilot.@@N@@.Jvm.D
/-! MADE BY PROGRAM (witnessworld.py) out of the Statement's table words and the real class files: 31 classes; the members and pool entries that the words name. The judged class is class 1, her method 6. -/
namespace start1
open Jvm.ClassFile
def u (s : String) : CpInfo := .utf8 (stringToUtf16 s)
/-- a pool by its gaps: so many unusable entries, then the entry; so many at the end -/
def gap : Nat → List CpInfo → List CpInfo
  | 0, r => r
  | n + 1, r => .unusable :: gap n r
def poolList (es : List (Nat × CpInfo)) (last : Nat) : List CpInfo := es.foldr (fun e r => gap e.1 (e.2 :: r)) (gap last [])
def pool (es : List (Nat × CpInfo)) (last : Nat) : Array CpInfo := ⟨poolList es last⟩
def fileOf (pool : Array CpInfo) (this : Nat) (attrs : Array Attribute := #[]) (ms : Array MethodInfo := #[]) (fl : Nat := 33) (sup : Nat := 0) (ifs : Array Nat := #[]) (fds : Array FieldInfo := #[]) : ClassFile where
  minorVersion := 0
  majorVersion := 65
  constantPool := pool
  accessFlags := fl
  thisClass := this
  superClass := sup
  interfaces := ifs
  fields := fds
  methods := ms
  attributes := attrs
def plain (name : String) (sup : Option ClassId) : Class where
  name := name
  kind := .ordinary
  loader := none
  accessFlags := 33
  super := sup
  interfaces := #[]
  cf := none
  fields := #[]
  methods := #[]
  instanceTypes := #[]
  staticTypes := #[]
  resolved := #[]
  callSites := []
  init := .initialized
  statics := none
  mirror := none

def pool0 : Array CpInfo := pool [(5, u "<init>"), (0, u "()V"), (1, .class_ 10), (1, u "java/lang/Object")] 113

def k0c0 : Code := { maxStack := 0, maxLocals := 1, code := object_method_1_code, exceptionTable := #[], attributes := #[] }
def k0m0 : Method := { name := "<init>", desc := "()V", sig := { parameters := [], returnType := none }, accessFlags := 1, code := some k0c0 }
/-- java/lang/Object -/
def k0 : Class := { plain "java/lang/Object" none with
  accessFlags := 33
  interfaces := #[]
  cf := some (fileOf pool0 8 #[] #[{ accessFlags := 1, nameIndex := 5, descriptorIndex := 6, attributes := #[] }] 33 0 #[] #[])
  fields := #[]
  methods := #[k0m0]
  instanceTypes := #[]
  staticTypes := #[]
  resolved := Array.replicate 124 none
  statics := none }

def pool1 : Array CpInfo := pool [(2, .class_ 4), (1, u "java/lang/Object"), (0, u "<init>"), (0, u "()V"), (0, .long 511), (1, .methodref 10 11), (0, .class_ 12), (0, .nameAndType 13 14), (0, u "com/example/shallmark/shallmark/ExpressionIsXPathPinLaw"), (0, u "at"), (0, u "([III)I"), (0, .methodref 10 16), (0, .nameAndType 17 18), (0, u "is"), (0, u "(II)Z"), (0, .methodref 10 20), (0, .nameAndType 21 22), (0, u "draw"), (0, u "(JI)I"), (0, .class_ 24), (0, u "java/lang/String"), (0, .methodref 23 26), (0, .nameAndType 5 27), (0, u "([C)V"), (0, .methodref 23 29), (0, .nameAndType 30 31), (0, u "valueOf"), (0, u "(C)Ljava/lang/String;"), (0, .interfaceMethodref 33 34), (0, .class_ 35), (0, .nameAndType 36 37), (0, u "java/util/Map"), (0, u "of"), (0, u "()Ljava/util/Map;"), (0, .class_ 39), (0, u "com/example/shallmark/shallmark/Expression"), (0, .methodref 38 41), (0, .nameAndType 5 42), (0, u "(Ljava/lang/String;Ljava/util/Map;Ljava/lang/String;I)V"), (0, .methodref 10 44), (0, .nameAndType 45 46), (0, u "m"), (0, u "([III)Z"), (0, .methodref 10 48), (0, .nameAndType 49 50), (0, u "ws"), (0, u "(I)Z"), (0, .methodref 38 52), (0, .nameAndType 53 54), (0, u "isXPath"), (0, u "()Z"), (3, u "law"), (0, u "(JI)Z")] 6

def k1m0 : Method := { name := "<init>", desc := "()V", sig := { parameters := [], returnType := none }, accessFlags := 1, code := none }
def k1c1 : Code := { maxStack := 4, maxLocals := 5, code := method_2_code, exceptionTable := #[], attributes := #[] }
def k1m1 : Method := { name := "draw", desc := "(JI)I", sig := { parameters := [.long, .int], returnType := some .int }, accessFlags := 10, code := some k1c1 }
def k1c2 : Code := { maxStack := 2, maxLocals := 1, code := method_3_code, exceptionTable := #[], attributes := #[] }
def k1m2 : Method := { name := "ws", desc := "(I)Z", sig := { parameters := [.int], returnType := some .boolean }, accessFlags := 10, code := some k1c2 }
def k1c3 : Code := { maxStack := 3, maxLocals := 2, code := method_4_code, exceptionTable := #[], attributes := #[] }
def k1m3 : Method := { name := "is", desc := "(II)Z", sig := { parameters := [.int, .int], returnType := some .boolean }, accessFlags := 10, code := some k1c3 }
def k1c4 : Code := { maxStack := 2, maxLocals := 3, code := method_5_code, exceptionTable := #[], attributes := #[] }
def k1m4 : Method := { name := "at", desc := "([III)I", sig := { parameters := [(.array .int), .int, .int], returnType := some .int }, accessFlags := 10, code := some k1c4 }
def k1c5 : Code := { maxStack := 4, maxLocals := 3, code := method_6_code, exceptionTable := #[], attributes := #[] }
def k1m5 : Method := { name := "m", desc := "([III)Z", sig := { parameters := [(.array .int), .int, .int], returnType := some .boolean }, accessFlags := 10, code := some k1c5 }
def k1c6 : Code := { maxStack := 6, maxLocals := 12, code := code, exceptionTable := #[], attributes := #[] }
def k1m6 : Method := { name := "law", desc := "(JI)Z", sig := { parameters := [.long, .int], returnType := some .boolean }, accessFlags := 9, code := some k1c6 }
/-- com/example/shallmark/shallmark/ExpressionIsXPathPinLaw -/
def k1 : Class := { plain "com/example/shallmark/shallmark/ExpressionIsXPathPinLaw" (some 0) with
  accessFlags := 49
  interfaces := #[]
  cf := some (fileOf pool1 10 #[] #[{ accessFlags := 1, nameIndex := 5, descriptorIndex := 6, attributes := #[] }, { accessFlags := 10, nameIndex := 21, descriptorIndex := 22, attributes := #[] }, { accessFlags := 10, nameIndex := 49, descriptorIndex := 50, attributes := #[] }, { accessFlags := 10, nameIndex := 17, descriptorIndex := 18, attributes := #[] }, { accessFlags := 10, nameIndex := 13, descriptorIndex := 14, attributes := #[] }, { accessFlags := 10, nameIndex := 45, descriptorIndex := 46, attributes := #[] }, { accessFlags := 9, nameIndex := 58, descriptorIndex := 59, attributes := #[] }] 49 2 #[] #[])
  fields := #[]
  methods := #[k1m0, k1m1, k1m2, k1m3, k1m4, k1m5, k1m6]
  instanceTypes := #[]
  staticTypes := #[]
  resolved := Array.replicate 66 none
  statics := none }

def pool2 : Array CpInfo := pool [(1, .class_ 2), (0, u "java/io/Serializable"), (0, .class_ 4), (0, u "java/lang/Object")] 2

/-- java/io/Serializable -/
def k2 : Class := { plain "java/io/Serializable" (some 0) with
  accessFlags := 1537
  interfaces := #[]
  cf := some (fileOf pool2 1 #[] #[] 1537 3 #[] #[])
  fields := #[]
  methods := #[]
  instanceTypes := #[]
  staticTypes := #[]
  resolved := Array.replicate 7 none
  statics := none }

def pool3 : Array CpInfo := pool [(1, .class_ 2), (0, u "java/lang/Comparable"), (0, .class_ 4), (0, u "java/lang/Object")] 7

/-- java/lang/Comparable -/
def k3 : Class := { plain "java/lang/Comparable" (some 0) with
  accessFlags := 1537
  interfaces := #[]
  cf := some (fileOf pool3 1 #[] #[] 1537 3 #[] #[])
  fields := #[]
  methods := #[]
  instanceTypes := #[]
  staticTypes := #[]
  resolved := Array.replicate 12 none
  statics := none }

def pool4 : Array CpInfo := pool [(2, .class_ 4), (1, u "java/lang/CharSequence"), (42, .class_ 48), (0, u "java/lang/CharSequence$1CodePointIterator"), (10, .class_ 60), (0, u "java/lang/CharSequence$1CharIterator"), (5, .class_ 67), (0, u "java/lang/Object")] 63

/-- java/lang/CharSequence -/
def k4 : Class := { plain "java/lang/CharSequence" (some 0) with
  accessFlags := 1537
  interfaces := #[]
  cf := some (fileOf pool4 2 #[.nestMembers #[47, 59]] #[] 1537 66 #[] #[])
  fields := #[]
  methods := #[]
  instanceTypes := #[]
  staticTypes := #[]
  resolved := Array.replicate 131 none
  statics := none }

def pool5 : Array CpInfo := pool [(1, .class_ 2), (0, u "java/lang/constant/Constable"), (0, .class_ 4), (0, u "java/lang/Object")] 6

/-- java/lang/constant/Constable -/
def k5 : Class := { plain "java/lang/constant/Constable" (some 0) with
  accessFlags := 1537
  interfaces := #[]
  cf := some (fileOf pool5 1 #[] #[] 1537 3 #[] #[])
  fields := #[]
  methods := #[]
  instanceTypes := #[]
  staticTypes := #[]
  resolved := Array.replicate 11 none
  statics := none }

def pool6 : Array CpInfo := pool [(1, .class_ 2), (0, u "java/lang/constant/ConstantDesc"), (0, .class_ 4), (0, u "java/lang/Object")] 32

/-- java/lang/constant/ConstantDesc -/
def k6 : Class := { plain "java/lang/constant/ConstantDesc" (some 0) with
  accessFlags := 1537
  interfaces := #[]
  cf := some (fileOf pool6 1 #[] #[] 1537 3 #[] #[])
  fields := #[]
  methods := #[]
  instanceTypes := #[]
  staticTypes := #[]
  resolved := Array.replicate 37 none
  statics := none }

def pool7 : Array CpInfo := pool [(1, .methodref 2 3), (0, .class_ 4), (0, .nameAndType 5 6), (0, u "java/lang/Object"), (0, u "<init>"), (0, u "()V"), (0, .string 8), (0, u ""), (0, .fieldref 10 11), (0, .class_ 12), (0, .nameAndType 13 14), (0, u "java/lang/String"), (0, u "value"), (0, u "[B"), (0, .fieldref 10 16), (0, .nameAndType 17 18), (0, u "coder"), (0, u "B"), (2, u "hash"), (0, u "I"), (2, u "hashIsZero"), (0, u "Z"), (0, .methodref 10 28), (0, .nameAndType 5 29), (0, u "([CIILjava/lang/Void;)V"), (8, .fieldref 10 39), (0, .nameAndType 40 26), (0, u "COMPACT_STRINGS"), (1, .class_ 44), (1, u "java/lang/StringUTF16"), (0, u "compress"), (1, .methodref 42 48), (0, .nameAndType 49 50), (0, u "coderFromArrayLen"), (0, u "([BI)B"), (2, u "toBytes"), (53, .class_ 109), (1, u "java/lang/StringLatin1"), (32, u "()Z"), (34, .methodref 42 178), (0, .nameAndType 45 179), (0, u "([CII)[B"), (29, .methodref 10 210), (0, .nameAndType 5 211), (0, u "([BB)V"), (122, u "()I"), (0, .methodref 10 336), (0, .nameAndType 17 337), (0, u "()B"), (31, u "(C)Z"), (94, u "()Ljava/lang/String;"), (27, .methodref 10 493), (0, .nameAndType 494 142), (0, u "isLatin1"), (10, .methodref 10 506), (0, .nameAndType 507 334), (0, u "length"), (67, .class_ 576), (0, u "java/lang/CharSequence"), (7, u "regionMatches"), (0, u "(ZILjava/lang/String;II)Z"), (13, u "CASE_INSENSITIVE_ORDER"), (0, u "Ljava/util/Comparator;"), (12, .methodref 107 614), (0, .nameAndType 615 616), (0, u "regionMatchesCI"), (0, u "([BI[BII)Z"), (165, u "valueOf"), (0, u "(C)Ljava/lang/String;"), (78, u "([B)Ljava/lang/String;"), (1, .methodref 107 865), (0, .nameAndType 866 862), (0, u "strip"), (143, u "([C)V"), (4, .methodref 107 1016), (0, .nameAndType 1017 369), (0, u "canEncode"), (0, .methodref 107 1019), (0, .nameAndType 53 1020), (0, u "(C)[B"), (80, u "serialPersistentFields"), (0, u "[Ljava/io/ObjectStreamField;"), (0, .class_ 1104), (0, u "java/lang/String$CaseInsensitiveComparator"), (1, .class_ 1107), (0, u "java/io/Serializable"), (0, .class_ 1109), (0, u "java/lang/Comparable"), (0, .class_ 1111), (0, u "java/lang/constant/Constable"), (0, .class_ 1113), (0, u "java/lang/constant/ConstantDesc"), (2, u "serialVersionUID"), (0, u "J"), (3, u "REPL"), (0, u "C"), (2, u "LATIN1"), (1, u "UTF16")] 323

def k7m0 : Method := { name := "<init>", desc := "()V", sig := { parameters := [], returnType := none }, accessFlags := 1, code := none }
def k7c1 : Code := { maxStack := 5, maxLocals := 2, code := jdk_42_method_3_code, exceptionTable := #[], attributes := #[] }
def k7m1 : Method := { name := "<init>", desc := "([C)V", sig := { parameters := [(.array .char)], returnType := none }, accessFlags := 1, code := some k7c1 }
def k7c2 : Code := { maxStack := 2, maxLocals := 1, code := jdk_42_method_54_code, exceptionTable := #[], attributes := #[] }
def k7m2 : Method := { name := "length", desc := "()I", sig := { parameters := [], returnType := some .int }, accessFlags := 1, code := some k7c2 }
def k7c3 : Code := { maxStack := 6, maxLocals := 9, code := jdk_42_method_74_code, exceptionTable := #[], attributes := #[] }
def k7m3 : Method := { name := "regionMatches", desc := "(ZILjava/lang/String;II)Z", sig := { parameters := [.boolean, .int, (.object "java/lang/String"), .int, .int], returnType := some .boolean }, accessFlags := 1, code := some k7c3 }
def k7c4 : Code := { maxStack := 1, maxLocals := 2, code := jdk_42_method_114_code, exceptionTable := #[], attributes := #[] }
def k7m4 : Method := { name := "strip", desc := "()Ljava/lang/String;", sig := { parameters := [], returnType := some (.object "java/lang/String") }, accessFlags := 1, code := some k7c4 }
def k7c5 : Code := { maxStack := 4, maxLocals := 1, code := jdk_42_method_139_code, exceptionTable := #[], attributes := #[] }
def k7m5 : Method := { name := "valueOf", desc := "(C)Ljava/lang/String;", sig := { parameters := [.char], returnType := some (.object "java/lang/String") }, accessFlags := 9, code := some k7c5 }
def k7c6 : Code := { maxStack := 4, maxLocals := 6, code := jdk_42_method_149_code, exceptionTable := #[], attributes := #[] }
def k7m6 : Method := { name := "<init>", desc := "([CIILjava/lang/Void;)V", sig := { parameters := [(.array .char), .int, .int, (.object "java/lang/Void")], returnType := none }, accessFlags := 2, code := some k7c6 }
def k7c7 : Code := { maxStack := 2, maxLocals := 3, code := jdk_42_method_151_code, exceptionTable := #[], attributes := #[] }
def k7m7 : Method := { name := "<init>", desc := "([BB)V", sig := { parameters := [(.array .byte), .byte], returnType := none }, accessFlags := 0, code := some k7c7 }
def k7c8 : Code := { maxStack := 1, maxLocals := 1, code := jdk_42_method_152_code, exceptionTable := #[], attributes := #[] }
def k7m8 : Method := { name := "coder", desc := "()B", sig := { parameters := [], returnType := some .byte }, accessFlags := 0, code := some k7c8 }
def k7c9 : Code := { maxStack := 1, maxLocals := 1, code := jdk_42_method_154_code, exceptionTable := #[], attributes := #[] }
def k7m9 : Method := { name := "isLatin1", desc := "()Z", sig := { parameters := [], returnType := some .boolean }, accessFlags := 0, code := some k7c9 }
/-- java/lang/String -/
def k7 : Class := { plain "java/lang/String" (some 0) with
  accessFlags := 49
  interfaces := #[2, 3, 4, 5, 6]
  cf := some (fileOf pool7 10 #[.nestMembers #[1103]] #[{ accessFlags := 1, nameIndex := 5, descriptorIndex := 6, attributes := #[] }, { accessFlags := 1, nameIndex := 5, descriptorIndex := 1010, attributes := #[] }, { accessFlags := 1, nameIndex := 507, descriptorIndex := 334, attributes := #[] }, { accessFlags := 1, nameIndex := 584, descriptorIndex := 585, attributes := #[] }, { accessFlags := 1, nameIndex := 866, descriptorIndex := 464, attributes := #[] }, { accessFlags := 9, nameIndex := 782, descriptorIndex := 783, attributes := #[] }, { accessFlags := 2, nameIndex := 5, descriptorIndex := 29, attributes := #[] }, { accessFlags := 0, nameIndex := 5, descriptorIndex := 211, attributes := #[] }, { accessFlags := 0, nameIndex := 17, descriptorIndex := 337, attributes := #[] }, { accessFlags := 0, nameIndex := 494, descriptorIndex := 142, attributes := #[] }] 49 2 #[1106, 1108, 575, 1110, 1112] #[{ accessFlags := 18, nameIndex := 13, descriptorIndex := 14, attributes := #[] }, { accessFlags := 18, nameIndex := 17, descriptorIndex := 18, attributes := #[] }, { accessFlags := 2, nameIndex := 21, descriptorIndex := 22, attributes := #[] }, { accessFlags := 2, nameIndex := 25, descriptorIndex := 26, attributes := #[] }, { accessFlags := 26, nameIndex := 1116, descriptorIndex := 1117, attributes := #[] }, { accessFlags := 24, nameIndex := 40, descriptorIndex := 26, attributes := #[] }, { accessFlags := 26, nameIndex := 1101, descriptorIndex := 1102, attributes := #[] }, { accessFlags := 26, nameIndex := 1121, descriptorIndex := 1122, attributes := #[] }, { accessFlags := 25, nameIndex := 599, descriptorIndex := 600, attributes := #[] }, { accessFlags := 24, nameIndex := 1125, descriptorIndex := 18, attributes := #[] }, { accessFlags := 24, nameIndex := 1127, descriptorIndex := 18, attributes := #[] }])
  fields := #[{ name := "value", type := (.array .byte), accessFlags := 18, slot := 0, constantValue := 0 }, { name := "coder", type := .byte, accessFlags := 18, slot := 1, constantValue := 0 }, { name := "hash", type := .int, accessFlags := 2, slot := 2, constantValue := 0 }, { name := "hashIsZero", type := .boolean, accessFlags := 2, slot := 3, constantValue := 0 }, { name := "serialVersionUID", type := .long, accessFlags := 26, slot := 0, constantValue := 0 }, { name := "COMPACT_STRINGS", type := .boolean, accessFlags := 24, slot := 1, constantValue := 0 }, { name := "serialPersistentFields", type := (.array (.object "java/io/ObjectStreamField")), accessFlags := 26, slot := 2, constantValue := 0 }, { name := "REPL", type := .char, accessFlags := 26, slot := 3, constantValue := 0 }, { name := "CASE_INSENSITIVE_ORDER", type := (.object "java/util/Comparator"), accessFlags := 25, slot := 4, constantValue := 0 }, { name := "LATIN1", type := .byte, accessFlags := 24, slot := 5, constantValue := 0 }, { name := "UTF16", type := .byte, accessFlags := 24, slot := 6, constantValue := 0 }]
  methods := #[k7m0, k7m1, k7m2, k7m3, k7m4, k7m5, k7m6, k7m7, k7m8, k7m9]
  instanceTypes := #[(.array .byte), .byte, .int, .boolean]
  staticTypes := #[.long, .boolean, (.array (.object "java/io/ObjectStreamField")), .char, (.object "java/util/Comparator"), .byte, .byte]
  resolved := Array.replicate 1451 none
  statics := some 0 }

def pool8 : Array CpInfo := pool [(6, .class_ 8), (1, u "java/lang/Object"), (0, u "<init>"), (0, u "()V"), (1, .class_ 14), (1, u "java/lang/StringUTF16"), (31, u "$assertionsDisabled"), (0, u "Z"), (13, u "HI_BYTE_SHIFT"), (0, u "I"), (2, u "LO_BYTE_SHIFT"), (49, .methodref 12 116), (0, .nameAndType 117 118), (0, u "compress"), (0, u "([CI[BII)I"), (3, u "([CII)[B"), (138, u "coderFromArrayLen"), (0, u "([BI)B"), (106, .class_ 371), (1, u "java/lang/StringUTF16$LinesSpliterator"), (58, u "MAX_LENGTH"), (196, .class_ 628), (0, u "java/lang/StringUTF16$CodePointsSpliterator"), (0, .class_ 630), (0, u "java/lang/StringUTF16$CharsSpliterator")] 4

def k8m0 : Method := { name := "<init>", desc := "()V", sig := { parameters := [], returnType := none }, accessFlags := 0, code := none }
def k8c1 : Code := { maxStack := 2, maxLocals := 2, code := jdk_52_method_15_code, exceptionTable := #[], attributes := #[] }
def k8m1 : Method := { name := "coderFromArrayLen", desc := "([BI)B", sig := { parameters := [(.array .byte), .int], returnType := some .byte }, accessFlags := 8, code := some k8c1 }
def k8c2 : Code := { maxStack := 5, maxLocals := 6, code := jdk_52_method_16_code, exceptionTable := #[], attributes := #[] }
def k8m2 : Method := { name := "compress", desc := "([CII)[B", sig := { parameters := [(.array .char), .int, .int], returnType := some (.array .byte) }, accessFlags := 9, code := some k8c2 }
def k8c3 : Code := { maxStack := 3, maxLocals := 7, code := jdk_52_method_21_code, exceptionTable := #[], attributes := #[] }
def k8m3 : Method := { name := "compress", desc := "([CI[BII)I", sig := { parameters := [(.array .char), .int, (.array .byte), .int, .int], returnType := some .int }, accessFlags := 9, code := some k8c3 }
/-- java/lang/StringUTF16 -/
def k8 : Class := { plain "java/lang/StringUTF16" (some 0) with
  accessFlags := 48
  interfaces := #[]
  cf := some (fileOf pool8 12 #[.nestMembers #[627, 629, 369]] #[{ accessFlags := 0, nameIndex := 9, descriptorIndex := 10, attributes := #[] }, { accessFlags := 8, nameIndex := 261, descriptorIndex := 262, attributes := #[] }, { accessFlags := 9, nameIndex := 117, descriptorIndex := 122, attributes := #[] }, { accessFlags := 9, nameIndex := 117, descriptorIndex := 118, attributes := #[] }] 48 6 #[] #[{ accessFlags := 26, nameIndex := 61, descriptorIndex := 62, attributes := #[] }, { accessFlags := 26, nameIndex := 65, descriptorIndex := 62, attributes := #[] }, { accessFlags := 24, nameIndex := 430, descriptorIndex := 62, attributes := #[] }, { accessFlags := 4120, nameIndex := 46, descriptorIndex := 47, attributes := #[] }])
  fields := #[{ name := "HI_BYTE_SHIFT", type := .int, accessFlags := 26, slot := 0, constantValue := 0 }, { name := "LO_BYTE_SHIFT", type := .int, accessFlags := 26, slot := 1, constantValue := 0 }, { name := "MAX_LENGTH", type := .int, accessFlags := 24, slot := 2, constantValue := 0 }, { name := "$assertionsDisabled", type := .boolean, accessFlags := 4120, slot := 3, constantValue := 0 }]
  methods := #[k8m0, k8m1, k8m2, k8m3]
  instanceTypes := #[]
  staticTypes := #[.int, .int, .int, .boolean]
  resolved := Array.replicate 635 none
  statics := none }

def pool9 : Array CpInfo := pool [(1, .class_ 2), (0, u "java/lang/String"), (1, .class_ 6), (1, u "java/lang/Object"), (0, u "<init>"), (0, u "()V"), (5, .class_ 16), (1, u "java/lang/StringLatin1"), (33, .methodref 14 51), (0, .nameAndType 52 53), (0, u "getChar"), (0, u "([BI)C"), (3, u "([B)I"), (8, .fieldref 67 68), (0, .class_ 69), (0, .nameAndType 70 71), (0, u "java/lang/CharacterDataLatin1"), (0, u "instance"), (0, u "Ljava/lang/CharacterDataLatin1;"), (18, u "canEncode"), (0, u "(I)Z"), (13, u "(C)Z"), (6, .methodref 1 113), (0, .nameAndType 7 114), (0, u "([BB)V"), (6, u "$assertionsDisabled"), (0, u "Z"), (8, .class_ 133), (1, u "java/util/Arrays"), (17, .string 152), (0, u ""), (0, .methodref 67 154), (0, .nameAndType 155 156), (0, u "equalsIgnoreCase"), (0, u "(BB)Z"), (38, .nameAndType 196 197), (0, u "newString"), (0, u "([BII)Ljava/lang/String;"), (12, .methodref 14 195), (0, .methodref 67 212), (0, .nameAndType 213 91), (0, u "isWhitespace"), (0, .methodref 14 215), (0, .nameAndType 216 57), (0, u "indexOfNonWhitespace"), (0, .methodref 14 218), (0, .nameAndType 219 57), (0, u "lastIndexOfNonWhitespace"), (1, .class_ 223), (1, u "java/lang/StringLatin1$LinesSpliterator"), (8, .methodref 131 233), (0, .nameAndType 234 235), (0, u "copyOfRange"), (0, u "([BII)[B"), (104, u "regionMatchesCI"), (0, u "([BI[BII)Z"), (25, u "([B)Ljava/lang/String;"), (3, u "strip"), (8, u "toBytes"), (1, u "(C)[B"), (7, .class_ 391), (0, u "java/lang/StringLatin1$CharsSpliterator")] 3

def k9m0 : Method := { name := "<init>", desc := "()V", sig := { parameters := [], returnType := none }, accessFlags := 0, code := none }
def k9c1 : Code := { maxStack := 2, maxLocals := 1, code := jdk_43_method_3_code, exceptionTable := #[], attributes := #[] }
def k9m1 : Method := { name := "canEncode", desc := "(C)Z", sig := { parameters := [.char], returnType := some .boolean }, accessFlags := 9, code := some k9c1 }
def k9c2 : Code := { maxStack := 2, maxLocals := 8, code := jdk_43_method_30_code, exceptionTable := #[], attributes := #[] }
def k9m2 : Method := { name := "regionMatchesCI", desc := "([BI[BII)Z", sig := { parameters := [(.array .byte), .int, (.array .byte), .int, .int], returnType := some .boolean }, accessFlags := 9, code := some k9c2 }
def k9c3 : Code := { maxStack := 2, maxLocals := 4, code := jdk_43_method_37_code, exceptionTable := #[], attributes := #[] }
def k9m3 : Method := { name := "indexOfNonWhitespace", desc := "([B)I", sig := { parameters := [(.array .byte)], returnType := some .int }, accessFlags := 9, code := some k9c3 }
def k9c4 : Code := { maxStack := 3, maxLocals := 4, code := jdk_43_method_38_code, exceptionTable := #[], attributes := #[] }
def k9m4 : Method := { name := "lastIndexOfNonWhitespace", desc := "([B)I", sig := { parameters := [(.array .byte)], returnType := some .int }, accessFlags := 9, code := some k9c4 }
def k9c5 : Code := { maxStack := 4, maxLocals := 4, code := jdk_43_method_39_code, exceptionTable := #[], attributes := #[] }
def k9m5 : Method := { name := "strip", desc := "([B)Ljava/lang/String;", sig := { parameters := [(.array .byte)], returnType := some (.object "java/lang/String") }, accessFlags := 9, code := some k9c5 }
def k9c6 : Code := { maxStack := 2, maxLocals := 2, code := jdk_43_method_44_code, exceptionTable := #[], attributes := #[] }
def k9m6 : Method := { name := "getChar", desc := "([BI)C", sig := { parameters := [(.array .byte), .int], returnType := some .char }, accessFlags := 9, code := some k9c6 }
def k9c7 : Code := { maxStack := 4, maxLocals := 1, code := jdk_43_method_46_code, exceptionTable := #[], attributes := #[] }
def k9m7 : Method := { name := "toBytes", desc := "(C)[B", sig := { parameters := [.char], returnType := some (.array .byte) }, accessFlags := 9, code := some k9c7 }
def k9c8 : Code := { maxStack := 6, maxLocals := 3, code := jdk_43_method_47_code, exceptionTable := #[], attributes := #[] }
def k9m8 : Method := { name := "newString", desc := "([BII)Ljava/lang/String;", sig := { parameters := [(.array .byte), .int, .int], returnType := some (.object "java/lang/String") }, accessFlags := 9, code := some k9c8 }
/-- java/lang/StringLatin1 -/
def k9 : Class := { plain "java/lang/StringLatin1" (some 0) with
  accessFlags := 48
  interfaces := #[]
  cf := some (fileOf pool9 14 #[.nestMembers #[390, 221]] #[{ accessFlags := 0, nameIndex := 7, descriptorIndex := 8, attributes := #[] }, { accessFlags := 9, nameIndex := 90, descriptorIndex := 105, attributes := #[] }, { accessFlags := 9, nameIndex := 340, descriptorIndex := 341, attributes := #[] }, { accessFlags := 9, nameIndex := 216, descriptorIndex := 57, attributes := #[] }, { accessFlags := 9, nameIndex := 219, descriptorIndex := 57, attributes := #[] }, { accessFlags := 9, nameIndex := 371, descriptorIndex := 367, attributes := #[] }, { accessFlags := 9, nameIndex := 52, descriptorIndex := 53, attributes := #[] }, { accessFlags := 9, nameIndex := 380, descriptorIndex := 382, attributes := #[] }, { accessFlags := 9, nameIndex := 196, descriptorIndex := 197, attributes := #[] }] 48 4 #[] #[{ accessFlags := 4120, nameIndex := 121, descriptorIndex := 122, attributes := #[] }])
  fields := #[{ name := "$assertionsDisabled", type := .boolean, accessFlags := 4120, slot := 0, constantValue := 0 }]
  methods := #[k9m0, k9m1, k9m2, k9m3, k9m4, k9m5, k9m6, k9m7, k9m8]
  instanceTypes := #[]
  staticTypes := #[.boolean]
  resolved := Array.replicate 395 none
  statics := none }

def pool10 : Array CpInfo := pool [(2, .class_ 4), (1, u "java/util/Map"), (31, .class_ 37), (0, u "java/util/Map$Entry"), (43, .fieldref 82 83), (0, .class_ 84), (0, .nameAndType 85 86), (0, u "java/util/ImmutableCollections"), (0, u "EMPTY_MAP"), (0, u "Ljava/util/ImmutableCollections$MapN;"), (6, .class_ 94), (0, u "java/lang/Object"), (6, .class_ 102), (0, u "java/util/ImmutableCollections$AbstractImmutableMap"), (5, u "of"), (0, u "()Ljava/util/Map;"), (140, u "copyOf"), (0, u "(Ljava/util/Map;)Ljava/util/Map;")] 11

def k10c0 : Code := { maxStack := 1, maxLocals := 0, code := jdk_72_method_26_code, exceptionTable := #[], attributes := #[] }
def k10m0 : Method := { name := "of", desc := "()Ljava/util/Map;", sig := { parameters := [], returnType := some (.object "java/util/Map") }, accessFlags := 9, code := some k10c0 }
def k10c1 : Code := { maxStack := 2, maxLocals := 1, code := jdk_72_method_39_code, exceptionTable := #[], attributes := #[] }
def k10m1 : Method := { name := "copyOf", desc := "(Ljava/util/Map;)Ljava/util/Map;", sig := { parameters := [(.object "java/util/Map")], returnType := some (.object "java/util/Map") }, accessFlags := 9, code := some k10c1 }
/-- java/util/Map -/
def k10 : Class := { plain "java/util/Map" (some 0) with
  accessFlags := 1537
  interfaces := #[]
  cf := some (fileOf pool10 2 #[.nestMembers #[36]] #[{ accessFlags := 9, nameIndex := 108, descriptorIndex := 109, attributes := #[] }, { accessFlags := 9, nameIndex := 250, descriptorIndex := 251, attributes := #[] }] 1537 93 #[] #[])
  fields := #[]
  methods := #[k10m0, k10m1]
  instanceTypes := #[]
  staticTypes := #[]
  resolved := Array.replicate 263 none
  statics := none }

def pool11 : Array CpInfo := pool [(2, .class_ 4), (1, u "java/lang/Object"), (0, u "<init>"), (0, u "()V"), (3, .class_ 11), (0, u "java/util/ImmutableCollections$List12"), (0, .class_ 13), (0, u "java/util/ImmutableCollections$ListN"), (3, u "Z"), (29, .class_ 49), (1, u "java/util/ImmutableCollections"), (0, u "$assertionsDisabled"), (5, u "[Ljava/lang/Object;"), (5, u "EMPTY_LIST"), (0, u "Ljava/util/ImmutableCollections$ListN;"), (8, u "EMPTY_LIST_NULLS"), (22, u "SALT32L"), (0, u "J"), (2, u "REVERSE"), (6, u "archivedObjects"), (2, u "EMPTY"), (0, u "Ljava/lang/Object;"), (0, .class_ 112), (0, u "java/util/ImmutableCollections$SetN"), (5, u "EMPTY_SET"), (0, u "Ljava/util/ImmutableCollections$SetN;"), (0, .class_ 121), (0, u "java/util/ImmutableCollections$MapN"), (3, u "EMPTY_MAP"), (0, u "Ljava/util/ImmutableCollections$MapN;"), (4, u "EXPAND_FACTOR"), (0, u "I"), (36, .class_ 170), (0, u "java/util/ImmutableCollections$MapN$MapNIterator"), (0, .class_ 172), (0, u "java/util/ImmutableCollections$MapN$1"), (0, .class_ 174), (0, u "java/util/ImmutableCollections$Map1"), (0, .class_ 176), (0, u "java/util/ImmutableCollections$AbstractImmutableMap"), (0, .class_ 178), (0, u "java/util/ImmutableCollections$SetN$SetNIterator"), (0, .class_ 180), (0, u "java/util/ImmutableCollections$Set12"), (0, .class_ 182), (0, u "java/util/ImmutableCollections$Set12$1"), (0, .class_ 184), (0, u "java/util/ImmutableCollections$AbstractImmutableSet"), (0, .class_ 186), (0, u "java/util/ImmutableCollections$SubList"), (0, .class_ 188), (0, u "java/util/ImmutableCollections$ListItr"), (0, .class_ 190), (0, u "java/util/ImmutableCollections$AbstractImmutableList"), (0, .class_ 192), (0, u "java/util/ImmutableCollections$AbstractImmutableCollection"), (0, .class_ 194), (0, u "java/util/ImmutableCollections$Access"), (0, .class_ 196), (0, u "java/util/ImmutableCollections$Access$1")] 16

def k11m0 : Method := { name := "<init>", desc := "()V", sig := { parameters := [], returnType := none }, accessFlags := 2, code := none }
/-- java/util/ImmutableCollections -/
def k11 : Class := { plain "java/util/ImmutableCollections" (some 0) with
  accessFlags := 32
  interfaces := #[]
  cf := some (fileOf pool11 47 #[.nestMembers #[120, 169, 171, 173, 175, 111, 177, 179, 181, 183, 12, 10, 185, 187, 189, 191, 193, 195]] #[{ accessFlags := 2, nameIndex := 5, descriptorIndex := 6, attributes := #[] }] 32 2 #[] #[{ accessFlags := 26, nameIndex := 95, descriptorIndex := 96, attributes := #[] }, { accessFlags := 26, nameIndex := 99, descriptorIndex := 17, attributes := #[] }, { accessFlags := 10, nameIndex := 106, descriptorIndex := 56, attributes := #[] }, { accessFlags := 26, nameIndex := 109, descriptorIndex := 110, attributes := #[] }, { accessFlags := 24, nameIndex := 62, descriptorIndex := 63, attributes := #[] }, { accessFlags := 24, nameIndex := 72, descriptorIndex := 63, attributes := #[] }, { accessFlags := 24, nameIndex := 118, descriptorIndex := 119, attributes := #[] }, { accessFlags := 24, nameIndex := 125, descriptorIndex := 126, attributes := #[] }, { accessFlags := 24, nameIndex := 131, descriptorIndex := 132, attributes := #[] }, { accessFlags := 4120, nameIndex := 50, descriptorIndex := 17, attributes := #[] }])
  fields := #[{ name := "SALT32L", type := .long, accessFlags := 26, slot := 0, constantValue := 0 }, { name := "REVERSE", type := .boolean, accessFlags := 26, slot := 1, constantValue := 0 }, { name := "archivedObjects", type := (.array (.object "java/lang/Object")), accessFlags := 10, slot := 2, constantValue := 0 }, { name := "EMPTY", type := (.object "java/lang/Object"), accessFlags := 26, slot := 3, constantValue := 0 }, { name := "EMPTY_LIST", type := (.object "java/util/ImmutableCollections$ListN"), accessFlags := 24, slot := 4, constantValue := 0 }, { name := "EMPTY_LIST_NULLS", type := (.object "java/util/ImmutableCollections$ListN"), accessFlags := 24, slot := 5, constantValue := 0 }, { name := "EMPTY_SET", type := (.object "java/util/ImmutableCollections$SetN"), accessFlags := 24, slot := 6, constantValue := 0 }, { name := "EMPTY_MAP", type := (.object "java/util/ImmutableCollections$MapN"), accessFlags := 24, slot := 7, constantValue := 0 }, { name := "EXPAND_FACTOR", type := .int, accessFlags := 24, slot := 8, constantValue := 0 }, { name := "$assertionsDisabled", type := .boolean, accessFlags := 4120, slot := 9, constantValue := 0 }]
  methods := #[k11m0]
  instanceTypes := #[]
  staticTypes := #[.long, .boolean, (.array (.object "java/lang/Object")), (.object "java/lang/Object"), (.object "java/util/ImmutableCollections$ListN"), (.object "java/util/ImmutableCollections$ListN"), (.object "java/util/ImmutableCollections$SetN"), (.object "java/util/ImmutableCollections$MapN"), .int, .boolean]
  resolved := Array.replicate 213 none
  statics := some 1 }

def pool12 : Array CpInfo := pool [(1, .methodref 2 3), (0, .class_ 4), (0, .nameAndType 5 6), (0, u "java/lang/Object"), (0, u "<init>"), (0, u "()V"), (0, .class_ 8), (0, u "java/lang/Record")] 13

def k12c0 : Code := { maxStack := 1, maxLocals := 1, code := jdk_30_method_1_code, exceptionTable := #[], attributes := #[] }
def k12m0 : Method := { name := "<init>", desc := "()V", sig := { parameters := [], returnType := none }, accessFlags := 4, code := some k12c0 }
/-- java/lang/Record -/
def k12 : Class := { plain "java/lang/Record" (some 0) with
  accessFlags := 1057
  interfaces := #[]
  cf := some (fileOf pool12 7 #[] #[{ accessFlags := 4, nameIndex := 5, descriptorIndex := 6, attributes := #[] }] 1057 2 #[] #[])
  fields := #[]
  methods := #[k12m0]
  instanceTypes := #[]
  staticTypes := #[]
  resolved := Array.replicate 22 none
  statics := none }

def pool13 : Array CpInfo := pool [(1, .methodref 2 3), (0, .class_ 4), (0, .nameAndType 5 6), (0, u "java/lang/Record"), (0, u "<init>"), (0, u "()V"), (0, .interfaceMethodref 8 9), (0, .class_ 10), (0, .nameAndType 11 12), (0, u "java/util/Map"), (0, u "copyOf"), (0, u "(Ljava/util/Map;)Ljava/util/Map;"), (0, .fieldref 14 15), (0, .class_ 16), (0, .nameAndType 17 18), (0, u "com/example/shallmark/shallmark/Expression"), (0, u "text"), (0, u "Ljava/lang/String;"), (0, .fieldref 14 20), (0, .nameAndType 21 22), (0, u "namespaces"), (0, u "Ljava/util/Map;"), (0, .fieldref 14 24), (0, .nameAndType 25 18), (0, u "language"), (0, .fieldref 14 27), (0, .nameAndType 28 29), (0, u "line"), (0, u "I"), (0, .methodref 31 32), (0, .class_ 33), (0, .nameAndType 34 35), (0, u "java/lang/String"), (0, u "strip"), (0, u "()Ljava/lang/String;"), (0, .string 37), (0, u "xpath"), (0, .methodref 31 39), (0, .nameAndType 40 41), (0, u "regionMatches"), (0, u "(ZILjava/lang/String;II)Z"), (14, u "(Ljava/lang/String;Ljava/util/Map;Ljava/lang/String;I)V"), (4, u "isXPath"), (0, u "()Z")] 28

def k13c0 : Code := { maxStack := 2, maxLocals := 5, code := prog_9_method_1_code, exceptionTable := #[], attributes := #[] }
def k13m0 : Method := { name := "<init>", desc := "(Ljava/lang/String;Ljava/util/Map;Ljava/lang/String;I)V", sig := { parameters := [(.object "java/lang/String"), (.object "java/util/Map"), (.object "java/lang/String"), .int], returnType := none }, accessFlags := 1, code := some k13c0 }
def k13c1 : Code := { maxStack := 6, maxLocals := 1, code := prog_9_method_2_code, exceptionTable := #[], attributes := #[] }
def k13m1 : Method := { name := "isXPath", desc := "()Z", sig := { parameters := [], returnType := some .boolean }, accessFlags := 1, code := some k13c1 }
/-- com/example/shallmark/shallmark/Expression -/
def k13 : Class := { plain "com/example/shallmark/shallmark/Expression" (some 12) with
  accessFlags := 49
  interfaces := #[]
  cf := some (fileOf pool13 14 #[] #[{ accessFlags := 1, nameIndex := 5, descriptorIndex := 56, attributes := #[] }, { accessFlags := 1, nameIndex := 61, descriptorIndex := 62, attributes := #[] }] 49 2 #[] #[{ accessFlags := 18, nameIndex := 17, descriptorIndex := 18, attributes := #[] }, { accessFlags := 18, nameIndex := 21, descriptorIndex := 22, attributes := #[] }, { accessFlags := 18, nameIndex := 25, descriptorIndex := 18, attributes := #[] }, { accessFlags := 18, nameIndex := 28, descriptorIndex := 29, attributes := #[] }])
  fields := #[{ name := "text", type := (.object "java/lang/String"), accessFlags := 18, slot := 0, constantValue := 0 }, { name := "namespaces", type := (.object "java/util/Map"), accessFlags := 18, slot := 1, constantValue := 0 }, { name := "language", type := (.object "java/lang/String"), accessFlags := 18, slot := 2, constantValue := 0 }, { name := "line", type := .int, accessFlags := 18, slot := 3, constantValue := 0 }]
  methods := #[k13m0, k13m1]
  instanceTypes := #[(.object "java/lang/String"), (.object "java/util/Map"), (.object "java/lang/String"), .int]
  staticTypes := #[]
  resolved := Array.replicate 91 none
  statics := none }

def pool14 : Array CpInfo := pool [(2, .class_ 4), (1, u "java/lang/Object"), (0, u "<init>"), (0, u "()V"), (1, .class_ 10), (1, u "java/util/AbstractMap"), (42, .class_ 54), (0, u "java/util/Map"), (9, u "keySet"), (0, u "Ljava/util/Set;"), (0, .class_ 67), (0, u "java/util/AbstractMap$1"), (5, u "values"), (0, u "Ljava/util/Collection;"), (0, .class_ 76), (0, u "java/util/AbstractMap$2"), (104, .class_ 182), (0, u "java/util/AbstractMap$ViewCollection"), (0, .class_ 184), (0, u "java/util/AbstractMap$SimpleImmutableEntry"), (0, .class_ 186), (0, u "java/util/AbstractMap$SimpleEntry"), (0, .class_ 188), (0, u "java/util/AbstractMap$2$1"), (0, .class_ 190), (0, u "java/util/AbstractMap$1$1")] 5

def k14m0 : Method := { name := "<init>", desc := "()V", sig := { parameters := [], returnType := none }, accessFlags := 4, code := none }
/-- java/util/AbstractMap -/
def k14 : Class := { plain "java/util/AbstractMap" (some 0) with
  accessFlags := 1057
  interfaces := #[10]
  cf := some (fileOf pool14 8 #[.nestMembers #[181, 183, 185, 75, 187, 66, 189]] #[{ accessFlags := 4, nameIndex := 5, descriptorIndex := 6, attributes := #[] }] 1057 2 #[53] #[{ accessFlags := 128, nameIndex := 64, descriptorIndex := 65, attributes := #[] }, { accessFlags := 128, nameIndex := 73, descriptorIndex := 74, attributes := #[] }])
  fields := #[{ name := "keySet", type := (.object "java/util/Set"), accessFlags := 128, slot := 0, constantValue := 0 }, { name := "values", type := (.object "java/util/Collection"), accessFlags := 128, slot := 1, constantValue := 0 }]
  methods := #[k14m0]
  instanceTypes := #[(.object "java/util/Set"), (.object "java/util/Collection")]
  staticTypes := #[]
  resolved := Array.replicate 196 none
  statics := none }

def pool15 : Array CpInfo := pool [(2, .class_ 4), (1, u "java/util/AbstractMap"), (0, u "<init>"), (0, u "()V"), (1, .class_ 10), (1, u "java/util/ImmutableCollections"), (3, .class_ 16), (1, u "java/util/ImmutableCollections$AbstractImmutableMap"), (2, .class_ 20), (0, u "java/io/Serializable")] 66

def k15m0 : Method := { name := "<init>", desc := "()V", sig := { parameters := [], returnType := none }, accessFlags := 0, code := none }
/-- java/util/ImmutableCollections$AbstractImmutableMap -/
def k15 : Class := { plain "java/util/ImmutableCollections$AbstractImmutableMap" (some 14) with
  accessFlags := 1056
  interfaces := #[2]
  cf := some (fileOf pool15 14 #[.nestHost 8] #[{ accessFlags := 0, nameIndex := 5, descriptorIndex := 6, attributes := #[] }] 1056 2 #[19] #[])
  fields := #[]
  methods := #[k15m0]
  instanceTypes := #[(.object "java/util/Set"), (.object "java/util/Collection")]
  staticTypes := #[]
  resolved := Array.replicate 87 none
  statics := none }

def pool16 : Array CpInfo := pool [(1, .class_ 2), (0, u "java/util/ImmutableCollections"), (1, .class_ 6), (1, u "java/util/ImmutableCollections$AbstractImmutableMap"), (10, .class_ 19), (1, u "java/util/ImmutableCollections$MapN"), (0, u "size"), (0, u "I"), (4, u "table"), (0, u "[Ljava/lang/Object;")] 121

/-- java/util/ImmutableCollections$MapN -/
def k16 : Class := { plain "java/util/ImmutableCollections$MapN" (some 15) with
  accessFlags := 48
  interfaces := #[]
  cf := some (fileOf pool16 17 #[.nestHost 1] #[] 48 4 #[] #[{ accessFlags := 16, nameIndex := 26, descriptorIndex := 27, attributes := #[] }, { accessFlags := 16, nameIndex := 20, descriptorIndex := 21, attributes := #[] }])
  fields := #[{ name := "table", type := (.array (.object "java/lang/Object")), accessFlags := 16, slot := 2, constantValue := 0 }, { name := "size", type := .int, accessFlags := 16, slot := 3, constantValue := 0 }]
  methods := #[]
  instanceTypes := #[(.object "java/util/Set"), (.object "java/util/Collection"), (.array (.object "java/lang/Object")), .int]
  staticTypes := #[]
  resolved := Array.replicate 149 none
  statics := none }

def pool17 : Array CpInfo := pool [(2, .class_ 4), (1, u "java/lang/Object"), (0, u "<init>"), (0, u "()V"), (1, .class_ 10), (1, u "java/lang/CharacterData")] 75

def k17m0 : Method := { name := "<init>", desc := "()V", sig := { parameters := [], returnType := none }, accessFlags := 0, code := none }
/-- java/lang/CharacterData -/
def k17 : Class := { plain "java/lang/CharacterData" (some 0) with
  accessFlags := 1056
  interfaces := #[]
  cf := some (fileOf pool17 8 #[] #[{ accessFlags := 0, nameIndex := 5, descriptorIndex := 6, attributes := #[] }] 1056 2 #[] #[])
  fields := #[]
  methods := #[k17m0]
  instanceTypes := #[]
  staticTypes := #[]
  resolved := Array.replicate 86 none
  statics := none }

def pool18 : Array CpInfo := pool [(1, .fieldref 2 3), (0, .class_ 4), (0, .nameAndType 5 6), (0, u "java/lang/CharacterDataLatin1"), (0, u "A"), (0, u "[I"), (2, u "B"), (0, u "[C"), (3, u "(I)I"), (0, .methodref 2 16), (0, .nameAndType 17 14), (0, u "getProperties"), (3, u "(I)Z"), (5, u "DIGITS"), (0, u "[B"), (8, u "sharpsMap"), (1, .class_ 41), (1, u "java/lang/CharacterData"), (0, u "<init>"), (0, u "()V"), (3, u "instance"), (0, u "Ljava/lang/CharacterDataLatin1;"), (66, u "equalsIgnoreCase"), (0, u "(BB)Z"), (10, u "isWhitespace")] 13

def k18c0 : Code := { maxStack := 2, maxLocals := 4, code := jdk_116_method_1_code, exceptionTable := #[], attributes := #[] }
def k18m0 : Method := { name := "getProperties", desc := "(I)I", sig := { parameters := [.int], returnType := some .int }, accessFlags := 0, code := some k18c0 }
def k18c1 : Code := { maxStack := 3, maxLocals := 3, code := jdk_116_method_22_code, exceptionTable := #[], attributes := #[] }
def k18m1 : Method := { name := "equalsIgnoreCase", desc := "(BB)Z", sig := { parameters := [.byte, .byte], returnType := some .boolean }, accessFlags := 8, code := some k18c1 }
def k18c2 : Code := { maxStack := 2, maxLocals := 3, code := jdk_116_method_26_code, exceptionTable := #[], attributes := #[] }
def k18m2 : Method := { name := "isWhitespace", desc := "(I)Z", sig := { parameters := [.int], returnType := some .boolean }, accessFlags := 0, code := some k18c2 }
def k18m3 : Method := { name := "<init>", desc := "()V", sig := { parameters := [], returnType := none }, accessFlags := 2, code := none }
/-- java/lang/CharacterDataLatin1 -/
def k18 : Class := { plain "java/lang/CharacterDataLatin1" (some 17) with
  accessFlags := 32
  interfaces := #[]
  cf := some (fileOf pool18 2 #[] #[{ accessFlags := 0, nameIndex := 17, descriptorIndex := 14, attributes := #[] }, { accessFlags := 8, nameIndex := 115, descriptorIndex := 116, attributes := #[] }, { accessFlags := 0, nameIndex := 127, descriptorIndex := 21, attributes := #[] }, { accessFlags := 2, nameIndex := 42, descriptorIndex := 43, attributes := #[] }] 32 39 #[] #[{ accessFlags := 26, nameIndex := 27, descriptorIndex := 28, attributes := #[] }, { accessFlags := 8, nameIndex := 37, descriptorIndex := 10, attributes := #[] }, { accessFlags := 24, nameIndex := 47, descriptorIndex := 48, attributes := #[] }, { accessFlags := 24, nameIndex := 5, descriptorIndex := 6, attributes := #[] }, { accessFlags := 24, nameIndex := 9, descriptorIndex := 10, attributes := #[] }])
  fields := #[{ name := "DIGITS", type := (.array .byte), accessFlags := 26, slot := 0, constantValue := 0 }, { name := "sharpsMap", type := (.array .char), accessFlags := 8, slot := 1, constantValue := 0 }, { name := "instance", type := (.object "java/lang/CharacterDataLatin1"), accessFlags := 24, slot := 2, constantValue := 0 }, { name := "A", type := (.array .int), accessFlags := 24, slot := 3, constantValue := 0 }, { name := "B", type := (.array .char), accessFlags := 24, slot := 4, constantValue := 0 }]
  methods := #[k18m0, k18m1, k18m2, k18m3]
  instanceTypes := #[]
  staticTypes := #[(.array .byte), (.array .char), (.object "java/lang/CharacterDataLatin1"), (.array .int), (.array .char)]
  resolved := Array.replicate 141 none
  statics := some 2 }

def pool19 : Array CpInfo := pool [(2, .class_ 4), (1, u "java/lang/Object"), (0, u "<init>"), (0, u "()V"), (7, .class_ 16), (1, u "java/util/Arrays"), (57, .class_ 76), (1, u "java/util/Arrays$NaturalOrder"), (36, .class_ 115), (1, u "java/util/Arrays$LegacyMergeSort"), (1, u "Z"), (21, u "copyOfRange"), (10, .methodref 151 152), (0, .class_ 153), (0, .nameAndType 154 155), (0, u "java/lang/System"), (0, u "arraycopy"), (0, u "(Ljava/lang/Object;ILjava/lang/Object;II)V"), (148, .methodref 305 306), (0, .class_ 307), (0, .nameAndType 308 309), (0, u "java/lang/Math"), (0, u "min"), (0, u "(II)I"), (29, .methodref 14 340), (0, .nameAndType 341 342), (0, u "copyOfRangeByte"), (0, u "([BII)[B"), (0, .methodref 14 344), (0, .nameAndType 345 346), (0, u "checkLength"), (0, u "(II)V"), (28, .class_ 376), (0, u "java/util/Arrays$ArrayList"), (68, u "$assertionsDisabled"), (269, u "MIN_ARRAY_SORT_GRAN"), (0, u "I"), (2, u "INSERTIONSORT_THRESHOLD"), (255, .class_ 976), (0, u "java/util/Arrays$ArrayItr")] 52

def k19m0 : Method := { name := "<init>", desc := "()V", sig := { parameters := [], returnType := none }, accessFlags := 2, code := none }
def k19c1 : Code := { maxStack := 4, maxLocals := 2, code := jdk_65_method_131_code, exceptionTable := #[], attributes := #[] }
def k19m1 : Method := { name := "checkLength", desc := "(II)V", sig := { parameters := [.int, .int], returnType := none }, accessFlags := 10, code := some k19c1 }
def k19c2 : Code := { maxStack := 3, maxLocals := 3, code := jdk_65_method_132_code, exceptionTable := #[], attributes := #[] }
def k19m2 : Method := { name := "copyOfRange", desc := "([BII)[B", sig := { parameters := [(.array .byte), .int, .int], returnType := some (.array .byte) }, accessFlags := 9, code := some k19c2 }
def k19c3 : Code := { maxStack := 6, maxLocals := 5, code := jdk_65_method_133_code, exceptionTable := #[], attributes := #[] }
def k19m3 : Method := { name := "copyOfRangeByte", desc := "([BII)[B", sig := { parameters := [(.array .byte), .int, .int], returnType := some (.array .byte) }, accessFlags := 10, code := some k19c3 }
/-- java/util/Arrays -/
def k19 : Class := { plain "java/util/Arrays" (some 0) with
  accessFlags := 49
  interfaces := #[]
  cf := some (fileOf pool19 14 #[.nestMembers #[975, 375, 113, 74]] #[{ accessFlags := 2, nameIndex := 5, descriptorIndex := 6, attributes := #[] }, { accessFlags := 10, nameIndex := 345, descriptorIndex := 346, attributes := #[] }, { accessFlags := 9, nameIndex := 139, descriptorIndex := 342, attributes := #[] }, { accessFlags := 10, nameIndex := 341, descriptorIndex := 342, attributes := #[] }] 49 2 #[] #[{ accessFlags := 26, nameIndex := 715, descriptorIndex := 716, attributes := #[] }, { accessFlags := 26, nameIndex := 719, descriptorIndex := 716, attributes := #[] }, { accessFlags := 4120, nameIndex := 445, descriptorIndex := 117, attributes := #[] }])
  fields := #[{ name := "MIN_ARRAY_SORT_GRAN", type := .int, accessFlags := 26, slot := 0, constantValue := 0 }, { name := "INSERTIONSORT_THRESHOLD", type := .int, accessFlags := 26, slot := 1, constantValue := 0 }, { name := "$assertionsDisabled", type := .boolean, accessFlags := 4120, slot := 2, constantValue := 0 }]
  methods := #[k19m0, k19m1, k19m2, k19m3]
  instanceTypes := #[]
  staticTypes := #[.int, .int, .boolean]
  resolved := Array.replicate 1029 none
  statics := none }

def pool20 : Array CpInfo := pool [(1, .class_ 2), (0, u "java/lang/Math"), (1, .class_ 6), (1, u "java/lang/Object"), (0, u "<init>"), (0, u "()V"), (89, .class_ 100), (1, u "java/lang/Math$RandomNumberGeneratorHolder"), (71, u "negativeZeroFloatBits"), (0, u "J"), (2, u "negativeZeroDoubleBits"), (24, u "min"), (43, u "$assertionsDisabled"), (0, u "Z"), (88, u "(II)I"), (2, u "twoToTheDoubleScaleDown"), (0, u "D"), (4, u "twoToTheDoubleScaleUp"), (9, u "E"), (3, u "PI"), (2, u "TAU"), (2, u "DEGREES_TO_RADIANS"), (0, u "RADIANS_TO_DEGREES")] 94

def k20m0 : Method := { name := "<init>", desc := "()V", sig := { parameters := [], returnType := none }, accessFlags := 2, code := none }
def k20c1 : Code := { maxStack := 2, maxLocals := 2, code := jdk_29_method_69_code, exceptionTable := #[], attributes := #[] }
def k20m1 : Method := { name := "min", desc := "(II)I", sig := { parameters := [.int, .int], returnType := some .int }, accessFlags := 9, code := some k20c1 }
/-- java/lang/Math -/
def k20 : Class := { plain "java/lang/Math" (some 0) with
  accessFlags := 49
  interfaces := #[]
  cf := some (fileOf pool20 1 #[.nestMembers #[98]] #[{ accessFlags := 2, nameIndex := 7, descriptorIndex := 8, attributes := #[] }, { accessFlags := 9, nameIndex := 201, descriptorIndex := 335, attributes := #[] }] 49 4 #[] #[{ accessFlags := 25, nameIndex := 354, descriptorIndex := 339, attributes := #[] }, { accessFlags := 25, nameIndex := 358, descriptorIndex := 339, attributes := #[] }, { accessFlags := 25, nameIndex := 361, descriptorIndex := 339, attributes := #[] }, { accessFlags := 26, nameIndex := 364, descriptorIndex := 339, attributes := #[] }, { accessFlags := 26, nameIndex := 365, descriptorIndex := 339, attributes := #[] }, { accessFlags := 26, nameIndex := 172, descriptorIndex := 173, attributes := #[] }, { accessFlags := 26, nameIndex := 176, descriptorIndex := 173, attributes := #[] }, { accessFlags := 8, nameIndex := 344, descriptorIndex := 339, attributes := #[] }, { accessFlags := 8, nameIndex := 338, descriptorIndex := 339, attributes := #[] }, { accessFlags := 4120, nameIndex := 245, descriptorIndex := 246, attributes := #[] }])
  fields := #[{ name := "E", type := .double, accessFlags := 25, slot := 0, constantValue := 0 }, { name := "PI", type := .double, accessFlags := 25, slot := 1, constantValue := 0 }, { name := "TAU", type := .double, accessFlags := 25, slot := 2, constantValue := 0 }, { name := "DEGREES_TO_RADIANS", type := .double, accessFlags := 26, slot := 3, constantValue := 0 }, { name := "RADIANS_TO_DEGREES", type := .double, accessFlags := 26, slot := 4, constantValue := 0 }, { name := "negativeZeroFloatBits", type := .long, accessFlags := 26, slot := 5, constantValue := 0 }, { name := "negativeZeroDoubleBits", type := .long, accessFlags := 26, slot := 6, constantValue := 0 }, { name := "twoToTheDoubleScaleUp", type := .double, accessFlags := 8, slot := 7, constantValue := 0 }, { name := "twoToTheDoubleScaleDown", type := .double, accessFlags := 8, slot := 8, constantValue := 0 }, { name := "$assertionsDisabled", type := .boolean, accessFlags := 4120, slot := 9, constantValue := 0 }]
  methods := #[k20m0, k20m1]
  instanceTypes := #[]
  staticTypes := #[.double, .double, .double, .double, .double, .long, .long, .double, .double, .boolean]
  resolved := Array.replicate 460 none
  statics := none }

def pool21 : Array CpInfo := pool [(2, .class_ 4), (1, u "java/lang/Object"), (0, u "<init>"), (0, u "()V"), (1, .class_ 10), (1, u "java/lang/System"), (0, u "allowSecurityManager"), (0, u "I"), (16, u "cons"), (0, u "Ljava/io/Console;"), (77, .class_ 110), (1, u "java/lang/System$CallersHolder"), (43, u "initialErrStream"), (0, u "Ljava/io/PrintStream;"), (19, u "security"), (0, u "Ljava/lang/SecurityManager;"), (31, .class_ 209), (0, u "java/lang/System$1"), (7, u "props"), (0, u "Ljava/util/Properties;"), (2, u "lineSeparator"), (0, u "Ljava/lang/String;"), (96, .class_ 321), (1, u "java/lang/System$LoggerFinder"), (5, .class_ 328), (0, u "java/lang/System$Logger"), (67, u "err"), (2, u "out"), (91, u "notSupportedJnuEncoding"), (15, u "in"), (17, u "initialIn"), (0, u "Ljava/io/InputStream;"), (35, u "bootLayer"), (0, u "Ljava/lang/ModuleLayer;"), (99, .class_ 664), (0, u "java/lang/System$2"), (9, u "NEVER"), (2, u "MAYBE"), (49, u "arraycopy"), (0, u "(Ljava/lang/Object;ILjava/lang/Object;II)V"), (72, .class_ 802), (0, u "java/lang/System$Logger$Level")] 31

def k21m0 : Method := { name := "<init>", desc := "()V", sig := { parameters := [], returnType := none }, accessFlags := 2, code := none }
def k21m1 : Method := { name := "arraycopy", desc := "(Ljava/lang/Object;ILjava/lang/Object;II)V", sig := { parameters := [(.object "java/lang/Object"), .int, (.object "java/lang/Object"), .int, .int], returnType := none }, accessFlags := 265, code := none }
/-- java/lang/System -/
def k21 : Class := { plain "java/lang/System" (some 0) with
  accessFlags := 49
  interfaces := #[]
  cf := some (fileOf pool21 8 #[.nestMembers #[319, 327, 801, 108, 663, 208]] #[{ accessFlags := 2, nameIndex := 5, descriptorIndex := 6, attributes := #[] }, { accessFlags := 265, nameIndex := 727, descriptorIndex := 728, attributes := #[] }] 49 2 #[] #[{ accessFlags := 25, nameIndex := 507, descriptorIndex := 526, attributes := #[] }, { accessFlags := 25, nameIndex := 399, descriptorIndex := 155, attributes := #[] }, { accessFlags := 25, nameIndex := 396, descriptorIndex := 155, attributes := #[] }, { accessFlags := 10, nameIndex := 525, descriptorIndex := 526, attributes := #[] }, { accessFlags := 26, nameIndex := 674, descriptorIndex := 12, attributes := #[] }, { accessFlags := 26, nameIndex := 677, descriptorIndex := 12, attributes := #[] }, { accessFlags := 10, nameIndex := 11, descriptorIndex := 12, attributes := #[] }, { accessFlags := 74, nameIndex := 175, descriptorIndex := 176, attributes := #[] }, { accessFlags := 10, nameIndex := 491, descriptorIndex := 222, attributes := #[] }, { accessFlags := 74, nameIndex := 29, descriptorIndex := 30, attributes := #[] }, { accessFlags := 74, nameIndex := 154, descriptorIndex := 155, attributes := #[] }, { accessFlags := 10, nameIndex := 217, descriptorIndex := 218, attributes := #[] }, { accessFlags := 10, nameIndex := 221, descriptorIndex := 222, attributes := #[] }, { accessFlags := 8, nameIndex := 562, descriptorIndex := 563, attributes := #[] }])
  fields := #[{ name := "in", type := (.object "java/io/InputStream"), accessFlags := 25, slot := 0, constantValue := 0 }, { name := "out", type := (.object "java/io/PrintStream"), accessFlags := 25, slot := 1, constantValue := 0 }, { name := "err", type := (.object "java/io/PrintStream"), accessFlags := 25, slot := 2, constantValue := 0 }, { name := "initialIn", type := (.object "java/io/InputStream"), accessFlags := 10, slot := 3, constantValue := 0 }, { name := "NEVER", type := .int, accessFlags := 26, slot := 4, constantValue := 0 }, { name := "MAYBE", type := .int, accessFlags := 26, slot := 5, constantValue := 0 }, { name := "allowSecurityManager", type := .int, accessFlags := 10, slot := 6, constantValue := 0 }, { name := "security", type := (.object "java/lang/SecurityManager"), accessFlags := 74, slot := 7, constantValue := 0 }, { name := "notSupportedJnuEncoding", type := (.object "java/lang/String"), accessFlags := 10, slot := 8, constantValue := 0 }, { name := "cons", type := (.object "java/io/Console"), accessFlags := 74, slot := 9, constantValue := 0 }, { name := "initialErrStream", type := (.object "java/io/PrintStream"), accessFlags := 74, slot := 10, constantValue := 0 }, { name := "props", type := (.object "java/util/Properties"), accessFlags := 10, slot := 11, constantValue := 0 }, { name := "lineSeparator", type := (.object "java/lang/String"), accessFlags := 10, slot := 12, constantValue := 0 }, { name := "bootLayer", type := (.object "java/lang/ModuleLayer"), accessFlags := 8, slot := 13, constantValue := 0 }]
  methods := #[k21m0, k21m1]
  instanceTypes := #[]
  staticTypes := #[(.object "java/io/InputStream"), (.object "java/io/PrintStream"), (.object "java/io/PrintStream"), (.object "java/io/InputStream"), .int, .int, .int, (.object "java/lang/SecurityManager"), (.object "java/lang/String"), (.object "java/io/Console"), (.object "java/io/PrintStream"), (.object "java/util/Properties"), (.object "java/lang/String"), (.object "java/lang/ModuleLayer")]
  resolved := Array.replicate 834 none
  statics := none }

def pool22 : Array CpInfo := pool [(2, .class_ 4), (1, u "java/lang/Object"), (0, u "<init>"), (0, u "()V"), (17, .class_ 26), (1, u "jdk/internal/util/Preconditions"), (28, .class_ 56), (0, u "jdk/internal/util/Preconditions$4"), (57, .class_ 115), (0, u "jdk/internal/util/Preconditions$1"), (7, u "SIOOBE_FORMATTER"), (0, u "Ljava/util/function/BiFunction;"), (0, .class_ 126), (0, u "jdk/internal/util/Preconditions$2"), (3, u "AIOOBE_FORMATTER"), (0, .class_ 132), (0, u "jdk/internal/util/Preconditions$3"), (3, u "IOOBE_FORMATTER")] 57

def k22m0 : Method := { name := "<init>", desc := "()V", sig := { parameters := [], returnType := none }, accessFlags := 1, code := none }
/-- jdk/internal/util/Preconditions -/
def k22 : Class := { plain "jdk/internal/util/Preconditions" (some 0) with
  accessFlags := 33
  interfaces := #[]
  cf := some (fileOf pool22 24 #[.nestMembers #[55, 131, 125, 114]] #[{ accessFlags := 1, nameIndex := 5, descriptorIndex := 6, attributes := #[] }] 33 2 #[] #[{ accessFlags := 25, nameIndex := 123, descriptorIndex := 124, attributes := #[] }, { accessFlags := 25, nameIndex := 130, descriptorIndex := 124, attributes := #[] }, { accessFlags := 25, nameIndex := 136, descriptorIndex := 124, attributes := #[] }])
  fields := #[{ name := "SIOOBE_FORMATTER", type := (.object "java/util/function/BiFunction"), accessFlags := 25, slot := 0, constantValue := 0 }, { name := "AIOOBE_FORMATTER", type := (.object "java/util/function/BiFunction"), accessFlags := 25, slot := 1, constantValue := 0 }, { name := "IOOBE_FORMATTER", type := (.object "java/util/function/BiFunction"), accessFlags := 25, slot := 2, constantValue := 0 }]
  methods := #[k22m0]
  instanceTypes := #[]
  staticTypes := #[(.object "java/util/function/BiFunction"), (.object "java/util/function/BiFunction"), (.object "java/util/function/BiFunction")]
  resolved := Array.replicate 194 none
  statics := some 3 }

def pool23 : Array CpInfo := pool [(1, u "java/lang/Cloneable"), (0, .class_ 1), (0, u "java/lang/Object"), (0, .class_ 3)] 3

/-- java/lang/Cloneable -/
def k23 : Class := { plain "java/lang/Cloneable" (some 0) with
  accessFlags := 1537
  interfaces := #[]
  cf := some (fileOf pool23 2 #[] #[] 1537 4 #[] #[])
  fields := #[]
  methods := #[]
  instanceTypes := #[]
  staticTypes := #[]
  resolved := Array.replicate 8 none
  statics := none }

/-- the primitive byte -/
def k24 : Class := { plain "byte" none with kind := .primitive 'B', accessFlags := 0x411 }
/-- [B -/
def k25 : Class := { plain "[B" (some 0) with kind := .array 24 .byte, interfaces := #[23, 2], accessFlags := 1041 }

/-- the primitive char -/
def k26 : Class := { plain "char" none with kind := .primitive 'C', accessFlags := 0x411 }
/-- [C -/
def k27 : Class := { plain "[C" (some 0) with kind := .array 26 .char, interfaces := #[23, 2], accessFlags := 1041 }

/-- the primitive int -/
def k28 : Class := { plain "int" none with kind := .primitive 'I', accessFlags := 0x411 }
/-- [I -/
def k29 : Class := { plain "[I" (some 0) with kind := .array 28 .int, interfaces := #[23, 2], accessFlags := 1041 }

/-- [Ljava/lang/Object; -/
def k30 : Class := { plain "[Ljava/lang/Object;" (some 0) with kind := .array 0 (.object "java/lang/Object"), interfaces := #[23, 2], accessFlags := 1041 }

/-- jdk/internal/util/ArraysSupport -/
def k31 : Class := plain "jdk/internal/util/ArraysSupport" (some 0)
def heap : Heap := #[{ cls := 7, slots := #[.long 0, .int 1, .null, .int 0, .null, .int 0, .int 0], vm := .statics 7 },
  { cls := 11, slots := #[.long 0, .int 0, .null, .null, .null, .null, .null, .ref 5, .int 0, .int 0], vm := .statics 11 },
  { cls := 18, slots := #[.null, .null, .ref 6, .ref 7, .null], vm := .statics 18 },
  { cls := 22, slots := #[.null, .null, .null], vm := .statics 22 },
  { cls := 30, slots := #[], vm := .none },
  { cls := 16, slots := #[.null, .null, .ref 4, .int 0], vm := .none },
  { cls := 18, slots := #[], vm := .none },
  { cls := 29, slots := #[.int 1207963663, .int 1207963663, .int 1207963663, .int 1207963663, .int 1207963663, .int 1207963663, .int 1207963663, .int 1207963663, .int 1207963663, .int 1476411407, .int 1342193679, .int 1476411407, .int 1610629135, .int 1342193679, .int 1207963663, .int 1207963663, .int 1207963663, .int 1207963663, .int 1207963663, .int 1207963663, .int 1207963663, .int 1207963663, .int 1207963663, .int 1207963663, .int 1207963663, .int 1207963663, .int 1207963663, .int 1207963663, .int 1342193679, .int 1342193679, .int 1342193679, .int 1476411407, .int 1610629132, .int 1744830488, .int 1744830488, .int 671088664, .int 671113242, .int 671088664, .int 1744830488, .int 1744830488, .int (-402653163), .int (-402653162), .int 1744830488, .int 536870937, .int 939524120, .int 536870932, .int 939524120, .int 939524120, .int 402667017, .int 402667017, .int 402667017, .int 402667017, .int 402667017, .int 402667017, .int 402667017, .int 402667017, .int 402667017, .int 402667017, .int 939524120, .int 1744830488, .int (-402653159), .int 1744830489, .int (-402653159), .int 1744830488, .int 1744830488, .int 8552417, .int 8552417, .int 8552417, .int 8552417, .int 8552417, .int 8552417, .int 8552417, .int 8552417, .int 8552417, .int 8552417, .int 8552417, .int 8552417, .int 8552417, .int 8552417, .int 8552417, .int 8552417, .int 8552417, .int 8552417, .int 8552417, .int 8552417, .int 8552417, .int 8552417, .int 8552417, .int 8552417, .int 8552417, .int 8552417, .int (-402653163), .int 1744830488, .int (-402653162), .int 1744830491, .int 1744850967, .int 1744830491, .int 8486882, .int 8486882, .int 8486882, .int 8486882, .int 8486882, .int 8486882, .int 8486882, .int 8486882, .int 8486882, .int 8486882, .int 8486882, .int 8486882, .int 8486882, .int 8486882, .int 8486882, .int 8486882, .int 8486882, .int 8486882, .int 8486882, .int 8486882, .int 8486882, .int 8486882, .int 8486882, .int 8486882, .int 8486882, .int 8486882, .int (-402653163), .int 1744830489, .int (-402653162), .int 1744830489, .int 1207963663, .int 1207963663, .int 1207963663, .int 1207963663, .int 1207963663, .int 1207963663, .int 1342181391, .int 1207963663, .int 1207963663, .int 1207963663, .int 1207963663, .int 1207963663, .int 1207963663, .int 1207963663, .int 1207963663, .int 1207963663, .int 1207963663, .int 1207963663, .int 1207963663, .int 1207963663, .int 1207963663, .int 1207963663, .int 1207963663, .int 1207963663, .int 1207963663, .int 1207963663, .int 1207963663, .int 1207963663, .int 1207963663, .int 1207963663, .int 1207963663, .int 1207963663, .int 1207963663, .int 939524108, .int 1744830488, .int 671113242, .int 671113242, .int 671113242, .int 671113242, .int 1744830492, .int 1744830488, .int 1744830491, .int 1744830492, .int 28677, .int (-402653155), .int 1744830489, .int 1207963664, .int 1744830492, .int 1744830491, .int 671088668, .int 671088665, .int 402654731, .int 402654731, .int 1744830491, .int 134049794, .int 1744830488, .int 1744830488, .int 1744830491, .int 402654475, .int 28677, .int (-402653154), .int 1744832523, .int 1744832523, .int 1744832523, .int 1744830488, .int 8548353, .int 8548353, .int 8548353, .int 8548353, .int 8548353, .int 8548353, .int 8548353, .int 8548353, .int 8548353, .int 8548353, .int 8548353, .int 8548353, .int 8548353, .int 8548353, .int 8548353, .int 8548353, .int 8548353, .int 8548353, .int 8548353, .int 8548353, .int 8548353, .int 8548353, .int 8548353, .int 1744830489, .int 8548353, .int 8548353, .int 8548353, .int 8548353, .int 8548353, .int 8548353, .int 8548353, .int 134049794, .int 8482818, .int 8482818, .int 8482818, .int 8482818, .int 8482818, .int 8482818, .int 8482818, .int 8482818, .int 8482818, .int 8482818, .int 8482818, .int 8482818, .int 8482818, .int 8482818, .int 8482818, .int 8482818, .int 8482818, .int 8482818, .int 8482818, .int 8482818, .int 8482818, .int 8482818, .int 8482818, .int 1744830489, .int 8482818, .int 8482818, .int 8482818, .int 8482818, .int 8482818, .int 8482818, .int 8482818, .int 102592514], vm := .none }]
def classes : Array Class := #[k0, k1, k2, k3, k4, k5, k6, k7, k8, k9, k10, k11, k12, k13, k14, k15, k16, k17, k18, k19, k20, k21, k22, k23, k24, k25, k26, k27, k28, k29, k30, k31]
def interned : List (Array UInt16 × Addr) := []
def slotsUsed : Nat := 285
def theMethod : MethodId := ⟨1, 6⟩
def args0 : Array Value := #[.long 5, .int 9]
def aboutOver (below : List Frame) : State where
  vm := { classes := classes, interned := interned.toArray }
  heap := heap
  slotsUsed := slotsUsed
  threads := #[{ frames := .invoking theMethod args0 :: below }]
def below0 : List Frame := [.native { method := ⟨0, 0⟩, args := #[] }]
def about1 : State := aboutOver below0
def p0 : Program := .bare "" "" ""
def e0 : Env := launch0.env 0 0 0
theorem w_frames : about1.frames = Frame.invoking theMethod args0 :: below0 := rfl
set_option maxRecDepth 65536 in
theorem w_args : argsFit about1.vm theMethod args0 = true := by decide +kernel
set_option maxRecDepth 65536 in
theorem w_heap : heapFits about1 = true := by decide +kernel
set_option maxRecDepth 65536 in
theorem w_runnable : about1.curStatus? = some .runnable := by decide +kernel
set_option maxRecDepth 65536 in
theorem w_alone : about1.alone = true := by decide +kernel
set_option maxRecDepth 65536 in
theorem w_named : about1.methodNamed? x = some theMethod := by decide +kernel
set_option maxRecDepth 65536 in
theorem w_hears : about1.hears theMethod below0 = true := by decide +kernel
set_option maxRecDepth 65536 in
theorem w_ripe : about1.ripe theMethod args0 below0 = true := by decide +kernel
theorem w_running : about1.status = .running := rfl
set_option maxRecDepth 65536 in
theorem w_room : about1.hasRoom e0.platform room_1 = true :=
  launch0.hasRoom_least _ room_1 (by decide +kernel) (by decide +kernel) (by decide +kernel) (by decide +kernel) (by decide +kernel) (by decide +kernel)
theorem allAtoms_all (ts : List Jvm.Cond) (a : Array Jvm.Value) (st : Jvm.State) : (allAtoms ts).before a st = ts.all (fun c => c.before a st) := by
  induction ts with
  | nil => rfl
  | cons c t ih =>
    show (Jvm.Cond.and c (allAtoms t)).before a st = _
    rw [Jvm.Cond.before_and, ih, List.all_cons]
def words1 : List Jvm.Cond := Jvm.Cond.code x code maxLocals ret :: tables_1
/-- a 'code' word, met by the world's own term for the bytes: nothing is compared byte by byte -/
theorem code_word {y : MethodName} {bytes : ByteArray} {mx : Nat} {rt : Option FieldType} {a : Array Value} {s : State} {m : MethodId} {meth : Method} {c : Code} (h1 : s.methodNamed? y = some m) (h2 : s.vm.method? m = some meth) (h3 : meth.code = some c) (h4 : c.code = bytes)
    (h5 : (c.maxLocals == mx && c.exceptionTable.isEmpty && decide (c.maxStack ≤ mostOperands) && decide (meth.sig.returnType = rt) && !meth.locks && decide (parseMethodDescriptor y.desc = some meth.sig)) = true) : (Jvm.Cond.code y bytes mx rt).before a s = true := by
  simp only [Bool.and_eq_true, beq_iff_eq, Bool.not_eq_true', decide_eq_true_eq] at h5
  obtain ⟨⟨⟨⟨⟨g1, g2⟩, g3⟩, g4⟩, g5⟩, g6⟩ := h5
  simp [Cond.before, Cond.holds, Cond.value, h1, h2, h3, h4, g1, g2, g3, g4, g5, g6]
def isCode : Jvm.Cond → Bool
  | .code _ _ _ _ => true
  | _ => false
theorem all_split {L : List Jvm.Cond} {P : Jvm.Cond → Bool} (h1 : L.all (fun c => isCode c || P c) = true) (h2 : ∀ c ∈ L.filter isCode, P c = true) : L.all P = true := by
  refine List.all_eq_true.mpr fun c hc => ?_
  have h := List.all_eq_true.mp h1 c hc
  rcases Bool.eq_false_or_eq_true (isCode c) with hi | hi
  · exact h2 c (List.mem_filter.mpr ⟨hc, hi⟩)
  · simpa [hi] using h
set_option maxRecDepth 65536 in
theorem w_c0 : (Jvm.Cond.code x code maxLocals ret).before args0 about1 = true := code_word (m := ⟨1, 6⟩) (meth := k1m6) (c := k1c6) (by decide +kernel) rfl rfl rfl (by decide +kernel)
set_option maxRecDepth 65536 in
theorem w_c1 : (Jvm.Cond.code ({ cls := "com/example/shallmark/shallmark/ExpressionIsXPathPinLaw", name := "draw", desc := "(JI)I" } : Jvm.MethodName) method_2_code (5 : Nat) (Option.some Jvm.ClassFile.FieldType.int)).before args0 about1 = true := code_word (m := ⟨1, 1⟩) (meth := k1m1) (c := k1c1) (by decide +kernel) rfl rfl rfl (by decide +kernel)
set_option maxRecDepth 65536 in
theorem w_c2 : (Jvm.Cond.code ({ cls := "java/lang/String", name := "<init>", desc := "([C)V" } : Jvm.MethodName) jdk_42_method_3_code (2 : Nat) (Option.none : Option Jvm.ClassFile.FieldType)).before args0 about1 = true := code_word (m := ⟨7, 1⟩) (meth := k7m1) (c := k7c1) (by decide +kernel) rfl rfl rfl (by decide +kernel)
set_option maxRecDepth 65536 in
theorem w_c3 : (Jvm.Cond.code ({ cls := "java/lang/String", name := "<init>", desc := "([CIILjava/lang/Void;)V" } : Jvm.MethodName) jdk_42_method_149_code (6 : Nat) (Option.none : Option Jvm.ClassFile.FieldType)).before args0 about1 = true := code_word (m := ⟨7, 6⟩) (meth := k7m6) (c := k7c6) (by decide +kernel) rfl rfl rfl (by decide +kernel)
set_option maxRecDepth 65536 in
theorem w_c4 : (Jvm.Cond.code ({ cls := "java/lang/Object", name := "<init>", desc := "()V" } : Jvm.MethodName) object_method_1_code (1 : Nat) (Option.none : Option Jvm.ClassFile.FieldType)).before args0 about1 = true := code_word (m := ⟨0, 0⟩) (meth := k0m0) (c := k0c0) (by decide +kernel) rfl rfl rfl (by decide +kernel)
set_option maxRecDepth 65536 in
theorem w_c5 : (Jvm.Cond.code ({ cls := "java/lang/StringUTF16", name := "compress", desc := "([CII)[B" } : Jvm.MethodName) jdk_52_method_16_code (6 : Nat) (Option.some (Jvm.ClassFile.FieldType.array Jvm.ClassFile.FieldType.byte))).before args0 about1 = true := code_word (m := ⟨8, 2⟩) (meth := k8m2) (c := k8c2) (by decide +kernel) rfl rfl rfl (by decide +kernel)
set_option maxRecDepth 65536 in
theorem w_c6 : (Jvm.Cond.code ({ cls := "java/lang/StringUTF16", name := "compress", desc := "([CI[BII)I" } : Jvm.MethodName) jdk_52_method_21_code (7 : Nat) (Option.some Jvm.ClassFile.FieldType.int)).before args0 about1 = true := code_word (m := ⟨8, 3⟩) (meth := k8m3) (c := k8c3) (by decide +kernel) rfl rfl rfl (by decide +kernel)
set_option maxRecDepth 65536 in
theorem w_c7 : (Jvm.Cond.code ({ cls := "java/lang/StringUTF16", name := "coderFromArrayLen", desc := "([BI)B" } : Jvm.MethodName) jdk_52_method_15_code (2 : Nat) (Option.some Jvm.ClassFile.FieldType.byte)).before args0 about1 = true := code_word (m := ⟨8, 1⟩) (meth := k8m1) (c := k8c1) (by decide +kernel) rfl rfl rfl (by decide +kernel)
set_option maxRecDepth 65536 in
theorem w_c8 : (Jvm.Cond.code ({ cls := "java/lang/String", name := "valueOf", desc := "(C)Ljava/lang/String;" } : Jvm.MethodName) jdk_42_method_139_code (1 : Nat) (Option.some (Jvm.ClassFile.FieldType.object "java/lang/String"))).before args0 about1 = true := code_word (m := ⟨7, 5⟩) (meth := k7m5) (c := k7c5) (by decide +kernel) rfl rfl rfl (by decide +kernel)
set_option maxRecDepth 65536 in
theorem w_c9 : (Jvm.Cond.code ({ cls := "java/lang/StringLatin1", name := "canEncode", desc := "(C)Z" } : Jvm.MethodName) jdk_43_method_3_code (1 : Nat) (Option.some Jvm.ClassFile.FieldType.boolean)).before args0 about1 = true := code_word (m := ⟨9, 1⟩) (meth := k9m1) (c := k9c1) (by decide +kernel) rfl rfl rfl (by decide +kernel)
set_option maxRecDepth 65536 in
theorem w_c10 : (Jvm.Cond.code ({ cls := "java/lang/StringLatin1", name := "toBytes", desc := "(C)[B" } : Jvm.MethodName) jdk_43_method_46_code (1 : Nat) (Option.some (Jvm.ClassFile.FieldType.array Jvm.ClassFile.FieldType.byte))).before args0 about1 = true := code_word (m := ⟨9, 7⟩) (meth := k9m7) (c := k9c7) (by decide +kernel) rfl rfl rfl (by decide +kernel)
set_option maxRecDepth 65536 in
theorem w_c11 : (Jvm.Cond.code ({ cls := "java/lang/String", name := "<init>", desc := "([BB)V" } : Jvm.MethodName) jdk_42_method_151_code (3 : Nat) (Option.none : Option Jvm.ClassFile.FieldType)).before args0 about1 = true := code_word (m := ⟨7, 7⟩) (meth := k7m7) (c := k7c7) (by decide +kernel) rfl rfl rfl (by decide +kernel)
set_option maxRecDepth 65536 in
theorem w_c12 : (Jvm.Cond.code ({ cls := "java/util/Map", name := "of", desc := "()Ljava/util/Map;" } : Jvm.MethodName) jdk_72_method_26_code (0 : Nat) (Option.some (Jvm.ClassFile.FieldType.object "java/util/Map"))).before args0 about1 = true := code_word (m := ⟨10, 0⟩) (meth := k10m0) (c := k10c0) (by decide +kernel) rfl rfl rfl (by decide +kernel)
set_option maxRecDepth 65536 in
theorem w_c13 : (Jvm.Cond.code ({ cls := "com/example/shallmark/shallmark/Expression", name := "<init>", desc := "(Ljava/lang/String;Ljava/util/Map;Ljava/lang/String;I)V" } : Jvm.MethodName) prog_9_method_1_code (5 : Nat) (Option.none : Option Jvm.ClassFile.FieldType)).before args0 about1 = true := code_word (m := ⟨13, 0⟩) (meth := k13m0) (c := k13c0) (by decide +kernel) rfl rfl rfl (by decide +kernel)
set_option maxRecDepth 65536 in
theorem w_c14 : (Jvm.Cond.code ({ cls := "java/lang/Record", name := "<init>", desc := "()V" } : Jvm.MethodName) jdk_30_method_1_code (1 : Nat) (Option.none : Option Jvm.ClassFile.FieldType)).before args0 about1 = true := code_word (m := ⟨12, 0⟩) (meth := k12m0) (c := k12c0) (by decide +kernel) rfl rfl rfl (by decide +kernel)
set_option maxRecDepth 65536 in
theorem w_c15 : (Jvm.Cond.code ({ cls := "java/util/Map", name := "copyOf", desc := "(Ljava/util/Map;)Ljava/util/Map;" } : Jvm.MethodName) jdk_72_method_39_code (1 : Nat) (Option.some (Jvm.ClassFile.FieldType.object "java/util/Map"))).before args0 about1 = true := code_word (m := ⟨10, 1⟩) (meth := k10m1) (c := k10c1) (by decide +kernel) rfl rfl rfl (by decide +kernel)
set_option maxRecDepth 65536 in
theorem w_c16 : (Jvm.Cond.code ({ cls := "com/example/shallmark/shallmark/ExpressionIsXPathPinLaw", name := "m", desc := "([III)Z" } : Jvm.MethodName) method_6_code (3 : Nat) (Option.some Jvm.ClassFile.FieldType.boolean)).before args0 about1 = true := code_word (m := ⟨1, 5⟩) (meth := k1m5) (c := k1c5) (by decide +kernel) rfl rfl rfl (by decide +kernel)
set_option maxRecDepth 65536 in
theorem w_c17 : (Jvm.Cond.code ({ cls := "com/example/shallmark/shallmark/ExpressionIsXPathPinLaw", name := "at", desc := "([III)I" } : Jvm.MethodName) method_5_code (3 : Nat) (Option.some Jvm.ClassFile.FieldType.int)).before args0 about1 = true := code_word (m := ⟨1, 4⟩) (meth := k1m4) (c := k1c4) (by decide +kernel) rfl rfl rfl (by decide +kernel)
set_option maxRecDepth 65536 in
theorem w_c18 : (Jvm.Cond.code ({ cls := "com/example/shallmark/shallmark/ExpressionIsXPathPinLaw", name := "is", desc := "(II)Z" } : Jvm.MethodName) method_4_code (2 : Nat) (Option.some Jvm.ClassFile.FieldType.boolean)).before args0 about1 = true := code_word (m := ⟨1, 3⟩) (meth := k1m3) (c := k1c3) (by decide +kernel) rfl rfl rfl (by decide +kernel)
set_option maxRecDepth 65536 in
theorem w_c19 : (Jvm.Cond.code ({ cls := "com/example/shallmark/shallmark/ExpressionIsXPathPinLaw", name := "ws", desc := "(I)Z" } : Jvm.MethodName) method_3_code (1 : Nat) (Option.some Jvm.ClassFile.FieldType.boolean)).before args0 about1 = true := code_word (m := ⟨1, 2⟩) (meth := k1m2) (c := k1c2) (by decide +kernel) rfl rfl rfl (by decide +kernel)
set_option maxRecDepth 65536 in
theorem w_c20 : (Jvm.Cond.code ({ cls := "com/example/shallmark/shallmark/Expression", name := "isXPath", desc := "()Z" } : Jvm.MethodName) prog_9_method_2_code (1 : Nat) (Option.some Jvm.ClassFile.FieldType.boolean)).before args0 about1 = true := code_word (m := ⟨13, 1⟩) (meth := k13m1) (c := k13c1) (by decide +kernel) rfl rfl rfl (by decide +kernel)
set_option maxRecDepth 65536 in
theorem w_c21 : (Jvm.Cond.code ({ cls := "java/lang/String", name := "strip", desc := "()Ljava/lang/String;" } : Jvm.MethodName) jdk_42_method_114_code (2 : Nat) (Option.some (Jvm.ClassFile.FieldType.object "java/lang/String"))).before args0 about1 = true := code_word (m := ⟨7, 4⟩) (meth := k7m4) (c := k7c4) (by decide +kernel) rfl rfl rfl (by decide +kernel)
set_option maxRecDepth 65536 in
theorem w_c22 : (Jvm.Cond.code ({ cls := "java/lang/String", name := "isLatin1", desc := "()Z" } : Jvm.MethodName) jdk_42_method_154_code (1 : Nat) (Option.some Jvm.ClassFile.FieldType.boolean)).before args0 about1 = true := code_word (m := ⟨7, 9⟩) (meth := k7m9) (c := k7c9) (by decide +kernel) rfl rfl rfl (by decide +kernel)
set_option maxRecDepth 65536 in
theorem w_c23 : (Jvm.Cond.code ({ cls := "java/lang/StringLatin1", name := "strip", desc := "([B)Ljava/lang/String;" } : Jvm.MethodName) jdk_43_method_39_code (4 : Nat) (Option.some (Jvm.ClassFile.FieldType.object "java/lang/String"))).before args0 about1 = true := code_word (m := ⟨9, 5⟩) (meth := k9m5) (c := k9c5) (by decide +kernel) rfl rfl rfl (by decide +kernel)
set_option maxRecDepth 65536 in
theorem w_c24 : (Jvm.Cond.code ({ cls := "java/lang/StringLatin1", name := "indexOfNonWhitespace", desc := "([B)I" } : Jvm.MethodName) jdk_43_method_37_code (4 : Nat) (Option.some Jvm.ClassFile.FieldType.int)).before args0 about1 = true := code_word (m := ⟨9, 3⟩) (meth := k9m3) (c := k9c3) (by decide +kernel) rfl rfl rfl (by decide +kernel)
set_option maxRecDepth 65536 in
theorem w_c25 : (Jvm.Cond.code ({ cls := "java/lang/StringLatin1", name := "getChar", desc := "([BI)C" } : Jvm.MethodName) jdk_43_method_44_code (2 : Nat) (Option.some Jvm.ClassFile.FieldType.char)).before args0 about1 = true := code_word (m := ⟨9, 6⟩) (meth := k9m6) (c := k9c6) (by decide +kernel) rfl rfl rfl (by decide +kernel)
set_option maxRecDepth 65536 in
theorem w_c26 : (Jvm.Cond.code ({ cls := "java/lang/CharacterDataLatin1", name := "isWhitespace", desc := "(I)Z" } : Jvm.MethodName) jdk_116_method_26_code (3 : Nat) (Option.some Jvm.ClassFile.FieldType.boolean)).before args0 about1 = true := code_word (m := ⟨18, 2⟩) (meth := k18m2) (c := k18c2) (by decide +kernel) rfl rfl rfl (by decide +kernel)
set_option maxRecDepth 65536 in
theorem w_c27 : (Jvm.Cond.code ({ cls := "java/lang/CharacterDataLatin1", name := "getProperties", desc := "(I)I" } : Jvm.MethodName) jdk_116_method_1_code (4 : Nat) (Option.some Jvm.ClassFile.FieldType.int)).before args0 about1 = true := code_word (m := ⟨18, 0⟩) (meth := k18m0) (c := k18c0) (by decide +kernel) rfl rfl rfl (by decide +kernel)
set_option maxRecDepth 65536 in
theorem w_c28 : (Jvm.Cond.code ({ cls := "java/lang/StringLatin1", name := "lastIndexOfNonWhitespace", desc := "([B)I" } : Jvm.MethodName) jdk_43_method_38_code (4 : Nat) (Option.some Jvm.ClassFile.FieldType.int)).before args0 about1 = true := code_word (m := ⟨9, 4⟩) (meth := k9m4) (c := k9c4) (by decide +kernel) rfl rfl rfl (by decide +kernel)
set_option maxRecDepth 65536 in
theorem w_c29 : (Jvm.Cond.code ({ cls := "java/lang/String", name := "regionMatches", desc := "(ZILjava/lang/String;II)Z" } : Jvm.MethodName) jdk_42_method_74_code (9 : Nat) (Option.some Jvm.ClassFile.FieldType.boolean)).before args0 about1 = true := code_word (m := ⟨7, 3⟩) (meth := k7m3) (c := k7c3) (by decide +kernel) rfl rfl rfl (by decide +kernel)
set_option maxRecDepth 65536 in
theorem w_c30 : (Jvm.Cond.code ({ cls := "java/lang/String", name := "length", desc := "()I" } : Jvm.MethodName) jdk_42_method_54_code (1 : Nat) (Option.some Jvm.ClassFile.FieldType.int)).before args0 about1 = true := code_word (m := ⟨7, 2⟩) (meth := k7m2) (c := k7c2) (by decide +kernel) rfl rfl rfl (by decide +kernel)
set_option maxRecDepth 65536 in
theorem w_c31 : (Jvm.Cond.code ({ cls := "java/lang/String", name := "coder", desc := "()B" } : Jvm.MethodName) jdk_42_method_152_code (1 : Nat) (Option.some Jvm.ClassFile.FieldType.byte)).before args0 about1 = true := code_word (m := ⟨7, 8⟩) (meth := k7m8) (c := k7c8) (by decide +kernel) rfl rfl rfl (by decide +kernel)
set_option maxRecDepth 65536 in
theorem w_c32 : (Jvm.Cond.code ({ cls := "java/lang/StringLatin1", name := "regionMatchesCI", desc := "([BI[BII)Z" } : Jvm.MethodName) jdk_43_method_30_code (8 : Nat) (Option.some Jvm.ClassFile.FieldType.boolean)).before args0 about1 = true := code_word (m := ⟨9, 2⟩) (meth := k9m2) (c := k9c2) (by decide +kernel) rfl rfl rfl (by decide +kernel)
set_option maxRecDepth 65536 in
theorem w_c33 : (Jvm.Cond.code ({ cls := "java/lang/CharacterDataLatin1", name := "equalsIgnoreCase", desc := "(BB)Z" } : Jvm.MethodName) jdk_116_method_22_code (3 : Nat) (Option.some Jvm.ClassFile.FieldType.boolean)).before args0 about1 = true := code_word (m := ⟨18, 1⟩) (meth := k18m1) (c := k18c1) (by decide +kernel) rfl rfl rfl (by decide +kernel)
set_option maxRecDepth 65536 in
theorem w_c34 : (Jvm.Cond.code ({ cls := "java/lang/StringLatin1", name := "newString", desc := "([BII)Ljava/lang/String;" } : Jvm.MethodName) jdk_43_method_47_code (3 : Nat) (Option.some (Jvm.ClassFile.FieldType.object "java/lang/String"))).before args0 about1 = true := code_word (m := ⟨9, 8⟩) (meth := k9m8) (c := k9c8) (by decide +kernel) rfl rfl rfl (by decide +kernel)
set_option maxRecDepth 65536 in
theorem w_c35 : (Jvm.Cond.code ({ cls := "java/util/Arrays", name := "copyOfRange", desc := "([BII)[B" } : Jvm.MethodName) jdk_65_method_132_code (3 : Nat) (Option.some (Jvm.ClassFile.FieldType.array Jvm.ClassFile.FieldType.byte))).before args0 about1 = true := code_word (m := ⟨19, 2⟩) (meth := k19m2) (c := k19c2) (by decide +kernel) rfl rfl rfl (by decide +kernel)
set_option maxRecDepth 65536 in
theorem w_c36 : (Jvm.Cond.code ({ cls := "java/util/Arrays", name := "copyOfRangeByte", desc := "([BII)[B" } : Jvm.MethodName) jdk_65_method_133_code (5 : Nat) (Option.some (Jvm.ClassFile.FieldType.array Jvm.ClassFile.FieldType.byte))).before args0 about1 = true := code_word (m := ⟨19, 3⟩) (meth := k19m3) (c := k19c3) (by decide +kernel) rfl rfl rfl (by decide +kernel)
set_option maxRecDepth 65536 in
theorem w_c37 : (Jvm.Cond.code ({ cls := "java/util/Arrays", name := "checkLength", desc := "(II)V" } : Jvm.MethodName) jdk_65_method_131_code (2 : Nat) (Option.none : Option Jvm.ClassFile.FieldType)).before args0 about1 = true := code_word (m := ⟨19, 1⟩) (meth := k19m1) (c := k19c1) (by decide +kernel) rfl rfl rfl (by decide +kernel)
set_option maxRecDepth 65536 in
theorem w_c38 : (Jvm.Cond.code ({ cls := "java/lang/Math", name := "min", desc := "(II)I" } : Jvm.MethodName) jdk_29_method_69_code (2 : Nat) (Option.some Jvm.ClassFile.FieldType.int)).before args0 about1 = true := code_word (m := ⟨20, 1⟩) (meth := k20m1) (c := k20c1) (by decide +kernel) rfl rfl rfl (by decide +kernel)
def codes1 : List Jvm.Cond := [Jvm.Cond.code x code maxLocals ret, Jvm.Cond.code ({ cls := "com/example/shallmark/shallmark/ExpressionIsXPathPinLaw", name := "draw", desc := "(JI)I" } : Jvm.MethodName) method_2_code (5 : Nat) (Option.some Jvm.ClassFile.FieldType.int), Jvm.Cond.code ({ cls := "java/lang/String", name := "<init>", desc := "([C)V" } : Jvm.MethodName) jdk_42_method_3_code (2 : Nat) (Option.none : Option Jvm.ClassFile.FieldType), Jvm.Cond.code ({ cls := "java/lang/String", name := "<init>", desc := "([CIILjava/lang/Void;)V" } : Jvm.MethodName) jdk_42_method_149_code (6 : Nat) (Option.none : Option Jvm.ClassFile.FieldType), Jvm.Cond.code ({ cls := "java/lang/Object", name := "<init>", desc := "()V" } : Jvm.MethodName) object_method_1_code (1 : Nat) (Option.none : Option Jvm.ClassFile.FieldType), Jvm.Cond.code ({ cls := "java/lang/StringUTF16", name := "compress", desc := "([CII)[B" } : Jvm.MethodName) jdk_52_method_16_code (6 : Nat) (Option.some (Jvm.ClassFile.FieldType.array Jvm.ClassFile.FieldType.byte)), Jvm.Cond.code ({ cls := "java/lang/StringUTF16", name := "compress", desc := "([CI[BII)I" } : Jvm.MethodName) jdk_52_method_21_code (7 : Nat) (Option.some Jvm.ClassFile.FieldType.int), Jvm.Cond.code ({ cls := "java/lang/StringUTF16", name := "coderFromArrayLen", desc := "([BI)B" } : Jvm.MethodName) jdk_52_method_15_code (2 : Nat) (Option.some Jvm.ClassFile.FieldType.byte), Jvm.Cond.code ({ cls := "java/lang/String", name := "valueOf", desc := "(C)Ljava/lang/String;" } : Jvm.MethodName) jdk_42_method_139_code (1 : Nat) (Option.some (Jvm.ClassFile.FieldType.object "java/lang/String")), Jvm.Cond.code ({ cls := "java/lang/StringLatin1", name := "canEncode", desc := "(C)Z" } : Jvm.MethodName) jdk_43_method_3_code (1 : Nat) (Option.some Jvm.ClassFile.FieldType.boolean), Jvm.Cond.code ({ cls := "java/lang/StringLatin1", name := "toBytes", desc := "(C)[B" } : Jvm.MethodName) jdk_43_method_46_code (1 : Nat) (Option.some (Jvm.ClassFile.FieldType.array Jvm.ClassFile.FieldType.byte)), Jvm.Cond.code ({ cls := "java/lang/String", name := "<init>", desc := "([BB)V" } : Jvm.MethodName) jdk_42_method_151_code (3 : Nat) (Option.none : Option Jvm.ClassFile.FieldType), Jvm.Cond.code ({ cls := "java/util/Map", name := "of", desc := "()Ljava/util/Map;" } : Jvm.MethodName) jdk_72_method_26_code (0 : Nat) (Option.some (Jvm.ClassFile.FieldType.object "java/util/Map")), Jvm.Cond.code ({ cls := "com/example/shallmark/shallmark/Expression", name := "<init>", desc := "(Ljava/lang/String;Ljava/util/Map;Ljava/lang/String;I)V" } : Jvm.MethodName) prog_9_method_1_code (5 : Nat) (Option.none : Option Jvm.ClassFile.FieldType), Jvm.Cond.code ({ cls := "java/lang/Record", name := "<init>", desc := "()V" } : Jvm.MethodName) jdk_30_method_1_code (1 : Nat) (Option.none : Option Jvm.ClassFile.FieldType), Jvm.Cond.code ({ cls := "java/util/Map", name := "copyOf", desc := "(Ljava/util/Map;)Ljava/util/Map;" } : Jvm.MethodName) jdk_72_method_39_code (1 : Nat) (Option.some (Jvm.ClassFile.FieldType.object "java/util/Map")), Jvm.Cond.code ({ cls := "com/example/shallmark/shallmark/ExpressionIsXPathPinLaw", name := "m", desc := "([III)Z" } : Jvm.MethodName) method_6_code (3 : Nat) (Option.some Jvm.ClassFile.FieldType.boolean), Jvm.Cond.code ({ cls := "com/example/shallmark/shallmark/ExpressionIsXPathPinLaw", name := "at", desc := "([III)I" } : Jvm.MethodName) method_5_code (3 : Nat) (Option.some Jvm.ClassFile.FieldType.int), Jvm.Cond.code ({ cls := "com/example/shallmark/shallmark/ExpressionIsXPathPinLaw", name := "is", desc := "(II)Z" } : Jvm.MethodName) method_4_code (2 : Nat) (Option.some Jvm.ClassFile.FieldType.boolean), Jvm.Cond.code ({ cls := "com/example/shallmark/shallmark/ExpressionIsXPathPinLaw", name := "ws", desc := "(I)Z" } : Jvm.MethodName) method_3_code (1 : Nat) (Option.some Jvm.ClassFile.FieldType.boolean), Jvm.Cond.code ({ cls := "com/example/shallmark/shallmark/Expression", name := "isXPath", desc := "()Z" } : Jvm.MethodName) prog_9_method_2_code (1 : Nat) (Option.some Jvm.ClassFile.FieldType.boolean), Jvm.Cond.code ({ cls := "java/lang/String", name := "strip", desc := "()Ljava/lang/String;" } : Jvm.MethodName) jdk_42_method_114_code (2 : Nat) (Option.some (Jvm.ClassFile.FieldType.object "java/lang/String")), Jvm.Cond.code ({ cls := "java/lang/String", name := "isLatin1", desc := "()Z" } : Jvm.MethodName) jdk_42_method_154_code (1 : Nat) (Option.some Jvm.ClassFile.FieldType.boolean), Jvm.Cond.code ({ cls := "java/lang/StringLatin1", name := "strip", desc := "([B)Ljava/lang/String;" } : Jvm.MethodName) jdk_43_method_39_code (4 : Nat) (Option.some (Jvm.ClassFile.FieldType.object "java/lang/String")), Jvm.Cond.code ({ cls := "java/lang/StringLatin1", name := "indexOfNonWhitespace", desc := "([B)I" } : Jvm.MethodName) jdk_43_method_37_code (4 : Nat) (Option.some Jvm.ClassFile.FieldType.int), Jvm.Cond.code ({ cls := "java/lang/StringLatin1", name := "getChar", desc := "([BI)C" } : Jvm.MethodName) jdk_43_method_44_code (2 : Nat) (Option.some Jvm.ClassFile.FieldType.char), Jvm.Cond.code ({ cls := "java/lang/CharacterDataLatin1", name := "isWhitespace", desc := "(I)Z" } : Jvm.MethodName) jdk_116_method_26_code (3 : Nat) (Option.some Jvm.ClassFile.FieldType.boolean), Jvm.Cond.code ({ cls := "java/lang/CharacterDataLatin1", name := "getProperties", desc := "(I)I" } : Jvm.MethodName) jdk_116_method_1_code (4 : Nat) (Option.some Jvm.ClassFile.FieldType.int), Jvm.Cond.code ({ cls := "java/lang/StringLatin1", name := "lastIndexOfNonWhitespace", desc := "([B)I" } : Jvm.MethodName) jdk_43_method_38_code (4 : Nat) (Option.some Jvm.ClassFile.FieldType.int), Jvm.Cond.code ({ cls := "java/lang/String", name := "regionMatches", desc := "(ZILjava/lang/String;II)Z" } : Jvm.MethodName) jdk_42_method_74_code (9 : Nat) (Option.some Jvm.ClassFile.FieldType.boolean), Jvm.Cond.code ({ cls := "java/lang/String", name := "length", desc := "()I" } : Jvm.MethodName) jdk_42_method_54_code (1 : Nat) (Option.some Jvm.ClassFile.FieldType.int), Jvm.Cond.code ({ cls := "java/lang/String", name := "coder", desc := "()B" } : Jvm.MethodName) jdk_42_method_152_code (1 : Nat) (Option.some Jvm.ClassFile.FieldType.byte), Jvm.Cond.code ({ cls := "java/lang/StringLatin1", name := "regionMatchesCI", desc := "([BI[BII)Z" } : Jvm.MethodName) jdk_43_method_30_code (8 : Nat) (Option.some Jvm.ClassFile.FieldType.boolean), Jvm.Cond.code ({ cls := "java/lang/CharacterDataLatin1", name := "equalsIgnoreCase", desc := "(BB)Z" } : Jvm.MethodName) jdk_116_method_22_code (3 : Nat) (Option.some Jvm.ClassFile.FieldType.boolean), Jvm.Cond.code ({ cls := "java/lang/StringLatin1", name := "newString", desc := "([BII)Ljava/lang/String;" } : Jvm.MethodName) jdk_43_method_47_code (3 : Nat) (Option.some (Jvm.ClassFile.FieldType.object "java/lang/String")), Jvm.Cond.code ({ cls := "java/util/Arrays", name := "copyOfRange", desc := "([BII)[B" } : Jvm.MethodName) jdk_65_method_132_code (3 : Nat) (Option.some (Jvm.ClassFile.FieldType.array Jvm.ClassFile.FieldType.byte)), Jvm.Cond.code ({ cls := "java/util/Arrays", name := "copyOfRangeByte", desc := "([BII)[B" } : Jvm.MethodName) jdk_65_method_133_code (5 : Nat) (Option.some (Jvm.ClassFile.FieldType.array Jvm.ClassFile.FieldType.byte)), Jvm.Cond.code ({ cls := "java/util/Arrays", name := "checkLength", desc := "(II)V" } : Jvm.MethodName) jdk_65_method_131_code (2 : Nat) (Option.none : Option Jvm.ClassFile.FieldType), Jvm.Cond.code ({ cls := "java/lang/Math", name := "min", desc := "(II)I" } : Jvm.MethodName) jdk_29_method_69_code (2 : Nat) (Option.some Jvm.ClassFile.FieldType.int)]
set_option maxRecDepth 65536 in
theorem codes_eq : words1.filter isCode = codes1 := rfl
theorem w_codes : ∀ c ∈ words1.filter isCode, c.before args0 about1 = true := by
  rw [codes_eq]
  intro c hc
  simp only [codes1, List.mem_cons, List.not_mem_nil, or_false] at hc
  rcases hc with rfl | rfl | rfl | rfl | rfl | rfl | rfl | rfl | rfl | rfl | rfl | rfl | rfl | rfl | rfl | rfl | rfl | rfl | rfl | rfl | rfl | rfl | rfl | rfl | rfl | rfl | rfl | rfl | rfl | rfl | rfl | rfl | rfl | rfl | rfl | rfl | rfl | rfl | rfl
  · exact w_c0
  · exact w_c1
  · exact w_c2
  · exact w_c3
  · exact w_c4
  · exact w_c5
  · exact w_c6
  · exact w_c7
  · exact w_c8
  · exact w_c9
  · exact w_c10
  · exact w_c11
  · exact w_c12
  · exact w_c13
  · exact w_c14
  · exact w_c15
  · exact w_c16
  · exact w_c17
  · exact w_c18
  · exact w_c19
  · exact w_c20
  · exact w_c21
  · exact w_c22
  · exact w_c23
  · exact w_c24
  · exact w_c25
  · exact w_c26
  · exact w_c27
  · exact w_c28
  · exact w_c29
  · exact w_c30
  · exact w_c31
  · exact w_c32
  · exact w_c33
  · exact w_c34
  · exact w_c35
  · exact w_c36
  · exact w_c37
  · exact w_c38
set_option maxRecDepth 65536 in
theorem w_t1 : (words1.take 24).all (fun c => isCode c || c.before args0 about1) = true := by decide +kernel
set_option maxRecDepth 65536 in
theorem w_t2 : ((words1.drop 24).take 24).all (fun c => isCode c || c.before args0 about1) = true := by decide +kernel
set_option maxRecDepth 65536 in
theorem w_t3 : (((words1.drop 24).drop 24).take 24).all (fun c => isCode c || c.before args0 about1) = true := by decide +kernel
set_option maxRecDepth 65536 in
theorem w_t4 : ((((words1.drop 24).drop 24).drop 24).take 24).all (fun c => isCode c || c.before args0 about1) = true := by decide +kernel
set_option maxRecDepth 65536 in
theorem w_t5 : (((((words1.drop 24).drop 24).drop 24).drop 24).take 24).all (fun c => isCode c || c.before args0 about1) = true := by decide +kernel
set_option maxRecDepth 65536 in
theorem w_t6 : ((((((words1.drop 24).drop 24).drop 24).drop 24).drop 24).take 24).all (fun c => isCode c || c.before args0 about1) = true := by decide +kernel
set_option maxRecDepth 65536 in
theorem w_t7 : (((((((words1.drop 24).drop 24).drop 24).drop 24).drop 24).drop 24).take 24).all (fun c => isCode c || c.before args0 about1) = true := by decide +kernel
set_option maxRecDepth 65536 in
theorem w_t8 : (((((((words1.drop 24).drop 24).drop 24).drop 24).drop 24).drop 24).drop 24).all (fun c => isCode c || c.before args0 about1) = true := by decide +kernel
theorem w_tables : (allAtoms (Jvm.Cond.code x code maxLocals ret :: tables_1)).before args0 about1 = true := by
  rw [allAtoms_all]
  show words1.all (fun c => c.before args0 about1) = true
  refine all_split ?_ w_codes
  rw [← List.take_append_drop 24 words1, List.all_append, w_t1, ← List.take_append_drop 24 (words1.drop 24), List.all_append, w_t2, ← List.take_append_drop 24 ((words1.drop 24).drop 24), List.all_append, w_t3, ← List.take_append_drop 24 (((words1.drop 24).drop 24).drop 24), List.all_append, w_t4, ← List.take_append_drop 24 ((((words1.drop 24).drop 24).drop 24).drop 24), List.all_append, w_t5, ← List.take_append_drop 24 (((((words1.drop 24).drop 24).drop 24).drop 24).drop 24), List.all_append, w_t6, ← List.take_append_drop 24 ((((((words1.drop 24).drop 24).drop 24).drop 24).drop 24).drop 24), List.all_append, w_t7, w_t8]
  rfl
set_option maxRecDepth 65536 in
theorem w_rest : rest_1_c.before args0 about1 = true := by decide +kernel
set_option maxRecDepth 65536 in
theorem w_case : (Jvm.Cond.and given_1 narrow_1).before args0 about1 = true := by decide +kernel
set_option maxRecDepth 65536 in
theorem w_consts : constsHeld consts_1 about1 := Jvm.Lit.constsHeldB_iff.mp (by decide +kernel)
theorem w_applies : (headSpec (Jvm.Cond.code x code maxLocals ret :: tables_1) room_1).applies x e0.platform about1 = true :=
  (Spec.applies_iff w_frames).mpr ⟨w_running, w_runnable, w_alone, w_named, w_hears, w_ripe, w_room, w_tables⟩
theorem atStart : AtStart classFile x code maxLocals ret World_1 tables_1 room_1 Calls_1 rest_1 Pre_1 launch0 p0 e0 about1 theMethod args0 below0 :=
  ⟨lists_1, trivial, launch0.admits_env _ _ _, launch0.least_env, fairChoices_fair.cas, fairChoices_fair.clock, w_frames, w_args, w_heap, w_applies, ⟨w_consts, trivial⟩, w_rest, w_case⟩
end start1
theorem witness_1 : WitnessClaimed_1 := ⟨start1.p0, start1.e0, start1.about1, start1.theMethod, start1.args0, start1.below0, start1.atStart⟩
end Jvm.Pilot.@@N@@
