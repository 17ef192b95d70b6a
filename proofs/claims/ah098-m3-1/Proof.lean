import JvmDerived
import JvmDerived.Pilot.@@N@@Statement
import JvmDerived.Pilot.@@N@@Code
set_option linter.unusedVariables false
set_option linter.unusedSimpArgs false
@@BLOCK:NumsL.lean.txt@@

namespace Jvm.OwnKit
open Sem ClassFile Op Lib Jvm.Stand Jvm.Free Jvm.LawKit Jvm.RoadKit
section Own
variable {p : Program} {l : Launch} {e : Env} {R : Room} {s : State} {m : MethodId} {args : Array Value} {below : List Frame} {meth : Method} {c : Code} {T : State} {locs : List Loc} {cells slots : Nat} {Q : Option Value → Heap → List Loc → Prop} {C S : Nat}
/-- what a body owes from a state on -/
def Fin (p : Program) (e : Env) (below : List Frame) (s : State) (Q : Option Value → Heap → List Loc → Prop) (C S : Nat) (st : State) : Prop :=
  ∃ s₂ o, Steps p.tables e below st s₂ ∧ s₂.status = .running ∧ Ended s₂ below o ∧ ∃ v L, o = .returned v ∧ Q v s₂.heap L ∧ FrameEnd s o s₂ L C S
theorem Fin.step {st st' : State} (h : ∀ t, Steps p.tables e below st' t → Steps p.tables e below st t) (k : Fin p e below s Q C S st') : Fin p e below s Q C S st := by
  obtain ⟨s₂, o, h1, h2⟩ := k
  exact ⟨s₂, o, h _ h1, h2⟩
theorem Fin.ret (X : Stand p l e R s m args below meth c T locs cells slots) {v : Option Value} {g : JFrame} (hv : meth.sig.returnType = none → v = none) (hlocks : meth.locks = false)
    (hst : ∀ fs, (∀ (f : JFrame) (acts : List Action), f.method = m → f.locked = none → f.entered = [] → (doReturn e (T.setTop f) acts v).1 = T.setFrames fs) → Steps p.tables e below (T.setTop g) (T.setFrames fs))
    (hC : cells ≤ C) (hS : slots ≤ S) (q : Q v T.heap locs) : Fin p e below s Q C S (T.setTop g) := by
  obtain ⟨fs, hr, hrun, hended, hW, hsame⟩ := X.leave (v := v) hv hlocks
  exact ⟨_, _, hst fs hr, hrun, hended, _, _, rfl, q, ⟨_, rfl⟩, hW, hsame.mono hC hS⟩
theorem Fin.retI (X : Stand p l e R s m args below meth c T locs cells slots) (hx : p.tables.exec = Jvm.exec) {pc : Nat} {Ls : Array Slot} {z : Int32} {rest : List Value} (hret : meth.sig.returnType = some .int) (hlocks : meth.locks = false) (hd : decode c.code pc = .ok (.ireturn, 1))
    (hC : cells ≤ C) (hS : slots ≤ S) (q : Q (some (.int z)) T.heap locs) : Fin p e below s Q C S (T.setTop (mkF m pc Ls (.int z :: rest))) :=
  Fin.ret X (fun h => by rw [hret] at h; cases h) hlocks (fun fs hl => retOut X hx hret rfl (Or.inl ⟨rfl, Or.inl rfl, z, rfl⟩) hd hl) hC hS q
theorem Fin.retJ (X : Stand p l e R s m args below meth c T locs cells slots) (hx : p.tables.exec = Jvm.exec) {pc : Nat} {Ls : Array Slot} {z : Int64} {rest : List Value} (hret : meth.sig.returnType = some .long) (hlocks : meth.locks = false) (hd : decode c.code pc = .ok (.lreturn, 1))
    (hC : cells ≤ C) (hS : slots ≤ S) (q : Q (some (.long z)) T.heap locs) : Fin p e below s Q C S (T.setTop (mkF m pc Ls (.long z :: rest))) :=
  Fin.ret X (fun h => by rw [hret] at h; cases h) hlocks (fun fs hl => retOut X hx hret rfl (Or.inr (Or.inl ⟨rfl, rfl, z, rfl⟩)) hd hl) hC hS q
theorem Fin.retD (X : Stand p l e R s m args below meth c T locs cells slots) (hx : p.tables.exec = Jvm.exec) {pc : Nat} {Ls : Array Slot} {z : UInt64} {rest : List Value} (hret : meth.sig.returnType = some .double) (hlocks : meth.locks = false) (hd : decode c.code pc = .ok (.dreturn, 1))
    (hC : cells ≤ C) (hS : slots ≤ S) (q : Q (some (.double z)) T.heap locs) : Fin p e below s Q C S (T.setTop (mkF m pc Ls (.double z :: rest))) :=
  Fin.ret X (fun h => by rw [hret] at h; cases h) hlocks (fun fs hl => retOut X hx hret rfl (Or.inr (Or.inr (Or.inl ⟨rfl, rfl, z, rfl⟩))) hd hl) hC hS q
theorem Fin.retR (X : Stand p l e R s m args below meth c T locs cells slots) (hx : p.tables.exec = Jvm.exec) {pc : Nat} {Ls : Array Slot} {w : Value} {t : FieldType} {rest : List Value} (hret : meth.sig.returnType = some t) (ht : t.isReference = true) (hw : w.isRef = true) (hlocks : meth.locks = false) (hd : decode c.code pc = .ok (.areturn, 1))
    (hC : cells ≤ C) (hS : slots ≤ S) (q : Q (some w) T.heap locs) : Fin p e below s Q C S (T.setTop (mkF m pc Ls (w :: rest))) :=
  Fin.ret X (fun h => by rw [hret] at h; cases h) hlocks (fun fs hl => retOut X hx hret (by cases t <;> simp [FieldType.isReference] at ht <;> cases w <;> simp [Value.isRef] at hw <;> rfl) (Or.inr (Or.inr (Or.inr (Or.inr ⟨rfl, ht, hw⟩)))) hd hl) hC hS q
theorem Fin.retN (X : Stand p l e R s m args below meth c T locs cells slots) (hx : p.tables.exec = Jvm.exec) {pc : Nat} {Ls : Array Slot} {z : Int32} {t : FieldType} {rest : List Value} (hret : meth.sig.returnType = some t) (ht : t = .boolean ∨ t = .byte ∨ t = .char ∨ t = .short) (hlocks : meth.locks = false) (hd : decode c.code pc = .ok (.ireturn, 1))
    (hC : cells ≤ C) (hS : slots ≤ S) (q : Q (some (.int (nar t z))) T.heap locs) : Fin p e below s Q C S (T.setTop (mkF m pc Ls (.int z :: rest))) :=
  Fin.ret X (fun h => by rw [hret] at h; cases h) hlocks (fun fs hl => RoadKit.retN X hx hret ht hd hl) hC hS q
theorem Fin.retV (X : Stand p l e R s m args below meth c T locs cells slots) (hx : p.tables.exec = Jvm.exec) {pc : Nat} {Ls : Array Slot} (hret : meth.sig.returnType = none) (hlocks : meth.locks = false) (hd : decode c.code pc = .ok (.return_, 1))
    (hC : cells ≤ C) (hS : slots ≤ S) (q : Q none T.heap locs) : Fin p e below s Q C S (T.setTop (mkF m pc Ls [])) :=
  Fin.ret X (fun _ => rfl) hlocks (fun fs hl => X.returnOut hx hret hd hl) hC hS q
/-- the same where the walk may intern: the end's frame is ReturnedEndW -/
def FinW (p : Program) (e : Env) (below : List Frame) (s : State) (Q : Option Value → Heap → List Loc → Prop) (C S : Nat) (st : State) : Prop :=
  ∃ s₂ o, Steps p.tables e below st s₂ ∧ s₂.status = .running ∧ Ended s₂ below o ∧ ∃ v L, o = .returned v ∧ Q v s₂.heap L ∧ ReturnedEndW s o s₂ L C S
theorem FinW.step {st st' : State} (h : ∀ t, Steps p.tables e below st' t → Steps p.tables e below st t) (k : FinW p e below s Q C S st') : FinW p e below s Q C S st := by
  obtain ⟨s₂, o, h1, h2⟩ := k
  exact ⟨s₂, o, h _ h1, h2⟩
theorem FinW.ret {vm₁ : Vm} (X : Stand p l e R (s.setVm vm₁) m args below meth c T locs cells slots) {n : Nat} (hS : s.Since vm₁ n) (hn : n ≤ T.heap.size) {v : Option Value} {g : JFrame} (hv : meth.sig.returnType = none → v = none) (hlocks : meth.locks = false)
    (hst : ∀ fs, (∀ (f : JFrame) (acts : List Action), f.method = m → f.locked = none → f.entered = [] → (doReturn e (T.setTop f) acts v).1 = T.setFrames fs) → Steps p.tables e below (T.setTop g) (T.setFrames fs))
    (hC : cells ≤ C) (hS' : slots ≤ S) (q : Q v T.heap locs) : FinW p e below s Q C S (T.setTop g) := by
  obtain ⟨fs, hr, hrun, hended, hW⟩ := X.leaveW hS hn (v := v) hv hlocks
  exact ⟨_, _, hst fs hr, hrun, hended, _, _, rfl, q, hW.1, hW.2.1, hW.2.2.1, hW.2.2.2.mono hC hS'⟩
theorem FinW.retN {vm₁ : Vm} (X : Stand p l e R (s.setVm vm₁) m args below meth c T locs cells slots) {n : Nat} (hS : s.Since vm₁ n) (hn : n ≤ T.heap.size) (hx : p.tables.exec = Jvm.exec) {pc : Nat} {Ls : Array Slot} {z : Int32} {t : FieldType} {rest : List Value} (hret : meth.sig.returnType = some t) (ht : t = .boolean ∨ t = .byte ∨ t = .char ∨ t = .short) (hlocks : meth.locks = false) (hd : decode c.code pc = .ok (.ireturn, 1))
    (hC : cells ≤ C) (hS' : slots ≤ S) (q : Q (some (.int (nar t z))) T.heap locs) : FinW p e below s Q C S (T.setTop (mkF m pc Ls (.int z :: rest))) :=
  FinW.ret X hS hn (fun h => by rw [hret] at h; cases h) hlocks (fun fs hl => RoadKit.retN X hx hret ht hd hl) hC hS' q
theorem FinW.retR {vm₁ : Vm} (X : Stand p l e R (s.setVm vm₁) m args below meth c T locs cells slots) {n : Nat} (hS : s.Since vm₁ n) (hn : n ≤ T.heap.size) (hx : p.tables.exec = Jvm.exec) {pc : Nat} {Ls : Array Slot} {w : Value} {t : FieldType} {rest : List Value} (hret : meth.sig.returnType = some t) (ht : t.isReference = true) (hw : w.isRef = true) (hlocks : meth.locks = false) (hd : decode c.code pc = .ok (.areturn, 1))
    (hC : cells ≤ C) (hS' : slots ≤ S) (q : Q (some w) T.heap locs) : FinW p e below s Q C S (T.setTop (mkF m pc Ls (w :: rest))) :=
  FinW.ret X hS hn (fun h => by rw [hret] at h; cases h) hlocks (fun fs hl => retOut X hx hret (by cases t <;> simp [FieldType.isReference] at ht <;> cases w <;> simp [Value.isRef] at hw <;> rfl) (Or.inr (Or.inr (Or.inr (Or.inr ⟨rfl, ht, hw⟩)))) hd hl) hC hS' q
theorem recast {locs' : List Loc} {cells' slots' : Nat} (X : Stand p l e R s m args below meth c T locs cells slots) (h1 : locs = locs') (h2 : cells = cells') (h3 : slots = slots') : Stand p l e R s m args below meth c T locs' cells' slots' := by
  subst h1 h2 h3; exact X
theorem Fld.cast {Z : State} {h : Heap} {a : Addr} {C n d : String} {v w : Value} (F : Fld Z h a C n d v) (e : v = w) : Fld Z h a C n d w := e ▸ F
theorem Sta_keep {Z : State} {h h' : Heap} {C n d : String} {v : Value} (F : Sta Z h C n d v) (K : Keep h h' []) : Sta Z h' C n d v := by
  obtain ⟨cf, i, k, f, st, cell, h1, h2, h3, h4, h5, r⟩ := F
  exact ⟨cf, i, k, f, st, cell, h1, h2, h3, h4, K.2.1 _ _ h5 nin0, r⟩
def Nst (h : Heap) (a : Addr) : Prop := ∃ c : Cell, h[a]? = some c ∧ c.vm.isStatics = false
theorem Nst.lt {h : Heap} {a : Addr} (F : Nst h a) : a < h.size := by obtain ⟨c, h1, -⟩ := F; exact (Array.getElem?_eq_some_iff.mp h1).1
theorem Nst.ext {h h' : Heap} {a : Addr} (F : Nst h a) (E : Ext h h') : Nst h' a := by obtain ⟨c, h1, h2⟩ := F; exact ⟨c, E.2 _ _ h1, h2⟩
theorem Nst.wr {h h' : Heap} {a b : Addr} {sl : Nat} {v : Value} (F : Nst h a) (W : Wr h h' b sl v) : Nst h' a := by
  obtain ⟨c, h1, h2⟩ := F
  obtain ⟨d, a1, -, a3, -⟩ := wr_at W h1
  exact ⟨d, a1, by rw [a3]; exact h2⟩
theorem Nst.keep {h h' : Heap} {a : Addr} {ws : List Addr} (F : Nst h a) (K : Keep h h' ws) : Nst h' a := by
  obtain ⟨c, h1, h2⟩ := F
  obtain ⟨d, q, -, r2, -⟩ := K.2.2 _ _ h1
  exact ⟨d, q, by rw [r2]; exact h2⟩
theorem nsE {Z : State} {h : Heap} {a : Addr} {C : String} (F : Exa Z h a C) : Nst h a := by
  obtain ⟨cell, k, h1, -, -, h4, -⟩ := F; exact ⟨cell, h1, h4⟩
theorem nsV {Z : State} {h : Heap} {a : Addr} {k : ClassId} {ty : FieldType} {n : Int32} {vs : List Value} {d : Value} (F : Arv Z h a k ty n vs d) : Nst h a := by
  obtain ⟨cell, A, -⟩ := F; exact ⟨cell, A.1, A.plain⟩
theorem Sta_keepW {Z : State} {h h' : Heap} {C n d : String} {v : Value} {ws : List Addr} (F : Sta Z h C n d v) (K : Keep h h' ws) (q : ∀ x ∈ ws, Nst h x) : Sta Z h' C n d v := by
  obtain ⟨cf, i, k, f, st, cell, h1, h2, h3, h4, h5, h6, r⟩ := F
  refine ⟨cf, i, k, f, st, cell, h1, h2, h3, h4, K.2.1 _ _ h5 fun hm => ?_, h6, r⟩
  obtain ⟨c, q1, q2⟩ := q _ hm
  cases h5.symm.trans q1
  rw [h6] at q2; cases q2
theorem Arr_keep {Z : State} {h h' : Heap} {a : Addr} {c : Cell} {ty : FieldType} (F : Arr Z h a c ty) (K : Keep h h' []) : Arr Z h' a c ty := ⟨K.2.1 _ _ F.1 nin0, F.2⟩
/-- the shifts without sign -/
def ushL (x : Int64) (k : Int32) : Int64 := (x.toUInt64 >>> (k &&& 0x3f).toInt64.toUInt64).toInt64
def ushI (x k : Int32) : Int32 := (x.toUInt32 >>> (k &&& 31).toUInt32).toInt32
theorem lcE {x y : Int64} (h : x = y) : lcmpW x y = 0 := by rw [lcW]; exact (lc_eq x y).mpr h
theorem lcNE {x y : Int64} (h : ¬ x = y) : ¬ lcmpW x y = 0 := fun q => h ((lc_eq x y).mp (by rw [← lcW]; exact q))
theorem lcL {x y : Int64} (h : x < y) : lcmpW x y < 0 := by rw [lcW]; exact (lc_lt x y).mpr h
theorem lcNL {x y : Int64} (h : ¬ x < y) : ¬ lcmpW x y < 0 := fun q => h ((lc_lt x y).mp (by rw [← lcW]; exact q))
theorem lcG {x y : Int64} (h : y < x) : 0 < lcmpW x y := by rw [lcW]; exact (lc_gt x y).mpr h
theorem lcNG {x y : Int64} (h : ¬ y < x) : ¬ 0 < lcmpW x y := fun q => h ((lc_gt x y).mp (by rw [← lcW]; exact q))
end Own
end Jvm.OwnKit
namespace Jvm.OwnKit
open Sem ClassFile Op Lib Jvm.Stand Jvm.Free Jvm.LawKit Jvm.RoadKit
section Hot
variable {p : Program} {l : Launch} {e : Env} {R : Room} {s : State} {m : MethodId} {args : Array Value} {below : List Frame} {meth : Method} {c : Code} {T : State} {locs : List Loc} {cells slots : Nat} {Z : State} {a0 : Array Value} {h : Heap}
/-- getfield at a resolved entry -/
theorem getHot (X : Stand p l e R s m args below meth c T locs cells slots) (hx : p.tables.exec = Jvm.exec) (hZ : Z.Warmed39 s.vm) {own C n d : String} {index : Nat} (hown : s.vm.findClass own = some m.cls) (w : (Cond.fieldRef own index C n d).before a0 Z = true)
    (eT : T.heap = h) {a : Addr} {v : Value} (F : Fld Z h a C n d v) {g : JFrame} (hg : g.method = m) {rest : List Value} (hs : g.stack = .ref a :: rest) (hd : decode c.code g.pc = .ok (.getfield index, 3)) :
    ∀ target, Steps p.tables e below (T.setTop { g with pc := g.pc + 3, stack := v :: rest }) target → Steps p.tables e below (T.setTop g) target := by
  obtain ⟨cell, cf, k, i, f, h1, h2, h3, h4, -, -, h7⟩ := F
  have hT := wtrans hZ X.warmed
  have wU : (Cond.fieldRef own index C n d).before a0 (Z.setVm T.vm) = true := Cond.fieldRef_warmed39 hT w
  obtain ⟨k', hi, -⟩ := State.fieldFound?_setVm (s := Z) hT.alike h2
  obtain ⟨c2, k2, i2, f2, q1, q2⟩ := Cond.fieldRef_spec (cur := m.cls) (by show T.vm.findClass own = _; rw [X.warmed.alike.findClass]; exact hown) wU
  cases hi.symm.trans q1
  intro target k0
  exact (getfieldR X hx hg q2 h3 hs (by rw [eT]; exact h1) h4 h7 hd (Steps.refl _)).trans k0
theorem hotEntry (e : Env) (hT : Z.Warmed39 T.vm) {own : String} {index cur : Nat} {y : MethodName} (hcur : T.vm.findClass own = some cur) (w : (Cond.methodRef own index y).before a0 Z = true) {mk : MethodId} (hn : Z.methodNamed? y = some mk)
    (hy : y.cls ≠ "java/lang/invoke/MethodHandle" ∧ y.cls ≠ "java/lang/invoke/VarHandle") : T.vm.methodReady cur index mk ∧ namesResolved T.vm cur index mk.cls := by
  have wU : (Cond.methodRef own index y).before a0 (Z.setVm T.vm) = true := Cond.methodRef_warmed39 hT hn hy w
  have hnU : (Z.setVm T.vm).methodNamed? y = some mk := by rw [State.methodNamed?_setVm hT.alike]; exact hn
  have hcU : (Z.setVm T.vm).vm.findClass own = some cur := hcur
  obtain ⟨m2, c2, ci, b, q1, q2, q3, q4, q5⟩ := Cond.methodRef_spec (e := e) hcU wU
  cases (State.methodFound?_of_named hnU hy).symm.trans q1
  have e3 : c2 = mk.cls := Option.some.inj (q3.symm.trans (findClass_of_methodNamed hnU))
  subst e3
  refine ⟨q2, ?_⟩
  simp only [Cond.before, Cond.holds, Cond.value, hcU, q1, beq_iff_eq, Option.some.injEq, Bool.and_eq_true, decide_eq_true_eq] at wU
  obtain ⟨⟨hnames, -⟩, -⟩ := wU
  obtain ⟨cp, hcp, hnm⟩ := State.names_spec hnames
  obtain ⟨ci', nt, hentry, hnt, -⟩ := namesOf?_method hnm
  obtain ⟨k, cf, hk, hcf, rfl⟩ := State.poolOf?_spec hcU hcp
  obtain ⟨b', hask⟩ := memberRef_ask' (e := e) hk hcf hentry hnt
  cases q4.symm.trans hask
  exact ⟨k, cf, ci, nt, hk, hcf, hentry, q5⟩
/-- invokespecial of a constructor at a resolved entry -/
theorem specialHot (X : Stand p l e R s m args below meth c T locs cells slots) (hx : p.tables.exec = Jvm.exec) (hZ : Z.Warmed39 s.vm) {own : String} {index : Nat} {y : MethodName} (hy1 : y.name = "<init>")
    (hown : s.vm.findClass own = some m.cls) (w : (Cond.methodRef own index y).before a0 Z = true) (hinst : (Cond.instanceMethod y).before a0 Z = true) {bytes : ByteArray} {maxL : Nat} (hcode : (Cond.code y bytes maxL none).before a0 Z = true)
    (hy : y.cls ≠ "java/lang/invoke/MethodHandle" ∧ y.cls ≠ "java/lang/invoke/VarHandle") {W : Nat} {Pre : Pt → Array Value → Prop} {Post : Pt → Array Value → Option Value → Pt → Prop} (hK : Back l R p e below s args y 3 W Pre Post)
    {g : JFrame} (hg : g.method = m) (hsize : g.locals.size = c.maxLocals) {s₀ : State} (hcome : Steps p.tables e below s₀ (T.setTop g)) {a : Addr} {argsL rest : List Value}
    (hlen : ∀ sig, parseMethodDescriptor y.desc = some sig → argsL.length = sig.parameters.length) (hstack : g.stack = argsL.reverse ++ .ref a :: rest) (hW : 2 * g.monitorRoom + (rest.map fun v => v.category).sum ≤ W)
    (hdg : decode c.code g.pc = .ok (.invokespecial index, 3)) (hpre : ∀ vm₁, s.WarmedH vm₁ → Pre ⟨T.setVm vm₁, locs, cells, slots⟩ (.ref a :: argsL).toArray) :
    ∃ (v : Option Value) (vm₁ : Vm) (B : Pt), s.WarmedH vm₁ ∧ Stand p l e R s m args below meth c B.U B.locs B.cells B.slots ∧ Post ⟨T.setVm vm₁, locs, cells, slots⟩ (.ref a :: argsL).toArray v B ∧
      Steps p.tables e below s₀ (B.U.setTop { g with pc := g.pc + 3, stack := v.toList ++ rest }) := by
  have eV : T.setVm T.vm = T := rfl
  have hT := wtrans hZ X.warmed
  obtain ⟨mk, methM, hnZ, hmZ, hst, hab⟩ := Cond.instanceMethod_spec hinst
  obtain ⟨m2, cM, hm2, -, -, -, -, -, -, hsig⟩ := Cond.code_spec hnZ hcode
  cases hmZ.symm.trans hm2
  obtain ⟨hr, hnm⟩ := hotEntry e hT (cur := m.cls) (by rw [X.warmed.alike.findClass]; exact hown) w hnZ hy
  obtain ⟨kO, hkO, -⟩ := className_of_methodNamed hnZ
  obtain ⟨hnameM, hdescM⟩ := name_of_methodNamed hnZ hmZ
  obtain ⟨k2, hk2, -⟩ := hT.alike.2.2 _ _ hkO
  have hmT : T.vm.method? mk = some methM := by rw [hT.alike.method?]; exact hmZ
  have hfound : lookupSpecial T.vm mk.cls "<init>" methM.desc = .method mk := by
    rw [hT.alike.lookupSpecial, hdescM, ← hy1]; exact lookupSpecial_of_named hnZ hmZ hst
  have hns : s.methodNamed? y = some mk := by
    have q : (Z.setVm s.vm).methodNamed? y = some mk := by rw [State.methodNamed?_setVm hZ.alike]; exact hnZ
    exact q
  obtain ⟨v, B, X', hpost, hsteps⟩ := hK m meth c ⟨T, locs, cells, slots⟩ { g with stack := rest } (.invokespecial index) mk (.ref a :: argsL).toArray X hg hsize hdg hW (X.named hns) (eV ▸ hpre T.vm X.warmed)
  refine ⟨v, T.vm, B, X.warmed, X', eV.symm ▸ hpost, (hcome.trans ?_).trans hsteps⟩
  subst hg
  jvm_step X.here [hx, hdg, invokespecial.wp_init (e := e) (s := T) (k := k2) (meth := methM) (m := mk) (a := a) (args := argsL) (rest := rest) (f := g) X.here.top hnm hr hk2 hmT (by rw [hnameM]; exact hy1) hst hab hfound (hlen _ hsig) hstack]
  intro acts
  rw [doInvoke_state]
  exact Steps.refl _
/-- invokevirtual of a private method at a resolved entry -/
theorem privateHot (X : Stand p l e R s m args below meth c T locs cells slots) (hx : p.tables.exec = Jvm.exec) (hZ : Z.Warmed39 s.vm) {own : String} {index : Nat} {y : MethodName}
    (hown : s.vm.findClass own = some m.cls) (w : (Cond.methodRef own index y).before a0 Z = true) (hinst : (Cond.instanceMethod y).before a0 Z = true) (hpriv : (Cond.privateMethod y).before a0 Z = true) {ni : Nat} (hins : (Cond.instantiable y.cls ni).before a0 Z = true) {bytes : ByteArray} {maxL : Nat} {ret : Option FieldType} (hcode : (Cond.code y bytes maxL ret).before a0 Z = true)
    (hy : y.cls ≠ "java/lang/invoke/MethodHandle" ∧ y.cls ≠ "java/lang/invoke/VarHandle") {W : Nat} {Pre : Pt → Array Value → Prop} {Post : Pt → Array Value → Option Value → Pt → Prop} (hK : Back l R p e below s args y 3 W Pre Post)
    {g : JFrame} (hg : g.method = m) (hsize : g.locals.size = c.maxLocals) {s₀ : State} (hcome : Steps p.tables e below s₀ (T.setTop g)) {a : Addr} {cell : Cell} (hcell : T.heap[a]? = some cell) (hobj : ∀ q, cell.vm ≠ .statics q) {argsL rest : List Value}
    (hlen : ∀ sig, parseMethodDescriptor y.desc = some sig → argsL.length = sig.parameters.length) (hstack : g.stack = argsL.reverse ++ .ref a :: rest) (hW : 2 * g.monitorRoom + (rest.map fun v => v.category).sum ≤ W)
    (hdg : decode c.code g.pc = .ok (.invokevirtual index, 3)) (hpre : ∀ vm₁, s.WarmedH vm₁ → Pre ⟨T.setVm vm₁, locs, cells, slots⟩ (.ref a :: argsL).toArray) :
    ∃ (v : Option Value) (vm₁ : Vm) (B : Pt), s.WarmedH vm₁ ∧ Stand p l e R s m args below meth c B.U B.locs B.cells B.slots ∧ Post ⟨T.setVm vm₁, locs, cells, slots⟩ (.ref a :: argsL).toArray v B ∧
      Steps p.tables e below s₀ (B.U.setTop { g with pc := g.pc + 3, stack := v.toList ++ rest }) := by
  have eV : T.setVm T.vm = T := rfl
  have hT := wtrans hZ X.warmed
  obtain ⟨mk, methM, hnZ, hmZ, hst, hab⟩ := Cond.instanceMethod_spec hinst
  obtain ⟨m2, cM, hm2, -, -, -, -, -, -, hsig⟩ := Cond.code_spec hnZ hcode
  cases hmZ.symm.trans hm2
  obtain ⟨hr, hnm⟩ := hotEntry e hT (cur := m.cls) (by rw [X.warmed.alike.findClass]; exact hown) w hnZ hy
  obtain ⟨kO, hkO, hnO⟩ := className_of_methodNamed hnZ
  obtain ⟨c3, k3, z1, z2, -, z3, -⟩ := Cond.instantiable_spec hins
  cases z1.symm.trans (findClass_of_methodNamed hnZ)
  cases hkO.symm.trans z2
  have hni : kO.isInterface = false := by revert z3; cases kO.isInterface <;> simp
  obtain ⟨k2, hk2, he2⟩ := hT.alike.2.2 _ _ hkO
  have hni2 : k2.isInterface = false := by rw [he2]; exact hni
  have hmT : T.vm.method? mk = some methM := by rw [hT.alike.method?]; exact hmZ
  have hp : methM.isPrivate = true := Cond.privateMethod_at hpriv mk methM hnZ hmZ
  have hpoly : signaturePolymorphic k2 methM = false := by
    have : k2.name = y.cls := by rw [he2]; exact hnO
    simp [signaturePolymorphic, this, hy.1, hy.2]
  have hns : s.methodNamed? y = some mk := by
    have q : (Z.setVm s.vm).methodNamed? y = some mk := by rw [State.methodNamed?_setVm hZ.alike]; exact hnZ
    exact q
  obtain ⟨v, B, X', hpost, hsteps⟩ := hK m meth c ⟨T, locs, cells, slots⟩ { g with stack := rest } (.invokevirtual index) mk (.ref a :: argsL).toArray X hg hsize hdg hW (X.named hns) (eV ▸ hpre T.vm X.warmed)
  refine ⟨v, T.vm, B, X.warmed, X', eV.symm ▸ hpost, (hcome.trans ?_).trans hsteps⟩
  subst hg
  jvm_step X.here [hx, hdg, invokevirtual.wp_named (e := e) (s := T) (f := g) (r := mk) (m := mk) (c' := mk.cls) (k := k2) (k' := k2) (mk := k2) (rmeth := methM) (meth := methM) (a := a) (args := argsL) (rest := rest) (cell := cell)
    X.here.top hnm hk2 hni2 hr hk2 hmT hpoly hst (hlen _ hsig) hstack hcell hobj (selectMethod_private hmT hp) hmT hab hk2 hni2]
  intro acts
  rw [doInvoke_state]
  exact Steps.refl _
/-- the class of that name is no interface -/
def NI (Z : State) (C : String) : Prop := ∀ c k, Z.vm.findClass C = some c → Z.vm.classes[c]? = some k → k.isInterface = false
theorem NI.inst {C : String} {n : Nat} (w : (Cond.instantiable C n).before a0 Z = true) : NI Z C := fun c k h1 h2 => by
  obtain ⟨c3, k3, z1, z2, -, z3, -⟩ := Cond.instantiable_spec w
  cases h1.symm.trans z1
  cases h2.symm.trans z2
  revert z3; cases k.isInterface <;> simp
theorem NI.sel {C : String} {x y : MethodName} (w : (Cond.selects C x y).before a0 Z = true) : NI Z y.cls := fun c k h1 h2 => by
  obtain ⟨c2, r2, m2, -, -, q3, -, kP, hkP, hkPi⟩ := Cond.selects_spec w
  cases h1.symm.trans (findClass_of_methodNamed q3)
  cases h2.symm.trans hkP
  exact hkPi
theorem same_of {y : MethodName} (N : NI Z y.cls) (wi : (Cond.instanceMethod y).before a0 Z = true) (hy : y.cls ≠ "java/lang/invoke/MethodHandle" ∧ y.cls ≠ "java/lang/invoke/VarHandle") : (Cond.sameMethod y.cls y.cls y.name y.desc).before a0 Z = true := by
  obtain ⟨mk, methM, hnZ, hmZ, -, -⟩ := Cond.instanceMethod_spec wi
  obtain ⟨k, hk, -⟩ := className_of_methodNamed hnZ
  have hc := findClass_of_methodNamed hnZ
  simp only [Cond.before, Cond.holds, Cond.value, hc, State.methodFound?_of_named hnZ hy]
  simp [hnZ, hk, N _ _ hc hk]
theorem sel_of {y : MethodName} (N : NI Z y.cls) (wi : (Cond.instanceMethod y).before a0 Z = true) (wp : (Cond.privateMethod y).before a0 Z = true) (hy : y.cls ≠ "java/lang/invoke/MethodHandle" ∧ y.cls ≠ "java/lang/invoke/VarHandle") : (Cond.selects y.cls y y).before a0 Z = true := by
  obtain ⟨mk, methM, hnZ, hmZ, -, -⟩ := Cond.instanceMethod_spec wi
  obtain ⟨k, hk, -⟩ := className_of_methodNamed hnZ
  have hc := findClass_of_methodNamed hnZ
  exact selects_self_of_private hc hk (N _ _ hc hk) (Cond.privateMethod_at wp) wi hy
theorem nf_of {y : MethodName} (hZ : Z.Warmed39 s.vm) (N : NI Z y.cls) : NotFace s y := fun r0 h0 => by
  obtain ⟨k, hk, -⟩ := className_of_methodNamed h0
  have hc := findClass_of_methodNamed h0
  rw [hZ.alike.findClass] at hc
  obtain ⟨kZ, hkZ, -⟩ := Vm.findClass_spec hc
  obtain ⟨k', q1, q2⟩ := hZ.alike.2.2 _ _ hkZ
  cases hk.symm.trans q1
  have ni := N _ _ hc hkZ
  exact ⟨k, hk, by rw [q2]; exact ni⟩
end Hot
end Jvm.OwnKit
namespace Jvm.OwnKit
open Sem ClassFile Op Lib Jvm.Stand Jvm.Free Jvm.LawKit Jvm.RoadKit
section Terse
variable {p : Program} {l : Launch} {e : Env} {R : Room} {s : State} {m : MethodId} {args : Array Value} {below : List Frame} {meth : Method} {c : Code} {T : State} {locs : List Loc} {cells slots : Nat} {Z : State} {a0 : Array Value} {h : Heap} {Q : Option Value → Heap → List Loc → Prop} {C S : Nat}
/-- a body's contract, written short -/
abbrev Met1 (l : Launch) (y : MethodName) (bytes : ByteArray) (ml : Nat) (ret : Option FieldType) (ws : List Cond) (R : Room) (A : Array Value) (Z : State) (h0 : Heap) (Q : Option Value → Heap → List Loc → Prop) : Prop :=
  MetFree l y (head1 (Cond.code y bytes ml ret :: ws) R) (fun a U => a = A ∧ Z.Warmed39 U.vm ∧ U.heap = h0) (fun _ _ _ _ _ => True) (fun _ U o U' => ∃ v L, o = .returned v ∧ Q v U'.heap L ∧ FrameEnd U o U' L R.cells R.slots)
theorem Met1.enter {y : MethodName} {bytes : ByteArray} {ml : Nat} {ret : Option FieldType} {ws : List Cond} {A : Array Value} {h0 : Heap} (hp : plainFor y = true) {Ls : Array Slot} (ef : ∀ m, entryFrame m A ml = mkF m 0 Ls [])
    (k : ∀ (p : Program) (e : Env) (s : State) (m : MethodId) (below : List Frame) (meth : Method) (c : Code) (s₁ : State), p.tables.exec = Jvm.exec → c.code = bytes → meth.locks = false → meth.sig.returnType = ret → c.maxLocals = ml → s.vm.findClass y.cls = some m.cls → meth.name = y.name → Z.Warmed39 s.vm → Stand p l e R s m A below meth c s₁ [] 0 0 → s₁.heap = h0 → Fin p e below s Q R.cells R.slots (s₁.setTop (mkF m 0 Ls []))) :
    Met1 l y bytes ml ret ws R A Z h0 Q := by
  refine MetFree.of_bodySF hp hisR ?_
  intro p e s m args below meth c s₁ Bd hml0 hP hK
  obtain ⟨rfl, hZ, hh⟩ := hP
  obtain ⟨s₂, o, h1, h2, h3, v, L, h4, h5, h6⟩ := k p e s m below meth c s₁ Bd.exec Bd.bytes (BodyLoose.notSynchronized Bd) Bd.returns hml0 (findClass_of_methodNamed Bd.named) (name_of_methodNamed Bd.named Bd.method).1 hZ (Stand.of_body Bd) (by rw [← hh, Bd.state]; rfl)
  exact ⟨s₂, o, castTop (ef m) h1, h2, h3, v, L, h4, h5, h6⟩
theorem pack {rm : Room} {s₀ : State} {G : Option Value → JFrame}
    (hh : ∃ (v : Option Value) (vm₁ : Vm) (B : Pt), s.WarmedH vm₁ ∧ Stand p l e R s m args below meth c B.U B.locs B.cells B.slots ∧ (fun (A : Pt) (_ : Array Value) (v : Option Value) (B : Pt) => ∃ L, Q v B.U.heap L ∧ B.locs = A.locs ++ L ∧ B.cells = A.cells + rm.cells ∧ B.slots = A.slots + rm.slots) ⟨T.setVm vm₁, locs, cells, slots⟩ #[] v B ∧ Steps p.tables e below s₀ (B.U.setTop (G v))) :
    ∃ v T' L, Stand p l e R s m args below meth c T' (locs ++ L) (cells + rm.cells) (slots + rm.slots) ∧ Q v T'.heap L ∧ ∀ t, Steps p.tables e below (T'.setTop (G v)) t → Steps p.tables e below s₀ t := by
  obtain ⟨v, vm₁, ⟨T', L1, k1, n1⟩, -, X, ⟨L, hQ, h1, h2, h3⟩, st⟩ := hh
  exact ⟨v, T', L, recast X h1 h2 h3, hQ, fun _ k => st.trans k⟩
theorem packS {rm : Room} {s₀ : State} {G : Option Value → JFrame}
    (hh : ∃ (v : Option Value) (vm₁ : Vm) (B : Pt), s.WarmedH vm₁ ∧ Stand p l e R s m args below meth c B.U B.locs B.cells B.slots ∧ (fun (A : Pt) (_ : Array Value) (v : Option Value) (B : Pt) => ∃ L, Q v B.U.heap L ∧ B.locs = A.locs ++ L ∧ B.cells = A.cells + rm.cells ∧ B.slots = A.slots + rm.slots) ⟨T.setVm vm₁, locs, cells, slots⟩ #[] v B ∧ ∀ t, Steps p.tables e below (B.U.setTop (G v)) t → Steps p.tables e below s₀ t) :
    ∃ v T' L, Stand p l e R s m args below meth c T' (locs ++ L) (cells + rm.cells) (slots + rm.slots) ∧ Q v T'.heap L ∧ ∀ t, Steps p.tables e below (T'.setTop (G v)) t → Steps p.tables e below s₀ t := by
  obtain ⟨v, vm₁, ⟨T', L1, k1, n1⟩, -, X, ⟨L, hQ, h1, h2, h3⟩, st⟩ := hh
  exact ⟨v, T', L, recast X h1 h2 h3, hQ, st⟩
theorem fget (X : Stand p l e R s m args below meth c T locs cells slots) (hx : p.tables.exec = Jvm.exec) (hZ : Z.Warmed39 s.vm) {own O n d : String} {index : Nat} (hown : s.vm.findClass own = some m.cls) (w : (Cond.fieldLink own index O n d).before a0 Z = true)
    (eT : T.heap = h) {a : Addr} {v : Value} (F : Fld Z h a O n d v) {pc : Nat} {Ls : Array Slot} {rest : List Value} (hd : decode c.code pc = .ok (.getfield index, 3))
    (k : ∀ T', Stand p l e R s m args below meth c T' locs cells slots → T'.heap = h → Fin p e below s Q C S (T'.setTop (mkF m (pc + 3) Ls (v :: rest)))) : Fin p e below s Q C S (T.setTop (mkF m pc Ls (.ref a :: rest))) := by
  obtain ⟨T', X', e', st⟩ := getF X hx hZ hown (host := "") (Or.inl w) Via.refl eT F (g := mkF m pc Ls (.ref a :: rest)) rfl rfl hd
  exact Fin.step st (k T' X' e')
theorem fald (X : Stand p l e R s m args below meth c T locs cells slots) (hx : p.tables.exec = Jvm.exec) (hZ : Z.Warmed39 s.vm) (eT : T.heap = h) {a : Addr} {kk : ClassId} {ty : FieldType} {n j : Int32} {vs : List Value} {d v : Value} (F : Arv Z h a kk ty n vs d) (hty : ty.isReference = true)
    (hj : ¬ j < 0 ∧ j < n) (gp : vs.getD j.toNatClampNeg d = v) {pc : Nat} {Ls : Array Slot} {rest : List Value} (hd : decode c.code pc = .ok (.aaload, 1))
    (k : Fin p e below s Q C S (T.setTop (mkF m (pc + 1) Ls (v :: rest)))) : Fin p e below s Q C S (T.setTop (mkF m pc Ls (.int j :: .ref a :: rest))) := by
  obtain ⟨cl, Ar, qa, sa, na, ha, ga⟩ := F
  have hin := inb_of (j := j) sa hj
  exact Fin.step (X.aaload hx (j := j) (v := v) (by rw [eT]; exact Ar.1) (State.isArrayOf_alike hZ.alike Ar.2.1) hty Ar.2.2 hin (ha.at hin gp) (g := mkF m pc Ls (.int j :: .ref a :: rest)) rfl rfl hd) k
theorem nlt {a b n : Nat} (h1 : a < n) (h2 : n ≤ b) : a ≠ b := Nat.ne_of_lt (Nat.lt_of_lt_of_le h1 h2)
theorem lb {a b : Nat} (h : Nat.ble a b = true) : a ≤ b := Nat.le_of_ble_eq_true h
theorem m0 {a : Addr} {L : List Addr} {P : Prop} : a ∈ a :: L ∨ P := Or.inl List.mem_cons_self
theorem m1 {a b : Addr} {L : List Addr} {P : Prop} : a ∈ b :: a :: L ∨ P := Or.inl (List.mem_cons_of_mem _ List.mem_cons_self)
theorem m2 {a b c : Addr} {L : List Addr} {P : Prop} : a ∈ b :: c :: a :: L ∨ P := Or.inl (List.mem_cons_of_mem _ (List.mem_cons_of_mem _ List.mem_cons_self))
theorem m3 {a b c d : Addr} {L : List Addr} {P : Prop} : a ∈ b :: c :: d :: a :: L ∨ P := Or.inl (List.mem_cons_of_mem _ (List.mem_cons_of_mem _ (List.mem_cons_of_mem _ List.mem_cons_self)))
end Terse
end Jvm.OwnKit
namespace Jvm.Yo
open Sem ClassFile Op Lib Jvm.Stand Jvm.Free Jvm.LawKit Jvm.RoadKit
variable {tb : Tables} [Ours tb] {e : Env} {below : List Frame} {T target : State} {m : MethodId} {c : Code} {pc : Nat} {Ls : Array Slot} {S : List Value}
theorem iload (h : At T m c below) (hx : tb.exec = Jvm.exec) {k : Nat} {v : Int32} (hd : decode c.code pc = .ok (.iload k, 2)) (hl : Ls[k]? = some (.val (.int v))) (hr : Steps tb e below (T.setTop (mkF m (pc + 2) Ls (.int v :: S))) target) : Steps tb e below (T.setTop (mkF m pc Ls S)) target := XS.iload (g := mkF m pc Ls S) h hx rfl hd hl hr
theorem iloadN (h : At T m c below) (hx : tb.exec = Jvm.exec) {k : Fin 4} {v : Int32} (hd : decode c.code pc = .ok (.iload_n k, 1)) (hl : Ls[k.val]? = some (.val (.int v))) (hr : Steps tb e below (T.setTop (mkF m (pc + 1) Ls (.int v :: S))) target) : Steps tb e below (T.setTop (mkF m pc Ls S)) target := XS.iloadN (g := mkF m pc Ls S) h hx rfl hd hl hr
theorem aload (h : At T m c below) (hx : tb.exec = Jvm.exec) {k : Nat} {v : Value} (hd : decode c.code pc = .ok (.aload k, 2)) (hl : Ls[k]? = some (.val v)) (hv : v.isRef = true) (hr : Steps tb e below (T.setTop (mkF m (pc + 2) Ls (v :: S))) target) : Steps tb e below (T.setTop (mkF m pc Ls S)) target := XS.aload (g := mkF m pc Ls S) h hx rfl hd hl hv hr
theorem aloadN (h : At T m c below) (hx : tb.exec = Jvm.exec) {k : Fin 4} {v : Value} (hd : decode c.code pc = .ok (.aload_n k, 1)) (hl : Ls[k.val]? = some (.val v)) (hv : v.isRef = true) (hr : Steps tb e below (T.setTop (mkF m (pc + 1) Ls (v :: S))) target) : Steps tb e below (T.setTop (mkF m pc Ls S)) target := XS.aloadN (g := mkF m pc Ls S) h hx rfl hd hl hv hr
theorem istore (h : At T m c below) (hx : tb.exec = Jvm.exec) {k : Nat} {x : Int32} {rest : List Value} {l' : Array Slot} (hd : decode c.code pc = .ok (.istore k, 2)) (hs : S = .int x :: rest) (hl : storeLocals Ls k (.int x) = some l') (hr : Steps tb e below (T.setTop (mkF m (pc + 2) l' (rest))) target) : Steps tb e below (T.setTop (mkF m pc Ls S)) target := XS.istore (g := mkF m pc Ls S) h hx rfl hd hs hl hr
theorem istoreN (h : At T m c below) (hx : tb.exec = Jvm.exec) {k : Fin 4} {x : Int32} {rest : List Value} {l' : Array Slot} (hd : decode c.code pc = .ok (.istore_n k, 1)) (hs : S = .int x :: rest) (hl : storeLocals Ls k.val (.int x) = some l') (hr : Steps tb e below (T.setTop (mkF m (pc + 1) l' (rest))) target) : Steps tb e below (T.setTop (mkF m pc Ls S)) target := XS.istoreN (g := mkF m pc Ls S) h hx rfl hd hs hl hr
theorem astore (h : At T m c below) (hx : tb.exec = Jvm.exec) {k : Nat} {x : Value} {rest : List Value} {l' : Array Slot} (hd : decode c.code pc = .ok (.astore k, 2)) (hs : S = x :: rest) (hv : x.isRef = true) (hl : storeLocals Ls k x = some l') (hr : Steps tb e below (T.setTop (mkF m (pc + 2) l' (rest))) target) : Steps tb e below (T.setTop (mkF m pc Ls S)) target := XS.astore (g := mkF m pc Ls S) h hx rfl hd hs hv hl hr
theorem astoreN (h : At T m c below) (hx : tb.exec = Jvm.exec) {k : Fin 4} {x : Value} {rest : List Value} {l' : Array Slot} (hd : decode c.code pc = .ok (.astore_n k, 1)) (hs : S = x :: rest) (hv : x.isRef = true) (hl : storeLocals Ls k.val x = some l') (hr : Steps tb e below (T.setTop (mkF m (pc + 1) l' (rest))) target) : Steps tb e below (T.setTop (mkF m pc Ls S)) target := XS.astoreN (g := mkF m pc Ls S) h hx rfl hd hs hv hl hr
theorem iconst (h : At T m c below) (hx : tb.exec = Jvm.exec) {i : Int} (hd : decode c.code pc = .ok (.iconst i, 1)) (hr : Steps tb e below (T.setTop (mkF m (pc + 1) Ls (.int (Int32.ofInt i) :: S))) target) : Steps tb e below (T.setTop (mkF m pc Ls S)) target := XS.iconst (g := mkF m pc Ls S) h hx rfl hd hr
theorem bipush (h : At T m c below) (hx : tb.exec = Jvm.exec) {i : Int} (hd : decode c.code pc = .ok (.bipush i, 2)) (hr : Steps tb e below (T.setTop (mkF m (pc + 2) Ls (.int (Int8.ofInt i).toInt32 :: S))) target) : Steps tb e below (T.setTop (mkF m pc Ls S)) target := XS.bipush (g := mkF m pc Ls S) h hx rfl hd hr
theorem sipush (h : At T m c below) (hx : tb.exec = Jvm.exec) {i : Int} (hd : decode c.code pc = .ok (.sipush i, 3)) (hr : Steps tb e below (T.setTop (mkF m (pc + 3) Ls (.int (Int16.ofInt i).toInt32 :: S))) target) : Steps tb e below (T.setTop (mkF m pc Ls S)) target := XS.sipush (g := mkF m pc Ls S) h hx rfl hd hr
theorem aconstNull (h : At T m c below) (hx : tb.exec = Jvm.exec) (hd : decode c.code pc = .ok (.aconst_null, 1)) (hr : Steps tb e below (T.setTop (mkF m (pc + 1) Ls (.null :: S))) target) : Steps tb e below (T.setTop (mkF m pc Ls S)) target := XS.aconstNull (g := mkF m pc Ls S) h hx rfl hd hr
theorem dup (h : At T m c below) (hx : tb.exec = Jvm.exec) {x : Value} {rest : List Value} (hd : decode c.code pc = .ok (.dup, 1)) (hs : S = x :: rest) (hc : x.category = 1) (hr : Steps tb e below (T.setTop (mkF m (pc + 1) Ls (x :: x :: rest))) target) : Steps tb e below (T.setTop (mkF m pc Ls S)) target := XS.dup (g := mkF m pc Ls S) h hx rfl hd hs hc hr
theorem pop (h : At T m c below) (hx : tb.exec = Jvm.exec) {x : Value} {rest : List Value} (hd : decode c.code pc = .ok (.pop, 1)) (hs : S = x :: rest) (hc : x.category = 1) (hr : Steps tb e below (T.setTop (mkF m (pc + 1) Ls (rest))) target) : Steps tb e below (T.setTop (mkF m pc Ls S)) target := XS.pop (g := mkF m pc Ls S) h hx rfl hd hs hc hr
theorem dupX1 (h : At T m c below) (hx : tb.exec = Jvm.exec) {x y : Value} {rest : List Value} (hd : decode c.code pc = .ok (.dup_x1, 1)) (hs : S = x :: y :: rest) (hc : x.category = 1) (hc2 : y.category = 1) (hr : Steps tb e below (T.setTop (mkF m (pc + 1) Ls (x :: y :: x :: rest))) target) : Steps tb e below (T.setTop (mkF m pc Ls S)) target := XS.dupX1 (g := mkF m pc Ls S) h hx rfl hd hs hc hc2 hr
theorem iadd (h : At T m c below) (hx : tb.exec = Jvm.exec) {x y : Int32} {rest : List Value} (hd : decode c.code pc = .ok (.iadd, 1)) (hs : S = .int y :: .int x :: rest) (hr : Steps tb e below (T.setTop (mkF m (pc + 1) Ls (.int (x + y) :: rest))) target) : Steps tb e below (T.setTop (mkF m pc Ls S)) target := XS.iadd (g := mkF m pc Ls S) h hx rfl hd hs hr
theorem isub (h : At T m c below) (hx : tb.exec = Jvm.exec) {x y : Int32} {rest : List Value} (hd : decode c.code pc = .ok (.isub, 1)) (hs : S = .int y :: .int x :: rest) (hr : Steps tb e below (T.setTop (mkF m (pc + 1) Ls (.int (x - y) :: rest))) target) : Steps tb e below (T.setTop (mkF m pc Ls S)) target := XS.isub (g := mkF m pc Ls S) h hx rfl hd hs hr
theorem iand (h : At T m c below) (hx : tb.exec = Jvm.exec) {x y : Int32} {rest : List Value} (hd : decode c.code pc = .ok (.iand, 1)) (hs : S = .int y :: .int x :: rest) (hr : Steps tb e below (T.setTop (mkF m (pc + 1) Ls (.int (x &&& y) :: rest))) target) : Steps tb e below (T.setTop (mkF m pc Ls S)) target := XS.iand (g := mkF m pc Ls S) h hx rfl hd hs hr
theorem ior (h : At T m c below) (hx : tb.exec = Jvm.exec) {x : Int32} {y : Int32} {rest : List Value} (hd : decode c.code pc = .ok (.ior, 1)) (hs : S = .int y :: .int x :: rest) (hr : Steps tb e below (T.setTop (mkF m (pc + 1) Ls (.int (x ||| y) :: rest))) target) : Steps tb e below (T.setTop (mkF m pc Ls S)) target := XS.ior (g := mkF m pc Ls S) h hx rfl hd hs hr
theorem iushr (h : At T m c below) (hx : tb.exec = Jvm.exec) {x : Int32} {y : Int32} {rest : List Value} (hd : decode c.code pc = .ok (.iushr, 1)) (hs : S = .int y :: .int x :: rest) (hr : Steps tb e below (T.setTop (mkF m (pc + 1) Ls (.int ((x.toUInt32 >>> (y &&& 31).toUInt32).toInt32) :: rest))) target) : Steps tb e below (T.setTop (mkF m pc Ls S)) target := XS.iushr (g := mkF m pc Ls S) h hx rfl hd hs hr
theorem ishr (h : At T m c below) (hx : tb.exec = Jvm.exec) {x : Int32} {y : Int32} {rest : List Value} (hd : decode c.code pc = .ok (.ishr, 1)) (hs : S = .int y :: .int x :: rest) (hr : Steps tb e below (T.setTop (mkF m (pc + 1) Ls (.int (x >>> (y &&& 31)) :: rest))) target) : Steps tb e below (T.setTop (mkF m pc Ls S)) target := XS.ishr (g := mkF m pc Ls S) h hx rfl hd hs hr
theorem ishl (h : At T m c below) (hx : tb.exec = Jvm.exec) {x : Int32} {y : Int32} {rest : List Value} (hd : decode c.code pc = .ok (.ishl, 1)) (hs : S = .int y :: .int x :: rest) (hr : Steps tb e below (T.setTop (mkF m (pc + 1) Ls (.int (x <<< (y &&& 31)) :: rest))) target) : Steps tb e below (T.setTop (mkF m pc Ls S)) target := XS.ishl (g := mkF m pc Ls S) h hx rfl hd hs hr
theorem i2c (h : At T m c below) (hx : tb.exec = Jvm.exec) {v : Int32} {rest : List Value} (hd : decode c.code pc = .ok (.i2c, 1)) (hs : S = .int v :: rest) (hr : Steps tb e below (T.setTop (mkF m (pc + 1) Ls (.int (v.toUInt32.toUInt16.toUInt32.toInt32) :: rest))) target) : Steps tb e below (T.setTop (mkF m pc Ls S)) target := XS.i2c (g := mkF m pc Ls S) h hx rfl hd hs hr
theorem i2b (h : At T m c below) (hx : tb.exec = Jvm.exec) {v : Int32} {rest : List Value} (hd : decode c.code pc = .ok (.i2b, 1)) (hs : S = .int v :: rest) (hr : Steps tb e below (T.setTop (mkF m (pc + 1) Ls (.int (v.toInt8.toInt32) :: rest))) target) : Steps tb e below (T.setTop (mkF m pc Ls S)) target := XS.i2b (g := mkF m pc Ls S) h hx rfl hd hs hr
theorem iinc (h : At T m c below) (hx : tb.exec = Jvm.exec) {k : Nat} {cst : Int} {x : Int32} {l' : Array Slot} (hd : decode c.code pc = .ok (.iinc k cst, 3)) (hl : Ls[k]? = some (.val (.int x))) (hl' : storeLocals Ls k (.int (x + Int32.ofInt cst)) = some l') (hr : Steps tb e below (T.setTop (mkF m (pc + 3) l' (S))) target) : Steps tb e below (T.setTop (mkF m pc Ls S)) target := XS.iinc (g := mkF m pc Ls S) h hx rfl hd hl hl' hr
theorem goto (h : At T m c below) (hx : tb.exec = Jvm.exec) {o : Int} {pc0 pc' : Nat} (hpc : pc = pc0) (hd : decode c.code pc = .ok (.goto o, 3)) (ho : 0 ≤ (pc0 : Int) + o) (hp : ((pc0 : Int) + o).toNat = pc') (hr : Steps tb e below (T.setTop (mkF m (pc') Ls (S))) target) : Steps tb e below (T.setTop (mkF m pc Ls S)) target := XS.goto (g := mkF m pc Ls S) h hx rfl hpc hd ho hp hr
theorem ifYes (h : At T m c below) (hx : tb.exec = Jvm.exec) {cd : ClassFile.Cond} {x : Int32} {rest : List Value} {o : Int} {pc0 pc' : Nat} (hpc : pc = pc0) (hd : decode c.code pc = .ok (.ifCond cd o, 3)) (hs : S = .int x :: rest) (hc : ifCond.holds cd x = true) (ho : 0 ≤ (pc0 : Int) + o) (hp : ((pc0 : Int) + o).toNat = pc') (hr : Steps tb e below (T.setTop (mkF m (pc') Ls (rest))) target) : Steps tb e below (T.setTop (mkF m pc Ls S)) target := XS.ifYes (g := mkF m pc Ls S) h hx rfl hpc hd hs hc ho hp hr
theorem ifNo (h : At T m c below) (hx : tb.exec = Jvm.exec) {cd : ClassFile.Cond} {o : Int} {x : Int32} {rest : List Value} (hd : decode c.code pc = .ok (.ifCond cd o, 3)) (hs : S = .int x :: rest) (hc : ifCond.holds cd x = false) (hr : Steps tb e below (T.setTop (mkF m (pc + 3) Ls (rest))) target) : Steps tb e below (T.setTop (mkF m pc Ls S)) target := XS.ifNo (g := mkF m pc Ls S) h hx rfl hd hs hc hr
theorem icmpYes (h : At T m c below) (hx : tb.exec = Jvm.exec) {cd : ClassFile.Cond} {x y : Int32} {rest : List Value} {o : Int} {pc0 pc' : Nat} (hpc : pc = pc0) (hd : decode c.code pc = .ok (.if_icmp cd o, 3)) (hs : S = .int y :: .int x :: rest) (hc : if_icmp.holds cd x y = true) (ho : 0 ≤ (pc0 : Int) + o) (hp : ((pc0 : Int) + o).toNat = pc') (hr : Steps tb e below (T.setTop (mkF m (pc') Ls (rest))) target) : Steps tb e below (T.setTop (mkF m pc Ls S)) target := XS.icmpYes (g := mkF m pc Ls S) h hx rfl hpc hd hs hc ho hp hr
theorem icmpNo (h : At T m c below) (hx : tb.exec = Jvm.exec) {cd : ClassFile.Cond} {o : Int} {x y : Int32} {rest : List Value} (hd : decode c.code pc = .ok (.if_icmp cd o, 3)) (hs : S = .int y :: .int x :: rest) (hc : if_icmp.holds cd x y = false) (hr : Steps tb e below (T.setTop (mkF m (pc + 3) Ls (rest))) target) : Steps tb e below (T.setTop (mkF m pc Ls S)) target := XS.icmpNo (g := mkF m pc Ls S) h hx rfl hd hs hc hr
theorem ifnullYes (h : At T m c below) (hx : tb.exec = Jvm.exec) {rest : List Value} {o : Int} {pc0 pc' : Nat} (hpc : pc = pc0) (hd : decode c.code pc = .ok (.ifnull o, 3)) (hs : S = .null :: rest) (ho : 0 ≤ (pc0 : Int) + o) (hp : ((pc0 : Int) + o).toNat = pc') (hr : Steps tb e below (T.setTop (mkF m (pc') Ls (rest))) target) : Steps tb e below (T.setTop (mkF m pc Ls S)) target := XS.ifnullYes (g := mkF m pc Ls S) h hx rfl hpc hd hs ho hp hr
theorem ifnullNo (h : At T m c below) (hx : tb.exec = Jvm.exec) {o : Int} {b : Addr} {rest : List Value} (hd : decode c.code pc = .ok (.ifnull o, 3)) (hs : S = .ref b :: rest) (hr : Steps tb e below (T.setTop (mkF m (pc + 3) Ls (rest))) target) : Steps tb e below (T.setTop (mkF m pc Ls S)) target := XS.ifnullNo (g := mkF m pc Ls S) h hx rfl hd hs hr
theorem ifnonnullYes (h : At T m c below) (hx : tb.exec = Jvm.exec) {b : Addr} {rest : List Value} {o : Int} {pc0 pc' : Nat} (hpc : pc = pc0) (hd : decode c.code pc = .ok (.ifnonnull o, 3)) (hs : S = .ref b :: rest) (ho : 0 ≤ (pc0 : Int) + o) (hp : ((pc0 : Int) + o).toNat = pc') (hr : Steps tb e below (T.setTop (mkF m (pc') Ls (rest))) target) : Steps tb e below (T.setTop (mkF m pc Ls S)) target := XS.ifnonnullYes (g := mkF m pc Ls S) h hx rfl hpc hd hs ho hp hr
theorem ifnonnullNo (h : At T m c below) (hx : tb.exec = Jvm.exec) {o : Int} {rest : List Value} (hd : decode c.code pc = .ok (.ifnonnull o, 3)) (hs : S = .null :: rest) (hr : Steps tb e below (T.setTop (mkF m (pc + 3) Ls (rest))) target) : Steps tb e below (T.setTop (mkF m pc Ls S)) target := XS.ifnonnullNo (g := mkF m pc Ls S) h hx rfl hd hs hr
end Jvm.Yo
namespace Jvm.Pilot.@@N@@
open Jvm Jvm.ClassFile Sem Op Lib Jvm.Free Jvm.Stand Jvm.LawKit Jvm.RoadKit Jvm.OwnKit Bundle Jvm.Pilot.@@N@@.Jvm.D
abbrev q0 : String := "com/example/uzor/uzor/StringValues$Value"
abbrev q1 : String := "com/example/uzor/uzor/StringValues"
abbrev q2 : String := "java/lang/StringBuilder"
abbrev q3 : String := "java/lang/AbstractStringBuilder"
abbrev q4 : String := "java/lang/String"
abbrev q5 : String := "jdk/internal/util/Preconditions"
abbrev q6 : String := "Ljava/util/function/BiFunction;"
abbrev q7 : String := "Ljava/lang/StringBuilder;"
abbrev q8 : String := "Ljava/lang/String;"
abbrev q9 : String := "[Lcom/example/uzor/uzor/StringValues$Value;"
abbrev q10 : String := "COMPACT_STRINGS"
abbrev q11 : String := "SIOOBE_FORMATTER"
abbrev q12 : String := "IOOBE_FORMATTER"
abbrev n1 : MethodName := ⟨"com/example/uzor/uzor/StringValues", "<init>", "()V"⟩
abbrev n2 : MethodName := ⟨"java/lang/Object", "<init>", "()V"⟩
abbrev n3 : MethodName := ⟨"com/example/uzor/uzor/StringValues", "startElement", "()I"⟩
abbrev n4 : MethodName := ⟨"com/example/uzor/uzor/StringValues", "text", "([CII)V"⟩
abbrev n5 : MethodName := ⟨"com/example/uzor/uzor/StringValues", "endElement", "()I"⟩
abbrev n6 : MethodName := ⟨"com/example/uzor/uzor/StringValues", "build", "(I)Lcom/example/uzor/uzor/StringValues$Value;"⟩
abbrev n7 : MethodName := ⟨"com/example/uzor/uzor/StringValues$Value", "<init>", "(II)V"⟩
abbrev n8 : MethodName := ⟨"java/lang/StringBuilder", "<init>", "()V"⟩
abbrev n9 : MethodName := ⟨"java/lang/AbstractStringBuilder", "<init>", "(I)V"⟩
abbrev n10 : MethodName := ⟨"com/example/uzor/uzor/StringValues$Value", "add", "([CII)Z"⟩
abbrev n11 : MethodName := ⟨"java/lang/StringBuilder", "length", "()I"⟩
abbrev n12 : MethodName := ⟨"java/lang/AbstractStringBuilder", "length", "()I"⟩
abbrev n13 : MethodName := ⟨"java/lang/StringBuilder", "append", "([CII)Ljava/lang/StringBuilder;"⟩
abbrev n14 : MethodName := ⟨"java/lang/AbstractStringBuilder", "append", "([CII)Ljava/lang/AbstractStringBuilder;"⟩
abbrev n15 : MethodName := ⟨"jdk/internal/util/Preconditions", "checkFromToIndex", "(IIILjava/util/function/BiFunction;)I"⟩
abbrev n16 : MethodName := ⟨"java/lang/AbstractStringBuilder", "ensureCapacityInternal", "(I)V"⟩
abbrev n17 : MethodName := ⟨"java/lang/AbstractStringBuilder", "appendChars", "([CII)V"⟩
abbrev n18 : MethodName := ⟨"java/lang/AbstractStringBuilder", "isLatin1", "()Z"⟩
abbrev n19 : MethodName := ⟨"java/lang/StringLatin1", "canEncode", "(C)Z"⟩
abbrev n20 : MethodName := ⟨"com/example/uzor/uzor/StringValues$Value", "get", "()Ljava/lang/String;"⟩
abbrev n21 : MethodName := ⟨"com/example/uzor/uzor/StringValues$Value", "end", "()V"⟩
abbrev n22 : MethodName := ⟨"java/lang/StringBuilder", "toString", "()Ljava/lang/String;"⟩
abbrev n23 : MethodName := ⟨"java/lang/String", "<init>", "(Ljava/lang/StringBuilder;)V"⟩
abbrev n24 : MethodName := ⟨"java/lang/String", "<init>", "(Ljava/lang/AbstractStringBuilder;Ljava/lang/Void;)V"⟩
abbrev n25 : MethodName := ⟨"java/lang/AbstractStringBuilder", "getValue", "()[B"⟩
abbrev n26 : MethodName := ⟨"java/util/Arrays", "copyOfRange", "([BII)[B"⟩
abbrev n27 : MethodName := ⟨"java/util/Arrays", "copyOfRangeByte", "([BII)[B"⟩
abbrev n28 : MethodName := ⟨"java/util/Arrays", "checkLength", "(II)V"⟩
abbrev n29 : MethodName := ⟨"java/lang/Math", "min", "(II)I"⟩
abbrev n30 : MethodName := ⟨"com/example/uzor/uzor/StringValuesEndElementPinLaw", "matches", "(Ljava/lang/String;[CI[CI)Z"⟩
abbrev n31 : MethodName := ⟨"java/lang/String", "length", "()I"⟩
abbrev n32 : MethodName := ⟨"java/lang/String", "coder", "()B"⟩
abbrev n33 : MethodName := ⟨"com/example/uzor/uzor/StringValuesEndElementPinLaw", "at", "(Ljava/lang/String;[CI[CII)Z"⟩
abbrev n34 : MethodName := ⟨"java/lang/String", "charAt", "(I)C"⟩
abbrev n35 : MethodName := ⟨"java/lang/String", "isLatin1", "()Z"⟩
abbrev n36 : MethodName := ⟨"java/lang/StringLatin1", "charAt", "([BI)C"⟩
abbrev n37 : MethodName := ⟨"java/lang/String", "checkIndex", "(II)V"⟩
abbrev n38 : MethodName := ⟨"jdk/internal/util/Preconditions", "checkIndex", "(IILjava/util/function/BiFunction;)I"⟩
abbrev n39 : MethodName := ⟨"com/example/uzor/uzor/StringValues", "leaveOutPast", "()V"⟩
abbrev n40 : MethodName := ⟨"java/util/Arrays", "fill", "([Ljava/lang/Object;IILjava/lang/Object;)V"⟩
abbrev n41 : MethodName := ⟨"java/util/Arrays", "rangeCheck", "(III)V"⟩
theorem W_ {a0 : Array Value} {Z : State} (hw : ∀ d ∈ tables_1, d.before a0 Z = true) (i : Nat) {d : Jvm.Cond} (h : tables_1[i]? = some d := by rfl) : d.before a0 Z = true := hw d (List.mem_of_getElem? h)
def own_ch (b : Int32) : Int32 := (b &&& 255).toUInt32.toUInt16.toUInt32.toInt32
theorem own_cc (x : Int32) : (x.toUInt32.toUInt16.toUInt32.toInt32).toUInt32.toUInt16.toUInt32.toInt32 = x.toUInt32.toUInt16.toUInt32.toInt32 := by
  rw [UInt32.toUInt32_toInt32, UInt16.toUInt16_toUInt32]
theorem own_chn (b : Int32) : nar .char ((b &&& 255).toUInt32.toUInt16.toUInt32.toInt32) = own_ch b := own_cc _
theorem own_chm (b : Int32) : nar .char (own_ch b) = own_ch b := own_cc _
def own_gt (xs : List Value) (i : Nat) : Int32 := match xs.getD i (.int (0 : Int32)) with | .int z => z | _ => 0
def own_b (z : Int32) : Value := .int (nar .byte (z.toInt8.toInt32))
def own_app (vs xs : List Value) (t : Nat) : Nat → List Value
  | 0 => vs
  | n + 1 => (own_app vs xs t n).set (t + n) (own_b (own_gt xs n))
theorem own_applen (vs xs : List Value) (t : Nat) : ∀ n, (own_app vs xs t n).length = vs.length
  | 0 => rfl
  | n + 1 => by rw [own_app, List.length_set]; exact own_applen vs xs t n
/-- a list of chars below 256 -/
def own_lat (xs : List Value) : Prop := ∀ i, ∃ z : Int32, xs.getD i (.int (0 : Int32)) = .int z ∧ 0 ≤ z.toInt ∧ z.toInt ≤ 255
theorem own_lg {xs : List Value} (h : own_lat xs) (i : Nat) : xs.getD i (.int (0 : Int32)) = .int (own_gt xs i) ∧ 0 ≤ (own_gt xs i).toInt ∧ (own_gt xs i).toInt ≤ 255 := by
  obtain ⟨z, e, r⟩ := h i
  unfold own_gt
  rw [e]
  exact ⟨rfl, r⟩
theorem own_le {xs : List Value} (h : own_lat xs) (i : Nat) : ¬ (255 : Int32) < own_gt xs i := by
  rw [Int32.lt_iff_toInt_lt]
  have := (own_lg h i).2
  show ¬ (255 : Int) < _
  omega
theorem own_p3 {x : Int32} (h : x = 0 ∨ x = 1 ∨ x = 2 ∨ x = 3) : ¬ x < 0 ∧ ¬ (3 : Int32) < x := by rcases h with rfl | rfl | rfl | rfl <;> decide
theorem own_pi {x : Int32} (h : x = 0 ∨ x = 1 ∨ x = 2 ∨ x = 3) : 0 ≤ x.toInt ∧ x.toInt ≤ 3 := by rcases h with rfl | rfl | rfl | rfl <;> decide
theorem own_s0 {x y : Int32} (h : y = x) : x - 0 = y := by rw [h, Int32.sub_zero]
theorem own_sh0 (x : Int32) : x >>> ((0 : Int32) &&& 31) = x := by
  rw [show (0 : Int32) &&& 31 = 0 by decide, Int32.shiftRight_zero]
theorem own_st (x : Int32) (b : Int) (h : 0 ≤ x.toInt ∧ x.toInt ≤ b) (hb : b ≤ 15) : (¬ x < 0 ∧ x < 16) ∧ (0 ≤ (x + 1).toInt ∧ (x + 1).toInt ≤ b + 1) ∧ (x + 1).toNatClampNeg = x.toNatClampNeg + 1 := by
  have e : (x + 1).toInt = x.toInt + 1 := Jvm.Kit.i32_add (q := 1) (by show _ ≤ x.toInt + 1; omega) (by show x.toInt + 1 < _; omega)
  refine ⟨?_, ?_, ?_⟩
  · rw [Int32.lt_iff_toInt_lt, Int32.lt_iff_toInt_lt]
    show ¬ x.toInt < (0 : Int) ∧ x.toInt < (16 : Int)
    omega
  · omega
  · show (x + 1).toInt.toNat = x.toInt.toNat + 1
    omega
theorem own_nat {x : Int32} {b : Nat} (h : 0 ≤ x.toInt ∧ x.toInt ≤ b) : x.toNatClampNeg ≤ b := by
  show x.toInt.toNat ≤ b
  omega
theorem own_add {x y : Int32} (hx : 0 ≤ x.toInt ∧ x.toInt ≤ 3) (hy : 0 ≤ y.toInt ∧ y.toInt ≤ 3) : (x + y).toInt = x.toInt + y.toInt := Jvm.Kit.i32_add (by omega) (by omega)
theorem own_cap {x y : Int32} (hx : 0 ≤ x.toInt ∧ x.toInt ≤ 3) (hy : 0 ≤ y.toInt ∧ y.toInt ≤ 3) : ¬ (0 : Int32) < (x + y) - 16 := by
  have e := own_add hx hy
  have e2 : ((x + y) - 16).toInt = (x + y).toInt - 16 := Jvm.Kit.i32_sub (q := 16) (by show _ ≤ _ - (16 : Int); omega) (by show _ - (16 : Int) < _; omega)
  rw [Int32.lt_iff_toInt_lt]
  show ¬ (0 : Int) < _
  omega
def own_cp (vs : List Value) (n : Nat) : List Value := (List.range n).map fun i => vs.getD ((0 : Int32).toNatClampNeg + i) (.int (0 : Int32))
theorem own_cpv (n : Nat) (us : List Value) (d : Value) : (List.replicate n d).take (0 : Int32).toNatClampNeg ++ us ++ (List.replicate n d).drop ((0 : Int32).toNatClampNeg + n) = us := by
  rw [show (0 : Int32).toNatClampNeg = 0 by decide]
  simp
theorem own_len6 {x : Int32} (h : 0 ≤ x.toInt ∧ x.toInt ≤ 6) : ¬ x < 0 ∧ ¬ x = 16 ∧ x < 16 ∧ (0 : Int32).toNatClampNeg + x.toNatClampNeg ≤ (16 : Int32).toNatClampNeg ∧ (0 : Int32).toNatClampNeg + x.toNatClampNeg ≤ x.toNatClampNeg ∧ x.toNatClampNeg ≤ 6 := by
  have h6 := own_nat (b := 6) h
  have z : (0 : Int32).toNatClampNeg = 0 := by decide
  have s : (16 : Int32).toNatClampNeg = 16 := by decide
  refine ⟨?_, ?_, ?_, by omega, by omega, h6⟩
  · rw [Int32.lt_iff_toInt_lt]; show ¬ _ < (0 : Int); omega
  · intro e; rw [e] at h; revert h; decide
  · rw [Int32.lt_iff_toInt_lt]; show _ < (16 : Int); omega
def own_ok (vs xs ys : List Value) (pa pb pm pj : Int32) : Prop := pj < pa + pb → (¬ pj < 0 ∧ pj < pm) ∧ vs.getD pj.toNatClampNeg (.int (0 : Int32)) = .int (own_gt vs pj.toNatClampNeg) ∧ (pj < pa → (¬ pj < 0 ∧ pj < 3) ∧ own_ch (own_gt vs pj.toNatClampNeg) = own_gt xs pj.toNatClampNeg) ∧ (¬ pj < pa → (¬ (pj - pa) < 0 ∧ (pj - pa) < 3) ∧ own_ch (own_gt vs pj.toNatClampNeg) = own_gt ys (pj - pa).toNatClampNeg)
theorem own_u16 (u : UInt16) : (u.toUInt32.toInt32).toInt = u.toNat := by
  have hu := u.toNat_lt
  have hc := BitVec.toInt_eq_toNat_cond u.toUInt32.toInt32.toBitVec
  have e : u.toUInt32.toInt32.toBitVec.toNat = u.toNat := by simp
  have ht : u.toUInt32.toInt32.toBitVec.toInt = u.toUInt32.toInt32.toInt := rfl
  rw [e, ht] at hc
  rw [hc, if_pos (by omega)]
theorem own_chv (b : Int32) : (own_ch b).toInt = b.toInt % 2 ^ 8 := by
  have h : (b &&& 255).toInt = b.toInt % 2 ^ 8 := Jvm.Kit.i32_mask b 255 (k := 8) (by decide) (by decide)
  have hc := BitVec.toInt_eq_toNat_cond (b &&& 255).toBitVec
  have hl := (b &&& 255).toBitVec.isLt
  have ht : (b &&& 255).toBitVec.toInt = (b &&& 255).toInt := rfl
  unfold own_ch
  rw [own_u16]
  have e : ((b &&& 255).toUInt32.toUInt16).toNat = (b &&& 255).toBitVec.toNat % 2 ^ 16 := by
    rw [UInt32.toNat_toUInt16]; rfl
  rw [e, ← h]
  rw [ht] at hc
  split at hc <;> omega
theorem own_chr (b : Int32) : 0 ≤ (own_ch b).toInt ∧ (own_ch b).toInt ≤ 255 := by rw [own_chv]; omega
theorem own_lat3 (x y z : Int32) : own_lat [.int (nar .char ((x &&& 255).toUInt32.toUInt16.toUInt32.toInt32)), .int (nar .char ((y &&& 255).toUInt32.toUInt16.toUInt32.toInt32)), .int (nar .char ((z &&& 255).toUInt32.toUInt16.toUInt32.toInt32))] := by
  rw [own_chn, own_chn, own_chn]
  intro i
  match i with
  | 0 => exact ⟨_, rfl, own_chr x⟩
  | 1 => exact ⟨_, rfl, own_chr y⟩
  | 2 => exact ⟨_, rfl, own_chr z⟩
  | n + 3 => exact ⟨0, rfl, by decide, by decide⟩
theorem own_cb {z : Int32} (h : 0 ≤ z.toInt ∧ z.toInt ≤ 255) : own_ch (nar .byte (z.toInt8.toInt32)) = z := by
  have e : nar .byte (z.toInt8.toInt32) = z.toInt8.toInt32 := by
    show (z.toInt8.toInt32).toInt8.toInt32 = z.toInt8.toInt32
    rw [Int8.toInt8_toInt32]
  rw [e]
  apply Int32.toInt_inj.mp
  rw [own_chv, Int8.toInt_toInt32, Int32.toInt_toInt8]
  have : z.toInt.bmod (2 ^ 8) % 2 ^ 8 = z.toInt % 2 ^ 8 := Int.bmod_emod
  rw [this]
  omega
theorem own_m3 (x : Int32) : (x &&& 3) = 0 ∨ (x &&& 3) = 1 ∨ (x &&& 3) = 2 ∨ (x &&& 3) = 3 := by
  have h : (x &&& 3).toInt = x.toInt % 2 ^ 2 := Jvm.Kit.i32_mask x 3 (k := 2) (by decide) (by decide)
  have back : ∀ k : Int32, (x &&& 3).toInt = k.toInt → (x &&& 3) = k := fun k e => Int32.toInt_inj.mp e
  have q : (x &&& 3).toInt = 0 ∨ (x &&& 3).toInt = 1 ∨ (x &&& 3).toInt = 2 ∨ (x &&& 3).toInt = 3 := by omega
  rcases q with q | q | q | q
  · exact Or.inl (back 0 q)
  · exact Or.inr (Or.inl (back 1 q))
  · exact Or.inr (Or.inr (Or.inl (back 2 q)))
  · exact Or.inr (Or.inr (Or.inr (back 3 q)))
theorem own_m7 (x : Int32) : 0 ≤ (x &&& 7).toInt ∧ (x &&& 7).toInt ≤ 7 := by
  have h : (x &&& 7).toInt = x.toInt % 2 ^ 3 := Jvm.Kit.i32_mask x 7 (k := 3) (by decide) (by decide)
  omega
theorem own_sb {x y : Int32} (hx : 0 ≤ x.toInt ∧ x.toInt ≤ 7) (hy : 0 ≤ y.toInt ∧ y.toInt ≤ 3) : (x - y).toInt = x.toInt - y.toInt := Jvm.Kit.i32_sub (by omega) (by omega)
theorem own_lim {x y : Int32} (hx : 0 ≤ x.toInt ∧ x.toInt ≤ 7) (hy : 0 ≤ y.toInt ∧ y.toInt ≤ 3) : (x - y) < 0 ↔ x < y := by
  rw [Int32.lt_iff_toInt_lt, Int32.lt_iff_toInt_lt, own_sb hx hy]
  show _ < (0 : Int) ↔ _
  omega
theorem own_lim2 {x y z : Int32} (hx : 0 ≤ x.toInt ∧ x.toInt ≤ 7) (hy : 0 ≤ y.toInt ∧ y.toInt ≤ 3) (hz : 0 ≤ z.toInt ∧ z.toInt ≤ 3) : (x - y) < z ↔ x < z + y := by
  rw [Int32.lt_iff_toInt_lt, Int32.lt_iff_toInt_lt, own_sb hx hy, own_add hz hy]
  omega
theorem own_lim3 {x y z : Int32} (hx : 0 ≤ x.toInt ∧ x.toInt ≤ 7) (hy : 0 ≤ y.toInt ∧ y.toInt ≤ 3) (hz : 0 ≤ z.toInt ∧ z.toInt ≤ 3) (h : (x - z) < 0) : x < z + y := by
  rw [own_lim hx hz, Int32.lt_iff_toInt_lt] at h
  rw [Int32.lt_iff_toInt_lt, own_add hz hy]
  omega
theorem own_6 {x : Int32} (h : 0 ≤ x.toInt ∧ x.toInt ≤ 3) : 0 ≤ x.toInt ∧ x.toInt ≤ 6 := by omega
theorem own_66 {x y : Int32} (hx : 0 ≤ x.toInt ∧ x.toInt ≤ 3) (hy : 0 ≤ y.toInt ∧ y.toInt ≤ 3) : 0 ≤ (x + y).toInt ∧ (x + y).toInt ≤ 6 := by rw [own_add hx hy]; omega
theorem own_appget (vs xs : List Value) (t i : Nat) (d : Value) : ∀ n, t + n ≤ vs.length → (own_app vs xs t n).getD i d = if t ≤ i ∧ i < t + n then own_b (own_gt xs (i - t)) else vs.getD i d
  | 0, _ => by rw [if_neg (by omega)]; rfl
  | n + 1, h => by
    have ih := own_appget vs xs t i d n (by omega)
    have hl := own_applen vs xs t n
    rw [own_app]
    simp only [List.getD_eq_getElem?_getD] at ih ⊢
    by_cases e : t + n = i
    · subst e
      rw [List.getElem?_set_self (by omega), if_pos (by omega), show t + n - t = n by omega]
      rfl
    · rw [List.getElem?_set_ne e, ih]
      by_cases q : t ≤ i ∧ i < t + n
      · rw [if_pos q, if_pos (by omega)]
      · rw [if_neg q, if_neg (by omega)]
theorem own_cpget (vs : List Value) (n i : Nat) (h : i < n) : (own_cp vs n).getD i (.int (0 : Int32)) = vs.getD i (.int (0 : Int32)) := by
  unfold own_cp
  rw [show (0 : Int32).toNatClampNeg = 0 by decide]
  simp [List.getD_eq_getElem?_getD, h]
theorem own_tn {x : Int32} (h : 0 ≤ x.toInt) : x.toInt = x.toNatClampNeg := by show x.toInt = (x.toInt.toNat : Int); omega
theorem own_okg {vs xs ys : List Value} {pa pb pm j : Int32} (ha : 0 ≤ pa.toInt ∧ pa.toInt ≤ 3) (hb : 0 ≤ pb.toInt ∧ pb.toInt ≤ 3) (hpm : pm = pa + pb) (hj : 0 ≤ j.toInt) (hj5 : j.toInt ≤ 5) (H1 : ∀ i, i < pa.toNatClampNeg → vs.getD i (.int (0 : Int32)) = own_b (own_gt xs i)) (H2 : ∀ i, i < pb.toNatClampNeg → vs.getD (pa.toNatClampNeg + i) (.int (0 : Int32)) = own_b (own_gt ys i)) (hx : own_lat xs) (hy : own_lat ys) : own_ok vs xs ys pa pb pm j := by
  intro h
  have ea := own_tn ha.1
  have eb := own_tn hb.1
  have ej := own_tn hj
  have hab := own_add ha hb
  have h' := h
  rw [Int32.lt_iff_toInt_lt, hab] at h'
  have hn : ¬ j < 0 := by rw [Int32.lt_iff_toInt_lt]; show ¬ _ < (0 : Int); omega
  refine ⟨⟨hn, by rw [hpm]; exact h⟩, ?_⟩
  by_cases q : j < pa
  · have q' := q
    rw [Int32.lt_iff_toInt_lt] at q'
    have e := H1 j.toNatClampNeg (by omega)
    have eg : own_gt vs j.toNatClampNeg = nar .byte ((own_gt xs j.toNatClampNeg).toInt8.toInt32) := by
      show (match vs.getD j.toNatClampNeg (.int (0 : Int32)) with | .int z => z | _ => 0) = _
      rw [e]; rfl
    refine ⟨by rw [e, eg]; rfl, fun _ => ⟨⟨hn, by rw [Int32.lt_iff_toInt_lt]; show _ < (3 : Int); omega⟩, by rw [eg]; exact own_cb (own_lg hx _).2⟩, fun z => absurd q z⟩
  · have q' := q
    rw [Int32.lt_iff_toInt_lt] at q'
    have es : (j - pa).toInt = j.toInt - pa.toInt := Jvm.Kit.i32_sub (by omega) (by omega)
    have en : (j - pa).toNatClampNeg = j.toNatClampNeg - pa.toNatClampNeg := by
      show (j - pa).toInt.toNat = j.toInt.toNat - pa.toInt.toNat
      omega
    have e := H2 (j - pa).toNatClampNeg (by omega)
    rw [show pa.toNatClampNeg + (j - pa).toNatClampNeg = j.toNatClampNeg by omega] at e
    have eg : own_gt vs j.toNatClampNeg = nar .byte ((own_gt ys (j - pa).toNatClampNeg).toInt8.toInt32) := by
      show (match vs.getD j.toNatClampNeg (.int (0 : Int32)) with | .int z => z | _ => 0) = _
      rw [e]; rfl
    refine ⟨by rw [e, eg]; rfl, fun z => absurd z q, fun _ => ⟨⟨by rw [Int32.lt_iff_toInt_lt, es]; show ¬ _ < (0 : Int); omega, by rw [Int32.lt_iff_toInt_lt, es]; show _ < (3 : Int); omega⟩, by rw [eg]; exact own_cb (own_lg hy _).2⟩⟩
/-- the inner value's text -/
theorem own_oki {vs xs ys : List Value} {b j : Int32} (hb : 0 ≤ b.toInt ∧ b.toInt ≤ 3) (hl : vs.length = 16) (hx : own_lat xs) (hy : own_lat ys) (hj : 0 ≤ j.toInt) (hj5 : j.toInt ≤ 5) : own_ok (own_cp (own_app vs ys (0 : Int32).toNatClampNeg b.toNatClampNeg) b.toNatClampNeg) ys xs b 0 b j := by
  have hn := own_nat (b := 3) hb
  have z0 : (0 : Int32).toNatClampNeg = 0 := by decide
  refine own_okg hb (by decide) (Int32.add_zero b).symm hj hj5 (fun i hi => ?_) (fun i hi => ?_) hy hx
  · rw [own_cpget _ _ _ hi, own_appget _ _ _ _ _ _ (by omega), z0, if_pos (by omega), Nat.sub_zero]
  · exact absurd hi (by rw [z0]; omega)
/-- the outer value's text -/
theorem own_oko {vs xs ys : List Value} {a b j : Int32} (ha : 0 ≤ a.toInt ∧ a.toInt ≤ 3) (hb : 0 ≤ b.toInt ∧ b.toInt ≤ 3) (hl : vs.length = 16) (hx : own_lat xs) (hy : own_lat ys) (hj : 0 ≤ j.toInt) (hj5 : j.toInt ≤ 5) : own_ok (own_cp (own_app (own_app vs xs (0 : Int32).toNatClampNeg a.toNatClampNeg) ys a.toNatClampNeg b.toNatClampNeg) (a + b).toNatClampNeg) xs ys a b (a + b) j := by
  have hna := own_nat (b := 3) ha
  have hnb := own_nat (b := 3) hb
  have z0 : (0 : Int32).toNatClampNeg = 0 := by decide
  have hs : (a + b).toNatClampNeg = a.toNatClampNeg + b.toNatClampNeg := by
    show (a + b).toInt.toNat = a.toInt.toNat + b.toInt.toNat
    rw [own_add ha hb]; omega
  have hl2 := own_applen vs xs 0 a.toNatClampNeg
  rw [z0]
  refine own_okg ha hb rfl hj hj5 (fun i hi => ?_) (fun i hi => ?_) hx hy
  · rw [own_cpget _ _ _ (by omega), own_appget _ _ _ _ _ _ (by omega), if_neg (by omega), own_appget _ _ _ _ _ _ (by omega), if_pos (by omega), Nat.sub_zero]
  · rw [own_cpget _ _ _ (by omega), own_appget _ _ _ _ _ _ (by omega), if_pos (by omega), Nat.add_sub_cancel_left]

theorem pn_9 : plainName "java/lang/AbstractStringBuilder" = true := by first | (simp [plainName, overriddenIn]; done) | decide +kernel
theorem d9_0 : decode jdk_68_method_2_code 0 = .ok (.aload_n 0, 1) := by decide +kernel
theorem d9_1 : decode jdk_68_method_2_code 1 = .ok (.invokespecial 3, 3) := by decide +kernel
theorem d9_4 : decode jdk_68_method_2_code 4 = .ok (.getstatic 18, 3) := by decide +kernel
theorem d9_7 : decode jdk_68_method_2_code 7 = .ok (.ifCond .eq 18, 3) := by decide +kernel
theorem d9_10 : decode jdk_68_method_2_code 10 = .ok (.aload_n 0, 1) := by decide +kernel
theorem d9_11 : decode jdk_68_method_2_code 11 = .ok (.iload_n 1, 1) := by decide +kernel
theorem d9_12 : decode jdk_68_method_2_code 12 = .ok (.newarray .byte, 2) := by decide +kernel
theorem d9_14 : decode jdk_68_method_2_code 14 = .ok (.putfield 15, 3) := by decide +kernel
theorem d9_17 : decode jdk_68_method_2_code 17 = .ok (.aload_n 0, 1) := by decide +kernel
theorem d9_18 : decode jdk_68_method_2_code 18 = .ok (.iconst 0, 1) := by decide +kernel
theorem d9_19 : decode jdk_68_method_2_code 19 = .ok (.putfield 22, 3) := by decide +kernel
theorem d9_22 : decode jdk_68_method_2_code 22 = .ok (.goto 16, 3) := by decide +kernel
theorem d9_38 : decode jdk_68_method_2_code 38 = .ok (.return_, 1) := by decide +kernel
theorem ef_rmabi (m : MethodId) (x0 : Addr) : entryFrame m #[(.ref x0), (.int (16 : Int32))] 2 = mkF m 0 #[.val (.ref x0), .val (.int (16 : Int32))] [] := by first | (simp [entryFrame, mkF, argsToLocals, Value.category]; done) | rfl
abbrev R_rmabi : Room := ({ frames := 1, cells := 1, slots := 16, locals := 12 } : Room)
def Qabi (Z : State) (a1 : Addr) (wc : Int32) (h0 : Heap) (n0 : Nat) (v : Option Value) (h : Heap) (L : List Loc) : Prop := ∃ ab : Addr, ∃ kb : ClassId, v = none ∧ h0.size ≤ ab ∧ Fr n0 L ∧ Keep h0 h [a1] ∧ Fld Z h a1 q3 "value" "[B" (.ref ab) ∧ Fld Z h a1 q3 "coder" "B" (.int 0) ∧ Fld Z h a1 q3 "count" "I" (.int 0) ∧ Arv Z h ab kb .byte (16 : Int32) [(.int 0), (.int 0), (.int 0), (.int 0), (.int 0), (.int 0), (.int 0), (.int 0), (.int 0), (.int 0), (.int 0), (.int 0), (.int 0), (.int 0), (.int 0), (.int 0)] (.int 0) ∧ a1 ≠ ab
set_option maxRecDepth 65536 in
set_option maxHeartbeats 40000000 in
theorem rmabi (l : Launch) (Z : State) (a0 : Array Value) (hw : ∀ d ∈ tables_1, d.before a0 Z = true) (ws : List Jvm.Cond) (a1 : Addr) (wc : Int32) (h0 : Heap) (n0 : Nat) (Z0 : n0 ≤ h0.size) (HE_a1 : Exa Z h0 a1 q2) (HF_a1_value : Fld Z h0 a1 q3 "value" "[B" .null) (HF_a1_coder : Fld Z h0 a1 q3 "coder" "B" (.int 0)) (HF_a1_count : Fld Z h0 a1 q3 "count" "I" (.int 0)) (HS_java_lang_String_COMPACT_STRINGS : Sta Z h0 q4 q10 "Z" (.int wc)) (g_a1 : n0 ≤ a1) (hwc : ¬ wc = 0) :
    Met1 l n9 jdk_68_method_2_code 2 none ws R_rmabi #[(.ref a1), (.int 16)] Z h0 (Qabi Z a1 wc h0 n0) := by
  refine Met1.enter (plainFor_of_name pn_9) (fun m => ef_rmabi m a1) fun p e s m below meth c s₁ hx hby hlk hret hml hown hnm hZ X0 e0 => ?_
  have N0 := Fr.nil n0
  have K0 := Keep.refl h0 [a1]
  show Fin p e below s _ _ _ (s₁.setTop (mkF m 0 #[rv a1, iv 16] []))
  refine Fin.step (fun _ k => Yo.aloadN X0.here hx (hb hby d9_0) rfl rfl k) ?_
  obtain ⟨Ty1, Xy1, ey1, sty1⟩ := initO X0 hx hZ hown (W_ hw 56) (W_ hw 8) (W_ hw 9) e0 (g := (mkF m 1 #[rv a1, iv 16] [(.ref a1)])) rfl (by rw [hml]; rfl) rfl (hb hby d9_1) (by decide) (W := 0) (by show 2 * 0 + _ ≤ _; exact Nat.le_of_eq rfl) (by decide)
  refine Fin.step (sty1) ?_
  show Fin p e below s _ _ _ (Ty1.setTop (mkF m 4 #[rv a1, iv 16] []))
  obtain ⟨Ty2, Xy2, ey2, sty2⟩ := getS2 Xy1 hx hZ hown (host := "") (Or.inl (W_ hw 57)) Via.refl ey1 HS_java_lang_String_COMPACT_STRINGS (g := (mkF m 4 #[rv a1, iv 16] [])) rfl (hb hby d9_4)
  refine Fin.step (sty2) ?_
  show Fin p e below s _ _ _ (Ty2.setTop (mkF m 7 #[rv a1, iv 16] [(.int wc)]))
  refine Fin.step (fun _ k => Yo.ifNo Xy2.here hx (hb hby d9_7) rfl ((if0 _ _).trans (feq (hwc : ¬ (wc = (0 : Int32)))).1) (Yo.aloadN Xy2.here hx (hb hby d9_10) rfl rfl (Yo.iloadN Xy2.here hx (hb hby d9_11) rfl k))) ?_
  obtain ⟨Ty3, hy3, ky3, Xy3, ey3, Ey3, Ay3, sty3⟩ := newP Xy2 hx hZ (W_ hw 59) ey2 (g := (mkF m 12 #[rv a1, iv 16] [(.int 16), (.ref a1)])) rfl (hb hby d9_12) rfl (by decide) (cap := 16) (by decide) (by decide) (by decide) (by decide)
  obtain ⟨by3, gy3⟩ : ∃ z, z = h0.size := ⟨_, rfl⟩
  rw [← gy3] at Ay3 sty3
  have gzy3 : n0 ≤ by3 := Nat.le_trans Z0 (Nat.le_of_eq gy3.symm)
  have szy3 : h0.size ≤ by3 := Nat.le_trans K0.1 (Nat.le_of_eq gy3.symm)
  have Zy3 := Nat.le_trans Z0 Ey3.1
  have Ky3 := K0.ext Ey3
  have Vy3 : Arv Z hy3 by3 ky3 .byte (16 : Int32) [(.int 0), (.int 0), (.int 0), (.int 0), (.int 0), (.int 0), (.int 0), (.int 0), (.int 0), (.int 0), (.int 0), (.int 0), (.int 0), (.int 0), (.int 0), (.int 0)] (.int 0) := (Arv.new Ay3 (by decide)).pad (pad_rep [] (.int 0) 16)
  refine Fin.step (sty3) ?_
  show Fin p e below s _ _ _ (Ty3.setTop (mkF m 14 #[rv a1, iv 16] [(.ref by3), (.ref a1)]))
  obtain ⟨Ty4, hy4, Xy4, ey4, Wy4, sty4⟩ := putF Xy3 hx hZ hown (host := "") (Or.inl (W_ hw 60)) Via.refl ey3 (HF_a1_value.ext Ey3) (HE_a1.ext Ey3) (Or.inl (W_ hw 61)) (W_ hw 45) (ty := (.array .byte)) (by decide) rfl rfl (g := (mkF m 14 #[rv a1, iv 16] [(.ref by3), (.ref a1)])) rfl rfl (hb hby d9_14)
  have Fwy4 : Fld Z hy4 a1 q3 "value" "[B" (.ref by3) := (HF_a1_value.ext Ey3).same Wy4
  have Zy4 : n0 ≤ hy4.size := Nat.le_trans Zy3 (Keep.of_wr Wy4).1
  have Ky4 : Keep h0 hy4 [a1] := Ky3.wr Wy4 m0
  have Ny4 := Fr.snoc Xy4 N0 g_a1
  refine Fin.step (sty4) ?_
  show Fin p e below s _ _ _ (Ty4.setTop (mkF m 17 #[rv a1, iv 16] []))
  refine Fin.step (fun _ k => Yo.aloadN Xy4.here hx (hb hby d9_17) rfl rfl (Yo.iconst Xy4.here hx (hb hby d9_18) k)) ?_
  obtain ⟨Ty5, hy5, Xy5, ey5, Wy5, sty5⟩ := putFN Xy4 hx hZ hown (W_ hw 62) Via.refl ey4 ((HF_a1_coder.ext Ey3).other Wy4 (Or.inr (slot_ne (Or.inl (W_ hw 63)) (Or.inl (W_ hw 61)) (by decide) (t := .byte) (t' := (.array .byte)) (by decide) (by decide)))) ((HE_a1.ext Ey3).wr Wy4) (Or.inl (W_ hw 63)) (W_ hw 45) (ty := .byte) (v' := (.int 0)) (by decide) rfl rfl (g := (mkF m 19 #[rv a1, iv 16] [(.int 0), (.ref a1)])) rfl rfl (hb hby d9_19)
  have Fwy5 : Fld Z hy5 a1 q3 "coder" "B" (.int 0) := ((HF_a1_coder.ext Ey3).other Wy4 (Or.inr (slot_ne (Or.inl (W_ hw 63)) (Or.inl (W_ hw 61)) (by decide) (t := .byte) (t' := (.array .byte)) (by decide) (by decide)))).same Wy5
  have Zy5 : n0 ≤ hy5.size := Nat.le_trans Zy4 (Keep.of_wr Wy5).1
  have Ky5 : Keep h0 hy5 [a1] := Ky4.wr Wy5 m0
  have Ny5 := Fr.snoc Xy5 Ny4 g_a1
  refine Fin.step (sty5) ?_
  show Fin p e below s _ _ _ (Ty5.setTop (mkF m 22 #[rv a1, iv 16] []))
  refine Fin.step (fun _ k => Yo.goto Xy5.here hx (pc0 := 22) (pc' := 38) rfl (hb hby d9_22) (by decide) (by decide) k) ?_
  refine Fin.retV Xy5 hx hret hlk (hb hby d9_38) (by decide) (by decide) ?_
  show Qabi Z a1 wc h0 n0 _ Ty5.heap _
  rw [ey5]
  have ney6 := nlt HE_a1.lt (Nat.le_of_eq gy3.symm)
  exact ⟨by3, ky3, rfl, szy3, Ny5, Ky5, (Fwy4.other Wy5 (Or.inr (slot_ne (Or.inl (W_ hw 61)) (Or.inl (W_ hw 63)) (by decide) (t := (.array .byte)) (t' := .byte) (by decide) (by decide)))), Fwy5, (((HF_a1_count.ext Ey3).other Wy4 (Or.inr (slot_ne (Or.inl (W_ hw 86)) (Or.inl (W_ hw 61)) (by decide) (t := .int) (t' := (.array .byte)) (by decide) (by decide)))).other Wy5 (Or.inr (slot_ne (Or.inl (W_ hw 86)) (Or.inl (W_ hw 63)) (by decide) (t := .int) (t' := .byte) (by decide) (by decide)))), ((Vy3.other Wy4 (Ne.symm ney6)).other Wy5 (Ne.symm ney6)), ney6⟩
theorem pn_8 : plainName "java/lang/StringBuilder" = true := by first | (simp [plainName, overriddenIn]; done) | decide +kernel
theorem d8_0 : decode jdk_67_method_1_code 0 = .ok (.aload_n 0, 1) := by decide +kernel
theorem d8_1 : decode jdk_67_method_1_code 1 = .ok (.bipush 16, 2) := by decide +kernel
theorem d8_3 : decode jdk_67_method_1_code 3 = .ok (.invokespecial 1, 3) := by decide +kernel
theorem pd_0 : parseMethodDescriptor "(I)V" = some ⟨[.int], none⟩ := by decide +kernel
theorem d8_6 : decode jdk_67_method_1_code 6 = .ok (.return_, 1) := by decide +kernel
theorem ef_rmsbi (m : MethodId) (x0 : Addr) : entryFrame m #[(.ref x0)] 1 = mkF m 0 #[.val (.ref x0)] [] := by first | (simp [entryFrame, mkF, argsToLocals, Value.category]; done) | rfl
abbrev R_rmsbi : Room := ({ frames := 2, cells := 1, slots := 16, locals := 25 } : Room)
def Qsbi (Z : State) (a1 : Addr) (wc : Int32) (h0 : Heap) (n0 : Nat) (v : Option Value) (h : Heap) (L : List Loc) : Prop := ∃ ab : Addr, ∃ kb : ClassId, v = none ∧ h0.size ≤ ab ∧ Fr n0 L ∧ Keep h0 h [a1] ∧ Fld Z h a1 q3 "value" "[B" (.ref ab) ∧ Fld Z h a1 q3 "coder" "B" (.int 0) ∧ Fld Z h a1 q3 "count" "I" (.int 0) ∧ Arv Z h ab kb .byte (16 : Int32) [(.int 0), (.int 0), (.int 0), (.int 0), (.int 0), (.int 0), (.int 0), (.int 0), (.int 0), (.int 0), (.int 0), (.int 0), (.int 0), (.int 0), (.int 0), (.int 0)] (.int 0) ∧ a1 ≠ ab
set_option maxRecDepth 65536 in
set_option maxHeartbeats 40000000 in
theorem rmsbi (l : Launch) (Z : State) (a0 : Array Value) (hw : ∀ d ∈ tables_1, d.before a0 Z = true) (ws : List Jvm.Cond) (a1 : Addr) (wc : Int32) (h0 : Heap) (n0 : Nat) (Z0 : n0 ≤ h0.size) (HE_a1 : Exa Z h0 a1 q2) (HF_a1_value : Fld Z h0 a1 q3 "value" "[B" .null) (HF_a1_coder : Fld Z h0 a1 q3 "coder" "B" (.int 0)) (HF_a1_count : Fld Z h0 a1 q3 "count" "I" (.int 0)) (HS_java_lang_String_COMPACT_STRINGS : Sta Z h0 q4 q10 "Z" (.int wc)) (g_a1 : n0 ≤ a1) (hwc : ¬ wc = 0) :
    Met1 l n8 jdk_67_method_1_code 1 none ws R_rmsbi #[(.ref a1)] Z h0 (Qsbi Z a1 wc h0 n0) := by
  refine Met1.enter (plainFor_of_name pn_8) (fun m => ef_rmsbi m a1) fun p e s m below meth c s₁ hx hby hlk hret hml hown hnm hZ X0 e0 => ?_
  have N0 := Fr.nil n0
  have K0 := Keep.refl h0 [a1]
  show Fin p e below s _ _ _ (s₁.setTop (mkF m 0 #[rv a1] []))
  refine Fin.step (fun _ k => Yo.aloadN X0.here hx (hb hby d8_0) rfl rfl (Yo.bipush X0.here hx (hb hby d8_1) k)) ?_
  obtain ⟨_, Ty1, Lcy1, Xy1, hQy1, sty1⟩ := pack (X0.specialBack hx (y := n9) rfl hown (mvT hZ (W_ hw 50)) (mvT hZ (W_ hw 51)) (mvT hZ (W_ hw 55)) (by decide) (backOf (W := 0) (rmabi l Z a0 hw [] a1 wc h0 n0 Z0 HE_a1 HF_a1_value HF_a1_coder HF_a1_count HS_java_lang_String_COMPACT_STRINGS g_a1 hwc) hZ (W_ hw 55) (W_ hw 54) (by decide) (by decide)) (g := (mkF m 3 #[rv a1] [(.int 16), (.ref a1)])) rfl (by rw [hml]; rfl) (Steps.refl _) (a := a1) (argsL := [(.int 16)]) (rest := []) (lenOf pd_0 rfl) rfl (lb rfl) (hb hby d8_3) (fun _ _ => ⟨rfl, e0, (by decide : 0 + 1 ≤ _), (by decide : 0 + 16 ≤ _)⟩))
  obtain ⟨ab_y1, kb_y1, rfl, bfy1_0, Nqy1, Kcy1, fy1_0, fy1_1, fy1_2, fy1_3, ney1_0⟩ := hQy1
  have Ny1 := Fr.app N0 Nqy1
  have gzy1_0 : n0 ≤ ab_y1 := Nat.le_trans Z0 bfy1_0
  have szy1_0 : h0.size ≤ ab_y1 := Nat.le_trans K0.1 bfy1_0
  have Zy1 := Nat.le_trans Z0 Kcy1.1
  have Ky1 := K0.trans Kcy1 (allS m0 all0)
  refine Fin.step (sty1) ?_
  show Fin p e below s _ _ _ (Ty1.setTop (mkF m 6 #[rv a1] []))
  refine Fin.retV Xy1 hx hret hlk (hb hby d8_6) (by decide) (by decide) ?_
  show Qsbi Z a1 wc h0 n0 _ Ty1.heap _
  exact ⟨ab_y1, kb_y1, rfl, szy1_0, Ny1, Ky1, fy1_0, fy1_1, fy1_2, fy1_3, ney1_0⟩
theorem pn_12 : plainName "java/lang/AbstractStringBuilder" = true := by first | (simp [plainName, overriddenIn]; done) | decide +kernel
theorem d12_0 : decode jdk_68_method_6_code 0 = .ok (.aload_n 0, 1) := by decide +kernel
theorem d12_1 : decode jdk_68_method_6_code 1 = .ok (.getfield 79, 3) := by decide +kernel
theorem d12_4 : decode jdk_68_method_6_code 4 = .ok (.ireturn, 1) := by decide +kernel
theorem ef_rmabl (m : MethodId) (x0 : Addr) : entryFrame m #[(.ref x0)] 1 = mkF m 0 #[.val (.ref x0)] [] := by first | (simp [entryFrame, mkF, argsToLocals, Value.category]; done) | rfl
abbrev R_rmabl : Room := ({ frames := 0, cells := 0, slots := 0, locals := 0 } : Room)
def Qabl (Z : State) (a1 : Addr) (tn : Int32) (h0 : Heap) (n0 : Nat) (v : Option Value) (h : Heap) (L : List Loc) : Prop := v = some (.int tn) ∧ Fr n0 L ∧ h = h0
set_option maxRecDepth 65536 in
set_option maxHeartbeats 40000000 in
theorem rmabl (l : Launch) (Z : State) (a0 : Array Value) (hw : ∀ d ∈ tables_1, d.before a0 Z = true) (ws : List Jvm.Cond) (a1 : Addr) (tn : Int32) (h0 : Heap) (n0 : Nat) (Z0 : n0 ≤ h0.size) (HF_a1_count : Fld Z h0 a1 q3 "count" "I" (.int tn)) :
    Met1 l n12 jdk_68_method_6_code 1 (some .int) ws R_rmabl #[(.ref a1)] Z h0 (Qabl Z a1 tn h0 n0) := by
  refine Met1.enter (plainFor_of_name pn_12) (fun m => ef_rmabl m a1) fun p e s m below meth c s₁ hx hby hlk hret hml hown hnm hZ X0 e0 => ?_
  have N0 := Fr.nil n0
  have K0 : Keep h0 h0 [] := Keep.refl h0 _
  show Fin p e below s _ _ _ (s₁.setTop (mkF m 0 #[rv a1] []))
  refine Fin.step (fun _ k => Yo.aloadN X0.here hx (hb hby d12_0) rfl rfl k) ?_
  refine fget X0 hx hZ hown (W_ hw 85) e0 HF_a1_count (hb hby d12_1) fun Ty1 Xy1 ey1 => ?_
  refine Fin.retI Xy1 hx hret hlk (hb hby d12_4) (by decide) (by decide) ?_
  show Qabl Z a1 tn h0 n0 _ Ty1.heap _
  rw [ey1]
  exact ⟨rfl, N0, rfl⟩
theorem pn_11 : plainName "java/lang/StringBuilder" = true := by first | (simp [plainName, overriddenIn]; done) | decide +kernel
theorem d11_0 : decode jdk_67_method_93_code 0 = .ok (.aload_n 0, 1) := by decide +kernel
theorem d11_1 : decode jdk_67_method_93_code 1 = .ok (.invokespecial 343, 3) := by decide +kernel
theorem pd_1 : parseMethodDescriptor "()I" = some ⟨[], some .int⟩ := by decide +kernel
theorem d11_4 : decode jdk_67_method_93_code 4 = .ok (.ireturn, 1) := by decide +kernel
theorem ef_rmsbl (m : MethodId) (x0 : Addr) : entryFrame m #[(.ref x0)] 1 = mkF m 0 #[.val (.ref x0)] [] := by first | (simp [entryFrame, mkF, argsToLocals, Value.category]; done) | rfl
abbrev R_rmsbl : Room := ({ frames := 1, cells := 0, slots := 0, locals := 12 } : Room)
def Qsbl (Z : State) (a1 : Addr) (tn : Int32) (h0 : Heap) (n0 : Nat) (v : Option Value) (h : Heap) (L : List Loc) : Prop := v = some (.int tn) ∧ Fr n0 L ∧ h = h0
set_option maxRecDepth 65536 in
set_option maxHeartbeats 40000000 in
theorem rmsbl (l : Launch) (Z : State) (a0 : Array Value) (hw : ∀ d ∈ tables_1, d.before a0 Z = true) (ws : List Jvm.Cond) (a1 : Addr) (tn : Int32) (h0 : Heap) (n0 : Nat) (Z0 : n0 ≤ h0.size) (HE_a1 : Exa Z h0 a1 q2) (HF_a1_count : Fld Z h0 a1 q3 "count" "I" (.int tn)) :
    Met1 l n11 jdk_67_method_93_code 1 (some .int) ws R_rmsbl #[(.ref a1)] Z h0 (Qsbl Z a1 tn h0 n0) := by
  refine Met1.enter (plainFor_of_name pn_11) (fun m => ef_rmsbl m a1) fun p e s m below meth c s₁ hx hby hlk hret hml hown hnm hZ X0 e0 => ?_
  have N0 := Fr.nil n0
  have K0 : Keep h0 h0 [] := Keep.refl h0 _
  show Fin p e below s _ _ _ (s₁.setTop (mkF m 0 #[rv a1] []))
  refine Fin.step (fun _ k => Yo.aloadN X0.here hx (hb hby d11_0) rfl rfl k) ?_
  obtain ⟨_, Ty1, Lcy1, Xy1, hQy1, sty1⟩ := pack (superBack X0 hx hZ (y := n12) hown (W_ hw 80) (same_of (show NI Z "java/lang/AbstractStringBuilder" from NI.sel (y := n16) (W_ hw 105)) (W_ hw 81) (by decide)) (W_ hw 81) (W_ hw 82) (by decide) (backOf (W := 0) (rmabl l Z a0 hw [] a1 tn h0 n0 Z0 HF_a1_count) hZ (W_ hw 84) (W_ hw 54) (by decide) (by decide)) e0 (Ins.self HE_a1) (g := (mkF m 1 #[rv a1] [(.ref a1)])) rfl (by rw [hml]; rfl) (W_ hw 84) (argsL := []) (rest := []) (lenOf pd_1 rfl) rfl (lb rfl) (hb hby d11_1) (fun _ _ => ⟨rfl, e0, (by decide : 0 + 0 ≤ _), (by decide : 0 + 0 ≤ _)⟩))
  obtain ⟨rfl, Nqy1, eqy1⟩ := hQy1
  have Ny1 := Fr.app N0 Nqy1
  refine Fin.step (sty1) ?_
  show Fin p e below s _ _ _ (Ty1.setTop (mkF m 4 #[rv a1] [(.int tn)]))
  refine Fin.retI Xy1 hx hret hlk (hb hby d11_4) (by decide) (by decide) ?_
  show Qsbl Z a1 tn h0 n0 _ Ty1.heap _
  rw [eqy1]
  exact ⟨rfl, Ny1, rfl⟩
theorem pn_18 : plainName "java/lang/AbstractStringBuilder" = true := by first | (simp [plainName, overriddenIn]; done) | decide +kernel
theorem d18_0 : decode jdk_68_method_68_code 0 = .ok (.getstatic 18, 3) := by decide +kernel
theorem d18_3 : decode jdk_68_method_68_code 3 = .ok (.ifCond .eq 14, 3) := by decide +kernel
theorem d18_6 : decode jdk_68_method_68_code 6 = .ok (.aload_n 0, 1) := by decide +kernel
theorem d18_7 : decode jdk_68_method_68_code 7 = .ok (.getfield 22, 3) := by decide +kernel
theorem d18_10 : decode jdk_68_method_68_code 10 = .ok (.ifCond .ne 7, 3) := by decide +kernel
theorem d18_13 : decode jdk_68_method_68_code 13 = .ok (.iconst 1, 1) := by decide +kernel
theorem d18_14 : decode jdk_68_method_68_code 14 = .ok (.goto 4, 3) := by decide +kernel
theorem d18_18 : decode jdk_68_method_68_code 18 = .ok (.ireturn, 1) := by decide +kernel
theorem ef_rmab1 (m : MethodId) (x0 : Addr) : entryFrame m #[(.ref x0)] 1 = mkF m 0 #[.val (.ref x0)] [] := by first | (simp [entryFrame, mkF, argsToLocals, Value.category]; done) | rfl
abbrev R_rmab1 : Room := ({ frames := 0, cells := 0, slots := 0, locals := 0 } : Room)
def Qab1 (Z : State) (a1 : Addr) (wc : Int32) (h0 : Heap) (n0 : Nat) (v : Option Value) (h : Heap) (L : List Loc) : Prop := v = some (.int 1) ∧ Fr n0 L ∧ h = h0
set_option maxRecDepth 65536 in
set_option maxHeartbeats 40000000 in
theorem rmab1 (l : Launch) (Z : State) (a0 : Array Value) (hw : ∀ d ∈ tables_1, d.before a0 Z = true) (ws : List Jvm.Cond) (a1 : Addr) (wc : Int32) (h0 : Heap) (n0 : Nat) (Z0 : n0 ≤ h0.size) (HS_java_lang_String_COMPACT_STRINGS : Sta Z h0 q4 q10 "Z" (.int wc)) (HF_a1_coder : Fld Z h0 a1 q3 "coder" "B" (.int 0)) (hwc : ¬ wc = 0) :
    Met1 l n18 jdk_68_method_68_code 1 (some .boolean) ws R_rmab1 #[(.ref a1)] Z h0 (Qab1 Z a1 wc h0 n0) := by
  refine Met1.enter (plainFor_of_name pn_18) (fun m => ef_rmab1 m a1) fun p e s m below meth c s₁ hx hby hlk hret hml hown hnm hZ X0 e0 => ?_
  have N0 := Fr.nil n0
  have K0 : Keep h0 h0 [] := Keep.refl h0 _
  show Fin p e below s _ _ _ (s₁.setTop (mkF m 0 #[rv a1] []))
  obtain ⟨Ty1, Xy1, ey1, sty1⟩ := getS2 X0 hx hZ hown (host := "") (Or.inl (W_ hw 57)) Via.refl e0 HS_java_lang_String_COMPACT_STRINGS (g := (mkF m 0 #[rv a1] [])) rfl (hb hby d18_0)
  refine Fin.step (sty1) ?_
  show Fin p e below s _ _ _ (Ty1.setTop (mkF m 3 #[rv a1] [(.int wc)]))
  refine Fin.step (fun _ k => Yo.ifNo Xy1.here hx (hb hby d18_3) rfl ((if0 _ _).trans (feq (hwc : ¬ (wc = (0 : Int32)))).1) (Yo.aloadN Xy1.here hx (hb hby d18_6) rfl rfl k)) ?_
  refine fget Xy1 hx hZ hown (W_ hw 62) ey1 HF_a1_coder (hb hby d18_7) fun Ty2 Xy2 ey2 => ?_
  refine Fin.step (fun _ k => Yo.ifNo Xy2.here hx (hb hby d18_10) rfl ((if0 _ _).trans (teq ((by decide) : ((0 : Int32) = (0 : Int32)))).2) (Yo.iconst Xy2.here hx (hb hby d18_13) (Yo.goto Xy2.here hx (pc0 := 14) (pc' := 18) rfl (hb hby d18_14) (by decide) (by decide) k))) ?_
  refine Fin.retN Xy2 hx (t := .boolean) hret (by simp) hlk (hb hby d18_18) (by decide) (by decide) ?_
  show Qab1 Z a1 wc h0 n0 _ Ty2.heap _
  rw [ey2]
  exact ⟨rfl, N0, rfl⟩
theorem pn_25 : plainName "java/lang/AbstractStringBuilder" = true := by first | (simp [plainName, overriddenIn]; done) | decide +kernel
theorem d25_0 : decode jdk_68_method_64_code 0 = .ok (.aload_n 0, 1) := by decide +kernel
theorem d25_1 : decode jdk_68_method_64_code 1 = .ok (.getfield 15, 3) := by decide +kernel
theorem d25_4 : decode jdk_68_method_64_code 4 = .ok (.areturn, 1) := by decide +kernel
theorem ef_rmabg (m : MethodId) (x0 : Addr) : entryFrame m #[(.ref x0)] 1 = mkF m 0 #[.val (.ref x0)] [] := by first | (simp [entryFrame, mkF, argsToLocals, Value.category]; done) | rfl
abbrev R_rmabg : Room := ({ frames := 0, cells := 0, slots := 0, locals := 0 } : Room)
def Qabg (Z : State) (a1 ab : Addr) (h0 : Heap) (n0 : Nat) (v : Option Value) (h : Heap) (L : List Loc) : Prop := v = some (.ref ab) ∧ Fr n0 L ∧ h = h0
set_option maxRecDepth 65536 in
set_option maxHeartbeats 40000000 in
theorem rmabg (l : Launch) (Z : State) (a0 : Array Value) (hw : ∀ d ∈ tables_1, d.before a0 Z = true) (ws : List Jvm.Cond) (a1 ab : Addr) (h0 : Heap) (n0 : Nat) (Z0 : n0 ≤ h0.size) (HF_a1_value : Fld Z h0 a1 q3 "value" "[B" (.ref ab)) :
    Met1 l n25 jdk_68_method_64_code 1 (some (.array .byte)) ws R_rmabg #[(.ref a1)] Z h0 (Qabg Z a1 ab h0 n0) := by
  refine Met1.enter (plainFor_of_name pn_25) (fun m => ef_rmabg m a1) fun p e s m below meth c s₁ hx hby hlk hret hml hown hnm hZ X0 e0 => ?_
  have N0 := Fr.nil n0
  have K0 : Keep h0 h0 [] := Keep.refl h0 _
  show Fin p e below s _ _ _ (s₁.setTop (mkF m 0 #[rv a1] []))
  refine Fin.step (fun _ k => Yo.aloadN X0.here hx (hb hby d25_0) rfl rfl k) ?_
  refine fget X0 hx hZ hown (W_ hw 60) e0 HF_a1_value (hb hby d25_1) fun Ty1 Xy1 ey1 => ?_
  refine Fin.retR Xy1 hx hret rfl rfl hlk (hb hby d25_4) (by decide) (by decide) ?_
  show Qabg Z a1 ab h0 n0 _ Ty1.heap _
  rw [ey1]
  exact ⟨rfl, N0, rfl⟩
theorem pn_19 : plainName "java/lang/StringLatin1" = true := by first | (simp [plainName, overriddenIn]; done) | decide +kernel
theorem d19_0 : decode jdk_43_method_3_code 0 = .ok (.iload_n 0, 1) := by decide +kernel
theorem d19_1 : decode jdk_43_method_3_code 1 = .ok (.sipush 255, 3) := by decide +kernel
theorem d19_4 : decode jdk_43_method_3_code 4 = .ok (.if_icmp .gt 7, 3) := by decide +kernel
theorem d19_7 : decode jdk_43_method_3_code 7 = .ok (.iconst 1, 1) := by decide +kernel
theorem d19_8 : decode jdk_43_method_3_code 8 = .ok (.goto 4, 3) := by decide +kernel
theorem d19_12 : decode jdk_43_method_3_code 12 = .ok (.ireturn, 1) := by decide +kernel
theorem ef_rmce (m : MethodId) (x0 : Int32) : entryFrame m #[(.int x0)] 1 = mkF m 0 #[.val (.int x0)] [] := by first | (simp [entryFrame, mkF, argsToLocals, Value.category]; done) | rfl
abbrev R_rmce : Room := ({ frames := 0, cells := 0, slots := 0, locals := 0 } : Room)
def Qce (Z : State) (p1 : Int32) (h0 : Heap) (n0 : Nat) (v : Option Value) (h : Heap) (L : List Loc) : Prop := v = some (.int 1) ∧ Fr n0 L ∧ h = h0
set_option maxRecDepth 65536 in
set_option maxHeartbeats 40000000 in
theorem rmce (l : Launch) (Z : State) (a0 : Array Value) (hw : ∀ d ∈ tables_1, d.before a0 Z = true) (ws : List Jvm.Cond) (p1 : Int32) (h0 : Heap) (n0 : Nat) (Z0 : n0 ≤ h0.size) (hc : ¬ (255 : Int32) < p1) :
    Met1 l n19 jdk_43_method_3_code 1 (some .boolean) ws R_rmce #[(.int p1)] Z h0 (Qce Z p1 h0 n0) := by
  refine Met1.enter (plainFor_of_name pn_19) (fun m => ef_rmce m p1) fun p e s m below meth c s₁ hx hby hlk hret hml hown hnm hZ X0 e0 => ?_
  have N0 := Fr.nil n0
  have K0 : Keep h0 h0 [] := Keep.refl h0 _
  show Fin p e below s _ _ _ (s₁.setTop (mkF m 0 #[iv p1] []))
  refine Fin.step (fun _ k => Yo.iloadN X0.here hx (hb hby d19_0) rfl (Yo.sipush X0.here hx (hb hby d19_1) (Yo.icmpNo X0.here hx (hb hby d19_4) rfl (flt (hc : ¬ ((255 : Int32) < p1))).2.2.1 (Yo.iconst X0.here hx (hb hby d19_7) (Yo.goto X0.here hx (pc0 := 8) (pc' := 12) rfl (hb hby d19_8) (by decide) (by decide) k))))) ?_
  refine Fin.retN X0 hx (t := .boolean) hret (by simp) hlk (hb hby d19_12) (by decide) (by decide) ?_
  show Qce Z p1 h0 n0 _ s₁.heap _
  rw [e0]
  exact ⟨rfl, N0, rfl⟩
theorem pn_16 : plainName "java/lang/AbstractStringBuilder" = true := by first | (simp [plainName, overriddenIn]; done) | decide +kernel
theorem d16_0 : decode jdk_68_method_9_code 0 = .ok (.aload_n 0, 1) := by decide +kernel
theorem d16_1 : decode jdk_68_method_9_code 1 = .ok (.getfield 15, 3) := by decide +kernel
theorem d16_4 : decode jdk_68_method_9_code 4 = .ok (.arraylength, 1) := by decide +kernel
theorem d16_5 : decode jdk_68_method_9_code 5 = .ok (.aload_n 0, 1) := by decide +kernel
theorem d16_6 : decode jdk_68_method_9_code 6 = .ok (.getfield 22, 3) := by decide +kernel
theorem d16_9 : decode jdk_68_method_9_code 9 = .ok (.ishr, 1) := by decide +kernel
theorem d16_10 : decode jdk_68_method_9_code 10 = .ok (.istore_n 2, 1) := by decide +kernel
theorem d16_11 : decode jdk_68_method_9_code 11 = .ok (.iload_n 1, 1) := by decide +kernel
theorem d16_12 : decode jdk_68_method_9_code 12 = .ok (.iload_n 2, 1) := by decide +kernel
theorem d16_13 : decode jdk_68_method_9_code 13 = .ok (.isub, 1) := by decide +kernel
theorem d16_14 : decode jdk_68_method_9_code 14 = .ok (.ifCond .le 24, 3) := by decide +kernel
theorem d16_38 : decode jdk_68_method_9_code 38 = .ok (.return_, 1) := by decide +kernel
theorem ef_rmec (m : MethodId) (x0 : Addr) (x1 : Int32) : entryFrame m #[(.ref x0), (.int x1)] 3 = mkF m 0 #[.val (.ref x0), .val (.int x1), .unset] [] := by first | (simp [entryFrame, mkF, argsToLocals, Value.category]; done) | rfl
abbrev R_rmec : Room := ({ frames := 0, cells := 0, slots := 0, locals := 0 } : Room)
def Qec (Z : State) (a1 : Addr) (p2 : Int32) (ab : Addr) (kb : ClassId) (vs : List Value) (h0 : Heap) (n0 : Nat) (v : Option Value) (h : Heap) (L : List Loc) : Prop := v = none ∧ Fr n0 L ∧ h = h0
set_option maxRecDepth 65536 in
set_option maxHeartbeats 40000000 in
theorem rmec (l : Launch) (Z : State) (a0 : Array Value) (hw : ∀ d ∈ tables_1, d.before a0 Z = true) (ws : List Jvm.Cond) (a1 : Addr) (p2 : Int32) (ab : Addr) (kb : ClassId) (vs : List Value) (h0 : Heap) (n0 : Nat) (Z0 : n0 ≤ h0.size) (HF_a1_value : Fld Z h0 a1 q3 "value" "[B" (.ref ab)) (HF_a1_coder : Fld Z h0 a1 q3 "coder" "B" (.int 0)) (HV_ab : Arv Z h0 ab kb .byte (16 : Int32) vs (.int 0)) (hq : ¬ (0 : Int32) < p2 - 16) :
    Met1 l n16 jdk_68_method_9_code 3 none ws R_rmec #[(.ref a1), (.int p2)] Z h0 (Qec Z a1 p2 ab kb vs h0 n0) := by
  refine Met1.enter (plainFor_of_name pn_16) (fun m => ef_rmec m a1 p2) fun p e s m below meth c s₁ hx hby hlk hret hml hown hnm hZ X0 e0 => ?_
  have N0 := Fr.nil n0
  have K0 : Keep h0 h0 [] := Keep.refl h0 _
  show Fin p e below s _ _ _ (s₁.setTop (mkF m 0 #[rv a1, iv p2, .unset] []))
  refine Fin.step (fun _ k => Yo.aloadN X0.here hx (hb hby d16_0) rfl rfl k) ?_
  refine fget X0 hx hZ hown (W_ hw 60) e0 HF_a1_value (hb hby d16_1) fun Ty1 Xy1 ey1 => ?_
  have voy2 := HV_ab
  obtain ⟨cly2, Ary2, qay2, say2, nay2, hay2, gay2⟩ := voy2
  refine Fin.step (Xy1.arraylength hx (by rw [ey1]; exact Ary2.1) (State.isArrayOf_alike hZ.alike Ary2.2.1) (g := (mkF m 4 #[rv a1, iv p2, .unset] [(.ref ab)])) rfl rfl (hb hby d16_4)) ?_
  rw [len_of say2 nay2]
  show Fin p e below s _ _ _ (Ty1.setTop (mkF m 5 #[rv a1, iv p2, .unset] [(.int 16)]))
  refine Fin.step (fun _ k => Yo.aloadN Xy1.here hx (hb hby d16_5) rfl rfl k) ?_
  refine fget Xy1 hx hZ hown (W_ hw 62) ey1 HF_a1_coder (hb hby d16_6) fun Ty3 Xy3 ey3 => ?_
  refine Fin.step (fun _ k => Yo.ishr Xy3.here hx (hb hby d16_9) rfl k) ?_
  show Fin p e below s _ _ _ (Ty3.setTop (mkF m 10 #[rv a1, iv p2, .unset] [(.int 16)]))
  refine Fin.step (fun _ k => Yo.istoreN Xy3.here hx (hb hby d16_10) rfl (l' := #[rv a1, iv p2, iv 16]) rfl (Yo.iloadN Xy3.here hx (hb hby d16_11) rfl (Yo.iloadN Xy3.here hx (hb hby d16_12) rfl (Yo.isub Xy3.here hx (hb hby d16_13) rfl k)))) ?_
  show Fin p e below s _ _ _ (Ty3.setTop (mkF m 14 #[rv a1, iv p2, iv 16] [(.int (p2 - (16 : Int32)))]))
  refine Fin.step (fun _ k => Yo.ifYes Xy3.here hx (pc0 := 14) (pc' := 38) rfl (hb hby d16_14) rfl ((if0 _ _).trans (flt (hq : ¬ ((0 : Int32) < (p2 - (16 : Int32))))).2.2.2) (by decide) (by decide) k) ?_
  refine Fin.retV Xy3 hx hret hlk (hb hby d16_38) (by decide) (by decide) ?_
  show Qec Z a1 p2 ab kb vs h0 n0 _ Ty3.heap _
  rw [ey3]
  exact ⟨rfl, N0, rfl⟩
theorem pn_15 : plainName "jdk/internal/util/Preconditions" = true := by first | (simp [plainName, overriddenIn]; done) | decide +kernel
theorem d15_0 : decode jdk_41_method_12_code 0 = .ok (.iload_n 0, 1) := by decide +kernel
theorem d15_1 : decode jdk_41_method_12_code 1 = .ok (.ifCond .lt 13, 3) := by decide +kernel
theorem d15_4 : decode jdk_41_method_12_code 4 = .ok (.iload_n 0, 1) := by decide +kernel
theorem d15_5 : decode jdk_41_method_12_code 5 = .ok (.iload_n 1, 1) := by decide +kernel
theorem d15_6 : decode jdk_41_method_12_code 6 = .ok (.if_icmp .gt 8, 3) := by decide +kernel
theorem d15_9 : decode jdk_41_method_12_code 9 = .ok (.iload_n 1, 1) := by decide +kernel
theorem d15_10 : decode jdk_41_method_12_code 10 = .ok (.iload_n 2, 1) := by decide +kernel
theorem d15_11 : decode jdk_41_method_12_code 11 = .ok (.if_icmp .le 11, 3) := by decide +kernel
theorem d15_22 : decode jdk_41_method_12_code 22 = .ok (.iload_n 0, 1) := by decide +kernel
theorem d15_23 : decode jdk_41_method_12_code 23 = .ok (.ireturn, 1) := by decide +kernel
theorem ef_rmf0 (m : MethodId) (x1 : Int32) : entryFrame m #[(.int (0 : Int32)), (.int x1), (.int (3 : Int32)), .null] 4 = mkF m 0 #[.val (.int (0 : Int32)), .val (.int x1), .val (.int (3 : Int32)), .val .null] [] := by first | (simp [entryFrame, mkF, argsToLocals, Value.category]; done) | rfl
abbrev R_rmf0 : Room := ({ frames := 0, cells := 0, slots := 0, locals := 0 } : Room)
def Qf0 (Z : State) (p2 : Int32) (h0 : Heap) (n0 : Nat) (v : Option Value) (h : Heap) (L : List Loc) : Prop := v = some (.int 0) ∧ Fr n0 L ∧ h = h0
set_option maxRecDepth 65536 in
set_option maxHeartbeats 40000000 in
theorem rmf0 (l : Launch) (Z : State) (a0 : Array Value) (hw : ∀ d ∈ tables_1, d.before a0 Z = true) (ws : List Jvm.Cond) (p2 : Int32) (h0 : Heap) (n0 : Nat) (Z0 : n0 ≤ h0.size) (h1 : ¬ p2 < 0) (h2 : ¬ (3 : Int32) < p2) :
    Met1 l n15 jdk_41_method_12_code 4 (some .int) ws R_rmf0 #[(.int 0), (.int p2), (.int 3), .null] Z h0 (Qf0 Z p2 h0 n0) := by
  refine Met1.enter (plainFor_of_name pn_15) (fun m => ef_rmf0 m p2) fun p e s m below meth c s₁ hx hby hlk hret hml hown hnm hZ X0 e0 => ?_
  have N0 := Fr.nil n0
  have K0 : Keep h0 h0 [] := Keep.refl h0 _
  show Fin p e below s _ _ _ (s₁.setTop (mkF m 0 #[iv 0, iv p2, iv 3, .val .null] []))
  refine Fin.step (fun _ k => Yo.iloadN X0.here hx (hb hby d15_0) rfl (Yo.ifNo X0.here hx (hb hby d15_1) rfl ((if0 _ _).trans (flt ((by decide) : ¬ ((0 : Int32) < (0 : Int32)))).1) (Yo.iloadN X0.here hx (hb hby d15_4) rfl (Yo.iloadN X0.here hx (hb hby d15_5) rfl (Yo.icmpNo X0.here hx (hb hby d15_6) rfl (flt (h1 : ¬ (p2 < (0 : Int32)))).2.2.1 (Yo.iloadN X0.here hx (hb hby d15_9) rfl (Yo.iloadN X0.here hx (hb hby d15_10) rfl (Yo.icmpYes X0.here hx (pc0 := 11) (pc' := 22) rfl (hb hby d15_11) rfl (flt (h2 : ¬ ((3 : Int32) < p2))).2.2.2 (by decide) (by decide) k)))))))) ?_
  refine Fin.step (fun _ k => Yo.iloadN X0.here hx (hb hby d15_22) rfl k) ?_
  refine Fin.retI X0 hx hret hlk (hb hby d15_23) (by decide) (by decide) ?_
  show Qf0 Z p2 h0 n0 _ s₁.heap _
  rw [e0]
  exact ⟨rfl, N0, rfl⟩
theorem ef_rmf1 (m : MethodId) (x1 : Int32) (x3 : Addr) : entryFrame m #[(.int (0 : Int32)), (.int x1), (.int (3 : Int32)), (.ref x3)] 4 = mkF m 0 #[.val (.int (0 : Int32)), .val (.int x1), .val (.int (3 : Int32)), .val (.ref x3)] [] := by first | (simp [entryFrame, mkF, argsToLocals, Value.category]; done) | rfl
abbrev R_rmf1 : Room := ({ frames := 0, cells := 0, slots := 0, locals := 0 } : Room)
def Qf1 (Z : State) (p2 : Int32) (a4 : Addr) (h0 : Heap) (n0 : Nat) (v : Option Value) (h : Heap) (L : List Loc) : Prop := v = some (.int 0) ∧ Fr n0 L ∧ h = h0
set_option maxRecDepth 65536 in
set_option maxHeartbeats 40000000 in
theorem rmf1 (l : Launch) (Z : State) (a0 : Array Value) (hw : ∀ d ∈ tables_1, d.before a0 Z = true) (ws : List Jvm.Cond) (p2 : Int32) (a4 : Addr) (h0 : Heap) (n0 : Nat) (Z0 : n0 ≤ h0.size) (h1 : ¬ p2 < 0) (h2 : ¬ (3 : Int32) < p2) :
    Met1 l n15 jdk_41_method_12_code 4 (some .int) ws R_rmf1 #[(.int 0), (.int p2), (.int 3), (.ref a4)] Z h0 (Qf1 Z p2 a4 h0 n0) := by
  refine Met1.enter (plainFor_of_name pn_15) (fun m => ef_rmf1 m p2 a4) fun p e s m below meth c s₁ hx hby hlk hret hml hown hnm hZ X0 e0 => ?_
  have N0 := Fr.nil n0
  have K0 : Keep h0 h0 [] := Keep.refl h0 _
  show Fin p e below s _ _ _ (s₁.setTop (mkF m 0 #[iv 0, iv p2, iv 3, rv a4] []))
  refine Fin.step (fun _ k => Yo.iloadN X0.here hx (hb hby d15_0) rfl (Yo.ifNo X0.here hx (hb hby d15_1) rfl ((if0 _ _).trans (flt ((by decide) : ¬ ((0 : Int32) < (0 : Int32)))).1) (Yo.iloadN X0.here hx (hb hby d15_4) rfl (Yo.iloadN X0.here hx (hb hby d15_5) rfl (Yo.icmpNo X0.here hx (hb hby d15_6) rfl (flt (h1 : ¬ (p2 < (0 : Int32)))).2.2.1 (Yo.iloadN X0.here hx (hb hby d15_9) rfl (Yo.iloadN X0.here hx (hb hby d15_10) rfl (Yo.icmpYes X0.here hx (pc0 := 11) (pc' := 22) rfl (hb hby d15_11) rfl (flt (h2 : ¬ ((3 : Int32) < p2))).2.2.2 (by decide) (by decide) k)))))))) ?_
  refine Fin.step (fun _ k => Yo.iloadN X0.here hx (hb hby d15_22) rfl k) ?_
  refine Fin.retI X0 hx hret hlk (hb hby d15_23) (by decide) (by decide) ?_
  show Qf1 Z p2 a4 h0 n0 _ s₁.heap _
  rw [e0]
  exact ⟨rfl, N0, rfl⟩
theorem pn_17 : plainName "java/lang/AbstractStringBuilder" = true := by first | (simp [plainName, overriddenIn]; done) | decide +kernel
theorem d17_0 : decode jdk_68_method_74_code 0 = .ok (.aload_n 0, 1) := by decide +kernel
theorem d17_1 : decode jdk_68_method_74_code 1 = .ok (.getfield 79, 3) := by decide +kernel
theorem d17_4 : decode jdk_68_method_74_code 4 = .ok (.istore 4, 2) := by decide +kernel
theorem d17_6 : decode jdk_68_method_74_code 6 = .ok (.aload_n 0, 1) := by decide +kernel
theorem d17_7 : decode jdk_68_method_74_code 7 = .ok (.invokevirtual 83, 3) := by decide +kernel
theorem pd_2 : parseMethodDescriptor "()Z" = some ⟨[], some .boolean⟩ := by decide +kernel
theorem d17_10 : decode jdk_68_method_74_code 10 = .ok (.ifCond .eq 97, 3) := by decide +kernel
theorem d17_13 : decode jdk_68_method_74_code 13 = .ok (.aload_n 0, 1) := by decide +kernel
theorem d17_14 : decode jdk_68_method_74_code 14 = .ok (.getfield 15, 3) := by decide +kernel
theorem d17_17 : decode jdk_68_method_74_code 17 = .ok (.astore 5, 2) := by decide +kernel
theorem d17_19 : decode jdk_68_method_74_code 19 = .ok (.iload_n 2, 1) := by decide +kernel
theorem d17_20 : decode jdk_68_method_74_code 20 = .ok (.istore 6, 2) := by decide +kernel
theorem d17_22 : decode jdk_68_method_74_code 22 = .ok (.iload 4, 2) := by decide +kernel
theorem d17_24 : decode jdk_68_method_74_code 24 = .ok (.istore 7, 2) := by decide +kernel
theorem d17_26 : decode jdk_68_method_74_code 26 = .ok (.iload 6, 2) := by decide +kernel
theorem d17_28 : decode jdk_68_method_74_code 28 = .ok (.iload_n 3, 1) := by decide +kernel
theorem d17_29 : decode jdk_68_method_74_code 29 = .ok (.if_icmp .ge 75, 3) := by decide +kernel
theorem d17_104 : decode jdk_68_method_74_code 104 = .ok (.goto 15, 3) := by decide +kernel
theorem d17_119 : decode jdk_68_method_74_code 119 = .ok (.aload_n 0, 1) := by decide +kernel
theorem d17_120 : decode jdk_68_method_74_code 120 = .ok (.iload 4, 2) := by decide +kernel
theorem d17_122 : decode jdk_68_method_74_code 122 = .ok (.iload_n 3, 1) := by decide +kernel
theorem d17_123 : decode jdk_68_method_74_code 123 = .ok (.iadd, 1) := by decide +kernel
theorem d17_124 : decode jdk_68_method_74_code 124 = .ok (.iload_n 2, 1) := by decide +kernel
theorem d17_125 : decode jdk_68_method_74_code 125 = .ok (.isub, 1) := by decide +kernel
theorem d17_126 : decode jdk_68_method_74_code 126 = .ok (.putfield 79, 3) := by decide +kernel
theorem d17_129 : decode jdk_68_method_74_code 129 = .ok (.return_, 1) := by decide +kernel
theorem d17_32 : decode jdk_68_method_74_code 32 = .ok (.aload_n 1, 1) := by decide +kernel
theorem d17_33 : decode jdk_68_method_74_code 33 = .ok (.iload 6, 2) := by decide +kernel
theorem d17_35 : decode jdk_68_method_74_code 35 = .ok (.caload, 1) := by decide +kernel
theorem d17_36 : decode jdk_68_method_74_code 36 = .ok (.istore 8, 2) := by decide +kernel
theorem d17_38 : decode jdk_68_method_74_code 38 = .ok (.iload 8, 2) := by decide +kernel
theorem d17_40 : decode jdk_68_method_74_code 40 = .ok (.invokestatic 191, 3) := by decide +kernel
theorem pd_3 : parseMethodDescriptor "(C)Z" = some ⟨[.char], some .boolean⟩ := by decide +kernel
theorem d17_43 : decode jdk_68_method_74_code 43 = .ok (.ifCond .eq 17, 3) := by decide +kernel
theorem d17_46 : decode jdk_68_method_74_code 46 = .ok (.aload 5, 2) := by decide +kernel
theorem d17_48 : decode jdk_68_method_74_code 48 = .ok (.iload 7, 2) := by decide +kernel
theorem d17_50 : decode jdk_68_method_74_code 50 = .ok (.iinc 7 1, 3) := by decide +kernel
theorem d17_53 : decode jdk_68_method_74_code 53 = .ok (.iload 8, 2) := by decide +kernel
theorem d17_55 : decode jdk_68_method_74_code 55 = .ok (.i2b, 1) := by decide +kernel
theorem d17_56 : decode jdk_68_method_74_code 56 = .ok (.bastore, 1) := by decide +kernel
theorem d17_57 : decode jdk_68_method_74_code 57 = .ok (.goto 41, 3) := by decide +kernel
theorem d17_98 : decode jdk_68_method_74_code 98 = .ok (.iinc 6 1, 3) := by decide +kernel
theorem d17_101 : decode jdk_68_method_74_code 101 = .ok (.goto (-75), 3) := by decide +kernel
theorem ef_rmac (m : MethodId) (x0 : Addr) (x1 : Addr) (x3 : Int32) : entryFrame m #[(.ref x0), (.ref x1), (.int (0 : Int32)), (.int x3)] 9 = mkF m 0 #[.val (.ref x0), .val (.ref x1), .val (.int (0 : Int32)), .val (.int x3), .unset, .unset, .unset, .unset, .unset] [] := by first | (simp [entryFrame, mkF, argsToLocals, Value.category]; done) | rfl
abbrev R_rmac : Room := ({ frames := 1, cells := 0, slots := 0, locals := 12 } : Room)
def Qac (Z : State) (a1 a2 : Addr) (pn : Int32) (ab : Addr) (kb : ClassId) (tn : Int32) (vs : List Value) (kc : ClassId) (xs : List Value) (tm wc : Int32) (h0 : Heap) (n0 : Nat) (v : Option Value) (h : Heap) (L : List Loc) : Prop := v = none ∧ Fr n0 L ∧ Keep h0 h [a1, ab] ∧ Fld Z h a1 q3 "value" "[B" (.ref ab) ∧ Fld Z h a1 q3 "coder" "B" (.int 0) ∧ Fld Z h a1 q3 "count" "I" (.int tm) ∧ Arv Z h ab kb .byte (16 : Int32) (own_app vs xs tn.toNatClampNeg pn.toNatClampNeg) (.int 0)
set_option maxRecDepth 65536 in
set_option maxHeartbeats 40000000 in
theorem rmac (l : Launch) (Z : State) (a0 : Array Value) (hw : ∀ d ∈ tables_1, d.before a0 Z = true) (ws : List Jvm.Cond) (a1 a2 : Addr) (pn : Int32) (ab : Addr) (kb : ClassId) (tn : Int32) (vs : List Value) (kc : ClassId) (xs : List Value) (tm wc : Int32) (h0 : Heap) (n0 : Nat) (Z0 : n0 ≤ h0.size) (HE_a1 : Exa Z h0 a1 q2) (HF_a1_value : Fld Z h0 a1 q3 "value" "[B" (.ref ab)) (HF_a1_coder : Fld Z h0 a1 q3 "coder" "B" (.int 0)) (HF_a1_count : Fld Z h0 a1 q3 "count" "I" (.int tn)) (HV_ab : Arv Z h0 ab kb .byte (16 : Int32) vs (.int 0)) (HV_a2 : Arv Z h0 a2 kc .char (3 : Int32) xs (.int 0)) (HS_java_lang_String_COMPACT_STRINGS : Sta Z h0 q4 q10 "Z" (.int wc)) (g_a1 : n0 ≤ a1) (g_ab : n0 ≤ ab) (hp : pn = 0 ∨ pn = 1 ∨ pn = 2 ∨ pn = 3) (ht : 0 ≤ tn.toInt ∧ tn.toInt ≤ 3) (hl : vs.length = 16) (hxl : own_lat xs) (htm : tm = tn + pn) (hwc : ¬ wc = 0) (hn_a1_ab : a1 ≠ ab) (hn_a2_ab : a2 ≠ ab) :
    Met1 l n17 jdk_68_method_74_code 9 none ws R_rmac #[(.ref a1), (.ref a2), (.int 0), (.int pn)] Z h0 (Qac Z a1 a2 pn ab kb tn vs kc xs tm wc h0 n0) := by
  refine Met1.enter (plainFor_of_name pn_17) (fun m => ef_rmac m a1 a2 pn) fun p e s m below meth c s₁ hx hby hlk hret hml hown hnm hZ X0 e0 => ?_
  have N0 := Fr.nil n0
  have K0 := Keep.refl h0 [a1, ab]
  show Fin p e below s _ _ _ (s₁.setTop (mkF m 0 #[rv a1, rv a2, iv 0, iv pn, .unset, .unset, .unset, .unset, .unset] []))
  refine Fin.step (fun _ k => Yo.aloadN X0.here hx (hb hby d17_0) rfl rfl k) ?_
  refine fget X0 hx hZ hown (W_ hw 85) e0 HF_a1_count (hb hby d17_1) fun Ty1 Xy1 ey1 => ?_
  refine Fin.step (fun _ k => Yo.istore Xy1.here hx (hb hby d17_4) rfl (l' := #[rv a1, rv a2, iv 0, iv pn, iv tn, .unset, .unset, .unset, .unset]) rfl (Yo.aloadN Xy1.here hx (hb hby d17_6) rfl rfl k)) ?_
  obtain ⟨cqy2, kqy2, qy2a, qy2b, qy2c⟩ := isOf hZ ey1 HE_a1
  obtain ⟨_, Ty2, Lcy2, Xy2, hQy2, sty2⟩ := pack (Xy1.virtualBack hx (y := n18) (z := n18) hown (mvT hZ (W_ hw 112)) (mvT hZ (W_ hw 113)) (notFace_of_selects (args := #[]) (mvT hZ (W_ hw 115))) (mvT hZ (W_ hw 115)) (mvT hZ (W_ hw 114)) (by decide) (backOf (W := 0) (rmab1 l Z a0 hw [] a1 wc h0 n0 Z0 HS_java_lang_String_COMPACT_STRINGS HF_a1_coder hwc) hZ (W_ hw 116) (W_ hw 54) (by decide) (by decide)) qy2a qy2c (g := (mkF m 7 #[rv a1, rv a2, iv 0, iv pn, iv tn, .unset, .unset, .unset, .unset] [(.ref a1)])) rfl (by rw [hml]; rfl) (Steps.refl _) (argsL := []) (rest := []) (lenOf pd_2 rfl) rfl (lb rfl) (hb hby d17_7) (fun _ _ => ⟨rfl, ey1, (by decide : 0 + 0 ≤ _), (by decide : 0 + 0 ≤ _)⟩))
  obtain ⟨rfl, Nqy2, eqy2⟩ := hQy2
  have Ny2 := Fr.app N0 Nqy2
  refine Fin.step (sty2) ?_
  show Fin p e below s _ _ _ (Ty2.setTop (mkF m 10 #[rv a1, rv a2, iv 0, iv pn, iv tn, .unset, .unset, .unset, .unset] [(.int 1)]))
  refine Fin.step (fun _ k => Yo.ifNo Xy2.here hx (hb hby d17_10) rfl ((if0 _ _).trans (feq ((by decide) : ¬ ((1 : Int32) = (0 : Int32)))).1) (Yo.aloadN Xy2.here hx (hb hby d17_13) rfl rfl k)) ?_
  refine fget Xy2 hx hZ hown (W_ hw 60) eqy2 HF_a1_value (hb hby d17_14) fun Ty3 Xy3 ey3 => ?_
  refine Fin.step (fun _ k => Yo.astore Xy3.here hx (hb hby d17_17) rfl rfl (l' := #[rv a1, rv a2, iv 0, iv pn, iv tn, rv ab, .unset, .unset, .unset]) rfl (Yo.iloadN Xy3.here hx (hb hby d17_19) rfl (Yo.istore Xy3.here hx (hb hby d17_20) rfl (l' := #[rv a1, rv a2, iv 0, iv pn, iv tn, rv ab, iv 0, .unset, .unset]) rfl (Yo.iload Xy3.here hx (hb hby d17_22) rfl (Yo.istore Xy3.here hx (hb hby d17_24) rfl (l' := #[rv a1, rv a2, iv 0, iv pn, iv tn, rv ab, iv 0, iv tn, .unset]) rfl k))))) ?_
  have S0 := own_st tn 3 ht (by decide)
  have S1 := own_st (tn + 1) 4 S0.2.1 (by decide)
  have S2 := own_st ((tn + 1) + 1) 5 S1.2.1 (by decide)
  have hT3 := own_nat (b := 3) ht
  rcases hp with rfl | rfl | rfl | rfl
  · show Fin p e below s _ _ _ (Ty3.setTop (mkF m 26 #[rv a1, rv a2, iv 0, iv 0, iv tn, rv ab, iv 0, iv tn, .unset] []))
    refine Fin.step (fun _ k => Yo.iload Xy3.here hx (hb hby d17_26) rfl (Yo.iloadN Xy3.here hx (hb hby d17_28) rfl (Yo.icmpYes Xy3.here hx (pc0 := 29) (pc' := 104) rfl (hb hby d17_29) rfl (flt ((by decide) : ¬ ((0 : Int32) < (0 : Int32)))).2.1 (by decide) (by decide) (Yo.goto Xy3.here hx (pc0 := 104) (pc' := 119) rfl (hb hby d17_104) (by decide) (by decide) (Yo.aloadN Xy3.here hx (hb hby d17_119) rfl rfl (Yo.iload Xy3.here hx (hb hby d17_120) rfl (Yo.iloadN Xy3.here hx (hb hby d17_122) rfl (Yo.iadd Xy3.here hx (hb hby d17_123) rfl k)))))))) ?_
    show Fin p e below s _ _ _ (Ty3.setTop (mkF m 124 #[rv a1, rv a2, iv 0, iv 0, iv tn, rv ab, iv 0, iv tn, .unset] [(.int (tn + (0 : Int32))), (.ref a1)]))
    refine Fin.step (fun _ k => Yo.iloadN Xy3.here hx (hb hby d17_124) rfl (Yo.isub Xy3.here hx (hb hby d17_125) rfl k)) ?_
    show Fin p e below s _ _ _ (Ty3.setTop (mkF m 126 #[rv a1, rv a2, iv 0, iv 0, iv tn, rv ab, iv 0, iv tn, .unset] [(.int ((tn + (0 : Int32)) - (0 : Int32))), (.ref a1)]))
    obtain ⟨Ty4, hy4, Xy4, ey4, Wy4, sty4⟩ := putF Xy3 hx hZ hown (host := "") (Or.inl (W_ hw 85)) Via.refl ey3 HF_a1_count HE_a1 (Or.inl (W_ hw 86)) (W_ hw 45) (ty := .int) (by decide) rfl rfl (g := (mkF m 126 #[rv a1, rv a2, iv 0, iv 0, iv tn, rv ab, iv 0, iv tn, .unset] [(.int ((tn + (0 : Int32)) - (0 : Int32))), (.ref a1)])) rfl rfl (hb hby d17_126)
    have Fwy4 : Fld Z hy4 a1 q3 "count" "I" (.int ((tn + (0 : Int32)) - (0 : Int32))) := HF_a1_count.same Wy4
    have Zy4 : n0 ≤ hy4.size := Nat.le_trans Z0 (Keep.of_wr Wy4).1
    have Ky4 : Keep h0 hy4 [a1, ab] := K0.wr Wy4 m0
    have Ny4 := Fr.snoc Xy4 Ny2 g_a1
    refine Fin.step (sty4) ?_
    show Fin p e below s _ _ _ (Ty4.setTop (mkF m 129 #[rv a1, rv a2, iv 0, iv 0, iv tn, rv ab, iv 0, iv tn, .unset] []))
    refine Fin.retV Xy4 hx hret hlk (hb hby d17_129) (by decide) (by decide) ?_
    show Qac Z _ _ _ _ _ _ _ _ _ _ _ h0 n0 _ Ty4.heap _
    rw [ey4]
    exact ⟨rfl, Ny4, Ky4, (HF_a1_value.other Wy4 (Or.inr (slot_ne (Or.inl (W_ hw 61)) (Or.inl (W_ hw 86)) (by decide) (t := (.array .byte)) (t' := .int) (by decide) (by decide)))), (HF_a1_coder.other Wy4 (Or.inr (slot_ne (Or.inl (W_ hw 63)) (Or.inl (W_ hw 86)) (by decide) (t := .byte) (t' := .int) (by decide) (by decide)))), (Fld.cast Fwy4 (congrArg Value.int (own_s0 htm))), (HV_ab.other Wy4 (Ne.symm hn_a1_ab))⟩
  · show Fin p e below s _ _ _ (Ty3.setTop (mkF m 26 #[rv a1, rv a2, iv 0, iv 1, iv tn, rv ab, iv 0, iv tn, .unset] []))
    refine Fin.step (fun _ k => Yo.iload Xy3.here hx (hb hby d17_26) rfl (Yo.iloadN Xy3.here hx (hb hby d17_28) rfl (Yo.icmpNo Xy3.here hx (hb hby d17_29) rfl (tlt ((by decide) : ((0 : Int32) < (1 : Int32)))).2.1 (Yo.aloadN Xy3.here hx (hb hby d17_32) rfl rfl (Yo.iload Xy3.here hx (hb hby d17_33) rfl k))))) ?_
    have voy5 := HV_a2
    obtain ⟨cly5, Ary5, qay5, say5, nay5, hay5, gay5⟩ := voy5
    have iny5 := inb_of (j := (0 : Int32)) say5 ⟨by decide, by decide⟩
    refine Fin.step (Xy3.caload hx (j := (0 : Int32)) (v := (.int (own_gt xs 0))) (by rw [ey3]; exact Ary5.1) (State.isArrayOf_alike hZ.alike Ary5.2.1) Ary5.2.2 iny5 (hay5.at iny5 (own_lg hxl 0).1) (g := (mkF m 35 #[rv a1, rv a2, iv 0, iv 1, iv tn, rv ab, iv 0, iv tn, .unset] [(.int 0), (.ref a2)])) rfl rfl (hb hby d17_35)) ?_
    show Fin p e below s _ _ _ (Ty3.setTop (mkF m 36 #[rv a1, rv a2, iv 0, iv 1, iv tn, rv ab, iv 0, iv tn, .unset] [(.int (own_gt xs 0))]))
    refine Fin.step (fun _ k => Yo.istore Xy3.here hx (hb hby d17_36) rfl (l' := #[rv a1, rv a2, iv 0, iv 1, iv tn, rv ab, iv 0, iv tn, .val (.int (own_gt xs 0))]) rfl (Yo.iload Xy3.here hx (hb hby d17_38) rfl k)) ?_
    obtain ⟨_, Ty6, Lcy6, Xy6, hQy6, sty6⟩ := packS (Jvm.LawKit.callS Xy3 hx (y := n19) hown (mvT hZ (W_ hw 117)) (mvT hZ (W_ hw 118)) (mvT hZ (W_ hw 119)) (mvT hZ (W_ hw 120)) (by decide) (backOf (W := 0) (rmce l Z a0 hw [] (own_gt xs 0) h0 n0 Z0 (own_le hxl 0)) hZ (W_ hw 120) (W_ hw 119) (by decide) (by decide)) (g := (mkF m 40 #[rv a1, rv a2, iv 0, iv 1, iv tn, rv ab, iv 0, iv tn, .val (.int (own_gt xs 0))] [(.int (own_gt xs 0))])) rfl (by rw [hml]; rfl) (argsL := [(.int (own_gt xs 0))]) (rest := []) (lenOf pd_3 rfl) rfl (lb rfl) (hb hby d17_40) (fun _ _ => ⟨rfl, ey3, (by decide : 0 + 0 ≤ _), (by decide : 0 + 0 ≤ _)⟩))
    obtain ⟨rfl, Nqy6, eqy6⟩ := hQy6
    have Ny6 := Fr.app Ny2 Nqy6
    refine Fin.step (sty6) ?_
    show Fin p e below s _ _ _ (Ty6.setTop (mkF m 43 #[rv a1, rv a2, iv 0, iv 1, iv tn, rv ab, iv 0, iv tn, .val (.int (own_gt xs 0))] [(.int 1)]))
    refine Fin.step (fun _ k => Yo.ifNo Xy6.here hx (hb hby d17_43) rfl ((if0 _ _).trans (feq ((by decide) : ¬ ((1 : Int32) = (0 : Int32)))).1) (Yo.aload Xy6.here hx (hb hby d17_46) rfl rfl (Yo.iload Xy6.here hx (hb hby d17_48) rfl (Yo.iinc Xy6.here hx (hb hby d17_50) rfl (l' := #[rv a1, rv a2, iv 0, iv 1, iv tn, rv ab, iv 0, .val (.int (tn + (1 : Int32))), .val (.int (own_gt xs 0))]) rfl k)))) ?_
    show Fin p e below s _ _ _ (Ty6.setTop (mkF m 53 #[rv a1, rv a2, iv 0, iv 1, iv tn, rv ab, iv 0, .val (.int (tn + (1 : Int32))), .val (.int (own_gt xs 0))] [(.int tn), (.ref ab)]))
    refine Fin.step (fun _ k => Yo.iload Xy6.here hx (hb hby d17_53) rfl (Yo.i2b Xy6.here hx (hb hby d17_55) rfl k)) ?_
    show Fin p e below s _ _ _ (Ty6.setTop (mkF m 56 #[rv a1, rv a2, iv 0, iv 1, iv tn, rv ab, iv 0, .val (.int (tn + (1 : Int32))), .val (.int (own_gt xs 0))] [(.int ((own_gt xs 0).toInt8.toInt32)), (.int tn), (.ref ab)]))
    have voy7 := HV_ab
    obtain ⟨cly7, Ary7, qay7, say7, nay7, hay7, gay7⟩ := voy7
    obtain ⟨Ty7, hy7, Xy7, ey7, Wy7, sty7⟩ := stB Xy6 hx hZ eqy6 Ary7 (j := tn) (inb_of say7 S0.1) (g := (mkF m 56 #[rv a1, rv a2, iv 0, iv 1, iv tn, rv ab, iv 0, .val (.int (tn + (1 : Int32))), .val (.int (own_gt xs 0))] [(.int ((own_gt xs 0).toInt8.toInt32)), (.int tn), (.ref ab)])) rfl rfl (hb hby d17_56)
    have Vy7 : Arv Z hy7 ab kb .byte (16 : Int32) (List.set vs tn.toNatClampNeg (own_b (own_gt xs 0))) (.int 0) := Arv.set Ary7 qay7 say7 nay7 hay7 gay7 (fits_nar_byte _) Wy7 tn.toNatClampNeg rfl (by first | (simp only [List.length_set]; omega) | omega)
    have Zy7 : n0 ≤ hy7.size := Nat.le_trans Z0 (Keep.of_wr Wy7).1
    have Ky7 : Keep h0 hy7 [a1, ab] := K0.wr Wy7 m1
    have Ny7 := Fr.snoc Xy7 Ny6 g_ab
    refine Fin.step (sty7) ?_
    show Fin p e below s _ _ _ (Ty7.setTop (mkF m 57 #[rv a1, rv a2, iv 0, iv 1, iv tn, rv ab, iv 0, .val (.int (tn + (1 : Int32))), .val (.int (own_gt xs 0))] []))
    refine Fin.step (fun _ k => Yo.goto Xy7.here hx (pc0 := 57) (pc' := 98) rfl (hb hby d17_57) (by decide) (by decide) (Yo.iinc Xy7.here hx (hb hby d17_98) rfl (l' := #[rv a1, rv a2, iv 0, iv 1, iv tn, rv ab, iv 1, .val (.int (tn + (1 : Int32))), .val (.int (own_gt xs 0))]) rfl k)) ?_
    show Fin p e below s _ _ _ (Ty7.setTop (mkF m 101 #[rv a1, rv a2, iv 0, iv 1, iv tn, rv ab, iv 1, .val (.int (tn + (1 : Int32))), .val (.int (own_gt xs 0))] []))
    refine Fin.step (fun _ k => Yo.goto Xy7.here hx (pc0 := 101) (pc' := 26) rfl (hb hby d17_101) (by decide) (by decide) (Yo.iload Xy7.here hx (hb hby d17_26) rfl (Yo.iloadN Xy7.here hx (hb hby d17_28) rfl (Yo.icmpYes Xy7.here hx (pc0 := 29) (pc' := 104) rfl (hb hby d17_29) rfl (flt ((by decide) : ¬ ((1 : Int32) < (1 : Int32)))).2.1 (by decide) (by decide) (Yo.goto Xy7.here hx (pc0 := 104) (pc' := 119) rfl (hb hby d17_104) (by decide) (by decide) (Yo.aloadN Xy7.here hx (hb hby d17_119) rfl rfl (Yo.iload Xy7.here hx (hb hby d17_120) rfl (Yo.iloadN Xy7.here hx (hb hby d17_122) rfl k)))))))) ?_
    refine Fin.step (fun _ k => Yo.iadd Xy7.here hx (hb hby d17_123) rfl k) ?_
    show Fin p e below s _ _ _ (Ty7.setTop (mkF m 124 #[rv a1, rv a2, iv 0, iv 1, iv tn, rv ab, iv 1, .val (.int (tn + (1 : Int32))), .val (.int (own_gt xs 0))] [(.int (tn + (1 : Int32))), (.ref a1)]))
    refine Fin.step (fun _ k => Yo.iloadN Xy7.here hx (hb hby d17_124) rfl (Yo.isub Xy7.here hx (hb hby d17_125) rfl k)) ?_
    show Fin p e below s _ _ _ (Ty7.setTop (mkF m 126 #[rv a1, rv a2, iv 0, iv 1, iv tn, rv ab, iv 1, .val (.int (tn + (1 : Int32))), .val (.int (own_gt xs 0))] [(.int ((tn + (1 : Int32)) - (0 : Int32))), (.ref a1)]))
    obtain ⟨Ty8, hy8, Xy8, ey8, Wy8, sty8⟩ := putF Xy7 hx hZ hown (host := "") (Or.inl (W_ hw 85)) Via.refl ey7 (HF_a1_count.other Wy7 (Or.inl hn_a1_ab)) (HE_a1.wr Wy7) (Or.inl (W_ hw 86)) (W_ hw 45) (ty := .int) (by decide) rfl rfl (g := (mkF m 126 #[rv a1, rv a2, iv 0, iv 1, iv tn, rv ab, iv 1, .val (.int (tn + (1 : Int32))), .val (.int (own_gt xs 0))] [(.int ((tn + (1 : Int32)) - (0 : Int32))), (.ref a1)])) rfl rfl (hb hby d17_126)
    have Fwy8 : Fld Z hy8 a1 q3 "count" "I" (.int ((tn + (1 : Int32)) - (0 : Int32))) := (HF_a1_count.other Wy7 (Or.inl hn_a1_ab)).same Wy8
    have Zy8 : n0 ≤ hy8.size := Nat.le_trans Zy7 (Keep.of_wr Wy8).1
    have Ky8 : Keep h0 hy8 [a1, ab] := Ky7.wr Wy8 m0
    have Ny8 := Fr.snoc Xy8 Ny7 g_a1
    refine Fin.step (sty8) ?_
    show Fin p e below s _ _ _ (Ty8.setTop (mkF m 129 #[rv a1, rv a2, iv 0, iv 1, iv tn, rv ab, iv 1, .val (.int (tn + (1 : Int32))), .val (.int (own_gt xs 0))] []))
    refine Fin.retV Xy8 hx hret hlk (hb hby d17_129) (by decide) (by decide) ?_
    show Qac Z _ _ _ _ _ _ _ _ _ _ _ h0 n0 _ Ty8.heap _
    rw [ey8]
    exact ⟨rfl, Ny8, Ky8, ((HF_a1_value.other Wy7 (Or.inl hn_a1_ab)).other Wy8 (Or.inr (slot_ne (Or.inl (W_ hw 61)) (Or.inl (W_ hw 86)) (by decide) (t := (.array .byte)) (t' := .int) (by decide) (by decide)))), ((HF_a1_coder.other Wy7 (Or.inl hn_a1_ab)).other Wy8 (Or.inr (slot_ne (Or.inl (W_ hw 63)) (Or.inl (W_ hw 86)) (by decide) (t := .byte) (t' := .int) (by decide) (by decide)))), (Fld.cast Fwy8 (congrArg Value.int (own_s0 htm))), (Vy7.other Wy8 (Ne.symm hn_a1_ab))⟩
  · show Fin p e below s _ _ _ (Ty3.setTop (mkF m 26 #[rv a1, rv a2, iv 0, iv 2, iv tn, rv ab, iv 0, iv tn, .unset] []))
    refine Fin.step (fun _ k => Yo.iload Xy3.here hx (hb hby d17_26) rfl (Yo.iloadN Xy3.here hx (hb hby d17_28) rfl (Yo.icmpNo Xy3.here hx (hb hby d17_29) rfl (tlt ((by decide) : ((0 : Int32) < (2 : Int32)))).2.1 (Yo.aloadN Xy3.here hx (hb hby d17_32) rfl rfl (Yo.iload Xy3.here hx (hb hby d17_33) rfl k))))) ?_
    have voy9 := HV_a2
    obtain ⟨cly9, Ary9, qay9, say9, nay9, hay9, gay9⟩ := voy9
    have iny9 := inb_of (j := (0 : Int32)) say9 ⟨by decide, by decide⟩
    refine Fin.step (Xy3.caload hx (j := (0 : Int32)) (v := (.int (own_gt xs 0))) (by rw [ey3]; exact Ary9.1) (State.isArrayOf_alike hZ.alike Ary9.2.1) Ary9.2.2 iny9 (hay9.at iny9 (own_lg hxl 0).1) (g := (mkF m 35 #[rv a1, rv a2, iv 0, iv 2, iv tn, rv ab, iv 0, iv tn, .unset] [(.int 0), (.ref a2)])) rfl rfl (hb hby d17_35)) ?_
    show Fin p e below s _ _ _ (Ty3.setTop (mkF m 36 #[rv a1, rv a2, iv 0, iv 2, iv tn, rv ab, iv 0, iv tn, .unset] [(.int (own_gt xs 0))]))
    refine Fin.step (fun _ k => Yo.istore Xy3.here hx (hb hby d17_36) rfl (l' := #[rv a1, rv a2, iv 0, iv 2, iv tn, rv ab, iv 0, iv tn, .val (.int (own_gt xs 0))]) rfl (Yo.iload Xy3.here hx (hb hby d17_38) rfl k)) ?_
    obtain ⟨_, Ty10, Lcy10, Xy10, hQy10, sty10⟩ := packS (Jvm.LawKit.callS Xy3 hx (y := n19) hown (mvT hZ (W_ hw 117)) (mvT hZ (W_ hw 118)) (mvT hZ (W_ hw 119)) (mvT hZ (W_ hw 120)) (by decide) (backOf (W := 0) (rmce l Z a0 hw [] (own_gt xs 0) h0 n0 Z0 (own_le hxl 0)) hZ (W_ hw 120) (W_ hw 119) (by decide) (by decide)) (g := (mkF m 40 #[rv a1, rv a2, iv 0, iv 2, iv tn, rv ab, iv 0, iv tn, .val (.int (own_gt xs 0))] [(.int (own_gt xs 0))])) rfl (by rw [hml]; rfl) (argsL := [(.int (own_gt xs 0))]) (rest := []) (lenOf pd_3 rfl) rfl (lb rfl) (hb hby d17_40) (fun _ _ => ⟨rfl, ey3, (by decide : 0 + 0 ≤ _), (by decide : 0 + 0 ≤ _)⟩))
    obtain ⟨rfl, Nqy10, eqy10⟩ := hQy10
    have Ny10 := Fr.app Ny2 Nqy10
    refine Fin.step (sty10) ?_
    show Fin p e below s _ _ _ (Ty10.setTop (mkF m 43 #[rv a1, rv a2, iv 0, iv 2, iv tn, rv ab, iv 0, iv tn, .val (.int (own_gt xs 0))] [(.int 1)]))
    refine Fin.step (fun _ k => Yo.ifNo Xy10.here hx (hb hby d17_43) rfl ((if0 _ _).trans (feq ((by decide) : ¬ ((1 : Int32) = (0 : Int32)))).1) (Yo.aload Xy10.here hx (hb hby d17_46) rfl rfl (Yo.iload Xy10.here hx (hb hby d17_48) rfl (Yo.iinc Xy10.here hx (hb hby d17_50) rfl (l' := #[rv a1, rv a2, iv 0, iv 2, iv tn, rv ab, iv 0, .val (.int (tn + (1 : Int32))), .val (.int (own_gt xs 0))]) rfl k)))) ?_
    show Fin p e below s _ _ _ (Ty10.setTop (mkF m 53 #[rv a1, rv a2, iv 0, iv 2, iv tn, rv ab, iv 0, .val (.int (tn + (1 : Int32))), .val (.int (own_gt xs 0))] [(.int tn), (.ref ab)]))
    refine Fin.step (fun _ k => Yo.iload Xy10.here hx (hb hby d17_53) rfl (Yo.i2b Xy10.here hx (hb hby d17_55) rfl k)) ?_
    show Fin p e below s _ _ _ (Ty10.setTop (mkF m 56 #[rv a1, rv a2, iv 0, iv 2, iv tn, rv ab, iv 0, .val (.int (tn + (1 : Int32))), .val (.int (own_gt xs 0))] [(.int ((own_gt xs 0).toInt8.toInt32)), (.int tn), (.ref ab)]))
    have voy11 := HV_ab
    obtain ⟨cly11, Ary11, qay11, say11, nay11, hay11, gay11⟩ := voy11
    obtain ⟨Ty11, hy11, Xy11, ey11, Wy11, sty11⟩ := stB Xy10 hx hZ eqy10 Ary11 (j := tn) (inb_of say11 S0.1) (g := (mkF m 56 #[rv a1, rv a2, iv 0, iv 2, iv tn, rv ab, iv 0, .val (.int (tn + (1 : Int32))), .val (.int (own_gt xs 0))] [(.int ((own_gt xs 0).toInt8.toInt32)), (.int tn), (.ref ab)])) rfl rfl (hb hby d17_56)
    have Vy11 : Arv Z hy11 ab kb .byte (16 : Int32) (List.set vs tn.toNatClampNeg (own_b (own_gt xs 0))) (.int 0) := Arv.set Ary11 qay11 say11 nay11 hay11 gay11 (fits_nar_byte _) Wy11 tn.toNatClampNeg rfl (by first | (simp only [List.length_set]; omega) | omega)
    have Zy11 : n0 ≤ hy11.size := Nat.le_trans Z0 (Keep.of_wr Wy11).1
    have Ky11 : Keep h0 hy11 [a1, ab] := K0.wr Wy11 m1
    have Ny11 := Fr.snoc Xy11 Ny10 g_ab
    refine Fin.step (sty11) ?_
    show Fin p e below s _ _ _ (Ty11.setTop (mkF m 57 #[rv a1, rv a2, iv 0, iv 2, iv tn, rv ab, iv 0, .val (.int (tn + (1 : Int32))), .val (.int (own_gt xs 0))] []))
    refine Fin.step (fun _ k => Yo.goto Xy11.here hx (pc0 := 57) (pc' := 98) rfl (hb hby d17_57) (by decide) (by decide) (Yo.iinc Xy11.here hx (hb hby d17_98) rfl (l' := #[rv a1, rv a2, iv 0, iv 2, iv tn, rv ab, iv 1, .val (.int (tn + (1 : Int32))), .val (.int (own_gt xs 0))]) rfl k)) ?_
    show Fin p e below s _ _ _ (Ty11.setTop (mkF m 101 #[rv a1, rv a2, iv 0, iv 2, iv tn, rv ab, iv 1, .val (.int (tn + (1 : Int32))), .val (.int (own_gt xs 0))] []))
    refine Fin.step (fun _ k => Yo.goto Xy11.here hx (pc0 := 101) (pc' := 26) rfl (hb hby d17_101) (by decide) (by decide) (Yo.iload Xy11.here hx (hb hby d17_26) rfl (Yo.iloadN Xy11.here hx (hb hby d17_28) rfl (Yo.icmpNo Xy11.here hx (hb hby d17_29) rfl (tlt ((by decide) : ((1 : Int32) < (2 : Int32)))).2.1 (Yo.aloadN Xy11.here hx (hb hby d17_32) rfl rfl (Yo.iload Xy11.here hx (hb hby d17_33) rfl k)))))) ?_
    have voy12 := (HV_a2.other Wy11 hn_a2_ab)
    obtain ⟨cly12, Ary12, qay12, say12, nay12, hay12, gay12⟩ := voy12
    have iny12 := inb_of (j := (1 : Int32)) say12 ⟨by decide, by decide⟩
    refine Fin.step (Xy11.caload hx (j := (1 : Int32)) (v := (.int (own_gt xs 1))) (by rw [ey11]; exact Ary12.1) (State.isArrayOf_alike hZ.alike Ary12.2.1) Ary12.2.2 iny12 (hay12.at iny12 (own_lg hxl 1).1) (g := (mkF m 35 #[rv a1, rv a2, iv 0, iv 2, iv tn, rv ab, iv 1, .val (.int (tn + (1 : Int32))), .val (.int (own_gt xs 0))] [(.int 1), (.ref a2)])) rfl rfl (hb hby d17_35)) ?_
    show Fin p e below s _ _ _ (Ty11.setTop (mkF m 36 #[rv a1, rv a2, iv 0, iv 2, iv tn, rv ab, iv 1, .val (.int (tn + (1 : Int32))), .val (.int (own_gt xs 0))] [(.int (own_gt xs 1))]))
    refine Fin.step (fun _ k => Yo.istore Xy11.here hx (hb hby d17_36) rfl (l' := #[rv a1, rv a2, iv 0, iv 2, iv tn, rv ab, iv 1, .val (.int (tn + (1 : Int32))), .val (.int (own_gt xs 1))]) rfl (Yo.iload Xy11.here hx (hb hby d17_38) rfl k)) ?_
    obtain ⟨_, Ty13, Lcy13, Xy13, hQy13, sty13⟩ := packS (Jvm.LawKit.callS Xy11 hx (y := n19) hown (mvT hZ (W_ hw 117)) (mvT hZ (W_ hw 118)) (mvT hZ (W_ hw 119)) (mvT hZ (W_ hw 120)) (by decide) (backOf (W := 0) (rmce l Z a0 hw [] (own_gt xs 1) hy11 n0 Zy11 (own_le hxl 1)) hZ (W_ hw 120) (W_ hw 119) (by decide) (by decide)) (g := (mkF m 40 #[rv a1, rv a2, iv 0, iv 2, iv tn, rv ab, iv 1, .val (.int (tn + (1 : Int32))), .val (.int (own_gt xs 1))] [(.int (own_gt xs 1))])) rfl (by rw [hml]; rfl) (argsL := [(.int (own_gt xs 1))]) (rest := []) (lenOf pd_3 rfl) rfl (lb rfl) (hb hby d17_40) (fun _ _ => ⟨rfl, ey11, (by decide : 0 + 0 ≤ _), (by decide : 0 + 0 ≤ _)⟩))
    obtain ⟨rfl, Nqy13, eqy13⟩ := hQy13
    have Ny13 := Fr.app Ny11 Nqy13
    refine Fin.step (sty13) ?_
    show Fin p e below s _ _ _ (Ty13.setTop (mkF m 43 #[rv a1, rv a2, iv 0, iv 2, iv tn, rv ab, iv 1, .val (.int (tn + (1 : Int32))), .val (.int (own_gt xs 1))] [(.int 1)]))
    refine Fin.step (fun _ k => Yo.ifNo Xy13.here hx (hb hby d17_43) rfl ((if0 _ _).trans (feq ((by decide) : ¬ ((1 : Int32) = (0 : Int32)))).1) (Yo.aload Xy13.here hx (hb hby d17_46) rfl rfl (Yo.iload Xy13.here hx (hb hby d17_48) rfl (Yo.iinc Xy13.here hx (hb hby d17_50) rfl (l' := #[rv a1, rv a2, iv 0, iv 2, iv tn, rv ab, iv 1, .val (.int ((tn + (1 : Int32)) + (1 : Int32))), .val (.int (own_gt xs 1))]) rfl k)))) ?_
    show Fin p e below s _ _ _ (Ty13.setTop (mkF m 53 #[rv a1, rv a2, iv 0, iv 2, iv tn, rv ab, iv 1, .val (.int ((tn + (1 : Int32)) + (1 : Int32))), .val (.int (own_gt xs 1))] [(.int (tn + (1 : Int32))), (.ref ab)]))
    refine Fin.step (fun _ k => Yo.iload Xy13.here hx (hb hby d17_53) rfl (Yo.i2b Xy13.here hx (hb hby d17_55) rfl k)) ?_
    show Fin p e below s _ _ _ (Ty13.setTop (mkF m 56 #[rv a1, rv a2, iv 0, iv 2, iv tn, rv ab, iv 1, .val (.int ((tn + (1 : Int32)) + (1 : Int32))), .val (.int (own_gt xs 1))] [(.int ((own_gt xs 1).toInt8.toInt32)), (.int (tn + (1 : Int32))), (.ref ab)]))
    have voy14 := Vy11
    obtain ⟨cly14, Ary14, qay14, say14, nay14, hay14, gay14⟩ := voy14
    obtain ⟨Ty14, hy14, Xy14, ey14, Wy14, sty14⟩ := stB Xy13 hx hZ eqy13 Ary14 (j := (tn + (1 : Int32))) (inb_of say14 S1.1) (g := (mkF m 56 #[rv a1, rv a2, iv 0, iv 2, iv tn, rv ab, iv 1, .val (.int ((tn + (1 : Int32)) + (1 : Int32))), .val (.int (own_gt xs 1))] [(.int ((own_gt xs 1).toInt8.toInt32)), (.int (tn + (1 : Int32))), (.ref ab)])) rfl rfl (hb hby d17_56)
    have Vy14 : Arv Z hy14 ab kb .byte (16 : Int32) (List.set (List.set vs tn.toNatClampNeg (own_b (own_gt xs 0))) (tn.toNatClampNeg + 1) (own_b (own_gt xs 1))) (.int 0) := Arv.set Ary14 qay14 say14 nay14 hay14 gay14 (fits_nar_byte _) Wy14 (tn.toNatClampNeg + 1) S0.2.2 (by first | (simp only [List.length_set]; omega) | omega)
    have Zy14 : n0 ≤ hy14.size := Nat.le_trans Zy11 (Keep.of_wr Wy14).1
    have Ky14 : Keep h0 hy14 [a1, ab] := Ky11.wr Wy14 m1
    have Ny14 := Fr.snoc Xy14 Ny13 g_ab
    refine Fin.step (sty14) ?_
    show Fin p e below s _ _ _ (Ty14.setTop (mkF m 57 #[rv a1, rv a2, iv 0, iv 2, iv tn, rv ab, iv 1, .val (.int ((tn + (1 : Int32)) + (1 : Int32))), .val (.int (own_gt xs 1))] []))
    refine Fin.step (fun _ k => Yo.goto Xy14.here hx (pc0 := 57) (pc' := 98) rfl (hb hby d17_57) (by decide) (by decide) (Yo.iinc Xy14.here hx (hb hby d17_98) rfl (l' := #[rv a1, rv a2, iv 0, iv 2, iv tn, rv ab, iv 2, .val (.int ((tn + (1 : Int32)) + (1 : Int32))), .val (.int (own_gt xs 1))]) rfl k)) ?_
    show Fin p e below s _ _ _ (Ty14.setTop (mkF m 101 #[rv a1, rv a2, iv 0, iv 2, iv tn, rv ab, iv 2, .val (.int ((tn + (1 : Int32)) + (1 : Int32))), .val (.int (own_gt xs 1))] []))
    refine Fin.step (fun _ k => Yo.goto Xy14.here hx (pc0 := 101) (pc' := 26) rfl (hb hby d17_101) (by decide) (by decide) (Yo.iload Xy14.here hx (hb hby d17_26) rfl (Yo.iloadN Xy14.here hx (hb hby d17_28) rfl (Yo.icmpYes Xy14.here hx (pc0 := 29) (pc' := 104) rfl (hb hby d17_29) rfl (flt ((by decide) : ¬ ((2 : Int32) < (2 : Int32)))).2.1 (by decide) (by decide) (Yo.goto Xy14.here hx (pc0 := 104) (pc' := 119) rfl (hb hby d17_104) (by decide) (by decide) (Yo.aloadN Xy14.here hx (hb hby d17_119) rfl rfl (Yo.iload Xy14.here hx (hb hby d17_120) rfl (Yo.iloadN Xy14.here hx (hb hby d17_122) rfl k)))))))) ?_
    refine Fin.step (fun _ k => Yo.iadd Xy14.here hx (hb hby d17_123) rfl k) ?_
    show Fin p e below s _ _ _ (Ty14.setTop (mkF m 124 #[rv a1, rv a2, iv 0, iv 2, iv tn, rv ab, iv 2, .val (.int ((tn + (1 : Int32)) + (1 : Int32))), .val (.int (own_gt xs 1))] [(.int (tn + (2 : Int32))), (.ref a1)]))
    refine Fin.step (fun _ k => Yo.iloadN Xy14.here hx (hb hby d17_124) rfl (Yo.isub Xy14.here hx (hb hby d17_125) rfl k)) ?_
    show Fin p e below s _ _ _ (Ty14.setTop (mkF m 126 #[rv a1, rv a2, iv 0, iv 2, iv tn, rv ab, iv 2, .val (.int ((tn + (1 : Int32)) + (1 : Int32))), .val (.int (own_gt xs 1))] [(.int ((tn + (2 : Int32)) - (0 : Int32))), (.ref a1)]))
    obtain ⟨Ty15, hy15, Xy15, ey15, Wy15, sty15⟩ := putF Xy14 hx hZ hown (host := "") (Or.inl (W_ hw 85)) Via.refl ey14 ((HF_a1_count.other Wy11 (Or.inl hn_a1_ab)).other Wy14 (Or.inl hn_a1_ab)) ((HE_a1.wr Wy11).wr Wy14) (Or.inl (W_ hw 86)) (W_ hw 45) (ty := .int) (by decide) rfl rfl (g := (mkF m 126 #[rv a1, rv a2, iv 0, iv 2, iv tn, rv ab, iv 2, .val (.int ((tn + (1 : Int32)) + (1 : Int32))), .val (.int (own_gt xs 1))] [(.int ((tn + (2 : Int32)) - (0 : Int32))), (.ref a1)])) rfl rfl (hb hby d17_126)
    have Fwy15 : Fld Z hy15 a1 q3 "count" "I" (.int ((tn + (2 : Int32)) - (0 : Int32))) := ((HF_a1_count.other Wy11 (Or.inl hn_a1_ab)).other Wy14 (Or.inl hn_a1_ab)).same Wy15
    have Zy15 : n0 ≤ hy15.size := Nat.le_trans Zy14 (Keep.of_wr Wy15).1
    have Ky15 : Keep h0 hy15 [a1, ab] := Ky14.wr Wy15 m0
    have Ny15 := Fr.snoc Xy15 Ny14 g_a1
    refine Fin.step (sty15) ?_
    show Fin p e below s _ _ _ (Ty15.setTop (mkF m 129 #[rv a1, rv a2, iv 0, iv 2, iv tn, rv ab, iv 2, .val (.int ((tn + (1 : Int32)) + (1 : Int32))), .val (.int (own_gt xs 1))] []))
    refine Fin.retV Xy15 hx hret hlk (hb hby d17_129) (by decide) (by decide) ?_
    show Qac Z _ _ _ _ _ _ _ _ _ _ _ h0 n0 _ Ty15.heap _
    rw [ey15]
    exact ⟨rfl, Ny15, Ky15, (((HF_a1_value.other Wy11 (Or.inl hn_a1_ab)).other Wy14 (Or.inl hn_a1_ab)).other Wy15 (Or.inr (slot_ne (Or.inl (W_ hw 61)) (Or.inl (W_ hw 86)) (by decide) (t := (.array .byte)) (t' := .int) (by decide) (by decide)))), (((HF_a1_coder.other Wy11 (Or.inl hn_a1_ab)).other Wy14 (Or.inl hn_a1_ab)).other Wy15 (Or.inr (slot_ne (Or.inl (W_ hw 63)) (Or.inl (W_ hw 86)) (by decide) (t := .byte) (t' := .int) (by decide) (by decide)))), (Fld.cast Fwy15 (congrArg Value.int (own_s0 htm))), (Vy14.other Wy15 (Ne.symm hn_a1_ab))⟩
  · show Fin p e below s _ _ _ (Ty3.setTop (mkF m 26 #[rv a1, rv a2, iv 0, iv 3, iv tn, rv ab, iv 0, iv tn, .unset] []))
    refine Fin.step (fun _ k => Yo.iload Xy3.here hx (hb hby d17_26) rfl (Yo.iloadN Xy3.here hx (hb hby d17_28) rfl (Yo.icmpNo Xy3.here hx (hb hby d17_29) rfl (tlt ((by decide) : ((0 : Int32) < (3 : Int32)))).2.1 (Yo.aloadN Xy3.here hx (hb hby d17_32) rfl rfl (Yo.iload Xy3.here hx (hb hby d17_33) rfl k))))) ?_
    have voy16 := HV_a2
    obtain ⟨cly16, Ary16, qay16, say16, nay16, hay16, gay16⟩ := voy16
    have iny16 := inb_of (j := (0 : Int32)) say16 ⟨by decide, by decide⟩
    refine Fin.step (Xy3.caload hx (j := (0 : Int32)) (v := (.int (own_gt xs 0))) (by rw [ey3]; exact Ary16.1) (State.isArrayOf_alike hZ.alike Ary16.2.1) Ary16.2.2 iny16 (hay16.at iny16 (own_lg hxl 0).1) (g := (mkF m 35 #[rv a1, rv a2, iv 0, iv 3, iv tn, rv ab, iv 0, iv tn, .unset] [(.int 0), (.ref a2)])) rfl rfl (hb hby d17_35)) ?_
    show Fin p e below s _ _ _ (Ty3.setTop (mkF m 36 #[rv a1, rv a2, iv 0, iv 3, iv tn, rv ab, iv 0, iv tn, .unset] [(.int (own_gt xs 0))]))
    refine Fin.step (fun _ k => Yo.istore Xy3.here hx (hb hby d17_36) rfl (l' := #[rv a1, rv a2, iv 0, iv 3, iv tn, rv ab, iv 0, iv tn, .val (.int (own_gt xs 0))]) rfl (Yo.iload Xy3.here hx (hb hby d17_38) rfl k)) ?_
    obtain ⟨_, Ty17, Lcy17, Xy17, hQy17, sty17⟩ := packS (Jvm.LawKit.callS Xy3 hx (y := n19) hown (mvT hZ (W_ hw 117)) (mvT hZ (W_ hw 118)) (mvT hZ (W_ hw 119)) (mvT hZ (W_ hw 120)) (by decide) (backOf (W := 0) (rmce l Z a0 hw [] (own_gt xs 0) h0 n0 Z0 (own_le hxl 0)) hZ (W_ hw 120) (W_ hw 119) (by decide) (by decide)) (g := (mkF m 40 #[rv a1, rv a2, iv 0, iv 3, iv tn, rv ab, iv 0, iv tn, .val (.int (own_gt xs 0))] [(.int (own_gt xs 0))])) rfl (by rw [hml]; rfl) (argsL := [(.int (own_gt xs 0))]) (rest := []) (lenOf pd_3 rfl) rfl (lb rfl) (hb hby d17_40) (fun _ _ => ⟨rfl, ey3, (by decide : 0 + 0 ≤ _), (by decide : 0 + 0 ≤ _)⟩))
    obtain ⟨rfl, Nqy17, eqy17⟩ := hQy17
    have Ny17 := Fr.app Ny2 Nqy17
    refine Fin.step (sty17) ?_
    show Fin p e below s _ _ _ (Ty17.setTop (mkF m 43 #[rv a1, rv a2, iv 0, iv 3, iv tn, rv ab, iv 0, iv tn, .val (.int (own_gt xs 0))] [(.int 1)]))
    refine Fin.step (fun _ k => Yo.ifNo Xy17.here hx (hb hby d17_43) rfl ((if0 _ _).trans (feq ((by decide) : ¬ ((1 : Int32) = (0 : Int32)))).1) (Yo.aload Xy17.here hx (hb hby d17_46) rfl rfl (Yo.iload Xy17.here hx (hb hby d17_48) rfl (Yo.iinc Xy17.here hx (hb hby d17_50) rfl (l' := #[rv a1, rv a2, iv 0, iv 3, iv tn, rv ab, iv 0, .val (.int (tn + (1 : Int32))), .val (.int (own_gt xs 0))]) rfl k)))) ?_
    show Fin p e below s _ _ _ (Ty17.setTop (mkF m 53 #[rv a1, rv a2, iv 0, iv 3, iv tn, rv ab, iv 0, .val (.int (tn + (1 : Int32))), .val (.int (own_gt xs 0))] [(.int tn), (.ref ab)]))
    refine Fin.step (fun _ k => Yo.iload Xy17.here hx (hb hby d17_53) rfl (Yo.i2b Xy17.here hx (hb hby d17_55) rfl k)) ?_
    show Fin p e below s _ _ _ (Ty17.setTop (mkF m 56 #[rv a1, rv a2, iv 0, iv 3, iv tn, rv ab, iv 0, .val (.int (tn + (1 : Int32))), .val (.int (own_gt xs 0))] [(.int ((own_gt xs 0).toInt8.toInt32)), (.int tn), (.ref ab)]))
    have voy18 := HV_ab
    obtain ⟨cly18, Ary18, qay18, say18, nay18, hay18, gay18⟩ := voy18
    obtain ⟨Ty18, hy18, Xy18, ey18, Wy18, sty18⟩ := stB Xy17 hx hZ eqy17 Ary18 (j := tn) (inb_of say18 S0.1) (g := (mkF m 56 #[rv a1, rv a2, iv 0, iv 3, iv tn, rv ab, iv 0, .val (.int (tn + (1 : Int32))), .val (.int (own_gt xs 0))] [(.int ((own_gt xs 0).toInt8.toInt32)), (.int tn), (.ref ab)])) rfl rfl (hb hby d17_56)
    have Vy18 : Arv Z hy18 ab kb .byte (16 : Int32) (List.set vs tn.toNatClampNeg (own_b (own_gt xs 0))) (.int 0) := Arv.set Ary18 qay18 say18 nay18 hay18 gay18 (fits_nar_byte _) Wy18 tn.toNatClampNeg rfl (by first | (simp only [List.length_set]; omega) | omega)
    have Zy18 : n0 ≤ hy18.size := Nat.le_trans Z0 (Keep.of_wr Wy18).1
    have Ky18 : Keep h0 hy18 [a1, ab] := K0.wr Wy18 m1
    have Ny18 := Fr.snoc Xy18 Ny17 g_ab
    refine Fin.step (sty18) ?_
    show Fin p e below s _ _ _ (Ty18.setTop (mkF m 57 #[rv a1, rv a2, iv 0, iv 3, iv tn, rv ab, iv 0, .val (.int (tn + (1 : Int32))), .val (.int (own_gt xs 0))] []))
    refine Fin.step (fun _ k => Yo.goto Xy18.here hx (pc0 := 57) (pc' := 98) rfl (hb hby d17_57) (by decide) (by decide) (Yo.iinc Xy18.here hx (hb hby d17_98) rfl (l' := #[rv a1, rv a2, iv 0, iv 3, iv tn, rv ab, iv 1, .val (.int (tn + (1 : Int32))), .val (.int (own_gt xs 0))]) rfl k)) ?_
    show Fin p e below s _ _ _ (Ty18.setTop (mkF m 101 #[rv a1, rv a2, iv 0, iv 3, iv tn, rv ab, iv 1, .val (.int (tn + (1 : Int32))), .val (.int (own_gt xs 0))] []))
    refine Fin.step (fun _ k => Yo.goto Xy18.here hx (pc0 := 101) (pc' := 26) rfl (hb hby d17_101) (by decide) (by decide) (Yo.iload Xy18.here hx (hb hby d17_26) rfl (Yo.iloadN Xy18.here hx (hb hby d17_28) rfl (Yo.icmpNo Xy18.here hx (hb hby d17_29) rfl (tlt ((by decide) : ((1 : Int32) < (3 : Int32)))).2.1 (Yo.aloadN Xy18.here hx (hb hby d17_32) rfl rfl (Yo.iload Xy18.here hx (hb hby d17_33) rfl k)))))) ?_
    have voy19 := (HV_a2.other Wy18 hn_a2_ab)
    obtain ⟨cly19, Ary19, qay19, say19, nay19, hay19, gay19⟩ := voy19
    have iny19 := inb_of (j := (1 : Int32)) say19 ⟨by decide, by decide⟩
    refine Fin.step (Xy18.caload hx (j := (1 : Int32)) (v := (.int (own_gt xs 1))) (by rw [ey18]; exact Ary19.1) (State.isArrayOf_alike hZ.alike Ary19.2.1) Ary19.2.2 iny19 (hay19.at iny19 (own_lg hxl 1).1) (g := (mkF m 35 #[rv a1, rv a2, iv 0, iv 3, iv tn, rv ab, iv 1, .val (.int (tn + (1 : Int32))), .val (.int (own_gt xs 0))] [(.int 1), (.ref a2)])) rfl rfl (hb hby d17_35)) ?_
    show Fin p e below s _ _ _ (Ty18.setTop (mkF m 36 #[rv a1, rv a2, iv 0, iv 3, iv tn, rv ab, iv 1, .val (.int (tn + (1 : Int32))), .val (.int (own_gt xs 0))] [(.int (own_gt xs 1))]))
    refine Fin.step (fun _ k => Yo.istore Xy18.here hx (hb hby d17_36) rfl (l' := #[rv a1, rv a2, iv 0, iv 3, iv tn, rv ab, iv 1, .val (.int (tn + (1 : Int32))), .val (.int (own_gt xs 1))]) rfl (Yo.iload Xy18.here hx (hb hby d17_38) rfl k)) ?_
    obtain ⟨_, Ty20, Lcy20, Xy20, hQy20, sty20⟩ := packS (Jvm.LawKit.callS Xy18 hx (y := n19) hown (mvT hZ (W_ hw 117)) (mvT hZ (W_ hw 118)) (mvT hZ (W_ hw 119)) (mvT hZ (W_ hw 120)) (by decide) (backOf (W := 0) (rmce l Z a0 hw [] (own_gt xs 1) hy18 n0 Zy18 (own_le hxl 1)) hZ (W_ hw 120) (W_ hw 119) (by decide) (by decide)) (g := (mkF m 40 #[rv a1, rv a2, iv 0, iv 3, iv tn, rv ab, iv 1, .val (.int (tn + (1 : Int32))), .val (.int (own_gt xs 1))] [(.int (own_gt xs 1))])) rfl (by rw [hml]; rfl) (argsL := [(.int (own_gt xs 1))]) (rest := []) (lenOf pd_3 rfl) rfl (lb rfl) (hb hby d17_40) (fun _ _ => ⟨rfl, ey18, (by decide : 0 + 0 ≤ _), (by decide : 0 + 0 ≤ _)⟩))
    obtain ⟨rfl, Nqy20, eqy20⟩ := hQy20
    have Ny20 := Fr.app Ny18 Nqy20
    refine Fin.step (sty20) ?_
    show Fin p e below s _ _ _ (Ty20.setTop (mkF m 43 #[rv a1, rv a2, iv 0, iv 3, iv tn, rv ab, iv 1, .val (.int (tn + (1 : Int32))), .val (.int (own_gt xs 1))] [(.int 1)]))
    refine Fin.step (fun _ k => Yo.ifNo Xy20.here hx (hb hby d17_43) rfl ((if0 _ _).trans (feq ((by decide) : ¬ ((1 : Int32) = (0 : Int32)))).1) (Yo.aload Xy20.here hx (hb hby d17_46) rfl rfl (Yo.iload Xy20.here hx (hb hby d17_48) rfl (Yo.iinc Xy20.here hx (hb hby d17_50) rfl (l' := #[rv a1, rv a2, iv 0, iv 3, iv tn, rv ab, iv 1, .val (.int ((tn + (1 : Int32)) + (1 : Int32))), .val (.int (own_gt xs 1))]) rfl k)))) ?_
    show Fin p e below s _ _ _ (Ty20.setTop (mkF m 53 #[rv a1, rv a2, iv 0, iv 3, iv tn, rv ab, iv 1, .val (.int ((tn + (1 : Int32)) + (1 : Int32))), .val (.int (own_gt xs 1))] [(.int (tn + (1 : Int32))), (.ref ab)]))
    refine Fin.step (fun _ k => Yo.iload Xy20.here hx (hb hby d17_53) rfl (Yo.i2b Xy20.here hx (hb hby d17_55) rfl k)) ?_
    show Fin p e below s _ _ _ (Ty20.setTop (mkF m 56 #[rv a1, rv a2, iv 0, iv 3, iv tn, rv ab, iv 1, .val (.int ((tn + (1 : Int32)) + (1 : Int32))), .val (.int (own_gt xs 1))] [(.int ((own_gt xs 1).toInt8.toInt32)), (.int (tn + (1 : Int32))), (.ref ab)]))
    have voy21 := Vy18
    obtain ⟨cly21, Ary21, qay21, say21, nay21, hay21, gay21⟩ := voy21
    obtain ⟨Ty21, hy21, Xy21, ey21, Wy21, sty21⟩ := stB Xy20 hx hZ eqy20 Ary21 (j := (tn + (1 : Int32))) (inb_of say21 S1.1) (g := (mkF m 56 #[rv a1, rv a2, iv 0, iv 3, iv tn, rv ab, iv 1, .val (.int ((tn + (1 : Int32)) + (1 : Int32))), .val (.int (own_gt xs 1))] [(.int ((own_gt xs 1).toInt8.toInt32)), (.int (tn + (1 : Int32))), (.ref ab)])) rfl rfl (hb hby d17_56)
    have Vy21 : Arv Z hy21 ab kb .byte (16 : Int32) (List.set (List.set vs tn.toNatClampNeg (own_b (own_gt xs 0))) (tn.toNatClampNeg + 1) (own_b (own_gt xs 1))) (.int 0) := Arv.set Ary21 qay21 say21 nay21 hay21 gay21 (fits_nar_byte _) Wy21 (tn.toNatClampNeg + 1) S0.2.2 (by first | (simp only [List.length_set]; omega) | omega)
    have Zy21 : n0 ≤ hy21.size := Nat.le_trans Zy18 (Keep.of_wr Wy21).1
    have Ky21 : Keep h0 hy21 [a1, ab] := Ky18.wr Wy21 m1
    have Ny21 := Fr.snoc Xy21 Ny20 g_ab
    refine Fin.step (sty21) ?_
    show Fin p e below s _ _ _ (Ty21.setTop (mkF m 57 #[rv a1, rv a2, iv 0, iv 3, iv tn, rv ab, iv 1, .val (.int ((tn + (1 : Int32)) + (1 : Int32))), .val (.int (own_gt xs 1))] []))
    refine Fin.step (fun _ k => Yo.goto Xy21.here hx (pc0 := 57) (pc' := 98) rfl (hb hby d17_57) (by decide) (by decide) (Yo.iinc Xy21.here hx (hb hby d17_98) rfl (l' := #[rv a1, rv a2, iv 0, iv 3, iv tn, rv ab, iv 2, .val (.int ((tn + (1 : Int32)) + (1 : Int32))), .val (.int (own_gt xs 1))]) rfl k)) ?_
    show Fin p e below s _ _ _ (Ty21.setTop (mkF m 101 #[rv a1, rv a2, iv 0, iv 3, iv tn, rv ab, iv 2, .val (.int ((tn + (1 : Int32)) + (1 : Int32))), .val (.int (own_gt xs 1))] []))
    refine Fin.step (fun _ k => Yo.goto Xy21.here hx (pc0 := 101) (pc' := 26) rfl (hb hby d17_101) (by decide) (by decide) (Yo.iload Xy21.here hx (hb hby d17_26) rfl (Yo.iloadN Xy21.here hx (hb hby d17_28) rfl (Yo.icmpNo Xy21.here hx (hb hby d17_29) rfl (tlt ((by decide) : ((2 : Int32) < (3 : Int32)))).2.1 (Yo.aloadN Xy21.here hx (hb hby d17_32) rfl rfl (Yo.iload Xy21.here hx (hb hby d17_33) rfl k)))))) ?_
    have voy22 := ((HV_a2.other Wy18 hn_a2_ab).other Wy21 hn_a2_ab)
    obtain ⟨cly22, Ary22, qay22, say22, nay22, hay22, gay22⟩ := voy22
    have iny22 := inb_of (j := (2 : Int32)) say22 ⟨by decide, by decide⟩
    refine Fin.step (Xy21.caload hx (j := (2 : Int32)) (v := (.int (own_gt xs 2))) (by rw [ey21]; exact Ary22.1) (State.isArrayOf_alike hZ.alike Ary22.2.1) Ary22.2.2 iny22 (hay22.at iny22 (own_lg hxl 2).1) (g := (mkF m 35 #[rv a1, rv a2, iv 0, iv 3, iv tn, rv ab, iv 2, .val (.int ((tn + (1 : Int32)) + (1 : Int32))), .val (.int (own_gt xs 1))] [(.int 2), (.ref a2)])) rfl rfl (hb hby d17_35)) ?_
    show Fin p e below s _ _ _ (Ty21.setTop (mkF m 36 #[rv a1, rv a2, iv 0, iv 3, iv tn, rv ab, iv 2, .val (.int ((tn + (1 : Int32)) + (1 : Int32))), .val (.int (own_gt xs 1))] [(.int (own_gt xs 2))]))
    refine Fin.step (fun _ k => Yo.istore Xy21.here hx (hb hby d17_36) rfl (l' := #[rv a1, rv a2, iv 0, iv 3, iv tn, rv ab, iv 2, .val (.int ((tn + (1 : Int32)) + (1 : Int32))), .val (.int (own_gt xs 2))]) rfl (Yo.iload Xy21.here hx (hb hby d17_38) rfl k)) ?_
    obtain ⟨_, Ty23, Lcy23, Xy23, hQy23, sty23⟩ := packS (Jvm.LawKit.callS Xy21 hx (y := n19) hown (mvT hZ (W_ hw 117)) (mvT hZ (W_ hw 118)) (mvT hZ (W_ hw 119)) (mvT hZ (W_ hw 120)) (by decide) (backOf (W := 0) (rmce l Z a0 hw [] (own_gt xs 2) hy21 n0 Zy21 (own_le hxl 2)) hZ (W_ hw 120) (W_ hw 119) (by decide) (by decide)) (g := (mkF m 40 #[rv a1, rv a2, iv 0, iv 3, iv tn, rv ab, iv 2, .val (.int ((tn + (1 : Int32)) + (1 : Int32))), .val (.int (own_gt xs 2))] [(.int (own_gt xs 2))])) rfl (by rw [hml]; rfl) (argsL := [(.int (own_gt xs 2))]) (rest := []) (lenOf pd_3 rfl) rfl (lb rfl) (hb hby d17_40) (fun _ _ => ⟨rfl, ey21, (by decide : 0 + 0 ≤ _), (by decide : 0 + 0 ≤ _)⟩))
    obtain ⟨rfl, Nqy23, eqy23⟩ := hQy23
    have Ny23 := Fr.app Ny21 Nqy23
    refine Fin.step (sty23) ?_
    show Fin p e below s _ _ _ (Ty23.setTop (mkF m 43 #[rv a1, rv a2, iv 0, iv 3, iv tn, rv ab, iv 2, .val (.int ((tn + (1 : Int32)) + (1 : Int32))), .val (.int (own_gt xs 2))] [(.int 1)]))
    refine Fin.step (fun _ k => Yo.ifNo Xy23.here hx (hb hby d17_43) rfl ((if0 _ _).trans (feq ((by decide) : ¬ ((1 : Int32) = (0 : Int32)))).1) (Yo.aload Xy23.here hx (hb hby d17_46) rfl rfl (Yo.iload Xy23.here hx (hb hby d17_48) rfl (Yo.iinc Xy23.here hx (hb hby d17_50) rfl (l' := #[rv a1, rv a2, iv 0, iv 3, iv tn, rv ab, iv 2, .val (.int (((tn + (1 : Int32)) + (1 : Int32)) + (1 : Int32))), .val (.int (own_gt xs 2))]) rfl k)))) ?_
    show Fin p e below s _ _ _ (Ty23.setTop (mkF m 53 #[rv a1, rv a2, iv 0, iv 3, iv tn, rv ab, iv 2, .val (.int (((tn + (1 : Int32)) + (1 : Int32)) + (1 : Int32))), .val (.int (own_gt xs 2))] [(.int ((tn + (1 : Int32)) + (1 : Int32))), (.ref ab)]))
    refine Fin.step (fun _ k => Yo.iload Xy23.here hx (hb hby d17_53) rfl (Yo.i2b Xy23.here hx (hb hby d17_55) rfl k)) ?_
    show Fin p e below s _ _ _ (Ty23.setTop (mkF m 56 #[rv a1, rv a2, iv 0, iv 3, iv tn, rv ab, iv 2, .val (.int (((tn + (1 : Int32)) + (1 : Int32)) + (1 : Int32))), .val (.int (own_gt xs 2))] [(.int ((own_gt xs 2).toInt8.toInt32)), (.int ((tn + (1 : Int32)) + (1 : Int32))), (.ref ab)]))
    have voy24 := Vy21
    obtain ⟨cly24, Ary24, qay24, say24, nay24, hay24, gay24⟩ := voy24
    obtain ⟨Ty24, hy24, Xy24, ey24, Wy24, sty24⟩ := stB Xy23 hx hZ eqy23 Ary24 (j := ((tn + (1 : Int32)) + (1 : Int32))) (inb_of say24 S2.1) (g := (mkF m 56 #[rv a1, rv a2, iv 0, iv 3, iv tn, rv ab, iv 2, .val (.int (((tn + (1 : Int32)) + (1 : Int32)) + (1 : Int32))), .val (.int (own_gt xs 2))] [(.int ((own_gt xs 2).toInt8.toInt32)), (.int ((tn + (1 : Int32)) + (1 : Int32))), (.ref ab)])) rfl rfl (hb hby d17_56)
    have Vy24 : Arv Z hy24 ab kb .byte (16 : Int32) (List.set (List.set (List.set vs tn.toNatClampNeg (own_b (own_gt xs 0))) (tn.toNatClampNeg + 1) (own_b (own_gt xs 1))) (tn.toNatClampNeg + 1 + 1) (own_b (own_gt xs 2))) (.int 0) := Arv.set Ary24 qay24 say24 nay24 hay24 gay24 (fits_nar_byte _) Wy24 (tn.toNatClampNeg + 1 + 1) (S1.2.2.trans (congrArg (· + 1) S0.2.2)) (by first | (simp only [List.length_set]; omega) | omega)
    have Zy24 : n0 ≤ hy24.size := Nat.le_trans Zy21 (Keep.of_wr Wy24).1
    have Ky24 : Keep h0 hy24 [a1, ab] := Ky21.wr Wy24 m1
    have Ny24 := Fr.snoc Xy24 Ny23 g_ab
    refine Fin.step (sty24) ?_
    show Fin p e below s _ _ _ (Ty24.setTop (mkF m 57 #[rv a1, rv a2, iv 0, iv 3, iv tn, rv ab, iv 2, .val (.int (((tn + (1 : Int32)) + (1 : Int32)) + (1 : Int32))), .val (.int (own_gt xs 2))] []))
    refine Fin.step (fun _ k => Yo.goto Xy24.here hx (pc0 := 57) (pc' := 98) rfl (hb hby d17_57) (by decide) (by decide) (Yo.iinc Xy24.here hx (hb hby d17_98) rfl (l' := #[rv a1, rv a2, iv 0, iv 3, iv tn, rv ab, iv 3, .val (.int (((tn + (1 : Int32)) + (1 : Int32)) + (1 : Int32))), .val (.int (own_gt xs 2))]) rfl k)) ?_
    show Fin p e below s _ _ _ (Ty24.setTop (mkF m 101 #[rv a1, rv a2, iv 0, iv 3, iv tn, rv ab, iv 3, .val (.int (((tn + (1 : Int32)) + (1 : Int32)) + (1 : Int32))), .val (.int (own_gt xs 2))] []))
    refine Fin.step (fun _ k => Yo.goto Xy24.here hx (pc0 := 101) (pc' := 26) rfl (hb hby d17_101) (by decide) (by decide) (Yo.iload Xy24.here hx (hb hby d17_26) rfl (Yo.iloadN Xy24.here hx (hb hby d17_28) rfl (Yo.icmpYes Xy24.here hx (pc0 := 29) (pc' := 104) rfl (hb hby d17_29) rfl (flt ((by decide) : ¬ ((3 : Int32) < (3 : Int32)))).2.1 (by decide) (by decide) (Yo.goto Xy24.here hx (pc0 := 104) (pc' := 119) rfl (hb hby d17_104) (by decide) (by decide) (Yo.aloadN Xy24.here hx (hb hby d17_119) rfl rfl (Yo.iload Xy24.here hx (hb hby d17_120) rfl (Yo.iloadN Xy24.here hx (hb hby d17_122) rfl k)))))))) ?_
    refine Fin.step (fun _ k => Yo.iadd Xy24.here hx (hb hby d17_123) rfl k) ?_
    show Fin p e below s _ _ _ (Ty24.setTop (mkF m 124 #[rv a1, rv a2, iv 0, iv 3, iv tn, rv ab, iv 3, .val (.int (((tn + (1 : Int32)) + (1 : Int32)) + (1 : Int32))), .val (.int (own_gt xs 2))] [(.int (tn + (3 : Int32))), (.ref a1)]))
    refine Fin.step (fun _ k => Yo.iloadN Xy24.here hx (hb hby d17_124) rfl (Yo.isub Xy24.here hx (hb hby d17_125) rfl k)) ?_
    show Fin p e below s _ _ _ (Ty24.setTop (mkF m 126 #[rv a1, rv a2, iv 0, iv 3, iv tn, rv ab, iv 3, .val (.int (((tn + (1 : Int32)) + (1 : Int32)) + (1 : Int32))), .val (.int (own_gt xs 2))] [(.int ((tn + (3 : Int32)) - (0 : Int32))), (.ref a1)]))
    obtain ⟨Ty25, hy25, Xy25, ey25, Wy25, sty25⟩ := putF Xy24 hx hZ hown (host := "") (Or.inl (W_ hw 85)) Via.refl ey24 (((HF_a1_count.other Wy18 (Or.inl hn_a1_ab)).other Wy21 (Or.inl hn_a1_ab)).other Wy24 (Or.inl hn_a1_ab)) (((HE_a1.wr Wy18).wr Wy21).wr Wy24) (Or.inl (W_ hw 86)) (W_ hw 45) (ty := .int) (by decide) rfl rfl (g := (mkF m 126 #[rv a1, rv a2, iv 0, iv 3, iv tn, rv ab, iv 3, .val (.int (((tn + (1 : Int32)) + (1 : Int32)) + (1 : Int32))), .val (.int (own_gt xs 2))] [(.int ((tn + (3 : Int32)) - (0 : Int32))), (.ref a1)])) rfl rfl (hb hby d17_126)
    have Fwy25 : Fld Z hy25 a1 q3 "count" "I" (.int ((tn + (3 : Int32)) - (0 : Int32))) := (((HF_a1_count.other Wy18 (Or.inl hn_a1_ab)).other Wy21 (Or.inl hn_a1_ab)).other Wy24 (Or.inl hn_a1_ab)).same Wy25
    have Zy25 : n0 ≤ hy25.size := Nat.le_trans Zy24 (Keep.of_wr Wy25).1
    have Ky25 : Keep h0 hy25 [a1, ab] := Ky24.wr Wy25 m0
    have Ny25 := Fr.snoc Xy25 Ny24 g_a1
    refine Fin.step (sty25) ?_
    show Fin p e below s _ _ _ (Ty25.setTop (mkF m 129 #[rv a1, rv a2, iv 0, iv 3, iv tn, rv ab, iv 3, .val (.int (((tn + (1 : Int32)) + (1 : Int32)) + (1 : Int32))), .val (.int (own_gt xs 2))] []))
    refine Fin.retV Xy25 hx hret hlk (hb hby d17_129) (by decide) (by decide) ?_
    show Qac Z _ _ _ _ _ _ _ _ _ _ _ h0 n0 _ Ty25.heap _
    rw [ey25]
    exact ⟨rfl, Ny25, Ky25, ((((HF_a1_value.other Wy18 (Or.inl hn_a1_ab)).other Wy21 (Or.inl hn_a1_ab)).other Wy24 (Or.inl hn_a1_ab)).other Wy25 (Or.inr (slot_ne (Or.inl (W_ hw 61)) (Or.inl (W_ hw 86)) (by decide) (t := (.array .byte)) (t' := .int) (by decide) (by decide)))), ((((HF_a1_coder.other Wy18 (Or.inl hn_a1_ab)).other Wy21 (Or.inl hn_a1_ab)).other Wy24 (Or.inl hn_a1_ab)).other Wy25 (Or.inr (slot_ne (Or.inl (W_ hw 63)) (Or.inl (W_ hw 86)) (by decide) (t := .byte) (t' := .int) (by decide) (by decide)))), (Fld.cast Fwy25 (congrArg Value.int (own_s0 htm))), (Vy24.other Wy25 (Ne.symm hn_a1_ab))⟩
theorem pn_14 : plainName "java/lang/AbstractStringBuilder" = true := by first | (simp [plainName, overriddenIn]; done) | decide +kernel
theorem d14_0 : decode jdk_68_method_29_code 0 = .ok (.iload_n 2, 1) := by decide +kernel
theorem d14_1 : decode jdk_68_method_29_code 1 = .ok (.iload_n 3, 1) := by decide +kernel
theorem d14_2 : decode jdk_68_method_29_code 2 = .ok (.iadd, 1) := by decide +kernel
theorem d14_3 : decode jdk_68_method_29_code 3 = .ok (.istore 4, 2) := by decide +kernel
theorem d14_5 : decode jdk_68_method_29_code 5 = .ok (.iload_n 2, 1) := by decide +kernel
theorem d14_6 : decode jdk_68_method_29_code 6 = .ok (.iload 4, 2) := by decide +kernel
theorem d14_8 : decode jdk_68_method_29_code 8 = .ok (.aload_n 1, 1) := by decide +kernel
theorem d14_9 : decode jdk_68_method_29_code 9 = .ok (.arraylength, 1) := by decide +kernel
theorem d14_10 : decode jdk_68_method_29_code 10 = .ok (.getstatic 183, 3) := by decide +kernel
theorem d14_13 : decode jdk_68_method_29_code 13 = .ok (.invokestatic 161, 3) := by decide +kernel
theorem pd_4 : parseMethodDescriptor "(IIILjava/util/function/BiFunction;)I" = some ⟨[.int, .int, .int, (.object "java/util/function/BiFunction")], some .int⟩ := by decide +kernel
theorem d14_16 : decode jdk_68_method_29_code 16 = .ok (.pop, 1) := by decide +kernel
theorem d14_17 : decode jdk_68_method_29_code 17 = .ok (.aload_n 0, 1) := by decide +kernel
theorem d14_18 : decode jdk_68_method_29_code 18 = .ok (.aload_n 0, 1) := by decide +kernel
theorem d14_19 : decode jdk_68_method_29_code 19 = .ok (.getfield 79, 3) := by decide +kernel
theorem d14_22 : decode jdk_68_method_29_code 22 = .ok (.iload_n 3, 1) := by decide +kernel
theorem d14_23 : decode jdk_68_method_29_code 23 = .ok (.iadd, 1) := by decide +kernel
theorem d14_24 : decode jdk_68_method_29_code 24 = .ok (.invokevirtual 100, 3) := by decide +kernel
theorem d14_27 : decode jdk_68_method_29_code 27 = .ok (.aload_n 0, 1) := by decide +kernel
theorem d14_28 : decode jdk_68_method_29_code 28 = .ok (.aload_n 1, 1) := by decide +kernel
theorem d14_29 : decode jdk_68_method_29_code 29 = .ok (.iload_n 2, 1) := by decide +kernel
theorem d14_30 : decode jdk_68_method_29_code 30 = .ok (.iload 4, 2) := by decide +kernel
theorem d14_32 : decode jdk_68_method_29_code 32 = .ok (.invokevirtual 239, 3) := by decide +kernel
theorem pd_5 : parseMethodDescriptor "([CII)V" = some ⟨[(.array .char), .int, .int], none⟩ := by decide +kernel
theorem d14_35 : decode jdk_68_method_29_code 35 = .ok (.aload_n 0, 1) := by decide +kernel
theorem d14_36 : decode jdk_68_method_29_code 36 = .ok (.areturn, 1) := by decide +kernel
theorem ef_rmaba (m : MethodId) (x0 : Addr) (x1 : Addr) (x3 : Int32) : entryFrame m #[(.ref x0), (.ref x1), (.int (0 : Int32)), (.int x3)] 5 = mkF m 0 #[.val (.ref x0), .val (.ref x1), .val (.int (0 : Int32)), .val (.int x3), .unset] [] := by first | (simp [entryFrame, mkF, argsToLocals, Value.category]; done) | rfl
abbrev R_rmaba : Room := ({ frames := 2, cells := 0, slots := 0, locals := 32 } : Room)
def Qaba (Z : State) (a1 a2 : Addr) (pn : Int32) (ab : Addr) (kb : ClassId) (tn : Int32) (vs : List Value) (kc : ClassId) (xs : List Value) (tm wc : Int32) (gv : Value) (h0 : Heap) (n0 : Nat) (v : Option Value) (h : Heap) (L : List Loc) : Prop := v = some (.ref a1) ∧ Fr n0 L ∧ Keep h0 h [a1, ab] ∧ Fld Z h a1 q3 "value" "[B" (.ref ab) ∧ Fld Z h a1 q3 "coder" "B" (.int 0) ∧ Fld Z h a1 q3 "count" "I" (.int tm) ∧ Arv Z h ab kb .byte (16 : Int32) (own_app vs xs tn.toNatClampNeg pn.toNatClampNeg) (.int 0)
set_option maxRecDepth 65536 in
set_option maxHeartbeats 40000000 in
theorem rmaba (l : Launch) (Z : State) (a0 : Array Value) (hw : ∀ d ∈ tables_1, d.before a0 Z = true) (ws : List Jvm.Cond) (a1 a2 : Addr) (pn : Int32) (ab : Addr) (kb : ClassId) (tn : Int32) (vs : List Value) (kc : ClassId) (xs : List Value) (tm wc : Int32) (gv : Value) (h0 : Heap) (n0 : Nat) (Z0 : n0 ≤ h0.size) (HE_a1 : Exa Z h0 a1 q2) (HF_a1_value : Fld Z h0 a1 q3 "value" "[B" (.ref ab)) (HF_a1_coder : Fld Z h0 a1 q3 "coder" "B" (.int 0)) (HF_a1_count : Fld Z h0 a1 q3 "count" "I" (.int tn)) (HV_ab : Arv Z h0 ab kb .byte (16 : Int32) vs (.int 0)) (HV_a2 : Arv Z h0 a2 kc .char (3 : Int32) xs (.int 0)) (HS_java_lang_String_COMPACT_STRINGS : Sta Z h0 q4 q10 "Z" (.int wc)) (HS_jdk_internal_util_Preconditions_IOOBE_FORMATTER : Sta Z h0 q5 q12 q6 gv) (g_a1 : n0 ≤ a1) (g_ab : n0 ≤ ab) (hp : pn = 0 ∨ pn = 1 ∨ pn = 2 ∨ pn = 3) (ht : 0 ≤ tn.toInt ∧ tn.toInt ≤ 3) (hl : vs.length = 16) (hxl : own_lat xs) (htm : tm = tn + pn) (hwc : ¬ wc = 0) (hgv : gv.isRef = true) (hn_a1_ab : a1 ≠ ab) (hn_a2_ab : a2 ≠ ab) :
    Met1 l n14 jdk_68_method_29_code 5 (some (.object "java/lang/AbstractStringBuilder")) ws R_rmaba #[(.ref a1), (.ref a2), (.int 0), (.int pn)] Z h0 (Qaba Z a1 a2 pn ab kb tn vs kc xs tm wc gv h0 n0) := by
  refine Met1.enter (plainFor_of_name pn_14) (fun m => ef_rmaba m a1 a2 pn) fun p e s m below meth c s₁ hx hby hlk hret hml hown hnm hZ X0 e0 => ?_
  have N0 := Fr.nil n0
  have K0 := Keep.refl h0 [a1, ab]
  show Fin p e below s _ _ _ (s₁.setTop (mkF m 0 #[rv a1, rv a2, iv 0, iv pn, .unset] []))
  refine Fin.step (fun _ k => Yo.iloadN X0.here hx (hb hby d14_0) rfl (Yo.iloadN X0.here hx (hb hby d14_1) rfl (Yo.iadd X0.here hx (hb hby d14_2) rfl k))) ?_
  show Fin p e below s _ _ _ (s₁.setTop (mkF m 3 #[rv a1, rv a2, iv 0, iv pn, .unset] [(.int ((0 : Int32) + pn))]))
  refine Fin.step (fun _ k => Yo.istore X0.here hx (hb hby d14_3) rfl (l' := #[rv a1, rv a2, iv 0, iv pn, .val (.int ((0 : Int32) + pn))]) rfl k) ?_
  rw [Int32.zero_add]
  show Fin p e below s _ _ _ (s₁.setTop (mkF m 5 #[rv a1, rv a2, iv 0, iv pn, iv pn] []))
  refine Fin.step (fun _ k => Yo.iloadN X0.here hx (hb hby d14_5) rfl (Yo.iload X0.here hx (hb hby d14_6) rfl (Yo.aloadN X0.here hx (hb hby d14_8) rfl rfl k))) ?_
  have voy1 := HV_a2
  obtain ⟨cly1, Ary1, qay1, say1, nay1, hay1, gay1⟩ := voy1
  refine Fin.step (X0.arraylength hx (by rw [e0]; exact Ary1.1) (State.isArrayOf_alike hZ.alike Ary1.2.1) (g := (mkF m 9 #[rv a1, rv a2, iv 0, iv pn, iv pn] [(.ref a2), (.int pn), (.int 0)])) rfl rfl (hb hby d14_9)) ?_
  rw [len_of say1 nay1]
  show Fin p e below s _ _ _ (s₁.setTop (mkF m 10 #[rv a1, rv a2, iv 0, iv pn, iv pn] [(.int 3), (.int pn), (.int 0)]))
  rcases ref_cases hgv with rfl | ⟨gr, rfl⟩
  · show Fin p e below s _ _ _ (s₁.setTop (mkF m 10 #[rv a1, rv a2, iv 0, iv pn, iv pn] [(.int 3), (.int pn), (.int 0)]))
    obtain ⟨Ty2, Xy2, ey2, sty2⟩ := getS2 X0 hx hZ hown (host := "") (Or.inl (W_ hw 96)) Via.refl e0 HS_jdk_internal_util_Preconditions_IOOBE_FORMATTER (g := (mkF m 10 #[rv a1, rv a2, iv 0, iv pn, iv pn] [(.int 3), (.int pn), (.int 0)])) rfl (hb hby d14_10)
    refine Fin.step (sty2) ?_
    show Fin p e below s _ _ _ (Ty2.setTop (mkF m 13 #[rv a1, rv a2, iv 0, iv pn, iv pn] [.null, (.int 3), (.int pn), (.int 0)]))
    obtain ⟨_, Ty3, Lcy3, Xy3, hQy3, sty3⟩ := packS (Jvm.LawKit.callS Xy2 hx (y := n15) hown (mvT hZ (W_ hw 99)) (mvT hZ (W_ hw 100)) (mvT hZ (W_ hw 97)) (mvT hZ (W_ hw 101)) (by decide) (backOf (W := 0) (rmf0 l Z a0 hw [] pn h0 n0 Z0 (own_p3 hp).1 (own_p3 hp).2) hZ (W_ hw 101) (W_ hw 97) (by decide) (by decide)) (g := (mkF m 13 #[rv a1, rv a2, iv 0, iv pn, iv pn] [.null, (.int 3), (.int pn), (.int 0)])) rfl (by rw [hml]; rfl) (argsL := [(.int 0), (.int pn), (.int 3), .null]) (rest := []) (lenOf pd_4 rfl) rfl (lb rfl) (hb hby d14_13) (fun _ _ => ⟨rfl, ey2, (by decide : 0 + 0 ≤ _), (by decide : 0 + 0 ≤ _)⟩))
    obtain ⟨rfl, Nqy3, eqy3⟩ := hQy3
    have Ny3 := Fr.app N0 Nqy3
    refine Fin.step (sty3) ?_
    show Fin p e below s _ _ _ (Ty3.setTop (mkF m 16 #[rv a1, rv a2, iv 0, iv pn, iv pn] [(.int 0)]))
    refine Fin.step (fun _ k => Yo.pop Xy3.here hx (hb hby d14_16) rfl rfl (Yo.aloadN Xy3.here hx (hb hby d14_17) rfl rfl (Yo.aloadN Xy3.here hx (hb hby d14_18) rfl rfl k))) ?_
    refine fget Xy3 hx hZ hown (W_ hw 85) eqy3 HF_a1_count (hb hby d14_19) fun Ty4 Xy4 ey4 => ?_
    refine Fin.step (fun _ k => Yo.iloadN Xy4.here hx (hb hby d14_22) rfl (Yo.iadd Xy4.here hx (hb hby d14_23) rfl k)) ?_
    show Fin p e below s _ _ _ (Ty4.setTop (mkF m 24 #[rv a1, rv a2, iv 0, iv pn, iv pn] [(.int (tn + pn)), (.ref a1)]))
    obtain ⟨cqy5, qy5, qy5'⟩ := HE_a1.cell
    obtain ⟨_, Ty5, Lcy5, Xy5, hQy5, sty5⟩ := pack (Xy4.privateBack hx (y := n16) hown (mvT hZ (W_ hw 102)) (mvT hZ (W_ hw 103)) (mvT hZ (sel_of (show NI Z "java/lang/AbstractStringBuilder" from NI.sel (y := n16) (W_ hw 105)) (W_ hw 103) (W_ hw 104) (by decide))) (Cond.privateMethod_at (mvP hZ (W_ hw 104) (args := #[]))) (mvT hZ (W_ hw 106)) (by decide) (backOf (W := 0) (rmec l Z a0 hw [] a1 (tn + pn) ab kb vs h0 n0 Z0 HF_a1_value HF_a1_coder HV_ab (own_cap ht (own_pi hp))) hZ (W_ hw 106) (W_ hw 54) (by decide) (by decide)) (g := (mkF m 24 #[rv a1, rv a2, iv 0, iv pn, iv pn] [(.int (tn + pn)), (.ref a1)])) rfl (by rw [hml]; rfl) (Steps.refl _) (a := a1) (by rw [ey4]; exact qy5) qy5' (argsL := [(.int (tn + pn))]) (rest := []) (lenOf pd_0 rfl) rfl (lb rfl) (hb hby d14_24) (fun _ _ => ⟨rfl, ey4, (by decide : 0 + 0 ≤ _), (by decide : 0 + 0 ≤ _)⟩))
    obtain ⟨rfl, Nqy5, eqy5⟩ := hQy5
    have Ny5 := Fr.app Ny3 Nqy5
    refine Fin.step (sty5) ?_
    show Fin p e below s _ _ _ (Ty5.setTop (mkF m 27 #[rv a1, rv a2, iv 0, iv pn, iv pn] []))
    refine Fin.step (fun _ k => Yo.aloadN Xy5.here hx (hb hby d14_27) rfl rfl (Yo.aloadN Xy5.here hx (hb hby d14_28) rfl rfl (Yo.iloadN Xy5.here hx (hb hby d14_29) rfl (Yo.iload Xy5.here hx (hb hby d14_30) rfl k)))) ?_
    obtain ⟨cqy6, qy6, qy6'⟩ := HE_a1.cell
    obtain ⟨_, Ty6, Lcy6, Xy6, hQy6, sty6⟩ := pack (Xy5.privateBack hx (y := n17) hown (mvT hZ (W_ hw 107)) (mvT hZ (W_ hw 108)) (mvT hZ (sel_of (show NI Z "java/lang/AbstractStringBuilder" from NI.sel (y := n16) (W_ hw 105)) (W_ hw 108) (W_ hw 109) (by decide))) (Cond.privateMethod_at (mvP hZ (W_ hw 109) (args := #[]))) (mvT hZ (W_ hw 111)) (by decide) (backOf (W := 0) (rmac l Z a0 hw [] a1 a2 pn ab kb tn vs kc xs tm wc h0 n0 Z0 HE_a1 HF_a1_value HF_a1_coder HF_a1_count HV_ab HV_a2 HS_java_lang_String_COMPACT_STRINGS g_a1 g_ab hp ht hl hxl htm hwc hn_a1_ab hn_a2_ab) hZ (W_ hw 111) (W_ hw 54) (by decide) (by decide)) (g := (mkF m 32 #[rv a1, rv a2, iv 0, iv pn, iv pn] [(.int pn), (.int 0), (.ref a2), (.ref a1)])) rfl (by rw [hml]; rfl) (Steps.refl _) (a := a1) (by rw [eqy5]; exact qy6) qy6' (argsL := [(.ref a2), (.int 0), (.int pn)]) (rest := []) (lenOf pd_5 rfl) rfl (lb rfl) (hb hby d14_32) (fun _ _ => ⟨rfl, eqy5, (by decide : 0 + 0 ≤ _), (by decide : 0 + 0 ≤ _)⟩))
    obtain ⟨rfl, Nqy6, Kcy6, fy6_0, fy6_1, fy6_2, fy6_3⟩ := hQy6
    have Ny6 := Fr.app Ny5 Nqy6
    have Zy6 := Nat.le_trans Z0 Kcy6.1
    have Ky6 := K0.trans Kcy6 (allS m0 (allS m1 all0))
    refine Fin.step (sty6) ?_
    show Fin p e below s _ _ _ (Ty6.setTop (mkF m 35 #[rv a1, rv a2, iv 0, iv pn, iv pn] []))
    refine Fin.step (fun _ k => Yo.aloadN Xy6.here hx (hb hby d14_35) rfl rfl k) ?_
    refine Fin.retR Xy6 hx hret rfl rfl hlk (hb hby d14_36) (by decide) (by decide) ?_
    show Qaba Z _ _ _ _ _ _ _ _ _ _ _ _ h0 n0 _ Ty6.heap _
    exact ⟨rfl, Ny6, Ky6, fy6_0, fy6_1, fy6_2, fy6_3⟩
  · show Fin p e below s _ _ _ (s₁.setTop (mkF m 10 #[rv a1, rv a2, iv 0, iv pn, iv pn] [(.int 3), (.int pn), (.int 0)]))
    obtain ⟨Ty7, Xy7, ey7, sty7⟩ := getS2 X0 hx hZ hown (host := "") (Or.inl (W_ hw 96)) Via.refl e0 HS_jdk_internal_util_Preconditions_IOOBE_FORMATTER (g := (mkF m 10 #[rv a1, rv a2, iv 0, iv pn, iv pn] [(.int 3), (.int pn), (.int 0)])) rfl (hb hby d14_10)
    refine Fin.step (sty7) ?_
    show Fin p e below s _ _ _ (Ty7.setTop (mkF m 13 #[rv a1, rv a2, iv 0, iv pn, iv pn] [(.ref gr), (.int 3), (.int pn), (.int 0)]))
    obtain ⟨_, Ty8, Lcy8, Xy8, hQy8, sty8⟩ := packS (Jvm.LawKit.callS Xy7 hx (y := n15) hown (mvT hZ (W_ hw 99)) (mvT hZ (W_ hw 100)) (mvT hZ (W_ hw 97)) (mvT hZ (W_ hw 101)) (by decide) (backOf (W := 0) (rmf1 l Z a0 hw [] pn gr h0 n0 Z0 (own_p3 hp).1 (own_p3 hp).2) hZ (W_ hw 101) (W_ hw 97) (by decide) (by decide)) (g := (mkF m 13 #[rv a1, rv a2, iv 0, iv pn, iv pn] [(.ref gr), (.int 3), (.int pn), (.int 0)])) rfl (by rw [hml]; rfl) (argsL := [(.int 0), (.int pn), (.int 3), (.ref gr)]) (rest := []) (lenOf pd_4 rfl) rfl (lb rfl) (hb hby d14_13) (fun _ _ => ⟨rfl, ey7, (by decide : 0 + 0 ≤ _), (by decide : 0 + 0 ≤ _)⟩))
    obtain ⟨rfl, Nqy8, eqy8⟩ := hQy8
    have Ny8 := Fr.app N0 Nqy8
    refine Fin.step (sty8) ?_
    show Fin p e below s _ _ _ (Ty8.setTop (mkF m 16 #[rv a1, rv a2, iv 0, iv pn, iv pn] [(.int 0)]))
    refine Fin.step (fun _ k => Yo.pop Xy8.here hx (hb hby d14_16) rfl rfl (Yo.aloadN Xy8.here hx (hb hby d14_17) rfl rfl (Yo.aloadN Xy8.here hx (hb hby d14_18) rfl rfl k))) ?_
    refine fget Xy8 hx hZ hown (W_ hw 85) eqy8 HF_a1_count (hb hby d14_19) fun Ty9 Xy9 ey9 => ?_
    refine Fin.step (fun _ k => Yo.iloadN Xy9.here hx (hb hby d14_22) rfl (Yo.iadd Xy9.here hx (hb hby d14_23) rfl k)) ?_
    show Fin p e below s _ _ _ (Ty9.setTop (mkF m 24 #[rv a1, rv a2, iv 0, iv pn, iv pn] [(.int (tn + pn)), (.ref a1)]))
    obtain ⟨cqy10, qy10, qy10'⟩ := HE_a1.cell
    obtain ⟨_, Ty10, Lcy10, Xy10, hQy10, sty10⟩ := pack (Xy9.privateBack hx (y := n16) hown (mvT hZ (W_ hw 102)) (mvT hZ (W_ hw 103)) (mvT hZ (sel_of (show NI Z "java/lang/AbstractStringBuilder" from NI.sel (y := n16) (W_ hw 105)) (W_ hw 103) (W_ hw 104) (by decide))) (Cond.privateMethod_at (mvP hZ (W_ hw 104) (args := #[]))) (mvT hZ (W_ hw 106)) (by decide) (backOf (W := 0) (rmec l Z a0 hw [] a1 (tn + pn) ab kb vs h0 n0 Z0 HF_a1_value HF_a1_coder HV_ab (own_cap ht (own_pi hp))) hZ (W_ hw 106) (W_ hw 54) (by decide) (by decide)) (g := (mkF m 24 #[rv a1, rv a2, iv 0, iv pn, iv pn] [(.int (tn + pn)), (.ref a1)])) rfl (by rw [hml]; rfl) (Steps.refl _) (a := a1) (by rw [ey9]; exact qy10) qy10' (argsL := [(.int (tn + pn))]) (rest := []) (lenOf pd_0 rfl) rfl (lb rfl) (hb hby d14_24) (fun _ _ => ⟨rfl, ey9, (by decide : 0 + 0 ≤ _), (by decide : 0 + 0 ≤ _)⟩))
    obtain ⟨rfl, Nqy10, eqy10⟩ := hQy10
    have Ny10 := Fr.app Ny8 Nqy10
    refine Fin.step (sty10) ?_
    show Fin p e below s _ _ _ (Ty10.setTop (mkF m 27 #[rv a1, rv a2, iv 0, iv pn, iv pn] []))
    refine Fin.step (fun _ k => Yo.aloadN Xy10.here hx (hb hby d14_27) rfl rfl (Yo.aloadN Xy10.here hx (hb hby d14_28) rfl rfl (Yo.iloadN Xy10.here hx (hb hby d14_29) rfl (Yo.iload Xy10.here hx (hb hby d14_30) rfl k)))) ?_
    obtain ⟨cqy11, qy11, qy11'⟩ := HE_a1.cell
    obtain ⟨_, Ty11, Lcy11, Xy11, hQy11, sty11⟩ := pack (Xy10.privateBack hx (y := n17) hown (mvT hZ (W_ hw 107)) (mvT hZ (W_ hw 108)) (mvT hZ (sel_of (show NI Z "java/lang/AbstractStringBuilder" from NI.sel (y := n16) (W_ hw 105)) (W_ hw 108) (W_ hw 109) (by decide))) (Cond.privateMethod_at (mvP hZ (W_ hw 109) (args := #[]))) (mvT hZ (W_ hw 111)) (by decide) (backOf (W := 0) (rmac l Z a0 hw [] a1 a2 pn ab kb tn vs kc xs tm wc h0 n0 Z0 HE_a1 HF_a1_value HF_a1_coder HF_a1_count HV_ab HV_a2 HS_java_lang_String_COMPACT_STRINGS g_a1 g_ab hp ht hl hxl htm hwc hn_a1_ab hn_a2_ab) hZ (W_ hw 111) (W_ hw 54) (by decide) (by decide)) (g := (mkF m 32 #[rv a1, rv a2, iv 0, iv pn, iv pn] [(.int pn), (.int 0), (.ref a2), (.ref a1)])) rfl (by rw [hml]; rfl) (Steps.refl _) (a := a1) (by rw [eqy10]; exact qy11) qy11' (argsL := [(.ref a2), (.int 0), (.int pn)]) (rest := []) (lenOf pd_5 rfl) rfl (lb rfl) (hb hby d14_32) (fun _ _ => ⟨rfl, eqy10, (by decide : 0 + 0 ≤ _), (by decide : 0 + 0 ≤ _)⟩))
    obtain ⟨rfl, Nqy11, Kcy11, fy11_0, fy11_1, fy11_2, fy11_3⟩ := hQy11
    have Ny11 := Fr.app Ny10 Nqy11
    have Zy11 := Nat.le_trans Z0 Kcy11.1
    have Ky11 := K0.trans Kcy11 (allS m0 (allS m1 all0))
    refine Fin.step (sty11) ?_
    show Fin p e below s _ _ _ (Ty11.setTop (mkF m 35 #[rv a1, rv a2, iv 0, iv pn, iv pn] []))
    refine Fin.step (fun _ k => Yo.aloadN Xy11.here hx (hb hby d14_35) rfl rfl k) ?_
    refine Fin.retR Xy11 hx hret rfl rfl hlk (hb hby d14_36) (by decide) (by decide) ?_
    show Qaba Z _ _ _ _ _ _ _ _ _ _ _ _ h0 n0 _ Ty11.heap _
    exact ⟨rfl, Ny11, Ky11, fy11_0, fy11_1, fy11_2, fy11_3⟩
theorem pn_13 : plainName "java/lang/StringBuilder" = true := by first | (simp [plainName, overriddenIn]; done) | decide +kernel
theorem d13_0 : decode jdk_67_method_12_code 0 = .ok (.aload_n 0, 1) := by decide +kernel
theorem d13_1 : decode jdk_67_method_12_code 1 = .ok (.aload_n 1, 1) := by decide +kernel
theorem d13_2 : decode jdk_67_method_12_code 2 = .ok (.iload_n 2, 1) := by decide +kernel
theorem d13_3 : decode jdk_67_method_12_code 3 = .ok (.iload_n 3, 1) := by decide +kernel
theorem d13_4 : decode jdk_67_method_12_code 4 = .ok (.invokespecial 44, 3) := by decide +kernel
theorem pd_6 : parseMethodDescriptor "([CII)Ljava/lang/AbstractStringBuilder;" = some ⟨[(.array .char), .int, .int], some (.object "java/lang/AbstractStringBuilder")⟩ := by decide +kernel
theorem d13_7 : decode jdk_67_method_12_code 7 = .ok (.pop, 1) := by decide +kernel
theorem d13_8 : decode jdk_67_method_12_code 8 = .ok (.aload_n 0, 1) := by decide +kernel
theorem d13_9 : decode jdk_67_method_12_code 9 = .ok (.areturn, 1) := by decide +kernel
theorem ef_rmsba (m : MethodId) (x0 : Addr) (x1 : Addr) (x3 : Int32) : entryFrame m #[(.ref x0), (.ref x1), (.int (0 : Int32)), (.int x3)] 4 = mkF m 0 #[.val (.ref x0), .val (.ref x1), .val (.int (0 : Int32)), .val (.int x3)] [] := by first | (simp [entryFrame, mkF, argsToLocals, Value.category]; done) | rfl
abbrev R_rmsba : Room := ({ frames := 3, cells := 0, slots := 0, locals := 48 } : Room)
def Qsba (Z : State) (a1 a2 : Addr) (pn : Int32) (ab : Addr) (kb : ClassId) (tn : Int32) (vs : List Value) (kc : ClassId) (xs : List Value) (tm wc : Int32) (gv : Value) (h0 : Heap) (n0 : Nat) (v : Option Value) (h : Heap) (L : List Loc) : Prop := v = some (.ref a1) ∧ Fr n0 L ∧ Keep h0 h [a1, ab] ∧ Fld Z h a1 q3 "value" "[B" (.ref ab) ∧ Fld Z h a1 q3 "coder" "B" (.int 0) ∧ Fld Z h a1 q3 "count" "I" (.int tm) ∧ Arv Z h ab kb .byte (16 : Int32) (own_app vs xs tn.toNatClampNeg pn.toNatClampNeg) (.int 0)
set_option maxRecDepth 65536 in
set_option maxHeartbeats 40000000 in
theorem rmsba (l : Launch) (Z : State) (a0 : Array Value) (hw : ∀ d ∈ tables_1, d.before a0 Z = true) (ws : List Jvm.Cond) (a1 a2 : Addr) (pn : Int32) (ab : Addr) (kb : ClassId) (tn : Int32) (vs : List Value) (kc : ClassId) (xs : List Value) (tm wc : Int32) (gv : Value) (h0 : Heap) (n0 : Nat) (Z0 : n0 ≤ h0.size) (HE_a1 : Exa Z h0 a1 q2) (HF_a1_value : Fld Z h0 a1 q3 "value" "[B" (.ref ab)) (HF_a1_coder : Fld Z h0 a1 q3 "coder" "B" (.int 0)) (HF_a1_count : Fld Z h0 a1 q3 "count" "I" (.int tn)) (HV_ab : Arv Z h0 ab kb .byte (16 : Int32) vs (.int 0)) (HV_a2 : Arv Z h0 a2 kc .char (3 : Int32) xs (.int 0)) (HS_java_lang_String_COMPACT_STRINGS : Sta Z h0 q4 q10 "Z" (.int wc)) (HS_jdk_internal_util_Preconditions_IOOBE_FORMATTER : Sta Z h0 q5 q12 q6 gv) (g_a1 : n0 ≤ a1) (g_ab : n0 ≤ ab) (hp : pn = 0 ∨ pn = 1 ∨ pn = 2 ∨ pn = 3) (ht : 0 ≤ tn.toInt ∧ tn.toInt ≤ 3) (hl : vs.length = 16) (hxl : own_lat xs) (htm : tm = tn + pn) (hwc : ¬ wc = 0) (hgv : gv.isRef = true) (hn_a1_ab : a1 ≠ ab) (hn_a2_ab : a2 ≠ ab) :
    Met1 l n13 jdk_67_method_12_code 4 (some (.object "java/lang/StringBuilder")) ws R_rmsba #[(.ref a1), (.ref a2), (.int 0), (.int pn)] Z h0 (Qsba Z a1 a2 pn ab kb tn vs kc xs tm wc gv h0 n0) := by
  refine Met1.enter (plainFor_of_name pn_13) (fun m => ef_rmsba m a1 a2 pn) fun p e s m below meth c s₁ hx hby hlk hret hml hown hnm hZ X0 e0 => ?_
  have N0 := Fr.nil n0
  have K0 := Keep.refl h0 [a1, ab]
  show Fin p e below s _ _ _ (s₁.setTop (mkF m 0 #[rv a1, rv a2, iv 0, iv pn] []))
  refine Fin.step (fun _ k => Yo.aloadN X0.here hx (hb hby d13_0) rfl rfl (Yo.aloadN X0.here hx (hb hby d13_1) rfl rfl (Yo.iloadN X0.here hx (hb hby d13_2) rfl (Yo.iloadN X0.here hx (hb hby d13_3) rfl k)))) ?_
  obtain ⟨_, Ty1, Lcy1, Xy1, hQy1, sty1⟩ := pack (superBack X0 hx hZ (y := n14) hown (W_ hw 92) (same_of (show NI Z "java/lang/AbstractStringBuilder" from NI.sel (y := n16) (W_ hw 105)) (W_ hw 93) (by decide)) (W_ hw 93) (W_ hw 82) (by decide) (backOf (W := 0) (rmaba l Z a0 hw [] a1 a2 pn ab kb tn vs kc xs tm wc gv h0 n0 Z0 HE_a1 HF_a1_value HF_a1_coder HF_a1_count HV_ab HV_a2 HS_java_lang_String_COMPACT_STRINGS HS_jdk_internal_util_Preconditions_IOOBE_FORMATTER g_a1 g_ab hp ht hl hxl htm hwc hgv hn_a1_ab hn_a2_ab) hZ (W_ hw 95) (W_ hw 54) (by decide) (by decide)) e0 (Ins.self HE_a1) (g := (mkF m 4 #[rv a1, rv a2, iv 0, iv pn] [(.int pn), (.int 0), (.ref a2), (.ref a1)])) rfl (by rw [hml]; rfl) (W_ hw 95) (argsL := [(.ref a2), (.int 0), (.int pn)]) (rest := []) (lenOf pd_6 rfl) rfl (lb rfl) (hb hby d13_4) (fun _ _ => ⟨rfl, e0, (by decide : 0 + 0 ≤ _), (by decide : 0 + 0 ≤ _)⟩))
  obtain ⟨rfl, Nqy1, Kcy1, fy1_0, fy1_1, fy1_2, fy1_3⟩ := hQy1
  have Ny1 := Fr.app N0 Nqy1
  have Zy1 := Nat.le_trans Z0 Kcy1.1
  have Ky1 := K0.trans Kcy1 (allS m0 (allS m1 all0))
  refine Fin.step (sty1) ?_
  show Fin p e below s _ _ _ (Ty1.setTop (mkF m 7 #[rv a1, rv a2, iv 0, iv pn] [(.ref a1)]))
  refine Fin.step (fun _ k => Yo.pop Xy1.here hx (hb hby d13_7) rfl rfl (Yo.aloadN Xy1.here hx (hb hby d13_8) rfl rfl k)) ?_
  refine Fin.retR Xy1 hx hret rfl rfl hlk (hb hby d13_9) (by decide) (by decide) ?_
  show Qsba Z a1 a2 pn ab kb tn vs kc xs tm wc gv h0 n0 _ Ty1.heap _
  exact ⟨rfl, Ny1, Ky1, fy1_0, fy1_1, fy1_2, fy1_3⟩
theorem pn_7 : plainName "com/example/uzor/uzor/StringValues$Value" = true := by first | (simp [plainName, overriddenIn]; done) | decide +kernel
theorem d7_0 : decode prog_35_method_1_code 0 = .ok (.aload_n 0, 1) := by decide +kernel
theorem d7_1 : decode prog_35_method_1_code 1 = .ok (.invokespecial 1, 3) := by decide +kernel
theorem d7_4 : decode prog_35_method_1_code 4 = .ok (.aload_n 0, 1) := by decide +kernel
theorem d7_5 : decode prog_35_method_1_code 5 = .ok (.new 7, 3) := by decide +kernel
theorem d7_8 : decode prog_35_method_1_code 8 = .ok (.dup, 1) := by decide +kernel
theorem d7_9 : decode prog_35_method_1_code 9 = .ok (.invokespecial 9, 3) := by decide +kernel
theorem pd_7 : parseMethodDescriptor "()V" = some ⟨[], none⟩ := by decide +kernel
theorem d7_12 : decode prog_35_method_1_code 12 = .ok (.putfield 10, 3) := by decide +kernel
theorem d7_15 : decode prog_35_method_1_code 15 = .ok (.aload_n 0, 1) := by decide +kernel
theorem d7_16 : decode prog_35_method_1_code 16 = .ok (.iload_n 1, 1) := by decide +kernel
theorem d7_17 : decode prog_35_method_1_code 17 = .ok (.putfield 16, 3) := by decide +kernel
theorem d7_20 : decode prog_35_method_1_code 20 = .ok (.aload_n 0, 1) := by decide +kernel
theorem d7_21 : decode prog_35_method_1_code 21 = .ok (.iload_n 2, 1) := by decide +kernel
theorem d7_22 : decode prog_35_method_1_code 22 = .ok (.putfield 20, 3) := by decide +kernel
theorem d7_25 : decode prog_35_method_1_code 25 = .ok (.return_, 1) := by decide +kernel
theorem ef_rmvi (m : MethodId) (x0 : Addr) (x1 : Int32) (x2 : Int32) : entryFrame m #[(.ref x0), (.int x1), (.int x2)] 3 = mkF m 0 #[.val (.ref x0), .val (.int x1), .val (.int x2)] [] := by first | (simp [entryFrame, mkF, argsToLocals, Value.category]; done) | rfl
abbrev R_rmvi : Room := ({ frames := 3, cells := 2, slots := 20, locals := 39 } : Room)
def Qvi (Z : State) (a1 : Addr) (p2 p3 wc : Int32) (h0 : Heap) (n0 : Nat) (v : Option Value) (h : Heap) (L : List Loc) : Prop := ∃ bo : Addr, ∃ ab : Addr, ∃ kb : ClassId, v = none ∧ h0.size ≤ bo ∧ h0.size ≤ ab ∧ Fr n0 L ∧ Keep h0 h [a1] ∧ Fld Z h a1 q0 "text" q7 (.ref bo) ∧ Fld Z h a1 q0 "limit" "I" (.int p3) ∧ Fld Z h a1 q0 "value" q8 .null ∧ Fld Z h a1 q0 "depth" "I" (.int p2) ∧ Exa Z h bo q2 ∧ Fld Z h bo q3 "value" "[B" (.ref ab) ∧ Fld Z h bo q3 "coder" "B" (.int 0) ∧ Fld Z h bo q3 "count" "I" (.int 0) ∧ Arv Z h ab kb .byte (16 : Int32) [(.int 0), (.int 0), (.int 0), (.int 0), (.int 0), (.int 0), (.int 0), (.int 0), (.int 0), (.int 0), (.int 0), (.int 0), (.int 0), (.int 0), (.int 0), (.int 0)] (.int 0) ∧ bo ≠ ab ∧ a1 ≠ bo ∧ a1 ≠ ab
set_option maxRecDepth 65536 in
set_option maxHeartbeats 40000000 in
theorem rmvi (l : Launch) (Z : State) (a0 : Array Value) (hw : ∀ d ∈ tables_1, d.before a0 Z = true) (ws : List Jvm.Cond) (a1 : Addr) (p2 p3 wc : Int32) (h0 : Heap) (n0 : Nat) (Z0 : n0 ≤ h0.size) (HE_a1 : Exa Z h0 a1 q0) (HF_a1_text : Fld Z h0 a1 q0 "text" q7 .null) (HF_a1_depth : Fld Z h0 a1 q0 "depth" "I" (.int 0)) (HF_a1_limit : Fld Z h0 a1 q0 "limit" "I" (.int 0)) (HF_a1_value : Fld Z h0 a1 q0 "value" q8 .null) (HS_java_lang_String_COMPACT_STRINGS : Sta Z h0 q4 q10 "Z" (.int wc)) (g_a1 : n0 ≤ a1) (hwc : ¬ wc = 0) :
    Met1 l n7 prog_35_method_1_code 3 none ws R_rmvi #[(.ref a1), (.int p2), (.int p3)] Z h0 (Qvi Z a1 p2 p3 wc h0 n0) := by
  refine Met1.enter (plainFor_of_name pn_7) (fun m => ef_rmvi m a1 p2 p3) fun p e s m below meth c s₁ hx hby hlk hret hml hown hnm hZ X0 e0 => ?_
  have N0 := Fr.nil n0
  have K0 := Keep.refl h0 [a1]
  show Fin p e below s _ _ _ (s₁.setTop (mkF m 0 #[rv a1, iv p2, iv p3] []))
  refine Fin.step (fun _ k => Yo.aloadN X0.here hx (hb hby d7_0) rfl rfl k) ?_
  obtain ⟨Ty1, Xy1, ey1, sty1⟩ := initO X0 hx hZ hown (W_ hw 43) (W_ hw 8) (W_ hw 9) e0 (g := (mkF m 1 #[rv a1, iv p2, iv p3] [(.ref a1)])) rfl (by rw [hml]; rfl) rfl (hb hby d7_1) (by decide) (W := 0) (by show 2 * 0 + _ ≤ _; exact Nat.le_of_eq rfl) (by decide)
  refine Fin.step (sty1) ?_
  show Fin p e below s _ _ _ (Ty1.setTop (mkF m 4 #[rv a1, iv p2, iv p3] []))
  refine Fin.step (fun _ k => Yo.aloadN Xy1.here hx (hb hby d7_4) rfl rfl k) ?_
  obtain ⟨Ty2, hy2, Xy2, ey2, Ey2, Ay2, Dy2, -, sty2⟩ := newO Xy1 hx hZ hown (W_ hw 44) (W_ hw 45) (W_ hw 46) ey1 (g := (mkF m 5 #[rv a1, iv p2, iv p3] [(.ref a1)])) rfl (hb hby d7_5) (by decide) (by decide)
  obtain ⟨by2, gy2⟩ : ∃ z, z = h0.size := ⟨_, rfl⟩
  rw [← gy2] at Ay2 Dy2 sty2
  have gzy2 : n0 ≤ by2 := Nat.le_trans Z0 (Nat.le_of_eq gy2.symm)
  have szy2 : h0.size ≤ by2 := Nat.le_trans K0.1 (Nat.le_of_eq gy2.symm)
  have Zy2 := Nat.le_trans Z0 Ey2.1
  have Ky2 := K0.ext Ey2
  have F_value_by2 : Fld Z hy2 by2 q3 "value" "[B" .null := Dy2 (Or.inl (W_ hw 61)) (ty := (.array .byte)) (by decide)
  have F_coder_by2 : Fld Z hy2 by2 q3 "coder" "B" (.int 0) := Dy2 (Or.inl (W_ hw 63)) (ty := .byte) (by decide)
  have F_count_by2 : Fld Z hy2 by2 q3 "count" "I" (.int 0) := Dy2 (Or.inl (W_ hw 86)) (ty := .int) (by decide)
  refine Fin.step (sty2) ?_
  show Fin p e below s _ _ _ (Ty2.setTop (mkF m 8 #[rv a1, iv p2, iv p3] [(.ref by2), (.ref a1)]))
  refine Fin.step (fun _ k => Yo.dup Xy2.here hx (hb hby d7_8) rfl rfl k) ?_
  have ry3 := (HS_java_lang_String_COMPACT_STRINGS.ext Ey2)
  obtain ⟨_, Ty4, Lcy4, Xy4, hQy4, sty4⟩ := pack (Xy2.specialBack hx (y := n8) rfl hown (mvT hZ (W_ hw 47)) (mvT hZ (W_ hw 48)) (mvT hZ (W_ hw 49)) (by decide) (backOf (W := 2) (rmsbi l Z a0 hw [] by2 wc hy2 n0 Zy2 Ay2 F_value_by2 F_coder_by2 F_count_by2 ry3 gzy2 hwc) hZ (W_ hw 49) (W_ hw 46) (by decide) (by decide)) (g := (mkF m 9 #[rv a1, iv p2, iv p3] [(.ref by2), (.ref by2), (.ref a1)])) rfl (by rw [hml]; rfl) (Steps.refl _) (a := by2) (argsL := []) (rest := [(.ref by2), (.ref a1)]) (lenOf pd_7 rfl) rfl (lb rfl) (hb hby d7_9) (fun _ _ => ⟨rfl, ey2, (by decide : 1 + 1 ≤ _), (by decide : 4 + 16 ≤ _)⟩))
  obtain ⟨ab_y4, kb_y4, rfl, bfy4_0, Nqy4, Kcy4, fy4_0, fy4_1, fy4_2, fy4_3, ney4_0⟩ := hQy4
  have Ny4 := Fr.app N0 Nqy4
  have gzy4_0 : n0 ≤ ab_y4 := Nat.le_trans Zy2 bfy4_0
  have szy4_0 : h0.size ≤ ab_y4 := Nat.le_trans Ky2.1 bfy4_0
  have Zy4 := Nat.le_trans Zy2 Kcy4.1
  have Ky4 := Ky2.trans Kcy4 (allS (Or.inr szy2) all0)
  refine Fin.step (sty4) ?_
  show Fin p e below s _ _ _ (Ty4.setTop (mkF m 12 #[rv a1, iv p2, iv p3] [(.ref by2), (.ref a1)]))
  have ney5 := nlt HE_a1.lt (Nat.le_of_eq gy2.symm)
  obtain ⟨Ty6, hy6, Xy6, ey6, Wy6, sty6⟩ := putF Xy4 hx hZ hown (host := "") (Or.inl (W_ hw 64)) Via.refl rfl ((HF_a1_text.ext Ey2).keep Kcy4 (ninS ney5 nin0)) ((HE_a1.ext Ey2).keep Kcy4) (Or.inl (W_ hw 65)) (W_ hw 38) (ty := (.object "java/lang/StringBuilder")) (by decide) rfl rfl (g := (mkF m 12 #[rv a1, iv p2, iv p3] [(.ref by2), (.ref a1)])) rfl rfl (hb hby d7_12)
  have Fwy6 : Fld Z hy6 a1 q0 "text" q7 (.ref by2) := ((HF_a1_text.ext Ey2).keep Kcy4 (ninS ney5 nin0)).same Wy6
  have Zy6 : n0 ≤ hy6.size := Nat.le_trans Zy4 (Keep.of_wr Wy6).1
  have Ky6 : Keep h0 hy6 [a1] := Ky4.wr Wy6 m0
  have Ny6 := Fr.snoc Xy6 Ny4 g_a1
  refine Fin.step (sty6) ?_
  show Fin p e below s _ _ _ (Ty6.setTop (mkF m 15 #[rv a1, iv p2, iv p3] []))
  refine Fin.step (fun _ k => Yo.aloadN Xy6.here hx (hb hby d7_15) rfl rfl (Yo.iloadN Xy6.here hx (hb hby d7_16) rfl k)) ?_
  obtain ⟨Ty7, hy7, Xy7, ey7, Wy7, sty7⟩ := putF Xy6 hx hZ hown (host := "") (Or.inl (W_ hw 66)) Via.refl ey6 (((HF_a1_depth.ext Ey2).keep Kcy4 (ninS ney5 nin0)).other Wy6 (Or.inr (slot_ne (Or.inr (W_ hw 67)) (Or.inl (W_ hw 65)) (by decide) (t := .int) (t' := (.object "java/lang/StringBuilder")) (by decide) (by decide)))) (((HE_a1.ext Ey2).keep Kcy4).wr Wy6) (Or.inr ⟨(W_ hw 67), rfl, hnm⟩) (W_ hw 38) (ty := .int) (by decide) rfl rfl (g := (mkF m 17 #[rv a1, iv p2, iv p3] [(.int p2), (.ref a1)])) rfl rfl (hb hby d7_17)
  have Fwy7 : Fld Z hy7 a1 q0 "depth" "I" (.int p2) := (((HF_a1_depth.ext Ey2).keep Kcy4 (ninS ney5 nin0)).other Wy6 (Or.inr (slot_ne (Or.inr (W_ hw 67)) (Or.inl (W_ hw 65)) (by decide) (t := .int) (t' := (.object "java/lang/StringBuilder")) (by decide) (by decide)))).same Wy7
  have Zy7 : n0 ≤ hy7.size := Nat.le_trans Zy6 (Keep.of_wr Wy7).1
  have Ky7 : Keep h0 hy7 [a1] := Ky6.wr Wy7 m0
  have Ny7 := Fr.snoc Xy7 Ny6 g_a1
  refine Fin.step (sty7) ?_
  show Fin p e below s _ _ _ (Ty7.setTop (mkF m 20 #[rv a1, iv p2, iv p3] []))
  refine Fin.step (fun _ k => Yo.aloadN Xy7.here hx (hb hby d7_20) rfl rfl (Yo.iloadN Xy7.here hx (hb hby d7_21) rfl k)) ?_
  obtain ⟨Ty8, hy8, Xy8, ey8, Wy8, sty8⟩ := putF Xy7 hx hZ hown (host := "") (Or.inl (W_ hw 68)) Via.refl ey7 ((((HF_a1_limit.ext Ey2).keep Kcy4 (ninS ney5 nin0)).other Wy6 (Or.inr (slot_ne (Or.inr (W_ hw 69)) (Or.inl (W_ hw 65)) (by decide) (t := .int) (t' := (.object "java/lang/StringBuilder")) (by decide) (by decide)))).other Wy7 (Or.inr (slot_ne (Or.inr (W_ hw 69)) (Or.inr (W_ hw 67)) (by decide) (t := .int) (t' := .int) (by decide) (by decide)))) ((((HE_a1.ext Ey2).keep Kcy4).wr Wy6).wr Wy7) (Or.inr ⟨(W_ hw 69), rfl, hnm⟩) (W_ hw 38) (ty := .int) (by decide) rfl rfl (g := (mkF m 22 #[rv a1, iv p2, iv p3] [(.int p3), (.ref a1)])) rfl rfl (hb hby d7_22)
  have Fwy8 : Fld Z hy8 a1 q0 "limit" "I" (.int p3) := ((((HF_a1_limit.ext Ey2).keep Kcy4 (ninS ney5 nin0)).other Wy6 (Or.inr (slot_ne (Or.inr (W_ hw 69)) (Or.inl (W_ hw 65)) (by decide) (t := .int) (t' := (.object "java/lang/StringBuilder")) (by decide) (by decide)))).other Wy7 (Or.inr (slot_ne (Or.inr (W_ hw 69)) (Or.inr (W_ hw 67)) (by decide) (t := .int) (t' := .int) (by decide) (by decide)))).same Wy8
  have Zy8 : n0 ≤ hy8.size := Nat.le_trans Zy7 (Keep.of_wr Wy8).1
  have Ky8 : Keep h0 hy8 [a1] := Ky7.wr Wy8 m0
  have Ny8 := Fr.snoc Xy8 Ny7 g_a1
  refine Fin.step (sty8) ?_
  show Fin p e below s _ _ _ (Ty8.setTop (mkF m 25 #[rv a1, iv p2, iv p3] []))
  refine Fin.retV Xy8 hx hret hlk (hb hby d7_25) (by decide) (by decide) ?_
  show Qvi Z a1 p2 p3 wc h0 n0 _ Ty8.heap _
  rw [ey8]
  have ney9 := nlt (HE_a1.ext Ey2).lt bfy4_0
  exact ⟨by2, ab_y4, kb_y4, rfl, szy2, szy4_0, Ny8, Ky8, ((Fwy6.other Wy7 (Or.inr (slot_ne (Or.inl (W_ hw 65)) (Or.inr (W_ hw 67)) (by decide) (t := (.object "java/lang/StringBuilder")) (t' := .int) (by decide) (by decide)))).other Wy8 (Or.inr (slot_ne (Or.inl (W_ hw 65)) (Or.inr (W_ hw 69)) (by decide) (t := (.object "java/lang/StringBuilder")) (t' := .int) (by decide) (by decide)))), Fwy8, (((((HF_a1_value.ext Ey2).keep Kcy4 (ninS ney5 nin0)).other Wy6 (Or.inr (slot_ne (Or.inl (W_ hw 128)) (Or.inl (W_ hw 65)) (by decide) (t := (.object "java/lang/String")) (t' := (.object "java/lang/StringBuilder")) (by decide) (by decide)))).other Wy7 (Or.inr (slot_ne (Or.inl (W_ hw 128)) (Or.inr (W_ hw 67)) (by decide) (t := (.object "java/lang/String")) (t' := .int) (by decide) (by decide)))).other Wy8 (Or.inr (slot_ne (Or.inl (W_ hw 128)) (Or.inr (W_ hw 69)) (by decide) (t := (.object "java/lang/String")) (t' := .int) (by decide) (by decide)))), (Fwy7.other Wy8 (Or.inr (slot_ne (Or.inr (W_ hw 67)) (Or.inr (W_ hw 69)) (by decide) (t := .int) (t' := .int) (by decide) (by decide)))), ((((Ay2.keep Kcy4).wr Wy6).wr Wy7).wr Wy8), (((fy4_0.other Wy6 (Or.inl (Ne.symm ney5))).other Wy7 (Or.inl (Ne.symm ney5))).other Wy8 (Or.inl (Ne.symm ney5))), (((fy4_1.other Wy6 (Or.inl (Ne.symm ney5))).other Wy7 (Or.inl (Ne.symm ney5))).other Wy8 (Or.inl (Ne.symm ney5))), (((fy4_2.other Wy6 (Or.inl (Ne.symm ney5))).other Wy7 (Or.inl (Ne.symm ney5))).other Wy8 (Or.inl (Ne.symm ney5))), (((fy4_3.other Wy6 (Ne.symm ney9)).other Wy7 (Ne.symm ney9)).other Wy8 (Ne.symm ney9)), ney4_0, ney5, ney9⟩
theorem pn_10 : plainName "com/example/uzor/uzor/StringValues$Value" = true := by first | (simp [plainName, overriddenIn]; done) | decide +kernel
theorem d10_0 : decode prog_35_method_2_code 0 = .ok (.aload_n 0, 1) := by decide +kernel
theorem d10_1 : decode prog_35_method_2_code 1 = .ok (.getfield 10, 3) := by decide +kernel
theorem d10_4 : decode prog_35_method_2_code 4 = .ok (.invokevirtual 23, 3) := by decide +kernel
theorem d10_7 : decode prog_35_method_2_code 7 = .ok (.aload_n 0, 1) := by decide +kernel
theorem d10_8 : decode prog_35_method_2_code 8 = .ok (.getfield 20, 3) := by decide +kernel
theorem d10_11 : decode prog_35_method_2_code 11 = .ok (.iload_n 3, 1) := by decide +kernel
theorem d10_12 : decode prog_35_method_2_code 12 = .ok (.isub, 1) := by decide +kernel
theorem d10_13 : decode prog_35_method_2_code 13 = .ok (.if_icmp .le 10, 3) := by decide +kernel
theorem d10_23 : decode prog_35_method_2_code 23 = .ok (.aload_n 0, 1) := by decide +kernel
theorem d10_24 : decode prog_35_method_2_code 24 = .ok (.getfield 10, 3) := by decide +kernel
theorem d10_27 : decode prog_35_method_2_code 27 = .ok (.aload_n 1, 1) := by decide +kernel
theorem d10_28 : decode prog_35_method_2_code 28 = .ok (.iload_n 2, 1) := by decide +kernel
theorem d10_29 : decode prog_35_method_2_code 29 = .ok (.iload_n 3, 1) := by decide +kernel
theorem d10_30 : decode prog_35_method_2_code 30 = .ok (.invokevirtual 27, 3) := by decide +kernel
theorem pd_8 : parseMethodDescriptor "([CII)Ljava/lang/StringBuilder;" = some ⟨[(.array .char), .int, .int], some (.object "java/lang/StringBuilder")⟩ := by decide +kernel
theorem d10_33 : decode prog_35_method_2_code 33 = .ok (.pop, 1) := by decide +kernel
theorem d10_34 : decode prog_35_method_2_code 34 = .ok (.iconst 1, 1) := by decide +kernel
theorem d10_35 : decode prog_35_method_2_code 35 = .ok (.ireturn, 1) := by decide +kernel
theorem ef_rmado (m : MethodId) (x0 : Addr) (x1 : Addr) (x3 : Int32) : entryFrame m #[(.ref x0), (.ref x1), (.int (0 : Int32)), (.int x3)] 4 = mkF m 0 #[.val (.ref x0), .val (.ref x1), .val (.int (0 : Int32)), .val (.int x3)] [] := by first | (simp [entryFrame, mkF, argsToLocals, Value.category]; done) | rfl
abbrev R_rmado : Room := ({ frames := 4, cells := 0, slots := 0, locals := 63 } : Room)
def Qado (Z : State) (a1 a2 : Addr) (pn : Int32) (bo ab : Addr) (kb : ClassId) (tn : Int32) (vs : List Value) (kc : ClassId) (xs : List Value) (tl tm wc : Int32) (gv : Value) (h0 : Heap) (n0 : Nat) (v : Option Value) (h : Heap) (L : List Loc) : Prop := v = some (.int 1) ∧ Fr n0 L ∧ Keep h0 h [bo, ab] ∧ Fld Z h bo q3 "value" "[B" (.ref ab) ∧ Fld Z h bo q3 "coder" "B" (.int 0) ∧ Fld Z h bo q3 "count" "I" (.int tm) ∧ Arv Z h ab kb .byte (16 : Int32) (own_app vs xs tn.toNatClampNeg pn.toNatClampNeg) (.int 0)
set_option maxRecDepth 65536 in
set_option maxHeartbeats 40000000 in
theorem rmado (l : Launch) (Z : State) (a0 : Array Value) (hw : ∀ d ∈ tables_1, d.before a0 Z = true) (ws : List Jvm.Cond) (a1 a2 : Addr) (pn : Int32) (bo ab : Addr) (kb : ClassId) (tn : Int32) (vs : List Value) (kc : ClassId) (xs : List Value) (tl tm wc : Int32) (gv : Value) (h0 : Heap) (n0 : Nat) (Z0 : n0 ≤ h0.size) (HE_a1 : Exa Z h0 a1 q0) (HF_a1_text : Fld Z h0 a1 q0 "text" q7 (.ref bo)) (HF_a1_limit : Fld Z h0 a1 q0 "limit" "I" (.int tl)) (HE_bo : Exa Z h0 bo q2) (HF_bo_value : Fld Z h0 bo q3 "value" "[B" (.ref ab)) (HF_bo_coder : Fld Z h0 bo q3 "coder" "B" (.int 0)) (HF_bo_count : Fld Z h0 bo q3 "count" "I" (.int tn)) (HV_ab : Arv Z h0 ab kb .byte (16 : Int32) vs (.int 0)) (HV_a2 : Arv Z h0 a2 kc .char (3 : Int32) xs (.int 0)) (HS_java_lang_String_COMPACT_STRINGS : Sta Z h0 q4 q10 "Z" (.int wc)) (HS_jdk_internal_util_Preconditions_IOOBE_FORMATTER : Sta Z h0 q5 q12 q6 gv) (g_bo : n0 ≤ bo) (g_ab : n0 ≤ ab) (hp : pn = 0 ∨ pn = 1 ∨ pn = 2 ∨ pn = 3) (ht : 0 ≤ tn.toInt ∧ tn.toInt ≤ 3) (hl : vs.length = 16) (hxl : own_lat xs) (htm : tm = tn + pn) (hwc : ¬ wc = 0) (hgv : gv.isRef = true) (hle : ¬ (tl - pn) < tn) (hn_bo_ab : bo ≠ ab) (hn_a2_ab : a2 ≠ ab) :
    Met1 l n10 prog_35_method_2_code 4 (some .boolean) ws R_rmado #[(.ref a1), (.ref a2), (.int 0), (.int pn)] Z h0 (Qado Z a1 a2 pn bo ab kb tn vs kc xs tl tm wc gv h0 n0) := by
  refine Met1.enter (plainFor_of_name pn_10) (fun m => ef_rmado m a1 a2 pn) fun p e s m below meth c s₁ hx hby hlk hret hml hown hnm hZ X0 e0 => ?_
  have N0 := Fr.nil n0
  have K0 := Keep.refl h0 [bo, ab]
  show Fin p e below s _ _ _ (s₁.setTop (mkF m 0 #[rv a1, rv a2, iv 0, iv pn] []))
  refine Fin.step (fun _ k => Yo.aloadN X0.here hx (hb hby d10_0) rfl rfl k) ?_
  refine fget X0 hx hZ hown (W_ hw 64) e0 HF_a1_text (hb hby d10_1) fun Ty1 Xy1 ey1 => ?_
  obtain ⟨cqy2, kqy2, qy2a, qy2b, qy2c⟩ := isOf hZ ey1 HE_bo
  obtain ⟨_, Ty2, Lcy2, Xy2, hQy2, sty2⟩ := pack (Xy1.virtualBack hx (y := n11) (z := n11) hown (mvT hZ (W_ hw 75)) (mvT hZ (W_ hw 76)) (notFace_of_selects (args := #[]) (mvT hZ (W_ hw 78))) (mvT hZ (W_ hw 78)) (mvT hZ (W_ hw 77)) (by decide) (backOf (W := 0) (rmsbl l Z a0 hw [] bo tn h0 n0 Z0 HE_bo HF_bo_count) hZ (W_ hw 79) (W_ hw 46) (by decide) (by decide)) qy2a qy2c (g := (mkF m 4 #[rv a1, rv a2, iv 0, iv pn] [(.ref bo)])) rfl (by rw [hml]; rfl) (Steps.refl _) (argsL := []) (rest := []) (lenOf pd_1 rfl) rfl (lb rfl) (hb hby d10_4) (fun _ _ => ⟨rfl, ey1, (by decide : 0 + 0 ≤ _), (by decide : 0 + 0 ≤ _)⟩))
  obtain ⟨rfl, Nqy2, eqy2⟩ := hQy2
  have Ny2 := Fr.app N0 Nqy2
  refine Fin.step (sty2) ?_
  show Fin p e below s _ _ _ (Ty2.setTop (mkF m 7 #[rv a1, rv a2, iv 0, iv pn] [(.int tn)]))
  refine Fin.step (fun _ k => Yo.aloadN Xy2.here hx (hb hby d10_7) rfl rfl k) ?_
  refine fget Xy2 hx hZ hown (W_ hw 68) eqy2 HF_a1_limit (hb hby d10_8) fun Ty3 Xy3 ey3 => ?_
  refine Fin.step (fun _ k => Yo.iloadN Xy3.here hx (hb hby d10_11) rfl (Yo.isub Xy3.here hx (hb hby d10_12) rfl k)) ?_
  show Fin p e below s _ _ _ (Ty3.setTop (mkF m 13 #[rv a1, rv a2, iv 0, iv pn] [(.int (tl - pn)), (.int tn)]))
  refine Fin.step (fun _ k => Yo.icmpYes Xy3.here hx (pc0 := 13) (pc' := 23) rfl (hb hby d10_13) rfl (flt (hle : ¬ ((tl - pn) < tn))).2.2.2 (by decide) (by decide) (Yo.aloadN Xy3.here hx (hb hby d10_23) rfl rfl k)) ?_
  refine fget Xy3 hx hZ hown (W_ hw 64) ey3 HF_a1_text (hb hby d10_24) fun Ty4 Xy4 ey4 => ?_
  refine Fin.step (fun _ k => Yo.aloadN Xy4.here hx (hb hby d10_27) rfl rfl (Yo.iloadN Xy4.here hx (hb hby d10_28) rfl (Yo.iloadN Xy4.here hx (hb hby d10_29) rfl k))) ?_
  obtain ⟨cqy5, kqy5, qy5a, qy5b, qy5c⟩ := isOf hZ ey4 HE_bo
  obtain ⟨_, Ty5, Lcy5, Xy5, hQy5, sty5⟩ := pack (Xy4.virtualBack hx (y := n13) (z := n13) hown (mvT hZ (W_ hw 87)) (mvT hZ (W_ hw 88)) (notFace_of_selects (args := #[]) (mvT hZ (W_ hw 90))) (mvT hZ (W_ hw 90)) (mvT hZ (W_ hw 89)) (by decide) (backOf (W := 0) (rmsba l Z a0 hw [] bo a2 pn ab kb tn vs kc xs tm wc gv h0 n0 Z0 HE_bo HF_bo_value HF_bo_coder HF_bo_count HV_ab HV_a2 HS_java_lang_String_COMPACT_STRINGS HS_jdk_internal_util_Preconditions_IOOBE_FORMATTER g_bo g_ab hp ht hl hxl htm hwc hgv hn_bo_ab hn_a2_ab) hZ (W_ hw 91) (W_ hw 46) (by decide) (by decide)) qy5a qy5c (g := (mkF m 30 #[rv a1, rv a2, iv 0, iv pn] [(.int pn), (.int 0), (.ref a2), (.ref bo)])) rfl (by rw [hml]; rfl) (Steps.refl _) (argsL := [(.ref a2), (.int 0), (.int pn)]) (rest := []) (lenOf pd_8 rfl) rfl (lb rfl) (hb hby d10_30) (fun _ _ => ⟨rfl, ey4, (by decide : 0 + 0 ≤ _), (by decide : 0 + 0 ≤ _)⟩))
  obtain ⟨rfl, Nqy5, Kcy5, fy5_0, fy5_1, fy5_2, fy5_3⟩ := hQy5
  have Ny5 := Fr.app Ny2 Nqy5
  have Zy5 := Nat.le_trans Z0 Kcy5.1
  have Ky5 := K0.trans Kcy5 (allS m0 (allS m1 all0))
  refine Fin.step (sty5) ?_
  show Fin p e below s _ _ _ (Ty5.setTop (mkF m 33 #[rv a1, rv a2, iv 0, iv pn] [(.ref bo)]))
  refine Fin.step (fun _ k => Yo.pop Xy5.here hx (hb hby d10_33) rfl rfl (Yo.iconst Xy5.here hx (hb hby d10_34) k)) ?_
  refine Fin.retN Xy5 hx (t := .boolean) hret (by simp) hlk (hb hby d10_35) (by decide) (by decide) ?_
  show Qado Z a1 a2 pn bo ab kb tn vs kc xs tl tm wc gv h0 n0 _ Ty5.heap _
  exact ⟨rfl, Ny5, Ky5, fy5_0, fy5_1, fy5_2, fy5_3⟩
theorem d10_16 : decode prog_35_method_2_code 16 = .ok (.aload_n 0, 1) := by decide +kernel
theorem d10_17 : decode prog_35_method_2_code 17 = .ok (.aconst_null, 1) := by decide +kernel
theorem d10_18 : decode prog_35_method_2_code 18 = .ok (.putfield 10, 3) := by decide +kernel
theorem d10_21 : decode prog_35_method_2_code 21 = .ok (.iconst 0, 1) := by decide +kernel
theorem d10_22 : decode prog_35_method_2_code 22 = .ok (.ireturn, 1) := by decide +kernel
theorem ef_rmadp (m : MethodId) (x0 : Addr) (x1 : Addr) (x3 : Int32) : entryFrame m #[(.ref x0), (.ref x1), (.int (0 : Int32)), (.int x3)] 4 = mkF m 0 #[.val (.ref x0), .val (.ref x1), .val (.int (0 : Int32)), .val (.int x3)] [] := by first | (simp [entryFrame, mkF, argsToLocals, Value.category]; done) | rfl
abbrev R_rmadp : Room := ({ frames := 2, cells := 0, slots := 0, locals := 24 } : Room)
def Qadp (Z : State) (a1 a2 : Addr) (pn : Int32) (bo : Addr) (tn tl : Int32) (h0 : Heap) (n0 : Nat) (v : Option Value) (h : Heap) (L : List Loc) : Prop := v = some (.int 0) ∧ Fr n0 L ∧ Keep h0 h [a1] ∧ Fld Z h a1 q0 "text" q7 .null ∧ Fld Z h a1 q0 "value" q8 .null
set_option maxRecDepth 65536 in
set_option maxHeartbeats 40000000 in
theorem rmadp (l : Launch) (Z : State) (a0 : Array Value) (hw : ∀ d ∈ tables_1, d.before a0 Z = true) (ws : List Jvm.Cond) (a1 a2 : Addr) (pn : Int32) (bo : Addr) (tn tl : Int32) (h0 : Heap) (n0 : Nat) (Z0 : n0 ≤ h0.size) (HE_a1 : Exa Z h0 a1 q0) (HF_a1_text : Fld Z h0 a1 q0 "text" q7 (.ref bo)) (HF_a1_limit : Fld Z h0 a1 q0 "limit" "I" (.int tl)) (HF_a1_value : Fld Z h0 a1 q0 "value" q8 .null) (HE_bo : Exa Z h0 bo q2) (HF_bo_count : Fld Z h0 bo q3 "count" "I" (.int tn)) (g_a1 : n0 ≤ a1) (hle : (tl - pn) < tn) :
    Met1 l n10 prog_35_method_2_code 4 (some .boolean) ws R_rmadp #[(.ref a1), (.ref a2), (.int 0), (.int pn)] Z h0 (Qadp Z a1 a2 pn bo tn tl h0 n0) := by
  refine Met1.enter (plainFor_of_name pn_10) (fun m => ef_rmadp m a1 a2 pn) fun p e s m below meth c s₁ hx hby hlk hret hml hown hnm hZ X0 e0 => ?_
  have N0 := Fr.nil n0
  have K0 := Keep.refl h0 [a1]
  show Fin p e below s _ _ _ (s₁.setTop (mkF m 0 #[rv a1, rv a2, iv 0, iv pn] []))
  refine Fin.step (fun _ k => Yo.aloadN X0.here hx (hb hby d10_0) rfl rfl k) ?_
  refine fget X0 hx hZ hown (W_ hw 64) e0 HF_a1_text (hb hby d10_1) fun Ty1 Xy1 ey1 => ?_
  obtain ⟨cqy2, kqy2, qy2a, qy2b, qy2c⟩ := isOf hZ ey1 HE_bo
  obtain ⟨_, Ty2, Lcy2, Xy2, hQy2, sty2⟩ := pack (Xy1.virtualBack hx (y := n11) (z := n11) hown (mvT hZ (W_ hw 75)) (mvT hZ (W_ hw 76)) (notFace_of_selects (args := #[]) (mvT hZ (W_ hw 78))) (mvT hZ (W_ hw 78)) (mvT hZ (W_ hw 77)) (by decide) (backOf (W := 0) (rmsbl l Z a0 hw [] bo tn h0 n0 Z0 HE_bo HF_bo_count) hZ (W_ hw 79) (W_ hw 46) (by decide) (by decide)) qy2a qy2c (g := (mkF m 4 #[rv a1, rv a2, iv 0, iv pn] [(.ref bo)])) rfl (by rw [hml]; rfl) (Steps.refl _) (argsL := []) (rest := []) (lenOf pd_1 rfl) rfl (lb rfl) (hb hby d10_4) (fun _ _ => ⟨rfl, ey1, (by decide : 0 + 0 ≤ _), (by decide : 0 + 0 ≤ _)⟩))
  obtain ⟨rfl, Nqy2, eqy2⟩ := hQy2
  have Ny2 := Fr.app N0 Nqy2
  refine Fin.step (sty2) ?_
  show Fin p e below s _ _ _ (Ty2.setTop (mkF m 7 #[rv a1, rv a2, iv 0, iv pn] [(.int tn)]))
  refine Fin.step (fun _ k => Yo.aloadN Xy2.here hx (hb hby d10_7) rfl rfl k) ?_
  refine fget Xy2 hx hZ hown (W_ hw 68) eqy2 HF_a1_limit (hb hby d10_8) fun Ty3 Xy3 ey3 => ?_
  refine Fin.step (fun _ k => Yo.iloadN Xy3.here hx (hb hby d10_11) rfl (Yo.isub Xy3.here hx (hb hby d10_12) rfl k)) ?_
  show Fin p e below s _ _ _ (Ty3.setTop (mkF m 13 #[rv a1, rv a2, iv 0, iv pn] [(.int (tl - pn)), (.int tn)]))
  refine Fin.step (fun _ k => Yo.icmpNo Xy3.here hx (hb hby d10_13) rfl (tlt (hle : ((tl - pn) < tn))).2.2.2 (Yo.aloadN Xy3.here hx (hb hby d10_16) rfl rfl (Yo.aconstNull Xy3.here hx (hb hby d10_17) k))) ?_
  obtain ⟨Ty4, hy4, Xy4, ey4, Wy4, sty4⟩ := putF Xy3 hx hZ hown (host := "") (Or.inl (W_ hw 64)) Via.refl ey3 HF_a1_text HE_a1 (Or.inl (W_ hw 65)) (W_ hw 38) (ty := (.object "java/lang/StringBuilder")) (by decide) rfl rfl (g := (mkF m 18 #[rv a1, rv a2, iv 0, iv pn] [.null, (.ref a1)])) rfl rfl (hb hby d10_18)
  have Fwy4 : Fld Z hy4 a1 q0 "text" q7 .null := HF_a1_text.same Wy4
  have Zy4 : n0 ≤ hy4.size := Nat.le_trans Z0 (Keep.of_wr Wy4).1
  have Ky4 : Keep h0 hy4 [a1] := K0.wr Wy4 m0
  have Ny4 := Fr.snoc Xy4 Ny2 g_a1
  refine Fin.step (sty4) ?_
  show Fin p e below s _ _ _ (Ty4.setTop (mkF m 21 #[rv a1, rv a2, iv 0, iv pn] []))
  refine Fin.step (fun _ k => Yo.iconst Xy4.here hx (hb hby d10_21) k) ?_
  refine Fin.retN Xy4 hx (t := .boolean) hret (by simp) hlk (hb hby d10_22) (by decide) (by decide) ?_
  show Qadp Z a1 a2 pn bo tn tl h0 n0 _ Ty4.heap _
  rw [ey4]
  exact ⟨rfl, Ny4, Ky4, Fwy4, (HF_a1_value.other Wy4 (Or.inr (slot_ne (Or.inl (W_ hw 128)) (Or.inl (W_ hw 65)) (by decide) (t := (.object "java/lang/String")) (t' := (.object "java/lang/StringBuilder")) (by decide) (by decide))))⟩
theorem pn_20 : plainName "com/example/uzor/uzor/StringValues$Value" = true := by first | (simp [plainName, overriddenIn]; done) | decide +kernel
theorem d20_0 : decode prog_35_method_4_code 0 = .ok (.aload_n 0, 1) := by decide +kernel
theorem d20_1 : decode prog_35_method_4_code 1 = .ok (.getfield 35, 3) := by decide +kernel
theorem d20_4 : decode prog_35_method_4_code 4 = .ok (.areturn, 1) := by decide +kernel
theorem ef_rmg0 (m : MethodId) (x0 : Addr) : entryFrame m #[(.ref x0)] 1 = mkF m 0 #[.val (.ref x0)] [] := by first | (simp [entryFrame, mkF, argsToLocals, Value.category]; done) | rfl
abbrev R_rmg0 : Room := ({ frames := 0, cells := 0, slots := 0, locals := 0 } : Room)
def Qg0 (Z : State) (a1 : Addr) (h0 : Heap) (n0 : Nat) (v : Option Value) (h : Heap) (L : List Loc) : Prop := v = some .null ∧ Fr n0 L ∧ h = h0
set_option maxRecDepth 65536 in
set_option maxHeartbeats 40000000 in
theorem rmg0 (l : Launch) (Z : State) (a0 : Array Value) (hw : ∀ d ∈ tables_1, d.before a0 Z = true) (ws : List Jvm.Cond) (a1 : Addr) (h0 : Heap) (n0 : Nat) (Z0 : n0 ≤ h0.size) (HF_a1_value : Fld Z h0 a1 q0 "value" q8 .null) :
    Met1 l n20 prog_35_method_4_code 1 (some (.object "java/lang/String")) ws R_rmg0 #[(.ref a1)] Z h0 (Qg0 Z a1 h0 n0) := by
  refine Met1.enter (plainFor_of_name pn_20) (fun m => ef_rmg0 m a1) fun p e s m below meth c s₁ hx hby hlk hret hml hown hnm hZ X0 e0 => ?_
  have N0 := Fr.nil n0
  have K0 : Keep h0 h0 [] := Keep.refl h0 _
  show Fin p e below s _ _ _ (s₁.setTop (mkF m 0 #[rv a1] []))
  refine Fin.step (fun _ k => Yo.aloadN X0.here hx (hb hby d20_0) rfl rfl k) ?_
  refine fget X0 hx hZ hown (W_ hw 127) e0 HF_a1_value (hb hby d20_1) fun Ty1 Xy1 ey1 => ?_
  refine Fin.retR Xy1 hx hret rfl rfl hlk (hb hby d20_4) (by decide) (by decide) ?_
  show Qg0 Z a1 h0 n0 _ Ty1.heap _
  rw [ey1]
  exact ⟨rfl, N0, rfl⟩
theorem ef_rmg1 (m : MethodId) (x0 : Addr) : entryFrame m #[(.ref x0)] 1 = mkF m 0 #[.val (.ref x0)] [] := by first | (simp [entryFrame, mkF, argsToLocals, Value.category]; done) | rfl
abbrev R_rmg1 : Room := ({ frames := 0, cells := 0, slots := 0, locals := 0 } : Room)
def Qg1 (Z : State) (a1 vr : Addr) (h0 : Heap) (n0 : Nat) (v : Option Value) (h : Heap) (L : List Loc) : Prop := v = some (.ref vr) ∧ Fr n0 L ∧ h = h0
set_option maxRecDepth 65536 in
set_option maxHeartbeats 40000000 in
theorem rmg1 (l : Launch) (Z : State) (a0 : Array Value) (hw : ∀ d ∈ tables_1, d.before a0 Z = true) (ws : List Jvm.Cond) (a1 vr : Addr) (h0 : Heap) (n0 : Nat) (Z0 : n0 ≤ h0.size) (HF_a1_value : Fld Z h0 a1 q0 "value" q8 (.ref vr)) :
    Met1 l n20 prog_35_method_4_code 1 (some (.object "java/lang/String")) ws R_rmg1 #[(.ref a1)] Z h0 (Qg1 Z a1 vr h0 n0) := by
  refine Met1.enter (plainFor_of_name pn_20) (fun m => ef_rmg1 m a1) fun p e s m below meth c s₁ hx hby hlk hret hml hown hnm hZ X0 e0 => ?_
  have N0 := Fr.nil n0
  have K0 : Keep h0 h0 [] := Keep.refl h0 _
  show Fin p e below s _ _ _ (s₁.setTop (mkF m 0 #[rv a1] []))
  refine Fin.step (fun _ k => Yo.aloadN X0.here hx (hb hby d20_0) rfl rfl k) ?_
  refine fget X0 hx hZ hown (W_ hw 127) e0 HF_a1_value (hb hby d20_1) fun Ty1 Xy1 ey1 => ?_
  refine Fin.retR Xy1 hx hret rfl rfl hlk (hb hby d20_4) (by decide) (by decide) ?_
  show Qg1 Z a1 vr h0 n0 _ Ty1.heap _
  rw [ey1]
  exact ⟨rfl, N0, rfl⟩
theorem pn_28 : plainName "java/util/Arrays" = true := by first | (simp [plainName, overriddenIn]; done) | decide +kernel
theorem d28_0 : decode jdk_65_method_131_code 0 = .ok (.iload_n 1, 1) := by decide +kernel
theorem d28_1 : decode jdk_65_method_131_code 1 = .ok (.iload_n 0, 1) := by decide +kernel
theorem d28_2 : decode jdk_65_method_131_code 2 = .ok (.if_icmp .ge 35, 3) := by decide +kernel
theorem d28_37 : decode jdk_65_method_131_code 37 = .ok (.return_, 1) := by decide +kernel
theorem ef_rmcl (m : MethodId) (x1 : Int32) : entryFrame m #[(.int (0 : Int32)), (.int x1)] 2 = mkF m 0 #[.val (.int (0 : Int32)), .val (.int x1)] [] := by first | (simp [entryFrame, mkF, argsToLocals, Value.category]; done) | rfl
abbrev R_rmcl : Room := ({ frames := 0, cells := 0, slots := 0, locals := 0 } : Room)
def Qcl (Z : State) (p2 : Int32) (h0 : Heap) (n0 : Nat) (v : Option Value) (h : Heap) (L : List Loc) : Prop := v = none ∧ Fr n0 L ∧ h = h0
set_option maxRecDepth 65536 in
set_option maxHeartbeats 40000000 in
theorem rmcl (l : Launch) (Z : State) (a0 : Array Value) (hw : ∀ d ∈ tables_1, d.before a0 Z = true) (ws : List Jvm.Cond) (p2 : Int32) (h0 : Heap) (n0 : Nat) (Z0 : n0 ≤ h0.size) (h1 : ¬ p2 < 0) :
    Met1 l n28 jdk_65_method_131_code 2 none ws R_rmcl #[(.int 0), (.int p2)] Z h0 (Qcl Z p2 h0 n0) := by
  refine Met1.enter (plainFor_of_name pn_28) (fun m => ef_rmcl m p2) fun p e s m below meth c s₁ hx hby hlk hret hml hown hnm hZ X0 e0 => ?_
  have N0 := Fr.nil n0
  have K0 : Keep h0 h0 [] := Keep.refl h0 _
  show Fin p e below s _ _ _ (s₁.setTop (mkF m 0 #[iv 0, iv p2] []))
  refine Fin.step (fun _ k => Yo.iloadN X0.here hx (hb hby d28_0) rfl (Yo.iloadN X0.here hx (hb hby d28_1) rfl (Yo.icmpYes X0.here hx (pc0 := 2) (pc' := 37) rfl (hb hby d28_2) rfl (flt (h1 : ¬ (p2 < (0 : Int32)))).2.1 (by decide) (by decide) k))) ?_
  refine Fin.retV X0 hx hret hlk (hb hby d28_37) (by decide) (by decide) ?_
  show Qcl Z p2 h0 n0 _ s₁.heap _
  rw [e0]
  exact ⟨rfl, N0, rfl⟩
theorem d29_0 : decode jdk_29_method_69_code 0 = .ok (.iload_n 0, 1) := by decide +kernel
theorem d29_1 : decode jdk_29_method_69_code 1 = .ok (.iload_n 1, 1) := by decide +kernel
theorem d29_2 : decode jdk_29_method_69_code 2 = .ok (.if_icmp .gt 7, 3) := by decide +kernel
theorem d29_9 : decode jdk_29_method_69_code 9 = .ok (.iload_n 1, 1) := by decide +kernel
theorem d29_10 : decode jdk_29_method_69_code 10 = .ok (.ireturn, 1) := by decide +kernel
theorem ef_rmmin (m : MethodId) (x0 : Int32) (x1 : Int32) : entryFrame m #[(.int x0), (.int x1)] 2 = mkF m 0 #[.val (.int x0), .val (.int x1)] [] := by first | (simp [entryFrame, mkF, argsToLocals, Value.category]; done) | rfl
abbrev R_rmmin : Room := ({ frames := 0, cells := 0, slots := 0, locals := 0 } : Room)
def Qmin (Z : State) (p1 p2 : Int32) (h0 : Heap) (n0 : Nat) (v : Option Value) (h : Heap) (L : List Loc) : Prop := v = some (.int p2) ∧ Fr n0 L ∧ h = h0
set_option maxRecDepth 65536 in
set_option maxHeartbeats 40000000 in
theorem rmmin (l : Launch) (Z : State) (a0 : Array Value) (hw : ∀ d ∈ tables_1, d.before a0 Z = true) (ws : List Jvm.Cond) (p1 p2 : Int32) (h0 : Heap) (n0 : Nat) (Z0 : n0 ≤ h0.size) (h1 : p2 < p1) :
    Met1 l n29 jdk_29_method_69_code 2 (some .int) ws R_rmmin #[(.int p1), (.int p2)] Z h0 (Qmin Z p1 p2 h0 n0) := by
  refine Met1.enter (Jvm.Free.JP.mathPlain rfl (by decide +kernel)) (fun m => ef_rmmin m p1 p2) fun p e s m below meth c s₁ hx hby hlk hret hml hown hnm hZ X0 e0 => ?_
  have N0 := Fr.nil n0
  have K0 : Keep h0 h0 [] := Keep.refl h0 _
  show Fin p e below s _ _ _ (s₁.setTop (mkF m 0 #[iv p1, iv p2] []))
  refine Fin.step (fun _ k => Yo.iloadN X0.here hx (hb hby d29_0) rfl (Yo.iloadN X0.here hx (hb hby d29_1) rfl (Yo.icmpYes X0.here hx (pc0 := 2) (pc' := 9) rfl (hb hby d29_2) rfl (tlt (h1 : (p2 < p1))).2.2.1 (by decide) (by decide) (Yo.iloadN X0.here hx (hb hby d29_9) rfl k)))) ?_
  refine Fin.retI X0 hx hret hlk (hb hby d29_10) (by decide) (by decide) ?_
  show Qmin Z p1 p2 h0 n0 _ s₁.heap _
  rw [e0]
  exact ⟨rfl, N0, rfl⟩
theorem pn_27 : plainName "java/util/Arrays" = true := by first | (simp [plainName, overriddenIn]; done) | decide +kernel
theorem d27_0 : decode jdk_65_method_133_code 0 = .ok (.iload_n 1, 1) := by decide +kernel
theorem d27_1 : decode jdk_65_method_133_code 1 = .ok (.iload_n 2, 1) := by decide +kernel
theorem d27_2 : decode jdk_65_method_133_code 2 = .ok (.invokestatic 343, 3) := by decide +kernel
theorem pd_9 : parseMethodDescriptor "(II)V" = some ⟨[.int, .int], none⟩ := by decide +kernel
theorem d27_5 : decode jdk_65_method_133_code 5 = .ok (.iload_n 2, 1) := by decide +kernel
theorem d27_6 : decode jdk_65_method_133_code 6 = .ok (.iload_n 1, 1) := by decide +kernel
theorem d27_7 : decode jdk_65_method_133_code 7 = .ok (.isub, 1) := by decide +kernel
theorem d27_8 : decode jdk_65_method_133_code 8 = .ok (.istore_n 3, 1) := by decide +kernel
theorem d27_9 : decode jdk_65_method_133_code 9 = .ok (.iload_n 3, 1) := by decide +kernel
theorem d27_10 : decode jdk_65_method_133_code 10 = .ok (.newarray .byte, 2) := by decide +kernel
theorem d27_12 : decode jdk_65_method_133_code 12 = .ok (.astore 4, 2) := by decide +kernel
theorem d27_14 : decode jdk_65_method_133_code 14 = .ok (.aload_n 0, 1) := by decide +kernel
theorem d27_15 : decode jdk_65_method_133_code 15 = .ok (.iload_n 1, 1) := by decide +kernel
theorem d27_16 : decode jdk_65_method_133_code 16 = .ok (.aload 4, 2) := by decide +kernel
theorem d27_18 : decode jdk_65_method_133_code 18 = .ok (.iconst 0, 1) := by decide +kernel
theorem d27_19 : decode jdk_65_method_133_code 19 = .ok (.aload_n 0, 1) := by decide +kernel
theorem d27_20 : decode jdk_65_method_133_code 20 = .ok (.arraylength, 1) := by decide +kernel
theorem d27_21 : decode jdk_65_method_133_code 21 = .ok (.iload_n 1, 1) := by decide +kernel
theorem d27_22 : decode jdk_65_method_133_code 22 = .ok (.isub, 1) := by decide +kernel
theorem d27_23 : decode jdk_65_method_133_code 23 = .ok (.iload_n 3, 1) := by decide +kernel
theorem d27_24 : decode jdk_65_method_133_code 24 = .ok (.invokestatic 304, 3) := by decide +kernel
theorem pd_10 : parseMethodDescriptor "(II)I" = some ⟨[.int, .int], some .int⟩ := by decide +kernel
theorem d27_27 : decode jdk_65_method_133_code 27 = .ok (.invokestatic 150, 3) := by decide +kernel
theorem d27_30 : decode jdk_65_method_133_code 30 = .ok (.aload 4, 2) := by decide +kernel
theorem d27_32 : decode jdk_65_method_133_code 32 = .ok (.areturn, 1) := by decide +kernel
theorem ef_rmcrb (m : MethodId) (x0 : Addr) (x2 : Int32) : entryFrame m #[(.ref x0), (.int (0 : Int32)), (.int x2)] 5 = mkF m 0 #[.val (.ref x0), .val (.int (0 : Int32)), .val (.int x2), .unset, .unset] [] := by first | (simp [entryFrame, mkF, argsToLocals, Value.category]; done) | rfl
abbrev R_rmcrb : Room := ({ frames := 1, cells := 1, slots := 6, locals := 18 } : Room)
def Qcrb (Z : State) (ab : Addr) (tn : Int32) (kb : ClassId) (vs : List Value) (h0 : Heap) (n0 : Nat) (v : Option Value) (h : Heap) (L : List Loc) : Prop := ∃ kn : ClassId, ∃ nb : Addr, v = some (.ref nb) ∧ h0.size ≤ nb ∧ Fr n0 L ∧ Keep h0 h [] ∧ Arv Z h nb kn .byte tn (own_cp vs tn.toNatClampNeg) (.int 0)
set_option maxRecDepth 65536 in
set_option maxHeartbeats 40000000 in
theorem rmcrb (l : Launch) (Z : State) (a0 : Array Value) (hw : ∀ d ∈ tables_1, d.before a0 Z = true) (ws : List Jvm.Cond) (ab : Addr) (tn : Int32) (kb : ClassId) (vs : List Value) (h0 : Heap) (n0 : Nat) (Z0 : n0 ≤ h0.size) (HV_ab : Arv Z h0 ab kb .byte (16 : Int32) vs (.int 0)) (h6 : 0 ≤ tn.toInt ∧ tn.toInt ≤ 6) :
    Met1 l n27 jdk_65_method_133_code 5 (some (.array .byte)) ws R_rmcrb #[(.ref ab), (.int 0), (.int tn)] Z h0 (Qcrb Z ab tn kb vs h0 n0) := by
  refine Met1.enter (plainFor_of_name pn_27) (fun m => ef_rmcrb m ab tn) fun p e s m below meth c s₁ hx hby hlk hret hml hown hnm hZ X0 e0 => ?_
  have N0 := Fr.nil n0
  have K0 : Keep h0 h0 [] := Keep.refl h0 _
  show Fin p e below s _ _ _ (s₁.setTop (mkF m 0 #[rv ab, iv 0, iv tn, .unset, .unset] []))
  refine Fin.step (fun _ k => Yo.iloadN X0.here hx (hb hby d27_0) rfl (Yo.iloadN X0.here hx (hb hby d27_1) rfl k)) ?_
  obtain ⟨_, Ty1, Lcy1, Xy1, hQy1, sty1⟩ := packS (Jvm.LawKit.callS X0 hx (y := n28) hown (mvT hZ (W_ hw 165)) (mvT hZ (W_ hw 166)) (mvT hZ (W_ hw 160)) (mvT hZ (W_ hw 167)) (by decide) (backOf (W := 0) (rmcl l Z a0 hw [] tn h0 n0 Z0 (own_len6 h6).1) hZ (W_ hw 167) (W_ hw 160) (by decide) (by decide)) (g := (mkF m 2 #[rv ab, iv 0, iv tn, .unset, .unset] [(.int tn), (.int 0)])) rfl (by rw [hml]; rfl) (argsL := [(.int 0), (.int tn)]) (rest := []) (lenOf pd_9 rfl) rfl (lb rfl) (hb hby d27_2) (fun _ _ => ⟨rfl, e0, (by decide : 0 + 0 ≤ _), (by decide : 0 + 0 ≤ _)⟩))
  obtain ⟨rfl, Nqy1, eqy1⟩ := hQy1
  have Ny1 := Fr.app N0 Nqy1
  refine Fin.step (sty1) ?_
  show Fin p e below s _ _ _ (Ty1.setTop (mkF m 5 #[rv ab, iv 0, iv tn, .unset, .unset] []))
  refine Fin.step (fun _ k => Yo.iloadN Xy1.here hx (hb hby d27_5) rfl (Yo.iloadN Xy1.here hx (hb hby d27_6) rfl (Yo.isub Xy1.here hx (hb hby d27_7) rfl k))) ?_
  show Fin p e below s _ _ _ (Ty1.setTop (mkF m 8 #[rv ab, iv 0, iv tn, .unset, .unset] [(.int (tn - (0 : Int32)))]))
  refine Fin.step (fun _ k => Yo.istoreN Xy1.here hx (hb hby d27_8) rfl (l' := #[rv ab, iv 0, iv tn, .val (.int (tn - (0 : Int32))), .unset]) rfl k) ?_
  rw [Int32.sub_zero]
  show Fin p e below s _ _ _ (Ty1.setTop (mkF m 9 #[rv ab, iv 0, iv tn, iv tn, .unset] []))
  have h7 := own_len6 h6
  refine Fin.step (fun _ k => Yo.iloadN Xy1.here hx (hb hby d27_9) rfl k) ?_
  obtain ⟨Ty2, hy2, ky2, Xy2, ey2, Ey2, Ay2, sty2⟩ := newP Xy1 hx hZ (W_ hw 59) eqy1 (g := (mkF m 10 #[rv ab, iv 0, iv tn, iv tn, .unset] [(.int tn)])) rfl (hb hby d27_10) rfl h7.1 (cap := 6) h7.2.2.2.2.2 (by decide) (by decide) (by decide)
  obtain ⟨by2, gy2⟩ : ∃ z, z = h0.size := ⟨_, rfl⟩
  rw [← gy2] at Ay2 sty2
  have gzy2 : n0 ≤ by2 := Nat.le_trans Z0 (Nat.le_of_eq gy2.symm)
  have szy2 : h0.size ≤ by2 := Nat.le_trans K0.1 (Nat.le_of_eq gy2.symm)
  have Zy2 := Nat.le_trans Z0 Ey2.1
  have Ky2 := K0.ext Ey2
  have Vy2 : Arv Z hy2 by2 ky2 .byte tn (List.replicate (tn).toNatClampNeg (.int 0)) (.int 0) := (Arv.new Ay2 h7.1).pad (pad_rep [] (.int 0) _)
  refine Fin.step (sty2) ?_
  show Fin p e below s _ _ _ (Ty2.setTop (mkF m 12 #[rv ab, iv 0, iv tn, iv tn, .unset] [(.ref by2)]))
  refine Fin.step (fun _ k => Yo.astore Xy2.here hx (hb hby d27_12) rfl rfl (l' := #[rv ab, iv 0, iv tn, iv tn, rv by2]) rfl (Yo.aloadN Xy2.here hx (hb hby d27_14) rfl rfl (Yo.iloadN Xy2.here hx (hb hby d27_15) rfl (Yo.aload Xy2.here hx (hb hby d27_16) rfl rfl (Yo.iconst Xy2.here hx (hb hby d27_18) (Yo.aloadN Xy2.here hx (hb hby d27_19) rfl rfl k)))))) ?_
  have voy3 := (HV_ab.ext Ey2)
  obtain ⟨cly3, Ary3, qay3, say3, nay3, hay3, gay3⟩ := voy3
  refine Fin.step (Xy2.arraylength hx (by rw [ey2]; exact Ary3.1) (State.isArrayOf_alike hZ.alike Ary3.2.1) (g := (mkF m 20 #[rv ab, iv 0, iv tn, iv tn, rv by2] [(.ref ab), (.int 0), (.ref by2), (.int 0), (.ref ab)])) rfl rfl (hb hby d27_20)) ?_
  rw [len_of say3 nay3]
  show Fin p e below s _ _ _ (Ty2.setTop (mkF m 21 #[rv ab, iv 0, iv tn, iv tn, rv by2] [(.int 16), (.int 0), (.ref by2), (.int 0), (.ref ab)]))
  refine Fin.step (fun _ k => Yo.iloadN Xy2.here hx (hb hby d27_21) rfl (Yo.isub Xy2.here hx (hb hby d27_22) rfl k)) ?_
  show Fin p e below s _ _ _ (Ty2.setTop (mkF m 23 #[rv ab, iv 0, iv tn, iv tn, rv by2] [(.int 16), (.int 0), (.ref by2), (.int 0), (.ref ab)]))
  refine Fin.step (fun _ k => Yo.iloadN Xy2.here hx (hb hby d27_23) rfl k) ?_
  obtain ⟨_, Ty4, Lcy4, Xy4, hQy4, sty4⟩ := packS (Jvm.LawKit.callS Xy2 hx (y := n29) hown (mvT hZ (W_ hw 168)) (mvT hZ (W_ hw 169)) (mvT hZ (W_ hw 170)) (mvT hZ (W_ hw 171)) (by decide) (backOf (W := 4) (rmmin l Z a0 hw [] (16 : Int32) tn hy2 n0 Zy2 h7.2.2.1) hZ (W_ hw 171) (W_ hw 170) (by decide) (by decide)) (g := (mkF m 24 #[rv ab, iv 0, iv tn, iv tn, rv by2] [(.int tn), (.int 16), (.int 0), (.ref by2), (.int 0), (.ref ab)])) rfl (by rw [hml]; rfl) (argsL := [(.int 16), (.int tn)]) (rest := [(.int 0), (.ref by2), (.int 0), (.ref ab)]) (lenOf pd_10 rfl) rfl (lb rfl) (hb hby d27_24) (fun _ _ => ⟨rfl, ey2, (by decide : 1 + 0 ≤ _), (by decide : 6 + 0 ≤ _)⟩))
  obtain ⟨rfl, Nqy4, eqy4⟩ := hQy4
  have Ny4 := Fr.app Ny1 Nqy4
  refine Fin.step (sty4) ?_
  show Fin p e below s _ _ _ (Ty4.setTop (mkF m 27 #[rv ab, iv 0, iv tn, iv tn, rv by2] [(.int tn), (.int 0), (.ref by2), (.int 0), (.ref ab)]))
  obtain ⟨Ty5, hy5, Ly5, Xy5, ey5, Ny5, Kcy5, Vy5, sty5⟩ := cpA Xy4 hx hZ hown (W_ hw 172) (W_ hw 175) (W_ hw 173) (W_ hw 174) eqy4 (HV_ab.ext Ey2) Vy2 (Or.inl ⟨rfl, rfl⟩) (sp := (0 : Int32)) (dp := (0 : Int32)) (nn := tn) (by decide) (by decide) h7.1 h7.2.2.2.1 h7.2.2.2.2.1 (us := (own_cp vs tn.toNatClampNeg)) rfl (by rw [List.length_replicate]; exact h7.2.2.2.2.1) Ny4 gzy2 (g := (mkF m 27 #[rv ab, iv 0, iv tn, iv tn, rv by2] [(.int tn), (.int 0), (.ref by2), (.int 0), (.ref ab)])) rfl (by rw [hml]; rfl) rfl (hb hby d27_27) (by decide) (W := 0) (by show 2 * 0 + _ ≤ _; exact Nat.le_of_eq rfl) (by decide)
  have Vy5 : Arv Z hy5 by2 ky2 .byte tn (own_cp vs tn.toNatClampNeg) (.int 0) := by rw [own_cpv] at Vy5; exact Vy5
  have Zy5 := Nat.le_trans Zy2 Kcy5.1
  have Ky5 := Ky2.trans Kcy5 (allS (Or.inr szy2) all0)
  refine Fin.step (sty5) ?_
  show Fin p e below s _ _ _ (Ty5.setTop (mkF m 30 #[rv ab, iv 0, iv tn, iv tn, rv by2] []))
  refine Fin.step (fun _ k => Yo.aload Xy5.here hx (hb hby d27_30) rfl rfl k) ?_
  refine Fin.retR Xy5 hx hret rfl rfl hlk (hb hby d27_32) (by decide) (by decide) ?_
  show Qcrb Z ab tn kb vs h0 n0 _ Ty5.heap _
  rw [ey5]
  exact ⟨ky2, by2, rfl, szy2, Ny5, Ky5, Vy5⟩
theorem pn_26 : plainName "java/util/Arrays" = true := by first | (simp [plainName, overriddenIn]; done) | decide +kernel
theorem d26_0 : decode jdk_65_method_132_code 0 = .ok (.iload_n 1, 1) := by decide +kernel
theorem d26_1 : decode jdk_65_method_132_code 1 = .ok (.ifCond .ne 9, 3) := by decide +kernel
theorem d26_4 : decode jdk_65_method_132_code 4 = .ok (.iload_n 2, 1) := by decide +kernel
theorem d26_5 : decode jdk_65_method_132_code 5 = .ok (.aload_n 0, 1) := by decide +kernel
theorem d26_6 : decode jdk_65_method_132_code 6 = .ok (.arraylength, 1) := by decide +kernel
theorem d26_7 : decode jdk_65_method_132_code 7 = .ok (.if_icmp .eq 10, 3) := by decide +kernel
theorem d26_10 : decode jdk_65_method_132_code 10 = .ok (.aload_n 0, 1) := by decide +kernel
theorem d26_11 : decode jdk_65_method_132_code 11 = .ok (.iload_n 1, 1) := by decide +kernel
theorem d26_12 : decode jdk_65_method_132_code 12 = .ok (.iload_n 2, 1) := by decide +kernel
theorem d26_13 : decode jdk_65_method_132_code 13 = .ok (.invokestatic 339, 3) := by decide +kernel
theorem pd_11 : parseMethodDescriptor "([BII)[B" = some ⟨[(.array .byte), .int, .int], some (.array .byte)⟩ := by decide +kernel
theorem d26_16 : decode jdk_65_method_132_code 16 = .ok (.areturn, 1) := by decide +kernel
theorem ef_rmcr (m : MethodId) (x0 : Addr) (x2 : Int32) : entryFrame m #[(.ref x0), (.int (0 : Int32)), (.int x2)] 3 = mkF m 0 #[.val (.ref x0), .val (.int (0 : Int32)), .val (.int x2)] [] := by first | (simp [entryFrame, mkF, argsToLocals, Value.category]; done) | rfl
abbrev R_rmcr : Room := ({ frames := 2, cells := 1, slots := 6, locals := 34 } : Room)
def Qcr (Z : State) (ab : Addr) (tn : Int32) (kb : ClassId) (vs : List Value) (h0 : Heap) (n0 : Nat) (v : Option Value) (h : Heap) (L : List Loc) : Prop := ∃ kn : ClassId, ∃ nb : Addr, v = some (.ref nb) ∧ h0.size ≤ nb ∧ Fr n0 L ∧ Keep h0 h [] ∧ Arv Z h nb kn .byte tn (own_cp vs tn.toNatClampNeg) (.int 0)
set_option maxRecDepth 65536 in
set_option maxHeartbeats 40000000 in
theorem rmcr (l : Launch) (Z : State) (a0 : Array Value) (hw : ∀ d ∈ tables_1, d.before a0 Z = true) (ws : List Jvm.Cond) (ab : Addr) (tn : Int32) (kb : ClassId) (vs : List Value) (h0 : Heap) (n0 : Nat) (Z0 : n0 ≤ h0.size) (HV_ab : Arv Z h0 ab kb .byte (16 : Int32) vs (.int 0)) (h6 : 0 ≤ tn.toInt ∧ tn.toInt ≤ 6) :
    Met1 l n26 jdk_65_method_132_code 3 (some (.array .byte)) ws R_rmcr #[(.ref ab), (.int 0), (.int tn)] Z h0 (Qcr Z ab tn kb vs h0 n0) := by
  refine Met1.enter (plainFor_of_name pn_26) (fun m => ef_rmcr m ab tn) fun p e s m below meth c s₁ hx hby hlk hret hml hown hnm hZ X0 e0 => ?_
  have N0 := Fr.nil n0
  have K0 : Keep h0 h0 [] := Keep.refl h0 _
  show Fin p e below s _ _ _ (s₁.setTop (mkF m 0 #[rv ab, iv 0, iv tn] []))
  refine Fin.step (fun _ k => Yo.iloadN X0.here hx (hb hby d26_0) rfl (Yo.ifNo X0.here hx (hb hby d26_1) rfl ((if0 _ _).trans (teq ((by decide) : ((0 : Int32) = (0 : Int32)))).2) (Yo.iloadN X0.here hx (hb hby d26_4) rfl (Yo.aloadN X0.here hx (hb hby d26_5) rfl rfl k)))) ?_
  have voy1 := HV_ab
  obtain ⟨cly1, Ary1, qay1, say1, nay1, hay1, gay1⟩ := voy1
  refine Fin.step (X0.arraylength hx (by rw [e0]; exact Ary1.1) (State.isArrayOf_alike hZ.alike Ary1.2.1) (g := (mkF m 6 #[rv ab, iv 0, iv tn] [(.ref ab), (.int tn)])) rfl rfl (hb hby d26_6)) ?_
  rw [len_of say1 nay1]
  show Fin p e below s _ _ _ (s₁.setTop (mkF m 7 #[rv ab, iv 0, iv tn] [(.int 16), (.int tn)]))
  refine Fin.step (fun _ k => Yo.icmpNo X0.here hx (hb hby d26_7) rfl (feq ((own_len6 h6).2.1 : ¬ (tn = (16 : Int32)))).1 (Yo.aloadN X0.here hx (hb hby d26_10) rfl rfl (Yo.iloadN X0.here hx (hb hby d26_11) rfl (Yo.iloadN X0.here hx (hb hby d26_12) rfl k)))) ?_
  obtain ⟨_, Ty2, Lcy2, Xy2, hQy2, sty2⟩ := packS (Jvm.LawKit.callS X0 hx (y := n27) hown (mvT hZ (W_ hw 162)) (mvT hZ (W_ hw 163)) (mvT hZ (W_ hw 160)) (mvT hZ (W_ hw 164)) (by decide) (backOf (W := 0) (rmcrb l Z a0 hw [] ab tn kb vs h0 n0 Z0 HV_ab h6) hZ (W_ hw 164) (W_ hw 160) (by decide) (by decide)) (g := (mkF m 13 #[rv ab, iv 0, iv tn] [(.int tn), (.int 0), (.ref ab)])) rfl (by rw [hml]; rfl) (argsL := [(.ref ab), (.int 0), (.int tn)]) (rest := []) (lenOf pd_11 rfl) rfl (lb rfl) (hb hby d26_13) (fun _ _ => ⟨rfl, e0, (by decide : 0 + 1 ≤ _), (by decide : 0 + 6 ≤ _)⟩))
  obtain ⟨kn_y2, by2, rfl, bzy2, Nqy2, Kcy2, fy2_0⟩ := hQy2
  have Ny2 := Fr.app N0 Nqy2
  have gzy2 : n0 ≤ by2 := Nat.le_trans Z0 bzy2
  have szy2 : h0.size ≤ by2 := Nat.le_trans K0.1 bzy2
  have Zy2 := Nat.le_trans Z0 Kcy2.1
  have Ky2 := K0.trans Kcy2 all0
  refine Fin.step (sty2) ?_
  show Fin p e below s _ _ _ (Ty2.setTop (mkF m 16 #[rv ab, iv 0, iv tn] [(.ref by2)]))
  refine Fin.retR Xy2 hx hret rfl rfl hlk (hb hby d26_16) (by decide) (by decide) ?_
  show Qcr Z ab tn kb vs h0 n0 _ Ty2.heap _
  exact ⟨kn_y2, by2, rfl, szy2, Ny2, Ky2, fy2_0⟩
theorem pn_24 : plainName "java/lang/String" = true := by first | (simp [plainName, overriddenIn]; done) | decide +kernel
theorem d24_0 : decode jdk_42_method_150_code 0 = .ok (.aload_n 0, 1) := by decide +kernel
theorem d24_1 : decode jdk_42_method_150_code 1 = .ok (.invokespecial 1, 3) := by decide +kernel
theorem d24_4 : decode jdk_42_method_150_code 4 = .ok (.aload_n 1, 1) := by decide +kernel
theorem d24_5 : decode jdk_42_method_150_code 5 = .ok (.invokevirtual 552, 3) := by decide +kernel
theorem pd_12 : parseMethodDescriptor "()[B" = some ⟨[], some (.array .byte)⟩ := by decide +kernel
theorem d24_8 : decode jdk_42_method_150_code 8 = .ok (.astore_n 3, 1) := by decide +kernel
theorem d24_9 : decode jdk_42_method_150_code 9 = .ok (.aload_n 1, 1) := by decide +kernel
theorem d24_10 : decode jdk_42_method_150_code 10 = .ok (.invokevirtual 549, 3) := by decide +kernel
theorem d24_13 : decode jdk_42_method_150_code 13 = .ok (.istore 4, 2) := by decide +kernel
theorem d24_15 : decode jdk_42_method_150_code 15 = .ok (.aload_n 1, 1) := by decide +kernel
theorem d24_16 : decode jdk_42_method_150_code 16 = .ok (.invokevirtual 1047, 3) := by decide +kernel
theorem d24_19 : decode jdk_42_method_150_code 19 = .ok (.ifCond .eq 22, 3) := by decide +kernel
theorem d24_22 : decode jdk_42_method_150_code 22 = .ok (.aload_n 0, 1) := by decide +kernel
theorem d24_23 : decode jdk_42_method_150_code 23 = .ok (.iconst 0, 1) := by decide +kernel
theorem d24_24 : decode jdk_42_method_150_code 24 = .ok (.putfield 15, 3) := by decide +kernel
theorem d24_27 : decode jdk_42_method_150_code 27 = .ok (.aload_n 0, 1) := by decide +kernel
theorem d24_28 : decode jdk_42_method_150_code 28 = .ok (.aload_n 3, 1) := by decide +kernel
theorem d24_29 : decode jdk_42_method_150_code 29 = .ok (.iconst 0, 1) := by decide +kernel
theorem d24_30 : decode jdk_42_method_150_code 30 = .ok (.iload 4, 2) := by decide +kernel
theorem d24_32 : decode jdk_42_method_150_code 32 = .ok (.invokestatic 54, 3) := by decide +kernel
theorem d24_35 : decode jdk_42_method_150_code 35 = .ok (.putfield 9, 3) := by decide +kernel
theorem d24_38 : decode jdk_42_method_150_code 38 = .ok (.goto 59, 3) := by decide +kernel
theorem d24_97 : decode jdk_42_method_150_code 97 = .ok (.return_, 1) := by decide +kernel
theorem ef_rmsi2 (m : MethodId) (x0 : Addr) (x1 : Addr) : entryFrame m #[(.ref x0), (.ref x1), .null] 5 = mkF m 0 #[.val (.ref x0), .val (.ref x1), .val .null, .unset, .unset] [] := by first | (simp [entryFrame, mkF, argsToLocals, Value.category]; done) | rfl
abbrev R_rmsi2 : Room := ({ frames := 3, cells := 1, slots := 6, locals := 49 } : Room)
def Qsi2 (Z : State) (a1 bo ab : Addr) (kb : ClassId) (tn : Int32) (vs : List Value) (wc : Int32) (h0 : Heap) (n0 : Nat) (v : Option Value) (h : Heap) (L : List Loc) : Prop := ∃ nb : Addr, ∃ kn : ClassId, v = none ∧ h0.size ≤ nb ∧ Fr n0 L ∧ Keep h0 h [a1] ∧ Fld Z h a1 q4 "coder" "B" (.int 0) ∧ Fld Z h a1 q4 "value" "[B" (.ref nb) ∧ Arv Z h nb kn .byte tn (own_cp vs tn.toNatClampNeg) (.int 0) ∧ a1 ≠ nb
set_option maxRecDepth 65536 in
set_option maxHeartbeats 40000000 in
theorem rmsi2 (l : Launch) (Z : State) (a0 : Array Value) (hw : ∀ d ∈ tables_1, d.before a0 Z = true) (ws : List Jvm.Cond) (a1 bo ab : Addr) (kb : ClassId) (tn : Int32) (vs : List Value) (wc : Int32) (h0 : Heap) (n0 : Nat) (Z0 : n0 ≤ h0.size) (HE_a1 : Exa Z h0 a1 q4) (HF_a1_coder : Fld Z h0 a1 q4 "coder" "B" (.int 0)) (HF_a1_value : Fld Z h0 a1 q4 "value" "[B" .null) (HE_bo : Exa Z h0 bo q2) (HF_bo_value : Fld Z h0 bo q3 "value" "[B" (.ref ab)) (HF_bo_coder : Fld Z h0 bo q3 "coder" "B" (.int 0)) (HF_bo_count : Fld Z h0 bo q3 "count" "I" (.int tn)) (HV_ab : Arv Z h0 ab kb .byte (16 : Int32) vs (.int 0)) (HS_java_lang_String_COMPACT_STRINGS : Sta Z h0 q4 q10 "Z" (.int wc)) (g_a1 : n0 ≤ a1) (h6 : 0 ≤ tn.toInt ∧ tn.toInt ≤ 6) (hwc : ¬ wc = 0) (hn_a1_bo : a1 ≠ bo) (hn_a1_ab : a1 ≠ ab) :
    Met1 l n24 jdk_42_method_150_code 5 none ws R_rmsi2 #[(.ref a1), (.ref bo), .null] Z h0 (Qsi2 Z a1 bo ab kb tn vs wc h0 n0) := by
  refine Met1.enter (plainFor_of_name pn_24) (fun m => ef_rmsi2 m a1 bo) fun p e s m below meth c s₁ hx hby hlk hret hml hown hnm hZ X0 e0 => ?_
  have N0 := Fr.nil n0
  have K0 := Keep.refl h0 [a1]
  show Fin p e below s _ _ _ (s₁.setTop (mkF m 0 #[rv a1, rv bo, .val .null, .unset, .unset] []))
  refine Fin.step (fun _ k => Yo.aloadN X0.here hx (hb hby d24_0) rfl rfl k) ?_
  obtain ⟨Ty1, Xy1, ey1, sty1⟩ := initO X0 hx hZ hown (W_ hw 147) (W_ hw 8) (W_ hw 9) e0 (g := (mkF m 1 #[rv a1, rv bo, .val .null, .unset, .unset] [(.ref a1)])) rfl (by rw [hml]; rfl) rfl (hb hby d24_1) (by decide) (W := 0) (by show 2 * 0 + _ ≤ _; exact Nat.le_of_eq rfl) (by decide)
  refine Fin.step (sty1) ?_
  show Fin p e below s _ _ _ (Ty1.setTop (mkF m 4 #[rv a1, rv bo, .val .null, .unset, .unset] []))
  refine Fin.step (fun _ k => Yo.aloadN Xy1.here hx (hb hby d24_4) rfl rfl k) ?_
  obtain ⟨cqy2, kqy2, qy2a, qy2b, qy2c⟩ := isOf hZ ey1 HE_bo
  obtain ⟨_, Ty2, Lcy2, Xy2, hQy2, sty2⟩ := pack (Xy1.virtualBack hx (y := n25) (z := n25) hown (mvT hZ (W_ hw 148)) (mvT hZ (W_ hw 149)) (notFace_of_selects (args := #[]) (mvT hZ (W_ hw 151))) (mvT hZ (W_ hw 151)) (mvT hZ (W_ hw 150)) (by decide) (backOf (W := 0) (rmabg l Z a0 hw [] bo ab h0 n0 Z0 HF_bo_value) hZ (W_ hw 152) (W_ hw 54) (by decide) (by decide)) qy2a qy2c (g := (mkF m 5 #[rv a1, rv bo, .val .null, .unset, .unset] [(.ref bo)])) rfl (by rw [hml]; rfl) (Steps.refl _) (argsL := []) (rest := []) (lenOf pd_12 rfl) rfl (lb rfl) (hb hby d24_5) (fun _ _ => ⟨rfl, ey1, (by decide : 0 + 0 ≤ _), (by decide : 0 + 0 ≤ _)⟩))
  obtain ⟨rfl, Nqy2, eqy2⟩ := hQy2
  have Ny2 := Fr.app N0 Nqy2
  refine Fin.step (sty2) ?_
  show Fin p e below s _ _ _ (Ty2.setTop (mkF m 8 #[rv a1, rv bo, .val .null, .unset, .unset] [(.ref ab)]))
  refine Fin.step (fun _ k => Yo.astoreN Xy2.here hx (hb hby d24_8) rfl rfl (l' := #[rv a1, rv bo, .val .null, rv ab, .unset]) rfl (Yo.aloadN Xy2.here hx (hb hby d24_9) rfl rfl k)) ?_
  obtain ⟨cqy3, kqy3, qy3a, qy3b, qy3c⟩ := isOf hZ eqy2 HE_bo
  obtain ⟨_, Ty3, Lcy3, Xy3, hQy3, sty3⟩ := pack (Xy2.virtualBack hx (y := n12) (z := n11) hown (mvT hZ (W_ hw 153)) (mvT hZ (W_ hw 83)) (nf_of hZ (show NI Z "java/lang/AbstractStringBuilder" from NI.sel (y := n16) (W_ hw 105))) (mvT hZ (W_ hw 154)) (mvT hZ (W_ hw 77)) (by decide) (backOf (W := 0) (rmsbl l Z a0 hw [] bo tn h0 n0 Z0 HE_bo HF_bo_count) hZ (W_ hw 79) (W_ hw 46) (by decide) (by decide)) qy3a qy3c (g := (mkF m 10 #[rv a1, rv bo, .val .null, rv ab, .unset] [(.ref bo)])) rfl (by rw [hml]; rfl) (Steps.refl _) (argsL := []) (rest := []) (lenOf pd_1 rfl) rfl (lb rfl) (hb hby d24_10) (fun _ _ => ⟨rfl, eqy2, (by decide : 0 + 0 ≤ _), (by decide : 0 + 0 ≤ _)⟩))
  obtain ⟨rfl, Nqy3, eqy3⟩ := hQy3
  have Ny3 := Fr.app Ny2 Nqy3
  refine Fin.step (sty3) ?_
  show Fin p e below s _ _ _ (Ty3.setTop (mkF m 13 #[rv a1, rv bo, .val .null, rv ab, .unset] [(.int tn)]))
  refine Fin.step (fun _ k => Yo.istore Xy3.here hx (hb hby d24_13) rfl (l' := #[rv a1, rv bo, .val .null, rv ab, iv tn]) rfl (Yo.aloadN Xy3.here hx (hb hby d24_15) rfl rfl k)) ?_
  obtain ⟨cqy4, kqy4, qy4a, qy4b, qy4c⟩ := isOf hZ eqy3 HE_bo
  obtain ⟨_, Ty4, Lcy4, Xy4, hQy4, sty4⟩ := pack (Xy3.virtualBack hx (y := n18) (z := n18) hown (mvT hZ (W_ hw 155)) (mvT hZ (W_ hw 113)) (notFace_of_selects (args := #[]) (mvT hZ (W_ hw 115))) (mvT hZ (W_ hw 115)) (mvT hZ (W_ hw 114)) (by decide) (backOf (W := 0) (rmab1 l Z a0 hw [] bo wc h0 n0 Z0 HS_java_lang_String_COMPACT_STRINGS HF_bo_coder hwc) hZ (W_ hw 116) (W_ hw 54) (by decide) (by decide)) qy4a qy4c (g := (mkF m 16 #[rv a1, rv bo, .val .null, rv ab, iv tn] [(.ref bo)])) rfl (by rw [hml]; rfl) (Steps.refl _) (argsL := []) (rest := []) (lenOf pd_2 rfl) rfl (lb rfl) (hb hby d24_16) (fun _ _ => ⟨rfl, eqy3, (by decide : 0 + 0 ≤ _), (by decide : 0 + 0 ≤ _)⟩))
  obtain ⟨rfl, Nqy4, eqy4⟩ := hQy4
  have Ny4 := Fr.app Ny3 Nqy4
  refine Fin.step (sty4) ?_
  show Fin p e below s _ _ _ (Ty4.setTop (mkF m 19 #[rv a1, rv bo, .val .null, rv ab, iv tn] [(.int 1)]))
  refine Fin.step (fun _ k => Yo.ifNo Xy4.here hx (hb hby d24_19) rfl ((if0 _ _).trans (feq ((by decide) : ¬ ((1 : Int32) = (0 : Int32)))).1) (Yo.aloadN Xy4.here hx (hb hby d24_22) rfl rfl (Yo.iconst Xy4.here hx (hb hby d24_23) k))) ?_
  obtain ⟨Ty5, hy5, Xy5, ey5, Wy5, sty5⟩ := putFN Xy4 hx hZ hown (W_ hw 156) Via.refl eqy4 HF_a1_coder HE_a1 (Or.inr ⟨(W_ hw 157), rfl, hnm⟩) (W_ hw 139) (ty := .byte) (v' := (.int 0)) (by decide) rfl rfl (g := (mkF m 24 #[rv a1, rv bo, .val .null, rv ab, iv tn] [(.int 0), (.ref a1)])) rfl rfl (hb hby d24_24)
  have Fwy5 : Fld Z hy5 a1 q4 "coder" "B" (.int 0) := HF_a1_coder.same Wy5
  have Zy5 : n0 ≤ hy5.size := Nat.le_trans Z0 (Keep.of_wr Wy5).1
  have Ky5 : Keep h0 hy5 [a1] := K0.wr Wy5 m0
  have Ny5 := Fr.snoc Xy5 Ny4 g_a1
  refine Fin.step (sty5) ?_
  show Fin p e below s _ _ _ (Ty5.setTop (mkF m 27 #[rv a1, rv bo, .val .null, rv ab, iv tn] []))
  refine Fin.step (fun _ k => Yo.aloadN Xy5.here hx (hb hby d24_27) rfl rfl (Yo.aloadN Xy5.here hx (hb hby d24_28) rfl rfl (Yo.iconst Xy5.here hx (hb hby d24_29) (Yo.iload Xy5.here hx (hb hby d24_30) rfl k)))) ?_
  have ry6 := (HV_ab.other Wy5 (Ne.symm hn_a1_ab))
  obtain ⟨_, Ty7, Lcy7, Xy7, hQy7, sty7⟩ := packS (Jvm.LawKit.callS Xy5 hx (y := n26) hown (mvT hZ (W_ hw 158)) (mvT hZ (W_ hw 159)) (mvT hZ (W_ hw 160)) (mvT hZ (W_ hw 161)) (by decide) (backOf (W := 1) (rmcr l Z a0 hw [] ab tn kb vs hy5 n0 Zy5 ry6 h6) hZ (W_ hw 161) (W_ hw 160) (by decide) (by decide)) (g := (mkF m 32 #[rv a1, rv bo, .val .null, rv ab, iv tn] [(.int tn), (.int 0), (.ref ab), (.ref a1)])) rfl (by rw [hml]; rfl) (argsL := [(.ref ab), (.int 0), (.int tn)]) (rest := [(.ref a1)]) (lenOf pd_11 rfl) rfl (lb rfl) (hb hby d24_32) (fun _ _ => ⟨rfl, ey5, (by decide : 0 + 1 ≤ _), (by decide : 0 + 6 ≤ _)⟩))
  obtain ⟨kn_y7, by7, rfl, bzy7, Nqy7, Kcy7, fy7_0⟩ := hQy7
  have Ny7 := Fr.app Ny5 Nqy7
  have gzy7 : n0 ≤ by7 := Nat.le_trans Zy5 bzy7
  have szy7 : h0.size ≤ by7 := Nat.le_trans Ky5.1 bzy7
  have Zy7 := Nat.le_trans Zy5 Kcy7.1
  have Ky7 := Ky5.trans Kcy7 all0
  refine Fin.step (sty7) ?_
  show Fin p e below s _ _ _ (Ty7.setTop (mkF m 35 #[rv a1, rv bo, .val .null, rv ab, iv tn] [(.ref by7), (.ref a1)]))
  obtain ⟨Ty8, hy8, Xy8, ey8, Wy8, sty8⟩ := putF Xy7 hx hZ hown (host := "") (Or.inl (W_ hw 176)) Via.refl rfl ((HF_a1_value.other Wy5 (Or.inr (slot_ne (Or.inr (W_ hw 177)) (Or.inr (W_ hw 157)) (by decide) (t := (.array .byte)) (t' := .byte) (by decide) (by decide)))).keep Kcy7 nin0) ((HE_a1.wr Wy5).keep Kcy7) (Or.inr ⟨(W_ hw 177), rfl, hnm⟩) (W_ hw 139) (ty := (.array .byte)) (by decide) rfl rfl (g := (mkF m 35 #[rv a1, rv bo, .val .null, rv ab, iv tn] [(.ref by7), (.ref a1)])) rfl rfl (hb hby d24_35)
  have Fwy8 : Fld Z hy8 a1 q4 "value" "[B" (.ref by7) := ((HF_a1_value.other Wy5 (Or.inr (slot_ne (Or.inr (W_ hw 177)) (Or.inr (W_ hw 157)) (by decide) (t := (.array .byte)) (t' := .byte) (by decide) (by decide)))).keep Kcy7 nin0).same Wy8
  have Zy8 : n0 ≤ hy8.size := Nat.le_trans Zy7 (Keep.of_wr Wy8).1
  have Ky8 : Keep h0 hy8 [a1] := Ky7.wr Wy8 m0
  have Ny8 := Fr.snoc Xy8 Ny7 g_a1
  refine Fin.step (sty8) ?_
  show Fin p e below s _ _ _ (Ty8.setTop (mkF m 38 #[rv a1, rv bo, .val .null, rv ab, iv tn] []))
  refine Fin.step (fun _ k => Yo.goto Xy8.here hx (pc0 := 38) (pc' := 97) rfl (hb hby d24_38) (by decide) (by decide) k) ?_
  refine Fin.retV Xy8 hx hret hlk (hb hby d24_97) (by decide) (by decide) ?_
  show Qsi2 Z a1 bo ab kb tn vs wc h0 n0 _ Ty8.heap _
  rw [ey8]
  have ney9 := nlt (HE_a1.wr Wy5).lt bzy7
  exact ⟨by7, kn_y7, rfl, szy7, Ny8, Ky8, ((Fwy5.keep Kcy7 nin0).other Wy8 (Or.inr (slot_ne (Or.inr (W_ hw 157)) (Or.inr (W_ hw 177)) (by decide) (t := .byte) (t' := (.array .byte)) (by decide) (by decide)))), Fwy8, (fy7_0.other Wy8 (Ne.symm ney9)), ney9⟩
theorem pn_23 : plainName "java/lang/String" = true := by first | (simp [plainName, overriddenIn]; done) | decide +kernel
theorem d23_0 : decode jdk_42_method_53_code 0 = .ok (.aload_n 0, 1) := by decide +kernel
theorem d23_1 : decode jdk_42_method_53_code 1 = .ok (.aload_n 1, 1) := by decide +kernel
theorem d23_2 : decode jdk_42_method_53_code 2 = .ok (.aconst_null, 1) := by decide +kernel
theorem d23_3 : decode jdk_42_method_53_code 3 = .ok (.invokespecial 489, 3) := by decide +kernel
theorem pd_13 : parseMethodDescriptor "(Ljava/lang/AbstractStringBuilder;Ljava/lang/Void;)V" = some ⟨[(.object "java/lang/AbstractStringBuilder"), (.object "java/lang/Void")], none⟩ := by decide +kernel
theorem d23_6 : decode jdk_42_method_53_code 6 = .ok (.return_, 1) := by decide +kernel
theorem ef_rmsi1 (m : MethodId) (x0 : Addr) (x1 : Addr) : entryFrame m #[(.ref x0), (.ref x1)] 2 = mkF m 0 #[.val (.ref x0), .val (.ref x1)] [] := by first | (simp [entryFrame, mkF, argsToLocals, Value.category]; done) | rfl
abbrev R_rmsi1 : Room := ({ frames := 4, cells := 1, slots := 6, locals := 65 } : Room)
def Qsi1 (Z : State) (a1 bo ab : Addr) (kb : ClassId) (tn : Int32) (vs : List Value) (wc : Int32) (h0 : Heap) (n0 : Nat) (v : Option Value) (h : Heap) (L : List Loc) : Prop := ∃ nb : Addr, ∃ kn : ClassId, v = none ∧ h0.size ≤ nb ∧ Fr n0 L ∧ Keep h0 h [a1] ∧ Fld Z h a1 q4 "coder" "B" (.int 0) ∧ Fld Z h a1 q4 "value" "[B" (.ref nb) ∧ Arv Z h nb kn .byte tn (own_cp vs tn.toNatClampNeg) (.int 0) ∧ a1 ≠ nb
set_option maxRecDepth 65536 in
set_option maxHeartbeats 40000000 in
theorem rmsi1 (l : Launch) (Z : State) (a0 : Array Value) (hw : ∀ d ∈ tables_1, d.before a0 Z = true) (ws : List Jvm.Cond) (a1 bo ab : Addr) (kb : ClassId) (tn : Int32) (vs : List Value) (wc : Int32) (h0 : Heap) (n0 : Nat) (Z0 : n0 ≤ h0.size) (HE_a1 : Exa Z h0 a1 q4) (HF_a1_coder : Fld Z h0 a1 q4 "coder" "B" (.int 0)) (HF_a1_value : Fld Z h0 a1 q4 "value" "[B" .null) (HE_bo : Exa Z h0 bo q2) (HF_bo_value : Fld Z h0 bo q3 "value" "[B" (.ref ab)) (HF_bo_coder : Fld Z h0 bo q3 "coder" "B" (.int 0)) (HF_bo_count : Fld Z h0 bo q3 "count" "I" (.int tn)) (HV_ab : Arv Z h0 ab kb .byte (16 : Int32) vs (.int 0)) (HS_java_lang_String_COMPACT_STRINGS : Sta Z h0 q4 q10 "Z" (.int wc)) (g_a1 : n0 ≤ a1) (h6 : 0 ≤ tn.toInt ∧ tn.toInt ≤ 6) (hwc : ¬ wc = 0) (hn_a1_bo : a1 ≠ bo) (hn_a1_ab : a1 ≠ ab) :
    Met1 l n23 jdk_42_method_53_code 2 none ws R_rmsi1 #[(.ref a1), (.ref bo)] Z h0 (Qsi1 Z a1 bo ab kb tn vs wc h0 n0) := by
  refine Met1.enter (plainFor_of_name pn_23) (fun m => ef_rmsi1 m a1 bo) fun p e s m below meth c s₁ hx hby hlk hret hml hown hnm hZ X0 e0 => ?_
  have N0 := Fr.nil n0
  have K0 := Keep.refl h0 [a1]
  show Fin p e below s _ _ _ (s₁.setTop (mkF m 0 #[rv a1, rv bo] []))
  refine Fin.step (fun _ k => Yo.aloadN X0.here hx (hb hby d23_0) rfl rfl (Yo.aloadN X0.here hx (hb hby d23_1) rfl rfl (Yo.aconstNull X0.here hx (hb hby d23_2) k))) ?_
  obtain ⟨_, Ty1, Lcy1, Xy1, hQy1, sty1⟩ := pack (X0.specialBack hx (y := n24) rfl hown (mvT hZ (W_ hw 144)) (mvT hZ (W_ hw 145)) (mvT hZ (W_ hw 146)) (by decide) (backOf (W := 0) (rmsi2 l Z a0 hw [] a1 bo ab kb tn vs wc h0 n0 Z0 HE_a1 HF_a1_coder HF_a1_value HE_bo HF_bo_value HF_bo_coder HF_bo_count HV_ab HS_java_lang_String_COMPACT_STRINGS g_a1 h6 hwc hn_a1_bo hn_a1_ab) hZ (W_ hw 146) (W_ hw 58) (by decide) (by decide)) (g := (mkF m 3 #[rv a1, rv bo] [.null, (.ref bo), (.ref a1)])) rfl (by rw [hml]; rfl) (Steps.refl _) (a := a1) (argsL := [(.ref bo), .null]) (rest := []) (lenOf pd_13 rfl) rfl (lb rfl) (hb hby d23_3) (fun _ _ => ⟨rfl, e0, (by decide : 0 + 1 ≤ _), (by decide : 0 + 6 ≤ _)⟩))
  obtain ⟨nb_y1, kn_y1, rfl, bfy1_0, Nqy1, Kcy1, fy1_0, fy1_1, fy1_2, ney1_0⟩ := hQy1
  have Ny1 := Fr.app N0 Nqy1
  have gzy1_0 : n0 ≤ nb_y1 := Nat.le_trans Z0 bfy1_0
  have szy1_0 : h0.size ≤ nb_y1 := Nat.le_trans K0.1 bfy1_0
  have Zy1 := Nat.le_trans Z0 Kcy1.1
  have Ky1 := K0.trans Kcy1 (allS m0 all0)
  refine Fin.step (sty1) ?_
  show Fin p e below s _ _ _ (Ty1.setTop (mkF m 6 #[rv a1, rv bo] []))
  refine Fin.retV Xy1 hx hret hlk (hb hby d23_6) (by decide) (by decide) ?_
  show Qsi1 Z a1 bo ab kb tn vs wc h0 n0 _ Ty1.heap _
  exact ⟨nb_y1, kn_y1, rfl, szy1_0, Ny1, Ky1, fy1_0, fy1_1, fy1_2, ney1_0⟩
theorem pn_22 : plainName "java/lang/StringBuilder" = true := by first | (simp [plainName, overriddenIn]; done) | decide +kernel
theorem d22_0 : decode jdk_67_method_42_code 0 = .ok (.new 18, 3) := by decide +kernel
theorem d22_3 : decode jdk_67_method_42_code 3 = .ok (.dup, 1) := by decide +kernel
theorem d22_4 : decode jdk_67_method_42_code 4 = .ok (.aload_n 0, 1) := by decide +kernel
theorem d22_5 : decode jdk_67_method_42_code 5 = .ok (.invokespecial 137, 3) := by decide +kernel
theorem pd_14 : parseMethodDescriptor "(Ljava/lang/StringBuilder;)V" = some ⟨[(.object "java/lang/StringBuilder")], none⟩ := by decide +kernel
theorem d22_8 : decode jdk_67_method_42_code 8 = .ok (.areturn, 1) := by decide +kernel
theorem ef_rmts (m : MethodId) (x0 : Addr) : entryFrame m #[(.ref x0)] 1 = mkF m 0 #[.val (.ref x0)] [] := by first | (simp [entryFrame, mkF, argsToLocals, Value.category]; done) | rfl
abbrev R_rmts : Room := ({ frames := 5, cells := 2, slots := 10, locals := 79 } : Room)
def Qts (Z : State) (bo ab : Addr) (kb : ClassId) (tn : Int32) (vs : List Value) (wc : Int32) (h0 : Heap) (n0 : Nat) (v : Option Value) (h : Heap) (L : List Loc) : Prop := ∃ nb : Addr, ∃ kn : ClassId, ∃ so : Addr, v = some (.ref so) ∧ h0.size ≤ so ∧ h0.size ≤ nb ∧ Fr n0 L ∧ Keep h0 h [] ∧ Exa Z h so q4 ∧ Fld Z h so q4 "coder" "B" (.int 0) ∧ Fld Z h so q4 "value" "[B" (.ref nb) ∧ Arv Z h nb kn .byte tn (own_cp vs tn.toNatClampNeg) (.int 0) ∧ so ≠ nb
set_option maxRecDepth 65536 in
set_option maxHeartbeats 40000000 in
theorem rmts (l : Launch) (Z : State) (a0 : Array Value) (hw : ∀ d ∈ tables_1, d.before a0 Z = true) (ws : List Jvm.Cond) (bo ab : Addr) (kb : ClassId) (tn : Int32) (vs : List Value) (wc : Int32) (h0 : Heap) (n0 : Nat) (Z0 : n0 ≤ h0.size) (HE_bo : Exa Z h0 bo q2) (HF_bo_value : Fld Z h0 bo q3 "value" "[B" (.ref ab)) (HF_bo_coder : Fld Z h0 bo q3 "coder" "B" (.int 0)) (HF_bo_count : Fld Z h0 bo q3 "count" "I" (.int tn)) (HV_ab : Arv Z h0 ab kb .byte (16 : Int32) vs (.int 0)) (HS_java_lang_String_COMPACT_STRINGS : Sta Z h0 q4 q10 "Z" (.int wc)) (h6 : 0 ≤ tn.toInt ∧ tn.toInt ≤ 6) (hwc : ¬ wc = 0) :
    Met1 l n22 jdk_67_method_42_code 1 (some (.object "java/lang/String")) ws R_rmts #[(.ref bo)] Z h0 (Qts Z bo ab kb tn vs wc h0 n0) := by
  refine Met1.enter (plainFor_of_name pn_22) (fun m => ef_rmts m bo) fun p e s m below meth c s₁ hx hby hlk hret hml hown hnm hZ X0 e0 => ?_
  have N0 := Fr.nil n0
  have K0 : Keep h0 h0 [] := Keep.refl h0 _
  show Fin p e below s _ _ _ (s₁.setTop (mkF m 0 #[rv bo] []))
  obtain ⟨Ty1, hy1, Xy1, ey1, Ey1, Ay1, Dy1, -, sty1⟩ := newO X0 hx hZ hown (W_ hw 138) (W_ hw 139) (W_ hw 58) e0 (g := (mkF m 0 #[rv bo] [])) rfl (hb hby d22_0) (by decide) (by decide)
  obtain ⟨by1, gy1⟩ : ∃ z, z = h0.size := ⟨_, rfl⟩
  rw [← gy1] at Ay1 Dy1 sty1
  have gzy1 : n0 ≤ by1 := Nat.le_trans Z0 (Nat.le_of_eq gy1.symm)
  have szy1 : h0.size ≤ by1 := Nat.le_trans K0.1 (Nat.le_of_eq gy1.symm)
  have Zy1 := Nat.le_trans Z0 Ey1.1
  have Ky1 := K0.ext Ey1
  have F_coder_by1 : Fld Z hy1 by1 q4 "coder" "B" (.int 0) := Dy1 (Or.inr (W_ hw 157)) (ty := .byte) (by decide)
  have F_value_by1 : Fld Z hy1 by1 q4 "value" "[B" .null := Dy1 (Or.inr (W_ hw 177)) (ty := (.array .byte)) (by decide)
  refine Fin.step (sty1) ?_
  show Fin p e below s _ _ _ (Ty1.setTop (mkF m 3 #[rv bo] [(.ref by1)]))
  refine Fin.step (fun _ k => Yo.dup Xy1.here hx (hb hby d22_3) rfl rfl (Yo.aloadN Xy1.here hx (hb hby d22_4) rfl rfl k)) ?_
  have ry2 := (Sta_keep HS_java_lang_String_COMPACT_STRINGS Ky1)
  have ney3 := nlt HE_bo.lt (Nat.le_of_eq gy1.symm)
  have ney4 := nlt (nsV HV_ab).lt (Nat.le_of_eq gy1.symm)
  obtain ⟨_, Ty5, Lcy5, Xy5, hQy5, sty5⟩ := pack (Xy1.specialBack hx (y := n23) rfl hown (mvT hZ (W_ hw 140)) (mvT hZ (W_ hw 141)) (mvT hZ (W_ hw 143)) (by decide) (backOf (W := 1) (rmsi1 l Z a0 hw [] by1 bo ab kb tn vs wc hy1 n0 Zy1 Ay1 F_coder_by1 F_value_by1 (HE_bo.ext Ey1) (HF_bo_value.ext Ey1) (HF_bo_coder.ext Ey1) (HF_bo_count.ext Ey1) (HV_ab.ext Ey1) ry2 gzy1 h6 hwc (Ne.symm ney3) (Ne.symm ney4)) hZ (W_ hw 143) (W_ hw 58) (by decide) (by decide)) (g := (mkF m 5 #[rv bo] [(.ref bo), (.ref by1), (.ref by1)])) rfl (by rw [hml]; rfl) (Steps.refl _) (a := by1) (argsL := [(.ref bo)]) (rest := [(.ref by1)]) (lenOf pd_14 rfl) rfl (lb rfl) (hb hby d22_5) (fun _ _ => ⟨rfl, ey1, (by decide : 1 + 1 ≤ _), (by decide : 4 + 6 ≤ _)⟩))
  obtain ⟨nb_y5, kn_y5, rfl, bfy5_0, Nqy5, Kcy5, fy5_0, fy5_1, fy5_2, ney5_0⟩ := hQy5
  have Ny5 := Fr.app N0 Nqy5
  have gzy5_0 : n0 ≤ nb_y5 := Nat.le_trans Zy1 bfy5_0
  have szy5_0 : h0.size ≤ nb_y5 := Nat.le_trans Ky1.1 bfy5_0
  have Zy5 := Nat.le_trans Zy1 Kcy5.1
  have Ky5 := Ky1.trans Kcy5 (allS (Or.inr szy1) all0)
  refine Fin.step (sty5) ?_
  show Fin p e below s _ _ _ (Ty5.setTop (mkF m 8 #[rv bo] [(.ref by1)]))
  refine Fin.retR Xy5 hx hret rfl rfl hlk (hb hby d22_8) (by decide) (by decide) ?_
  show Qts Z bo ab kb tn vs wc h0 n0 _ Ty5.heap _
  exact ⟨nb_y5, kn_y5, by1, rfl, szy1, szy5_0, Ny5, Ky5, (Ay1.keep Kcy5), fy5_0, fy5_1, fy5_2, ney5_0⟩
theorem pn_21 : plainName "com/example/uzor/uzor/StringValues$Value" = true := by first | (simp [plainName, overriddenIn]; done) | decide +kernel
theorem d21_0 : decode prog_35_method_3_code 0 = .ok (.aload_n 0, 1) := by decide +kernel
theorem d21_1 : decode prog_35_method_3_code 1 = .ok (.aload_n 0, 1) := by decide +kernel
theorem d21_2 : decode prog_35_method_3_code 2 = .ok (.getfield 10, 3) := by decide +kernel
theorem d21_5 : decode prog_35_method_3_code 5 = .ok (.invokevirtual 31, 3) := by decide +kernel
theorem pd_15 : parseMethodDescriptor "()Ljava/lang/String;" = some ⟨[], some (.object "java/lang/String")⟩ := by decide +kernel
theorem d21_8 : decode prog_35_method_3_code 8 = .ok (.putfield 35, 3) := by decide +kernel
theorem d21_11 : decode prog_35_method_3_code 11 = .ok (.aload_n 0, 1) := by decide +kernel
theorem d21_12 : decode prog_35_method_3_code 12 = .ok (.aconst_null, 1) := by decide +kernel
theorem d21_13 : decode prog_35_method_3_code 13 = .ok (.putfield 10, 3) := by decide +kernel
theorem d21_16 : decode prog_35_method_3_code 16 = .ok (.return_, 1) := by decide +kernel
theorem ef_rmve (m : MethodId) (x0 : Addr) : entryFrame m #[(.ref x0)] 1 = mkF m 0 #[.val (.ref x0)] [] := by first | (simp [entryFrame, mkF, argsToLocals, Value.category]; done) | rfl
abbrev R_rmve : Room := ({ frames := 6, cells := 2, slots := 10, locals := 92 } : Room)
def Qve (Z : State) (a1 bo ab : Addr) (kb : ClassId) (tn : Int32) (vs : List Value) (wc : Int32) (h0 : Heap) (n0 : Nat) (v : Option Value) (h : Heap) (L : List Loc) : Prop := ∃ so : Addr, ∃ nb : Addr, ∃ kn : ClassId, v = none ∧ h0.size ≤ so ∧ h0.size ≤ nb ∧ Fr n0 L ∧ Keep h0 h [a1] ∧ Fld Z h a1 q0 "value" q8 (.ref so) ∧ Fld Z h a1 q0 "text" q7 .null ∧ Exa Z h so q4 ∧ Fld Z h so q4 "coder" "B" (.int 0) ∧ Fld Z h so q4 "value" "[B" (.ref nb) ∧ Arv Z h nb kn .byte tn (own_cp vs tn.toNatClampNeg) (.int 0) ∧ so ≠ nb ∧ a1 ≠ so ∧ a1 ≠ nb
set_option maxRecDepth 65536 in
set_option maxHeartbeats 40000000 in
theorem rmve (l : Launch) (Z : State) (a0 : Array Value) (hw : ∀ d ∈ tables_1, d.before a0 Z = true) (ws : List Jvm.Cond) (a1 bo ab : Addr) (kb : ClassId) (tn : Int32) (vs : List Value) (wc : Int32) (h0 : Heap) (n0 : Nat) (Z0 : n0 ≤ h0.size) (HE_a1 : Exa Z h0 a1 q0) (HF_a1_text : Fld Z h0 a1 q0 "text" q7 (.ref bo)) (HF_a1_value : Fld Z h0 a1 q0 "value" q8 .null) (HE_bo : Exa Z h0 bo q2) (HF_bo_value : Fld Z h0 bo q3 "value" "[B" (.ref ab)) (HF_bo_coder : Fld Z h0 bo q3 "coder" "B" (.int 0)) (HF_bo_count : Fld Z h0 bo q3 "count" "I" (.int tn)) (HV_ab : Arv Z h0 ab kb .byte (16 : Int32) vs (.int 0)) (HS_java_lang_String_COMPACT_STRINGS : Sta Z h0 q4 q10 "Z" (.int wc)) (g_a1 : n0 ≤ a1) (h6 : 0 ≤ tn.toInt ∧ tn.toInt ≤ 6) (hwc : ¬ wc = 0) :
    Met1 l n21 prog_35_method_3_code 1 none ws R_rmve #[(.ref a1)] Z h0 (Qve Z a1 bo ab kb tn vs wc h0 n0) := by
  refine Met1.enter (plainFor_of_name pn_21) (fun m => ef_rmve m a1) fun p e s m below meth c s₁ hx hby hlk hret hml hown hnm hZ X0 e0 => ?_
  have N0 := Fr.nil n0
  have K0 := Keep.refl h0 [a1]
  show Fin p e below s _ _ _ (s₁.setTop (mkF m 0 #[rv a1] []))
  refine Fin.step (fun _ k => Yo.aloadN X0.here hx (hb hby d21_0) rfl rfl (Yo.aloadN X0.here hx (hb hby d21_1) rfl rfl k)) ?_
  refine fget X0 hx hZ hown (W_ hw 64) e0 HF_a1_text (hb hby d21_2) fun Ty1 Xy1 ey1 => ?_
  obtain ⟨cqy2, kqy2, qy2a, qy2b, qy2c⟩ := isOf hZ ey1 HE_bo
  obtain ⟨_, Ty2, Lcy2, Xy2, hQy2, sty2⟩ := pack (Xy1.virtualBack hx (y := n22) (z := n22) hown (mvT hZ (W_ hw 133)) (mvT hZ (W_ hw 134)) (notFace_of_selects (args := #[]) (mvT hZ (W_ hw 136))) (mvT hZ (W_ hw 136)) (mvT hZ (W_ hw 135)) (by decide) (backOf (W := 1) (rmts l Z a0 hw [] bo ab kb tn vs wc h0 n0 Z0 HE_bo HF_bo_value HF_bo_coder HF_bo_count HV_ab HS_java_lang_String_COMPACT_STRINGS h6 hwc) hZ (W_ hw 137) (W_ hw 46) (by decide) (by decide)) qy2a qy2c (g := (mkF m 5 #[rv a1] [(.ref bo), (.ref a1)])) rfl (by rw [hml]; rfl) (Steps.refl _) (argsL := []) (rest := [(.ref a1)]) (lenOf pd_15 rfl) rfl (lb rfl) (hb hby d21_5) (fun _ _ => ⟨rfl, ey1, (by decide : 0 + 2 ≤ _), (by decide : 0 + 10 ≤ _)⟩))
  obtain ⟨nb_y2, kn_y2, by2, rfl, bzy2, bfy2_0, Nqy2, Kcy2, fy2_0, fy2_1, fy2_2, fy2_3, ney2_0⟩ := hQy2
  have Ny2 := Fr.app N0 Nqy2
  have gzy2 : n0 ≤ by2 := Nat.le_trans Z0 bzy2
  have szy2 : h0.size ≤ by2 := Nat.le_trans K0.1 bzy2
  have gzy2_0 : n0 ≤ nb_y2 := Nat.le_trans Z0 bfy2_0
  have szy2_0 : h0.size ≤ nb_y2 := Nat.le_trans K0.1 bfy2_0
  have Zy2 := Nat.le_trans Z0 Kcy2.1
  have Ky2 := K0.trans Kcy2 all0
  refine Fin.step (sty2) ?_
  show Fin p e below s _ _ _ (Ty2.setTop (mkF m 8 #[rv a1] [(.ref by2), (.ref a1)]))
  obtain ⟨Ty3, hy3, Xy3, ey3, Wy3, sty3⟩ := putF Xy2 hx hZ hown (host := "") (Or.inl (W_ hw 127)) Via.refl rfl (HF_a1_value.keep Kcy2 nin0) (HE_a1.keep Kcy2) (Or.inl (W_ hw 128)) (W_ hw 38) (ty := (.object "java/lang/String")) (by decide) rfl rfl (g := (mkF m 8 #[rv a1] [(.ref by2), (.ref a1)])) rfl rfl (hb hby d21_8)
  have Fwy3 : Fld Z hy3 a1 q0 "value" q8 (.ref by2) := (HF_a1_value.keep Kcy2 nin0).same Wy3
  have Zy3 : n0 ≤ hy3.size := Nat.le_trans Zy2 (Keep.of_wr Wy3).1
  have Ky3 : Keep h0 hy3 [a1] := Ky2.wr Wy3 m0
  have Ny3 := Fr.snoc Xy3 Ny2 g_a1
  refine Fin.step (sty3) ?_
  show Fin p e below s _ _ _ (Ty3.setTop (mkF m 11 #[rv a1] []))
  refine Fin.step (fun _ k => Yo.aloadN Xy3.here hx (hb hby d21_11) rfl rfl (Yo.aconstNull Xy3.here hx (hb hby d21_12) k)) ?_
  obtain ⟨Ty4, hy4, Xy4, ey4, Wy4, sty4⟩ := putF Xy3 hx hZ hown (host := "") (Or.inl (W_ hw 64)) Via.refl ey3 ((HF_a1_text.keep Kcy2 nin0).other Wy3 (Or.inr (slot_ne (Or.inl (W_ hw 65)) (Or.inl (W_ hw 128)) (by decide) (t := (.object "java/lang/StringBuilder")) (t' := (.object "java/lang/String")) (by decide) (by decide)))) ((HE_a1.keep Kcy2).wr Wy3) (Or.inl (W_ hw 65)) (W_ hw 38) (ty := (.object "java/lang/StringBuilder")) (by decide) rfl rfl (g := (mkF m 13 #[rv a1] [.null, (.ref a1)])) rfl rfl (hb hby d21_13)
  have Fwy4 : Fld Z hy4 a1 q0 "text" q7 .null := ((HF_a1_text.keep Kcy2 nin0).other Wy3 (Or.inr (slot_ne (Or.inl (W_ hw 65)) (Or.inl (W_ hw 128)) (by decide) (t := (.object "java/lang/StringBuilder")) (t' := (.object "java/lang/String")) (by decide) (by decide)))).same Wy4
  have Zy4 : n0 ≤ hy4.size := Nat.le_trans Zy3 (Keep.of_wr Wy4).1
  have Ky4 : Keep h0 hy4 [a1] := Ky3.wr Wy4 m0
  have Ny4 := Fr.snoc Xy4 Ny3 g_a1
  refine Fin.step (sty4) ?_
  show Fin p e below s _ _ _ (Ty4.setTop (mkF m 16 #[rv a1] []))
  refine Fin.retV Xy4 hx hret hlk (hb hby d21_16) (by decide) (by decide) ?_
  show Qve Z a1 bo ab kb tn vs wc h0 n0 _ Ty4.heap _
  rw [ey4]
  have ney5 := nlt HE_a1.lt bzy2
  have ney6 := nlt HE_a1.lt bfy2_0
  exact ⟨by2, nb_y2, kn_y2, rfl, szy2, szy2_0, Ny4, Ky4, (Fwy3.other Wy4 (Or.inr (slot_ne (Or.inl (W_ hw 128)) (Or.inl (W_ hw 65)) (by decide) (t := (.object "java/lang/String")) (t' := (.object "java/lang/StringBuilder")) (by decide) (by decide)))), Fwy4, ((fy2_0.wr Wy3).wr Wy4), ((fy2_1.other Wy3 (Or.inl (Ne.symm ney5))).other Wy4 (Or.inl (Ne.symm ney5))), ((fy2_2.other Wy3 (Or.inl (Ne.symm ney5))).other Wy4 (Or.inl (Ne.symm ney5))), ((fy2_3.other Wy3 (Ne.symm ney6)).other Wy4 (Ne.symm ney6)), ney2_0, ney5, ney6⟩
theorem pn_1 : plainName "com/example/uzor/uzor/StringValues" = true := by first | (simp [plainName, overriddenIn]; done) | decide +kernel
theorem d1_0 : decode prog_34_method_1_code 0 = .ok (.aload_n 0, 1) := by decide +kernel
theorem d1_1 : decode prog_34_method_1_code 1 = .ok (.invokespecial 1, 3) := by decide +kernel
theorem d1_4 : decode prog_34_method_1_code 4 = .ok (.aload_n 0, 1) := by decide +kernel
theorem d1_5 : decode prog_34_method_1_code 5 = .ok (.iconst 4, 1) := by decide +kernel
theorem d1_6 : decode prog_34_method_1_code 6 = .ok (.anewarray 7, 3) := by decide +kernel
theorem d1_9 : decode prog_34_method_1_code 9 = .ok (.putfield 9, 3) := by decide +kernel
theorem d1_12 : decode prog_34_method_1_code 12 = .ok (.return_, 1) := by decide +kernel
theorem ef_rmsvi (m : MethodId) (x0 : Addr) : entryFrame m #[(.ref x0)] 1 = mkF m 0 #[.val (.ref x0)] [] := by first | (simp [entryFrame, mkF, argsToLocals, Value.category]; done) | rfl
abbrev R_rmsvi : Room := ({ frames := 1, cells := 1, slots := 4, locals := 12 } : Room)
def Qsvi (Z : State) (a1 : Addr) (h0 : Heap) (n0 : Nat) (v : Option Value) (h : Heap) (L : List Loc) : Prop := ∃ ao : Addr, ∃ ko : ClassId, v = none ∧ h0.size ≤ ao ∧ Fr n0 L ∧ Keep h0 h [a1] ∧ Fld Z h a1 q1 "open" q9 (.ref ao) ∧ Fld Z h a1 q1 "depth" "I" (.int 0) ∧ Fld Z h a1 q1 "count" "I" (.int 0) ∧ Arv Z h ao ko (.object "com/example/uzor/uzor/StringValues$Value") (4 : Int32) [.null, .null, .null, .null] .null ∧ Ovr Z ko "com/example/uzor/uzor/StringValues$Value" ∧ a1 ≠ ao
set_option maxRecDepth 65536 in
set_option maxHeartbeats 40000000 in
theorem rmsvi (l : Launch) (Z : State) (a0 : Array Value) (hw : ∀ d ∈ tables_1, d.before a0 Z = true) (ws : List Jvm.Cond) (a1 : Addr) (h0 : Heap) (n0 : Nat) (Z0 : n0 ≤ h0.size) (HE_a1 : Exa Z h0 a1 q1) (HF_a1_open : Fld Z h0 a1 q1 "open" q9 .null) (HF_a1_depth : Fld Z h0 a1 q1 "depth" "I" (.int 0)) (HF_a1_count : Fld Z h0 a1 q1 "count" "I" (.int 0)) (g_a1 : n0 ≤ a1) :
    Met1 l n1 prog_34_method_1_code 1 none ws R_rmsvi #[(.ref a1)] Z h0 (Qsvi Z a1 h0 n0) := by
  refine Met1.enter (plainFor_of_name pn_1) (fun m => ef_rmsvi m a1) fun p e s m below meth c s₁ hx hby hlk hret hml hown hnm hZ X0 e0 => ?_
  have N0 := Fr.nil n0
  have K0 := Keep.refl h0 [a1]
  show Fin p e below s _ _ _ (s₁.setTop (mkF m 0 #[rv a1] []))
  refine Fin.step (fun _ k => Yo.aloadN X0.here hx (hb hby d1_0) rfl rfl k) ?_
  obtain ⟨Ty1, Xy1, ey1, sty1⟩ := initO X0 hx hZ hown (W_ hw 7) (W_ hw 8) (W_ hw 9) e0 (g := (mkF m 1 #[rv a1] [(.ref a1)])) rfl (by rw [hml]; rfl) rfl (hb hby d1_1) (by decide) (W := 0) (by show 2 * 0 + _ ≤ _; exact Nat.le_of_eq rfl) (by decide)
  refine Fin.step (sty1) ?_
  show Fin p e below s _ _ _ (Ty1.setTop (mkF m 4 #[rv a1] []))
  refine Fin.step (fun _ k => Yo.aloadN Xy1.here hx (hb hby d1_4) rfl rfl (Yo.iconst Xy1.here hx (hb hby d1_5) k)) ?_
  obtain ⟨Ty2, hy2, ky2, Xy2, ey2, Ey2, Ay2, Oy2, sty2⟩ := newR Xy1 hx hZ (C := "com/example/uzor/uzor/StringValues$Value") hown (W_ hw 10) (W_ hw 11) ey1 (g := (mkF m 6 #[rv a1] [(.int 4), (.ref a1)])) rfl (hb hby d1_6) rfl (by decide) (cap := 4) (by decide) (by decide) (by decide) (by decide)
  obtain ⟨by2, gy2⟩ : ∃ z, z = h0.size := ⟨_, rfl⟩
  rw [← gy2] at Ay2 sty2
  have gzy2 : n0 ≤ by2 := Nat.le_trans Z0 (Nat.le_of_eq gy2.symm)
  have szy2 : h0.size ≤ by2 := Nat.le_trans K0.1 (Nat.le_of_eq gy2.symm)
  have Zy2 := Nat.le_trans Z0 Ey2.1
  have Ky2 := K0.ext Ey2
  have Vy2 : Arv Z hy2 by2 ky2 (.object "com/example/uzor/uzor/StringValues$Value") (4 : Int32) [.null, .null, .null, .null] .null := (Arv.new Ay2 (by decide)).pad (pad_rep [] .null 4)
  refine Fin.step (sty2) ?_
  show Fin p e below s _ _ _ (Ty2.setTop (mkF m 9 #[rv a1] [(.ref by2), (.ref a1)]))
  obtain ⟨Ty3, hy3, Xy3, ey3, Wy3, sty3⟩ := putF Xy2 hx hZ hown (host := "") (Or.inl (W_ hw 12)) Via.refl ey2 (HF_a1_open.ext Ey2) (HE_a1.ext Ey2) (Or.inl (W_ hw 13)) (W_ hw 2) (ty := (.array (.object "com/example/uzor/uzor/StringValues$Value"))) (by decide) rfl rfl (g := (mkF m 9 #[rv a1] [(.ref by2), (.ref a1)])) rfl rfl (hb hby d1_9)
  have Fwy3 : Fld Z hy3 a1 q1 "open" q9 (.ref by2) := (HF_a1_open.ext Ey2).same Wy3
  have Zy3 : n0 ≤ hy3.size := Nat.le_trans Zy2 (Keep.of_wr Wy3).1
  have Ky3 : Keep h0 hy3 [a1] := Ky2.wr Wy3 m0
  have Ny3 := Fr.snoc Xy3 N0 g_a1
  refine Fin.step (sty3) ?_
  show Fin p e below s _ _ _ (Ty3.setTop (mkF m 12 #[rv a1] []))
  refine Fin.retV Xy3 hx hret hlk (hb hby d1_12) (by decide) (by decide) ?_
  show Qsvi Z a1 h0 n0 _ Ty3.heap _
  rw [ey3]
  have ney4 := nlt HE_a1.lt (Nat.le_of_eq gy2.symm)
  exact ⟨by2, ky2, rfl, szy2, Ny3, Ky3, Fwy3, ((HF_a1_depth.ext Ey2).other Wy3 (Or.inr (slot_ne (Or.inl (W_ hw 20)) (Or.inl (W_ hw 13)) (by decide) (t := .int) (t' := (.array (.object "com/example/uzor/uzor/StringValues$Value"))) (by decide) (by decide)))), ((HF_a1_count.ext Ey2).other Wy3 (Or.inr (slot_ne (Or.inl (W_ hw 27)) (Or.inl (W_ hw 13)) (by decide) (t := .int) (t' := (.array (.object "com/example/uzor/uzor/StringValues$Value"))) (by decide) (by decide)))), (Vy2.other Wy3 (Ne.symm ney4)), Oy2, ney4⟩
theorem pn_3 : plainName "com/example/uzor/uzor/StringValues" = true := by first | (simp [plainName, overriddenIn]; done) | decide +kernel
theorem d3_0 : decode prog_34_method_2_code 0 = .ok (.aload_n 0, 1) := by decide +kernel
theorem d3_1 : decode prog_34_method_2_code 1 = .ok (.dup, 1) := by decide +kernel
theorem d3_2 : decode prog_34_method_2_code 2 = .ok (.getfield 15, 3) := by decide +kernel
theorem d3_5 : decode prog_34_method_2_code 5 = .ok (.dup_x1, 1) := by decide +kernel
theorem d3_6 : decode prog_34_method_2_code 6 = .ok (.iconst 1, 1) := by decide +kernel
theorem d3_7 : decode prog_34_method_2_code 7 = .ok (.iadd, 1) := by decide +kernel
theorem d3_8 : decode prog_34_method_2_code 8 = .ok (.putfield 15, 3) := by decide +kernel
theorem d3_11 : decode prog_34_method_2_code 11 = .ok (.ireturn, 1) := by decide +kernel
theorem ef_rmse0 (m : MethodId) (x0 : Addr) : entryFrame m #[(.ref x0)] 1 = mkF m 0 #[.val (.ref x0)] [] := by first | (simp [entryFrame, mkF, argsToLocals, Value.category]; done) | rfl
abbrev R_rmse0 : Room := ({ frames := 0, cells := 0, slots := 0, locals := 0 } : Room)
def Qse0 (Z : State) (a1 ao : Addr) (cn : Int32) (h0 : Heap) (n0 : Nat) (v : Option Value) (h : Heap) (L : List Loc) : Prop := v = some (.int 0) ∧ Fr n0 L ∧ Keep h0 h [a1] ∧ Fld Z h a1 q1 "open" q9 (.ref ao) ∧ Fld Z h a1 q1 "depth" "I" (.int 1) ∧ Fld Z h a1 q1 "count" "I" (.int cn)
set_option maxRecDepth 65536 in
set_option maxHeartbeats 40000000 in
theorem rmse0 (l : Launch) (Z : State) (a0 : Array Value) (hw : ∀ d ∈ tables_1, d.before a0 Z = true) (ws : List Jvm.Cond) (a1 ao : Addr) (cn : Int32) (h0 : Heap) (n0 : Nat) (Z0 : n0 ≤ h0.size) (HE_a1 : Exa Z h0 a1 q1) (HF_a1_open : Fld Z h0 a1 q1 "open" q9 (.ref ao)) (HF_a1_depth : Fld Z h0 a1 q1 "depth" "I" (.int 0)) (HF_a1_count : Fld Z h0 a1 q1 "count" "I" (.int cn)) (g_a1 : n0 ≤ a1) :
    Met1 l n3 prog_34_method_2_code 1 (some .int) ws R_rmse0 #[(.ref a1)] Z h0 (Qse0 Z a1 ao cn h0 n0) := by
  refine Met1.enter (plainFor_of_name pn_3) (fun m => ef_rmse0 m a1) fun p e s m below meth c s₁ hx hby hlk hret hml hown hnm hZ X0 e0 => ?_
  have N0 := Fr.nil n0
  have K0 := Keep.refl h0 [a1]
  show Fin p e below s _ _ _ (s₁.setTop (mkF m 0 #[rv a1] []))
  refine Fin.step (fun _ k => Yo.aloadN X0.here hx (hb hby d3_0) rfl rfl (Yo.dup X0.here hx (hb hby d3_1) rfl rfl k)) ?_
  refine fget X0 hx hZ hown (W_ hw 19) e0 HF_a1_depth (hb hby d3_2) fun Ty1 Xy1 ey1 => ?_
  refine Fin.step (fun _ k => Yo.dupX1 Xy1.here hx (hb hby d3_5) rfl rfl rfl (Yo.iconst Xy1.here hx (hb hby d3_6) (Yo.iadd Xy1.here hx (hb hby d3_7) rfl k))) ?_
  show Fin p e below s _ _ _ (Ty1.setTop (mkF m 8 #[rv a1] [(.int 1), (.ref a1), (.int 0)]))
  obtain ⟨Ty2, hy2, Xy2, ey2, Wy2, sty2⟩ := putF Xy1 hx hZ hown (host := "") (Or.inl (W_ hw 19)) Via.refl ey1 HF_a1_depth HE_a1 (Or.inl (W_ hw 20)) (W_ hw 2) (ty := .int) (by decide) rfl rfl (g := (mkF m 8 #[rv a1] [(.int 1), (.ref a1), (.int 0)])) rfl rfl (hb hby d3_8)
  have Fwy2 : Fld Z hy2 a1 q1 "depth" "I" (.int 1) := HF_a1_depth.same Wy2
  have Zy2 : n0 ≤ hy2.size := Nat.le_trans Z0 (Keep.of_wr Wy2).1
  have Ky2 : Keep h0 hy2 [a1] := K0.wr Wy2 m0
  have Ny2 := Fr.snoc Xy2 N0 g_a1
  refine Fin.step (sty2) ?_
  show Fin p e below s _ _ _ (Ty2.setTop (mkF m 11 #[rv a1] [(.int 0)]))
  refine Fin.retI Xy2 hx hret hlk (hb hby d3_11) (by decide) (by decide) ?_
  show Qse0 Z a1 ao cn h0 n0 _ Ty2.heap _
  rw [ey2]
  exact ⟨rfl, Ny2, Ky2, (HF_a1_open.other Wy2 (Or.inr (slot_ne (Or.inl (W_ hw 13)) (Or.inl (W_ hw 20)) (by decide) (t := (.array (.object "com/example/uzor/uzor/StringValues$Value"))) (t' := .int) (by decide) (by decide)))), Fwy2, (HF_a1_count.other Wy2 (Or.inr (slot_ne (Or.inl (W_ hw 27)) (Or.inl (W_ hw 20)) (by decide) (t := .int) (t' := .int) (by decide) (by decide))))⟩
theorem ef_rmse1 (m : MethodId) (x0 : Addr) : entryFrame m #[(.ref x0)] 1 = mkF m 0 #[.val (.ref x0)] [] := by first | (simp [entryFrame, mkF, argsToLocals, Value.category]; done) | rfl
abbrev R_rmse1 : Room := ({ frames := 0, cells := 0, slots := 0, locals := 0 } : Room)
def Qse1 (Z : State) (a1 ao : Addr) (cn : Int32) (h0 : Heap) (n0 : Nat) (v : Option Value) (h : Heap) (L : List Loc) : Prop := v = some (.int 1) ∧ Fr n0 L ∧ Keep h0 h [a1] ∧ Fld Z h a1 q1 "open" q9 (.ref ao) ∧ Fld Z h a1 q1 "depth" "I" (.int 2) ∧ Fld Z h a1 q1 "count" "I" (.int cn)
set_option maxRecDepth 65536 in
set_option maxHeartbeats 40000000 in
theorem rmse1 (l : Launch) (Z : State) (a0 : Array Value) (hw : ∀ d ∈ tables_1, d.before a0 Z = true) (ws : List Jvm.Cond) (a1 ao : Addr) (cn : Int32) (h0 : Heap) (n0 : Nat) (Z0 : n0 ≤ h0.size) (HE_a1 : Exa Z h0 a1 q1) (HF_a1_open : Fld Z h0 a1 q1 "open" q9 (.ref ao)) (HF_a1_depth : Fld Z h0 a1 q1 "depth" "I" (.int 1)) (HF_a1_count : Fld Z h0 a1 q1 "count" "I" (.int cn)) (g_a1 : n0 ≤ a1) :
    Met1 l n3 prog_34_method_2_code 1 (some .int) ws R_rmse1 #[(.ref a1)] Z h0 (Qse1 Z a1 ao cn h0 n0) := by
  refine Met1.enter (plainFor_of_name pn_3) (fun m => ef_rmse1 m a1) fun p e s m below meth c s₁ hx hby hlk hret hml hown hnm hZ X0 e0 => ?_
  have N0 := Fr.nil n0
  have K0 := Keep.refl h0 [a1]
  show Fin p e below s _ _ _ (s₁.setTop (mkF m 0 #[rv a1] []))
  refine Fin.step (fun _ k => Yo.aloadN X0.here hx (hb hby d3_0) rfl rfl (Yo.dup X0.here hx (hb hby d3_1) rfl rfl k)) ?_
  refine fget X0 hx hZ hown (W_ hw 19) e0 HF_a1_depth (hb hby d3_2) fun Ty1 Xy1 ey1 => ?_
  refine Fin.step (fun _ k => Yo.dupX1 Xy1.here hx (hb hby d3_5) rfl rfl rfl (Yo.iconst Xy1.here hx (hb hby d3_6) (Yo.iadd Xy1.here hx (hb hby d3_7) rfl k))) ?_
  show Fin p e below s _ _ _ (Ty1.setTop (mkF m 8 #[rv a1] [(.int 2), (.ref a1), (.int 1)]))
  obtain ⟨Ty2, hy2, Xy2, ey2, Wy2, sty2⟩ := putF Xy1 hx hZ hown (host := "") (Or.inl (W_ hw 19)) Via.refl ey1 HF_a1_depth HE_a1 (Or.inl (W_ hw 20)) (W_ hw 2) (ty := .int) (by decide) rfl rfl (g := (mkF m 8 #[rv a1] [(.int 2), (.ref a1), (.int 1)])) rfl rfl (hb hby d3_8)
  have Fwy2 : Fld Z hy2 a1 q1 "depth" "I" (.int 2) := HF_a1_depth.same Wy2
  have Zy2 : n0 ≤ hy2.size := Nat.le_trans Z0 (Keep.of_wr Wy2).1
  have Ky2 : Keep h0 hy2 [a1] := K0.wr Wy2 m0
  have Ny2 := Fr.snoc Xy2 N0 g_a1
  refine Fin.step (sty2) ?_
  show Fin p e below s _ _ _ (Ty2.setTop (mkF m 11 #[rv a1] [(.int 1)]))
  refine Fin.retI Xy2 hx hret hlk (hb hby d3_11) (by decide) (by decide) ?_
  show Qse1 Z a1 ao cn h0 n0 _ Ty2.heap _
  rw [ey2]
  exact ⟨rfl, Ny2, Ky2, (HF_a1_open.other Wy2 (Or.inr (slot_ne (Or.inl (W_ hw 13)) (Or.inl (W_ hw 20)) (by decide) (t := (.array (.object "com/example/uzor/uzor/StringValues$Value"))) (t' := .int) (by decide) (by decide)))), Fwy2, (HF_a1_count.other Wy2 (Or.inr (slot_ne (Or.inl (W_ hw 27)) (Or.inl (W_ hw 20)) (by decide) (t := .int) (t' := .int) (by decide) (by decide))))⟩
theorem pn_6 : plainName "com/example/uzor/uzor/StringValues" = true := by first | (simp [plainName, overriddenIn]; done) | decide +kernel
theorem d6_0 : decode prog_34_method_6_code 0 = .ok (.aload_n 0, 1) := by decide +kernel
theorem d6_1 : decode prog_34_method_6_code 1 = .ok (.getfield 19, 3) := by decide +kernel
theorem d6_4 : decode prog_34_method_6_code 4 = .ok (.aload_n 0, 1) := by decide +kernel
theorem d6_5 : decode prog_34_method_6_code 5 = .ok (.getfield 9, 3) := by decide +kernel
theorem d6_8 : decode prog_34_method_6_code 8 = .ok (.arraylength, 1) := by decide +kernel
theorem d6_9 : decode prog_34_method_6_code 9 = .ok (.if_icmp .ne 7, 3) := by decide +kernel
theorem d6_16 : decode prog_34_method_6_code 16 = .ok (.new 7, 3) := by decide +kernel
theorem d6_19 : decode prog_34_method_6_code 19 = .ok (.dup, 1) := by decide +kernel
theorem d6_20 : decode prog_34_method_6_code 20 = .ok (.aload_n 0, 1) := by decide +kernel
theorem d6_21 : decode prog_34_method_6_code 21 = .ok (.getfield 15, 3) := by decide +kernel
theorem d6_24 : decode prog_34_method_6_code 24 = .ok (.iload_n 1, 1) := by decide +kernel
theorem d6_25 : decode prog_34_method_6_code 25 = .ok (.invokespecial 46, 3) := by decide +kernel
theorem d6_28 : decode prog_34_method_6_code 28 = .ok (.astore_n 2, 1) := by decide +kernel
theorem d6_29 : decode prog_34_method_6_code 29 = .ok (.aload_n 0, 1) := by decide +kernel
theorem d6_30 : decode prog_34_method_6_code 30 = .ok (.getfield 9, 3) := by decide +kernel
theorem d6_33 : decode prog_34_method_6_code 33 = .ok (.aload_n 0, 1) := by decide +kernel
theorem d6_34 : decode prog_34_method_6_code 34 = .ok (.dup, 1) := by decide +kernel
theorem d6_35 : decode prog_34_method_6_code 35 = .ok (.getfield 19, 3) := by decide +kernel
theorem d6_38 : decode prog_34_method_6_code 38 = .ok (.dup_x1, 1) := by decide +kernel
theorem d6_39 : decode prog_34_method_6_code 39 = .ok (.iconst 1, 1) := by decide +kernel
theorem d6_40 : decode prog_34_method_6_code 40 = .ok (.iadd, 1) := by decide +kernel
theorem d6_41 : decode prog_34_method_6_code 41 = .ok (.putfield 19, 3) := by decide +kernel
theorem d6_44 : decode prog_34_method_6_code 44 = .ok (.aload_n 2, 1) := by decide +kernel
theorem d6_45 : decode prog_34_method_6_code 45 = .ok (.aastore, 1) := by decide +kernel
theorem d6_46 : decode prog_34_method_6_code 46 = .ok (.aload_n 2, 1) := by decide +kernel
theorem d6_47 : decode prog_34_method_6_code 47 = .ok (.areturn, 1) := by decide +kernel
theorem ef_rmbu0 (m : MethodId) (x0 : Addr) (x1 : Int32) : entryFrame m #[(.ref x0), (.int x1)] 3 = mkF m 0 #[.val (.ref x0), .val (.int x1), .unset] [] := by first | (simp [entryFrame, mkF, argsToLocals, Value.category]; done) | rfl
abbrev R_rmbu0 : Room := ({ frames := 4, cells := 3, slots := 24, locals := 54 } : Room)
def Qbu0 (Z : State) (a1 : Addr) (p2 : Int32) (ao : Addr) (ko : ClassId) (dd wc : Int32) (h0 : Heap) (n0 : Nat) (v : Option Value) (h : Heap) (L : List Loc) : Prop := ∃ bo : Addr, ∃ ab : Addr, ∃ kb : ClassId, ∃ nv : Addr, v = some (.ref nv) ∧ h0.size ≤ nv ∧ h0.size ≤ bo ∧ h0.size ≤ ab ∧ Fr n0 L ∧ Keep h0 h [a1, ao] ∧ Fld Z h a1 q1 "open" q9 (.ref ao) ∧ Fld Z h a1 q1 "depth" "I" (.int dd) ∧ Fld Z h a1 q1 "count" "I" (.int 1) ∧ Arv Z h ao ko (.object "com/example/uzor/uzor/StringValues$Value") (4 : Int32) [(.ref nv), .null, .null, .null] .null ∧ Exa Z h nv q0 ∧ Fld Z h nv q0 "text" q7 (.ref bo) ∧ Fld Z h nv q0 "limit" "I" (.int p2) ∧ Fld Z h nv q0 "value" q8 .null ∧ Fld Z h nv q0 "depth" "I" (.int dd) ∧ Exa Z h bo q2 ∧ Fld Z h bo q3 "value" "[B" (.ref ab) ∧ Fld Z h bo q3 "coder" "B" (.int 0) ∧ Fld Z h bo q3 "count" "I" (.int 0) ∧ Arv Z h ab kb .byte (16 : Int32) [(.int 0), (.int 0), (.int 0), (.int 0), (.int 0), (.int 0), (.int 0), (.int 0), (.int 0), (.int 0), (.int 0), (.int 0), (.int 0), (.int 0), (.int 0), (.int 0)] (.int 0) ∧ bo ≠ ab ∧ nv ≠ bo ∧ nv ≠ ab
set_option maxRecDepth 65536 in
set_option maxHeartbeats 40000000 in
theorem rmbu0 (l : Launch) (Z : State) (a0 : Array Value) (hw : ∀ d ∈ tables_1, d.before a0 Z = true) (ws : List Jvm.Cond) (a1 : Addr) (p2 : Int32) (ao : Addr) (ko : ClassId) (dd wc : Int32) (h0 : Heap) (n0 : Nat) (Z0 : n0 ≤ h0.size) (HE_a1 : Exa Z h0 a1 q1) (HF_a1_open : Fld Z h0 a1 q1 "open" q9 (.ref ao)) (HF_a1_depth : Fld Z h0 a1 q1 "depth" "I" (.int dd)) (HF_a1_count : Fld Z h0 a1 q1 "count" "I" (.int 0)) (HV_ao : Arv Z h0 ao ko (.object "com/example/uzor/uzor/StringValues$Value") (4 : Int32) [.null, .null, .null, .null] .null) (HS_java_lang_String_COMPACT_STRINGS : Sta Z h0 q4 q10 "Z" (.int wc)) (g_a1 : n0 ≤ a1) (g_ao : n0 ≤ ao) (hwc : ¬ wc = 0) (hov : Ovr Z ko "com/example/uzor/uzor/StringValues$Value") (hn_a1_ao : a1 ≠ ao) :
    Met1 l n6 prog_34_method_6_code 3 (some (.object "com/example/uzor/uzor/StringValues$Value")) ws R_rmbu0 #[(.ref a1), (.int p2)] Z h0 (Qbu0 Z a1 p2 ao ko dd wc h0 n0) := by
  refine Met1.enter (plainFor_of_name pn_6) (fun m => ef_rmbu0 m a1 p2) fun p e s m below meth c s₁ hx hby hlk hret hml hown hnm hZ X0 e0 => ?_
  have N0 := Fr.nil n0
  have K0 := Keep.refl h0 [a1, ao]
  show Fin p e below s _ _ _ (s₁.setTop (mkF m 0 #[rv a1, iv p2, .unset] []))
  refine Fin.step (fun _ k => Yo.aloadN X0.here hx (hb hby d6_0) rfl rfl k) ?_
  refine fget X0 hx hZ hown (W_ hw 26) e0 HF_a1_count (hb hby d6_1) fun Ty1 Xy1 ey1 => ?_
  refine Fin.step (fun _ k => Yo.aloadN Xy1.here hx (hb hby d6_4) rfl rfl k) ?_
  refine fget Xy1 hx hZ hown (W_ hw 12) ey1 HF_a1_open (hb hby d6_5) fun Ty2 Xy2 ey2 => ?_
  have voy3 := HV_ao
  obtain ⟨cly3, Ary3, qay3, say3, nay3, hay3, gay3⟩ := voy3
  refine Fin.step (Xy2.arraylength hx (by rw [ey2]; exact Ary3.1) (State.isArrayOf_alike hZ.alike Ary3.2.1) (g := (mkF m 8 #[rv a1, iv p2, .unset] [(.ref ao), (.int 0)])) rfl rfl (hb hby d6_8)) ?_
  rw [len_of say3 nay3]
  show Fin p e below s _ _ _ (Ty2.setTop (mkF m 9 #[rv a1, iv p2, .unset] [(.int 4), (.int 0)]))
  refine Fin.step (fun _ k => Yo.icmpYes Xy2.here hx (pc0 := 9) (pc' := 16) rfl (hb hby d6_9) rfl (feq ((by decide) : ¬ ((0 : Int32) = (4 : Int32)))).2 (by decide) (by decide) k) ?_
  obtain ⟨Ty4, hy4, Xy4, ey4, Ey4, Ay4, Dy4, -, sty4⟩ := newO Xy2 hx hZ hown (W_ hw 10) (W_ hw 38) (W_ hw 39) ey2 (g := (mkF m 16 #[rv a1, iv p2, .unset] [])) rfl (hb hby d6_16) (by decide) (by decide)
  obtain ⟨by4, gy4⟩ : ∃ z, z = h0.size := ⟨_, rfl⟩
  rw [← gy4] at Ay4 Dy4 sty4
  have gzy4 : n0 ≤ by4 := Nat.le_trans Z0 (Nat.le_of_eq gy4.symm)
  have szy4 : h0.size ≤ by4 := Nat.le_trans K0.1 (Nat.le_of_eq gy4.symm)
  have Zy4 := Nat.le_trans Z0 Ey4.1
  have Ky4 := K0.ext Ey4
  have F_text_by4 : Fld Z hy4 by4 q0 "text" q7 .null := Dy4 (Or.inl (W_ hw 65)) (ty := (.object "java/lang/StringBuilder")) (by decide)
  have F_depth_by4 : Fld Z hy4 by4 q0 "depth" "I" (.int 0) := Dy4 (Or.inr (W_ hw 67)) (ty := .int) (by decide)
  have F_limit_by4 : Fld Z hy4 by4 q0 "limit" "I" (.int 0) := Dy4 (Or.inr (W_ hw 69)) (ty := .int) (by decide)
  have F_value_by4 : Fld Z hy4 by4 q0 "value" q8 .null := Dy4 (Or.inl (W_ hw 128)) (ty := (.object "java/lang/String")) (by decide)
  refine Fin.step (sty4) ?_
  show Fin p e below s _ _ _ (Ty4.setTop (mkF m 19 #[rv a1, iv p2, .unset] [(.ref by4)]))
  refine Fin.step (fun _ k => Yo.dup Xy4.here hx (hb hby d6_19) rfl rfl (Yo.aloadN Xy4.here hx (hb hby d6_20) rfl rfl k)) ?_
  refine fget Xy4 hx hZ hown (W_ hw 19) ey4 (HF_a1_depth.ext Ey4) (hb hby d6_21) fun Ty5 Xy5 ey5 => ?_
  refine Fin.step (fun _ k => Yo.iloadN Xy5.here hx (hb hby d6_24) rfl k) ?_
  have ry6 := (HS_java_lang_String_COMPACT_STRINGS.ext Ey4)
  obtain ⟨_, Ty7, Lcy7, Xy7, hQy7, sty7⟩ := pack (specialHot Xy5 hx hZ (y := n7) rfl hown (W_ hw 40) (W_ hw 41) (W_ hw 42) (by decide) (backOf (W := 1) (rmvi l Z a0 hw [] by4 dd p2 wc hy4 n0 Zy4 Ay4 F_text_by4 F_depth_by4 F_limit_by4 F_value_by4 ry6 gzy4 hwc) hZ (W_ hw 42) (W_ hw 39) (by decide) (by decide)) (g := (mkF m 25 #[rv a1, iv p2, .unset] [(.int p2), (.int dd), (.ref by4), (.ref by4)])) rfl (by rw [hml]; rfl) (Steps.refl _) (a := by4) (argsL := [(.int dd), (.int p2)]) (rest := [(.ref by4)]) (lenOf pd_9 rfl) rfl (lb rfl) (hb hby d6_25) (fun _ _ => ⟨rfl, ey5, (by decide : 1 + 2 ≤ _), (by decide : 4 + 20 ≤ _)⟩))
  obtain ⟨bo_y7, ab_y7, kb_y7, rfl, bfy7_0, bfy7_1, Nqy7, Kcy7, fy7_0, fy7_1, fy7_2, fy7_3, fy7_4, fy7_5, fy7_6, fy7_7, fy7_8, ney7_0, ney7_1, ney7_2⟩ := hQy7
  have Ny7 := Fr.app N0 Nqy7
  have gzy7_0 : n0 ≤ bo_y7 := Nat.le_trans Zy4 bfy7_0
  have szy7_0 : h0.size ≤ bo_y7 := Nat.le_trans Ky4.1 bfy7_0
  have gzy7_1 : n0 ≤ ab_y7 := Nat.le_trans Zy4 bfy7_1
  have szy7_1 : h0.size ≤ ab_y7 := Nat.le_trans Ky4.1 bfy7_1
  have Zy7 := Nat.le_trans Zy4 Kcy7.1
  have Ky7 := Ky4.trans Kcy7 (allS (Or.inr szy4) all0)
  refine Fin.step (sty7) ?_
  show Fin p e below s _ _ _ (Ty7.setTop (mkF m 28 #[rv a1, iv p2, .unset] [(.ref by4)]))
  refine Fin.step (fun _ k => Yo.astoreN Xy7.here hx (hb hby d6_28) rfl rfl (l' := #[rv a1, iv p2, rv by4]) rfl (Yo.aloadN Xy7.here hx (hb hby d6_29) rfl rfl k)) ?_
  have ney9 := nlt HE_a1.lt (Nat.le_of_eq gy4.symm)
  have ry10 := ((HF_a1_open.ext Ey4).keep Kcy7 (ninS ney9 nin0))
  refine fget Xy7 hx hZ hown (W_ hw 12) rfl ry10 (hb hby d6_30) fun Ty8 Xy8 ey8 => ?_
  refine Fin.step (fun _ k => Yo.aloadN Xy8.here hx (hb hby d6_33) rfl rfl (Yo.dup Xy8.here hx (hb hby d6_34) rfl rfl k)) ?_
  have ry12 := ((HF_a1_count.ext Ey4).keep Kcy7 (ninS ney9 nin0))
  refine fget Xy8 hx hZ hown (W_ hw 26) ey8 ry12 (hb hby d6_35) fun Ty11 Xy11 ey11 => ?_
  refine Fin.step (fun _ k => Yo.dupX1 Xy11.here hx (hb hby d6_38) rfl rfl rfl (Yo.iconst Xy11.here hx (hb hby d6_39) (Yo.iadd Xy11.here hx (hb hby d6_40) rfl k))) ?_
  show Fin p e below s _ _ _ (Ty11.setTop (mkF m 41 #[rv a1, iv p2, rv by4] [(.int 1), (.ref a1), (.int 0), (.ref ao)]))
  obtain ⟨Ty13, hy13, Xy13, ey13, Wy13, sty13⟩ := putF Xy11 hx hZ hown (host := "") (Or.inl (W_ hw 26)) Via.refl ey11 ry12 ((HE_a1.ext Ey4).keep Kcy7) (Or.inl (W_ hw 27)) (W_ hw 2) (ty := .int) (by decide) rfl rfl (g := (mkF m 41 #[rv a1, iv p2, rv by4] [(.int 1), (.ref a1), (.int 0), (.ref ao)])) rfl rfl (hb hby d6_41)
  have Fwy13 : Fld Z hy13 a1 q1 "count" "I" (.int 1) := ry12.same Wy13
  have Zy13 : n0 ≤ hy13.size := Nat.le_trans Zy7 (Keep.of_wr Wy13).1
  have Ky13 : Keep h0 hy13 [a1, ao] := Ky7.wr Wy13 m0
  have Ny13 := Fr.snoc Xy13 Ny7 g_a1
  refine Fin.step (sty13) ?_
  show Fin p e below s _ _ _ (Ty13.setTop (mkF m 44 #[rv a1, iv p2, rv by4] [(.int 0), (.ref ao)]))
  refine Fin.step (fun _ k => Yo.aloadN Xy13.here hx (hb hby d6_44) rfl rfl k) ?_
  have ney15 := nlt (nsV HV_ao).lt (Nat.le_of_eq gy4.symm)
  have voy14 := (((HV_ao.ext Ey4).keep Kcy7 (ninS ney15 nin0)).other Wy13 (Ne.symm hn_a1_ao))
  obtain ⟨cly14, Ary14, qay14, say14, nay14, hay14, gay14⟩ := voy14
  obtain ⟨Ty14, hy14, Xy14, ey14, Wy14, sty14⟩ := stR Xy13 hx hZ ey13 Ary14 (j := (0 : Int32)) (inb_of say14 ⟨by decide, by decide⟩) rfl (Sto.ofV Ary14 qay14 hov (Ins.self ((Ay4.keep Kcy7).wr Wy13))) (g := (mkF m 45 #[rv a1, iv p2, rv by4] [(.ref by4), (.int 0), (.ref ao)])) rfl rfl (hb hby d6_45)
  have Vy14 : Arv Z hy14 ao ko (.object "com/example/uzor/uzor/StringValues$Value") (4 : Int32) [(.ref by4), .null, .null, .null] .null := Arv.set Ary14 qay14 say14 nay14 hay14 gay14 rfl Wy14 0 rfl (Nat.le_of_ble_eq_true rfl)
  have Zy14 : n0 ≤ hy14.size := Nat.le_trans Zy13 (Keep.of_wr Wy14).1
  have Ky14 : Keep h0 hy14 [a1, ao] := Ky13.wr Wy14 m1
  have Ny14 := Fr.snoc Xy14 Ny13 g_ao
  refine Fin.step (sty14) ?_
  show Fin p e below s _ _ _ (Ty14.setTop (mkF m 46 #[rv a1, iv p2, rv by4] []))
  refine Fin.step (fun _ k => Yo.aloadN Xy14.here hx (hb hby d6_46) rfl rfl k) ?_
  refine Fin.retR Xy14 hx hret rfl rfl hlk (hb hby d6_47) (by decide) (by decide) ?_
  show Qbu0 Z a1 p2 ao ko dd wc h0 n0 _ Ty14.heap _
  rw [ey14]
  have ney16 := nlt (HE_a1.ext Ey4).lt bfy7_0
  have ney17 := nlt ((nsV HV_ao).ext Ey4).lt bfy7_0
  have ney18 := nlt (HE_a1.ext Ey4).lt bfy7_1
  have ney19 := nlt ((nsV HV_ao).ext Ey4).lt bfy7_1
  exact ⟨bo_y7, ab_y7, kb_y7, by4, rfl, szy4, szy7_0, szy7_1, Ny14, Ky14, ((ry10.other Wy13 (Or.inr (slot_ne (Or.inl (W_ hw 13)) (Or.inl (W_ hw 27)) (by decide) (t := (.array (.object "com/example/uzor/uzor/StringValues$Value"))) (t' := .int) (by decide) (by decide)))).other Wy14 (Or.inl hn_a1_ao)), ((((HF_a1_depth.ext Ey4).keep Kcy7 (ninS ney9 nin0)).other Wy13 (Or.inr (slot_ne (Or.inl (W_ hw 20)) (Or.inl (W_ hw 27)) (by decide) (t := .int) (t' := .int) (by decide) (by decide)))).other Wy14 (Or.inl hn_a1_ao)), (Fwy13.other Wy14 (Or.inl hn_a1_ao)), Vy14, (((Ay4.keep Kcy7).wr Wy13).wr Wy14), ((fy7_0.other Wy13 (Or.inl (Ne.symm ney9))).other Wy14 (Or.inl (Ne.symm ney15))), ((fy7_1.other Wy13 (Or.inl (Ne.symm ney9))).other Wy14 (Or.inl (Ne.symm ney15))), ((fy7_2.other Wy13 (Or.inl (Ne.symm ney9))).other Wy14 (Or.inl (Ne.symm ney15))), ((fy7_3.other Wy13 (Or.inl (Ne.symm ney9))).other Wy14 (Or.inl (Ne.symm ney15))), ((fy7_4.wr Wy13).wr Wy14), ((fy7_5.other Wy13 (Or.inl (Ne.symm ney16))).other Wy14 (Or.inl (Ne.symm ney17))), ((fy7_6.other Wy13 (Or.inl (Ne.symm ney16))).other Wy14 (Or.inl (Ne.symm ney17))), ((fy7_7.other Wy13 (Or.inl (Ne.symm ney16))).other Wy14 (Or.inl (Ne.symm ney17))), ((fy7_8.other Wy13 (Ne.symm ney18)).other Wy14 (Ne.symm ney19)), ney7_0, ney7_1, ney7_2⟩
theorem ef_rmbu1 (m : MethodId) (x0 : Addr) (x1 : Int32) : entryFrame m #[(.ref x0), (.int x1)] 3 = mkF m 0 #[.val (.ref x0), .val (.int x1), .unset] [] := by first | (simp [entryFrame, mkF, argsToLocals, Value.category]; done) | rfl
abbrev R_rmbu1 : Room := ({ frames := 4, cells := 3, slots := 24, locals := 54 } : Room)
def Qbu1 (Z : State) (a1 : Addr) (p2 : Int32) (ao : Addr) (ko : ClassId) (dd : Int32) (x0 : Addr) (wc : Int32) (h0 : Heap) (n0 : Nat) (v : Option Value) (h : Heap) (L : List Loc) : Prop := ∃ bo : Addr, ∃ ab : Addr, ∃ kb : ClassId, ∃ nv : Addr, v = some (.ref nv) ∧ h0.size ≤ nv ∧ h0.size ≤ bo ∧ h0.size ≤ ab ∧ Fr n0 L ∧ Keep h0 h [a1, ao] ∧ Fld Z h a1 q1 "open" q9 (.ref ao) ∧ Fld Z h a1 q1 "depth" "I" (.int dd) ∧ Fld Z h a1 q1 "count" "I" (.int 2) ∧ Arv Z h ao ko (.object "com/example/uzor/uzor/StringValues$Value") (4 : Int32) [(.ref x0), (.ref nv), .null, .null] .null ∧ Exa Z h nv q0 ∧ Fld Z h nv q0 "text" q7 (.ref bo) ∧ Fld Z h nv q0 "limit" "I" (.int p2) ∧ Fld Z h nv q0 "value" q8 .null ∧ Fld Z h nv q0 "depth" "I" (.int dd) ∧ Exa Z h bo q2 ∧ Fld Z h bo q3 "value" "[B" (.ref ab) ∧ Fld Z h bo q3 "coder" "B" (.int 0) ∧ Fld Z h bo q3 "count" "I" (.int 0) ∧ Arv Z h ab kb .byte (16 : Int32) [(.int 0), (.int 0), (.int 0), (.int 0), (.int 0), (.int 0), (.int 0), (.int 0), (.int 0), (.int 0), (.int 0), (.int 0), (.int 0), (.int 0), (.int 0), (.int 0)] (.int 0) ∧ bo ≠ ab ∧ nv ≠ bo ∧ nv ≠ ab
set_option maxRecDepth 65536 in
set_option maxHeartbeats 40000000 in
theorem rmbu1 (l : Launch) (Z : State) (a0 : Array Value) (hw : ∀ d ∈ tables_1, d.before a0 Z = true) (ws : List Jvm.Cond) (a1 : Addr) (p2 : Int32) (ao : Addr) (ko : ClassId) (dd : Int32) (x0 : Addr) (wc : Int32) (h0 : Heap) (n0 : Nat) (Z0 : n0 ≤ h0.size) (HE_a1 : Exa Z h0 a1 q1) (HF_a1_open : Fld Z h0 a1 q1 "open" q9 (.ref ao)) (HF_a1_depth : Fld Z h0 a1 q1 "depth" "I" (.int dd)) (HF_a1_count : Fld Z h0 a1 q1 "count" "I" (.int 1)) (HV_ao : Arv Z h0 ao ko (.object "com/example/uzor/uzor/StringValues$Value") (4 : Int32) [(.ref x0), .null, .null, .null] .null) (HS_java_lang_String_COMPACT_STRINGS : Sta Z h0 q4 q10 "Z" (.int wc)) (g_a1 : n0 ≤ a1) (g_ao : n0 ≤ ao) (hwc : ¬ wc = 0) (hov : Ovr Z ko "com/example/uzor/uzor/StringValues$Value") (hn_a1_ao : a1 ≠ ao) :
    Met1 l n6 prog_34_method_6_code 3 (some (.object "com/example/uzor/uzor/StringValues$Value")) ws R_rmbu1 #[(.ref a1), (.int p2)] Z h0 (Qbu1 Z a1 p2 ao ko dd x0 wc h0 n0) := by
  refine Met1.enter (plainFor_of_name pn_6) (fun m => ef_rmbu1 m a1 p2) fun p e s m below meth c s₁ hx hby hlk hret hml hown hnm hZ X0 e0 => ?_
  have N0 := Fr.nil n0
  have K0 := Keep.refl h0 [a1, ao]
  show Fin p e below s _ _ _ (s₁.setTop (mkF m 0 #[rv a1, iv p2, .unset] []))
  refine Fin.step (fun _ k => Yo.aloadN X0.here hx (hb hby d6_0) rfl rfl k) ?_
  refine fget X0 hx hZ hown (W_ hw 26) e0 HF_a1_count (hb hby d6_1) fun Ty1 Xy1 ey1 => ?_
  refine Fin.step (fun _ k => Yo.aloadN Xy1.here hx (hb hby d6_4) rfl rfl k) ?_
  refine fget Xy1 hx hZ hown (W_ hw 12) ey1 HF_a1_open (hb hby d6_5) fun Ty2 Xy2 ey2 => ?_
  have voy3 := HV_ao
  obtain ⟨cly3, Ary3, qay3, say3, nay3, hay3, gay3⟩ := voy3
  refine Fin.step (Xy2.arraylength hx (by rw [ey2]; exact Ary3.1) (State.isArrayOf_alike hZ.alike Ary3.2.1) (g := (mkF m 8 #[rv a1, iv p2, .unset] [(.ref ao), (.int 1)])) rfl rfl (hb hby d6_8)) ?_
  rw [len_of say3 nay3]
  show Fin p e below s _ _ _ (Ty2.setTop (mkF m 9 #[rv a1, iv p2, .unset] [(.int 4), (.int 1)]))
  refine Fin.step (fun _ k => Yo.icmpYes Xy2.here hx (pc0 := 9) (pc' := 16) rfl (hb hby d6_9) rfl (feq ((by decide) : ¬ ((1 : Int32) = (4 : Int32)))).2 (by decide) (by decide) k) ?_
  obtain ⟨Ty4, hy4, Xy4, ey4, Ey4, Ay4, Dy4, -, sty4⟩ := newO Xy2 hx hZ hown (W_ hw 10) (W_ hw 38) (W_ hw 39) ey2 (g := (mkF m 16 #[rv a1, iv p2, .unset] [])) rfl (hb hby d6_16) (by decide) (by decide)
  obtain ⟨by4, gy4⟩ : ∃ z, z = h0.size := ⟨_, rfl⟩
  rw [← gy4] at Ay4 Dy4 sty4
  have gzy4 : n0 ≤ by4 := Nat.le_trans Z0 (Nat.le_of_eq gy4.symm)
  have szy4 : h0.size ≤ by4 := Nat.le_trans K0.1 (Nat.le_of_eq gy4.symm)
  have Zy4 := Nat.le_trans Z0 Ey4.1
  have Ky4 := K0.ext Ey4
  have F_text_by4 : Fld Z hy4 by4 q0 "text" q7 .null := Dy4 (Or.inl (W_ hw 65)) (ty := (.object "java/lang/StringBuilder")) (by decide)
  have F_depth_by4 : Fld Z hy4 by4 q0 "depth" "I" (.int 0) := Dy4 (Or.inr (W_ hw 67)) (ty := .int) (by decide)
  have F_limit_by4 : Fld Z hy4 by4 q0 "limit" "I" (.int 0) := Dy4 (Or.inr (W_ hw 69)) (ty := .int) (by decide)
  have F_value_by4 : Fld Z hy4 by4 q0 "value" q8 .null := Dy4 (Or.inl (W_ hw 128)) (ty := (.object "java/lang/String")) (by decide)
  refine Fin.step (sty4) ?_
  show Fin p e below s _ _ _ (Ty4.setTop (mkF m 19 #[rv a1, iv p2, .unset] [(.ref by4)]))
  refine Fin.step (fun _ k => Yo.dup Xy4.here hx (hb hby d6_19) rfl rfl (Yo.aloadN Xy4.here hx (hb hby d6_20) rfl rfl k)) ?_
  refine fget Xy4 hx hZ hown (W_ hw 19) ey4 (HF_a1_depth.ext Ey4) (hb hby d6_21) fun Ty5 Xy5 ey5 => ?_
  refine Fin.step (fun _ k => Yo.iloadN Xy5.here hx (hb hby d6_24) rfl k) ?_
  have ry6 := (HS_java_lang_String_COMPACT_STRINGS.ext Ey4)
  obtain ⟨_, Ty7, Lcy7, Xy7, hQy7, sty7⟩ := pack (specialHot Xy5 hx hZ (y := n7) rfl hown (W_ hw 40) (W_ hw 41) (W_ hw 42) (by decide) (backOf (W := 1) (rmvi l Z a0 hw [] by4 dd p2 wc hy4 n0 Zy4 Ay4 F_text_by4 F_depth_by4 F_limit_by4 F_value_by4 ry6 gzy4 hwc) hZ (W_ hw 42) (W_ hw 39) (by decide) (by decide)) (g := (mkF m 25 #[rv a1, iv p2, .unset] [(.int p2), (.int dd), (.ref by4), (.ref by4)])) rfl (by rw [hml]; rfl) (Steps.refl _) (a := by4) (argsL := [(.int dd), (.int p2)]) (rest := [(.ref by4)]) (lenOf pd_9 rfl) rfl (lb rfl) (hb hby d6_25) (fun _ _ => ⟨rfl, ey5, (by decide : 1 + 2 ≤ _), (by decide : 4 + 20 ≤ _)⟩))
  obtain ⟨bo_y7, ab_y7, kb_y7, rfl, bfy7_0, bfy7_1, Nqy7, Kcy7, fy7_0, fy7_1, fy7_2, fy7_3, fy7_4, fy7_5, fy7_6, fy7_7, fy7_8, ney7_0, ney7_1, ney7_2⟩ := hQy7
  have Ny7 := Fr.app N0 Nqy7
  have gzy7_0 : n0 ≤ bo_y7 := Nat.le_trans Zy4 bfy7_0
  have szy7_0 : h0.size ≤ bo_y7 := Nat.le_trans Ky4.1 bfy7_0
  have gzy7_1 : n0 ≤ ab_y7 := Nat.le_trans Zy4 bfy7_1
  have szy7_1 : h0.size ≤ ab_y7 := Nat.le_trans Ky4.1 bfy7_1
  have Zy7 := Nat.le_trans Zy4 Kcy7.1
  have Ky7 := Ky4.trans Kcy7 (allS (Or.inr szy4) all0)
  refine Fin.step (sty7) ?_
  show Fin p e below s _ _ _ (Ty7.setTop (mkF m 28 #[rv a1, iv p2, .unset] [(.ref by4)]))
  refine Fin.step (fun _ k => Yo.astoreN Xy7.here hx (hb hby d6_28) rfl rfl (l' := #[rv a1, iv p2, rv by4]) rfl (Yo.aloadN Xy7.here hx (hb hby d6_29) rfl rfl k)) ?_
  have ney9 := nlt HE_a1.lt (Nat.le_of_eq gy4.symm)
  have ry10 := ((HF_a1_open.ext Ey4).keep Kcy7 (ninS ney9 nin0))
  refine fget Xy7 hx hZ hown (W_ hw 12) rfl ry10 (hb hby d6_30) fun Ty8 Xy8 ey8 => ?_
  refine Fin.step (fun _ k => Yo.aloadN Xy8.here hx (hb hby d6_33) rfl rfl (Yo.dup Xy8.here hx (hb hby d6_34) rfl rfl k)) ?_
  have ry12 := ((HF_a1_count.ext Ey4).keep Kcy7 (ninS ney9 nin0))
  refine fget Xy8 hx hZ hown (W_ hw 26) ey8 ry12 (hb hby d6_35) fun Ty11 Xy11 ey11 => ?_
  refine Fin.step (fun _ k => Yo.dupX1 Xy11.here hx (hb hby d6_38) rfl rfl rfl (Yo.iconst Xy11.here hx (hb hby d6_39) (Yo.iadd Xy11.here hx (hb hby d6_40) rfl k))) ?_
  show Fin p e below s _ _ _ (Ty11.setTop (mkF m 41 #[rv a1, iv p2, rv by4] [(.int 2), (.ref a1), (.int 1), (.ref ao)]))
  obtain ⟨Ty13, hy13, Xy13, ey13, Wy13, sty13⟩ := putF Xy11 hx hZ hown (host := "") (Or.inl (W_ hw 26)) Via.refl ey11 ry12 ((HE_a1.ext Ey4).keep Kcy7) (Or.inl (W_ hw 27)) (W_ hw 2) (ty := .int) (by decide) rfl rfl (g := (mkF m 41 #[rv a1, iv p2, rv by4] [(.int 2), (.ref a1), (.int 1), (.ref ao)])) rfl rfl (hb hby d6_41)
  have Fwy13 : Fld Z hy13 a1 q1 "count" "I" (.int 2) := ry12.same Wy13
  have Zy13 : n0 ≤ hy13.size := Nat.le_trans Zy7 (Keep.of_wr Wy13).1
  have Ky13 : Keep h0 hy13 [a1, ao] := Ky7.wr Wy13 m0
  have Ny13 := Fr.snoc Xy13 Ny7 g_a1
  refine Fin.step (sty13) ?_
  show Fin p e below s _ _ _ (Ty13.setTop (mkF m 44 #[rv a1, iv p2, rv by4] [(.int 1), (.ref ao)]))
  refine Fin.step (fun _ k => Yo.aloadN Xy13.here hx (hb hby d6_44) rfl rfl k) ?_
  have ney15 := nlt (nsV HV_ao).lt (Nat.le_of_eq gy4.symm)
  have voy14 := (((HV_ao.ext Ey4).keep Kcy7 (ninS ney15 nin0)).other Wy13 (Ne.symm hn_a1_ao))
  obtain ⟨cly14, Ary14, qay14, say14, nay14, hay14, gay14⟩ := voy14
  obtain ⟨Ty14, hy14, Xy14, ey14, Wy14, sty14⟩ := stR Xy13 hx hZ ey13 Ary14 (j := (1 : Int32)) (inb_of say14 ⟨by decide, by decide⟩) rfl (Sto.ofV Ary14 qay14 hov (Ins.self ((Ay4.keep Kcy7).wr Wy13))) (g := (mkF m 45 #[rv a1, iv p2, rv by4] [(.ref by4), (.int 1), (.ref ao)])) rfl rfl (hb hby d6_45)
  have Vy14 : Arv Z hy14 ao ko (.object "com/example/uzor/uzor/StringValues$Value") (4 : Int32) [(.ref x0), (.ref by4), .null, .null] .null := Arv.set Ary14 qay14 say14 nay14 hay14 gay14 rfl Wy14 1 rfl (Nat.le_of_ble_eq_true rfl)
  have Zy14 : n0 ≤ hy14.size := Nat.le_trans Zy13 (Keep.of_wr Wy14).1
  have Ky14 : Keep h0 hy14 [a1, ao] := Ky13.wr Wy14 m1
  have Ny14 := Fr.snoc Xy14 Ny13 g_ao
  refine Fin.step (sty14) ?_
  show Fin p e below s _ _ _ (Ty14.setTop (mkF m 46 #[rv a1, iv p2, rv by4] []))
  refine Fin.step (fun _ k => Yo.aloadN Xy14.here hx (hb hby d6_46) rfl rfl k) ?_
  refine Fin.retR Xy14 hx hret rfl rfl hlk (hb hby d6_47) (by decide) (by decide) ?_
  show Qbu1 Z a1 p2 ao ko dd x0 wc h0 n0 _ Ty14.heap _
  rw [ey14]
  have ney16 := nlt (HE_a1.ext Ey4).lt bfy7_0
  have ney17 := nlt ((nsV HV_ao).ext Ey4).lt bfy7_0
  have ney18 := nlt (HE_a1.ext Ey4).lt bfy7_1
  have ney19 := nlt ((nsV HV_ao).ext Ey4).lt bfy7_1
  exact ⟨bo_y7, ab_y7, kb_y7, by4, rfl, szy4, szy7_0, szy7_1, Ny14, Ky14, ((ry10.other Wy13 (Or.inr (slot_ne (Or.inl (W_ hw 13)) (Or.inl (W_ hw 27)) (by decide) (t := (.array (.object "com/example/uzor/uzor/StringValues$Value"))) (t' := .int) (by decide) (by decide)))).other Wy14 (Or.inl hn_a1_ao)), ((((HF_a1_depth.ext Ey4).keep Kcy7 (ninS ney9 nin0)).other Wy13 (Or.inr (slot_ne (Or.inl (W_ hw 20)) (Or.inl (W_ hw 27)) (by decide) (t := .int) (t' := .int) (by decide) (by decide)))).other Wy14 (Or.inl hn_a1_ao)), (Fwy13.other Wy14 (Or.inl hn_a1_ao)), Vy14, (((Ay4.keep Kcy7).wr Wy13).wr Wy14), ((fy7_0.other Wy13 (Or.inl (Ne.symm ney9))).other Wy14 (Or.inl (Ne.symm ney15))), ((fy7_1.other Wy13 (Or.inl (Ne.symm ney9))).other Wy14 (Or.inl (Ne.symm ney15))), ((fy7_2.other Wy13 (Or.inl (Ne.symm ney9))).other Wy14 (Or.inl (Ne.symm ney15))), ((fy7_3.other Wy13 (Or.inl (Ne.symm ney9))).other Wy14 (Or.inl (Ne.symm ney15))), ((fy7_4.wr Wy13).wr Wy14), ((fy7_5.other Wy13 (Or.inl (Ne.symm ney16))).other Wy14 (Or.inl (Ne.symm ney17))), ((fy7_6.other Wy13 (Or.inl (Ne.symm ney16))).other Wy14 (Or.inl (Ne.symm ney17))), ((fy7_7.other Wy13 (Or.inl (Ne.symm ney16))).other Wy14 (Or.inl (Ne.symm ney17))), ((fy7_8.other Wy13 (Ne.symm ney18)).other Wy14 (Ne.symm ney19)), ney7_0, ney7_1, ney7_2⟩
theorem pn_41 : plainName "java/util/Arrays" = true := by first | (simp [plainName, overriddenIn]; done) | decide +kernel
theorem d41_0 : decode jdk_65_method_30_code 0 = .ok (.iload_n 1, 1) := by decide +kernel
theorem d41_1 : decode jdk_65_method_30_code 1 = .ok (.iload_n 2, 1) := by decide +kernel
theorem d41_2 : decode jdk_65_method_30_code 2 = .ok (.if_icmp .le 44, 3) := by decide +kernel
theorem d41_46 : decode jdk_65_method_30_code 46 = .ok (.iload_n 1, 1) := by decide +kernel
theorem d41_47 : decode jdk_65_method_30_code 47 = .ok (.ifCond .ge 12, 3) := by decide +kernel
theorem d41_59 : decode jdk_65_method_30_code 59 = .ok (.iload_n 2, 1) := by decide +kernel
theorem d41_60 : decode jdk_65_method_30_code 60 = .ok (.iload_n 0, 1) := by decide +kernel
theorem d41_61 : decode jdk_65_method_30_code 61 = .ok (.if_icmp .le 12, 3) := by decide +kernel
theorem d41_73 : decode jdk_65_method_30_code 73 = .ok (.return_, 1) := by decide +kernel
theorem ef_rmrc01 (m : MethodId)  : entryFrame m #[(.int (4 : Int32)), (.int (0 : Int32)), (.int (1 : Int32))] 3 = mkF m 0 #[.val (.int (4 : Int32)), .val (.int (0 : Int32)), .val (.int (1 : Int32))] [] := by first | (simp [entryFrame, mkF, argsToLocals, Value.category]; done) | rfl
abbrev R_rmrc01 : Room := ({ frames := 0, cells := 0, slots := 0, locals := 0 } : Room)
def Qrc01 (Z : State)  (h0 : Heap) (n0 : Nat) (v : Option Value) (h : Heap) (L : List Loc) : Prop := v = none ∧ Fr n0 L ∧ h = h0
set_option maxRecDepth 65536 in
set_option maxHeartbeats 40000000 in
theorem rmrc01 (l : Launch) (Z : State) (a0 : Array Value) (hw : ∀ d ∈ tables_1, d.before a0 Z = true) (ws : List Jvm.Cond)  (h0 : Heap) (n0 : Nat) (Z0 : n0 ≤ h0.size) :
    Met1 l n41 jdk_65_method_30_code 3 none ws R_rmrc01 #[(.int 4), (.int 0), (.int 1)] Z h0 (Qrc01 Z  h0 n0) := by
  refine Met1.enter (plainFor_of_name pn_41) (fun m => ef_rmrc01 m ) fun p e s m below meth c s₁ hx hby hlk hret hml hown hnm hZ X0 e0 => ?_
  have N0 := Fr.nil n0
  have K0 : Keep h0 h0 [] := Keep.refl h0 _
  show Fin p e below s _ _ _ (s₁.setTop (mkF m 0 #[iv 4, iv 0, iv 1] []))
  refine Fin.step (fun _ k => Yo.iloadN X0.here hx (hb hby d41_0) rfl (Yo.iloadN X0.here hx (hb hby d41_1) rfl (Yo.icmpYes X0.here hx (pc0 := 2) (pc' := 46) rfl (hb hby d41_2) rfl (flt ((by decide) : ¬ ((1 : Int32) < (0 : Int32)))).2.2.2 (by decide) (by decide) (Yo.iloadN X0.here hx (hb hby d41_46) rfl (Yo.ifYes X0.here hx (pc0 := 47) (pc' := 59) rfl (hb hby d41_47) rfl ((if0 _ _).trans (flt ((by decide) : ¬ ((0 : Int32) < (0 : Int32)))).2.1) (by decide) (by decide) (Yo.iloadN X0.here hx (hb hby d41_59) rfl (Yo.iloadN X0.here hx (hb hby d41_60) rfl (Yo.icmpYes X0.here hx (pc0 := 61) (pc' := 73) rfl (hb hby d41_61) rfl (flt ((by decide) : ¬ ((4 : Int32) < (1 : Int32)))).2.2.2 (by decide) (by decide) k)))))))) ?_
  refine Fin.retV X0 hx hret hlk (hb hby d41_73) (by decide) (by decide) ?_
  show Qrc01 Z  h0 n0 _ s₁.heap _
  rw [e0]
  exact ⟨rfl, N0, rfl⟩
theorem pn_40 : plainName "java/util/Arrays" = true := by first | (simp [plainName, overriddenIn]; done) | decide +kernel
theorem d40_0 : decode jdk_65_method_118_code 0 = .ok (.aload_n 0, 1) := by decide +kernel
theorem d40_1 : decode jdk_65_method_118_code 1 = .ok (.arraylength, 1) := by decide +kernel
theorem d40_2 : decode jdk_65_method_118_code 2 = .ok (.iload_n 1, 1) := by decide +kernel
theorem d40_3 : decode jdk_65_method_118_code 3 = .ok (.iload_n 2, 1) := by decide +kernel
theorem d40_4 : decode jdk_65_method_118_code 4 = .ok (.invokestatic 13, 3) := by decide +kernel
theorem pd_16 : parseMethodDescriptor "(III)V" = some ⟨[.int, .int, .int], none⟩ := by decide +kernel
theorem d40_7 : decode jdk_65_method_118_code 7 = .ok (.iload_n 1, 1) := by decide +kernel
theorem d40_8 : decode jdk_65_method_118_code 8 = .ok (.istore 4, 2) := by decide +kernel
theorem d40_10 : decode jdk_65_method_118_code 10 = .ok (.iload 4, 2) := by decide +kernel
theorem d40_12 : decode jdk_65_method_118_code 12 = .ok (.iload_n 2, 1) := by decide +kernel
theorem d40_13 : decode jdk_65_method_118_code 13 = .ok (.if_icmp .ge 14, 3) := by decide +kernel
theorem d40_16 : decode jdk_65_method_118_code 16 = .ok (.aload_n 0, 1) := by decide +kernel
theorem d40_17 : decode jdk_65_method_118_code 17 = .ok (.iload 4, 2) := by decide +kernel
theorem d40_19 : decode jdk_65_method_118_code 19 = .ok (.aload_n 3, 1) := by decide +kernel
theorem d40_20 : decode jdk_65_method_118_code 20 = .ok (.aastore, 1) := by decide +kernel
theorem d40_21 : decode jdk_65_method_118_code 21 = .ok (.iinc 4 1, 3) := by decide +kernel
theorem d40_24 : decode jdk_65_method_118_code 24 = .ok (.goto (-14), 3) := by decide +kernel
theorem d40_27 : decode jdk_65_method_118_code 27 = .ok (.return_, 1) := by decide +kernel
theorem ef_rmfl01 (m : MethodId) (x0 : Addr) : entryFrame m #[(.ref x0), (.int (0 : Int32)), (.int (1 : Int32)), .null] 5 = mkF m 0 #[.val (.ref x0), .val (.int (0 : Int32)), .val (.int (1 : Int32)), .val .null, .unset] [] := by first | (simp [entryFrame, mkF, argsToLocals, Value.category]; done) | rfl
abbrev R_rmfl01 : Room := ({ frames := 1, cells := 0, slots := 0, locals := 14 } : Room)
def Qfl01 (Z : State) (ao : Addr) (ko : ClassId) (el0 el1 el2 el3 : Value) (h0 : Heap) (n0 : Nat) (v : Option Value) (h : Heap) (L : List Loc) : Prop := v = none ∧ Fr n0 L ∧ Keep h0 h [ao] ∧ Arv Z h ao ko (.object "com/example/uzor/uzor/StringValues$Value") (4 : Int32) [.null, el1, el2, el3] .null
set_option maxRecDepth 65536 in
set_option maxHeartbeats 40000000 in
theorem rmfl01 (l : Launch) (Z : State) (a0 : Array Value) (hw : ∀ d ∈ tables_1, d.before a0 Z = true) (ws : List Jvm.Cond) (ao : Addr) (ko : ClassId) (el0 el1 el2 el3 : Value) (h0 : Heap) (n0 : Nat) (Z0 : n0 ≤ h0.size) (HV_ao : Arv Z h0 ao ko (.object "com/example/uzor/uzor/StringValues$Value") (4 : Int32) [el0, el1, el2, el3] .null) (g_ao : n0 ≤ ao) :
    Met1 l n40 jdk_65_method_118_code 5 none ws R_rmfl01 #[(.ref ao), (.int 0), (.int 1), .null] Z h0 (Qfl01 Z ao ko el0 el1 el2 el3 h0 n0) := by
  refine Met1.enter (plainFor_of_name pn_40) (fun m => ef_rmfl01 m ao) fun p e s m below meth c s₁ hx hby hlk hret hml hown hnm hZ X0 e0 => ?_
  have N0 := Fr.nil n0
  have K0 := Keep.refl h0 [ao]
  show Fin p e below s _ _ _ (s₁.setTop (mkF m 0 #[rv ao, iv 0, iv 1, .val .null, .unset] []))
  refine Fin.step (fun _ k => Yo.aloadN X0.here hx (hb hby d40_0) rfl rfl k) ?_
  have voy1 := HV_ao
  obtain ⟨cly1, Ary1, qay1, say1, nay1, hay1, gay1⟩ := voy1
  refine Fin.step (X0.arraylength hx (by rw [e0]; exact Ary1.1) (State.isArrayOf_alike hZ.alike Ary1.2.1) (g := (mkF m 1 #[rv ao, iv 0, iv 1, .val .null, .unset] [(.ref ao)])) rfl rfl (hb hby d40_1)) ?_
  rw [len_of say1 nay1]
  show Fin p e below s _ _ _ (s₁.setTop (mkF m 2 #[rv ao, iv 0, iv 1, .val .null, .unset] [(.int 4)]))
  refine Fin.step (fun _ k => Yo.iloadN X0.here hx (hb hby d40_2) rfl (Yo.iloadN X0.here hx (hb hby d40_3) rfl k)) ?_
  obtain ⟨_, Ty2, Lcy2, Xy2, hQy2, sty2⟩ := packS (Jvm.LawKit.callS X0 hx (y := n41) hown (mvT hZ (W_ hw 224)) (mvT hZ (W_ hw 225)) (mvT hZ (W_ hw 160)) (mvT hZ (W_ hw 226)) (by decide) (backOf (W := 0) (rmrc01 l Z a0 hw []  h0 n0 Z0 ) hZ (W_ hw 226) (W_ hw 160) (by decide) (by decide)) (g := (mkF m 4 #[rv ao, iv 0, iv 1, .val .null, .unset] [(.int 1), (.int 0), (.int 4)])) rfl (by rw [hml]; rfl) (argsL := [(.int 4), (.int 0), (.int 1)]) (rest := []) (lenOf pd_16 rfl) rfl (lb rfl) (hb hby d40_4) (fun _ _ => ⟨rfl, e0, (by decide : 0 + 0 ≤ _), (by decide : 0 + 0 ≤ _)⟩))
  obtain ⟨rfl, Nqy2, eqy2⟩ := hQy2
  have Ny2 := Fr.app N0 Nqy2
  refine Fin.step (sty2) ?_
  show Fin p e below s _ _ _ (Ty2.setTop (mkF m 7 #[rv ao, iv 0, iv 1, .val .null, .unset] []))
  refine Fin.step (fun _ k => Yo.iloadN Xy2.here hx (hb hby d40_7) rfl (Yo.istore Xy2.here hx (hb hby d40_8) rfl (l' := #[rv ao, iv 0, iv 1, .val .null, iv 0]) rfl (Yo.iload Xy2.here hx (hb hby d40_10) rfl (Yo.iloadN Xy2.here hx (hb hby d40_12) rfl (Yo.icmpNo Xy2.here hx (hb hby d40_13) rfl (tlt ((by decide) : ((0 : Int32) < (1 : Int32)))).2.1 (Yo.aloadN Xy2.here hx (hb hby d40_16) rfl rfl (Yo.iload Xy2.here hx (hb hby d40_17) rfl (Yo.aloadN Xy2.here hx (hb hby d40_19) rfl rfl k)))))))) ?_
  have voy3 := HV_ao
  obtain ⟨cly3, Ary3, qay3, say3, nay3, hay3, gay3⟩ := voy3
  obtain ⟨Ty3, hy3, Xy3, ey3, Wy3, sty3⟩ := stR Xy2 hx hZ eqy2 Ary3 (j := (0 : Int32)) (inb_of say3 ⟨by decide, by decide⟩) rfl (Or.inl rfl) (g := (mkF m 20 #[rv ao, iv 0, iv 1, .val .null, iv 0] [.null, (.int 0), (.ref ao)])) rfl rfl (hb hby d40_20)
  have Vy3 : Arv Z hy3 ao ko (.object "com/example/uzor/uzor/StringValues$Value") (4 : Int32) [.null, el1, el2, el3] .null := Arv.set Ary3 qay3 say3 nay3 hay3 gay3 rfl Wy3 0 rfl (Nat.le_of_ble_eq_true rfl)
  have Zy3 : n0 ≤ hy3.size := Nat.le_trans Z0 (Keep.of_wr Wy3).1
  have Ky3 : Keep h0 hy3 [ao] := K0.wr Wy3 m0
  have Ny3 := Fr.snoc Xy3 Ny2 g_ao
  refine Fin.step (sty3) ?_
  show Fin p e below s _ _ _ (Ty3.setTop (mkF m 21 #[rv ao, iv 0, iv 1, .val .null, iv 0] []))
  refine Fin.step (fun _ k => Yo.iinc Xy3.here hx (hb hby d40_21) rfl (l' := #[rv ao, iv 0, iv 1, .val .null, iv 1]) rfl k) ?_
  show Fin p e below s _ _ _ (Ty3.setTop (mkF m 24 #[rv ao, iv 0, iv 1, .val .null, iv 1] []))
  refine Fin.step (fun _ k => Yo.goto Xy3.here hx (pc0 := 24) (pc' := 10) rfl (hb hby d40_24) (by decide) (by decide) (Yo.iload Xy3.here hx (hb hby d40_10) rfl (Yo.iloadN Xy3.here hx (hb hby d40_12) rfl (Yo.icmpYes Xy3.here hx (pc0 := 13) (pc' := 27) rfl (hb hby d40_13) rfl (flt ((by decide) : ¬ ((1 : Int32) < (1 : Int32)))).2.1 (by decide) (by decide) k)))) ?_
  refine Fin.retV Xy3 hx hret hlk (hb hby d40_27) (by decide) (by decide) ?_
  show Qfl01 Z ao ko el0 el1 el2 el3 h0 n0 _ Ty3.heap _
  rw [ey3]
  exact ⟨rfl, Ny3, Ky3, Vy3⟩
theorem ef_rmrc12 (m : MethodId)  : entryFrame m #[(.int (4 : Int32)), (.int (1 : Int32)), (.int (2 : Int32))] 3 = mkF m 0 #[.val (.int (4 : Int32)), .val (.int (1 : Int32)), .val (.int (2 : Int32))] [] := by first | (simp [entryFrame, mkF, argsToLocals, Value.category]; done) | rfl
abbrev R_rmrc12 : Room := ({ frames := 0, cells := 0, slots := 0, locals := 0 } : Room)
def Qrc12 (Z : State)  (h0 : Heap) (n0 : Nat) (v : Option Value) (h : Heap) (L : List Loc) : Prop := v = none ∧ Fr n0 L ∧ h = h0
set_option maxRecDepth 65536 in
set_option maxHeartbeats 40000000 in
theorem rmrc12 (l : Launch) (Z : State) (a0 : Array Value) (hw : ∀ d ∈ tables_1, d.before a0 Z = true) (ws : List Jvm.Cond)  (h0 : Heap) (n0 : Nat) (Z0 : n0 ≤ h0.size) :
    Met1 l n41 jdk_65_method_30_code 3 none ws R_rmrc12 #[(.int 4), (.int 1), (.int 2)] Z h0 (Qrc12 Z  h0 n0) := by
  refine Met1.enter (plainFor_of_name pn_41) (fun m => ef_rmrc12 m ) fun p e s m below meth c s₁ hx hby hlk hret hml hown hnm hZ X0 e0 => ?_
  have N0 := Fr.nil n0
  have K0 : Keep h0 h0 [] := Keep.refl h0 _
  show Fin p e below s _ _ _ (s₁.setTop (mkF m 0 #[iv 4, iv 1, iv 2] []))
  refine Fin.step (fun _ k => Yo.iloadN X0.here hx (hb hby d41_0) rfl (Yo.iloadN X0.here hx (hb hby d41_1) rfl (Yo.icmpYes X0.here hx (pc0 := 2) (pc' := 46) rfl (hb hby d41_2) rfl (flt ((by decide) : ¬ ((2 : Int32) < (1 : Int32)))).2.2.2 (by decide) (by decide) (Yo.iloadN X0.here hx (hb hby d41_46) rfl (Yo.ifYes X0.here hx (pc0 := 47) (pc' := 59) rfl (hb hby d41_47) rfl ((if0 _ _).trans (flt ((by decide) : ¬ ((1 : Int32) < (0 : Int32)))).2.1) (by decide) (by decide) (Yo.iloadN X0.here hx (hb hby d41_59) rfl (Yo.iloadN X0.here hx (hb hby d41_60) rfl (Yo.icmpYes X0.here hx (pc0 := 61) (pc' := 73) rfl (hb hby d41_61) rfl (flt ((by decide) : ¬ ((4 : Int32) < (2 : Int32)))).2.2.2 (by decide) (by decide) k)))))))) ?_
  refine Fin.retV X0 hx hret hlk (hb hby d41_73) (by decide) (by decide) ?_
  show Qrc12 Z  h0 n0 _ s₁.heap _
  rw [e0]
  exact ⟨rfl, N0, rfl⟩
theorem ef_rmfl12 (m : MethodId) (x0 : Addr) : entryFrame m #[(.ref x0), (.int (1 : Int32)), (.int (2 : Int32)), .null] 5 = mkF m 0 #[.val (.ref x0), .val (.int (1 : Int32)), .val (.int (2 : Int32)), .val .null, .unset] [] := by first | (simp [entryFrame, mkF, argsToLocals, Value.category]; done) | rfl
abbrev R_rmfl12 : Room := ({ frames := 1, cells := 0, slots := 0, locals := 14 } : Room)
def Qfl12 (Z : State) (ao : Addr) (ko : ClassId) (el0 el1 el2 el3 : Value) (h0 : Heap) (n0 : Nat) (v : Option Value) (h : Heap) (L : List Loc) : Prop := v = none ∧ Fr n0 L ∧ Keep h0 h [ao] ∧ Arv Z h ao ko (.object "com/example/uzor/uzor/StringValues$Value") (4 : Int32) [el0, .null, el2, el3] .null
set_option maxRecDepth 65536 in
set_option maxHeartbeats 40000000 in
theorem rmfl12 (l : Launch) (Z : State) (a0 : Array Value) (hw : ∀ d ∈ tables_1, d.before a0 Z = true) (ws : List Jvm.Cond) (ao : Addr) (ko : ClassId) (el0 el1 el2 el3 : Value) (h0 : Heap) (n0 : Nat) (Z0 : n0 ≤ h0.size) (HV_ao : Arv Z h0 ao ko (.object "com/example/uzor/uzor/StringValues$Value") (4 : Int32) [el0, el1, el2, el3] .null) (g_ao : n0 ≤ ao) :
    Met1 l n40 jdk_65_method_118_code 5 none ws R_rmfl12 #[(.ref ao), (.int 1), (.int 2), .null] Z h0 (Qfl12 Z ao ko el0 el1 el2 el3 h0 n0) := by
  refine Met1.enter (plainFor_of_name pn_40) (fun m => ef_rmfl12 m ao) fun p e s m below meth c s₁ hx hby hlk hret hml hown hnm hZ X0 e0 => ?_
  have N0 := Fr.nil n0
  have K0 := Keep.refl h0 [ao]
  show Fin p e below s _ _ _ (s₁.setTop (mkF m 0 #[rv ao, iv 1, iv 2, .val .null, .unset] []))
  refine Fin.step (fun _ k => Yo.aloadN X0.here hx (hb hby d40_0) rfl rfl k) ?_
  have voy1 := HV_ao
  obtain ⟨cly1, Ary1, qay1, say1, nay1, hay1, gay1⟩ := voy1
  refine Fin.step (X0.arraylength hx (by rw [e0]; exact Ary1.1) (State.isArrayOf_alike hZ.alike Ary1.2.1) (g := (mkF m 1 #[rv ao, iv 1, iv 2, .val .null, .unset] [(.ref ao)])) rfl rfl (hb hby d40_1)) ?_
  rw [len_of say1 nay1]
  show Fin p e below s _ _ _ (s₁.setTop (mkF m 2 #[rv ao, iv 1, iv 2, .val .null, .unset] [(.int 4)]))
  refine Fin.step (fun _ k => Yo.iloadN X0.here hx (hb hby d40_2) rfl (Yo.iloadN X0.here hx (hb hby d40_3) rfl k)) ?_
  obtain ⟨_, Ty2, Lcy2, Xy2, hQy2, sty2⟩ := packS (Jvm.LawKit.callS X0 hx (y := n41) hown (mvT hZ (W_ hw 224)) (mvT hZ (W_ hw 225)) (mvT hZ (W_ hw 160)) (mvT hZ (W_ hw 226)) (by decide) (backOf (W := 0) (rmrc12 l Z a0 hw []  h0 n0 Z0 ) hZ (W_ hw 226) (W_ hw 160) (by decide) (by decide)) (g := (mkF m 4 #[rv ao, iv 1, iv 2, .val .null, .unset] [(.int 2), (.int 1), (.int 4)])) rfl (by rw [hml]; rfl) (argsL := [(.int 4), (.int 1), (.int 2)]) (rest := []) (lenOf pd_16 rfl) rfl (lb rfl) (hb hby d40_4) (fun _ _ => ⟨rfl, e0, (by decide : 0 + 0 ≤ _), (by decide : 0 + 0 ≤ _)⟩))
  obtain ⟨rfl, Nqy2, eqy2⟩ := hQy2
  have Ny2 := Fr.app N0 Nqy2
  refine Fin.step (sty2) ?_
  show Fin p e below s _ _ _ (Ty2.setTop (mkF m 7 #[rv ao, iv 1, iv 2, .val .null, .unset] []))
  refine Fin.step (fun _ k => Yo.iloadN Xy2.here hx (hb hby d40_7) rfl (Yo.istore Xy2.here hx (hb hby d40_8) rfl (l' := #[rv ao, iv 1, iv 2, .val .null, iv 1]) rfl (Yo.iload Xy2.here hx (hb hby d40_10) rfl (Yo.iloadN Xy2.here hx (hb hby d40_12) rfl (Yo.icmpNo Xy2.here hx (hb hby d40_13) rfl (tlt ((by decide) : ((1 : Int32) < (2 : Int32)))).2.1 (Yo.aloadN Xy2.here hx (hb hby d40_16) rfl rfl (Yo.iload Xy2.here hx (hb hby d40_17) rfl (Yo.aloadN Xy2.here hx (hb hby d40_19) rfl rfl k)))))))) ?_
  have voy3 := HV_ao
  obtain ⟨cly3, Ary3, qay3, say3, nay3, hay3, gay3⟩ := voy3
  obtain ⟨Ty3, hy3, Xy3, ey3, Wy3, sty3⟩ := stR Xy2 hx hZ eqy2 Ary3 (j := (1 : Int32)) (inb_of say3 ⟨by decide, by decide⟩) rfl (Or.inl rfl) (g := (mkF m 20 #[rv ao, iv 1, iv 2, .val .null, iv 1] [.null, (.int 1), (.ref ao)])) rfl rfl (hb hby d40_20)
  have Vy3 : Arv Z hy3 ao ko (.object "com/example/uzor/uzor/StringValues$Value") (4 : Int32) [el0, .null, el2, el3] .null := Arv.set Ary3 qay3 say3 nay3 hay3 gay3 rfl Wy3 1 rfl (Nat.le_of_ble_eq_true rfl)
  have Zy3 : n0 ≤ hy3.size := Nat.le_trans Z0 (Keep.of_wr Wy3).1
  have Ky3 : Keep h0 hy3 [ao] := K0.wr Wy3 m0
  have Ny3 := Fr.snoc Xy3 Ny2 g_ao
  refine Fin.step (sty3) ?_
  show Fin p e below s _ _ _ (Ty3.setTop (mkF m 21 #[rv ao, iv 1, iv 2, .val .null, iv 1] []))
  refine Fin.step (fun _ k => Yo.iinc Xy3.here hx (hb hby d40_21) rfl (l' := #[rv ao, iv 1, iv 2, .val .null, iv 2]) rfl k) ?_
  show Fin p e below s _ _ _ (Ty3.setTop (mkF m 24 #[rv ao, iv 1, iv 2, .val .null, iv 2] []))
  refine Fin.step (fun _ k => Yo.goto Xy3.here hx (pc0 := 24) (pc' := 10) rfl (hb hby d40_24) (by decide) (by decide) (Yo.iload Xy3.here hx (hb hby d40_10) rfl (Yo.iloadN Xy3.here hx (hb hby d40_12) rfl (Yo.icmpYes Xy3.here hx (pc0 := 13) (pc' := 27) rfl (hb hby d40_13) rfl (flt ((by decide) : ¬ ((2 : Int32) < (2 : Int32)))).2.1 (by decide) (by decide) k)))) ?_
  refine Fin.retV Xy3 hx hret hlk (hb hby d40_27) (by decide) (by decide) ?_
  show Qfl12 Z ao ko el0 el1 el2 el3 h0 n0 _ Ty3.heap _
  rw [ey3]
  exact ⟨rfl, Ny3, Ky3, Vy3⟩
theorem ef_rmrc02 (m : MethodId)  : entryFrame m #[(.int (4 : Int32)), (.int (0 : Int32)), (.int (2 : Int32))] 3 = mkF m 0 #[.val (.int (4 : Int32)), .val (.int (0 : Int32)), .val (.int (2 : Int32))] [] := by first | (simp [entryFrame, mkF, argsToLocals, Value.category]; done) | rfl
abbrev R_rmrc02 : Room := ({ frames := 0, cells := 0, slots := 0, locals := 0 } : Room)
def Qrc02 (Z : State)  (h0 : Heap) (n0 : Nat) (v : Option Value) (h : Heap) (L : List Loc) : Prop := v = none ∧ Fr n0 L ∧ h = h0
set_option maxRecDepth 65536 in
set_option maxHeartbeats 40000000 in
theorem rmrc02 (l : Launch) (Z : State) (a0 : Array Value) (hw : ∀ d ∈ tables_1, d.before a0 Z = true) (ws : List Jvm.Cond)  (h0 : Heap) (n0 : Nat) (Z0 : n0 ≤ h0.size) :
    Met1 l n41 jdk_65_method_30_code 3 none ws R_rmrc02 #[(.int 4), (.int 0), (.int 2)] Z h0 (Qrc02 Z  h0 n0) := by
  refine Met1.enter (plainFor_of_name pn_41) (fun m => ef_rmrc02 m ) fun p e s m below meth c s₁ hx hby hlk hret hml hown hnm hZ X0 e0 => ?_
  have N0 := Fr.nil n0
  have K0 : Keep h0 h0 [] := Keep.refl h0 _
  show Fin p e below s _ _ _ (s₁.setTop (mkF m 0 #[iv 4, iv 0, iv 2] []))
  refine Fin.step (fun _ k => Yo.iloadN X0.here hx (hb hby d41_0) rfl (Yo.iloadN X0.here hx (hb hby d41_1) rfl (Yo.icmpYes X0.here hx (pc0 := 2) (pc' := 46) rfl (hb hby d41_2) rfl (flt ((by decide) : ¬ ((2 : Int32) < (0 : Int32)))).2.2.2 (by decide) (by decide) (Yo.iloadN X0.here hx (hb hby d41_46) rfl (Yo.ifYes X0.here hx (pc0 := 47) (pc' := 59) rfl (hb hby d41_47) rfl ((if0 _ _).trans (flt ((by decide) : ¬ ((0 : Int32) < (0 : Int32)))).2.1) (by decide) (by decide) (Yo.iloadN X0.here hx (hb hby d41_59) rfl (Yo.iloadN X0.here hx (hb hby d41_60) rfl (Yo.icmpYes X0.here hx (pc0 := 61) (pc' := 73) rfl (hb hby d41_61) rfl (flt ((by decide) : ¬ ((4 : Int32) < (2 : Int32)))).2.2.2 (by decide) (by decide) k)))))))) ?_
  refine Fin.retV X0 hx hret hlk (hb hby d41_73) (by decide) (by decide) ?_
  show Qrc02 Z  h0 n0 _ s₁.heap _
  rw [e0]
  exact ⟨rfl, N0, rfl⟩
theorem ef_rmfl02 (m : MethodId) (x0 : Addr) : entryFrame m #[(.ref x0), (.int (0 : Int32)), (.int (2 : Int32)), .null] 5 = mkF m 0 #[.val (.ref x0), .val (.int (0 : Int32)), .val (.int (2 : Int32)), .val .null, .unset] [] := by first | (simp [entryFrame, mkF, argsToLocals, Value.category]; done) | rfl
abbrev R_rmfl02 : Room := ({ frames := 1, cells := 0, slots := 0, locals := 14 } : Room)
def Qfl02 (Z : State) (ao : Addr) (ko : ClassId) (el0 el1 el2 el3 : Value) (h0 : Heap) (n0 : Nat) (v : Option Value) (h : Heap) (L : List Loc) : Prop := v = none ∧ Fr n0 L ∧ Keep h0 h [ao] ∧ Arv Z h ao ko (.object "com/example/uzor/uzor/StringValues$Value") (4 : Int32) [.null, .null, el2, el3] .null
set_option maxRecDepth 65536 in
set_option maxHeartbeats 40000000 in
theorem rmfl02 (l : Launch) (Z : State) (a0 : Array Value) (hw : ∀ d ∈ tables_1, d.before a0 Z = true) (ws : List Jvm.Cond) (ao : Addr) (ko : ClassId) (el0 el1 el2 el3 : Value) (h0 : Heap) (n0 : Nat) (Z0 : n0 ≤ h0.size) (HV_ao : Arv Z h0 ao ko (.object "com/example/uzor/uzor/StringValues$Value") (4 : Int32) [el0, el1, el2, el3] .null) (g_ao : n0 ≤ ao) :
    Met1 l n40 jdk_65_method_118_code 5 none ws R_rmfl02 #[(.ref ao), (.int 0), (.int 2), .null] Z h0 (Qfl02 Z ao ko el0 el1 el2 el3 h0 n0) := by
  refine Met1.enter (plainFor_of_name pn_40) (fun m => ef_rmfl02 m ao) fun p e s m below meth c s₁ hx hby hlk hret hml hown hnm hZ X0 e0 => ?_
  have N0 := Fr.nil n0
  have K0 := Keep.refl h0 [ao]
  show Fin p e below s _ _ _ (s₁.setTop (mkF m 0 #[rv ao, iv 0, iv 2, .val .null, .unset] []))
  refine Fin.step (fun _ k => Yo.aloadN X0.here hx (hb hby d40_0) rfl rfl k) ?_
  have voy1 := HV_ao
  obtain ⟨cly1, Ary1, qay1, say1, nay1, hay1, gay1⟩ := voy1
  refine Fin.step (X0.arraylength hx (by rw [e0]; exact Ary1.1) (State.isArrayOf_alike hZ.alike Ary1.2.1) (g := (mkF m 1 #[rv ao, iv 0, iv 2, .val .null, .unset] [(.ref ao)])) rfl rfl (hb hby d40_1)) ?_
  rw [len_of say1 nay1]
  show Fin p e below s _ _ _ (s₁.setTop (mkF m 2 #[rv ao, iv 0, iv 2, .val .null, .unset] [(.int 4)]))
  refine Fin.step (fun _ k => Yo.iloadN X0.here hx (hb hby d40_2) rfl (Yo.iloadN X0.here hx (hb hby d40_3) rfl k)) ?_
  obtain ⟨_, Ty2, Lcy2, Xy2, hQy2, sty2⟩ := packS (Jvm.LawKit.callS X0 hx (y := n41) hown (mvT hZ (W_ hw 224)) (mvT hZ (W_ hw 225)) (mvT hZ (W_ hw 160)) (mvT hZ (W_ hw 226)) (by decide) (backOf (W := 0) (rmrc02 l Z a0 hw []  h0 n0 Z0 ) hZ (W_ hw 226) (W_ hw 160) (by decide) (by decide)) (g := (mkF m 4 #[rv ao, iv 0, iv 2, .val .null, .unset] [(.int 2), (.int 0), (.int 4)])) rfl (by rw [hml]; rfl) (argsL := [(.int 4), (.int 0), (.int 2)]) (rest := []) (lenOf pd_16 rfl) rfl (lb rfl) (hb hby d40_4) (fun _ _ => ⟨rfl, e0, (by decide : 0 + 0 ≤ _), (by decide : 0 + 0 ≤ _)⟩))
  obtain ⟨rfl, Nqy2, eqy2⟩ := hQy2
  have Ny2 := Fr.app N0 Nqy2
  refine Fin.step (sty2) ?_
  show Fin p e below s _ _ _ (Ty2.setTop (mkF m 7 #[rv ao, iv 0, iv 2, .val .null, .unset] []))
  refine Fin.step (fun _ k => Yo.iloadN Xy2.here hx (hb hby d40_7) rfl (Yo.istore Xy2.here hx (hb hby d40_8) rfl (l' := #[rv ao, iv 0, iv 2, .val .null, iv 0]) rfl (Yo.iload Xy2.here hx (hb hby d40_10) rfl (Yo.iloadN Xy2.here hx (hb hby d40_12) rfl (Yo.icmpNo Xy2.here hx (hb hby d40_13) rfl (tlt ((by decide) : ((0 : Int32) < (2 : Int32)))).2.1 (Yo.aloadN Xy2.here hx (hb hby d40_16) rfl rfl (Yo.iload Xy2.here hx (hb hby d40_17) rfl (Yo.aloadN Xy2.here hx (hb hby d40_19) rfl rfl k)))))))) ?_
  have voy3 := HV_ao
  obtain ⟨cly3, Ary3, qay3, say3, nay3, hay3, gay3⟩ := voy3
  obtain ⟨Ty3, hy3, Xy3, ey3, Wy3, sty3⟩ := stR Xy2 hx hZ eqy2 Ary3 (j := (0 : Int32)) (inb_of say3 ⟨by decide, by decide⟩) rfl (Or.inl rfl) (g := (mkF m 20 #[rv ao, iv 0, iv 2, .val .null, iv 0] [.null, (.int 0), (.ref ao)])) rfl rfl (hb hby d40_20)
  have Vy3 : Arv Z hy3 ao ko (.object "com/example/uzor/uzor/StringValues$Value") (4 : Int32) [.null, el1, el2, el3] .null := Arv.set Ary3 qay3 say3 nay3 hay3 gay3 rfl Wy3 0 rfl (Nat.le_of_ble_eq_true rfl)
  have Zy3 : n0 ≤ hy3.size := Nat.le_trans Z0 (Keep.of_wr Wy3).1
  have Ky3 : Keep h0 hy3 [ao] := K0.wr Wy3 m0
  have Ny3 := Fr.snoc Xy3 Ny2 g_ao
  refine Fin.step (sty3) ?_
  show Fin p e below s _ _ _ (Ty3.setTop (mkF m 21 #[rv ao, iv 0, iv 2, .val .null, iv 0] []))
  refine Fin.step (fun _ k => Yo.iinc Xy3.here hx (hb hby d40_21) rfl (l' := #[rv ao, iv 0, iv 2, .val .null, iv 1]) rfl k) ?_
  show Fin p e below s _ _ _ (Ty3.setTop (mkF m 24 #[rv ao, iv 0, iv 2, .val .null, iv 1] []))
  refine Fin.step (fun _ k => Yo.goto Xy3.here hx (pc0 := 24) (pc' := 10) rfl (hb hby d40_24) (by decide) (by decide) (Yo.iload Xy3.here hx (hb hby d40_10) rfl (Yo.iloadN Xy3.here hx (hb hby d40_12) rfl (Yo.icmpNo Xy3.here hx (hb hby d40_13) rfl (tlt ((by decide) : ((1 : Int32) < (2 : Int32)))).2.1 (Yo.aloadN Xy3.here hx (hb hby d40_16) rfl rfl (Yo.iload Xy3.here hx (hb hby d40_17) rfl (Yo.aloadN Xy3.here hx (hb hby d40_19) rfl rfl k))))))) ?_
  have voy4 := Vy3
  obtain ⟨cly4, Ary4, qay4, say4, nay4, hay4, gay4⟩ := voy4
  obtain ⟨Ty4, hy4, Xy4, ey4, Wy4, sty4⟩ := stR Xy3 hx hZ ey3 Ary4 (j := (1 : Int32)) (inb_of say4 ⟨by decide, by decide⟩) rfl (Or.inl rfl) (g := (mkF m 20 #[rv ao, iv 0, iv 2, .val .null, iv 1] [.null, (.int 1), (.ref ao)])) rfl rfl (hb hby d40_20)
  have Vy4 : Arv Z hy4 ao ko (.object "com/example/uzor/uzor/StringValues$Value") (4 : Int32) [.null, .null, el2, el3] .null := Arv.set Ary4 qay4 say4 nay4 hay4 gay4 rfl Wy4 1 rfl (Nat.le_of_ble_eq_true rfl)
  have Zy4 : n0 ≤ hy4.size := Nat.le_trans Zy3 (Keep.of_wr Wy4).1
  have Ky4 : Keep h0 hy4 [ao] := Ky3.wr Wy4 m0
  have Ny4 := Fr.snoc Xy4 Ny3 g_ao
  refine Fin.step (sty4) ?_
  show Fin p e below s _ _ _ (Ty4.setTop (mkF m 21 #[rv ao, iv 0, iv 2, .val .null, iv 1] []))
  refine Fin.step (fun _ k => Yo.iinc Xy4.here hx (hb hby d40_21) rfl (l' := #[rv ao, iv 0, iv 2, .val .null, iv 2]) rfl k) ?_
  show Fin p e below s _ _ _ (Ty4.setTop (mkF m 24 #[rv ao, iv 0, iv 2, .val .null, iv 2] []))
  refine Fin.step (fun _ k => Yo.goto Xy4.here hx (pc0 := 24) (pc' := 10) rfl (hb hby d40_24) (by decide) (by decide) (Yo.iload Xy4.here hx (hb hby d40_10) rfl (Yo.iloadN Xy4.here hx (hb hby d40_12) rfl (Yo.icmpYes Xy4.here hx (pc0 := 13) (pc' := 27) rfl (hb hby d40_13) rfl (flt ((by decide) : ¬ ((2 : Int32) < (2 : Int32)))).2.1 (by decide) (by decide) k)))) ?_
  refine Fin.retV Xy4 hx hret hlk (hb hby d40_27) (by decide) (by decide) ?_
  show Qfl02 Z ao ko el0 el1 el2 el3 h0 n0 _ Ty4.heap _
  rw [ey4]
  exact ⟨rfl, Ny4, Ky4, Vy4⟩
theorem pn_39 : plainName "com/example/uzor/uzor/StringValues" = true := by first | (simp [plainName, overriddenIn]; done) | decide +kernel
theorem d39_0 : decode prog_34_method_4_code 0 = .ok (.iconst 0, 1) := by decide +kernel
theorem d39_1 : decode prog_34_method_4_code 1 = .ok (.istore_n 1, 1) := by decide +kernel
theorem d39_2 : decode prog_34_method_4_code 2 = .ok (.iconst 0, 1) := by decide +kernel
theorem d39_3 : decode prog_34_method_4_code 3 = .ok (.istore_n 2, 1) := by decide +kernel
theorem d39_4 : decode prog_34_method_4_code 4 = .ok (.iload_n 2, 1) := by decide +kernel
theorem d39_5 : decode prog_34_method_4_code 5 = .ok (.aload_n 0, 1) := by decide +kernel
theorem d39_6 : decode prog_34_method_4_code 6 = .ok (.getfield 19, 3) := by decide +kernel
theorem d39_9 : decode prog_34_method_4_code 9 = .ok (.if_icmp .ge 36, 3) := by decide +kernel
theorem d39_12 : decode prog_34_method_4_code 12 = .ok (.aload_n 0, 1) := by decide +kernel
theorem d39_13 : decode prog_34_method_4_code 13 = .ok (.getfield 9, 3) := by decide +kernel
theorem d39_16 : decode prog_34_method_4_code 16 = .ok (.iload_n 2, 1) := by decide +kernel
theorem d39_17 : decode prog_34_method_4_code 17 = .ok (.aaload, 1) := by decide +kernel
theorem d39_18 : decode prog_34_method_4_code 18 = .ok (.getfield 29, 3) := by decide +kernel
theorem d39_21 : decode prog_34_method_4_code 21 = .ok (.ifnull 18, 3) := by decide +kernel
theorem d39_39 : decode prog_34_method_4_code 39 = .ok (.iinc 2 1, 3) := by decide +kernel
theorem d39_42 : decode prog_34_method_4_code 42 = .ok (.goto (-38), 3) := by decide +kernel
theorem d39_45 : decode prog_34_method_4_code 45 = .ok (.aload_n 0, 1) := by decide +kernel
theorem d39_46 : decode prog_34_method_4_code 46 = .ok (.getfield 9, 3) := by decide +kernel
theorem d39_49 : decode prog_34_method_4_code 49 = .ok (.iload_n 1, 1) := by decide +kernel
theorem d39_50 : decode prog_34_method_4_code 50 = .ok (.aload_n 0, 1) := by decide +kernel
theorem d39_51 : decode prog_34_method_4_code 51 = .ok (.getfield 19, 3) := by decide +kernel
theorem d39_54 : decode prog_34_method_4_code 54 = .ok (.aconst_null, 1) := by decide +kernel
theorem d39_55 : decode prog_34_method_4_code 55 = .ok (.invokestatic 33, 3) := by decide +kernel
theorem pd_17 : parseMethodDescriptor "([Ljava/lang/Object;IILjava/lang/Object;)V" = some ⟨[(.array (.object "java/lang/Object")), .int, .int, (.object "java/lang/Object")], none⟩ := by decide +kernel
theorem d39_58 : decode prog_34_method_4_code 58 = .ok (.aload_n 0, 1) := by decide +kernel
theorem d39_59 : decode prog_34_method_4_code 59 = .ok (.iload_n 1, 1) := by decide +kernel
theorem d39_60 : decode prog_34_method_4_code 60 = .ok (.putfield 19, 3) := by decide +kernel
theorem d39_63 : decode prog_34_method_4_code 63 = .ok (.return_, 1) := by decide +kernel
theorem ef_rmlo1 (m : MethodId) (x0 : Addr) : entryFrame m #[(.ref x0)] 3 = mkF m 0 #[.val (.ref x0), .unset, .unset] [] := by first | (simp [entryFrame, mkF, argsToLocals, Value.category]; done) | rfl
abbrev R_rmlo1 : Room := ({ frames := 2, cells := 0, slots := 0, locals := 30 } : Room)
def Qlo1 (Z : State) (a1 ao : Addr) (ko : ClassId) (dd : Int32) (x1 : Addr) (h0 : Heap) (n0 : Nat) (v : Option Value) (h : Heap) (L : List Loc) : Prop := v = none ∧ Fr n0 L ∧ Keep h0 h [a1, ao] ∧ Fld Z h a1 q1 "open" q9 (.ref ao) ∧ Fld Z h a1 q1 "depth" "I" (.int dd) ∧ Fld Z h a1 q1 "count" "I" (.int 0) ∧ Arv Z h ao ko (.object "com/example/uzor/uzor/StringValues$Value") (4 : Int32) [.null, .null, .null, .null] .null
set_option maxRecDepth 65536 in
set_option maxHeartbeats 40000000 in
theorem rmlo1 (l : Launch) (Z : State) (a0 : Array Value) (hw : ∀ d ∈ tables_1, d.before a0 Z = true) (ws : List Jvm.Cond) (a1 ao : Addr) (ko : ClassId) (dd : Int32) (x1 : Addr) (h0 : Heap) (n0 : Nat) (Z0 : n0 ≤ h0.size) (HE_a1 : Exa Z h0 a1 q1) (HF_a1_open : Fld Z h0 a1 q1 "open" q9 (.ref ao)) (HF_a1_depth : Fld Z h0 a1 q1 "depth" "I" (.int dd)) (HF_a1_count : Fld Z h0 a1 q1 "count" "I" (.int 1)) (HV_ao : Arv Z h0 ao ko (.object "com/example/uzor/uzor/StringValues$Value") (4 : Int32) [(.ref x1), .null, .null, .null] .null) (HE_x1 : Exa Z h0 x1 q0) (HF_x1_text : Fld Z h0 x1 q0 "text" q7 .null) (g_a1 : n0 ≤ a1) (g_ao : n0 ≤ ao) (hov : Ovr Z ko "com/example/uzor/uzor/StringValues$Value") (hn_a1_ao : a1 ≠ ao) (hn_x1_ao : x1 ≠ ao) (hn_x1_a1 : x1 ≠ a1) :
    Met1 l n39 prog_34_method_4_code 3 none ws R_rmlo1 #[(.ref a1)] Z h0 (Qlo1 Z a1 ao ko dd x1 h0 n0) := by
  refine Met1.enter (plainFor_of_name pn_39) (fun m => ef_rmlo1 m a1) fun p e s m below meth c s₁ hx hby hlk hret hml hown hnm hZ X0 e0 => ?_
  have N0 := Fr.nil n0
  have K0 := Keep.refl h0 [a1, ao]
  show Fin p e below s _ _ _ (s₁.setTop (mkF m 0 #[rv a1, .unset, .unset] []))
  refine Fin.step (fun _ k => Yo.iconst X0.here hx (hb hby d39_0) (Yo.istoreN X0.here hx (hb hby d39_1) rfl (l' := #[rv a1, iv 0, .unset]) rfl (Yo.iconst X0.here hx (hb hby d39_2) (Yo.istoreN X0.here hx (hb hby d39_3) rfl (l' := #[rv a1, iv 0, iv 0]) rfl (Yo.iloadN X0.here hx (hb hby d39_4) rfl (Yo.aloadN X0.here hx (hb hby d39_5) rfl rfl k)))))) ?_
  refine fget X0 hx hZ hown (W_ hw 26) e0 HF_a1_count (hb hby d39_6) fun Ty1 Xy1 ey1 => ?_
  refine Fin.step (fun _ k => Yo.icmpNo Xy1.here hx (hb hby d39_9) rfl (tlt ((by decide) : ((0 : Int32) < (1 : Int32)))).2.1 (Yo.aloadN Xy1.here hx (hb hby d39_12) rfl rfl k)) ?_
  refine fget Xy1 hx hZ hown (W_ hw 12) ey1 HF_a1_open (hb hby d39_13) fun Ty2 Xy2 ey2 => ?_
  refine Fin.step (fun _ k => Yo.iloadN Xy2.here hx (hb hby d39_16) rfl k) ?_
  refine fald Xy2 hx hZ ey2 HV_ao rfl (j := (0 : Int32)) (v := (.ref x1)) ⟨by decide, by decide⟩ rfl (hb hby d39_17) ?_
  refine Fin.step (getHot Xy2 hx hZ hown (W_ hw 220) ey2 HF_x1_text (g := (mkF m 18 #[rv a1, iv 0, iv 0] [(.ref x1)])) rfl rfl (hb hby d39_18)) ?_
  show Fin p e below s _ _ _ (Ty2.setTop (mkF m 21 #[rv a1, iv 0, iv 0] [.null]))
  refine Fin.step (fun _ k => Yo.ifnullYes Xy2.here hx (pc0 := 21) (pc' := 39) rfl (hb hby d39_21) rfl (by decide) (by decide) (Yo.iinc Xy2.here hx (hb hby d39_39) rfl (l' := #[rv a1, iv 0, iv 1]) rfl k)) ?_
  show Fin p e below s _ _ _ (Ty2.setTop (mkF m 42 #[rv a1, iv 0, iv 1] []))
  refine Fin.step (fun _ k => Yo.goto Xy2.here hx (pc0 := 42) (pc' := 4) rfl (hb hby d39_42) (by decide) (by decide) (Yo.iloadN Xy2.here hx (hb hby d39_4) rfl (Yo.aloadN Xy2.here hx (hb hby d39_5) rfl rfl k))) ?_
  refine fget Xy2 hx hZ hown (W_ hw 26) ey2 HF_a1_count (hb hby d39_6) fun Ty4 Xy4 ey4 => ?_
  refine Fin.step (fun _ k => Yo.icmpYes Xy4.here hx (pc0 := 9) (pc' := 45) rfl (hb hby d39_9) rfl (flt ((by decide) : ¬ ((1 : Int32) < (1 : Int32)))).2.1 (by decide) (by decide) (Yo.aloadN Xy4.here hx (hb hby d39_45) rfl rfl k)) ?_
  refine fget Xy4 hx hZ hown (W_ hw 12) ey4 HF_a1_open (hb hby d39_46) fun Ty5 Xy5 ey5 => ?_
  refine Fin.step (fun _ k => Yo.iloadN Xy5.here hx (hb hby d39_49) rfl (Yo.aloadN Xy5.here hx (hb hby d39_50) rfl rfl k)) ?_
  refine fget Xy5 hx hZ hown (W_ hw 26) ey5 HF_a1_count (hb hby d39_51) fun Ty6 Xy6 ey6 => ?_
  refine Fin.step (fun _ k => Yo.aconstNull Xy6.here hx (hb hby d39_54) k) ?_
  obtain ⟨_, Ty7, Lcy7, Xy7, hQy7, sty7⟩ := packS (Jvm.LawKit.callS Xy6 hx (y := n40) hown (mvT hZ (W_ hw 221)) (mvT hZ (W_ hw 222)) (mvT hZ (W_ hw 160)) (mvT hZ (W_ hw 223)) (by decide) (backOf (W := 0) (rmfl01 l Z a0 hw [] ao ko (.ref x1) .null .null .null h0 n0 Z0 HV_ao g_ao) hZ (W_ hw 223) (W_ hw 160) (by decide) (by decide)) (g := (mkF m 55 #[rv a1, iv 0, iv 1] [.null, (.int 1), (.int 0), (.ref ao)])) rfl (by rw [hml]; rfl) (argsL := [(.ref ao), (.int 0), (.int 1), .null]) (rest := []) (lenOf pd_17 rfl) rfl (lb rfl) (hb hby d39_55) (fun _ _ => ⟨rfl, ey6, (by decide : 0 + 0 ≤ _), (by decide : 0 + 0 ≤ _)⟩))
  obtain ⟨rfl, Nqy7, Kcy7, fy7_0⟩ := hQy7
  have Ny7 := Fr.app N0 Nqy7
  have Zy7 := Nat.le_trans Z0 Kcy7.1
  have Ky7 := K0.trans Kcy7 (allS m1 all0)
  refine Fin.step (sty7) ?_
  show Fin p e below s _ _ _ (Ty7.setTop (mkF m 58 #[rv a1, iv 0, iv 1] []))
  refine Fin.step (fun _ k => Yo.aloadN Xy7.here hx (hb hby d39_58) rfl rfl (Yo.iloadN Xy7.here hx (hb hby d39_59) rfl k)) ?_
  obtain ⟨Ty8, hy8, Xy8, ey8, Wy8, sty8⟩ := putF Xy7 hx hZ hown (host := "") (Or.inl (W_ hw 26)) Via.refl rfl (HF_a1_count.keep Kcy7 (ninS hn_a1_ao nin0)) (HE_a1.keep Kcy7) (Or.inl (W_ hw 27)) (W_ hw 2) (ty := .int) (by decide) rfl rfl (g := (mkF m 60 #[rv a1, iv 0, iv 1] [(.int 0), (.ref a1)])) rfl rfl (hb hby d39_60)
  have Fwy8 : Fld Z hy8 a1 q1 "count" "I" (.int 0) := (HF_a1_count.keep Kcy7 (ninS hn_a1_ao nin0)).same Wy8
  have Zy8 : n0 ≤ hy8.size := Nat.le_trans Zy7 (Keep.of_wr Wy8).1
  have Ky8 : Keep h0 hy8 [a1, ao] := Ky7.wr Wy8 m0
  have Ny8 := Fr.snoc Xy8 Ny7 g_a1
  refine Fin.step (sty8) ?_
  show Fin p e below s _ _ _ (Ty8.setTop (mkF m 63 #[rv a1, iv 0, iv 1] []))
  refine Fin.retV Xy8 hx hret hlk (hb hby d39_63) (by decide) (by decide) ?_
  show Qlo1 Z a1 ao ko dd x1 h0 n0 _ Ty8.heap _
  rw [ey8]
  exact ⟨rfl, Ny8, Ky8, ((HF_a1_open.keep Kcy7 (ninS hn_a1_ao nin0)).other Wy8 (Or.inr (slot_ne (Or.inl (W_ hw 13)) (Or.inl (W_ hw 27)) (by decide) (t := (.array (.object "com/example/uzor/uzor/StringValues$Value"))) (t' := .int) (by decide) (by decide)))), ((HF_a1_depth.keep Kcy7 (ninS hn_a1_ao nin0)).other Wy8 (Or.inr (slot_ne (Or.inl (W_ hw 20)) (Or.inl (W_ hw 27)) (by decide) (t := .int) (t' := .int) (by decide) (by decide)))), Fwy8, (fy7_0.other Wy8 (Ne.symm hn_a1_ao))⟩
theorem d39_24 : decode prog_34_method_4_code 24 = .ok (.aload_n 0, 1) := by decide +kernel
theorem d39_25 : decode prog_34_method_4_code 25 = .ok (.getfield 9, 3) := by decide +kernel
theorem d39_28 : decode prog_34_method_4_code 28 = .ok (.iload_n 1, 1) := by decide +kernel
theorem d39_29 : decode prog_34_method_4_code 29 = .ok (.iinc 1 1, 3) := by decide +kernel
theorem d39_32 : decode prog_34_method_4_code 32 = .ok (.aload_n 0, 1) := by decide +kernel
theorem d39_33 : decode prog_34_method_4_code 33 = .ok (.getfield 9, 3) := by decide +kernel
theorem d39_36 : decode prog_34_method_4_code 36 = .ok (.iload_n 2, 1) := by decide +kernel
theorem d39_37 : decode prog_34_method_4_code 37 = .ok (.aaload, 1) := by decide +kernel
theorem d39_38 : decode prog_34_method_4_code 38 = .ok (.aastore, 1) := by decide +kernel
theorem ef_rmlo01 (m : MethodId) (x0 : Addr) : entryFrame m #[(.ref x0)] 3 = mkF m 0 #[.val (.ref x0), .unset, .unset] [] := by first | (simp [entryFrame, mkF, argsToLocals, Value.category]; done) | rfl
abbrev R_rmlo01 : Room := ({ frames := 2, cells := 0, slots := 0, locals := 30 } : Room)
def Qlo01 (Z : State) (a1 ao : Addr) (ko : ClassId) (dd : Int32) (x1 x2 b2 : Addr) (h0 : Heap) (n0 : Nat) (v : Option Value) (h : Heap) (L : List Loc) : Prop := v = none ∧ Fr n0 L ∧ Keep h0 h [a1, ao] ∧ Fld Z h a1 q1 "open" q9 (.ref ao) ∧ Fld Z h a1 q1 "depth" "I" (.int dd) ∧ Fld Z h a1 q1 "count" "I" (.int 1) ∧ Arv Z h ao ko (.object "com/example/uzor/uzor/StringValues$Value") (4 : Int32) [(.ref x2), .null, .null, .null] .null
set_option maxRecDepth 65536 in
set_option maxHeartbeats 40000000 in
theorem rmlo01 (l : Launch) (Z : State) (a0 : Array Value) (hw : ∀ d ∈ tables_1, d.before a0 Z = true) (ws : List Jvm.Cond) (a1 ao : Addr) (ko : ClassId) (dd : Int32) (x1 x2 b2 : Addr) (h0 : Heap) (n0 : Nat) (Z0 : n0 ≤ h0.size) (HE_a1 : Exa Z h0 a1 q1) (HF_a1_open : Fld Z h0 a1 q1 "open" q9 (.ref ao)) (HF_a1_depth : Fld Z h0 a1 q1 "depth" "I" (.int dd)) (HF_a1_count : Fld Z h0 a1 q1 "count" "I" (.int 2)) (HV_ao : Arv Z h0 ao ko (.object "com/example/uzor/uzor/StringValues$Value") (4 : Int32) [(.ref x1), (.ref x2), .null, .null] .null) (HE_x1 : Exa Z h0 x1 q0) (HF_x1_text : Fld Z h0 x1 q0 "text" q7 .null) (HE_x2 : Exa Z h0 x2 q0) (HF_x2_text : Fld Z h0 x2 q0 "text" q7 (.ref b2)) (g_a1 : n0 ≤ a1) (g_ao : n0 ≤ ao) (hov : Ovr Z ko "com/example/uzor/uzor/StringValues$Value") (hn_a1_ao : a1 ≠ ao) (hn_x1_ao : x1 ≠ ao) (hn_x1_a1 : x1 ≠ a1) (hn_x2_ao : x2 ≠ ao) (hn_x2_a1 : x2 ≠ a1) :
    Met1 l n39 prog_34_method_4_code 3 none ws R_rmlo01 #[(.ref a1)] Z h0 (Qlo01 Z a1 ao ko dd x1 x2 b2 h0 n0) := by
  refine Met1.enter (plainFor_of_name pn_39) (fun m => ef_rmlo01 m a1) fun p e s m below meth c s₁ hx hby hlk hret hml hown hnm hZ X0 e0 => ?_
  have N0 := Fr.nil n0
  have K0 := Keep.refl h0 [a1, ao]
  show Fin p e below s _ _ _ (s₁.setTop (mkF m 0 #[rv a1, .unset, .unset] []))
  refine Fin.step (fun _ k => Yo.iconst X0.here hx (hb hby d39_0) (Yo.istoreN X0.here hx (hb hby d39_1) rfl (l' := #[rv a1, iv 0, .unset]) rfl (Yo.iconst X0.here hx (hb hby d39_2) (Yo.istoreN X0.here hx (hb hby d39_3) rfl (l' := #[rv a1, iv 0, iv 0]) rfl (Yo.iloadN X0.here hx (hb hby d39_4) rfl (Yo.aloadN X0.here hx (hb hby d39_5) rfl rfl k)))))) ?_
  refine fget X0 hx hZ hown (W_ hw 26) e0 HF_a1_count (hb hby d39_6) fun Ty1 Xy1 ey1 => ?_
  refine Fin.step (fun _ k => Yo.icmpNo Xy1.here hx (hb hby d39_9) rfl (tlt ((by decide) : ((0 : Int32) < (2 : Int32)))).2.1 (Yo.aloadN Xy1.here hx (hb hby d39_12) rfl rfl k)) ?_
  refine fget Xy1 hx hZ hown (W_ hw 12) ey1 HF_a1_open (hb hby d39_13) fun Ty2 Xy2 ey2 => ?_
  refine Fin.step (fun _ k => Yo.iloadN Xy2.here hx (hb hby d39_16) rfl k) ?_
  refine fald Xy2 hx hZ ey2 HV_ao rfl (j := (0 : Int32)) (v := (.ref x1)) ⟨by decide, by decide⟩ rfl (hb hby d39_17) ?_
  refine Fin.step (getHot Xy2 hx hZ hown (W_ hw 220) ey2 HF_x1_text (g := (mkF m 18 #[rv a1, iv 0, iv 0] [(.ref x1)])) rfl rfl (hb hby d39_18)) ?_
  show Fin p e below s _ _ _ (Ty2.setTop (mkF m 21 #[rv a1, iv 0, iv 0] [.null]))
  refine Fin.step (fun _ k => Yo.ifnullYes Xy2.here hx (pc0 := 21) (pc' := 39) rfl (hb hby d39_21) rfl (by decide) (by decide) (Yo.iinc Xy2.here hx (hb hby d39_39) rfl (l' := #[rv a1, iv 0, iv 1]) rfl k)) ?_
  show Fin p e below s _ _ _ (Ty2.setTop (mkF m 42 #[rv a1, iv 0, iv 1] []))
  refine Fin.step (fun _ k => Yo.goto Xy2.here hx (pc0 := 42) (pc' := 4) rfl (hb hby d39_42) (by decide) (by decide) (Yo.iloadN Xy2.here hx (hb hby d39_4) rfl (Yo.aloadN Xy2.here hx (hb hby d39_5) rfl rfl k))) ?_
  refine fget Xy2 hx hZ hown (W_ hw 26) ey2 HF_a1_count (hb hby d39_6) fun Ty4 Xy4 ey4 => ?_
  refine Fin.step (fun _ k => Yo.icmpNo Xy4.here hx (hb hby d39_9) rfl (tlt ((by decide) : ((1 : Int32) < (2 : Int32)))).2.1 (Yo.aloadN Xy4.here hx (hb hby d39_12) rfl rfl k)) ?_
  refine fget Xy4 hx hZ hown (W_ hw 12) ey4 HF_a1_open (hb hby d39_13) fun Ty5 Xy5 ey5 => ?_
  refine Fin.step (fun _ k => Yo.iloadN Xy5.here hx (hb hby d39_16) rfl k) ?_
  refine fald Xy5 hx hZ ey5 HV_ao rfl (j := (1 : Int32)) (v := (.ref x2)) ⟨by decide, by decide⟩ rfl (hb hby d39_17) ?_
  refine Fin.step (getHot Xy5 hx hZ hown (W_ hw 220) ey5 HF_x2_text (g := (mkF m 18 #[rv a1, iv 0, iv 1] [(.ref x2)])) rfl rfl (hb hby d39_18)) ?_
  show Fin p e below s _ _ _ (Ty5.setTop (mkF m 21 #[rv a1, iv 0, iv 1] [(.ref b2)]))
  refine Fin.step (fun _ k => Yo.ifnullNo Xy5.here hx (hb hby d39_21) rfl (Yo.aloadN Xy5.here hx (hb hby d39_24) rfl rfl k)) ?_
  refine fget Xy5 hx hZ hown (W_ hw 12) ey5 HF_a1_open (hb hby d39_25) fun Ty7 Xy7 ey7 => ?_
  refine Fin.step (fun _ k => Yo.iloadN Xy7.here hx (hb hby d39_28) rfl (Yo.iinc Xy7.here hx (hb hby d39_29) rfl (l' := #[rv a1, iv 1, iv 1]) rfl k)) ?_
  show Fin p e below s _ _ _ (Ty7.setTop (mkF m 32 #[rv a1, iv 1, iv 1] [(.int 0), (.ref ao)]))
  refine Fin.step (fun _ k => Yo.aloadN Xy7.here hx (hb hby d39_32) rfl rfl k) ?_
  refine fget Xy7 hx hZ hown (W_ hw 12) ey7 HF_a1_open (hb hby d39_33) fun Ty8 Xy8 ey8 => ?_
  refine Fin.step (fun _ k => Yo.iloadN Xy8.here hx (hb hby d39_36) rfl k) ?_
  refine fald Xy8 hx hZ ey8 HV_ao rfl (j := (1 : Int32)) (v := (.ref x2)) ⟨by decide, by decide⟩ rfl (hb hby d39_37) ?_
  have voy10 := HV_ao
  obtain ⟨cly10, Ary10, qay10, say10, nay10, hay10, gay10⟩ := voy10
  obtain ⟨Ty10, hy10, Xy10, ey10, Wy10, sty10⟩ := stR Xy8 hx hZ ey8 Ary10 (j := (0 : Int32)) (inb_of say10 ⟨by decide, by decide⟩) rfl (Sto.ofV Ary10 qay10 hov (Ins.self HE_x2)) (g := (mkF m 38 #[rv a1, iv 1, iv 1] [(.ref x2), (.int 0), (.ref ao)])) rfl rfl (hb hby d39_38)
  have Vy10 : Arv Z hy10 ao ko (.object "com/example/uzor/uzor/StringValues$Value") (4 : Int32) [(.ref x2), (.ref x2), .null, .null] .null := Arv.set Ary10 qay10 say10 nay10 hay10 gay10 rfl Wy10 0 rfl (Nat.le_of_ble_eq_true rfl)
  have Zy10 : n0 ≤ hy10.size := Nat.le_trans Z0 (Keep.of_wr Wy10).1
  have Ky10 : Keep h0 hy10 [a1, ao] := K0.wr Wy10 m1
  have Ny10 := Fr.snoc Xy10 N0 g_ao
  refine Fin.step (sty10) ?_
  show Fin p e below s _ _ _ (Ty10.setTop (mkF m 39 #[rv a1, iv 1, iv 1] []))
  refine Fin.step (fun _ k => Yo.iinc Xy10.here hx (hb hby d39_39) rfl (l' := #[rv a1, iv 1, iv 2]) rfl k) ?_
  show Fin p e below s _ _ _ (Ty10.setTop (mkF m 42 #[rv a1, iv 1, iv 2] []))
  refine Fin.step (fun _ k => Yo.goto Xy10.here hx (pc0 := 42) (pc' := 4) rfl (hb hby d39_42) (by decide) (by decide) (Yo.iloadN Xy10.here hx (hb hby d39_4) rfl (Yo.aloadN Xy10.here hx (hb hby d39_5) rfl rfl k))) ?_
  have ry12 := (HF_a1_count.other Wy10 (Or.inl hn_a1_ao))
  refine fget Xy10 hx hZ hown (W_ hw 26) ey10 ry12 (hb hby d39_6) fun Ty11 Xy11 ey11 => ?_
  refine Fin.step (fun _ k => Yo.icmpYes Xy11.here hx (pc0 := 9) (pc' := 45) rfl (hb hby d39_9) rfl (flt ((by decide) : ¬ ((2 : Int32) < (2 : Int32)))).2.1 (by decide) (by decide) (Yo.aloadN Xy11.here hx (hb hby d39_45) rfl rfl k)) ?_
  have ry14 := (HF_a1_open.other Wy10 (Or.inl hn_a1_ao))
  refine fget Xy11 hx hZ hown (W_ hw 12) ey11 ry14 (hb hby d39_46) fun Ty13 Xy13 ey13 => ?_
  refine Fin.step (fun _ k => Yo.iloadN Xy13.here hx (hb hby d39_49) rfl (Yo.aloadN Xy13.here hx (hb hby d39_50) rfl rfl k)) ?_
  refine fget Xy13 hx hZ hown (W_ hw 26) ey13 ry12 (hb hby d39_51) fun Ty15 Xy15 ey15 => ?_
  refine Fin.step (fun _ k => Yo.aconstNull Xy15.here hx (hb hby d39_54) k) ?_
  obtain ⟨_, Ty16, Lcy16, Xy16, hQy16, sty16⟩ := packS (Jvm.LawKit.callS Xy15 hx (y := n40) hown (mvT hZ (W_ hw 221)) (mvT hZ (W_ hw 222)) (mvT hZ (W_ hw 160)) (mvT hZ (W_ hw 223)) (by decide) (backOf (W := 0) (rmfl12 l Z a0 hw [] ao ko (.ref x2) (.ref x2) .null .null hy10 n0 Zy10 Vy10 g_ao) hZ (W_ hw 223) (W_ hw 160) (by decide) (by decide)) (g := (mkF m 55 #[rv a1, iv 1, iv 2] [.null, (.int 2), (.int 1), (.ref ao)])) rfl (by rw [hml]; rfl) (argsL := [(.ref ao), (.int 1), (.int 2), .null]) (rest := []) (lenOf pd_17 rfl) rfl (lb rfl) (hb hby d39_55) (fun _ _ => ⟨rfl, ey15, (by decide : 0 + 0 ≤ _), (by decide : 0 + 0 ≤ _)⟩))
  obtain ⟨rfl, Nqy16, Kcy16, fy16_0⟩ := hQy16
  have Ny16 := Fr.app Ny10 Nqy16
  have Zy16 := Nat.le_trans Zy10 Kcy16.1
  have Ky16 := Ky10.trans Kcy16 (allS m1 all0)
  refine Fin.step (sty16) ?_
  show Fin p e below s _ _ _ (Ty16.setTop (mkF m 58 #[rv a1, iv 1, iv 2] []))
  refine Fin.step (fun _ k => Yo.aloadN Xy16.here hx (hb hby d39_58) rfl rfl (Yo.iloadN Xy16.here hx (hb hby d39_59) rfl k)) ?_
  obtain ⟨Ty17, hy17, Xy17, ey17, Wy17, sty17⟩ := putF Xy16 hx hZ hown (host := "") (Or.inl (W_ hw 26)) Via.refl rfl (ry12.keep Kcy16 (ninS hn_a1_ao nin0)) ((HE_a1.wr Wy10).keep Kcy16) (Or.inl (W_ hw 27)) (W_ hw 2) (ty := .int) (by decide) rfl rfl (g := (mkF m 60 #[rv a1, iv 1, iv 2] [(.int 1), (.ref a1)])) rfl rfl (hb hby d39_60)
  have Fwy17 : Fld Z hy17 a1 q1 "count" "I" (.int 1) := (ry12.keep Kcy16 (ninS hn_a1_ao nin0)).same Wy17
  have Zy17 : n0 ≤ hy17.size := Nat.le_trans Zy16 (Keep.of_wr Wy17).1
  have Ky17 : Keep h0 hy17 [a1, ao] := Ky16.wr Wy17 m0
  have Ny17 := Fr.snoc Xy17 Ny16 g_a1
  refine Fin.step (sty17) ?_
  show Fin p e below s _ _ _ (Ty17.setTop (mkF m 63 #[rv a1, iv 1, iv 2] []))
  refine Fin.retV Xy17 hx hret hlk (hb hby d39_63) (by decide) (by decide) ?_
  show Qlo01 Z a1 ao ko dd x1 x2 b2 h0 n0 _ Ty17.heap _
  rw [ey17]
  exact ⟨rfl, Ny17, Ky17, ((ry14.keep Kcy16 (ninS hn_a1_ao nin0)).other Wy17 (Or.inr (slot_ne (Or.inl (W_ hw 13)) (Or.inl (W_ hw 27)) (by decide) (t := (.array (.object "com/example/uzor/uzor/StringValues$Value"))) (t' := .int) (by decide) (by decide)))), (((HF_a1_depth.other Wy10 (Or.inl hn_a1_ao)).keep Kcy16 (ninS hn_a1_ao nin0)).other Wy17 (Or.inr (slot_ne (Or.inl (W_ hw 20)) (Or.inl (W_ hw 27)) (by decide) (t := .int) (t' := .int) (by decide) (by decide)))), Fwy17, (fy16_0.other Wy17 (Ne.symm hn_a1_ao))⟩
theorem ef_rmlo10 (m : MethodId) (x0 : Addr) : entryFrame m #[(.ref x0)] 3 = mkF m 0 #[.val (.ref x0), .unset, .unset] [] := by first | (simp [entryFrame, mkF, argsToLocals, Value.category]; done) | rfl
abbrev R_rmlo10 : Room := ({ frames := 2, cells := 0, slots := 0, locals := 30 } : Room)
def Qlo10 (Z : State) (a1 ao : Addr) (ko : ClassId) (dd : Int32) (x1 b1 x2 : Addr) (h0 : Heap) (n0 : Nat) (v : Option Value) (h : Heap) (L : List Loc) : Prop := v = none ∧ Fr n0 L ∧ Keep h0 h [a1, ao] ∧ Fld Z h a1 q1 "open" q9 (.ref ao) ∧ Fld Z h a1 q1 "depth" "I" (.int dd) ∧ Fld Z h a1 q1 "count" "I" (.int 1) ∧ Arv Z h ao ko (.object "com/example/uzor/uzor/StringValues$Value") (4 : Int32) [(.ref x1), .null, .null, .null] .null
set_option maxRecDepth 65536 in
set_option maxHeartbeats 40000000 in
theorem rmlo10 (l : Launch) (Z : State) (a0 : Array Value) (hw : ∀ d ∈ tables_1, d.before a0 Z = true) (ws : List Jvm.Cond) (a1 ao : Addr) (ko : ClassId) (dd : Int32) (x1 b1 x2 : Addr) (h0 : Heap) (n0 : Nat) (Z0 : n0 ≤ h0.size) (HE_a1 : Exa Z h0 a1 q1) (HF_a1_open : Fld Z h0 a1 q1 "open" q9 (.ref ao)) (HF_a1_depth : Fld Z h0 a1 q1 "depth" "I" (.int dd)) (HF_a1_count : Fld Z h0 a1 q1 "count" "I" (.int 2)) (HV_ao : Arv Z h0 ao ko (.object "com/example/uzor/uzor/StringValues$Value") (4 : Int32) [(.ref x1), (.ref x2), .null, .null] .null) (HE_x1 : Exa Z h0 x1 q0) (HF_x1_text : Fld Z h0 x1 q0 "text" q7 (.ref b1)) (HE_x2 : Exa Z h0 x2 q0) (HF_x2_text : Fld Z h0 x2 q0 "text" q7 .null) (g_a1 : n0 ≤ a1) (g_ao : n0 ≤ ao) (hov : Ovr Z ko "com/example/uzor/uzor/StringValues$Value") (hn_a1_ao : a1 ≠ ao) (hn_x1_ao : x1 ≠ ao) (hn_x1_a1 : x1 ≠ a1) (hn_x2_ao : x2 ≠ ao) (hn_x2_a1 : x2 ≠ a1) :
    Met1 l n39 prog_34_method_4_code 3 none ws R_rmlo10 #[(.ref a1)] Z h0 (Qlo10 Z a1 ao ko dd x1 b1 x2 h0 n0) := by
  refine Met1.enter (plainFor_of_name pn_39) (fun m => ef_rmlo10 m a1) fun p e s m below meth c s₁ hx hby hlk hret hml hown hnm hZ X0 e0 => ?_
  have N0 := Fr.nil n0
  have K0 := Keep.refl h0 [a1, ao]
  show Fin p e below s _ _ _ (s₁.setTop (mkF m 0 #[rv a1, .unset, .unset] []))
  refine Fin.step (fun _ k => Yo.iconst X0.here hx (hb hby d39_0) (Yo.istoreN X0.here hx (hb hby d39_1) rfl (l' := #[rv a1, iv 0, .unset]) rfl (Yo.iconst X0.here hx (hb hby d39_2) (Yo.istoreN X0.here hx (hb hby d39_3) rfl (l' := #[rv a1, iv 0, iv 0]) rfl (Yo.iloadN X0.here hx (hb hby d39_4) rfl (Yo.aloadN X0.here hx (hb hby d39_5) rfl rfl k)))))) ?_
  refine fget X0 hx hZ hown (W_ hw 26) e0 HF_a1_count (hb hby d39_6) fun Ty1 Xy1 ey1 => ?_
  refine Fin.step (fun _ k => Yo.icmpNo Xy1.here hx (hb hby d39_9) rfl (tlt ((by decide) : ((0 : Int32) < (2 : Int32)))).2.1 (Yo.aloadN Xy1.here hx (hb hby d39_12) rfl rfl k)) ?_
  refine fget Xy1 hx hZ hown (W_ hw 12) ey1 HF_a1_open (hb hby d39_13) fun Ty2 Xy2 ey2 => ?_
  refine Fin.step (fun _ k => Yo.iloadN Xy2.here hx (hb hby d39_16) rfl k) ?_
  refine fald Xy2 hx hZ ey2 HV_ao rfl (j := (0 : Int32)) (v := (.ref x1)) ⟨by decide, by decide⟩ rfl (hb hby d39_17) ?_
  refine Fin.step (getHot Xy2 hx hZ hown (W_ hw 220) ey2 HF_x1_text (g := (mkF m 18 #[rv a1, iv 0, iv 0] [(.ref x1)])) rfl rfl (hb hby d39_18)) ?_
  show Fin p e below s _ _ _ (Ty2.setTop (mkF m 21 #[rv a1, iv 0, iv 0] [(.ref b1)]))
  refine Fin.step (fun _ k => Yo.ifnullNo Xy2.here hx (hb hby d39_21) rfl (Yo.aloadN Xy2.here hx (hb hby d39_24) rfl rfl k)) ?_
  refine fget Xy2 hx hZ hown (W_ hw 12) ey2 HF_a1_open (hb hby d39_25) fun Ty4 Xy4 ey4 => ?_
  refine Fin.step (fun _ k => Yo.iloadN Xy4.here hx (hb hby d39_28) rfl (Yo.iinc Xy4.here hx (hb hby d39_29) rfl (l' := #[rv a1, iv 1, iv 0]) rfl k)) ?_
  show Fin p e below s _ _ _ (Ty4.setTop (mkF m 32 #[rv a1, iv 1, iv 0] [(.int 0), (.ref ao)]))
  refine Fin.step (fun _ k => Yo.aloadN Xy4.here hx (hb hby d39_32) rfl rfl k) ?_
  refine fget Xy4 hx hZ hown (W_ hw 12) ey4 HF_a1_open (hb hby d39_33) fun Ty5 Xy5 ey5 => ?_
  refine Fin.step (fun _ k => Yo.iloadN Xy5.here hx (hb hby d39_36) rfl k) ?_
  refine fald Xy5 hx hZ ey5 HV_ao rfl (j := (0 : Int32)) (v := (.ref x1)) ⟨by decide, by decide⟩ rfl (hb hby d39_37) ?_
  have voy7 := HV_ao
  obtain ⟨cly7, Ary7, qay7, say7, nay7, hay7, gay7⟩ := voy7
  obtain ⟨Ty7, hy7, Xy7, ey7, Wy7, sty7⟩ := stR Xy5 hx hZ ey5 Ary7 (j := (0 : Int32)) (inb_of say7 ⟨by decide, by decide⟩) rfl (Sto.ofV Ary7 qay7 hov (Ins.self HE_x1)) (g := (mkF m 38 #[rv a1, iv 1, iv 0] [(.ref x1), (.int 0), (.ref ao)])) rfl rfl (hb hby d39_38)
  have Vy7 : Arv Z hy7 ao ko (.object "com/example/uzor/uzor/StringValues$Value") (4 : Int32) [(.ref x1), (.ref x2), .null, .null] .null := Arv.set Ary7 qay7 say7 nay7 hay7 gay7 rfl Wy7 0 rfl (Nat.le_of_ble_eq_true rfl)
  have Zy7 : n0 ≤ hy7.size := Nat.le_trans Z0 (Keep.of_wr Wy7).1
  have Ky7 : Keep h0 hy7 [a1, ao] := K0.wr Wy7 m1
  have Ny7 := Fr.snoc Xy7 N0 g_ao
  refine Fin.step (sty7) ?_
  show Fin p e below s _ _ _ (Ty7.setTop (mkF m 39 #[rv a1, iv 1, iv 0] []))
  refine Fin.step (fun _ k => Yo.iinc Xy7.here hx (hb hby d39_39) rfl (l' := #[rv a1, iv 1, iv 1]) rfl k) ?_
  show Fin p e below s _ _ _ (Ty7.setTop (mkF m 42 #[rv a1, iv 1, iv 1] []))
  refine Fin.step (fun _ k => Yo.goto Xy7.here hx (pc0 := 42) (pc' := 4) rfl (hb hby d39_42) (by decide) (by decide) (Yo.iloadN Xy7.here hx (hb hby d39_4) rfl (Yo.aloadN Xy7.here hx (hb hby d39_5) rfl rfl k))) ?_
  have ry9 := (HF_a1_count.other Wy7 (Or.inl hn_a1_ao))
  refine fget Xy7 hx hZ hown (W_ hw 26) ey7 ry9 (hb hby d39_6) fun Ty8 Xy8 ey8 => ?_
  refine Fin.step (fun _ k => Yo.icmpNo Xy8.here hx (hb hby d39_9) rfl (tlt ((by decide) : ((1 : Int32) < (2 : Int32)))).2.1 (Yo.aloadN Xy8.here hx (hb hby d39_12) rfl rfl k)) ?_
  have ry11 := (HF_a1_open.other Wy7 (Or.inl hn_a1_ao))
  refine fget Xy8 hx hZ hown (W_ hw 12) ey8 ry11 (hb hby d39_13) fun Ty10 Xy10 ey10 => ?_
  refine Fin.step (fun _ k => Yo.iloadN Xy10.here hx (hb hby d39_16) rfl k) ?_
  refine fald Xy10 hx hZ ey10 Vy7 rfl (j := (1 : Int32)) (v := (.ref x2)) ⟨by decide, by decide⟩ rfl (hb hby d39_17) ?_
  refine Fin.step (getHot Xy10 hx hZ hown (W_ hw 220) ey10 (HF_x2_text.other Wy7 (Or.inl hn_x2_ao)) (g := (mkF m 18 #[rv a1, iv 1, iv 1] [(.ref x2)])) rfl rfl (hb hby d39_18)) ?_
  show Fin p e below s _ _ _ (Ty10.setTop (mkF m 21 #[rv a1, iv 1, iv 1] [.null]))
  refine Fin.step (fun _ k => Yo.ifnullYes Xy10.here hx (pc0 := 21) (pc' := 39) rfl (hb hby d39_21) rfl (by decide) (by decide) (Yo.iinc Xy10.here hx (hb hby d39_39) rfl (l' := #[rv a1, iv 1, iv 2]) rfl k)) ?_
  show Fin p e below s _ _ _ (Ty10.setTop (mkF m 42 #[rv a1, iv 1, iv 2] []))
  refine Fin.step (fun _ k => Yo.goto Xy10.here hx (pc0 := 42) (pc' := 4) rfl (hb hby d39_42) (by decide) (by decide) (Yo.iloadN Xy10.here hx (hb hby d39_4) rfl (Yo.aloadN Xy10.here hx (hb hby d39_5) rfl rfl k))) ?_
  refine fget Xy10 hx hZ hown (W_ hw 26) ey10 ry9 (hb hby d39_6) fun Ty13 Xy13 ey13 => ?_
  refine Fin.step (fun _ k => Yo.icmpYes Xy13.here hx (pc0 := 9) (pc' := 45) rfl (hb hby d39_9) rfl (flt ((by decide) : ¬ ((2 : Int32) < (2 : Int32)))).2.1 (by decide) (by decide) (Yo.aloadN Xy13.here hx (hb hby d39_45) rfl rfl k)) ?_
  refine fget Xy13 hx hZ hown (W_ hw 12) ey13 ry11 (hb hby d39_46) fun Ty14 Xy14 ey14 => ?_
  refine Fin.step (fun _ k => Yo.iloadN Xy14.here hx (hb hby d39_49) rfl (Yo.aloadN Xy14.here hx (hb hby d39_50) rfl rfl k)) ?_
  refine fget Xy14 hx hZ hown (W_ hw 26) ey14 ry9 (hb hby d39_51) fun Ty15 Xy15 ey15 => ?_
  refine Fin.step (fun _ k => Yo.aconstNull Xy15.here hx (hb hby d39_54) k) ?_
  obtain ⟨_, Ty16, Lcy16, Xy16, hQy16, sty16⟩ := packS (Jvm.LawKit.callS Xy15 hx (y := n40) hown (mvT hZ (W_ hw 221)) (mvT hZ (W_ hw 222)) (mvT hZ (W_ hw 160)) (mvT hZ (W_ hw 223)) (by decide) (backOf (W := 0) (rmfl12 l Z a0 hw [] ao ko (.ref x1) (.ref x2) .null .null hy7 n0 Zy7 Vy7 g_ao) hZ (W_ hw 223) (W_ hw 160) (by decide) (by decide)) (g := (mkF m 55 #[rv a1, iv 1, iv 2] [.null, (.int 2), (.int 1), (.ref ao)])) rfl (by rw [hml]; rfl) (argsL := [(.ref ao), (.int 1), (.int 2), .null]) (rest := []) (lenOf pd_17 rfl) rfl (lb rfl) (hb hby d39_55) (fun _ _ => ⟨rfl, ey15, (by decide : 0 + 0 ≤ _), (by decide : 0 + 0 ≤ _)⟩))
  obtain ⟨rfl, Nqy16, Kcy16, fy16_0⟩ := hQy16
  have Ny16 := Fr.app Ny7 Nqy16
  have Zy16 := Nat.le_trans Zy7 Kcy16.1
  have Ky16 := Ky7.trans Kcy16 (allS m1 all0)
  refine Fin.step (sty16) ?_
  show Fin p e below s _ _ _ (Ty16.setTop (mkF m 58 #[rv a1, iv 1, iv 2] []))
  refine Fin.step (fun _ k => Yo.aloadN Xy16.here hx (hb hby d39_58) rfl rfl (Yo.iloadN Xy16.here hx (hb hby d39_59) rfl k)) ?_
  obtain ⟨Ty17, hy17, Xy17, ey17, Wy17, sty17⟩ := putF Xy16 hx hZ hown (host := "") (Or.inl (W_ hw 26)) Via.refl rfl (ry9.keep Kcy16 (ninS hn_a1_ao nin0)) ((HE_a1.wr Wy7).keep Kcy16) (Or.inl (W_ hw 27)) (W_ hw 2) (ty := .int) (by decide) rfl rfl (g := (mkF m 60 #[rv a1, iv 1, iv 2] [(.int 1), (.ref a1)])) rfl rfl (hb hby d39_60)
  have Fwy17 : Fld Z hy17 a1 q1 "count" "I" (.int 1) := (ry9.keep Kcy16 (ninS hn_a1_ao nin0)).same Wy17
  have Zy17 : n0 ≤ hy17.size := Nat.le_trans Zy16 (Keep.of_wr Wy17).1
  have Ky17 : Keep h0 hy17 [a1, ao] := Ky16.wr Wy17 m0
  have Ny17 := Fr.snoc Xy17 Ny16 g_a1
  refine Fin.step (sty17) ?_
  show Fin p e below s _ _ _ (Ty17.setTop (mkF m 63 #[rv a1, iv 1, iv 2] []))
  refine Fin.retV Xy17 hx hret hlk (hb hby d39_63) (by decide) (by decide) ?_
  show Qlo10 Z a1 ao ko dd x1 b1 x2 h0 n0 _ Ty17.heap _
  rw [ey17]
  exact ⟨rfl, Ny17, Ky17, ((ry11.keep Kcy16 (ninS hn_a1_ao nin0)).other Wy17 (Or.inr (slot_ne (Or.inl (W_ hw 13)) (Or.inl (W_ hw 27)) (by decide) (t := (.array (.object "com/example/uzor/uzor/StringValues$Value"))) (t' := .int) (by decide) (by decide)))), (((HF_a1_depth.other Wy7 (Or.inl hn_a1_ao)).keep Kcy16 (ninS hn_a1_ao nin0)).other Wy17 (Or.inr (slot_ne (Or.inl (W_ hw 20)) (Or.inl (W_ hw 27)) (by decide) (t := .int) (t' := .int) (by decide) (by decide)))), Fwy17, (fy16_0.other Wy17 (Ne.symm hn_a1_ao))⟩
theorem ef_rmlo00 (m : MethodId) (x0 : Addr) : entryFrame m #[(.ref x0)] 3 = mkF m 0 #[.val (.ref x0), .unset, .unset] [] := by first | (simp [entryFrame, mkF, argsToLocals, Value.category]; done) | rfl
abbrev R_rmlo00 : Room := ({ frames := 2, cells := 0, slots := 0, locals := 30 } : Room)
def Qlo00 (Z : State) (a1 ao : Addr) (ko : ClassId) (dd : Int32) (x1 x2 : Addr) (h0 : Heap) (n0 : Nat) (v : Option Value) (h : Heap) (L : List Loc) : Prop := v = none ∧ Fr n0 L ∧ Keep h0 h [a1, ao] ∧ Fld Z h a1 q1 "open" q9 (.ref ao) ∧ Fld Z h a1 q1 "depth" "I" (.int dd) ∧ Fld Z h a1 q1 "count" "I" (.int 0) ∧ Arv Z h ao ko (.object "com/example/uzor/uzor/StringValues$Value") (4 : Int32) [.null, .null, .null, .null] .null
set_option maxRecDepth 65536 in
set_option maxHeartbeats 40000000 in
theorem rmlo00 (l : Launch) (Z : State) (a0 : Array Value) (hw : ∀ d ∈ tables_1, d.before a0 Z = true) (ws : List Jvm.Cond) (a1 ao : Addr) (ko : ClassId) (dd : Int32) (x1 x2 : Addr) (h0 : Heap) (n0 : Nat) (Z0 : n0 ≤ h0.size) (HE_a1 : Exa Z h0 a1 q1) (HF_a1_open : Fld Z h0 a1 q1 "open" q9 (.ref ao)) (HF_a1_depth : Fld Z h0 a1 q1 "depth" "I" (.int dd)) (HF_a1_count : Fld Z h0 a1 q1 "count" "I" (.int 2)) (HV_ao : Arv Z h0 ao ko (.object "com/example/uzor/uzor/StringValues$Value") (4 : Int32) [(.ref x1), (.ref x2), .null, .null] .null) (HE_x1 : Exa Z h0 x1 q0) (HF_x1_text : Fld Z h0 x1 q0 "text" q7 .null) (HE_x2 : Exa Z h0 x2 q0) (HF_x2_text : Fld Z h0 x2 q0 "text" q7 .null) (g_a1 : n0 ≤ a1) (g_ao : n0 ≤ ao) (hov : Ovr Z ko "com/example/uzor/uzor/StringValues$Value") (hn_a1_ao : a1 ≠ ao) (hn_x1_ao : x1 ≠ ao) (hn_x1_a1 : x1 ≠ a1) (hn_x2_ao : x2 ≠ ao) (hn_x2_a1 : x2 ≠ a1) :
    Met1 l n39 prog_34_method_4_code 3 none ws R_rmlo00 #[(.ref a1)] Z h0 (Qlo00 Z a1 ao ko dd x1 x2 h0 n0) := by
  refine Met1.enter (plainFor_of_name pn_39) (fun m => ef_rmlo00 m a1) fun p e s m below meth c s₁ hx hby hlk hret hml hown hnm hZ X0 e0 => ?_
  have N0 := Fr.nil n0
  have K0 := Keep.refl h0 [a1, ao]
  show Fin p e below s _ _ _ (s₁.setTop (mkF m 0 #[rv a1, .unset, .unset] []))
  refine Fin.step (fun _ k => Yo.iconst X0.here hx (hb hby d39_0) (Yo.istoreN X0.here hx (hb hby d39_1) rfl (l' := #[rv a1, iv 0, .unset]) rfl (Yo.iconst X0.here hx (hb hby d39_2) (Yo.istoreN X0.here hx (hb hby d39_3) rfl (l' := #[rv a1, iv 0, iv 0]) rfl (Yo.iloadN X0.here hx (hb hby d39_4) rfl (Yo.aloadN X0.here hx (hb hby d39_5) rfl rfl k)))))) ?_
  refine fget X0 hx hZ hown (W_ hw 26) e0 HF_a1_count (hb hby d39_6) fun Ty1 Xy1 ey1 => ?_
  refine Fin.step (fun _ k => Yo.icmpNo Xy1.here hx (hb hby d39_9) rfl (tlt ((by decide) : ((0 : Int32) < (2 : Int32)))).2.1 (Yo.aloadN Xy1.here hx (hb hby d39_12) rfl rfl k)) ?_
  refine fget Xy1 hx hZ hown (W_ hw 12) ey1 HF_a1_open (hb hby d39_13) fun Ty2 Xy2 ey2 => ?_
  refine Fin.step (fun _ k => Yo.iloadN Xy2.here hx (hb hby d39_16) rfl k) ?_
  refine fald Xy2 hx hZ ey2 HV_ao rfl (j := (0 : Int32)) (v := (.ref x1)) ⟨by decide, by decide⟩ rfl (hb hby d39_17) ?_
  refine Fin.step (getHot Xy2 hx hZ hown (W_ hw 220) ey2 HF_x1_text (g := (mkF m 18 #[rv a1, iv 0, iv 0] [(.ref x1)])) rfl rfl (hb hby d39_18)) ?_
  show Fin p e below s _ _ _ (Ty2.setTop (mkF m 21 #[rv a1, iv 0, iv 0] [.null]))
  refine Fin.step (fun _ k => Yo.ifnullYes Xy2.here hx (pc0 := 21) (pc' := 39) rfl (hb hby d39_21) rfl (by decide) (by decide) (Yo.iinc Xy2.here hx (hb hby d39_39) rfl (l' := #[rv a1, iv 0, iv 1]) rfl k)) ?_
  show Fin p e below s _ _ _ (Ty2.setTop (mkF m 42 #[rv a1, iv 0, iv 1] []))
  refine Fin.step (fun _ k => Yo.goto Xy2.here hx (pc0 := 42) (pc' := 4) rfl (hb hby d39_42) (by decide) (by decide) (Yo.iloadN Xy2.here hx (hb hby d39_4) rfl (Yo.aloadN Xy2.here hx (hb hby d39_5) rfl rfl k))) ?_
  refine fget Xy2 hx hZ hown (W_ hw 26) ey2 HF_a1_count (hb hby d39_6) fun Ty4 Xy4 ey4 => ?_
  refine Fin.step (fun _ k => Yo.icmpNo Xy4.here hx (hb hby d39_9) rfl (tlt ((by decide) : ((1 : Int32) < (2 : Int32)))).2.1 (Yo.aloadN Xy4.here hx (hb hby d39_12) rfl rfl k)) ?_
  refine fget Xy4 hx hZ hown (W_ hw 12) ey4 HF_a1_open (hb hby d39_13) fun Ty5 Xy5 ey5 => ?_
  refine Fin.step (fun _ k => Yo.iloadN Xy5.here hx (hb hby d39_16) rfl k) ?_
  refine fald Xy5 hx hZ ey5 HV_ao rfl (j := (1 : Int32)) (v := (.ref x2)) ⟨by decide, by decide⟩ rfl (hb hby d39_17) ?_
  refine Fin.step (getHot Xy5 hx hZ hown (W_ hw 220) ey5 HF_x2_text (g := (mkF m 18 #[rv a1, iv 0, iv 1] [(.ref x2)])) rfl rfl (hb hby d39_18)) ?_
  show Fin p e below s _ _ _ (Ty5.setTop (mkF m 21 #[rv a1, iv 0, iv 1] [.null]))
  refine Fin.step (fun _ k => Yo.ifnullYes Xy5.here hx (pc0 := 21) (pc' := 39) rfl (hb hby d39_21) rfl (by decide) (by decide) (Yo.iinc Xy5.here hx (hb hby d39_39) rfl (l' := #[rv a1, iv 0, iv 2]) rfl k)) ?_
  show Fin p e below s _ _ _ (Ty5.setTop (mkF m 42 #[rv a1, iv 0, iv 2] []))
  refine Fin.step (fun _ k => Yo.goto Xy5.here hx (pc0 := 42) (pc' := 4) rfl (hb hby d39_42) (by decide) (by decide) (Yo.iloadN Xy5.here hx (hb hby d39_4) rfl (Yo.aloadN Xy5.here hx (hb hby d39_5) rfl rfl k))) ?_
  refine fget Xy5 hx hZ hown (W_ hw 26) ey5 HF_a1_count (hb hby d39_6) fun Ty7 Xy7 ey7 => ?_
  refine Fin.step (fun _ k => Yo.icmpYes Xy7.here hx (pc0 := 9) (pc' := 45) rfl (hb hby d39_9) rfl (flt ((by decide) : ¬ ((2 : Int32) < (2 : Int32)))).2.1 (by decide) (by decide) (Yo.aloadN Xy7.here hx (hb hby d39_45) rfl rfl k)) ?_
  refine fget Xy7 hx hZ hown (W_ hw 12) ey7 HF_a1_open (hb hby d39_46) fun Ty8 Xy8 ey8 => ?_
  refine Fin.step (fun _ k => Yo.iloadN Xy8.here hx (hb hby d39_49) rfl (Yo.aloadN Xy8.here hx (hb hby d39_50) rfl rfl k)) ?_
  refine fget Xy8 hx hZ hown (W_ hw 26) ey8 HF_a1_count (hb hby d39_51) fun Ty9 Xy9 ey9 => ?_
  refine Fin.step (fun _ k => Yo.aconstNull Xy9.here hx (hb hby d39_54) k) ?_
  obtain ⟨_, Ty10, Lcy10, Xy10, hQy10, sty10⟩ := packS (Jvm.LawKit.callS Xy9 hx (y := n40) hown (mvT hZ (W_ hw 221)) (mvT hZ (W_ hw 222)) (mvT hZ (W_ hw 160)) (mvT hZ (W_ hw 223)) (by decide) (backOf (W := 0) (rmfl02 l Z a0 hw [] ao ko (.ref x1) (.ref x2) .null .null h0 n0 Z0 HV_ao g_ao) hZ (W_ hw 223) (W_ hw 160) (by decide) (by decide)) (g := (mkF m 55 #[rv a1, iv 0, iv 2] [.null, (.int 2), (.int 0), (.ref ao)])) rfl (by rw [hml]; rfl) (argsL := [(.ref ao), (.int 0), (.int 2), .null]) (rest := []) (lenOf pd_17 rfl) rfl (lb rfl) (hb hby d39_55) (fun _ _ => ⟨rfl, ey9, (by decide : 0 + 0 ≤ _), (by decide : 0 + 0 ≤ _)⟩))
  obtain ⟨rfl, Nqy10, Kcy10, fy10_0⟩ := hQy10
  have Ny10 := Fr.app N0 Nqy10
  have Zy10 := Nat.le_trans Z0 Kcy10.1
  have Ky10 := K0.trans Kcy10 (allS m1 all0)
  refine Fin.step (sty10) ?_
  show Fin p e below s _ _ _ (Ty10.setTop (mkF m 58 #[rv a1, iv 0, iv 2] []))
  refine Fin.step (fun _ k => Yo.aloadN Xy10.here hx (hb hby d39_58) rfl rfl (Yo.iloadN Xy10.here hx (hb hby d39_59) rfl k)) ?_
  obtain ⟨Ty11, hy11, Xy11, ey11, Wy11, sty11⟩ := putF Xy10 hx hZ hown (host := "") (Or.inl (W_ hw 26)) Via.refl rfl (HF_a1_count.keep Kcy10 (ninS hn_a1_ao nin0)) (HE_a1.keep Kcy10) (Or.inl (W_ hw 27)) (W_ hw 2) (ty := .int) (by decide) rfl rfl (g := (mkF m 60 #[rv a1, iv 0, iv 2] [(.int 0), (.ref a1)])) rfl rfl (hb hby d39_60)
  have Fwy11 : Fld Z hy11 a1 q1 "count" "I" (.int 0) := (HF_a1_count.keep Kcy10 (ninS hn_a1_ao nin0)).same Wy11
  have Zy11 : n0 ≤ hy11.size := Nat.le_trans Zy10 (Keep.of_wr Wy11).1
  have Ky11 : Keep h0 hy11 [a1, ao] := Ky10.wr Wy11 m0
  have Ny11 := Fr.snoc Xy11 Ny10 g_a1
  refine Fin.step (sty11) ?_
  show Fin p e below s _ _ _ (Ty11.setTop (mkF m 63 #[rv a1, iv 0, iv 2] []))
  refine Fin.retV Xy11 hx hret hlk (hb hby d39_63) (by decide) (by decide) ?_
  show Qlo00 Z a1 ao ko dd x1 x2 h0 n0 _ Ty11.heap _
  rw [ey11]
  exact ⟨rfl, Ny11, Ky11, ((HF_a1_open.keep Kcy10 (ninS hn_a1_ao nin0)).other Wy11 (Or.inr (slot_ne (Or.inl (W_ hw 13)) (Or.inl (W_ hw 27)) (by decide) (t := (.array (.object "com/example/uzor/uzor/StringValues$Value"))) (t' := .int) (by decide) (by decide)))), ((HF_a1_depth.keep Kcy10 (ninS hn_a1_ao nin0)).other Wy11 (Or.inr (slot_ne (Or.inl (W_ hw 20)) (Or.inl (W_ hw 27)) (by decide) (t := .int) (t' := .int) (by decide) (by decide)))), Fwy11, (fy10_0.other Wy11 (Ne.symm hn_a1_ao))⟩
theorem pn_4 : plainName "com/example/uzor/uzor/StringValues" = true := by first | (simp [plainName, overriddenIn]; done) | decide +kernel
theorem d4_0 : decode prog_34_method_3_code 0 = .ok (.iconst 0, 1) := by decide +kernel
theorem d4_1 : decode prog_34_method_3_code 1 = .ok (.istore 4, 2) := by decide +kernel
theorem d4_3 : decode prog_34_method_3_code 3 = .ok (.iconst 0, 1) := by decide +kernel
theorem d4_4 : decode prog_34_method_3_code 4 = .ok (.istore 5, 2) := by decide +kernel
theorem d4_6 : decode prog_34_method_3_code 6 = .ok (.iload 5, 2) := by decide +kernel
theorem d4_8 : decode prog_34_method_3_code 8 = .ok (.aload_n 0, 1) := by decide +kernel
theorem d4_9 : decode prog_34_method_3_code 9 = .ok (.getfield 19, 3) := by decide +kernel
theorem d4_12 : decode prog_34_method_3_code 12 = .ok (.if_icmp .ge 35, 3) := by decide +kernel
theorem d4_47 : decode prog_34_method_3_code 47 = .ok (.iload 4, 2) := by decide +kernel
theorem d4_49 : decode prog_34_method_3_code 49 = .ok (.ifCond .eq 7, 3) := by decide +kernel
theorem d4_56 : decode prog_34_method_3_code 56 = .ok (.return_, 1) := by decide +kernel
theorem ef_rmt (m : MethodId) (x0 : Addr) (x1 : Addr) (x3 : Int32) : entryFrame m #[(.ref x0), (.ref x1), (.int (0 : Int32)), (.int x3)] 6 = mkF m 0 #[.val (.ref x0), .val (.ref x1), .val (.int (0 : Int32)), .val (.int x3), .unset, .unset] [] := by first | (simp [entryFrame, mkF, argsToLocals, Value.category]; done) | rfl
abbrev R_rmt : Room := ({ frames := 0, cells := 0, slots := 0, locals := 0 } : Room)
def Qt (Z : State) (a1 a2 : Addr) (pn : Int32) (h0 : Heap) (n0 : Nat) (v : Option Value) (h : Heap) (L : List Loc) : Prop := v = none ∧ Fr n0 L ∧ h = h0
set_option maxRecDepth 65536 in
set_option maxHeartbeats 40000000 in
theorem rmt (l : Launch) (Z : State) (a0 : Array Value) (hw : ∀ d ∈ tables_1, d.before a0 Z = true) (ws : List Jvm.Cond) (a1 a2 : Addr) (pn : Int32) (h0 : Heap) (n0 : Nat) (Z0 : n0 ≤ h0.size) (HF_a1_count : Fld Z h0 a1 q1 "count" "I" (.int 0)) :
    Met1 l n4 prog_34_method_3_code 6 none ws R_rmt #[(.ref a1), (.ref a2), (.int 0), (.int pn)] Z h0 (Qt Z a1 a2 pn h0 n0) := by
  refine Met1.enter (plainFor_of_name pn_4) (fun m => ef_rmt m a1 a2 pn) fun p e s m below meth c s₁ hx hby hlk hret hml hown hnm hZ X0 e0 => ?_
  have N0 := Fr.nil n0
  have K0 : Keep h0 h0 [] := Keep.refl h0 _
  show Fin p e below s _ _ _ (s₁.setTop (mkF m 0 #[rv a1, rv a2, iv 0, iv pn, .unset, .unset] []))
  refine Fin.step (fun _ k => Yo.iconst X0.here hx (hb hby d4_0) (Yo.istore X0.here hx (hb hby d4_1) rfl (l' := #[rv a1, rv a2, iv 0, iv pn, iv 0, .unset]) rfl (Yo.iconst X0.here hx (hb hby d4_3) (Yo.istore X0.here hx (hb hby d4_4) rfl (l' := #[rv a1, rv a2, iv 0, iv pn, iv 0, iv 0]) rfl (Yo.iload X0.here hx (hb hby d4_6) rfl (Yo.aloadN X0.here hx (hb hby d4_8) rfl rfl k)))))) ?_
  refine fget X0 hx hZ hown (W_ hw 26) e0 HF_a1_count (hb hby d4_9) fun Ty1 Xy1 ey1 => ?_
  refine Fin.step (fun _ k => Yo.icmpYes Xy1.here hx (pc0 := 12) (pc' := 47) rfl (hb hby d4_12) rfl (flt ((by decide) : ¬ ((0 : Int32) < (0 : Int32)))).2.1 (by decide) (by decide) (Yo.iload Xy1.here hx (hb hby d4_47) rfl (Yo.ifYes Xy1.here hx (pc0 := 49) (pc' := 56) rfl (hb hby d4_49) rfl ((if0 _ _).trans (teq ((by decide) : ((0 : Int32) = (0 : Int32)))).1) (by decide) (by decide) k))) ?_
  refine Fin.retV Xy1 hx hret hlk (hb hby d4_56) (by decide) (by decide) ?_
  show Qt Z a1 a2 pn h0 n0 _ Ty1.heap _
  rw [ey1]
  exact ⟨rfl, N0, rfl⟩
theorem d4_15 : decode prog_34_method_3_code 15 = .ok (.iload 4, 2) := by decide +kernel
theorem d4_17 : decode prog_34_method_3_code 17 = .ok (.aload_n 0, 1) := by decide +kernel
theorem d4_18 : decode prog_34_method_3_code 18 = .ok (.getfield 9, 3) := by decide +kernel
theorem d4_21 : decode prog_34_method_3_code 21 = .ok (.iload 5, 2) := by decide +kernel
theorem d4_23 : decode prog_34_method_3_code 23 = .ok (.aaload, 1) := by decide +kernel
theorem d4_24 : decode prog_34_method_3_code 24 = .ok (.aload_n 1, 1) := by decide +kernel
theorem d4_25 : decode prog_34_method_3_code 25 = .ok (.iload_n 2, 1) := by decide +kernel
theorem d4_26 : decode prog_34_method_3_code 26 = .ok (.iload_n 3, 1) := by decide +kernel
theorem d4_27 : decode prog_34_method_3_code 27 = .ok (.invokevirtual 22, 3) := by decide +kernel
theorem pd_18 : parseMethodDescriptor "([CII)Z" = some ⟨[(.array .char), .int, .int], some .boolean⟩ := by decide +kernel
theorem d4_30 : decode prog_34_method_3_code 30 = .ok (.ifCond .ne 7, 3) := by decide +kernel
theorem d4_37 : decode prog_34_method_3_code 37 = .ok (.iconst 0, 1) := by decide +kernel
theorem d4_38 : decode prog_34_method_3_code 38 = .ok (.ior, 1) := by decide +kernel
theorem d4_39 : decode prog_34_method_3_code 39 = .ok (.istore 4, 2) := by decide +kernel
theorem d4_41 : decode prog_34_method_3_code 41 = .ok (.iinc 5 1, 3) := by decide +kernel
theorem d4_44 : decode prog_34_method_3_code 44 = .ok (.goto (-38), 3) := by decide +kernel
theorem ef_rmto (m : MethodId) (x0 : Addr) (x1 : Addr) (x3 : Int32) : entryFrame m #[(.ref x0), (.ref x1), (.int (0 : Int32)), (.int x3)] 6 = mkF m 0 #[.val (.ref x0), .val (.ref x1), .val (.int (0 : Int32)), .val (.int x3), .unset, .unset] [] := by first | (simp [entryFrame, mkF, argsToLocals, Value.category]; done) | rfl
abbrev R_rmto : Room := ({ frames := 5, cells := 0, slots := 0, locals := 79 } : Room)
def Qto (Z : State) (a1 a2 : Addr) (pn : Int32) (ao : Addr) (ko : ClassId) (dd : Int32) (x1 b1 ab1 : Addr) (kb1 : ClassId) (tn1 : Int32) (vs1 : List Value) (tl1 tm1 : Int32) (kc : ClassId) (xs : List Value) (wc : Int32) (gv : Value) (h0 : Heap) (n0 : Nat) (v : Option Value) (h : Heap) (L : List Loc) : Prop := v = none ∧ Fr n0 L ∧ Keep h0 h [b1, ab1] ∧ Fld Z h b1 q3 "value" "[B" (.ref ab1) ∧ Fld Z h b1 q3 "coder" "B" (.int 0) ∧ Fld Z h b1 q3 "count" "I" (.int tm1) ∧ Arv Z h ab1 kb1 .byte (16 : Int32) (own_app vs1 xs tn1.toNatClampNeg pn.toNatClampNeg) (.int 0)
set_option maxRecDepth 65536 in
set_option maxHeartbeats 40000000 in
theorem rmto (l : Launch) (Z : State) (a0 : Array Value) (hw : ∀ d ∈ tables_1, d.before a0 Z = true) (ws : List Jvm.Cond) (a1 a2 : Addr) (pn : Int32) (ao : Addr) (ko : ClassId) (dd : Int32) (x1 b1 ab1 : Addr) (kb1 : ClassId) (tn1 : Int32) (vs1 : List Value) (tl1 tm1 : Int32) (kc : ClassId) (xs : List Value) (wc : Int32) (gv : Value) (h0 : Heap) (n0 : Nat) (Z0 : n0 ≤ h0.size) (HE_a1 : Exa Z h0 a1 q1) (HF_a1_open : Fld Z h0 a1 q1 "open" q9 (.ref ao)) (HF_a1_depth : Fld Z h0 a1 q1 "depth" "I" (.int dd)) (HF_a1_count : Fld Z h0 a1 q1 "count" "I" (.int 1)) (HV_ao : Arv Z h0 ao ko (.object "com/example/uzor/uzor/StringValues$Value") (4 : Int32) [(.ref x1), .null, .null, .null] .null) (HE_x1 : Exa Z h0 x1 q0) (HF_x1_text : Fld Z h0 x1 q0 "text" q7 (.ref b1)) (HF_x1_limit : Fld Z h0 x1 q0 "limit" "I" (.int tl1)) (HF_x1_value : Fld Z h0 x1 q0 "value" q8 .null) (HE_b1 : Exa Z h0 b1 q2) (HF_b1_value : Fld Z h0 b1 q3 "value" "[B" (.ref ab1)) (HF_b1_coder : Fld Z h0 b1 q3 "coder" "B" (.int 0)) (HF_b1_count : Fld Z h0 b1 q3 "count" "I" (.int tn1)) (HV_ab1 : Arv Z h0 ab1 kb1 .byte (16 : Int32) vs1 (.int 0)) (HV_a2 : Arv Z h0 a2 kc .char (3 : Int32) xs (.int 0)) (HS_java_lang_String_COMPACT_STRINGS : Sta Z h0 q4 q10 "Z" (.int wc)) (HS_jdk_internal_util_Preconditions_IOOBE_FORMATTER : Sta Z h0 q5 q12 q6 gv) (g_b1 : n0 ≤ b1) (g_ab1 : n0 ≤ ab1) (hp : pn = 0 ∨ pn = 1 ∨ pn = 2 ∨ pn = 3) (hxl : own_lat xs) (hwc : ¬ wc = 0) (hgv : gv.isRef = true) (hov : Ovr Z ko "com/example/uzor/uzor/StringValues$Value") (ht1 : 0 ≤ tn1.toInt ∧ tn1.toInt ≤ 3) (hl1 : vs1.length = 16) (hm1 : tm1 = tn1 + pn) (he1 : ¬ (tl1 - pn) < tn1) (hn_a1_ao : a1 ≠ ao) (hn_a1_b1 : a1 ≠ b1) (hn_a1_ab1 : a1 ≠ ab1) (hn_ao_b1 : ao ≠ b1) (hn_ao_ab1 : ao ≠ ab1) (hn_x1_b1 : x1 ≠ b1) (hn_x1_ab1 : x1 ≠ ab1) (hn_b1_ab1 : b1 ≠ ab1) (hn_a2_b1 : a2 ≠ b1) (hn_a2_ab1 : a2 ≠ ab1) :
    Met1 l n4 prog_34_method_3_code 6 none ws R_rmto #[(.ref a1), (.ref a2), (.int 0), (.int pn)] Z h0 (Qto Z a1 a2 pn ao ko dd x1 b1 ab1 kb1 tn1 vs1 tl1 tm1 kc xs wc gv h0 n0) := by
  refine Met1.enter (plainFor_of_name pn_4) (fun m => ef_rmto m a1 a2 pn) fun p e s m below meth c s₁ hx hby hlk hret hml hown hnm hZ X0 e0 => ?_
  have N0 := Fr.nil n0
  have K0 := Keep.refl h0 [b1, ab1]
  show Fin p e below s _ _ _ (s₁.setTop (mkF m 0 #[rv a1, rv a2, iv 0, iv pn, .unset, .unset] []))
  refine Fin.step (fun _ k => Yo.iconst X0.here hx (hb hby d4_0) (Yo.istore X0.here hx (hb hby d4_1) rfl (l' := #[rv a1, rv a2, iv 0, iv pn, iv 0, .unset]) rfl (Yo.iconst X0.here hx (hb hby d4_3) (Yo.istore X0.here hx (hb hby d4_4) rfl (l' := #[rv a1, rv a2, iv 0, iv pn, iv 0, iv 0]) rfl (Yo.iload X0.here hx (hb hby d4_6) rfl (Yo.aloadN X0.here hx (hb hby d4_8) rfl rfl k)))))) ?_
  refine fget X0 hx hZ hown (W_ hw 26) e0 HF_a1_count (hb hby d4_9) fun Ty1 Xy1 ey1 => ?_
  refine Fin.step (fun _ k => Yo.icmpNo Xy1.here hx (hb hby d4_12) rfl (tlt ((by decide) : ((0 : Int32) < (1 : Int32)))).2.1 (Yo.iload Xy1.here hx (hb hby d4_15) rfl (Yo.aloadN Xy1.here hx (hb hby d4_17) rfl rfl k))) ?_
  refine fget Xy1 hx hZ hown (W_ hw 12) ey1 HF_a1_open (hb hby d4_18) fun Ty2 Xy2 ey2 => ?_
  refine Fin.step (fun _ k => Yo.iload Xy2.here hx (hb hby d4_21) rfl k) ?_
  refine fald Xy2 hx hZ ey2 HV_ao rfl (j := (0 : Int32)) (v := (.ref x1)) ⟨by decide, by decide⟩ rfl (hb hby d4_23) ?_
  refine Fin.step (fun _ k => Yo.aloadN Xy2.here hx (hb hby d4_24) rfl rfl (Yo.iloadN Xy2.here hx (hb hby d4_25) rfl (Yo.iloadN Xy2.here hx (hb hby d4_26) rfl k))) ?_
  obtain ⟨cqy4, qy4, qy4'⟩ := HE_x1.cell
  obtain ⟨_, Ty4, Lcy4, Xy4, hQy4, sty4⟩ := pack (privateHot Xy2 hx hZ (y := n10) hown (W_ hw 71) (W_ hw 72) (W_ hw 73) (W_ hw 38) (W_ hw 74) (by decide) (backOf (W := 1) (rmado l Z a0 hw [] x1 a2 pn b1 ab1 kb1 tn1 vs1 kc xs tl1 tm1 wc gv h0 n0 Z0 HE_x1 HF_x1_text HF_x1_limit HE_b1 HF_b1_value HF_b1_coder HF_b1_count HV_ab1 HV_a2 HS_java_lang_String_COMPACT_STRINGS HS_jdk_internal_util_Preconditions_IOOBE_FORMATTER g_b1 g_ab1 hp ht1 hl1 hxl hm1 hwc hgv he1 hn_b1_ab1 hn_a2_ab1) hZ (W_ hw 74) (W_ hw 39) (by decide) (by decide)) (g := (mkF m 27 #[rv a1, rv a2, iv 0, iv pn, iv 0, iv 0] [(.int pn), (.int 0), (.ref a2), (.ref x1), (.int 0)])) rfl (by rw [hml]; rfl) (Steps.refl _) (a := x1) (by rw [ey2]; exact qy4) qy4' (argsL := [(.ref a2), (.int 0), (.int pn)]) (rest := [(.int 0)]) (lenOf pd_18 rfl) rfl (lb rfl) (hb hby d4_27) (fun _ _ => ⟨rfl, ey2, (by decide : 0 + 0 ≤ _), (by decide : 0 + 0 ≤ _)⟩))
  obtain ⟨rfl, Nqy4, Kcy4, fy4_0, fy4_1, fy4_2, fy4_3⟩ := hQy4
  have Ny4 := Fr.app N0 Nqy4
  have Zy4 := Nat.le_trans Z0 Kcy4.1
  have Ky4 := K0.trans Kcy4 (allS m0 (allS m1 all0))
  refine Fin.step (sty4) ?_
  show Fin p e below s _ _ _ (Ty4.setTop (mkF m 30 #[rv a1, rv a2, iv 0, iv pn, iv 0, iv 0] [(.int 1), (.int 0)]))
  refine Fin.step (fun _ k => Yo.ifYes Xy4.here hx (pc0 := 30) (pc' := 37) rfl (hb hby d4_30) rfl ((if0 _ _).trans (feq ((by decide) : ¬ ((1 : Int32) = (0 : Int32)))).2) (by decide) (by decide) (Yo.iconst Xy4.here hx (hb hby d4_37) (Yo.ior Xy4.here hx (hb hby d4_38) rfl k))) ?_
  show Fin p e below s _ _ _ (Ty4.setTop (mkF m 39 #[rv a1, rv a2, iv 0, iv pn, iv 0, iv 0] [(.int 0)]))
  refine Fin.step (fun _ k => Yo.istore Xy4.here hx (hb hby d4_39) rfl (l' := #[rv a1, rv a2, iv 0, iv pn, iv 0, iv 0]) rfl (Yo.iinc Xy4.here hx (hb hby d4_41) rfl (l' := #[rv a1, rv a2, iv 0, iv pn, iv 0, iv 1]) rfl k)) ?_
  show Fin p e below s _ _ _ (Ty4.setTop (mkF m 44 #[rv a1, rv a2, iv 0, iv pn, iv 0, iv 1] []))
  refine Fin.step (fun _ k => Yo.goto Xy4.here hx (pc0 := 44) (pc' := 6) rfl (hb hby d4_44) (by decide) (by decide) (Yo.iload Xy4.here hx (hb hby d4_6) rfl (Yo.aloadN Xy4.here hx (hb hby d4_8) rfl rfl k))) ?_
  have ry6 := (HF_a1_count.keep Kcy4 (ninS hn_a1_b1 (ninS hn_a1_ab1 nin0)))
  refine fget Xy4 hx hZ hown (W_ hw 26) rfl ry6 (hb hby d4_9) fun Ty5 Xy5 ey5 => ?_
  refine Fin.step (fun _ k => Yo.icmpYes Xy5.here hx (pc0 := 12) (pc' := 47) rfl (hb hby d4_12) rfl (flt ((by decide) : ¬ ((1 : Int32) < (1 : Int32)))).2.1 (by decide) (by decide) (Yo.iload Xy5.here hx (hb hby d4_47) rfl (Yo.ifYes Xy5.here hx (pc0 := 49) (pc' := 56) rfl (hb hby d4_49) rfl ((if0 _ _).trans (teq ((by decide) : ((0 : Int32) = (0 : Int32)))).1) (by decide) (by decide) k))) ?_
  refine Fin.retV Xy5 hx hret hlk (hb hby d4_56) (by decide) (by decide) ?_
  show Qto Z a1 a2 pn ao ko dd x1 b1 ab1 kb1 tn1 vs1 tl1 tm1 kc xs wc gv h0 n0 _ Ty5.heap _
  rw [ey5]
  exact ⟨rfl, Ny4, Ky4, fy4_0, fy4_1, fy4_2, fy4_3⟩
theorem d4_33 : decode prog_34_method_3_code 33 = .ok (.iconst 1, 1) := by decide +kernel
theorem d4_34 : decode prog_34_method_3_code 34 = .ok (.goto 4, 3) := by decide +kernel
theorem d4_52 : decode prog_34_method_3_code 52 = .ok (.aload_n 0, 1) := by decide +kernel
theorem d4_53 : decode prog_34_method_3_code 53 = .ok (.invokevirtual 26, 3) := by decide +kernel
theorem ef_rmtp (m : MethodId) (x0 : Addr) (x1 : Addr) (x3 : Int32) : entryFrame m #[(.ref x0), (.ref x1), (.int (0 : Int32)), (.int x3)] 6 = mkF m 0 #[.val (.ref x0), .val (.ref x1), .val (.int (0 : Int32)), .val (.int x3), .unset, .unset] [] := by first | (simp [entryFrame, mkF, argsToLocals, Value.category]; done) | rfl
abbrev R_rmtp : Room := ({ frames := 3, cells := 0, slots := 0, locals := 44 } : Room)
def Qtp (Z : State) (a1 a2 : Addr) (pn : Int32) (ao : Addr) (ko : ClassId) (dd : Int32) (x1 b1 ab1 : Addr) (kb1 : ClassId) (tn1 : Int32) (vs1 : List Value) (tl1 : Int32) (kc : ClassId) (xs : List Value) (wc : Int32) (gv : Value) (h0 : Heap) (n0 : Nat) (v : Option Value) (h : Heap) (L : List Loc) : Prop := v = none ∧ Fr n0 L ∧ Keep h0 h [a1, ao, x1] ∧ Fld Z h a1 q1 "open" q9 (.ref ao) ∧ Fld Z h a1 q1 "depth" "I" (.int dd) ∧ Fld Z h a1 q1 "count" "I" (.int 0) ∧ Arv Z h ao ko (.object "com/example/uzor/uzor/StringValues$Value") (4 : Int32) [.null, .null, .null, .null] .null ∧ Fld Z h x1 q0 "text" q7 .null ∧ Fld Z h x1 q0 "value" q8 .null
set_option maxRecDepth 65536 in
set_option maxHeartbeats 40000000 in
theorem rmtp (l : Launch) (Z : State) (a0 : Array Value) (hw : ∀ d ∈ tables_1, d.before a0 Z = true) (ws : List Jvm.Cond) (a1 a2 : Addr) (pn : Int32) (ao : Addr) (ko : ClassId) (dd : Int32) (x1 b1 ab1 : Addr) (kb1 : ClassId) (tn1 : Int32) (vs1 : List Value) (tl1 : Int32) (kc : ClassId) (xs : List Value) (wc : Int32) (gv : Value) (h0 : Heap) (n0 : Nat) (Z0 : n0 ≤ h0.size) (HE_a1 : Exa Z h0 a1 q1) (HF_a1_open : Fld Z h0 a1 q1 "open" q9 (.ref ao)) (HF_a1_depth : Fld Z h0 a1 q1 "depth" "I" (.int dd)) (HF_a1_count : Fld Z h0 a1 q1 "count" "I" (.int 1)) (HV_ao : Arv Z h0 ao ko (.object "com/example/uzor/uzor/StringValues$Value") (4 : Int32) [(.ref x1), .null, .null, .null] .null) (HE_x1 : Exa Z h0 x1 q0) (HF_x1_text : Fld Z h0 x1 q0 "text" q7 (.ref b1)) (HF_x1_limit : Fld Z h0 x1 q0 "limit" "I" (.int tl1)) (HF_x1_value : Fld Z h0 x1 q0 "value" q8 .null) (HE_b1 : Exa Z h0 b1 q2) (HF_b1_value : Fld Z h0 b1 q3 "value" "[B" (.ref ab1)) (HF_b1_coder : Fld Z h0 b1 q3 "coder" "B" (.int 0)) (HF_b1_count : Fld Z h0 b1 q3 "count" "I" (.int tn1)) (HV_ab1 : Arv Z h0 ab1 kb1 .byte (16 : Int32) vs1 (.int 0)) (HV_a2 : Arv Z h0 a2 kc .char (3 : Int32) xs (.int 0)) (HS_java_lang_String_COMPACT_STRINGS : Sta Z h0 q4 q10 "Z" (.int wc)) (HS_jdk_internal_util_Preconditions_IOOBE_FORMATTER : Sta Z h0 q5 q12 q6 gv) (g_a1 : n0 ≤ a1) (g_ao : n0 ≤ ao) (g_x1 : n0 ≤ x1) (hp : pn = 0 ∨ pn = 1 ∨ pn = 2 ∨ pn = 3) (hxl : own_lat xs) (hwc : ¬ wc = 0) (hgv : gv.isRef = true) (hov : Ovr Z ko "com/example/uzor/uzor/StringValues$Value") (he1 : (tl1 - pn) < tn1) (hn_a1_ao : a1 ≠ ao) (hn_a1_x1 : a1 ≠ x1) (hn_ao_x1 : ao ≠ x1) (hn_b1_a1 : b1 ≠ a1) (hn_b1_ao : b1 ≠ ao) (hn_b1_x1 : b1 ≠ x1) (hn_ab1_a1 : ab1 ≠ a1) (hn_ab1_ao : ab1 ≠ ao) (hn_ab1_x1 : ab1 ≠ x1) (hn_a2_a1 : a2 ≠ a1) (hn_a2_ao : a2 ≠ ao) (hn_a2_x1 : a2 ≠ x1) :
    Met1 l n4 prog_34_method_3_code 6 none ws R_rmtp #[(.ref a1), (.ref a2), (.int 0), (.int pn)] Z h0 (Qtp Z a1 a2 pn ao ko dd x1 b1 ab1 kb1 tn1 vs1 tl1 kc xs wc gv h0 n0) := by
  refine Met1.enter (plainFor_of_name pn_4) (fun m => ef_rmtp m a1 a2 pn) fun p e s m below meth c s₁ hx hby hlk hret hml hown hnm hZ X0 e0 => ?_
  have N0 := Fr.nil n0
  have K0 := Keep.refl h0 [a1, ao, x1]
  show Fin p e below s _ _ _ (s₁.setTop (mkF m 0 #[rv a1, rv a2, iv 0, iv pn, .unset, .unset] []))
  refine Fin.step (fun _ k => Yo.iconst X0.here hx (hb hby d4_0) (Yo.istore X0.here hx (hb hby d4_1) rfl (l' := #[rv a1, rv a2, iv 0, iv pn, iv 0, .unset]) rfl (Yo.iconst X0.here hx (hb hby d4_3) (Yo.istore X0.here hx (hb hby d4_4) rfl (l' := #[rv a1, rv a2, iv 0, iv pn, iv 0, iv 0]) rfl (Yo.iload X0.here hx (hb hby d4_6) rfl (Yo.aloadN X0.here hx (hb hby d4_8) rfl rfl k)))))) ?_
  refine fget X0 hx hZ hown (W_ hw 26) e0 HF_a1_count (hb hby d4_9) fun Ty1 Xy1 ey1 => ?_
  refine Fin.step (fun _ k => Yo.icmpNo Xy1.here hx (hb hby d4_12) rfl (tlt ((by decide) : ((0 : Int32) < (1 : Int32)))).2.1 (Yo.iload Xy1.here hx (hb hby d4_15) rfl (Yo.aloadN Xy1.here hx (hb hby d4_17) rfl rfl k))) ?_
  refine fget Xy1 hx hZ hown (W_ hw 12) ey1 HF_a1_open (hb hby d4_18) fun Ty2 Xy2 ey2 => ?_
  refine Fin.step (fun _ k => Yo.iload Xy2.here hx (hb hby d4_21) rfl k) ?_
  refine fald Xy2 hx hZ ey2 HV_ao rfl (j := (0 : Int32)) (v := (.ref x1)) ⟨by decide, by decide⟩ rfl (hb hby d4_23) ?_
  refine Fin.step (fun _ k => Yo.aloadN Xy2.here hx (hb hby d4_24) rfl rfl (Yo.iloadN Xy2.here hx (hb hby d4_25) rfl (Yo.iloadN Xy2.here hx (hb hby d4_26) rfl k))) ?_
  obtain ⟨cqy4, qy4, qy4'⟩ := HE_x1.cell
  obtain ⟨_, Ty4, Lcy4, Xy4, hQy4, sty4⟩ := pack (privateHot Xy2 hx hZ (y := n10) hown (W_ hw 71) (W_ hw 72) (W_ hw 73) (W_ hw 38) (W_ hw 74) (by decide) (backOf (W := 1) (rmadp l Z a0 hw [] x1 a2 pn b1 tn1 tl1 h0 n0 Z0 HE_x1 HF_x1_text HF_x1_limit HF_x1_value HE_b1 HF_b1_count g_x1 he1) hZ (W_ hw 74) (W_ hw 39) (by decide) (by decide)) (g := (mkF m 27 #[rv a1, rv a2, iv 0, iv pn, iv 0, iv 0] [(.int pn), (.int 0), (.ref a2), (.ref x1), (.int 0)])) rfl (by rw [hml]; rfl) (Steps.refl _) (a := x1) (by rw [ey2]; exact qy4) qy4' (argsL := [(.ref a2), (.int 0), (.int pn)]) (rest := [(.int 0)]) (lenOf pd_18 rfl) rfl (lb rfl) (hb hby d4_27) (fun _ _ => ⟨rfl, ey2, (by decide : 0 + 0 ≤ _), (by decide : 0 + 0 ≤ _)⟩))
  obtain ⟨rfl, Nqy4, Kcy4, fy4_0, fy4_1⟩ := hQy4
  have Ny4 := Fr.app N0 Nqy4
  have Zy4 := Nat.le_trans Z0 Kcy4.1
  have Ky4 := K0.trans Kcy4 (allS m2 all0)
  refine Fin.step (sty4) ?_
  show Fin p e below s _ _ _ (Ty4.setTop (mkF m 30 #[rv a1, rv a2, iv 0, iv pn, iv 0, iv 0] [(.int 0), (.int 0)]))
  refine Fin.step (fun _ k => Yo.ifNo Xy4.here hx (hb hby d4_30) rfl ((if0 _ _).trans (teq ((by decide) : ((0 : Int32) = (0 : Int32)))).2) (Yo.iconst Xy4.here hx (hb hby d4_33) (Yo.goto Xy4.here hx (pc0 := 34) (pc' := 38) rfl (hb hby d4_34) (by decide) (by decide) (Yo.ior Xy4.here hx (hb hby d4_38) rfl k)))) ?_
  show Fin p e below s _ _ _ (Ty4.setTop (mkF m 39 #[rv a1, rv a2, iv 0, iv pn, iv 0, iv 0] [(.int 1)]))
  refine Fin.step (fun _ k => Yo.istore Xy4.here hx (hb hby d4_39) rfl (l' := #[rv a1, rv a2, iv 0, iv pn, iv 1, iv 0]) rfl (Yo.iinc Xy4.here hx (hb hby d4_41) rfl (l' := #[rv a1, rv a2, iv 0, iv pn, iv 1, iv 1]) rfl k)) ?_
  show Fin p e below s _ _ _ (Ty4.setTop (mkF m 44 #[rv a1, rv a2, iv 0, iv pn, iv 1, iv 1] []))
  refine Fin.step (fun _ k => Yo.goto Xy4.here hx (pc0 := 44) (pc' := 6) rfl (hb hby d4_44) (by decide) (by decide) (Yo.iload Xy4.here hx (hb hby d4_6) rfl (Yo.aloadN Xy4.here hx (hb hby d4_8) rfl rfl k))) ?_
  have ry6 := (HF_a1_count.keep Kcy4 (ninS hn_a1_x1 nin0))
  refine fget Xy4 hx hZ hown (W_ hw 26) rfl ry6 (hb hby d4_9) fun Ty5 Xy5 ey5 => ?_
  refine Fin.step (fun _ k => Yo.icmpYes Xy5.here hx (pc0 := 12) (pc' := 47) rfl (hb hby d4_12) rfl (flt ((by decide) : ¬ ((1 : Int32) < (1 : Int32)))).2.1 (by decide) (by decide) (Yo.iload Xy5.here hx (hb hby d4_47) rfl (Yo.ifNo Xy5.here hx (hb hby d4_49) rfl ((if0 _ _).trans (feq ((by decide) : ¬ ((1 : Int32) = (0 : Int32)))).1) (Yo.aloadN Xy5.here hx (hb hby d4_52) rfl rfl k)))) ?_
  have ry7 := (HF_a1_open.keep Kcy4 (ninS hn_a1_x1 nin0))
  have ry8 := (HF_a1_depth.keep Kcy4 (ninS hn_a1_x1 nin0))
  have ry9 := (HV_ao.keep Kcy4 (ninS hn_ao_x1 nin0))
  obtain ⟨cqy10, qy10, qy10'⟩ := (HE_a1.keep Kcy4).cell
  obtain ⟨_, Ty10, Lcy10, Xy10, hQy10, sty10⟩ := pack (Xy5.privateBack hx (y := n39) hown (mvT hZ (W_ hw 216)) (mvT hZ (W_ hw 217)) (mvT hZ (sel_of (NI.inst (W_ hw 2)) (W_ hw 217) (W_ hw 218) (by decide))) (Cond.privateMethod_at (mvP hZ (W_ hw 218) (args := #[]))) (mvT hZ (W_ hw 219)) (by decide) (backOf (W := 0) (rmlo1 l Z a0 hw [] a1 ao ko dd x1 Ty4.heap n0 Zy4 (HE_a1.keep Kcy4) ry7 ry8 ry6 ry9 (HE_x1.keep Kcy4) fy4_0 g_a1 g_ao hov hn_a1_ao (Ne.symm hn_ao_x1) (Ne.symm hn_a1_x1)) hZ (W_ hw 219) (W_ hw 3) (by decide) (by decide)) (g := (mkF m 53 #[rv a1, rv a2, iv 0, iv pn, iv 1, iv 1] [(.ref a1)])) rfl (by rw [hml]; rfl) (Steps.refl _) (a := a1) (by rw [ey5]; exact qy10) qy10' (argsL := []) (rest := []) (lenOf pd_7 rfl) rfl (lb rfl) (hb hby d4_53) (fun _ _ => ⟨rfl, ey5, (by decide : 0 + 0 ≤ _), (by decide : 0 + 0 ≤ _)⟩))
  obtain ⟨rfl, Nqy10, Kcy10, fy10_0, fy10_1, fy10_2, fy10_3⟩ := hQy10
  have Ny10 := Fr.app Ny4 Nqy10
  have Zy10 := Nat.le_trans Zy4 Kcy10.1
  have Ky10 := Ky4.trans Kcy10 (allS m0 (allS m1 all0))
  refine Fin.step (sty10) ?_
  show Fin p e below s _ _ _ (Ty10.setTop (mkF m 56 #[rv a1, rv a2, iv 0, iv pn, iv 1, iv 1] []))
  refine Fin.retV Xy10 hx hret hlk (hb hby d4_56) (by decide) (by decide) ?_
  show Qtp Z a1 a2 pn ao ko dd x1 b1 ab1 kb1 tn1 vs1 tl1 kc xs wc gv h0 n0 _ Ty10.heap _
  exact ⟨rfl, Ny10, Ky10, fy10_0, fy10_1, fy10_2, fy10_3, (fy4_0.keep Kcy10 (ninS (Ne.symm hn_a1_x1) (ninS (Ne.symm hn_ao_x1) nin0))), (fy4_1.keep Kcy10 (ninS (Ne.symm hn_a1_x1) (ninS (Ne.symm hn_ao_x1) nin0)))⟩
theorem ef_rmtoo (m : MethodId) (x0 : Addr) (x1 : Addr) (x3 : Int32) : entryFrame m #[(.ref x0), (.ref x1), (.int (0 : Int32)), (.int x3)] 6 = mkF m 0 #[.val (.ref x0), .val (.ref x1), .val (.int (0 : Int32)), .val (.int x3), .unset, .unset] [] := by first | (simp [entryFrame, mkF, argsToLocals, Value.category]; done) | rfl
abbrev R_rmtoo : Room := ({ frames := 5, cells := 0, slots := 0, locals := 79 } : Room)
def Qtoo (Z : State) (a1 a2 : Addr) (pn : Int32) (ao : Addr) (ko : ClassId) (dd : Int32) (x1 b1 ab1 : Addr) (kb1 : ClassId) (tn1 : Int32) (vs1 : List Value) (tl1 tm1 : Int32) (x2 b2 ab2 : Addr) (kb2 : ClassId) (tn2 : Int32) (vs2 : List Value) (tl2 tm2 : Int32) (kc : ClassId) (xs : List Value) (wc : Int32) (gv : Value) (h0 : Heap) (n0 : Nat) (v : Option Value) (h : Heap) (L : List Loc) : Prop := v = none ∧ Fr n0 L ∧ Keep h0 h [b1, ab1, b2, ab2] ∧ Fld Z h b1 q3 "value" "[B" (.ref ab1) ∧ Fld Z h b1 q3 "coder" "B" (.int 0) ∧ Fld Z h b1 q3 "count" "I" (.int tm1) ∧ Arv Z h ab1 kb1 .byte (16 : Int32) (own_app vs1 xs tn1.toNatClampNeg pn.toNatClampNeg) (.int 0) ∧ Fld Z h b2 q3 "value" "[B" (.ref ab2) ∧ Fld Z h b2 q3 "coder" "B" (.int 0) ∧ Fld Z h b2 q3 "count" "I" (.int tm2) ∧ Arv Z h ab2 kb2 .byte (16 : Int32) (own_app vs2 xs tn2.toNatClampNeg pn.toNatClampNeg) (.int 0)
set_option maxRecDepth 65536 in
set_option maxHeartbeats 40000000 in
theorem rmtoo (l : Launch) (Z : State) (a0 : Array Value) (hw : ∀ d ∈ tables_1, d.before a0 Z = true) (ws : List Jvm.Cond) (a1 a2 : Addr) (pn : Int32) (ao : Addr) (ko : ClassId) (dd : Int32) (x1 b1 ab1 : Addr) (kb1 : ClassId) (tn1 : Int32) (vs1 : List Value) (tl1 tm1 : Int32) (x2 b2 ab2 : Addr) (kb2 : ClassId) (tn2 : Int32) (vs2 : List Value) (tl2 tm2 : Int32) (kc : ClassId) (xs : List Value) (wc : Int32) (gv : Value) (h0 : Heap) (n0 : Nat) (Z0 : n0 ≤ h0.size) (HE_a1 : Exa Z h0 a1 q1) (HF_a1_open : Fld Z h0 a1 q1 "open" q9 (.ref ao)) (HF_a1_depth : Fld Z h0 a1 q1 "depth" "I" (.int dd)) (HF_a1_count : Fld Z h0 a1 q1 "count" "I" (.int 2)) (HV_ao : Arv Z h0 ao ko (.object "com/example/uzor/uzor/StringValues$Value") (4 : Int32) [(.ref x1), (.ref x2), .null, .null] .null) (HE_x1 : Exa Z h0 x1 q0) (HF_x1_text : Fld Z h0 x1 q0 "text" q7 (.ref b1)) (HF_x1_limit : Fld Z h0 x1 q0 "limit" "I" (.int tl1)) (HF_x1_value : Fld Z h0 x1 q0 "value" q8 .null) (HE_b1 : Exa Z h0 b1 q2) (HF_b1_value : Fld Z h0 b1 q3 "value" "[B" (.ref ab1)) (HF_b1_coder : Fld Z h0 b1 q3 "coder" "B" (.int 0)) (HF_b1_count : Fld Z h0 b1 q3 "count" "I" (.int tn1)) (HV_ab1 : Arv Z h0 ab1 kb1 .byte (16 : Int32) vs1 (.int 0)) (HE_x2 : Exa Z h0 x2 q0) (HF_x2_text : Fld Z h0 x2 q0 "text" q7 (.ref b2)) (HF_x2_limit : Fld Z h0 x2 q0 "limit" "I" (.int tl2)) (HF_x2_value : Fld Z h0 x2 q0 "value" q8 .null) (HE_b2 : Exa Z h0 b2 q2) (HF_b2_value : Fld Z h0 b2 q3 "value" "[B" (.ref ab2)) (HF_b2_coder : Fld Z h0 b2 q3 "coder" "B" (.int 0)) (HF_b2_count : Fld Z h0 b2 q3 "count" "I" (.int tn2)) (HV_ab2 : Arv Z h0 ab2 kb2 .byte (16 : Int32) vs2 (.int 0)) (HV_a2 : Arv Z h0 a2 kc .char (3 : Int32) xs (.int 0)) (HS_java_lang_String_COMPACT_STRINGS : Sta Z h0 q4 q10 "Z" (.int wc)) (HS_jdk_internal_util_Preconditions_IOOBE_FORMATTER : Sta Z h0 q5 q12 q6 gv) (g_b1 : n0 ≤ b1) (g_ab1 : n0 ≤ ab1) (g_b2 : n0 ≤ b2) (g_ab2 : n0 ≤ ab2) (hp : pn = 0 ∨ pn = 1 ∨ pn = 2 ∨ pn = 3) (hxl : own_lat xs) (hwc : ¬ wc = 0) (hgv : gv.isRef = true) (hov : Ovr Z ko "com/example/uzor/uzor/StringValues$Value") (ht1 : 0 ≤ tn1.toInt ∧ tn1.toInt ≤ 3) (hl1 : vs1.length = 16) (hm1 : tm1 = tn1 + pn) (he1 : ¬ (tl1 - pn) < tn1) (ht2 : 0 ≤ tn2.toInt ∧ tn2.toInt ≤ 3) (hl2 : vs2.length = 16) (hm2 : tm2 = tn2 + pn) (he2 : ¬ (tl2 - pn) < tn2) (hn_a1_ao : a1 ≠ ao) (hn_a1_b1 : a1 ≠ b1) (hn_a1_ab1 : a1 ≠ ab1) (hn_a1_b2 : a1 ≠ b2) (hn_a1_ab2 : a1 ≠ ab2) (hn_ao_b1 : ao ≠ b1) (hn_ao_ab1 : ao ≠ ab1) (hn_ao_b2 : ao ≠ b2) (hn_ao_ab2 : ao ≠ ab2) (hn_x1_b1 : x1 ≠ b1) (hn_x1_ab1 : x1 ≠ ab1) (hn_x1_b2 : x1 ≠ b2) (hn_x1_ab2 : x1 ≠ ab2) (hn_b1_ab1 : b1 ≠ ab1) (hn_b1_b2 : b1 ≠ b2) (hn_b1_ab2 : b1 ≠ ab2) (hn_ab1_b2 : ab1 ≠ b2) (hn_ab1_ab2 : ab1 ≠ ab2) (hn_x2_b1 : x2 ≠ b1) (hn_x2_ab1 : x2 ≠ ab1) (hn_x2_b2 : x2 ≠ b2) (hn_x2_ab2 : x2 ≠ ab2) (hn_b2_ab2 : b2 ≠ ab2) (hn_a2_b1 : a2 ≠ b1) (hn_a2_ab1 : a2 ≠ ab1) (hn_a2_b2 : a2 ≠ b2) (hn_a2_ab2 : a2 ≠ ab2) :
    Met1 l n4 prog_34_method_3_code 6 none ws R_rmtoo #[(.ref a1), (.ref a2), (.int 0), (.int pn)] Z h0 (Qtoo Z a1 a2 pn ao ko dd x1 b1 ab1 kb1 tn1 vs1 tl1 tm1 x2 b2 ab2 kb2 tn2 vs2 tl2 tm2 kc xs wc gv h0 n0) := by
  refine Met1.enter (plainFor_of_name pn_4) (fun m => ef_rmtoo m a1 a2 pn) fun p e s m below meth c s₁ hx hby hlk hret hml hown hnm hZ X0 e0 => ?_
  have N0 := Fr.nil n0
  have K0 := Keep.refl h0 [b1, ab1, b2, ab2]
  show Fin p e below s _ _ _ (s₁.setTop (mkF m 0 #[rv a1, rv a2, iv 0, iv pn, .unset, .unset] []))
  refine Fin.step (fun _ k => Yo.iconst X0.here hx (hb hby d4_0) (Yo.istore X0.here hx (hb hby d4_1) rfl (l' := #[rv a1, rv a2, iv 0, iv pn, iv 0, .unset]) rfl (Yo.iconst X0.here hx (hb hby d4_3) (Yo.istore X0.here hx (hb hby d4_4) rfl (l' := #[rv a1, rv a2, iv 0, iv pn, iv 0, iv 0]) rfl (Yo.iload X0.here hx (hb hby d4_6) rfl (Yo.aloadN X0.here hx (hb hby d4_8) rfl rfl k)))))) ?_
  refine fget X0 hx hZ hown (W_ hw 26) e0 HF_a1_count (hb hby d4_9) fun Ty1 Xy1 ey1 => ?_
  refine Fin.step (fun _ k => Yo.icmpNo Xy1.here hx (hb hby d4_12) rfl (tlt ((by decide) : ((0 : Int32) < (2 : Int32)))).2.1 (Yo.iload Xy1.here hx (hb hby d4_15) rfl (Yo.aloadN Xy1.here hx (hb hby d4_17) rfl rfl k))) ?_
  refine fget Xy1 hx hZ hown (W_ hw 12) ey1 HF_a1_open (hb hby d4_18) fun Ty2 Xy2 ey2 => ?_
  refine Fin.step (fun _ k => Yo.iload Xy2.here hx (hb hby d4_21) rfl k) ?_
  refine fald Xy2 hx hZ ey2 HV_ao rfl (j := (0 : Int32)) (v := (.ref x1)) ⟨by decide, by decide⟩ rfl (hb hby d4_23) ?_
  refine Fin.step (fun _ k => Yo.aloadN Xy2.here hx (hb hby d4_24) rfl rfl (Yo.iloadN Xy2.here hx (hb hby d4_25) rfl (Yo.iloadN Xy2.here hx (hb hby d4_26) rfl k))) ?_
  obtain ⟨cqy4, qy4, qy4'⟩ := HE_x1.cell
  obtain ⟨_, Ty4, Lcy4, Xy4, hQy4, sty4⟩ := pack (privateHot Xy2 hx hZ (y := n10) hown (W_ hw 71) (W_ hw 72) (W_ hw 73) (W_ hw 38) (W_ hw 74) (by decide) (backOf (W := 1) (rmado l Z a0 hw [] x1 a2 pn b1 ab1 kb1 tn1 vs1 kc xs tl1 tm1 wc gv h0 n0 Z0 HE_x1 HF_x1_text HF_x1_limit HE_b1 HF_b1_value HF_b1_coder HF_b1_count HV_ab1 HV_a2 HS_java_lang_String_COMPACT_STRINGS HS_jdk_internal_util_Preconditions_IOOBE_FORMATTER g_b1 g_ab1 hp ht1 hl1 hxl hm1 hwc hgv he1 hn_b1_ab1 hn_a2_ab1) hZ (W_ hw 74) (W_ hw 39) (by decide) (by decide)) (g := (mkF m 27 #[rv a1, rv a2, iv 0, iv pn, iv 0, iv 0] [(.int pn), (.int 0), (.ref a2), (.ref x1), (.int 0)])) rfl (by rw [hml]; rfl) (Steps.refl _) (a := x1) (by rw [ey2]; exact qy4) qy4' (argsL := [(.ref a2), (.int 0), (.int pn)]) (rest := [(.int 0)]) (lenOf pd_18 rfl) rfl (lb rfl) (hb hby d4_27) (fun _ _ => ⟨rfl, ey2, (by decide : 0 + 0 ≤ _), (by decide : 0 + 0 ≤ _)⟩))
  obtain ⟨rfl, Nqy4, Kcy4, fy4_0, fy4_1, fy4_2, fy4_3⟩ := hQy4
  have Ny4 := Fr.app N0 Nqy4
  have Zy4 := Nat.le_trans Z0 Kcy4.1
  have Ky4 := K0.trans Kcy4 (allS m0 (allS m1 all0))
  refine Fin.step (sty4) ?_
  show Fin p e below s _ _ _ (Ty4.setTop (mkF m 30 #[rv a1, rv a2, iv 0, iv pn, iv 0, iv 0] [(.int 1), (.int 0)]))
  refine Fin.step (fun _ k => Yo.ifYes Xy4.here hx (pc0 := 30) (pc' := 37) rfl (hb hby d4_30) rfl ((if0 _ _).trans (feq ((by decide) : ¬ ((1 : Int32) = (0 : Int32)))).2) (by decide) (by decide) (Yo.iconst Xy4.here hx (hb hby d4_37) (Yo.ior Xy4.here hx (hb hby d4_38) rfl k))) ?_
  show Fin p e below s _ _ _ (Ty4.setTop (mkF m 39 #[rv a1, rv a2, iv 0, iv pn, iv 0, iv 0] [(.int 0)]))
  refine Fin.step (fun _ k => Yo.istore Xy4.here hx (hb hby d4_39) rfl (l' := #[rv a1, rv a2, iv 0, iv pn, iv 0, iv 0]) rfl (Yo.iinc Xy4.here hx (hb hby d4_41) rfl (l' := #[rv a1, rv a2, iv 0, iv pn, iv 0, iv 1]) rfl k)) ?_
  show Fin p e below s _ _ _ (Ty4.setTop (mkF m 44 #[rv a1, rv a2, iv 0, iv pn, iv 0, iv 1] []))
  refine Fin.step (fun _ k => Yo.goto Xy4.here hx (pc0 := 44) (pc' := 6) rfl (hb hby d4_44) (by decide) (by decide) (Yo.iload Xy4.here hx (hb hby d4_6) rfl (Yo.aloadN Xy4.here hx (hb hby d4_8) rfl rfl k))) ?_
  have ry6 := (HF_a1_count.keep Kcy4 (ninS hn_a1_b1 (ninS hn_a1_ab1 nin0)))
  refine fget Xy4 hx hZ hown (W_ hw 26) rfl ry6 (hb hby d4_9) fun Ty5 Xy5 ey5 => ?_
  refine Fin.step (fun _ k => Yo.icmpNo Xy5.here hx (hb hby d4_12) rfl (tlt ((by decide) : ((1 : Int32) < (2 : Int32)))).2.1 (Yo.iload Xy5.here hx (hb hby d4_15) rfl (Yo.aloadN Xy5.here hx (hb hby d4_17) rfl rfl k))) ?_
  have ry8 := (HF_a1_open.keep Kcy4 (ninS hn_a1_b1 (ninS hn_a1_ab1 nin0)))
  refine fget Xy5 hx hZ hown (W_ hw 12) ey5 ry8 (hb hby d4_18) fun Ty7 Xy7 ey7 => ?_
  refine Fin.step (fun _ k => Yo.iload Xy7.here hx (hb hby d4_21) rfl k) ?_
  have ry10 := (HV_ao.keep Kcy4 (ninS hn_ao_b1 (ninS hn_ao_ab1 nin0)))
  refine fald Xy7 hx hZ ey7 ry10 rfl (j := (1 : Int32)) (v := (.ref x2)) ⟨by decide, by decide⟩ rfl (hb hby d4_23) ?_
  refine Fin.step (fun _ k => Yo.aloadN Xy7.here hx (hb hby d4_24) rfl rfl (Yo.iloadN Xy7.here hx (hb hby d4_25) rfl (Yo.iloadN Xy7.here hx (hb hby d4_26) rfl k))) ?_
  have ry11 := (HF_x2_text.keep Kcy4 (ninS hn_x2_b1 (ninS hn_x2_ab1 nin0)))
  have ry12 := (HF_x2_limit.keep Kcy4 (ninS hn_x2_b1 (ninS hn_x2_ab1 nin0)))
  have ry13 := (HF_b2_value.keep Kcy4 (ninS (Ne.symm hn_b1_b2) (ninS (Ne.symm hn_ab1_b2) nin0)))
  have ry14 := (HF_b2_coder.keep Kcy4 (ninS (Ne.symm hn_b1_b2) (ninS (Ne.symm hn_ab1_b2) nin0)))
  have ry15 := (HF_b2_count.keep Kcy4 (ninS (Ne.symm hn_b1_b2) (ninS (Ne.symm hn_ab1_b2) nin0)))
  have ry16 := (HV_ab2.keep Kcy4 (ninS (Ne.symm hn_b1_ab2) (ninS (Ne.symm hn_ab1_ab2) nin0)))
  have ry17 := (HV_a2.keep Kcy4 (ninS hn_a2_b1 (ninS hn_a2_ab1 nin0)))
  have ry18 := (Sta_keepW HS_java_lang_String_COMPACT_STRINGS Kcy4 (allS (nsE HE_b1) (allS (nsV HV_ab1) all0)))
  have ry19 := (Sta_keepW HS_jdk_internal_util_Preconditions_IOOBE_FORMATTER Kcy4 (allS (nsE HE_b1) (allS (nsV HV_ab1) all0)))
  obtain ⟨cqy20, qy20, qy20'⟩ := (HE_x2.keep Kcy4).cell
  obtain ⟨_, Ty20, Lcy20, Xy20, hQy20, sty20⟩ := pack (privateHot Xy7 hx hZ (y := n10) hown (W_ hw 71) (W_ hw 72) (W_ hw 73) (W_ hw 38) (W_ hw 74) (by decide) (backOf (W := 1) (rmado l Z a0 hw [] x2 a2 pn b2 ab2 kb2 tn2 vs2 kc xs tl2 tm2 wc gv Ty4.heap n0 Zy4 (HE_x2.keep Kcy4) ry11 ry12 (HE_b2.keep Kcy4) ry13 ry14 ry15 ry16 ry17 ry18 ry19 g_b2 g_ab2 hp ht2 hl2 hxl hm2 hwc hgv he2 hn_b2_ab2 hn_a2_ab2) hZ (W_ hw 74) (W_ hw 39) (by decide) (by decide)) (g := (mkF m 27 #[rv a1, rv a2, iv 0, iv pn, iv 0, iv 1] [(.int pn), (.int 0), (.ref a2), (.ref x2), (.int 0)])) rfl (by rw [hml]; rfl) (Steps.refl _) (a := x2) (by rw [ey7]; exact qy20) qy20' (argsL := [(.ref a2), (.int 0), (.int pn)]) (rest := [(.int 0)]) (lenOf pd_18 rfl) rfl (lb rfl) (hb hby d4_27) (fun _ _ => ⟨rfl, ey7, (by decide : 0 + 0 ≤ _), (by decide : 0 + 0 ≤ _)⟩))
  obtain ⟨rfl, Nqy20, Kcy20, fy20_0, fy20_1, fy20_2, fy20_3⟩ := hQy20
  have Ny20 := Fr.app Ny4 Nqy20
  have Zy20 := Nat.le_trans Zy4 Kcy20.1
  have Ky20 := Ky4.trans Kcy20 (allS m2 (allS m3 all0))
  refine Fin.step (sty20) ?_
  show Fin p e below s _ _ _ (Ty20.setTop (mkF m 30 #[rv a1, rv a2, iv 0, iv pn, iv 0, iv 1] [(.int 1), (.int 0)]))
  refine Fin.step (fun _ k => Yo.ifYes Xy20.here hx (pc0 := 30) (pc' := 37) rfl (hb hby d4_30) rfl ((if0 _ _).trans (feq ((by decide) : ¬ ((1 : Int32) = (0 : Int32)))).2) (by decide) (by decide) (Yo.iconst Xy20.here hx (hb hby d4_37) (Yo.ior Xy20.here hx (hb hby d4_38) rfl k))) ?_
  show Fin p e below s _ _ _ (Ty20.setTop (mkF m 39 #[rv a1, rv a2, iv 0, iv pn, iv 0, iv 1] [(.int 0)]))
  refine Fin.step (fun _ k => Yo.istore Xy20.here hx (hb hby d4_39) rfl (l' := #[rv a1, rv a2, iv 0, iv pn, iv 0, iv 1]) rfl (Yo.iinc Xy20.here hx (hb hby d4_41) rfl (l' := #[rv a1, rv a2, iv 0, iv pn, iv 0, iv 2]) rfl k)) ?_
  show Fin p e below s _ _ _ (Ty20.setTop (mkF m 44 #[rv a1, rv a2, iv 0, iv pn, iv 0, iv 2] []))
  refine Fin.step (fun _ k => Yo.goto Xy20.here hx (pc0 := 44) (pc' := 6) rfl (hb hby d4_44) (by decide) (by decide) (Yo.iload Xy20.here hx (hb hby d4_6) rfl (Yo.aloadN Xy20.here hx (hb hby d4_8) rfl rfl k))) ?_
  have ry22 := (ry6.keep Kcy20 (ninS hn_a1_b2 (ninS hn_a1_ab2 nin0)))
  refine fget Xy20 hx hZ hown (W_ hw 26) rfl ry22 (hb hby d4_9) fun Ty21 Xy21 ey21 => ?_
  refine Fin.step (fun _ k => Yo.icmpYes Xy21.here hx (pc0 := 12) (pc' := 47) rfl (hb hby d4_12) rfl (flt ((by decide) : ¬ ((2 : Int32) < (2 : Int32)))).2.1 (by decide) (by decide) (Yo.iload Xy21.here hx (hb hby d4_47) rfl (Yo.ifYes Xy21.here hx (pc0 := 49) (pc' := 56) rfl (hb hby d4_49) rfl ((if0 _ _).trans (teq ((by decide) : ((0 : Int32) = (0 : Int32)))).1) (by decide) (by decide) k))) ?_
  refine Fin.retV Xy21 hx hret hlk (hb hby d4_56) (by decide) (by decide) ?_
  show Qtoo Z a1 a2 pn ao ko dd x1 b1 ab1 kb1 tn1 vs1 tl1 tm1 x2 b2 ab2 kb2 tn2 vs2 tl2 tm2 kc xs wc gv h0 n0 _ Ty21.heap _
  rw [ey21]
  exact ⟨rfl, Ny20, Ky20, (fy4_0.keep Kcy20 (ninS hn_b1_b2 (ninS hn_b1_ab2 nin0))), (fy4_1.keep Kcy20 (ninS hn_b1_b2 (ninS hn_b1_ab2 nin0))), (fy4_2.keep Kcy20 (ninS hn_b1_b2 (ninS hn_b1_ab2 nin0))), (fy4_3.keep Kcy20 (ninS hn_ab1_b2 (ninS hn_ab1_ab2 nin0))), fy20_0, fy20_1, fy20_2, fy20_3⟩
theorem ef_rmtop (m : MethodId) (x0 : Addr) (x1 : Addr) (x3 : Int32) : entryFrame m #[(.ref x0), (.ref x1), (.int (0 : Int32)), (.int x3)] 6 = mkF m 0 #[.val (.ref x0), .val (.ref x1), .val (.int (0 : Int32)), .val (.int x3), .unset, .unset] [] := by first | (simp [entryFrame, mkF, argsToLocals, Value.category]; done) | rfl
abbrev R_rmtop : Room := ({ frames := 5, cells := 0, slots := 0, locals := 79 } : Room)
def Qtop (Z : State) (a1 a2 : Addr) (pn : Int32) (ao : Addr) (ko : ClassId) (dd : Int32) (x1 b1 ab1 : Addr) (kb1 : ClassId) (tn1 : Int32) (vs1 : List Value) (tl1 tm1 : Int32) (x2 b2 ab2 : Addr) (kb2 : ClassId) (tn2 : Int32) (vs2 : List Value) (tl2 : Int32) (kc : ClassId) (xs : List Value) (wc : Int32) (gv : Value) (h0 : Heap) (n0 : Nat) (v : Option Value) (h : Heap) (L : List Loc) : Prop := v = none ∧ Fr n0 L ∧ Keep h0 h [a1, ao, b1, ab1, x2] ∧ Fld Z h a1 q1 "open" q9 (.ref ao) ∧ Fld Z h a1 q1 "depth" "I" (.int dd) ∧ Fld Z h a1 q1 "count" "I" (.int 1) ∧ Arv Z h ao ko (.object "com/example/uzor/uzor/StringValues$Value") (4 : Int32) [(.ref x1), .null, .null, .null] .null ∧ Fld Z h b1 q3 "value" "[B" (.ref ab1) ∧ Fld Z h b1 q3 "coder" "B" (.int 0) ∧ Fld Z h b1 q3 "count" "I" (.int tm1) ∧ Arv Z h ab1 kb1 .byte (16 : Int32) (own_app vs1 xs tn1.toNatClampNeg pn.toNatClampNeg) (.int 0) ∧ Fld Z h x2 q0 "text" q7 .null ∧ Fld Z h x2 q0 "value" q8 .null
set_option maxRecDepth 65536 in
set_option maxHeartbeats 40000000 in
theorem rmtop (l : Launch) (Z : State) (a0 : Array Value) (hw : ∀ d ∈ tables_1, d.before a0 Z = true) (ws : List Jvm.Cond) (a1 a2 : Addr) (pn : Int32) (ao : Addr) (ko : ClassId) (dd : Int32) (x1 b1 ab1 : Addr) (kb1 : ClassId) (tn1 : Int32) (vs1 : List Value) (tl1 tm1 : Int32) (x2 b2 ab2 : Addr) (kb2 : ClassId) (tn2 : Int32) (vs2 : List Value) (tl2 : Int32) (kc : ClassId) (xs : List Value) (wc : Int32) (gv : Value) (h0 : Heap) (n0 : Nat) (Z0 : n0 ≤ h0.size) (HE_a1 : Exa Z h0 a1 q1) (HF_a1_open : Fld Z h0 a1 q1 "open" q9 (.ref ao)) (HF_a1_depth : Fld Z h0 a1 q1 "depth" "I" (.int dd)) (HF_a1_count : Fld Z h0 a1 q1 "count" "I" (.int 2)) (HV_ao : Arv Z h0 ao ko (.object "com/example/uzor/uzor/StringValues$Value") (4 : Int32) [(.ref x1), (.ref x2), .null, .null] .null) (HE_x1 : Exa Z h0 x1 q0) (HF_x1_text : Fld Z h0 x1 q0 "text" q7 (.ref b1)) (HF_x1_limit : Fld Z h0 x1 q0 "limit" "I" (.int tl1)) (HF_x1_value : Fld Z h0 x1 q0 "value" q8 .null) (HE_b1 : Exa Z h0 b1 q2) (HF_b1_value : Fld Z h0 b1 q3 "value" "[B" (.ref ab1)) (HF_b1_coder : Fld Z h0 b1 q3 "coder" "B" (.int 0)) (HF_b1_count : Fld Z h0 b1 q3 "count" "I" (.int tn1)) (HV_ab1 : Arv Z h0 ab1 kb1 .byte (16 : Int32) vs1 (.int 0)) (HE_x2 : Exa Z h0 x2 q0) (HF_x2_text : Fld Z h0 x2 q0 "text" q7 (.ref b2)) (HF_x2_limit : Fld Z h0 x2 q0 "limit" "I" (.int tl2)) (HF_x2_value : Fld Z h0 x2 q0 "value" q8 .null) (HE_b2 : Exa Z h0 b2 q2) (HF_b2_value : Fld Z h0 b2 q3 "value" "[B" (.ref ab2)) (HF_b2_coder : Fld Z h0 b2 q3 "coder" "B" (.int 0)) (HF_b2_count : Fld Z h0 b2 q3 "count" "I" (.int tn2)) (HV_ab2 : Arv Z h0 ab2 kb2 .byte (16 : Int32) vs2 (.int 0)) (HV_a2 : Arv Z h0 a2 kc .char (3 : Int32) xs (.int 0)) (HS_java_lang_String_COMPACT_STRINGS : Sta Z h0 q4 q10 "Z" (.int wc)) (HS_jdk_internal_util_Preconditions_IOOBE_FORMATTER : Sta Z h0 q5 q12 q6 gv) (g_a1 : n0 ≤ a1) (g_ao : n0 ≤ ao) (g_b1 : n0 ≤ b1) (g_ab1 : n0 ≤ ab1) (g_x2 : n0 ≤ x2) (hp : pn = 0 ∨ pn = 1 ∨ pn = 2 ∨ pn = 3) (hxl : own_lat xs) (hwc : ¬ wc = 0) (hgv : gv.isRef = true) (hov : Ovr Z ko "com/example/uzor/uzor/StringValues$Value") (ht1 : 0 ≤ tn1.toInt ∧ tn1.toInt ≤ 3) (hl1 : vs1.length = 16) (hm1 : tm1 = tn1 + pn) (he1 : ¬ (tl1 - pn) < tn1) (he2 : (tl2 - pn) < tn2) (hn_a1_ao : a1 ≠ ao) (hn_a1_b1 : a1 ≠ b1) (hn_a1_ab1 : a1 ≠ ab1) (hn_a1_x2 : a1 ≠ x2) (hn_ao_b1 : ao ≠ b1) (hn_ao_ab1 : ao ≠ ab1) (hn_ao_x2 : ao ≠ x2) (hn_x1_a1 : x1 ≠ a1) (hn_x1_ao : x1 ≠ ao) (hn_x1_b1 : x1 ≠ b1) (hn_x1_ab1 : x1 ≠ ab1) (hn_x1_x2 : x1 ≠ x2) (hn_b1_ab1 : b1 ≠ ab1) (hn_b1_x2 : b1 ≠ x2) (hn_ab1_x2 : ab1 ≠ x2) (hn_b2_a1 : b2 ≠ a1) (hn_b2_ao : b2 ≠ ao) (hn_b2_b1 : b2 ≠ b1) (hn_b2_ab1 : b2 ≠ ab1) (hn_b2_x2 : b2 ≠ x2) (hn_ab2_a1 : ab2 ≠ a1) (hn_ab2_ao : ab2 ≠ ao) (hn_ab2_b1 : ab2 ≠ b1) (hn_ab2_ab1 : ab2 ≠ ab1) (hn_ab2_x2 : ab2 ≠ x2) (hn_a2_a1 : a2 ≠ a1) (hn_a2_ao : a2 ≠ ao) (hn_a2_b1 : a2 ≠ b1) (hn_a2_ab1 : a2 ≠ ab1) (hn_a2_x2 : a2 ≠ x2) :
    Met1 l n4 prog_34_method_3_code 6 none ws R_rmtop #[(.ref a1), (.ref a2), (.int 0), (.int pn)] Z h0 (Qtop Z a1 a2 pn ao ko dd x1 b1 ab1 kb1 tn1 vs1 tl1 tm1 x2 b2 ab2 kb2 tn2 vs2 tl2 kc xs wc gv h0 n0) := by
  refine Met1.enter (plainFor_of_name pn_4) (fun m => ef_rmtop m a1 a2 pn) fun p e s m below meth c s₁ hx hby hlk hret hml hown hnm hZ X0 e0 => ?_
  have N0 := Fr.nil n0
  have K0 := Keep.refl h0 [a1, ao, b1, ab1, x2]
  show Fin p e below s _ _ _ (s₁.setTop (mkF m 0 #[rv a1, rv a2, iv 0, iv pn, .unset, .unset] []))
  refine Fin.step (fun _ k => Yo.iconst X0.here hx (hb hby d4_0) (Yo.istore X0.here hx (hb hby d4_1) rfl (l' := #[rv a1, rv a2, iv 0, iv pn, iv 0, .unset]) rfl (Yo.iconst X0.here hx (hb hby d4_3) (Yo.istore X0.here hx (hb hby d4_4) rfl (l' := #[rv a1, rv a2, iv 0, iv pn, iv 0, iv 0]) rfl (Yo.iload X0.here hx (hb hby d4_6) rfl (Yo.aloadN X0.here hx (hb hby d4_8) rfl rfl k)))))) ?_
  refine fget X0 hx hZ hown (W_ hw 26) e0 HF_a1_count (hb hby d4_9) fun Ty1 Xy1 ey1 => ?_
  refine Fin.step (fun _ k => Yo.icmpNo Xy1.here hx (hb hby d4_12) rfl (tlt ((by decide) : ((0 : Int32) < (2 : Int32)))).2.1 (Yo.iload Xy1.here hx (hb hby d4_15) rfl (Yo.aloadN Xy1.here hx (hb hby d4_17) rfl rfl k))) ?_
  refine fget Xy1 hx hZ hown (W_ hw 12) ey1 HF_a1_open (hb hby d4_18) fun Ty2 Xy2 ey2 => ?_
  refine Fin.step (fun _ k => Yo.iload Xy2.here hx (hb hby d4_21) rfl k) ?_
  refine fald Xy2 hx hZ ey2 HV_ao rfl (j := (0 : Int32)) (v := (.ref x1)) ⟨by decide, by decide⟩ rfl (hb hby d4_23) ?_
  refine Fin.step (fun _ k => Yo.aloadN Xy2.here hx (hb hby d4_24) rfl rfl (Yo.iloadN Xy2.here hx (hb hby d4_25) rfl (Yo.iloadN Xy2.here hx (hb hby d4_26) rfl k))) ?_
  obtain ⟨cqy4, qy4, qy4'⟩ := HE_x1.cell
  obtain ⟨_, Ty4, Lcy4, Xy4, hQy4, sty4⟩ := pack (privateHot Xy2 hx hZ (y := n10) hown (W_ hw 71) (W_ hw 72) (W_ hw 73) (W_ hw 38) (W_ hw 74) (by decide) (backOf (W := 1) (rmado l Z a0 hw [] x1 a2 pn b1 ab1 kb1 tn1 vs1 kc xs tl1 tm1 wc gv h0 n0 Z0 HE_x1 HF_x1_text HF_x1_limit HE_b1 HF_b1_value HF_b1_coder HF_b1_count HV_ab1 HV_a2 HS_java_lang_String_COMPACT_STRINGS HS_jdk_internal_util_Preconditions_IOOBE_FORMATTER g_b1 g_ab1 hp ht1 hl1 hxl hm1 hwc hgv he1 hn_b1_ab1 hn_a2_ab1) hZ (W_ hw 74) (W_ hw 39) (by decide) (by decide)) (g := (mkF m 27 #[rv a1, rv a2, iv 0, iv pn, iv 0, iv 0] [(.int pn), (.int 0), (.ref a2), (.ref x1), (.int 0)])) rfl (by rw [hml]; rfl) (Steps.refl _) (a := x1) (by rw [ey2]; exact qy4) qy4' (argsL := [(.ref a2), (.int 0), (.int pn)]) (rest := [(.int 0)]) (lenOf pd_18 rfl) rfl (lb rfl) (hb hby d4_27) (fun _ _ => ⟨rfl, ey2, (by decide : 0 + 0 ≤ _), (by decide : 0 + 0 ≤ _)⟩))
  obtain ⟨rfl, Nqy4, Kcy4, fy4_0, fy4_1, fy4_2, fy4_3⟩ := hQy4
  have Ny4 := Fr.app N0 Nqy4
  have Zy4 := Nat.le_trans Z0 Kcy4.1
  have Ky4 := K0.trans Kcy4 (allS m2 (allS m3 all0))
  refine Fin.step (sty4) ?_
  show Fin p e below s _ _ _ (Ty4.setTop (mkF m 30 #[rv a1, rv a2, iv 0, iv pn, iv 0, iv 0] [(.int 1), (.int 0)]))
  refine Fin.step (fun _ k => Yo.ifYes Xy4.here hx (pc0 := 30) (pc' := 37) rfl (hb hby d4_30) rfl ((if0 _ _).trans (feq ((by decide) : ¬ ((1 : Int32) = (0 : Int32)))).2) (by decide) (by decide) (Yo.iconst Xy4.here hx (hb hby d4_37) (Yo.ior Xy4.here hx (hb hby d4_38) rfl k))) ?_
  show Fin p e below s _ _ _ (Ty4.setTop (mkF m 39 #[rv a1, rv a2, iv 0, iv pn, iv 0, iv 0] [(.int 0)]))
  refine Fin.step (fun _ k => Yo.istore Xy4.here hx (hb hby d4_39) rfl (l' := #[rv a1, rv a2, iv 0, iv pn, iv 0, iv 0]) rfl (Yo.iinc Xy4.here hx (hb hby d4_41) rfl (l' := #[rv a1, rv a2, iv 0, iv pn, iv 0, iv 1]) rfl k)) ?_
  show Fin p e below s _ _ _ (Ty4.setTop (mkF m 44 #[rv a1, rv a2, iv 0, iv pn, iv 0, iv 1] []))
  refine Fin.step (fun _ k => Yo.goto Xy4.here hx (pc0 := 44) (pc' := 6) rfl (hb hby d4_44) (by decide) (by decide) (Yo.iload Xy4.here hx (hb hby d4_6) rfl (Yo.aloadN Xy4.here hx (hb hby d4_8) rfl rfl k))) ?_
  have ry6 := (HF_a1_count.keep Kcy4 (ninS hn_a1_b1 (ninS hn_a1_ab1 nin0)))
  refine fget Xy4 hx hZ hown (W_ hw 26) rfl ry6 (hb hby d4_9) fun Ty5 Xy5 ey5 => ?_
  refine Fin.step (fun _ k => Yo.icmpNo Xy5.here hx (hb hby d4_12) rfl (tlt ((by decide) : ((1 : Int32) < (2 : Int32)))).2.1 (Yo.iload Xy5.here hx (hb hby d4_15) rfl (Yo.aloadN Xy5.here hx (hb hby d4_17) rfl rfl k))) ?_
  have ry8 := (HF_a1_open.keep Kcy4 (ninS hn_a1_b1 (ninS hn_a1_ab1 nin0)))
  refine fget Xy5 hx hZ hown (W_ hw 12) ey5 ry8 (hb hby d4_18) fun Ty7 Xy7 ey7 => ?_
  refine Fin.step (fun _ k => Yo.iload Xy7.here hx (hb hby d4_21) rfl k) ?_
  have ry10 := (HV_ao.keep Kcy4 (ninS hn_ao_b1 (ninS hn_ao_ab1 nin0)))
  refine fald Xy7 hx hZ ey7 ry10 rfl (j := (1 : Int32)) (v := (.ref x2)) ⟨by decide, by decide⟩ rfl (hb hby d4_23) ?_
  refine Fin.step (fun _ k => Yo.aloadN Xy7.here hx (hb hby d4_24) rfl rfl (Yo.iloadN Xy7.here hx (hb hby d4_25) rfl (Yo.iloadN Xy7.here hx (hb hby d4_26) rfl k))) ?_
  have ry11 := (HF_x2_text.keep Kcy4 (ninS (Ne.symm hn_b1_x2) (ninS (Ne.symm hn_ab1_x2) nin0)))
  have ry12 := (HF_x2_limit.keep Kcy4 (ninS (Ne.symm hn_b1_x2) (ninS (Ne.symm hn_ab1_x2) nin0)))
  have ry13 := (HF_x2_value.keep Kcy4 (ninS (Ne.symm hn_b1_x2) (ninS (Ne.symm hn_ab1_x2) nin0)))
  have ry14 := (HF_b2_count.keep Kcy4 (ninS hn_b2_b1 (ninS hn_b2_ab1 nin0)))
  obtain ⟨cqy15, qy15, qy15'⟩ := (HE_x2.keep Kcy4).cell
  obtain ⟨_, Ty15, Lcy15, Xy15, hQy15, sty15⟩ := pack (privateHot Xy7 hx hZ (y := n10) hown (W_ hw 71) (W_ hw 72) (W_ hw 73) (W_ hw 38) (W_ hw 74) (by decide) (backOf (W := 1) (rmadp l Z a0 hw [] x2 a2 pn b2 tn2 tl2 Ty4.heap n0 Zy4 (HE_x2.keep Kcy4) ry11 ry12 ry13 (HE_b2.keep Kcy4) ry14 g_x2 he2) hZ (W_ hw 74) (W_ hw 39) (by decide) (by decide)) (g := (mkF m 27 #[rv a1, rv a2, iv 0, iv pn, iv 0, iv 1] [(.int pn), (.int 0), (.ref a2), (.ref x2), (.int 0)])) rfl (by rw [hml]; rfl) (Steps.refl _) (a := x2) (by rw [ey7]; exact qy15) qy15' (argsL := [(.ref a2), (.int 0), (.int pn)]) (rest := [(.int 0)]) (lenOf pd_18 rfl) rfl (lb rfl) (hb hby d4_27) (fun _ _ => ⟨rfl, ey7, (by decide : 0 + 0 ≤ _), (by decide : 0 + 0 ≤ _)⟩))
  obtain ⟨rfl, Nqy15, Kcy15, fy15_0, fy15_1⟩ := hQy15
  have Ny15 := Fr.app Ny4 Nqy15
  have Zy15 := Nat.le_trans Zy4 Kcy15.1
  have Ky15 := Ky4.trans Kcy15 (allS (Or.inl (List.mem_of_getElem? (i := 4) rfl)) all0)
  refine Fin.step (sty15) ?_
  show Fin p e below s _ _ _ (Ty15.setTop (mkF m 30 #[rv a1, rv a2, iv 0, iv pn, iv 0, iv 1] [(.int 0), (.int 0)]))
  refine Fin.step (fun _ k => Yo.ifNo Xy15.here hx (hb hby d4_30) rfl ((if0 _ _).trans (teq ((by decide) : ((0 : Int32) = (0 : Int32)))).2) (Yo.iconst Xy15.here hx (hb hby d4_33) (Yo.goto Xy15.here hx (pc0 := 34) (pc' := 38) rfl (hb hby d4_34) (by decide) (by decide) (Yo.ior Xy15.here hx (hb hby d4_38) rfl k)))) ?_
  show Fin p e below s _ _ _ (Ty15.setTop (mkF m 39 #[rv a1, rv a2, iv 0, iv pn, iv 0, iv 1] [(.int 1)]))
  refine Fin.step (fun _ k => Yo.istore Xy15.here hx (hb hby d4_39) rfl (l' := #[rv a1, rv a2, iv 0, iv pn, iv 1, iv 1]) rfl (Yo.iinc Xy15.here hx (hb hby d4_41) rfl (l' := #[rv a1, rv a2, iv 0, iv pn, iv 1, iv 2]) rfl k)) ?_
  show Fin p e below s _ _ _ (Ty15.setTop (mkF m 44 #[rv a1, rv a2, iv 0, iv pn, iv 1, iv 2] []))
  refine Fin.step (fun _ k => Yo.goto Xy15.here hx (pc0 := 44) (pc' := 6) rfl (hb hby d4_44) (by decide) (by decide) (Yo.iload Xy15.here hx (hb hby d4_6) rfl (Yo.aloadN Xy15.here hx (hb hby d4_8) rfl rfl k))) ?_
  have ry17 := (ry6.keep Kcy15 (ninS hn_a1_x2 nin0))
  refine fget Xy15 hx hZ hown (W_ hw 26) rfl ry17 (hb hby d4_9) fun Ty16 Xy16 ey16 => ?_
  refine Fin.step (fun _ k => Yo.icmpYes Xy16.here hx (pc0 := 12) (pc' := 47) rfl (hb hby d4_12) rfl (flt ((by decide) : ¬ ((2 : Int32) < (2 : Int32)))).2.1 (by decide) (by decide) (Yo.iload Xy16.here hx (hb hby d4_47) rfl (Yo.ifNo Xy16.here hx (hb hby d4_49) rfl ((if0 _ _).trans (feq ((by decide) : ¬ ((1 : Int32) = (0 : Int32)))).1) (Yo.aloadN Xy16.here hx (hb hby d4_52) rfl rfl k)))) ?_
  have ry18 := ((HE_a1.keep Kcy4).keep Kcy15)
  have ry19 := (ry8.keep Kcy15 (ninS hn_a1_x2 nin0))
  have ry20 := ((HF_a1_depth.keep Kcy4 (ninS hn_a1_b1 (ninS hn_a1_ab1 nin0))).keep Kcy15 (ninS hn_a1_x2 nin0))
  have ry21 := (ry10.keep Kcy15 (ninS hn_ao_x2 nin0))
  have ry22 := ((HE_x1.keep Kcy4).keep Kcy15)
  have ry23 := ((HF_x1_text.keep Kcy4 (ninS hn_x1_b1 (ninS hn_x1_ab1 nin0))).keep Kcy15 (ninS hn_x1_x2 nin0))
  have ry24 := ((HE_x2.keep Kcy4).keep Kcy15)
  obtain ⟨cqy25, qy25, qy25'⟩ := ry18.cell
  obtain ⟨_, Ty25, Lcy25, Xy25, hQy25, sty25⟩ := pack (Xy16.privateBack hx (y := n39) hown (mvT hZ (W_ hw 216)) (mvT hZ (W_ hw 217)) (mvT hZ (sel_of (NI.inst (W_ hw 2)) (W_ hw 217) (W_ hw 218) (by decide))) (Cond.privateMethod_at (mvP hZ (W_ hw 218) (args := #[]))) (mvT hZ (W_ hw 219)) (by decide) (backOf (W := 0) (rmlo10 l Z a0 hw [] a1 ao ko dd x1 b1 x2 Ty15.heap n0 Zy15 ry18 ry19 ry20 ry17 ry21 ry22 ry23 ry24 fy15_0 g_a1 g_ao hov hn_a1_ao hn_x1_ao hn_x1_a1 (Ne.symm hn_ao_x2) (Ne.symm hn_a1_x2)) hZ (W_ hw 219) (W_ hw 3) (by decide) (by decide)) (g := (mkF m 53 #[rv a1, rv a2, iv 0, iv pn, iv 1, iv 2] [(.ref a1)])) rfl (by rw [hml]; rfl) (Steps.refl _) (a := a1) (by rw [ey16]; exact qy25) qy25' (argsL := []) (rest := []) (lenOf pd_7 rfl) rfl (lb rfl) (hb hby d4_53) (fun _ _ => ⟨rfl, ey16, (by decide : 0 + 0 ≤ _), (by decide : 0 + 0 ≤ _)⟩))
  obtain ⟨rfl, Nqy25, Kcy25, fy25_0, fy25_1, fy25_2, fy25_3⟩ := hQy25
  have Ny25 := Fr.app Ny15 Nqy25
  have Zy25 := Nat.le_trans Zy15 Kcy25.1
  have Ky25 := Ky15.trans Kcy25 (allS m0 (allS m1 all0))
  refine Fin.step (sty25) ?_
  show Fin p e below s _ _ _ (Ty25.setTop (mkF m 56 #[rv a1, rv a2, iv 0, iv pn, iv 1, iv 2] []))
  refine Fin.retV Xy25 hx hret hlk (hb hby d4_56) (by decide) (by decide) ?_
  show Qtop Z a1 a2 pn ao ko dd x1 b1 ab1 kb1 tn1 vs1 tl1 tm1 x2 b2 ab2 kb2 tn2 vs2 tl2 kc xs wc gv h0 n0 _ Ty25.heap _
  exact ⟨rfl, Ny25, Ky25, fy25_0, fy25_1, fy25_2, fy25_3, ((fy4_0.keep Kcy15 (ninS hn_b1_x2 nin0)).keep Kcy25 (ninS (Ne.symm hn_a1_b1) (ninS (Ne.symm hn_ao_b1) nin0))), ((fy4_1.keep Kcy15 (ninS hn_b1_x2 nin0)).keep Kcy25 (ninS (Ne.symm hn_a1_b1) (ninS (Ne.symm hn_ao_b1) nin0))), ((fy4_2.keep Kcy15 (ninS hn_b1_x2 nin0)).keep Kcy25 (ninS (Ne.symm hn_a1_b1) (ninS (Ne.symm hn_ao_b1) nin0))), ((fy4_3.keep Kcy15 (ninS hn_ab1_x2 nin0)).keep Kcy25 (ninS (Ne.symm hn_a1_ab1) (ninS (Ne.symm hn_ao_ab1) nin0))), (fy15_0.keep Kcy25 (ninS (Ne.symm hn_a1_x2) (ninS (Ne.symm hn_ao_x2) nin0))), (fy15_1.keep Kcy25 (ninS (Ne.symm hn_a1_x2) (ninS (Ne.symm hn_ao_x2) nin0)))⟩
theorem ef_rmtpo (m : MethodId) (x0 : Addr) (x1 : Addr) (x3 : Int32) : entryFrame m #[(.ref x0), (.ref x1), (.int (0 : Int32)), (.int x3)] 6 = mkF m 0 #[.val (.ref x0), .val (.ref x1), .val (.int (0 : Int32)), .val (.int x3), .unset, .unset] [] := by first | (simp [entryFrame, mkF, argsToLocals, Value.category]; done) | rfl
abbrev R_rmtpo : Room := ({ frames := 5, cells := 0, slots := 0, locals := 79 } : Room)
def Qtpo (Z : State) (a1 a2 : Addr) (pn : Int32) (ao : Addr) (ko : ClassId) (dd : Int32) (x1 b1 ab1 : Addr) (kb1 : ClassId) (tn1 : Int32) (vs1 : List Value) (tl1 : Int32) (x2 b2 ab2 : Addr) (kb2 : ClassId) (tn2 : Int32) (vs2 : List Value) (tl2 tm2 : Int32) (kc : ClassId) (xs : List Value) (wc : Int32) (gv : Value) (h0 : Heap) (n0 : Nat) (v : Option Value) (h : Heap) (L : List Loc) : Prop := v = none ∧ Fr n0 L ∧ Keep h0 h [a1, ao, x1, b2, ab2] ∧ Fld Z h a1 q1 "open" q9 (.ref ao) ∧ Fld Z h a1 q1 "depth" "I" (.int dd) ∧ Fld Z h a1 q1 "count" "I" (.int 1) ∧ Arv Z h ao ko (.object "com/example/uzor/uzor/StringValues$Value") (4 : Int32) [(.ref x2), .null, .null, .null] .null ∧ Fld Z h x1 q0 "text" q7 .null ∧ Fld Z h x1 q0 "value" q8 .null ∧ Fld Z h b2 q3 "value" "[B" (.ref ab2) ∧ Fld Z h b2 q3 "coder" "B" (.int 0) ∧ Fld Z h b2 q3 "count" "I" (.int tm2) ∧ Arv Z h ab2 kb2 .byte (16 : Int32) (own_app vs2 xs tn2.toNatClampNeg pn.toNatClampNeg) (.int 0)
set_option maxRecDepth 65536 in
set_option maxHeartbeats 40000000 in
theorem rmtpo (l : Launch) (Z : State) (a0 : Array Value) (hw : ∀ d ∈ tables_1, d.before a0 Z = true) (ws : List Jvm.Cond) (a1 a2 : Addr) (pn : Int32) (ao : Addr) (ko : ClassId) (dd : Int32) (x1 b1 ab1 : Addr) (kb1 : ClassId) (tn1 : Int32) (vs1 : List Value) (tl1 : Int32) (x2 b2 ab2 : Addr) (kb2 : ClassId) (tn2 : Int32) (vs2 : List Value) (tl2 tm2 : Int32) (kc : ClassId) (xs : List Value) (wc : Int32) (gv : Value) (h0 : Heap) (n0 : Nat) (Z0 : n0 ≤ h0.size) (HE_a1 : Exa Z h0 a1 q1) (HF_a1_open : Fld Z h0 a1 q1 "open" q9 (.ref ao)) (HF_a1_depth : Fld Z h0 a1 q1 "depth" "I" (.int dd)) (HF_a1_count : Fld Z h0 a1 q1 "count" "I" (.int 2)) (HV_ao : Arv Z h0 ao ko (.object "com/example/uzor/uzor/StringValues$Value") (4 : Int32) [(.ref x1), (.ref x2), .null, .null] .null) (HE_x1 : Exa Z h0 x1 q0) (HF_x1_text : Fld Z h0 x1 q0 "text" q7 (.ref b1)) (HF_x1_limit : Fld Z h0 x1 q0 "limit" "I" (.int tl1)) (HF_x1_value : Fld Z h0 x1 q0 "value" q8 .null) (HE_b1 : Exa Z h0 b1 q2) (HF_b1_value : Fld Z h0 b1 q3 "value" "[B" (.ref ab1)) (HF_b1_coder : Fld Z h0 b1 q3 "coder" "B" (.int 0)) (HF_b1_count : Fld Z h0 b1 q3 "count" "I" (.int tn1)) (HV_ab1 : Arv Z h0 ab1 kb1 .byte (16 : Int32) vs1 (.int 0)) (HE_x2 : Exa Z h0 x2 q0) (HF_x2_text : Fld Z h0 x2 q0 "text" q7 (.ref b2)) (HF_x2_limit : Fld Z h0 x2 q0 "limit" "I" (.int tl2)) (HF_x2_value : Fld Z h0 x2 q0 "value" q8 .null) (HE_b2 : Exa Z h0 b2 q2) (HF_b2_value : Fld Z h0 b2 q3 "value" "[B" (.ref ab2)) (HF_b2_coder : Fld Z h0 b2 q3 "coder" "B" (.int 0)) (HF_b2_count : Fld Z h0 b2 q3 "count" "I" (.int tn2)) (HV_ab2 : Arv Z h0 ab2 kb2 .byte (16 : Int32) vs2 (.int 0)) (HV_a2 : Arv Z h0 a2 kc .char (3 : Int32) xs (.int 0)) (HS_java_lang_String_COMPACT_STRINGS : Sta Z h0 q4 q10 "Z" (.int wc)) (HS_jdk_internal_util_Preconditions_IOOBE_FORMATTER : Sta Z h0 q5 q12 q6 gv) (g_a1 : n0 ≤ a1) (g_ao : n0 ≤ ao) (g_x1 : n0 ≤ x1) (g_b2 : n0 ≤ b2) (g_ab2 : n0 ≤ ab2) (hp : pn = 0 ∨ pn = 1 ∨ pn = 2 ∨ pn = 3) (hxl : own_lat xs) (hwc : ¬ wc = 0) (hgv : gv.isRef = true) (hov : Ovr Z ko "com/example/uzor/uzor/StringValues$Value") (he1 : (tl1 - pn) < tn1) (ht2 : 0 ≤ tn2.toInt ∧ tn2.toInt ≤ 3) (hl2 : vs2.length = 16) (hm2 : tm2 = tn2 + pn) (he2 : ¬ (tl2 - pn) < tn2) (hn_a1_ao : a1 ≠ ao) (hn_a1_x1 : a1 ≠ x1) (hn_a1_b2 : a1 ≠ b2) (hn_a1_ab2 : a1 ≠ ab2) (hn_ao_x1 : ao ≠ x1) (hn_ao_b2 : ao ≠ b2) (hn_ao_ab2 : ao ≠ ab2) (hn_x1_b2 : x1 ≠ b2) (hn_x1_ab2 : x1 ≠ ab2) (hn_b1_a1 : b1 ≠ a1) (hn_b1_ao : b1 ≠ ao) (hn_b1_x1 : b1 ≠ x1) (hn_b1_b2 : b1 ≠ b2) (hn_b1_ab2 : b1 ≠ ab2) (hn_ab1_a1 : ab1 ≠ a1) (hn_ab1_ao : ab1 ≠ ao) (hn_ab1_x1 : ab1 ≠ x1) (hn_ab1_b2 : ab1 ≠ b2) (hn_ab1_ab2 : ab1 ≠ ab2) (hn_x2_a1 : x2 ≠ a1) (hn_x2_ao : x2 ≠ ao) (hn_x2_x1 : x2 ≠ x1) (hn_x2_b2 : x2 ≠ b2) (hn_x2_ab2 : x2 ≠ ab2) (hn_b2_ab2 : b2 ≠ ab2) (hn_a2_a1 : a2 ≠ a1) (hn_a2_ao : a2 ≠ ao) (hn_a2_x1 : a2 ≠ x1) (hn_a2_b2 : a2 ≠ b2) (hn_a2_ab2 : a2 ≠ ab2) :
    Met1 l n4 prog_34_method_3_code 6 none ws R_rmtpo #[(.ref a1), (.ref a2), (.int 0), (.int pn)] Z h0 (Qtpo Z a1 a2 pn ao ko dd x1 b1 ab1 kb1 tn1 vs1 tl1 x2 b2 ab2 kb2 tn2 vs2 tl2 tm2 kc xs wc gv h0 n0) := by
  refine Met1.enter (plainFor_of_name pn_4) (fun m => ef_rmtpo m a1 a2 pn) fun p e s m below meth c s₁ hx hby hlk hret hml hown hnm hZ X0 e0 => ?_
  have N0 := Fr.nil n0
  have K0 := Keep.refl h0 [a1, ao, x1, b2, ab2]
  show Fin p e below s _ _ _ (s₁.setTop (mkF m 0 #[rv a1, rv a2, iv 0, iv pn, .unset, .unset] []))
  refine Fin.step (fun _ k => Yo.iconst X0.here hx (hb hby d4_0) (Yo.istore X0.here hx (hb hby d4_1) rfl (l' := #[rv a1, rv a2, iv 0, iv pn, iv 0, .unset]) rfl (Yo.iconst X0.here hx (hb hby d4_3) (Yo.istore X0.here hx (hb hby d4_4) rfl (l' := #[rv a1, rv a2, iv 0, iv pn, iv 0, iv 0]) rfl (Yo.iload X0.here hx (hb hby d4_6) rfl (Yo.aloadN X0.here hx (hb hby d4_8) rfl rfl k)))))) ?_
  refine fget X0 hx hZ hown (W_ hw 26) e0 HF_a1_count (hb hby d4_9) fun Ty1 Xy1 ey1 => ?_
  refine Fin.step (fun _ k => Yo.icmpNo Xy1.here hx (hb hby d4_12) rfl (tlt ((by decide) : ((0 : Int32) < (2 : Int32)))).2.1 (Yo.iload Xy1.here hx (hb hby d4_15) rfl (Yo.aloadN Xy1.here hx (hb hby d4_17) rfl rfl k))) ?_
  refine fget Xy1 hx hZ hown (W_ hw 12) ey1 HF_a1_open (hb hby d4_18) fun Ty2 Xy2 ey2 => ?_
  refine Fin.step (fun _ k => Yo.iload Xy2.here hx (hb hby d4_21) rfl k) ?_
  refine fald Xy2 hx hZ ey2 HV_ao rfl (j := (0 : Int32)) (v := (.ref x1)) ⟨by decide, by decide⟩ rfl (hb hby d4_23) ?_
  refine Fin.step (fun _ k => Yo.aloadN Xy2.here hx (hb hby d4_24) rfl rfl (Yo.iloadN Xy2.here hx (hb hby d4_25) rfl (Yo.iloadN Xy2.here hx (hb hby d4_26) rfl k))) ?_
  obtain ⟨cqy4, qy4, qy4'⟩ := HE_x1.cell
  obtain ⟨_, Ty4, Lcy4, Xy4, hQy4, sty4⟩ := pack (privateHot Xy2 hx hZ (y := n10) hown (W_ hw 71) (W_ hw 72) (W_ hw 73) (W_ hw 38) (W_ hw 74) (by decide) (backOf (W := 1) (rmadp l Z a0 hw [] x1 a2 pn b1 tn1 tl1 h0 n0 Z0 HE_x1 HF_x1_text HF_x1_limit HF_x1_value HE_b1 HF_b1_count g_x1 he1) hZ (W_ hw 74) (W_ hw 39) (by decide) (by decide)) (g := (mkF m 27 #[rv a1, rv a2, iv 0, iv pn, iv 0, iv 0] [(.int pn), (.int 0), (.ref a2), (.ref x1), (.int 0)])) rfl (by rw [hml]; rfl) (Steps.refl _) (a := x1) (by rw [ey2]; exact qy4) qy4' (argsL := [(.ref a2), (.int 0), (.int pn)]) (rest := [(.int 0)]) (lenOf pd_18 rfl) rfl (lb rfl) (hb hby d4_27) (fun _ _ => ⟨rfl, ey2, (by decide : 0 + 0 ≤ _), (by decide : 0 + 0 ≤ _)⟩))
  obtain ⟨rfl, Nqy4, Kcy4, fy4_0, fy4_1⟩ := hQy4
  have Ny4 := Fr.app N0 Nqy4
  have Zy4 := Nat.le_trans Z0 Kcy4.1
  have Ky4 := K0.trans Kcy4 (allS m2 all0)
  refine Fin.step (sty4) ?_
  show Fin p e below s _ _ _ (Ty4.setTop (mkF m 30 #[rv a1, rv a2, iv 0, iv pn, iv 0, iv 0] [(.int 0), (.int 0)]))
  refine Fin.step (fun _ k => Yo.ifNo Xy4.here hx (hb hby d4_30) rfl ((if0 _ _).trans (teq ((by decide) : ((0 : Int32) = (0 : Int32)))).2) (Yo.iconst Xy4.here hx (hb hby d4_33) (Yo.goto Xy4.here hx (pc0 := 34) (pc' := 38) rfl (hb hby d4_34) (by decide) (by decide) (Yo.ior Xy4.here hx (hb hby d4_38) rfl k)))) ?_
  show Fin p e below s _ _ _ (Ty4.setTop (mkF m 39 #[rv a1, rv a2, iv 0, iv pn, iv 0, iv 0] [(.int 1)]))
  refine Fin.step (fun _ k => Yo.istore Xy4.here hx (hb hby d4_39) rfl (l' := #[rv a1, rv a2, iv 0, iv pn, iv 1, iv 0]) rfl (Yo.iinc Xy4.here hx (hb hby d4_41) rfl (l' := #[rv a1, rv a2, iv 0, iv pn, iv 1, iv 1]) rfl k)) ?_
  show Fin p e below s _ _ _ (Ty4.setTop (mkF m 44 #[rv a1, rv a2, iv 0, iv pn, iv 1, iv 1] []))
  refine Fin.step (fun _ k => Yo.goto Xy4.here hx (pc0 := 44) (pc' := 6) rfl (hb hby d4_44) (by decide) (by decide) (Yo.iload Xy4.here hx (hb hby d4_6) rfl (Yo.aloadN Xy4.here hx (hb hby d4_8) rfl rfl k))) ?_
  have ry6 := (HF_a1_count.keep Kcy4 (ninS hn_a1_x1 nin0))
  refine fget Xy4 hx hZ hown (W_ hw 26) rfl ry6 (hb hby d4_9) fun Ty5 Xy5 ey5 => ?_
  refine Fin.step (fun _ k => Yo.icmpNo Xy5.here hx (hb hby d4_12) rfl (tlt ((by decide) : ((1 : Int32) < (2 : Int32)))).2.1 (Yo.iload Xy5.here hx (hb hby d4_15) rfl (Yo.aloadN Xy5.here hx (hb hby d4_17) rfl rfl k))) ?_
  have ry8 := (HF_a1_open.keep Kcy4 (ninS hn_a1_x1 nin0))
  refine fget Xy5 hx hZ hown (W_ hw 12) ey5 ry8 (hb hby d4_18) fun Ty7 Xy7 ey7 => ?_
  refine Fin.step (fun _ k => Yo.iload Xy7.here hx (hb hby d4_21) rfl k) ?_
  have ry10 := (HV_ao.keep Kcy4 (ninS hn_ao_x1 nin0))
  refine fald Xy7 hx hZ ey7 ry10 rfl (j := (1 : Int32)) (v := (.ref x2)) ⟨by decide, by decide⟩ rfl (hb hby d4_23) ?_
  refine Fin.step (fun _ k => Yo.aloadN Xy7.here hx (hb hby d4_24) rfl rfl (Yo.iloadN Xy7.here hx (hb hby d4_25) rfl (Yo.iloadN Xy7.here hx (hb hby d4_26) rfl k))) ?_
  have ry11 := (HF_x2_text.keep Kcy4 (ninS hn_x2_x1 nin0))
  have ry12 := (HF_x2_limit.keep Kcy4 (ninS hn_x2_x1 nin0))
  have ry13 := (HF_b2_value.keep Kcy4 (ninS (Ne.symm hn_x1_b2) nin0))
  have ry14 := (HF_b2_coder.keep Kcy4 (ninS (Ne.symm hn_x1_b2) nin0))
  have ry15 := (HF_b2_count.keep Kcy4 (ninS (Ne.symm hn_x1_b2) nin0))
  have ry16 := (HV_ab2.keep Kcy4 (ninS (Ne.symm hn_x1_ab2) nin0))
  have ry17 := (HV_a2.keep Kcy4 (ninS hn_a2_x1 nin0))
  have ry18 := (Sta_keepW HS_java_lang_String_COMPACT_STRINGS Kcy4 (allS (nsE HE_x1) all0))
  have ry19 := (Sta_keepW HS_jdk_internal_util_Preconditions_IOOBE_FORMATTER Kcy4 (allS (nsE HE_x1) all0))
  obtain ⟨cqy20, qy20, qy20'⟩ := (HE_x2.keep Kcy4).cell
  obtain ⟨_, Ty20, Lcy20, Xy20, hQy20, sty20⟩ := pack (privateHot Xy7 hx hZ (y := n10) hown (W_ hw 71) (W_ hw 72) (W_ hw 73) (W_ hw 38) (W_ hw 74) (by decide) (backOf (W := 1) (rmado l Z a0 hw [] x2 a2 pn b2 ab2 kb2 tn2 vs2 kc xs tl2 tm2 wc gv Ty4.heap n0 Zy4 (HE_x2.keep Kcy4) ry11 ry12 (HE_b2.keep Kcy4) ry13 ry14 ry15 ry16 ry17 ry18 ry19 g_b2 g_ab2 hp ht2 hl2 hxl hm2 hwc hgv he2 hn_b2_ab2 hn_a2_ab2) hZ (W_ hw 74) (W_ hw 39) (by decide) (by decide)) (g := (mkF m 27 #[rv a1, rv a2, iv 0, iv pn, iv 1, iv 1] [(.int pn), (.int 0), (.ref a2), (.ref x2), (.int 1)])) rfl (by rw [hml]; rfl) (Steps.refl _) (a := x2) (by rw [ey7]; exact qy20) qy20' (argsL := [(.ref a2), (.int 0), (.int pn)]) (rest := [(.int 1)]) (lenOf pd_18 rfl) rfl (lb rfl) (hb hby d4_27) (fun _ _ => ⟨rfl, ey7, (by decide : 0 + 0 ≤ _), (by decide : 0 + 0 ≤ _)⟩))
  obtain ⟨rfl, Nqy20, Kcy20, fy20_0, fy20_1, fy20_2, fy20_3⟩ := hQy20
  have Ny20 := Fr.app Ny4 Nqy20
  have Zy20 := Nat.le_trans Zy4 Kcy20.1
  have Ky20 := Ky4.trans Kcy20 (allS m3 (allS (Or.inl (List.mem_of_getElem? (i := 4) rfl)) all0))
  refine Fin.step (sty20) ?_
  show Fin p e below s _ _ _ (Ty20.setTop (mkF m 30 #[rv a1, rv a2, iv 0, iv pn, iv 1, iv 1] [(.int 1), (.int 1)]))
  refine Fin.step (fun _ k => Yo.ifYes Xy20.here hx (pc0 := 30) (pc' := 37) rfl (hb hby d4_30) rfl ((if0 _ _).trans (feq ((by decide) : ¬ ((1 : Int32) = (0 : Int32)))).2) (by decide) (by decide) (Yo.iconst Xy20.here hx (hb hby d4_37) (Yo.ior Xy20.here hx (hb hby d4_38) rfl k))) ?_
  show Fin p e below s _ _ _ (Ty20.setTop (mkF m 39 #[rv a1, rv a2, iv 0, iv pn, iv 1, iv 1] [(.int 1)]))
  refine Fin.step (fun _ k => Yo.istore Xy20.here hx (hb hby d4_39) rfl (l' := #[rv a1, rv a2, iv 0, iv pn, iv 1, iv 1]) rfl (Yo.iinc Xy20.here hx (hb hby d4_41) rfl (l' := #[rv a1, rv a2, iv 0, iv pn, iv 1, iv 2]) rfl k)) ?_
  show Fin p e below s _ _ _ (Ty20.setTop (mkF m 44 #[rv a1, rv a2, iv 0, iv pn, iv 1, iv 2] []))
  refine Fin.step (fun _ k => Yo.goto Xy20.here hx (pc0 := 44) (pc' := 6) rfl (hb hby d4_44) (by decide) (by decide) (Yo.iload Xy20.here hx (hb hby d4_6) rfl (Yo.aloadN Xy20.here hx (hb hby d4_8) rfl rfl k))) ?_
  have ry22 := (ry6.keep Kcy20 (ninS hn_a1_b2 (ninS hn_a1_ab2 nin0)))
  refine fget Xy20 hx hZ hown (W_ hw 26) rfl ry22 (hb hby d4_9) fun Ty21 Xy21 ey21 => ?_
  refine Fin.step (fun _ k => Yo.icmpYes Xy21.here hx (pc0 := 12) (pc' := 47) rfl (hb hby d4_12) rfl (flt ((by decide) : ¬ ((2 : Int32) < (2 : Int32)))).2.1 (by decide) (by decide) (Yo.iload Xy21.here hx (hb hby d4_47) rfl (Yo.ifNo Xy21.here hx (hb hby d4_49) rfl ((if0 _ _).trans (feq ((by decide) : ¬ ((1 : Int32) = (0 : Int32)))).1) (Yo.aloadN Xy21.here hx (hb hby d4_52) rfl rfl k)))) ?_
  have ry23 := ((HE_a1.keep Kcy4).keep Kcy20)
  have ry24 := (ry8.keep Kcy20 (ninS hn_a1_b2 (ninS hn_a1_ab2 nin0)))
  have ry25 := ((HF_a1_depth.keep Kcy4 (ninS hn_a1_x1 nin0)).keep Kcy20 (ninS hn_a1_b2 (ninS hn_a1_ab2 nin0)))
  have ry26 := (ry10.keep Kcy20 (ninS hn_ao_b2 (ninS hn_ao_ab2 nin0)))
  have ry27 := ((HE_x1.keep Kcy4).keep Kcy20)
  have ry28 := (fy4_0.keep Kcy20 (ninS hn_x1_b2 (ninS hn_x1_ab2 nin0)))
  have ry29 := ((HE_x2.keep Kcy4).keep Kcy20)
  have ry30 := (ry11.keep Kcy20 (ninS hn_x2_b2 (ninS hn_x2_ab2 nin0)))
  obtain ⟨cqy31, qy31, qy31'⟩ := ry23.cell
  obtain ⟨_, Ty31, Lcy31, Xy31, hQy31, sty31⟩ := pack (Xy21.privateBack hx (y := n39) hown (mvT hZ (W_ hw 216)) (mvT hZ (W_ hw 217)) (mvT hZ (sel_of (NI.inst (W_ hw 2)) (W_ hw 217) (W_ hw 218) (by decide))) (Cond.privateMethod_at (mvP hZ (W_ hw 218) (args := #[]))) (mvT hZ (W_ hw 219)) (by decide) (backOf (W := 0) (rmlo01 l Z a0 hw [] a1 ao ko dd x1 x2 b2 Ty20.heap n0 Zy20 ry23 ry24 ry25 ry22 ry26 ry27 ry28 ry29 ry30 g_a1 g_ao hov hn_a1_ao (Ne.symm hn_ao_x1) (Ne.symm hn_a1_x1) hn_x2_ao hn_x2_a1) hZ (W_ hw 219) (W_ hw 3) (by decide) (by decide)) (g := (mkF m 53 #[rv a1, rv a2, iv 0, iv pn, iv 1, iv 2] [(.ref a1)])) rfl (by rw [hml]; rfl) (Steps.refl _) (a := a1) (by rw [ey21]; exact qy31) qy31' (argsL := []) (rest := []) (lenOf pd_7 rfl) rfl (lb rfl) (hb hby d4_53) (fun _ _ => ⟨rfl, ey21, (by decide : 0 + 0 ≤ _), (by decide : 0 + 0 ≤ _)⟩))
  obtain ⟨rfl, Nqy31, Kcy31, fy31_0, fy31_1, fy31_2, fy31_3⟩ := hQy31
  have Ny31 := Fr.app Ny20 Nqy31
  have Zy31 := Nat.le_trans Zy20 Kcy31.1
  have Ky31 := Ky20.trans Kcy31 (allS m0 (allS m1 all0))
  refine Fin.step (sty31) ?_
  show Fin p e below s _ _ _ (Ty31.setTop (mkF m 56 #[rv a1, rv a2, iv 0, iv pn, iv 1, iv 2] []))
  refine Fin.retV Xy31 hx hret hlk (hb hby d4_56) (by decide) (by decide) ?_
  show Qtpo Z a1 a2 pn ao ko dd x1 b1 ab1 kb1 tn1 vs1 tl1 x2 b2 ab2 kb2 tn2 vs2 tl2 tm2 kc xs wc gv h0 n0 _ Ty31.heap _
  exact ⟨rfl, Ny31, Ky31, fy31_0, fy31_1, fy31_2, fy31_3, (ry28.keep Kcy31 (ninS (Ne.symm hn_a1_x1) (ninS (Ne.symm hn_ao_x1) nin0))), ((fy4_1.keep Kcy20 (ninS hn_x1_b2 (ninS hn_x1_ab2 nin0))).keep Kcy31 (ninS (Ne.symm hn_a1_x1) (ninS (Ne.symm hn_ao_x1) nin0))), (fy20_0.keep Kcy31 (ninS (Ne.symm hn_a1_b2) (ninS (Ne.symm hn_ao_b2) nin0))), (fy20_1.keep Kcy31 (ninS (Ne.symm hn_a1_b2) (ninS (Ne.symm hn_ao_b2) nin0))), (fy20_2.keep Kcy31 (ninS (Ne.symm hn_a1_b2) (ninS (Ne.symm hn_ao_b2) nin0))), (fy20_3.keep Kcy31 (ninS (Ne.symm hn_a1_ab2) (ninS (Ne.symm hn_ao_ab2) nin0)))⟩
theorem ef_rmtpp (m : MethodId) (x0 : Addr) (x1 : Addr) (x3 : Int32) : entryFrame m #[(.ref x0), (.ref x1), (.int (0 : Int32)), (.int x3)] 6 = mkF m 0 #[.val (.ref x0), .val (.ref x1), .val (.int (0 : Int32)), .val (.int x3), .unset, .unset] [] := by first | (simp [entryFrame, mkF, argsToLocals, Value.category]; done) | rfl
abbrev R_rmtpp : Room := ({ frames := 3, cells := 0, slots := 0, locals := 44 } : Room)
def Qtpp (Z : State) (a1 a2 : Addr) (pn : Int32) (ao : Addr) (ko : ClassId) (dd : Int32) (x1 b1 ab1 : Addr) (kb1 : ClassId) (tn1 : Int32) (vs1 : List Value) (tl1 : Int32) (x2 b2 ab2 : Addr) (kb2 : ClassId) (tn2 : Int32) (vs2 : List Value) (tl2 : Int32) (kc : ClassId) (xs : List Value) (wc : Int32) (gv : Value) (h0 : Heap) (n0 : Nat) (v : Option Value) (h : Heap) (L : List Loc) : Prop := v = none ∧ Fr n0 L ∧ Keep h0 h [a1, ao, x1, x2] ∧ Fld Z h a1 q1 "open" q9 (.ref ao) ∧ Fld Z h a1 q1 "depth" "I" (.int dd) ∧ Fld Z h a1 q1 "count" "I" (.int 0) ∧ Arv Z h ao ko (.object "com/example/uzor/uzor/StringValues$Value") (4 : Int32) [.null, .null, .null, .null] .null ∧ Fld Z h x1 q0 "text" q7 .null ∧ Fld Z h x1 q0 "value" q8 .null ∧ Fld Z h x2 q0 "text" q7 .null ∧ Fld Z h x2 q0 "value" q8 .null
set_option maxRecDepth 65536 in
set_option maxHeartbeats 40000000 in
theorem rmtpp (l : Launch) (Z : State) (a0 : Array Value) (hw : ∀ d ∈ tables_1, d.before a0 Z = true) (ws : List Jvm.Cond) (a1 a2 : Addr) (pn : Int32) (ao : Addr) (ko : ClassId) (dd : Int32) (x1 b1 ab1 : Addr) (kb1 : ClassId) (tn1 : Int32) (vs1 : List Value) (tl1 : Int32) (x2 b2 ab2 : Addr) (kb2 : ClassId) (tn2 : Int32) (vs2 : List Value) (tl2 : Int32) (kc : ClassId) (xs : List Value) (wc : Int32) (gv : Value) (h0 : Heap) (n0 : Nat) (Z0 : n0 ≤ h0.size) (HE_a1 : Exa Z h0 a1 q1) (HF_a1_open : Fld Z h0 a1 q1 "open" q9 (.ref ao)) (HF_a1_depth : Fld Z h0 a1 q1 "depth" "I" (.int dd)) (HF_a1_count : Fld Z h0 a1 q1 "count" "I" (.int 2)) (HV_ao : Arv Z h0 ao ko (.object "com/example/uzor/uzor/StringValues$Value") (4 : Int32) [(.ref x1), (.ref x2), .null, .null] .null) (HE_x1 : Exa Z h0 x1 q0) (HF_x1_text : Fld Z h0 x1 q0 "text" q7 (.ref b1)) (HF_x1_limit : Fld Z h0 x1 q0 "limit" "I" (.int tl1)) (HF_x1_value : Fld Z h0 x1 q0 "value" q8 .null) (HE_b1 : Exa Z h0 b1 q2) (HF_b1_value : Fld Z h0 b1 q3 "value" "[B" (.ref ab1)) (HF_b1_coder : Fld Z h0 b1 q3 "coder" "B" (.int 0)) (HF_b1_count : Fld Z h0 b1 q3 "count" "I" (.int tn1)) (HV_ab1 : Arv Z h0 ab1 kb1 .byte (16 : Int32) vs1 (.int 0)) (HE_x2 : Exa Z h0 x2 q0) (HF_x2_text : Fld Z h0 x2 q0 "text" q7 (.ref b2)) (HF_x2_limit : Fld Z h0 x2 q0 "limit" "I" (.int tl2)) (HF_x2_value : Fld Z h0 x2 q0 "value" q8 .null) (HE_b2 : Exa Z h0 b2 q2) (HF_b2_value : Fld Z h0 b2 q3 "value" "[B" (.ref ab2)) (HF_b2_coder : Fld Z h0 b2 q3 "coder" "B" (.int 0)) (HF_b2_count : Fld Z h0 b2 q3 "count" "I" (.int tn2)) (HV_ab2 : Arv Z h0 ab2 kb2 .byte (16 : Int32) vs2 (.int 0)) (HV_a2 : Arv Z h0 a2 kc .char (3 : Int32) xs (.int 0)) (HS_java_lang_String_COMPACT_STRINGS : Sta Z h0 q4 q10 "Z" (.int wc)) (HS_jdk_internal_util_Preconditions_IOOBE_FORMATTER : Sta Z h0 q5 q12 q6 gv) (g_a1 : n0 ≤ a1) (g_ao : n0 ≤ ao) (g_x1 : n0 ≤ x1) (g_x2 : n0 ≤ x2) (hp : pn = 0 ∨ pn = 1 ∨ pn = 2 ∨ pn = 3) (hxl : own_lat xs) (hwc : ¬ wc = 0) (hgv : gv.isRef = true) (hov : Ovr Z ko "com/example/uzor/uzor/StringValues$Value") (he1 : (tl1 - pn) < tn1) (he2 : (tl2 - pn) < tn2) (hn_a1_ao : a1 ≠ ao) (hn_a1_x1 : a1 ≠ x1) (hn_a1_x2 : a1 ≠ x2) (hn_ao_x1 : ao ≠ x1) (hn_ao_x2 : ao ≠ x2) (hn_x1_x2 : x1 ≠ x2) (hn_b1_a1 : b1 ≠ a1) (hn_b1_ao : b1 ≠ ao) (hn_b1_x1 : b1 ≠ x1) (hn_b1_x2 : b1 ≠ x2) (hn_ab1_a1 : ab1 ≠ a1) (hn_ab1_ao : ab1 ≠ ao) (hn_ab1_x1 : ab1 ≠ x1) (hn_ab1_x2 : ab1 ≠ x2) (hn_b2_a1 : b2 ≠ a1) (hn_b2_ao : b2 ≠ ao) (hn_b2_x1 : b2 ≠ x1) (hn_b2_x2 : b2 ≠ x2) (hn_ab2_a1 : ab2 ≠ a1) (hn_ab2_ao : ab2 ≠ ao) (hn_ab2_x1 : ab2 ≠ x1) (hn_ab2_x2 : ab2 ≠ x2) (hn_a2_a1 : a2 ≠ a1) (hn_a2_ao : a2 ≠ ao) (hn_a2_x1 : a2 ≠ x1) (hn_a2_x2 : a2 ≠ x2) :
    Met1 l n4 prog_34_method_3_code 6 none ws R_rmtpp #[(.ref a1), (.ref a2), (.int 0), (.int pn)] Z h0 (Qtpp Z a1 a2 pn ao ko dd x1 b1 ab1 kb1 tn1 vs1 tl1 x2 b2 ab2 kb2 tn2 vs2 tl2 kc xs wc gv h0 n0) := by
  refine Met1.enter (plainFor_of_name pn_4) (fun m => ef_rmtpp m a1 a2 pn) fun p e s m below meth c s₁ hx hby hlk hret hml hown hnm hZ X0 e0 => ?_
  have N0 := Fr.nil n0
  have K0 := Keep.refl h0 [a1, ao, x1, x2]
  show Fin p e below s _ _ _ (s₁.setTop (mkF m 0 #[rv a1, rv a2, iv 0, iv pn, .unset, .unset] []))
  refine Fin.step (fun _ k => Yo.iconst X0.here hx (hb hby d4_0) (Yo.istore X0.here hx (hb hby d4_1) rfl (l' := #[rv a1, rv a2, iv 0, iv pn, iv 0, .unset]) rfl (Yo.iconst X0.here hx (hb hby d4_3) (Yo.istore X0.here hx (hb hby d4_4) rfl (l' := #[rv a1, rv a2, iv 0, iv pn, iv 0, iv 0]) rfl (Yo.iload X0.here hx (hb hby d4_6) rfl (Yo.aloadN X0.here hx (hb hby d4_8) rfl rfl k)))))) ?_
  refine fget X0 hx hZ hown (W_ hw 26) e0 HF_a1_count (hb hby d4_9) fun Ty1 Xy1 ey1 => ?_
  refine Fin.step (fun _ k => Yo.icmpNo Xy1.here hx (hb hby d4_12) rfl (tlt ((by decide) : ((0 : Int32) < (2 : Int32)))).2.1 (Yo.iload Xy1.here hx (hb hby d4_15) rfl (Yo.aloadN Xy1.here hx (hb hby d4_17) rfl rfl k))) ?_
  refine fget Xy1 hx hZ hown (W_ hw 12) ey1 HF_a1_open (hb hby d4_18) fun Ty2 Xy2 ey2 => ?_
  refine Fin.step (fun _ k => Yo.iload Xy2.here hx (hb hby d4_21) rfl k) ?_
  refine fald Xy2 hx hZ ey2 HV_ao rfl (j := (0 : Int32)) (v := (.ref x1)) ⟨by decide, by decide⟩ rfl (hb hby d4_23) ?_
  refine Fin.step (fun _ k => Yo.aloadN Xy2.here hx (hb hby d4_24) rfl rfl (Yo.iloadN Xy2.here hx (hb hby d4_25) rfl (Yo.iloadN Xy2.here hx (hb hby d4_26) rfl k))) ?_
  obtain ⟨cqy4, qy4, qy4'⟩ := HE_x1.cell
  obtain ⟨_, Ty4, Lcy4, Xy4, hQy4, sty4⟩ := pack (privateHot Xy2 hx hZ (y := n10) hown (W_ hw 71) (W_ hw 72) (W_ hw 73) (W_ hw 38) (W_ hw 74) (by decide) (backOf (W := 1) (rmadp l Z a0 hw [] x1 a2 pn b1 tn1 tl1 h0 n0 Z0 HE_x1 HF_x1_text HF_x1_limit HF_x1_value HE_b1 HF_b1_count g_x1 he1) hZ (W_ hw 74) (W_ hw 39) (by decide) (by decide)) (g := (mkF m 27 #[rv a1, rv a2, iv 0, iv pn, iv 0, iv 0] [(.int pn), (.int 0), (.ref a2), (.ref x1), (.int 0)])) rfl (by rw [hml]; rfl) (Steps.refl _) (a := x1) (by rw [ey2]; exact qy4) qy4' (argsL := [(.ref a2), (.int 0), (.int pn)]) (rest := [(.int 0)]) (lenOf pd_18 rfl) rfl (lb rfl) (hb hby d4_27) (fun _ _ => ⟨rfl, ey2, (by decide : 0 + 0 ≤ _), (by decide : 0 + 0 ≤ _)⟩))
  obtain ⟨rfl, Nqy4, Kcy4, fy4_0, fy4_1⟩ := hQy4
  have Ny4 := Fr.app N0 Nqy4
  have Zy4 := Nat.le_trans Z0 Kcy4.1
  have Ky4 := K0.trans Kcy4 (allS m2 all0)
  refine Fin.step (sty4) ?_
  show Fin p e below s _ _ _ (Ty4.setTop (mkF m 30 #[rv a1, rv a2, iv 0, iv pn, iv 0, iv 0] [(.int 0), (.int 0)]))
  refine Fin.step (fun _ k => Yo.ifNo Xy4.here hx (hb hby d4_30) rfl ((if0 _ _).trans (teq ((by decide) : ((0 : Int32) = (0 : Int32)))).2) (Yo.iconst Xy4.here hx (hb hby d4_33) (Yo.goto Xy4.here hx (pc0 := 34) (pc' := 38) rfl (hb hby d4_34) (by decide) (by decide) (Yo.ior Xy4.here hx (hb hby d4_38) rfl k)))) ?_
  show Fin p e below s _ _ _ (Ty4.setTop (mkF m 39 #[rv a1, rv a2, iv 0, iv pn, iv 0, iv 0] [(.int 1)]))
  refine Fin.step (fun _ k => Yo.istore Xy4.here hx (hb hby d4_39) rfl (l' := #[rv a1, rv a2, iv 0, iv pn, iv 1, iv 0]) rfl (Yo.iinc Xy4.here hx (hb hby d4_41) rfl (l' := #[rv a1, rv a2, iv 0, iv pn, iv 1, iv 1]) rfl k)) ?_
  show Fin p e below s _ _ _ (Ty4.setTop (mkF m 44 #[rv a1, rv a2, iv 0, iv pn, iv 1, iv 1] []))
  refine Fin.step (fun _ k => Yo.goto Xy4.here hx (pc0 := 44) (pc' := 6) rfl (hb hby d4_44) (by decide) (by decide) (Yo.iload Xy4.here hx (hb hby d4_6) rfl (Yo.aloadN Xy4.here hx (hb hby d4_8) rfl rfl k))) ?_
  have ry6 := (HF_a1_count.keep Kcy4 (ninS hn_a1_x1 nin0))
  refine fget Xy4 hx hZ hown (W_ hw 26) rfl ry6 (hb hby d4_9) fun Ty5 Xy5 ey5 => ?_
  refine Fin.step (fun _ k => Yo.icmpNo Xy5.here hx (hb hby d4_12) rfl (tlt ((by decide) : ((1 : Int32) < (2 : Int32)))).2.1 (Yo.iload Xy5.here hx (hb hby d4_15) rfl (Yo.aloadN Xy5.here hx (hb hby d4_17) rfl rfl k))) ?_
  have ry8 := (HF_a1_open.keep Kcy4 (ninS hn_a1_x1 nin0))
  refine fget Xy5 hx hZ hown (W_ hw 12) ey5 ry8 (hb hby d4_18) fun Ty7 Xy7 ey7 => ?_
  refine Fin.step (fun _ k => Yo.iload Xy7.here hx (hb hby d4_21) rfl k) ?_
  have ry10 := (HV_ao.keep Kcy4 (ninS hn_ao_x1 nin0))
  refine fald Xy7 hx hZ ey7 ry10 rfl (j := (1 : Int32)) (v := (.ref x2)) ⟨by decide, by decide⟩ rfl (hb hby d4_23) ?_
  refine Fin.step (fun _ k => Yo.aloadN Xy7.here hx (hb hby d4_24) rfl rfl (Yo.iloadN Xy7.here hx (hb hby d4_25) rfl (Yo.iloadN Xy7.here hx (hb hby d4_26) rfl k))) ?_
  have ry11 := (HF_x2_text.keep Kcy4 (ninS (Ne.symm hn_x1_x2) nin0))
  have ry12 := (HF_x2_limit.keep Kcy4 (ninS (Ne.symm hn_x1_x2) nin0))
  have ry13 := (HF_x2_value.keep Kcy4 (ninS (Ne.symm hn_x1_x2) nin0))
  have ry14 := (HF_b2_count.keep Kcy4 (ninS hn_b2_x1 nin0))
  obtain ⟨cqy15, qy15, qy15'⟩ := (HE_x2.keep Kcy4).cell
  obtain ⟨_, Ty15, Lcy15, Xy15, hQy15, sty15⟩ := pack (privateHot Xy7 hx hZ (y := n10) hown (W_ hw 71) (W_ hw 72) (W_ hw 73) (W_ hw 38) (W_ hw 74) (by decide) (backOf (W := 1) (rmadp l Z a0 hw [] x2 a2 pn b2 tn2 tl2 Ty4.heap n0 Zy4 (HE_x2.keep Kcy4) ry11 ry12 ry13 (HE_b2.keep Kcy4) ry14 g_x2 he2) hZ (W_ hw 74) (W_ hw 39) (by decide) (by decide)) (g := (mkF m 27 #[rv a1, rv a2, iv 0, iv pn, iv 1, iv 1] [(.int pn), (.int 0), (.ref a2), (.ref x2), (.int 1)])) rfl (by rw [hml]; rfl) (Steps.refl _) (a := x2) (by rw [ey7]; exact qy15) qy15' (argsL := [(.ref a2), (.int 0), (.int pn)]) (rest := [(.int 1)]) (lenOf pd_18 rfl) rfl (lb rfl) (hb hby d4_27) (fun _ _ => ⟨rfl, ey7, (by decide : 0 + 0 ≤ _), (by decide : 0 + 0 ≤ _)⟩))
  obtain ⟨rfl, Nqy15, Kcy15, fy15_0, fy15_1⟩ := hQy15
  have Ny15 := Fr.app Ny4 Nqy15
  have Zy15 := Nat.le_trans Zy4 Kcy15.1
  have Ky15 := Ky4.trans Kcy15 (allS m3 all0)
  refine Fin.step (sty15) ?_
  show Fin p e below s _ _ _ (Ty15.setTop (mkF m 30 #[rv a1, rv a2, iv 0, iv pn, iv 1, iv 1] [(.int 0), (.int 1)]))
  refine Fin.step (fun _ k => Yo.ifNo Xy15.here hx (hb hby d4_30) rfl ((if0 _ _).trans (teq ((by decide) : ((0 : Int32) = (0 : Int32)))).2) (Yo.iconst Xy15.here hx (hb hby d4_33) (Yo.goto Xy15.here hx (pc0 := 34) (pc' := 38) rfl (hb hby d4_34) (by decide) (by decide) (Yo.ior Xy15.here hx (hb hby d4_38) rfl k)))) ?_
  show Fin p e below s _ _ _ (Ty15.setTop (mkF m 39 #[rv a1, rv a2, iv 0, iv pn, iv 1, iv 1] [(.int 1)]))
  refine Fin.step (fun _ k => Yo.istore Xy15.here hx (hb hby d4_39) rfl (l' := #[rv a1, rv a2, iv 0, iv pn, iv 1, iv 1]) rfl (Yo.iinc Xy15.here hx (hb hby d4_41) rfl (l' := #[rv a1, rv a2, iv 0, iv pn, iv 1, iv 2]) rfl k)) ?_
  show Fin p e below s _ _ _ (Ty15.setTop (mkF m 44 #[rv a1, rv a2, iv 0, iv pn, iv 1, iv 2] []))
  refine Fin.step (fun _ k => Yo.goto Xy15.here hx (pc0 := 44) (pc' := 6) rfl (hb hby d4_44) (by decide) (by decide) (Yo.iload Xy15.here hx (hb hby d4_6) rfl (Yo.aloadN Xy15.here hx (hb hby d4_8) rfl rfl k))) ?_
  have ry17 := (ry6.keep Kcy15 (ninS hn_a1_x2 nin0))
  refine fget Xy15 hx hZ hown (W_ hw 26) rfl ry17 (hb hby d4_9) fun Ty16 Xy16 ey16 => ?_
  refine Fin.step (fun _ k => Yo.icmpYes Xy16.here hx (pc0 := 12) (pc' := 47) rfl (hb hby d4_12) rfl (flt ((by decide) : ¬ ((2 : Int32) < (2 : Int32)))).2.1 (by decide) (by decide) (Yo.iload Xy16.here hx (hb hby d4_47) rfl (Yo.ifNo Xy16.here hx (hb hby d4_49) rfl ((if0 _ _).trans (feq ((by decide) : ¬ ((1 : Int32) = (0 : Int32)))).1) (Yo.aloadN Xy16.here hx (hb hby d4_52) rfl rfl k)))) ?_
  have ry18 := ((HE_a1.keep Kcy4).keep Kcy15)
  have ry19 := (ry8.keep Kcy15 (ninS hn_a1_x2 nin0))
  have ry20 := ((HF_a1_depth.keep Kcy4 (ninS hn_a1_x1 nin0)).keep Kcy15 (ninS hn_a1_x2 nin0))
  have ry21 := (ry10.keep Kcy15 (ninS hn_ao_x2 nin0))
  have ry22 := ((HE_x1.keep Kcy4).keep Kcy15)
  have ry23 := (fy4_0.keep Kcy15 (ninS hn_x1_x2 nin0))
  have ry24 := ((HE_x2.keep Kcy4).keep Kcy15)
  obtain ⟨cqy25, qy25, qy25'⟩ := ry18.cell
  obtain ⟨_, Ty25, Lcy25, Xy25, hQy25, sty25⟩ := pack (Xy16.privateBack hx (y := n39) hown (mvT hZ (W_ hw 216)) (mvT hZ (W_ hw 217)) (mvT hZ (sel_of (NI.inst (W_ hw 2)) (W_ hw 217) (W_ hw 218) (by decide))) (Cond.privateMethod_at (mvP hZ (W_ hw 218) (args := #[]))) (mvT hZ (W_ hw 219)) (by decide) (backOf (W := 0) (rmlo00 l Z a0 hw [] a1 ao ko dd x1 x2 Ty15.heap n0 Zy15 ry18 ry19 ry20 ry17 ry21 ry22 ry23 ry24 fy15_0 g_a1 g_ao hov hn_a1_ao (Ne.symm hn_ao_x1) (Ne.symm hn_a1_x1) (Ne.symm hn_ao_x2) (Ne.symm hn_a1_x2)) hZ (W_ hw 219) (W_ hw 3) (by decide) (by decide)) (g := (mkF m 53 #[rv a1, rv a2, iv 0, iv pn, iv 1, iv 2] [(.ref a1)])) rfl (by rw [hml]; rfl) (Steps.refl _) (a := a1) (by rw [ey16]; exact qy25) qy25' (argsL := []) (rest := []) (lenOf pd_7 rfl) rfl (lb rfl) (hb hby d4_53) (fun _ _ => ⟨rfl, ey16, (by decide : 0 + 0 ≤ _), (by decide : 0 + 0 ≤ _)⟩))
  obtain ⟨rfl, Nqy25, Kcy25, fy25_0, fy25_1, fy25_2, fy25_3⟩ := hQy25
  have Ny25 := Fr.app Ny15 Nqy25
  have Zy25 := Nat.le_trans Zy15 Kcy25.1
  have Ky25 := Ky15.trans Kcy25 (allS m0 (allS m1 all0))
  refine Fin.step (sty25) ?_
  show Fin p e below s _ _ _ (Ty25.setTop (mkF m 56 #[rv a1, rv a2, iv 0, iv pn, iv 1, iv 2] []))
  refine Fin.retV Xy25 hx hret hlk (hb hby d4_56) (by decide) (by decide) ?_
  show Qtpp Z a1 a2 pn ao ko dd x1 b1 ab1 kb1 tn1 vs1 tl1 x2 b2 ab2 kb2 tn2 vs2 tl2 kc xs wc gv h0 n0 _ Ty25.heap _
  exact ⟨rfl, Ny25, Ky25, fy25_0, fy25_1, fy25_2, fy25_3, (ry23.keep Kcy25 (ninS (Ne.symm hn_a1_x1) (ninS (Ne.symm hn_ao_x1) nin0))), ((fy4_1.keep Kcy15 (ninS hn_x1_x2 nin0)).keep Kcy25 (ninS (Ne.symm hn_a1_x1) (ninS (Ne.symm hn_ao_x1) nin0))), (fy15_0.keep Kcy25 (ninS (Ne.symm hn_a1_x2) (ninS (Ne.symm hn_ao_x2) nin0))), (fy15_1.keep Kcy25 (ninS (Ne.symm hn_a1_x2) (ninS (Ne.symm hn_ao_x2) nin0)))⟩
theorem pn_5 : plainName "com/example/uzor/uzor/StringValues" = true := by first | (simp [plainName, overriddenIn]; done) | decide +kernel
theorem d5_0 : decode prog_34_method_5_code 0 = .ok (.aload_n 0, 1) := by decide +kernel
theorem d5_1 : decode prog_34_method_5_code 1 = .ok (.getfield 19, 3) := by decide +kernel
theorem d5_4 : decode prog_34_method_5_code 4 = .ok (.ifCond .le 56, 3) := by decide +kernel
theorem d5_60 : decode prog_34_method_5_code 60 = .ok (.aload_n 0, 1) := by decide +kernel
theorem d5_61 : decode prog_34_method_5_code 61 = .ok (.dup, 1) := by decide +kernel
theorem d5_62 : decode prog_34_method_5_code 62 = .ok (.getfield 15, 3) := by decide +kernel
theorem d5_65 : decode prog_34_method_5_code 65 = .ok (.iconst 1, 1) := by decide +kernel
theorem d5_66 : decode prog_34_method_5_code 66 = .ok (.isub, 1) := by decide +kernel
theorem d5_67 : decode prog_34_method_5_code 67 = .ok (.dup_x1, 1) := by decide +kernel
theorem d5_68 : decode prog_34_method_5_code 68 = .ok (.putfield 15, 3) := by decide +kernel
theorem d5_71 : decode prog_34_method_5_code 71 = .ok (.ireturn, 1) := by decide +kernel
theorem ef_rmen1 (m : MethodId) (x0 : Addr) : entryFrame m #[(.ref x0)] 1 = mkF m 0 #[.val (.ref x0)] [] := by first | (simp [entryFrame, mkF, argsToLocals, Value.category]; done) | rfl
abbrev R_rmen1 : Room := ({ frames := 0, cells := 0, slots := 0, locals := 0 } : Room)
def Qen1 (Z : State) (a1 ao : Addr) (h0 : Heap) (n0 : Nat) (v : Option Value) (h : Heap) (L : List Loc) : Prop := v = some (.int 0) ∧ Fr n0 L ∧ Keep h0 h [a1] ∧ Fld Z h a1 q1 "open" q9 (.ref ao) ∧ Fld Z h a1 q1 "depth" "I" (.int 0) ∧ Fld Z h a1 q1 "count" "I" (.int 0)
set_option maxRecDepth 65536 in
set_option maxHeartbeats 40000000 in
theorem rmen1 (l : Launch) (Z : State) (a0 : Array Value) (hw : ∀ d ∈ tables_1, d.before a0 Z = true) (ws : List Jvm.Cond) (a1 ao : Addr) (h0 : Heap) (n0 : Nat) (Z0 : n0 ≤ h0.size) (HE_a1 : Exa Z h0 a1 q1) (HF_a1_open : Fld Z h0 a1 q1 "open" q9 (.ref ao)) (HF_a1_depth : Fld Z h0 a1 q1 "depth" "I" (.int 1)) (HF_a1_count : Fld Z h0 a1 q1 "count" "I" (.int 0)) (g_a1 : n0 ≤ a1) :
    Met1 l n5 prog_34_method_5_code 1 (some .int) ws R_rmen1 #[(.ref a1)] Z h0 (Qen1 Z a1 ao h0 n0) := by
  refine Met1.enter (plainFor_of_name pn_5) (fun m => ef_rmen1 m a1) fun p e s m below meth c s₁ hx hby hlk hret hml hown hnm hZ X0 e0 => ?_
  have N0 := Fr.nil n0
  have K0 := Keep.refl h0 [a1]
  show Fin p e below s _ _ _ (s₁.setTop (mkF m 0 #[rv a1] []))
  refine Fin.step (fun _ k => Yo.aloadN X0.here hx (hb hby d5_0) rfl rfl k) ?_
  refine fget X0 hx hZ hown (W_ hw 26) e0 HF_a1_count (hb hby d5_1) fun Ty1 Xy1 ey1 => ?_
  refine Fin.step (fun _ k => Yo.ifYes Xy1.here hx (pc0 := 4) (pc' := 60) rfl (hb hby d5_4) rfl ((if0 _ _).trans (flt ((by decide) : ¬ ((0 : Int32) < (0 : Int32)))).2.2.2) (by decide) (by decide) (Yo.aloadN Xy1.here hx (hb hby d5_60) rfl rfl (Yo.dup Xy1.here hx (hb hby d5_61) rfl rfl k))) ?_
  refine fget Xy1 hx hZ hown (W_ hw 19) ey1 HF_a1_depth (hb hby d5_62) fun Ty2 Xy2 ey2 => ?_
  refine Fin.step (fun _ k => Yo.iconst Xy2.here hx (hb hby d5_65) (Yo.isub Xy2.here hx (hb hby d5_66) rfl k)) ?_
  show Fin p e below s _ _ _ (Ty2.setTop (mkF m 67 #[rv a1] [(.int 0), (.ref a1)]))
  refine Fin.step (fun _ k => Yo.dupX1 Xy2.here hx (hb hby d5_67) rfl rfl rfl k) ?_
  obtain ⟨Ty3, hy3, Xy3, ey3, Wy3, sty3⟩ := putF Xy2 hx hZ hown (host := "") (Or.inl (W_ hw 19)) Via.refl ey2 HF_a1_depth HE_a1 (Or.inl (W_ hw 20)) (W_ hw 2) (ty := .int) (by decide) rfl rfl (g := (mkF m 68 #[rv a1] [(.int 0), (.ref a1), (.int 0)])) rfl rfl (hb hby d5_68)
  have Fwy3 : Fld Z hy3 a1 q1 "depth" "I" (.int 0) := HF_a1_depth.same Wy3
  have Zy3 : n0 ≤ hy3.size := Nat.le_trans Z0 (Keep.of_wr Wy3).1
  have Ky3 : Keep h0 hy3 [a1] := K0.wr Wy3 m0
  have Ny3 := Fr.snoc Xy3 N0 g_a1
  refine Fin.step (sty3) ?_
  show Fin p e below s _ _ _ (Ty3.setTop (mkF m 71 #[rv a1] [(.int 0)]))
  refine Fin.retI Xy3 hx hret hlk (hb hby d5_71) (by decide) (by decide) ?_
  show Qen1 Z a1 ao h0 n0 _ Ty3.heap _
  rw [ey3]
  exact ⟨rfl, Ny3, Ky3, (HF_a1_open.other Wy3 (Or.inr (slot_ne (Or.inl (W_ hw 13)) (Or.inl (W_ hw 20)) (by decide) (t := (.array (.object "com/example/uzor/uzor/StringValues$Value"))) (t' := .int) (by decide) (by decide)))), Fwy3, (HF_a1_count.other Wy3 (Or.inr (slot_ne (Or.inl (W_ hw 27)) (Or.inl (W_ hw 20)) (by decide) (t := .int) (t' := .int) (by decide) (by decide))))⟩
theorem ef_rmen2 (m : MethodId) (x0 : Addr) : entryFrame m #[(.ref x0)] 1 = mkF m 0 #[.val (.ref x0)] [] := by first | (simp [entryFrame, mkF, argsToLocals, Value.category]; done) | rfl
abbrev R_rmen2 : Room := ({ frames := 0, cells := 0, slots := 0, locals := 0 } : Room)
def Qen2 (Z : State) (a1 ao : Addr) (h0 : Heap) (n0 : Nat) (v : Option Value) (h : Heap) (L : List Loc) : Prop := v = some (.int 1) ∧ Fr n0 L ∧ Keep h0 h [a1] ∧ Fld Z h a1 q1 "open" q9 (.ref ao) ∧ Fld Z h a1 q1 "depth" "I" (.int 1) ∧ Fld Z h a1 q1 "count" "I" (.int 0)
set_option maxRecDepth 65536 in
set_option maxHeartbeats 40000000 in
theorem rmen2 (l : Launch) (Z : State) (a0 : Array Value) (hw : ∀ d ∈ tables_1, d.before a0 Z = true) (ws : List Jvm.Cond) (a1 ao : Addr) (h0 : Heap) (n0 : Nat) (Z0 : n0 ≤ h0.size) (HE_a1 : Exa Z h0 a1 q1) (HF_a1_open : Fld Z h0 a1 q1 "open" q9 (.ref ao)) (HF_a1_depth : Fld Z h0 a1 q1 "depth" "I" (.int 2)) (HF_a1_count : Fld Z h0 a1 q1 "count" "I" (.int 0)) (g_a1 : n0 ≤ a1) :
    Met1 l n5 prog_34_method_5_code 1 (some .int) ws R_rmen2 #[(.ref a1)] Z h0 (Qen2 Z a1 ao h0 n0) := by
  refine Met1.enter (plainFor_of_name pn_5) (fun m => ef_rmen2 m a1) fun p e s m below meth c s₁ hx hby hlk hret hml hown hnm hZ X0 e0 => ?_
  have N0 := Fr.nil n0
  have K0 := Keep.refl h0 [a1]
  show Fin p e below s _ _ _ (s₁.setTop (mkF m 0 #[rv a1] []))
  refine Fin.step (fun _ k => Yo.aloadN X0.here hx (hb hby d5_0) rfl rfl k) ?_
  refine fget X0 hx hZ hown (W_ hw 26) e0 HF_a1_count (hb hby d5_1) fun Ty1 Xy1 ey1 => ?_
  refine Fin.step (fun _ k => Yo.ifYes Xy1.here hx (pc0 := 4) (pc' := 60) rfl (hb hby d5_4) rfl ((if0 _ _).trans (flt ((by decide) : ¬ ((0 : Int32) < (0 : Int32)))).2.2.2) (by decide) (by decide) (Yo.aloadN Xy1.here hx (hb hby d5_60) rfl rfl (Yo.dup Xy1.here hx (hb hby d5_61) rfl rfl k))) ?_
  refine fget Xy1 hx hZ hown (W_ hw 19) ey1 HF_a1_depth (hb hby d5_62) fun Ty2 Xy2 ey2 => ?_
  refine Fin.step (fun _ k => Yo.iconst Xy2.here hx (hb hby d5_65) (Yo.isub Xy2.here hx (hb hby d5_66) rfl k)) ?_
  show Fin p e below s _ _ _ (Ty2.setTop (mkF m 67 #[rv a1] [(.int 1), (.ref a1)]))
  refine Fin.step (fun _ k => Yo.dupX1 Xy2.here hx (hb hby d5_67) rfl rfl rfl k) ?_
  obtain ⟨Ty3, hy3, Xy3, ey3, Wy3, sty3⟩ := putF Xy2 hx hZ hown (host := "") (Or.inl (W_ hw 19)) Via.refl ey2 HF_a1_depth HE_a1 (Or.inl (W_ hw 20)) (W_ hw 2) (ty := .int) (by decide) rfl rfl (g := (mkF m 68 #[rv a1] [(.int 1), (.ref a1), (.int 1)])) rfl rfl (hb hby d5_68)
  have Fwy3 : Fld Z hy3 a1 q1 "depth" "I" (.int 1) := HF_a1_depth.same Wy3
  have Zy3 : n0 ≤ hy3.size := Nat.le_trans Z0 (Keep.of_wr Wy3).1
  have Ky3 : Keep h0 hy3 [a1] := K0.wr Wy3 m0
  have Ny3 := Fr.snoc Xy3 N0 g_a1
  refine Fin.step (sty3) ?_
  show Fin p e below s _ _ _ (Ty3.setTop (mkF m 71 #[rv a1] [(.int 1)]))
  refine Fin.retI Xy3 hx hret hlk (hb hby d5_71) (by decide) (by decide) ?_
  show Qen2 Z a1 ao h0 n0 _ Ty3.heap _
  rw [ey3]
  exact ⟨rfl, Ny3, Ky3, (HF_a1_open.other Wy3 (Or.inr (slot_ne (Or.inl (W_ hw 13)) (Or.inl (W_ hw 20)) (by decide) (t := (.array (.object "com/example/uzor/uzor/StringValues$Value"))) (t' := .int) (by decide) (by decide)))), Fwy3, (HF_a1_count.other Wy3 (Or.inr (slot_ne (Or.inl (W_ hw 27)) (Or.inl (W_ hw 20)) (by decide) (t := .int) (t' := .int) (by decide) (by decide))))⟩
theorem d5_7 : decode prog_34_method_5_code 7 = .ok (.aload_n 0, 1) := by decide +kernel
theorem d5_8 : decode prog_34_method_5_code 8 = .ok (.getfield 9, 3) := by decide +kernel
theorem d5_11 : decode prog_34_method_5_code 11 = .ok (.aload_n 0, 1) := by decide +kernel
theorem d5_12 : decode prog_34_method_5_code 12 = .ok (.getfield 19, 3) := by decide +kernel
theorem d5_15 : decode prog_34_method_5_code 15 = .ok (.iconst 1, 1) := by decide +kernel
theorem d5_16 : decode prog_34_method_5_code 16 = .ok (.isub, 1) := by decide +kernel
theorem d5_17 : decode prog_34_method_5_code 17 = .ok (.aaload, 1) := by decide +kernel
theorem d5_18 : decode prog_34_method_5_code 18 = .ok (.getfield 39, 3) := by decide +kernel
theorem d5_21 : decode prog_34_method_5_code 21 = .ok (.aload_n 0, 1) := by decide +kernel
theorem d5_22 : decode prog_34_method_5_code 22 = .ok (.getfield 15, 3) := by decide +kernel
theorem d5_25 : decode prog_34_method_5_code 25 = .ok (.if_icmp .ne 35, 3) := by decide +kernel
theorem ef_rmen2n (m : MethodId) (x0 : Addr) : entryFrame m #[(.ref x0)] 1 = mkF m 0 #[.val (.ref x0)] [] := by first | (simp [entryFrame, mkF, argsToLocals, Value.category]; done) | rfl
abbrev R_rmen2n : Room := ({ frames := 0, cells := 0, slots := 0, locals := 0 } : Room)
def Qen2n (Z : State) (a1 ao : Addr) (ko : ClassId) (x1 : Addr) (h0 : Heap) (n0 : Nat) (v : Option Value) (h : Heap) (L : List Loc) : Prop := v = some (.int 1) ∧ Fr n0 L ∧ Keep h0 h [a1] ∧ Fld Z h a1 q1 "open" q9 (.ref ao) ∧ Fld Z h a1 q1 "depth" "I" (.int 1) ∧ Fld Z h a1 q1 "count" "I" (.int 1)
set_option maxRecDepth 65536 in
set_option maxHeartbeats 40000000 in
theorem rmen2n (l : Launch) (Z : State) (a0 : Array Value) (hw : ∀ d ∈ tables_1, d.before a0 Z = true) (ws : List Jvm.Cond) (a1 ao : Addr) (ko : ClassId) (x1 : Addr) (h0 : Heap) (n0 : Nat) (Z0 : n0 ≤ h0.size) (HE_a1 : Exa Z h0 a1 q1) (HF_a1_open : Fld Z h0 a1 q1 "open" q9 (.ref ao)) (HF_a1_depth : Fld Z h0 a1 q1 "depth" "I" (.int 2)) (HF_a1_count : Fld Z h0 a1 q1 "count" "I" (.int 1)) (HV_ao : Arv Z h0 ao ko (.object "com/example/uzor/uzor/StringValues$Value") (4 : Int32) [(.ref x1), .null, .null, .null] .null) (HF_x1_depth : Fld Z h0 x1 q0 "depth" "I" (.int 1)) (g_a1 : n0 ≤ a1) :
    Met1 l n5 prog_34_method_5_code 1 (some .int) ws R_rmen2n #[(.ref a1)] Z h0 (Qen2n Z a1 ao ko x1 h0 n0) := by
  refine Met1.enter (plainFor_of_name pn_5) (fun m => ef_rmen2n m a1) fun p e s m below meth c s₁ hx hby hlk hret hml hown hnm hZ X0 e0 => ?_
  have N0 := Fr.nil n0
  have K0 := Keep.refl h0 [a1]
  show Fin p e below s _ _ _ (s₁.setTop (mkF m 0 #[rv a1] []))
  refine Fin.step (fun _ k => Yo.aloadN X0.here hx (hb hby d5_0) rfl rfl k) ?_
  refine fget X0 hx hZ hown (W_ hw 26) e0 HF_a1_count (hb hby d5_1) fun Ty1 Xy1 ey1 => ?_
  refine Fin.step (fun _ k => Yo.ifNo Xy1.here hx (hb hby d5_4) rfl ((if0 _ _).trans (tlt ((by decide) : ((0 : Int32) < (1 : Int32)))).2.2.2) (Yo.aloadN Xy1.here hx (hb hby d5_7) rfl rfl k)) ?_
  refine fget Xy1 hx hZ hown (W_ hw 12) ey1 HF_a1_open (hb hby d5_8) fun Ty2 Xy2 ey2 => ?_
  refine Fin.step (fun _ k => Yo.aloadN Xy2.here hx (hb hby d5_11) rfl rfl k) ?_
  refine fget Xy2 hx hZ hown (W_ hw 26) ey2 HF_a1_count (hb hby d5_12) fun Ty3 Xy3 ey3 => ?_
  refine Fin.step (fun _ k => Yo.iconst Xy3.here hx (hb hby d5_15) (Yo.isub Xy3.here hx (hb hby d5_16) rfl k)) ?_
  show Fin p e below s _ _ _ (Ty3.setTop (mkF m 17 #[rv a1] [(.int 0), (.ref ao)]))
  refine fald Xy3 hx hZ ey3 HV_ao rfl (j := (0 : Int32)) (v := (.ref x1)) ⟨by decide, by decide⟩ rfl (hb hby d5_17) ?_
  refine Fin.step (getHot Xy3 hx hZ hown (W_ hw 121) ey3 HF_x1_depth (g := (mkF m 18 #[rv a1] [(.ref x1)])) rfl rfl (hb hby d5_18)) ?_
  show Fin p e below s _ _ _ (Ty3.setTop (mkF m 21 #[rv a1] [(.int 1)]))
  refine Fin.step (fun _ k => Yo.aloadN Xy3.here hx (hb hby d5_21) rfl rfl k) ?_
  refine fget Xy3 hx hZ hown (W_ hw 19) ey3 HF_a1_depth (hb hby d5_22) fun Ty5 Xy5 ey5 => ?_
  refine Fin.step (fun _ k => Yo.icmpYes Xy5.here hx (pc0 := 25) (pc' := 60) rfl (hb hby d5_25) rfl (feq ((by decide) : ¬ ((1 : Int32) = (2 : Int32)))).2 (by decide) (by decide) (Yo.aloadN Xy5.here hx (hb hby d5_60) rfl rfl (Yo.dup Xy5.here hx (hb hby d5_61) rfl rfl k))) ?_
  refine fget Xy5 hx hZ hown (W_ hw 19) ey5 HF_a1_depth (hb hby d5_62) fun Ty6 Xy6 ey6 => ?_
  refine Fin.step (fun _ k => Yo.iconst Xy6.here hx (hb hby d5_65) (Yo.isub Xy6.here hx (hb hby d5_66) rfl k)) ?_
  show Fin p e below s _ _ _ (Ty6.setTop (mkF m 67 #[rv a1] [(.int 1), (.ref a1)]))
  refine Fin.step (fun _ k => Yo.dupX1 Xy6.here hx (hb hby d5_67) rfl rfl rfl k) ?_
  obtain ⟨Ty7, hy7, Xy7, ey7, Wy7, sty7⟩ := putF Xy6 hx hZ hown (host := "") (Or.inl (W_ hw 19)) Via.refl ey6 HF_a1_depth HE_a1 (Or.inl (W_ hw 20)) (W_ hw 2) (ty := .int) (by decide) rfl rfl (g := (mkF m 68 #[rv a1] [(.int 1), (.ref a1), (.int 1)])) rfl rfl (hb hby d5_68)
  have Fwy7 : Fld Z hy7 a1 q1 "depth" "I" (.int 1) := HF_a1_depth.same Wy7
  have Zy7 : n0 ≤ hy7.size := Nat.le_trans Z0 (Keep.of_wr Wy7).1
  have Ky7 : Keep h0 hy7 [a1] := K0.wr Wy7 m0
  have Ny7 := Fr.snoc Xy7 N0 g_a1
  refine Fin.step (sty7) ?_
  show Fin p e below s _ _ _ (Ty7.setTop (mkF m 71 #[rv a1] [(.int 1)]))
  refine Fin.retI Xy7 hx hret hlk (hb hby d5_71) (by decide) (by decide) ?_
  show Qen2n Z a1 ao ko x1 h0 n0 _ Ty7.heap _
  rw [ey7]
  exact ⟨rfl, Ny7, Ky7, (HF_a1_open.other Wy7 (Or.inr (slot_ne (Or.inl (W_ hw 13)) (Or.inl (W_ hw 20)) (by decide) (t := (.array (.object "com/example/uzor/uzor/StringValues$Value"))) (t' := .int) (by decide) (by decide)))), Fwy7, (HF_a1_count.other Wy7 (Or.inr (slot_ne (Or.inl (W_ hw 27)) (Or.inl (W_ hw 20)) (by decide) (t := .int) (t' := .int) (by decide) (by decide))))⟩
theorem d5_28 : decode prog_34_method_5_code 28 = .ok (.aload_n 0, 1) := by decide +kernel
theorem d5_29 : decode prog_34_method_5_code 29 = .ok (.getfield 9, 3) := by decide +kernel
theorem d5_32 : decode prog_34_method_5_code 32 = .ok (.aload_n 0, 1) := by decide +kernel
theorem d5_33 : decode prog_34_method_5_code 33 = .ok (.dup, 1) := by decide +kernel
theorem d5_34 : decode prog_34_method_5_code 34 = .ok (.getfield 19, 3) := by decide +kernel
theorem d5_37 : decode prog_34_method_5_code 37 = .ok (.iconst 1, 1) := by decide +kernel
theorem d5_38 : decode prog_34_method_5_code 38 = .ok (.isub, 1) := by decide +kernel
theorem d5_39 : decode prog_34_method_5_code 39 = .ok (.dup_x1, 1) := by decide +kernel
theorem d5_40 : decode prog_34_method_5_code 40 = .ok (.putfield 19, 3) := by decide +kernel
theorem d5_43 : decode prog_34_method_5_code 43 = .ok (.aaload, 1) := by decide +kernel
theorem d5_44 : decode prog_34_method_5_code 44 = .ok (.invokevirtual 40, 3) := by decide +kernel
theorem d5_47 : decode prog_34_method_5_code 47 = .ok (.aload_n 0, 1) := by decide +kernel
theorem d5_48 : decode prog_34_method_5_code 48 = .ok (.getfield 9, 3) := by decide +kernel
theorem d5_51 : decode prog_34_method_5_code 51 = .ok (.aload_n 0, 1) := by decide +kernel
theorem d5_52 : decode prog_34_method_5_code 52 = .ok (.getfield 19, 3) := by decide +kernel
theorem d5_55 : decode prog_34_method_5_code 55 = .ok (.aconst_null, 1) := by decide +kernel
theorem d5_56 : decode prog_34_method_5_code 56 = .ok (.aastore, 1) := by decide +kernel
theorem d5_57 : decode prog_34_method_5_code 57 = .ok (.goto (-57), 3) := by decide +kernel
theorem ef_rmes1 (m : MethodId) (x0 : Addr) : entryFrame m #[(.ref x0)] 1 = mkF m 0 #[.val (.ref x0)] [] := by first | (simp [entryFrame, mkF, argsToLocals, Value.category]; done) | rfl
abbrev R_rmes1 : Room := ({ frames := 7, cells := 2, slots := 10, locals := 104 } : Room)
def Qes1 (Z : State) (a1 ao : Addr) (ko : ClassId) (x1 bo ab : Addr) (kb : ClassId) (tn : Int32) (vs : List Value) (wc : Int32) (h0 : Heap) (n0 : Nat) (v : Option Value) (h : Heap) (L : List Loc) : Prop := ∃ so : Addr, ∃ nb : Addr, ∃ kn : ClassId, v = some (.int 0) ∧ h0.size ≤ so ∧ h0.size ≤ nb ∧ Fr n0 L ∧ Keep h0 h [a1, ao, x1] ∧ Fld Z h a1 q1 "open" q9 (.ref ao) ∧ Fld Z h a1 q1 "depth" "I" (.int 0) ∧ Fld Z h a1 q1 "count" "I" (.int 0) ∧ Arv Z h ao ko (.object "com/example/uzor/uzor/StringValues$Value") (4 : Int32) [.null, .null, .null, .null] .null ∧ Fld Z h x1 q0 "value" q8 (.ref so) ∧ Exa Z h so q4 ∧ Fld Z h so q4 "coder" "B" (.int 0) ∧ Fld Z h so q4 "value" "[B" (.ref nb) ∧ Arv Z h nb kn .byte tn (own_cp vs tn.toNatClampNeg) (.int 0) ∧ so ≠ nb
set_option maxRecDepth 65536 in
set_option maxHeartbeats 40000000 in
theorem rmes1 (l : Launch) (Z : State) (a0 : Array Value) (hw : ∀ d ∈ tables_1, d.before a0 Z = true) (ws : List Jvm.Cond) (a1 ao : Addr) (ko : ClassId) (x1 bo ab : Addr) (kb : ClassId) (tn : Int32) (vs : List Value) (wc : Int32) (h0 : Heap) (n0 : Nat) (Z0 : n0 ≤ h0.size) (HE_a1 : Exa Z h0 a1 q1) (HF_a1_open : Fld Z h0 a1 q1 "open" q9 (.ref ao)) (HF_a1_depth : Fld Z h0 a1 q1 "depth" "I" (.int 1)) (HF_a1_count : Fld Z h0 a1 q1 "count" "I" (.int 1)) (HV_ao : Arv Z h0 ao ko (.object "com/example/uzor/uzor/StringValues$Value") (4 : Int32) [(.ref x1), .null, .null, .null] .null) (HE_x1 : Exa Z h0 x1 q0) (HF_x1_text : Fld Z h0 x1 q0 "text" q7 (.ref bo)) (HF_x1_value : Fld Z h0 x1 q0 "value" q8 .null) (HF_x1_depth : Fld Z h0 x1 q0 "depth" "I" (.int 1)) (HE_bo : Exa Z h0 bo q2) (HF_bo_value : Fld Z h0 bo q3 "value" "[B" (.ref ab)) (HF_bo_coder : Fld Z h0 bo q3 "coder" "B" (.int 0)) (HF_bo_count : Fld Z h0 bo q3 "count" "I" (.int tn)) (HV_ab : Arv Z h0 ab kb .byte (16 : Int32) vs (.int 0)) (HS_java_lang_String_COMPACT_STRINGS : Sta Z h0 q4 q10 "Z" (.int wc)) (g_a1 : n0 ≤ a1) (g_ao : n0 ≤ ao) (g_x1 : n0 ≤ x1) (h6 : 0 ≤ tn.toInt ∧ tn.toInt ≤ 6) (hwc : ¬ wc = 0) (hn_a1_ao : a1 ≠ ao) (hn_x1_a1 : x1 ≠ a1) (hn_x1_ao : x1 ≠ ao) (hn_bo_a1 : bo ≠ a1) (hn_bo_ao : bo ≠ ao) (hn_bo_x1 : bo ≠ x1) (hn_ab_a1 : ab ≠ a1) (hn_ab_ao : ab ≠ ao) (hn_ab_x1 : ab ≠ x1) :
    Met1 l n5 prog_34_method_5_code 1 (some .int) ws R_rmes1 #[(.ref a1)] Z h0 (Qes1 Z a1 ao ko x1 bo ab kb tn vs wc h0 n0) := by
  refine Met1.enter (plainFor_of_name pn_5) (fun m => ef_rmes1 m a1) fun p e s m below meth c s₁ hx hby hlk hret hml hown hnm hZ X0 e0 => ?_
  have N0 := Fr.nil n0
  have K0 := Keep.refl h0 [a1, ao, x1]
  show Fin p e below s _ _ _ (s₁.setTop (mkF m 0 #[rv a1] []))
  refine Fin.step (fun _ k => Yo.aloadN X0.here hx (hb hby d5_0) rfl rfl k) ?_
  refine fget X0 hx hZ hown (W_ hw 26) e0 HF_a1_count (hb hby d5_1) fun Ty1 Xy1 ey1 => ?_
  refine Fin.step (fun _ k => Yo.ifNo Xy1.here hx (hb hby d5_4) rfl ((if0 _ _).trans (tlt ((by decide) : ((0 : Int32) < (1 : Int32)))).2.2.2) (Yo.aloadN Xy1.here hx (hb hby d5_7) rfl rfl k)) ?_
  refine fget Xy1 hx hZ hown (W_ hw 12) ey1 HF_a1_open (hb hby d5_8) fun Ty2 Xy2 ey2 => ?_
  refine Fin.step (fun _ k => Yo.aloadN Xy2.here hx (hb hby d5_11) rfl rfl k) ?_
  refine fget Xy2 hx hZ hown (W_ hw 26) ey2 HF_a1_count (hb hby d5_12) fun Ty3 Xy3 ey3 => ?_
  refine Fin.step (fun _ k => Yo.iconst Xy3.here hx (hb hby d5_15) (Yo.isub Xy3.here hx (hb hby d5_16) rfl k)) ?_
  show Fin p e below s _ _ _ (Ty3.setTop (mkF m 17 #[rv a1] [(.int 0), (.ref ao)]))
  refine fald Xy3 hx hZ ey3 HV_ao rfl (j := (0 : Int32)) (v := (.ref x1)) ⟨by decide, by decide⟩ rfl (hb hby d5_17) ?_
  refine Fin.step (getHot Xy3 hx hZ hown (W_ hw 121) ey3 HF_x1_depth (g := (mkF m 18 #[rv a1] [(.ref x1)])) rfl rfl (hb hby d5_18)) ?_
  show Fin p e below s _ _ _ (Ty3.setTop (mkF m 21 #[rv a1] [(.int 1)]))
  refine Fin.step (fun _ k => Yo.aloadN Xy3.here hx (hb hby d5_21) rfl rfl k) ?_
  refine fget Xy3 hx hZ hown (W_ hw 19) ey3 HF_a1_depth (hb hby d5_22) fun Ty5 Xy5 ey5 => ?_
  refine Fin.step (fun _ k => Yo.icmpNo Xy5.here hx (hb hby d5_25) rfl (teq ((by decide) : ((1 : Int32) = (1 : Int32)))).2 (Yo.aloadN Xy5.here hx (hb hby d5_28) rfl rfl k)) ?_
  refine fget Xy5 hx hZ hown (W_ hw 12) ey5 HF_a1_open (hb hby d5_29) fun Ty6 Xy6 ey6 => ?_
  refine Fin.step (fun _ k => Yo.aloadN Xy6.here hx (hb hby d5_32) rfl rfl (Yo.dup Xy6.here hx (hb hby d5_33) rfl rfl k)) ?_
  refine fget Xy6 hx hZ hown (W_ hw 26) ey6 HF_a1_count (hb hby d5_34) fun Ty7 Xy7 ey7 => ?_
  refine Fin.step (fun _ k => Yo.iconst Xy7.here hx (hb hby d5_37) (Yo.isub Xy7.here hx (hb hby d5_38) rfl k)) ?_
  show Fin p e below s _ _ _ (Ty7.setTop (mkF m 39 #[rv a1] [(.int 0), (.ref a1), (.ref ao)]))
  refine Fin.step (fun _ k => Yo.dupX1 Xy7.here hx (hb hby d5_39) rfl rfl rfl k) ?_
  obtain ⟨Ty8, hy8, Xy8, ey8, Wy8, sty8⟩ := putF Xy7 hx hZ hown (host := "") (Or.inl (W_ hw 26)) Via.refl ey7 HF_a1_count HE_a1 (Or.inl (W_ hw 27)) (W_ hw 2) (ty := .int) (by decide) rfl rfl (g := (mkF m 40 #[rv a1] [(.int 0), (.ref a1), (.int 0), (.ref ao)])) rfl rfl (hb hby d5_40)
  have Fwy8 : Fld Z hy8 a1 q1 "count" "I" (.int 0) := HF_a1_count.same Wy8
  have Zy8 : n0 ≤ hy8.size := Nat.le_trans Z0 (Keep.of_wr Wy8).1
  have Ky8 : Keep h0 hy8 [a1, ao, x1] := K0.wr Wy8 m0
  have Ny8 := Fr.snoc Xy8 N0 g_a1
  refine Fin.step (sty8) ?_
  show Fin p e below s _ _ _ (Ty8.setTop (mkF m 43 #[rv a1] [(.int 0), (.ref ao)]))
  have ry10 := (HV_ao.other Wy8 (Ne.symm hn_a1_ao))
  refine fald Xy8 hx hZ ey8 ry10 rfl (j := (0 : Int32)) (v := (.ref x1)) ⟨by decide, by decide⟩ rfl (hb hby d5_43) ?_
  have ry11 := (HF_x1_text.other Wy8 (Or.inl hn_x1_a1))
  have ry12 := (HF_x1_value.other Wy8 (Or.inl hn_x1_a1))
  have ry13 := (HF_bo_value.other Wy8 (Or.inl hn_bo_a1))
  have ry14 := (HF_bo_coder.other Wy8 (Or.inl hn_bo_a1))
  have ry15 := (HF_bo_count.other Wy8 (Or.inl hn_bo_a1))
  have ry16 := (HS_java_lang_String_COMPACT_STRINGS.wr Wy8)
  obtain ⟨cqy17, qy17, qy17'⟩ := (HE_x1.wr Wy8).cell
  obtain ⟨_, Ty17, Lcy17, Xy17, hQy17, sty17⟩ := pack (privateHot Xy8 hx hZ (y := n21) hown (W_ hw 129) (W_ hw 130) (W_ hw 131) (W_ hw 38) (W_ hw 132) (by decide) (backOf (W := 0) (rmve l Z a0 hw [] x1 bo ab kb tn vs wc hy8 n0 Zy8 (HE_x1.wr Wy8) ry11 ry12 (HE_bo.wr Wy8) ry13 ry14 ry15 (HV_ab.other Wy8 hn_ab_a1) ry16 g_x1 h6 hwc) hZ (W_ hw 132) (W_ hw 39) (by decide) (by decide)) (g := (mkF m 44 #[rv a1] [(.ref x1)])) rfl (by rw [hml]; rfl) (Steps.refl _) (a := x1) (by rw [ey8]; exact qy17) qy17' (argsL := []) (rest := []) (lenOf pd_7 rfl) rfl (lb rfl) (hb hby d5_44) (fun _ _ => ⟨rfl, ey8, (by decide : 0 + 2 ≤ _), (by decide : 0 + 10 ≤ _)⟩))
  obtain ⟨so_y17, nb_y17, kn_y17, rfl, bfy17_0, bfy17_1, Nqy17, Kcy17, fy17_0, fy17_1, fy17_2, fy17_3, fy17_4, fy17_5, ney17_0, ney17_1, ney17_2⟩ := hQy17
  have Ny17 := Fr.app Ny8 Nqy17
  have gzy17_0 : n0 ≤ so_y17 := Nat.le_trans Zy8 bfy17_0
  have szy17_0 : h0.size ≤ so_y17 := Nat.le_trans Ky8.1 bfy17_0
  have gzy17_1 : n0 ≤ nb_y17 := Nat.le_trans Zy8 bfy17_1
  have szy17_1 : h0.size ≤ nb_y17 := Nat.le_trans Ky8.1 bfy17_1
  have Zy17 := Nat.le_trans Zy8 Kcy17.1
  have Ky17 := Ky8.trans Kcy17 (allS m2 all0)
  refine Fin.step (sty17) ?_
  show Fin p e below s _ _ _ (Ty17.setTop (mkF m 47 #[rv a1] []))
  refine Fin.step (fun _ k => Yo.aloadN Xy17.here hx (hb hby d5_47) rfl rfl k) ?_
  have ry19 := ((HF_a1_open.other Wy8 (Or.inr (slot_ne (Or.inl (W_ hw 13)) (Or.inl (W_ hw 27)) (by decide) (t := (.array (.object "com/example/uzor/uzor/StringValues$Value"))) (t' := .int) (by decide) (by decide)))).keep Kcy17 (ninS (Ne.symm hn_x1_a1) nin0))
  refine fget Xy17 hx hZ hown (W_ hw 12) rfl ry19 (hb hby d5_48) fun Ty18 Xy18 ey18 => ?_
  refine Fin.step (fun _ k => Yo.aloadN Xy18.here hx (hb hby d5_51) rfl rfl k) ?_
  have ry21 := (Fwy8.keep Kcy17 (ninS (Ne.symm hn_x1_a1) nin0))
  refine fget Xy18 hx hZ hown (W_ hw 26) ey18 ry21 (hb hby d5_52) fun Ty20 Xy20 ey20 => ?_
  refine Fin.step (fun _ k => Yo.aconstNull Xy20.here hx (hb hby d5_55) k) ?_
  have voy22 := (ry10.keep Kcy17 (ninS (Ne.symm hn_x1_ao) nin0))
  obtain ⟨cly22, Ary22, qay22, say22, nay22, hay22, gay22⟩ := voy22
  obtain ⟨Ty22, hy22, Xy22, ey22, Wy22, sty22⟩ := stR Xy20 hx hZ ey20 Ary22 (j := (0 : Int32)) (inb_of say22 ⟨by decide, by decide⟩) rfl (Or.inl rfl) (g := (mkF m 56 #[rv a1] [.null, (.int 0), (.ref ao)])) rfl rfl (hb hby d5_56)
  have Vy22 : Arv Z hy22 ao ko (.object "com/example/uzor/uzor/StringValues$Value") (4 : Int32) [.null, .null, .null, .null] .null := Arv.set Ary22 qay22 say22 nay22 hay22 gay22 rfl Wy22 0 rfl (Nat.le_of_ble_eq_true rfl)
  have Zy22 : n0 ≤ hy22.size := Nat.le_trans Zy17 (Keep.of_wr Wy22).1
  have Ky22 : Keep h0 hy22 [a1, ao, x1] := Ky17.wr Wy22 m1
  have Ny22 := Fr.snoc Xy22 Ny17 g_ao
  refine Fin.step (sty22) ?_
  show Fin p e below s _ _ _ (Ty22.setTop (mkF m 57 #[rv a1] []))
  refine Fin.step (fun _ k => Yo.goto Xy22.here hx (pc0 := 57) (pc' := 0) rfl (hb hby d5_57) (by decide) (by decide) (Yo.aloadN Xy22.here hx (hb hby d5_0) rfl rfl k)) ?_
  have ry24 := (ry21.other Wy22 (Or.inl hn_a1_ao))
  refine fget Xy22 hx hZ hown (W_ hw 26) ey22 ry24 (hb hby d5_1) fun Ty23 Xy23 ey23 => ?_
  refine Fin.step (fun _ k => Yo.ifYes Xy23.here hx (pc0 := 4) (pc' := 60) rfl (hb hby d5_4) rfl ((if0 _ _).trans (flt ((by decide) : ¬ ((0 : Int32) < (0 : Int32)))).2.2.2) (by decide) (by decide) (Yo.aloadN Xy23.here hx (hb hby d5_60) rfl rfl (Yo.dup Xy23.here hx (hb hby d5_61) rfl rfl k))) ?_
  have ry26 := (((HF_a1_depth.other Wy8 (Or.inr (slot_ne (Or.inl (W_ hw 20)) (Or.inl (W_ hw 27)) (by decide) (t := .int) (t' := .int) (by decide) (by decide)))).keep Kcy17 (ninS (Ne.symm hn_x1_a1) nin0)).other Wy22 (Or.inl hn_a1_ao))
  refine fget Xy23 hx hZ hown (W_ hw 19) ey23 ry26 (hb hby d5_62) fun Ty25 Xy25 ey25 => ?_
  refine Fin.step (fun _ k => Yo.iconst Xy25.here hx (hb hby d5_65) (Yo.isub Xy25.here hx (hb hby d5_66) rfl k)) ?_
  show Fin p e below s _ _ _ (Ty25.setTop (mkF m 67 #[rv a1] [(.int 0), (.ref a1)]))
  refine Fin.step (fun _ k => Yo.dupX1 Xy25.here hx (hb hby d5_67) rfl rfl rfl k) ?_
  obtain ⟨Ty27, hy27, Xy27, ey27, Wy27, sty27⟩ := putF Xy25 hx hZ hown (host := "") (Or.inl (W_ hw 19)) Via.refl ey25 ry26 (((HE_a1.wr Wy8).keep Kcy17).wr Wy22) (Or.inl (W_ hw 20)) (W_ hw 2) (ty := .int) (by decide) rfl rfl (g := (mkF m 68 #[rv a1] [(.int 0), (.ref a1), (.int 0)])) rfl rfl (hb hby d5_68)
  have Fwy27 : Fld Z hy27 a1 q1 "depth" "I" (.int 0) := ry26.same Wy27
  have Zy27 : n0 ≤ hy27.size := Nat.le_trans Zy22 (Keep.of_wr Wy27).1
  have Ky27 : Keep h0 hy27 [a1, ao, x1] := Ky22.wr Wy27 m0
  have Ny27 := Fr.snoc Xy27 Ny22 g_a1
  refine Fin.step (sty27) ?_
  show Fin p e below s _ _ _ (Ty27.setTop (mkF m 71 #[rv a1] [(.int 0)]))
  refine Fin.retI Xy27 hx hret hlk (hb hby d5_71) (by decide) (by decide) ?_
  show Qes1 Z a1 ao ko x1 bo ab kb tn vs wc h0 n0 _ Ty27.heap _
  rw [ey27]
  have ney28 := nlt ((nsV HV_ao).wr Wy8).lt bfy17_0
  have ney29 := nlt (HE_a1.wr Wy8).lt bfy17_0
  have ney30 := nlt ((nsV HV_ao).wr Wy8).lt bfy17_1
  have ney31 := nlt (HE_a1.wr Wy8).lt bfy17_1
  exact ⟨so_y17, nb_y17, kn_y17, rfl, szy17_0, szy17_1, Ny27, Ky27, ((ry19.other Wy22 (Or.inl hn_a1_ao)).other Wy27 (Or.inr (slot_ne (Or.inl (W_ hw 13)) (Or.inl (W_ hw 20)) (by decide) (t := (.array (.object "com/example/uzor/uzor/StringValues$Value"))) (t' := .int) (by decide) (by decide)))), Fwy27, (ry24.other Wy27 (Or.inr (slot_ne (Or.inl (W_ hw 27)) (Or.inl (W_ hw 20)) (by decide) (t := .int) (t' := .int) (by decide) (by decide)))), (Vy22.other Wy27 (Ne.symm hn_a1_ao)), ((fy17_0.other Wy22 (Or.inl hn_x1_ao)).other Wy27 (Or.inl hn_x1_a1)), ((fy17_2.wr Wy22).wr Wy27), ((fy17_3.other Wy22 (Or.inl (Ne.symm ney28))).other Wy27 (Or.inl (Ne.symm ney29))), ((fy17_4.other Wy22 (Or.inl (Ne.symm ney28))).other Wy27 (Or.inl (Ne.symm ney29))), ((fy17_5.other Wy22 (Ne.symm ney30)).other Wy27 (Ne.symm ney31)), ney17_0⟩
theorem ef_rmes2 (m : MethodId) (x0 : Addr) : entryFrame m #[(.ref x0)] 1 = mkF m 0 #[.val (.ref x0)] [] := by first | (simp [entryFrame, mkF, argsToLocals, Value.category]; done) | rfl
abbrev R_rmes2 : Room := ({ frames := 7, cells := 2, slots := 10, locals := 104 } : Room)
def Qes2 (Z : State) (a1 ao : Addr) (ko : ClassId) (x1 bo ab : Addr) (kb : ClassId) (tn : Int32) (vs : List Value) (wc : Int32) (h0 : Heap) (n0 : Nat) (v : Option Value) (h : Heap) (L : List Loc) : Prop := ∃ so : Addr, ∃ nb : Addr, ∃ kn : ClassId, v = some (.int 1) ∧ h0.size ≤ so ∧ h0.size ≤ nb ∧ Fr n0 L ∧ Keep h0 h [a1, ao, x1] ∧ Fld Z h a1 q1 "open" q9 (.ref ao) ∧ Fld Z h a1 q1 "depth" "I" (.int 1) ∧ Fld Z h a1 q1 "count" "I" (.int 0) ∧ Arv Z h ao ko (.object "com/example/uzor/uzor/StringValues$Value") (4 : Int32) [.null, .null, .null, .null] .null ∧ Fld Z h x1 q0 "value" q8 (.ref so) ∧ Exa Z h so q4 ∧ Fld Z h so q4 "coder" "B" (.int 0) ∧ Fld Z h so q4 "value" "[B" (.ref nb) ∧ Arv Z h nb kn .byte tn (own_cp vs tn.toNatClampNeg) (.int 0) ∧ so ≠ nb
set_option maxRecDepth 65536 in
set_option maxHeartbeats 40000000 in
theorem rmes2 (l : Launch) (Z : State) (a0 : Array Value) (hw : ∀ d ∈ tables_1, d.before a0 Z = true) (ws : List Jvm.Cond) (a1 ao : Addr) (ko : ClassId) (x1 bo ab : Addr) (kb : ClassId) (tn : Int32) (vs : List Value) (wc : Int32) (h0 : Heap) (n0 : Nat) (Z0 : n0 ≤ h0.size) (HE_a1 : Exa Z h0 a1 q1) (HF_a1_open : Fld Z h0 a1 q1 "open" q9 (.ref ao)) (HF_a1_depth : Fld Z h0 a1 q1 "depth" "I" (.int 2)) (HF_a1_count : Fld Z h0 a1 q1 "count" "I" (.int 1)) (HV_ao : Arv Z h0 ao ko (.object "com/example/uzor/uzor/StringValues$Value") (4 : Int32) [(.ref x1), .null, .null, .null] .null) (HE_x1 : Exa Z h0 x1 q0) (HF_x1_text : Fld Z h0 x1 q0 "text" q7 (.ref bo)) (HF_x1_value : Fld Z h0 x1 q0 "value" q8 .null) (HF_x1_depth : Fld Z h0 x1 q0 "depth" "I" (.int 2)) (HE_bo : Exa Z h0 bo q2) (HF_bo_value : Fld Z h0 bo q3 "value" "[B" (.ref ab)) (HF_bo_coder : Fld Z h0 bo q3 "coder" "B" (.int 0)) (HF_bo_count : Fld Z h0 bo q3 "count" "I" (.int tn)) (HV_ab : Arv Z h0 ab kb .byte (16 : Int32) vs (.int 0)) (HS_java_lang_String_COMPACT_STRINGS : Sta Z h0 q4 q10 "Z" (.int wc)) (g_a1 : n0 ≤ a1) (g_ao : n0 ≤ ao) (g_x1 : n0 ≤ x1) (h6 : 0 ≤ tn.toInt ∧ tn.toInt ≤ 6) (hwc : ¬ wc = 0) (hn_a1_ao : a1 ≠ ao) (hn_x1_a1 : x1 ≠ a1) (hn_x1_ao : x1 ≠ ao) (hn_bo_a1 : bo ≠ a1) (hn_bo_ao : bo ≠ ao) (hn_bo_x1 : bo ≠ x1) (hn_ab_a1 : ab ≠ a1) (hn_ab_ao : ab ≠ ao) (hn_ab_x1 : ab ≠ x1) :
    Met1 l n5 prog_34_method_5_code 1 (some .int) ws R_rmes2 #[(.ref a1)] Z h0 (Qes2 Z a1 ao ko x1 bo ab kb tn vs wc h0 n0) := by
  refine Met1.enter (plainFor_of_name pn_5) (fun m => ef_rmes2 m a1) fun p e s m below meth c s₁ hx hby hlk hret hml hown hnm hZ X0 e0 => ?_
  have N0 := Fr.nil n0
  have K0 := Keep.refl h0 [a1, ao, x1]
  show Fin p e below s _ _ _ (s₁.setTop (mkF m 0 #[rv a1] []))
  refine Fin.step (fun _ k => Yo.aloadN X0.here hx (hb hby d5_0) rfl rfl k) ?_
  refine fget X0 hx hZ hown (W_ hw 26) e0 HF_a1_count (hb hby d5_1) fun Ty1 Xy1 ey1 => ?_
  refine Fin.step (fun _ k => Yo.ifNo Xy1.here hx (hb hby d5_4) rfl ((if0 _ _).trans (tlt ((by decide) : ((0 : Int32) < (1 : Int32)))).2.2.2) (Yo.aloadN Xy1.here hx (hb hby d5_7) rfl rfl k)) ?_
  refine fget Xy1 hx hZ hown (W_ hw 12) ey1 HF_a1_open (hb hby d5_8) fun Ty2 Xy2 ey2 => ?_
  refine Fin.step (fun _ k => Yo.aloadN Xy2.here hx (hb hby d5_11) rfl rfl k) ?_
  refine fget Xy2 hx hZ hown (W_ hw 26) ey2 HF_a1_count (hb hby d5_12) fun Ty3 Xy3 ey3 => ?_
  refine Fin.step (fun _ k => Yo.iconst Xy3.here hx (hb hby d5_15) (Yo.isub Xy3.here hx (hb hby d5_16) rfl k)) ?_
  show Fin p e below s _ _ _ (Ty3.setTop (mkF m 17 #[rv a1] [(.int 0), (.ref ao)]))
  refine fald Xy3 hx hZ ey3 HV_ao rfl (j := (0 : Int32)) (v := (.ref x1)) ⟨by decide, by decide⟩ rfl (hb hby d5_17) ?_
  refine Fin.step (getHot Xy3 hx hZ hown (W_ hw 121) ey3 HF_x1_depth (g := (mkF m 18 #[rv a1] [(.ref x1)])) rfl rfl (hb hby d5_18)) ?_
  show Fin p e below s _ _ _ (Ty3.setTop (mkF m 21 #[rv a1] [(.int 2)]))
  refine Fin.step (fun _ k => Yo.aloadN Xy3.here hx (hb hby d5_21) rfl rfl k) ?_
  refine fget Xy3 hx hZ hown (W_ hw 19) ey3 HF_a1_depth (hb hby d5_22) fun Ty5 Xy5 ey5 => ?_
  refine Fin.step (fun _ k => Yo.icmpNo Xy5.here hx (hb hby d5_25) rfl (teq ((by decide) : ((2 : Int32) = (2 : Int32)))).2 (Yo.aloadN Xy5.here hx (hb hby d5_28) rfl rfl k)) ?_
  refine fget Xy5 hx hZ hown (W_ hw 12) ey5 HF_a1_open (hb hby d5_29) fun Ty6 Xy6 ey6 => ?_
  refine Fin.step (fun _ k => Yo.aloadN Xy6.here hx (hb hby d5_32) rfl rfl (Yo.dup Xy6.here hx (hb hby d5_33) rfl rfl k)) ?_
  refine fget Xy6 hx hZ hown (W_ hw 26) ey6 HF_a1_count (hb hby d5_34) fun Ty7 Xy7 ey7 => ?_
  refine Fin.step (fun _ k => Yo.iconst Xy7.here hx (hb hby d5_37) (Yo.isub Xy7.here hx (hb hby d5_38) rfl k)) ?_
  show Fin p e below s _ _ _ (Ty7.setTop (mkF m 39 #[rv a1] [(.int 0), (.ref a1), (.ref ao)]))
  refine Fin.step (fun _ k => Yo.dupX1 Xy7.here hx (hb hby d5_39) rfl rfl rfl k) ?_
  obtain ⟨Ty8, hy8, Xy8, ey8, Wy8, sty8⟩ := putF Xy7 hx hZ hown (host := "") (Or.inl (W_ hw 26)) Via.refl ey7 HF_a1_count HE_a1 (Or.inl (W_ hw 27)) (W_ hw 2) (ty := .int) (by decide) rfl rfl (g := (mkF m 40 #[rv a1] [(.int 0), (.ref a1), (.int 0), (.ref ao)])) rfl rfl (hb hby d5_40)
  have Fwy8 : Fld Z hy8 a1 q1 "count" "I" (.int 0) := HF_a1_count.same Wy8
  have Zy8 : n0 ≤ hy8.size := Nat.le_trans Z0 (Keep.of_wr Wy8).1
  have Ky8 : Keep h0 hy8 [a1, ao, x1] := K0.wr Wy8 m0
  have Ny8 := Fr.snoc Xy8 N0 g_a1
  refine Fin.step (sty8) ?_
  show Fin p e below s _ _ _ (Ty8.setTop (mkF m 43 #[rv a1] [(.int 0), (.ref ao)]))
  have ry10 := (HV_ao.other Wy8 (Ne.symm hn_a1_ao))
  refine fald Xy8 hx hZ ey8 ry10 rfl (j := (0 : Int32)) (v := (.ref x1)) ⟨by decide, by decide⟩ rfl (hb hby d5_43) ?_
  have ry11 := (HF_x1_text.other Wy8 (Or.inl hn_x1_a1))
  have ry12 := (HF_x1_value.other Wy8 (Or.inl hn_x1_a1))
  have ry13 := (HF_bo_value.other Wy8 (Or.inl hn_bo_a1))
  have ry14 := (HF_bo_coder.other Wy8 (Or.inl hn_bo_a1))
  have ry15 := (HF_bo_count.other Wy8 (Or.inl hn_bo_a1))
  have ry16 := (HS_java_lang_String_COMPACT_STRINGS.wr Wy8)
  obtain ⟨cqy17, qy17, qy17'⟩ := (HE_x1.wr Wy8).cell
  obtain ⟨_, Ty17, Lcy17, Xy17, hQy17, sty17⟩ := pack (privateHot Xy8 hx hZ (y := n21) hown (W_ hw 129) (W_ hw 130) (W_ hw 131) (W_ hw 38) (W_ hw 132) (by decide) (backOf (W := 0) (rmve l Z a0 hw [] x1 bo ab kb tn vs wc hy8 n0 Zy8 (HE_x1.wr Wy8) ry11 ry12 (HE_bo.wr Wy8) ry13 ry14 ry15 (HV_ab.other Wy8 hn_ab_a1) ry16 g_x1 h6 hwc) hZ (W_ hw 132) (W_ hw 39) (by decide) (by decide)) (g := (mkF m 44 #[rv a1] [(.ref x1)])) rfl (by rw [hml]; rfl) (Steps.refl _) (a := x1) (by rw [ey8]; exact qy17) qy17' (argsL := []) (rest := []) (lenOf pd_7 rfl) rfl (lb rfl) (hb hby d5_44) (fun _ _ => ⟨rfl, ey8, (by decide : 0 + 2 ≤ _), (by decide : 0 + 10 ≤ _)⟩))
  obtain ⟨so_y17, nb_y17, kn_y17, rfl, bfy17_0, bfy17_1, Nqy17, Kcy17, fy17_0, fy17_1, fy17_2, fy17_3, fy17_4, fy17_5, ney17_0, ney17_1, ney17_2⟩ := hQy17
  have Ny17 := Fr.app Ny8 Nqy17
  have gzy17_0 : n0 ≤ so_y17 := Nat.le_trans Zy8 bfy17_0
  have szy17_0 : h0.size ≤ so_y17 := Nat.le_trans Ky8.1 bfy17_0
  have gzy17_1 : n0 ≤ nb_y17 := Nat.le_trans Zy8 bfy17_1
  have szy17_1 : h0.size ≤ nb_y17 := Nat.le_trans Ky8.1 bfy17_1
  have Zy17 := Nat.le_trans Zy8 Kcy17.1
  have Ky17 := Ky8.trans Kcy17 (allS m2 all0)
  refine Fin.step (sty17) ?_
  show Fin p e below s _ _ _ (Ty17.setTop (mkF m 47 #[rv a1] []))
  refine Fin.step (fun _ k => Yo.aloadN Xy17.here hx (hb hby d5_47) rfl rfl k) ?_
  have ry19 := ((HF_a1_open.other Wy8 (Or.inr (slot_ne (Or.inl (W_ hw 13)) (Or.inl (W_ hw 27)) (by decide) (t := (.array (.object "com/example/uzor/uzor/StringValues$Value"))) (t' := .int) (by decide) (by decide)))).keep Kcy17 (ninS (Ne.symm hn_x1_a1) nin0))
  refine fget Xy17 hx hZ hown (W_ hw 12) rfl ry19 (hb hby d5_48) fun Ty18 Xy18 ey18 => ?_
  refine Fin.step (fun _ k => Yo.aloadN Xy18.here hx (hb hby d5_51) rfl rfl k) ?_
  have ry21 := (Fwy8.keep Kcy17 (ninS (Ne.symm hn_x1_a1) nin0))
  refine fget Xy18 hx hZ hown (W_ hw 26) ey18 ry21 (hb hby d5_52) fun Ty20 Xy20 ey20 => ?_
  refine Fin.step (fun _ k => Yo.aconstNull Xy20.here hx (hb hby d5_55) k) ?_
  have voy22 := (ry10.keep Kcy17 (ninS (Ne.symm hn_x1_ao) nin0))
  obtain ⟨cly22, Ary22, qay22, say22, nay22, hay22, gay22⟩ := voy22
  obtain ⟨Ty22, hy22, Xy22, ey22, Wy22, sty22⟩ := stR Xy20 hx hZ ey20 Ary22 (j := (0 : Int32)) (inb_of say22 ⟨by decide, by decide⟩) rfl (Or.inl rfl) (g := (mkF m 56 #[rv a1] [.null, (.int 0), (.ref ao)])) rfl rfl (hb hby d5_56)
  have Vy22 : Arv Z hy22 ao ko (.object "com/example/uzor/uzor/StringValues$Value") (4 : Int32) [.null, .null, .null, .null] .null := Arv.set Ary22 qay22 say22 nay22 hay22 gay22 rfl Wy22 0 rfl (Nat.le_of_ble_eq_true rfl)
  have Zy22 : n0 ≤ hy22.size := Nat.le_trans Zy17 (Keep.of_wr Wy22).1
  have Ky22 : Keep h0 hy22 [a1, ao, x1] := Ky17.wr Wy22 m1
  have Ny22 := Fr.snoc Xy22 Ny17 g_ao
  refine Fin.step (sty22) ?_
  show Fin p e below s _ _ _ (Ty22.setTop (mkF m 57 #[rv a1] []))
  refine Fin.step (fun _ k => Yo.goto Xy22.here hx (pc0 := 57) (pc' := 0) rfl (hb hby d5_57) (by decide) (by decide) (Yo.aloadN Xy22.here hx (hb hby d5_0) rfl rfl k)) ?_
  have ry24 := (ry21.other Wy22 (Or.inl hn_a1_ao))
  refine fget Xy22 hx hZ hown (W_ hw 26) ey22 ry24 (hb hby d5_1) fun Ty23 Xy23 ey23 => ?_
  refine Fin.step (fun _ k => Yo.ifYes Xy23.here hx (pc0 := 4) (pc' := 60) rfl (hb hby d5_4) rfl ((if0 _ _).trans (flt ((by decide) : ¬ ((0 : Int32) < (0 : Int32)))).2.2.2) (by decide) (by decide) (Yo.aloadN Xy23.here hx (hb hby d5_60) rfl rfl (Yo.dup Xy23.here hx (hb hby d5_61) rfl rfl k))) ?_
  have ry26 := (((HF_a1_depth.other Wy8 (Or.inr (slot_ne (Or.inl (W_ hw 20)) (Or.inl (W_ hw 27)) (by decide) (t := .int) (t' := .int) (by decide) (by decide)))).keep Kcy17 (ninS (Ne.symm hn_x1_a1) nin0)).other Wy22 (Or.inl hn_a1_ao))
  refine fget Xy23 hx hZ hown (W_ hw 19) ey23 ry26 (hb hby d5_62) fun Ty25 Xy25 ey25 => ?_
  refine Fin.step (fun _ k => Yo.iconst Xy25.here hx (hb hby d5_65) (Yo.isub Xy25.here hx (hb hby d5_66) rfl k)) ?_
  show Fin p e below s _ _ _ (Ty25.setTop (mkF m 67 #[rv a1] [(.int 1), (.ref a1)]))
  refine Fin.step (fun _ k => Yo.dupX1 Xy25.here hx (hb hby d5_67) rfl rfl rfl k) ?_
  obtain ⟨Ty27, hy27, Xy27, ey27, Wy27, sty27⟩ := putF Xy25 hx hZ hown (host := "") (Or.inl (W_ hw 19)) Via.refl ey25 ry26 (((HE_a1.wr Wy8).keep Kcy17).wr Wy22) (Or.inl (W_ hw 20)) (W_ hw 2) (ty := .int) (by decide) rfl rfl (g := (mkF m 68 #[rv a1] [(.int 1), (.ref a1), (.int 1)])) rfl rfl (hb hby d5_68)
  have Fwy27 : Fld Z hy27 a1 q1 "depth" "I" (.int 1) := ry26.same Wy27
  have Zy27 : n0 ≤ hy27.size := Nat.le_trans Zy22 (Keep.of_wr Wy27).1
  have Ky27 : Keep h0 hy27 [a1, ao, x1] := Ky22.wr Wy27 m0
  have Ny27 := Fr.snoc Xy27 Ny22 g_a1
  refine Fin.step (sty27) ?_
  show Fin p e below s _ _ _ (Ty27.setTop (mkF m 71 #[rv a1] [(.int 1)]))
  refine Fin.retI Xy27 hx hret hlk (hb hby d5_71) (by decide) (by decide) ?_
  show Qes2 Z a1 ao ko x1 bo ab kb tn vs wc h0 n0 _ Ty27.heap _
  rw [ey27]
  have ney28 := nlt ((nsV HV_ao).wr Wy8).lt bfy17_0
  have ney29 := nlt (HE_a1.wr Wy8).lt bfy17_0
  have ney30 := nlt ((nsV HV_ao).wr Wy8).lt bfy17_1
  have ney31 := nlt (HE_a1.wr Wy8).lt bfy17_1
  exact ⟨so_y17, nb_y17, kn_y17, rfl, szy17_0, szy17_1, Ny27, Ky27, ((ry19.other Wy22 (Or.inl hn_a1_ao)).other Wy27 (Or.inr (slot_ne (Or.inl (W_ hw 13)) (Or.inl (W_ hw 20)) (by decide) (t := (.array (.object "com/example/uzor/uzor/StringValues$Value"))) (t' := .int) (by decide) (by decide)))), Fwy27, (ry24.other Wy27 (Or.inr (slot_ne (Or.inl (W_ hw 27)) (Or.inl (W_ hw 20)) (by decide) (t := .int) (t' := .int) (by decide) (by decide)))), (Vy22.other Wy27 (Ne.symm hn_a1_ao)), ((fy17_0.other Wy22 (Or.inl hn_x1_ao)).other Wy27 (Or.inl hn_x1_a1)), ((fy17_2.wr Wy22).wr Wy27), ((fy17_3.other Wy22 (Or.inl (Ne.symm ney28))).other Wy27 (Or.inl (Ne.symm ney29))), ((fy17_4.other Wy22 (Or.inl (Ne.symm ney28))).other Wy27 (Or.inl (Ne.symm ney29))), ((fy17_5.other Wy22 (Ne.symm ney30)).other Wy27 (Ne.symm ney31)), ney17_0⟩
theorem ef_rmes3 (m : MethodId) (x0 : Addr) : entryFrame m #[(.ref x0)] 1 = mkF m 0 #[.val (.ref x0)] [] := by first | (simp [entryFrame, mkF, argsToLocals, Value.category]; done) | rfl
abbrev R_rmes3 : Room := ({ frames := 7, cells := 2, slots := 10, locals := 104 } : Room)
def Qes3 (Z : State) (a1 ao : Addr) (ko : ClassId) (x1 x2 bo ab : Addr) (kb : ClassId) (tn : Int32) (vs : List Value) (wc : Int32) (h0 : Heap) (n0 : Nat) (v : Option Value) (h : Heap) (L : List Loc) : Prop := ∃ so : Addr, ∃ nb : Addr, ∃ kn : ClassId, v = some (.int 1) ∧ h0.size ≤ so ∧ h0.size ≤ nb ∧ Fr n0 L ∧ Keep h0 h [a1, ao, x2] ∧ Fld Z h a1 q1 "open" q9 (.ref ao) ∧ Fld Z h a1 q1 "depth" "I" (.int 1) ∧ Fld Z h a1 q1 "count" "I" (.int 1) ∧ Arv Z h ao ko (.object "com/example/uzor/uzor/StringValues$Value") (4 : Int32) [(.ref x1), .null, .null, .null] .null ∧ Fld Z h x2 q0 "value" q8 (.ref so) ∧ Exa Z h so q4 ∧ Fld Z h so q4 "coder" "B" (.int 0) ∧ Fld Z h so q4 "value" "[B" (.ref nb) ∧ Arv Z h nb kn .byte tn (own_cp vs tn.toNatClampNeg) (.int 0) ∧ so ≠ nb
set_option maxRecDepth 65536 in
set_option maxHeartbeats 40000000 in
theorem rmes3 (l : Launch) (Z : State) (a0 : Array Value) (hw : ∀ d ∈ tables_1, d.before a0 Z = true) (ws : List Jvm.Cond) (a1 ao : Addr) (ko : ClassId) (x1 x2 bo ab : Addr) (kb : ClassId) (tn : Int32) (vs : List Value) (wc : Int32) (h0 : Heap) (n0 : Nat) (Z0 : n0 ≤ h0.size) (HE_a1 : Exa Z h0 a1 q1) (HF_a1_open : Fld Z h0 a1 q1 "open" q9 (.ref ao)) (HF_a1_depth : Fld Z h0 a1 q1 "depth" "I" (.int 2)) (HF_a1_count : Fld Z h0 a1 q1 "count" "I" (.int 2)) (HV_ao : Arv Z h0 ao ko (.object "com/example/uzor/uzor/StringValues$Value") (4 : Int32) [(.ref x1), (.ref x2), .null, .null] .null) (HE_x2 : Exa Z h0 x2 q0) (HF_x2_text : Fld Z h0 x2 q0 "text" q7 (.ref bo)) (HF_x2_value : Fld Z h0 x2 q0 "value" q8 .null) (HF_x2_depth : Fld Z h0 x2 q0 "depth" "I" (.int 2)) (HE_bo : Exa Z h0 bo q2) (HF_bo_value : Fld Z h0 bo q3 "value" "[B" (.ref ab)) (HF_bo_coder : Fld Z h0 bo q3 "coder" "B" (.int 0)) (HF_bo_count : Fld Z h0 bo q3 "count" "I" (.int tn)) (HV_ab : Arv Z h0 ab kb .byte (16 : Int32) vs (.int 0)) (HF_x1_depth : Fld Z h0 x1 q0 "depth" "I" (.int 1)) (HS_java_lang_String_COMPACT_STRINGS : Sta Z h0 q4 q10 "Z" (.int wc)) (g_a1 : n0 ≤ a1) (g_ao : n0 ≤ ao) (g_x2 : n0 ≤ x2) (h6 : 0 ≤ tn.toInt ∧ tn.toInt ≤ 6) (hwc : ¬ wc = 0) (hn_a1_ao : a1 ≠ ao) (hn_x2_a1 : x2 ≠ a1) (hn_x2_ao : x2 ≠ ao) (hn_bo_a1 : bo ≠ a1) (hn_bo_ao : bo ≠ ao) (hn_bo_x2 : bo ≠ x2) (hn_ab_a1 : ab ≠ a1) (hn_ab_ao : ab ≠ ao) (hn_ab_x2 : ab ≠ x2) (hn_x1_a1 : x1 ≠ a1) (hn_x1_ao : x1 ≠ ao) (hn_x1_x2 : x1 ≠ x2) :
    Met1 l n5 prog_34_method_5_code 1 (some .int) ws R_rmes3 #[(.ref a1)] Z h0 (Qes3 Z a1 ao ko x1 x2 bo ab kb tn vs wc h0 n0) := by
  refine Met1.enter (plainFor_of_name pn_5) (fun m => ef_rmes3 m a1) fun p e s m below meth c s₁ hx hby hlk hret hml hown hnm hZ X0 e0 => ?_
  have N0 := Fr.nil n0
  have K0 := Keep.refl h0 [a1, ao, x2]
  show Fin p e below s _ _ _ (s₁.setTop (mkF m 0 #[rv a1] []))
  refine Fin.step (fun _ k => Yo.aloadN X0.here hx (hb hby d5_0) rfl rfl k) ?_
  refine fget X0 hx hZ hown (W_ hw 26) e0 HF_a1_count (hb hby d5_1) fun Ty1 Xy1 ey1 => ?_
  refine Fin.step (fun _ k => Yo.ifNo Xy1.here hx (hb hby d5_4) rfl ((if0 _ _).trans (tlt ((by decide) : ((0 : Int32) < (2 : Int32)))).2.2.2) (Yo.aloadN Xy1.here hx (hb hby d5_7) rfl rfl k)) ?_
  refine fget Xy1 hx hZ hown (W_ hw 12) ey1 HF_a1_open (hb hby d5_8) fun Ty2 Xy2 ey2 => ?_
  refine Fin.step (fun _ k => Yo.aloadN Xy2.here hx (hb hby d5_11) rfl rfl k) ?_
  refine fget Xy2 hx hZ hown (W_ hw 26) ey2 HF_a1_count (hb hby d5_12) fun Ty3 Xy3 ey3 => ?_
  refine Fin.step (fun _ k => Yo.iconst Xy3.here hx (hb hby d5_15) (Yo.isub Xy3.here hx (hb hby d5_16) rfl k)) ?_
  show Fin p e below s _ _ _ (Ty3.setTop (mkF m 17 #[rv a1] [(.int 1), (.ref ao)]))
  refine fald Xy3 hx hZ ey3 HV_ao rfl (j := (1 : Int32)) (v := (.ref x2)) ⟨by decide, by decide⟩ rfl (hb hby d5_17) ?_
  refine Fin.step (getHot Xy3 hx hZ hown (W_ hw 121) ey3 HF_x2_depth (g := (mkF m 18 #[rv a1] [(.ref x2)])) rfl rfl (hb hby d5_18)) ?_
  show Fin p e below s _ _ _ (Ty3.setTop (mkF m 21 #[rv a1] [(.int 2)]))
  refine Fin.step (fun _ k => Yo.aloadN Xy3.here hx (hb hby d5_21) rfl rfl k) ?_
  refine fget Xy3 hx hZ hown (W_ hw 19) ey3 HF_a1_depth (hb hby d5_22) fun Ty5 Xy5 ey5 => ?_
  refine Fin.step (fun _ k => Yo.icmpNo Xy5.here hx (hb hby d5_25) rfl (teq ((by decide) : ((2 : Int32) = (2 : Int32)))).2 (Yo.aloadN Xy5.here hx (hb hby d5_28) rfl rfl k)) ?_
  refine fget Xy5 hx hZ hown (W_ hw 12) ey5 HF_a1_open (hb hby d5_29) fun Ty6 Xy6 ey6 => ?_
  refine Fin.step (fun _ k => Yo.aloadN Xy6.here hx (hb hby d5_32) rfl rfl (Yo.dup Xy6.here hx (hb hby d5_33) rfl rfl k)) ?_
  refine fget Xy6 hx hZ hown (W_ hw 26) ey6 HF_a1_count (hb hby d5_34) fun Ty7 Xy7 ey7 => ?_
  refine Fin.step (fun _ k => Yo.iconst Xy7.here hx (hb hby d5_37) (Yo.isub Xy7.here hx (hb hby d5_38) rfl k)) ?_
  show Fin p e below s _ _ _ (Ty7.setTop (mkF m 39 #[rv a1] [(.int 1), (.ref a1), (.ref ao)]))
  refine Fin.step (fun _ k => Yo.dupX1 Xy7.here hx (hb hby d5_39) rfl rfl rfl k) ?_
  obtain ⟨Ty8, hy8, Xy8, ey8, Wy8, sty8⟩ := putF Xy7 hx hZ hown (host := "") (Or.inl (W_ hw 26)) Via.refl ey7 HF_a1_count HE_a1 (Or.inl (W_ hw 27)) (W_ hw 2) (ty := .int) (by decide) rfl rfl (g := (mkF m 40 #[rv a1] [(.int 1), (.ref a1), (.int 1), (.ref ao)])) rfl rfl (hb hby d5_40)
  have Fwy8 : Fld Z hy8 a1 q1 "count" "I" (.int 1) := HF_a1_count.same Wy8
  have Zy8 : n0 ≤ hy8.size := Nat.le_trans Z0 (Keep.of_wr Wy8).1
  have Ky8 : Keep h0 hy8 [a1, ao, x2] := K0.wr Wy8 m0
  have Ny8 := Fr.snoc Xy8 N0 g_a1
  refine Fin.step (sty8) ?_
  show Fin p e below s _ _ _ (Ty8.setTop (mkF m 43 #[rv a1] [(.int 1), (.ref ao)]))
  have ry10 := (HV_ao.other Wy8 (Ne.symm hn_a1_ao))
  refine fald Xy8 hx hZ ey8 ry10 rfl (j := (1 : Int32)) (v := (.ref x2)) ⟨by decide, by decide⟩ rfl (hb hby d5_43) ?_
  have ry11 := (HF_x2_text.other Wy8 (Or.inl hn_x2_a1))
  have ry12 := (HF_x2_value.other Wy8 (Or.inl hn_x2_a1))
  have ry13 := (HF_bo_value.other Wy8 (Or.inl hn_bo_a1))
  have ry14 := (HF_bo_coder.other Wy8 (Or.inl hn_bo_a1))
  have ry15 := (HF_bo_count.other Wy8 (Or.inl hn_bo_a1))
  have ry16 := (HS_java_lang_String_COMPACT_STRINGS.wr Wy8)
  obtain ⟨cqy17, qy17, qy17'⟩ := (HE_x2.wr Wy8).cell
  obtain ⟨_, Ty17, Lcy17, Xy17, hQy17, sty17⟩ := pack (privateHot Xy8 hx hZ (y := n21) hown (W_ hw 129) (W_ hw 130) (W_ hw 131) (W_ hw 38) (W_ hw 132) (by decide) (backOf (W := 0) (rmve l Z a0 hw [] x2 bo ab kb tn vs wc hy8 n0 Zy8 (HE_x2.wr Wy8) ry11 ry12 (HE_bo.wr Wy8) ry13 ry14 ry15 (HV_ab.other Wy8 hn_ab_a1) ry16 g_x2 h6 hwc) hZ (W_ hw 132) (W_ hw 39) (by decide) (by decide)) (g := (mkF m 44 #[rv a1] [(.ref x2)])) rfl (by rw [hml]; rfl) (Steps.refl _) (a := x2) (by rw [ey8]; exact qy17) qy17' (argsL := []) (rest := []) (lenOf pd_7 rfl) rfl (lb rfl) (hb hby d5_44) (fun _ _ => ⟨rfl, ey8, (by decide : 0 + 2 ≤ _), (by decide : 0 + 10 ≤ _)⟩))
  obtain ⟨so_y17, nb_y17, kn_y17, rfl, bfy17_0, bfy17_1, Nqy17, Kcy17, fy17_0, fy17_1, fy17_2, fy17_3, fy17_4, fy17_5, ney17_0, ney17_1, ney17_2⟩ := hQy17
  have Ny17 := Fr.app Ny8 Nqy17
  have gzy17_0 : n0 ≤ so_y17 := Nat.le_trans Zy8 bfy17_0
  have szy17_0 : h0.size ≤ so_y17 := Nat.le_trans Ky8.1 bfy17_0
  have gzy17_1 : n0 ≤ nb_y17 := Nat.le_trans Zy8 bfy17_1
  have szy17_1 : h0.size ≤ nb_y17 := Nat.le_trans Ky8.1 bfy17_1
  have Zy17 := Nat.le_trans Zy8 Kcy17.1
  have Ky17 := Ky8.trans Kcy17 (allS m2 all0)
  refine Fin.step (sty17) ?_
  show Fin p e below s _ _ _ (Ty17.setTop (mkF m 47 #[rv a1] []))
  refine Fin.step (fun _ k => Yo.aloadN Xy17.here hx (hb hby d5_47) rfl rfl k) ?_
  have ry19 := ((HF_a1_open.other Wy8 (Or.inr (slot_ne (Or.inl (W_ hw 13)) (Or.inl (W_ hw 27)) (by decide) (t := (.array (.object "com/example/uzor/uzor/StringValues$Value"))) (t' := .int) (by decide) (by decide)))).keep Kcy17 (ninS (Ne.symm hn_x2_a1) nin0))
  refine fget Xy17 hx hZ hown (W_ hw 12) rfl ry19 (hb hby d5_48) fun Ty18 Xy18 ey18 => ?_
  refine Fin.step (fun _ k => Yo.aloadN Xy18.here hx (hb hby d5_51) rfl rfl k) ?_
  have ry21 := (Fwy8.keep Kcy17 (ninS (Ne.symm hn_x2_a1) nin0))
  refine fget Xy18 hx hZ hown (W_ hw 26) ey18 ry21 (hb hby d5_52) fun Ty20 Xy20 ey20 => ?_
  refine Fin.step (fun _ k => Yo.aconstNull Xy20.here hx (hb hby d5_55) k) ?_
  have voy22 := (ry10.keep Kcy17 (ninS (Ne.symm hn_x2_ao) nin0))
  obtain ⟨cly22, Ary22, qay22, say22, nay22, hay22, gay22⟩ := voy22
  obtain ⟨Ty22, hy22, Xy22, ey22, Wy22, sty22⟩ := stR Xy20 hx hZ ey20 Ary22 (j := (1 : Int32)) (inb_of say22 ⟨by decide, by decide⟩) rfl (Or.inl rfl) (g := (mkF m 56 #[rv a1] [.null, (.int 1), (.ref ao)])) rfl rfl (hb hby d5_56)
  have Vy22 : Arv Z hy22 ao ko (.object "com/example/uzor/uzor/StringValues$Value") (4 : Int32) [(.ref x1), .null, .null, .null] .null := Arv.set Ary22 qay22 say22 nay22 hay22 gay22 rfl Wy22 1 rfl (Nat.le_of_ble_eq_true rfl)
  have Zy22 : n0 ≤ hy22.size := Nat.le_trans Zy17 (Keep.of_wr Wy22).1
  have Ky22 : Keep h0 hy22 [a1, ao, x2] := Ky17.wr Wy22 m1
  have Ny22 := Fr.snoc Xy22 Ny17 g_ao
  refine Fin.step (sty22) ?_
  show Fin p e below s _ _ _ (Ty22.setTop (mkF m 57 #[rv a1] []))
  refine Fin.step (fun _ k => Yo.goto Xy22.here hx (pc0 := 57) (pc' := 0) rfl (hb hby d5_57) (by decide) (by decide) (Yo.aloadN Xy22.here hx (hb hby d5_0) rfl rfl k)) ?_
  have ry24 := (ry21.other Wy22 (Or.inl hn_a1_ao))
  refine fget Xy22 hx hZ hown (W_ hw 26) ey22 ry24 (hb hby d5_1) fun Ty23 Xy23 ey23 => ?_
  refine Fin.step (fun _ k => Yo.ifNo Xy23.here hx (hb hby d5_4) rfl ((if0 _ _).trans (tlt ((by decide) : ((0 : Int32) < (1 : Int32)))).2.2.2) (Yo.aloadN Xy23.here hx (hb hby d5_7) rfl rfl k)) ?_
  have ry26 := (ry19.other Wy22 (Or.inl hn_a1_ao))
  refine fget Xy23 hx hZ hown (W_ hw 12) ey23 ry26 (hb hby d5_8) fun Ty25 Xy25 ey25 => ?_
  refine Fin.step (fun _ k => Yo.aloadN Xy25.here hx (hb hby d5_11) rfl rfl k) ?_
  refine fget Xy25 hx hZ hown (W_ hw 26) ey25 ry24 (hb hby d5_12) fun Ty27 Xy27 ey27 => ?_
  refine Fin.step (fun _ k => Yo.iconst Xy27.here hx (hb hby d5_15) (Yo.isub Xy27.here hx (hb hby d5_16) rfl k)) ?_
  show Fin p e below s _ _ _ (Ty27.setTop (mkF m 17 #[rv a1] [(.int 0), (.ref ao)]))
  refine fald Xy27 hx hZ ey27 Vy22 rfl (j := (0 : Int32)) (v := (.ref x1)) ⟨by decide, by decide⟩ rfl (hb hby d5_17) ?_
  refine Fin.step (getHot Xy27 hx hZ hown (W_ hw 121) ey27 (((HF_x1_depth.other Wy8 (Or.inl hn_x1_a1)).keep Kcy17 (ninS hn_x1_x2 nin0)).other Wy22 (Or.inl hn_x1_ao)) (g := (mkF m 18 #[rv a1] [(.ref x1)])) rfl rfl (hb hby d5_18)) ?_
  show Fin p e below s _ _ _ (Ty27.setTop (mkF m 21 #[rv a1] [(.int 1)]))
  refine Fin.step (fun _ k => Yo.aloadN Xy27.here hx (hb hby d5_21) rfl rfl k) ?_
  have ry30 := (((HF_a1_depth.other Wy8 (Or.inr (slot_ne (Or.inl (W_ hw 20)) (Or.inl (W_ hw 27)) (by decide) (t := .int) (t' := .int) (by decide) (by decide)))).keep Kcy17 (ninS (Ne.symm hn_x2_a1) nin0)).other Wy22 (Or.inl hn_a1_ao))
  refine fget Xy27 hx hZ hown (W_ hw 19) ey27 ry30 (hb hby d5_22) fun Ty29 Xy29 ey29 => ?_
  refine Fin.step (fun _ k => Yo.icmpYes Xy29.here hx (pc0 := 25) (pc' := 60) rfl (hb hby d5_25) rfl (feq ((by decide) : ¬ ((1 : Int32) = (2 : Int32)))).2 (by decide) (by decide) (Yo.aloadN Xy29.here hx (hb hby d5_60) rfl rfl (Yo.dup Xy29.here hx (hb hby d5_61) rfl rfl k))) ?_
  refine fget Xy29 hx hZ hown (W_ hw 19) ey29 ry30 (hb hby d5_62) fun Ty31 Xy31 ey31 => ?_
  refine Fin.step (fun _ k => Yo.iconst Xy31.here hx (hb hby d5_65) (Yo.isub Xy31.here hx (hb hby d5_66) rfl k)) ?_
  show Fin p e below s _ _ _ (Ty31.setTop (mkF m 67 #[rv a1] [(.int 1), (.ref a1)]))
  refine Fin.step (fun _ k => Yo.dupX1 Xy31.here hx (hb hby d5_67) rfl rfl rfl k) ?_
  obtain ⟨Ty32, hy32, Xy32, ey32, Wy32, sty32⟩ := putF Xy31 hx hZ hown (host := "") (Or.inl (W_ hw 19)) Via.refl ey31 ry30 (((HE_a1.wr Wy8).keep Kcy17).wr Wy22) (Or.inl (W_ hw 20)) (W_ hw 2) (ty := .int) (by decide) rfl rfl (g := (mkF m 68 #[rv a1] [(.int 1), (.ref a1), (.int 1)])) rfl rfl (hb hby d5_68)
  have Fwy32 : Fld Z hy32 a1 q1 "depth" "I" (.int 1) := ry30.same Wy32
  have Zy32 : n0 ≤ hy32.size := Nat.le_trans Zy22 (Keep.of_wr Wy32).1
  have Ky32 : Keep h0 hy32 [a1, ao, x2] := Ky22.wr Wy32 m0
  have Ny32 := Fr.snoc Xy32 Ny22 g_a1
  refine Fin.step (sty32) ?_
  show Fin p e below s _ _ _ (Ty32.setTop (mkF m 71 #[rv a1] [(.int 1)]))
  refine Fin.retI Xy32 hx hret hlk (hb hby d5_71) (by decide) (by decide) ?_
  show Qes3 Z a1 ao ko x1 x2 bo ab kb tn vs wc h0 n0 _ Ty32.heap _
  rw [ey32]
  have ney33 := nlt ((nsV HV_ao).wr Wy8).lt bfy17_0
  have ney34 := nlt (HE_a1.wr Wy8).lt bfy17_0
  have ney35 := nlt ((nsV HV_ao).wr Wy8).lt bfy17_1
  have ney36 := nlt (HE_a1.wr Wy8).lt bfy17_1
  exact ⟨so_y17, nb_y17, kn_y17, rfl, szy17_0, szy17_1, Ny32, Ky32, (ry26.other Wy32 (Or.inr (slot_ne (Or.inl (W_ hw 13)) (Or.inl (W_ hw 20)) (by decide) (t := (.array (.object "com/example/uzor/uzor/StringValues$Value"))) (t' := .int) (by decide) (by decide)))), Fwy32, (ry24.other Wy32 (Or.inr (slot_ne (Or.inl (W_ hw 27)) (Or.inl (W_ hw 20)) (by decide) (t := .int) (t' := .int) (by decide) (by decide)))), (Vy22.other Wy32 (Ne.symm hn_a1_ao)), ((fy17_0.other Wy22 (Or.inl hn_x2_ao)).other Wy32 (Or.inl hn_x2_a1)), ((fy17_2.wr Wy22).wr Wy32), ((fy17_3.other Wy22 (Or.inl (Ne.symm ney33))).other Wy32 (Or.inl (Ne.symm ney34))), ((fy17_4.other Wy22 (Or.inl (Ne.symm ney33))).other Wy32 (Or.inl (Ne.symm ney34))), ((fy17_5.other Wy22 (Ne.symm ney35)).other Wy32 (Ne.symm ney36)), ney17_0⟩
theorem pn_38 : plainName "jdk/internal/util/Preconditions" = true := by first | (simp [plainName, overriddenIn]; done) | decide +kernel
theorem d38_0 : decode jdk_41_method_11_code 0 = .ok (.iload_n 0, 1) := by decide +kernel
theorem d38_1 : decode jdk_41_method_11_code 1 = .ok (.ifCond .lt 8, 3) := by decide +kernel
theorem d38_4 : decode jdk_41_method_11_code 4 = .ok (.iload_n 0, 1) := by decide +kernel
theorem d38_5 : decode jdk_41_method_11_code 5 = .ok (.iload_n 1, 1) := by decide +kernel
theorem d38_6 : decode jdk_41_method_11_code 6 = .ok (.if_icmp .lt 10, 3) := by decide +kernel
theorem d38_16 : decode jdk_41_method_11_code 16 = .ok (.iload_n 0, 1) := by decide +kernel
theorem d38_17 : decode jdk_41_method_11_code 17 = .ok (.ireturn, 1) := by decide +kernel
theorem ef_rmk0 (m : MethodId) (x0 : Int32) (x1 : Int32) : entryFrame m #[(.int x0), (.int x1), .null] 3 = mkF m 0 #[.val (.int x0), .val (.int x1), .val .null] [] := by first | (simp [entryFrame, mkF, argsToLocals, Value.category]; done) | rfl
abbrev R_rmk0 : Room := ({ frames := 0, cells := 0, slots := 0, locals := 0 } : Room)
def Qk0 (Z : State) (pj pn : Int32) (h0 : Heap) (n0 : Nat) (v : Option Value) (h : Heap) (L : List Loc) : Prop := v = some (.int pj) ∧ Fr n0 L ∧ h = h0
set_option maxRecDepth 65536 in
set_option maxHeartbeats 40000000 in
theorem rmk0 (l : Launch) (Z : State) (a0 : Array Value) (hw : ∀ d ∈ tables_1, d.before a0 Z = true) (ws : List Jvm.Cond) (pj pn : Int32) (h0 : Heap) (n0 : Nat) (Z0 : n0 ≤ h0.size) (hj : ¬ pj < 0 ∧ pj < pn) :
    Met1 l n38 jdk_41_method_11_code 3 (some .int) ws R_rmk0 #[(.int pj), (.int pn), .null] Z h0 (Qk0 Z pj pn h0 n0) := by
  refine Met1.enter (plainFor_of_name pn_38) (fun m => ef_rmk0 m pj pn) fun p e s m below meth c s₁ hx hby hlk hret hml hown hnm hZ X0 e0 => ?_
  have N0 := Fr.nil n0
  have K0 : Keep h0 h0 [] := Keep.refl h0 _
  show Fin p e below s _ _ _ (s₁.setTop (mkF m 0 #[iv pj, iv pn, .val .null] []))
  refine Fin.step (fun _ k => Yo.iloadN X0.here hx (hb hby d38_0) rfl (Yo.ifNo X0.here hx (hb hby d38_1) rfl ((if0 _ _).trans (flt (hj.1 : ¬ (pj < (0 : Int32)))).1) (Yo.iloadN X0.here hx (hb hby d38_4) rfl (Yo.iloadN X0.here hx (hb hby d38_5) rfl (Yo.icmpYes X0.here hx (pc0 := 6) (pc' := 16) rfl (hb hby d38_6) rfl (tlt (hj.2 : (pj < pn))).1 (by decide) (by decide) (Yo.iloadN X0.here hx (hb hby d38_16) rfl k)))))) ?_
  refine Fin.retI X0 hx hret hlk (hb hby d38_17) (by decide) (by decide) ?_
  show Qk0 Z pj pn h0 n0 _ s₁.heap _
  rw [e0]
  exact ⟨rfl, N0, rfl⟩
theorem ef_rmk1 (m : MethodId) (x0 : Int32) (x1 : Int32) (x2 : Addr) : entryFrame m #[(.int x0), (.int x1), (.ref x2)] 3 = mkF m 0 #[.val (.int x0), .val (.int x1), .val (.ref x2)] [] := by first | (simp [entryFrame, mkF, argsToLocals, Value.category]; done) | rfl
abbrev R_rmk1 : Room := ({ frames := 0, cells := 0, slots := 0, locals := 0 } : Room)
def Qk1 (Z : State) (pj pn : Int32) (a3 : Addr) (h0 : Heap) (n0 : Nat) (v : Option Value) (h : Heap) (L : List Loc) : Prop := v = some (.int pj) ∧ Fr n0 L ∧ h = h0
set_option maxRecDepth 65536 in
set_option maxHeartbeats 40000000 in
theorem rmk1 (l : Launch) (Z : State) (a0 : Array Value) (hw : ∀ d ∈ tables_1, d.before a0 Z = true) (ws : List Jvm.Cond) (pj pn : Int32) (a3 : Addr) (h0 : Heap) (n0 : Nat) (Z0 : n0 ≤ h0.size) (hj : ¬ pj < 0 ∧ pj < pn) :
    Met1 l n38 jdk_41_method_11_code 3 (some .int) ws R_rmk1 #[(.int pj), (.int pn), (.ref a3)] Z h0 (Qk1 Z pj pn a3 h0 n0) := by
  refine Met1.enter (plainFor_of_name pn_38) (fun m => ef_rmk1 m pj pn a3) fun p e s m below meth c s₁ hx hby hlk hret hml hown hnm hZ X0 e0 => ?_
  have N0 := Fr.nil n0
  have K0 : Keep h0 h0 [] := Keep.refl h0 _
  show Fin p e below s _ _ _ (s₁.setTop (mkF m 0 #[iv pj, iv pn, rv a3] []))
  refine Fin.step (fun _ k => Yo.iloadN X0.here hx (hb hby d38_0) rfl (Yo.ifNo X0.here hx (hb hby d38_1) rfl ((if0 _ _).trans (flt (hj.1 : ¬ (pj < (0 : Int32)))).1) (Yo.iloadN X0.here hx (hb hby d38_4) rfl (Yo.iloadN X0.here hx (hb hby d38_5) rfl (Yo.icmpYes X0.here hx (pc0 := 6) (pc' := 16) rfl (hb hby d38_6) rfl (tlt (hj.2 : (pj < pn))).1 (by decide) (by decide) (Yo.iloadN X0.here hx (hb hby d38_16) rfl k)))))) ?_
  refine Fin.retI X0 hx hret hlk (hb hby d38_17) (by decide) (by decide) ?_
  show Qk1 Z pj pn a3 h0 n0 _ s₁.heap _
  rw [e0]
  exact ⟨rfl, N0, rfl⟩
theorem pn_37 : plainName "java/lang/String" = true := by first | (simp [plainName, overriddenIn]; done) | decide +kernel
theorem d37_0 : decode jdk_42_method_155_code 0 = .ok (.iload_n 0, 1) := by decide +kernel
theorem d37_1 : decode jdk_42_method_155_code 1 = .ok (.iload_n 1, 1) := by decide +kernel
theorem d37_2 : decode jdk_42_method_155_code 2 = .ok (.getstatic 1053, 3) := by decide +kernel
theorem d37_5 : decode jdk_42_method_155_code 5 = .ok (.invokestatic 1059, 3) := by decide +kernel
theorem pd_19 : parseMethodDescriptor "(IILjava/util/function/BiFunction;)I" = some ⟨[.int, .int, (.object "java/util/function/BiFunction")], some .int⟩ := by decide +kernel
theorem d37_8 : decode jdk_42_method_155_code 8 = .ok (.pop, 1) := by decide +kernel
theorem d37_9 : decode jdk_42_method_155_code 9 = .ok (.return_, 1) := by decide +kernel
theorem ef_rmck (m : MethodId) (x0 : Int32) (x1 : Int32) : entryFrame m #[(.int x0), (.int x1)] 2 = mkF m 0 #[.val (.int x0), .val (.int x1)] [] := by first | (simp [entryFrame, mkF, argsToLocals, Value.category]; done) | rfl
abbrev R_rmck : Room := ({ frames := 1, cells := 0, slots := 0, locals := 14 } : Room)
def Qck (Z : State) (pj pn : Int32) (fv : Value) (h0 : Heap) (n0 : Nat) (v : Option Value) (h : Heap) (L : List Loc) : Prop := v = none ∧ Fr n0 L ∧ h = h0
set_option maxRecDepth 65536 in
set_option maxHeartbeats 40000000 in
theorem rmck (l : Launch) (Z : State) (a0 : Array Value) (hw : ∀ d ∈ tables_1, d.before a0 Z = true) (ws : List Jvm.Cond) (pj pn : Int32) (fv : Value) (h0 : Heap) (n0 : Nat) (Z0 : n0 ≤ h0.size) (HS_jdk_internal_util_Preconditions_SIOOBE_FORMATTER : Sta Z h0 q5 q11 q6 fv) (hfv : fv.isRef = true) (hj : ¬ pj < 0 ∧ pj < pn) :
    Met1 l n37 jdk_42_method_155_code 2 none ws R_rmck #[(.int pj), (.int pn)] Z h0 (Qck Z pj pn fv h0 n0) := by
  refine Met1.enter (plainFor_of_name pn_37) (fun m => ef_rmck m pj pn) fun p e s m below meth c s₁ hx hby hlk hret hml hown hnm hZ X0 e0 => ?_
  have N0 := Fr.nil n0
  have K0 : Keep h0 h0 [] := Keep.refl h0 _
  show Fin p e below s _ _ _ (s₁.setTop (mkF m 0 #[iv pj, iv pn] []))
  refine Fin.step (fun _ k => Yo.iloadN X0.here hx (hb hby d37_0) rfl (Yo.iloadN X0.here hx (hb hby d37_1) rfl k)) ?_
  rcases ref_cases hfv with rfl | ⟨fr, rfl⟩
  · show Fin p e below s _ _ _ (s₁.setTop (mkF m 2 #[iv pj, iv pn] [(.int pn), (.int pj)]))
    obtain ⟨Ty1, Xy1, ey1, sty1⟩ := getS2 X0 hx hZ hown (host := "") (Or.inl (W_ hw 212)) Via.refl e0 HS_jdk_internal_util_Preconditions_SIOOBE_FORMATTER (g := (mkF m 2 #[iv pj, iv pn] [(.int pn), (.int pj)])) rfl (hb hby d37_2)
    refine Fin.step (sty1) ?_
    show Fin p e below s _ _ _ (Ty1.setTop (mkF m 5 #[iv pj, iv pn] [.null, (.int pn), (.int pj)]))
    obtain ⟨_, Ty2, Lcy2, Xy2, hQy2, sty2⟩ := packS (Jvm.LawKit.callS Xy1 hx (y := n38) hown (mvT hZ (W_ hw 213)) (mvT hZ (W_ hw 214)) (mvT hZ (W_ hw 97)) (mvT hZ (W_ hw 215)) (by decide) (backOf (W := 0) (rmk0 l Z a0 hw [] pj pn h0 n0 Z0 hj) hZ (W_ hw 215) (W_ hw 97) (by decide) (by decide)) (g := (mkF m 5 #[iv pj, iv pn] [.null, (.int pn), (.int pj)])) rfl (by rw [hml]; rfl) (argsL := [(.int pj), (.int pn), .null]) (rest := []) (lenOf pd_19 rfl) rfl (lb rfl) (hb hby d37_5) (fun _ _ => ⟨rfl, ey1, (by decide : 0 + 0 ≤ _), (by decide : 0 + 0 ≤ _)⟩))
    obtain ⟨rfl, Nqy2, eqy2⟩ := hQy2
    have Ny2 := Fr.app N0 Nqy2
    refine Fin.step (sty2) ?_
    show Fin p e below s _ _ _ (Ty2.setTop (mkF m 8 #[iv pj, iv pn] [(.int pj)]))
    refine Fin.step (fun _ k => Yo.pop Xy2.here hx (hb hby d37_8) rfl rfl k) ?_
    refine Fin.retV Xy2 hx hret hlk (hb hby d37_9) (by decide) (by decide) ?_
    show Qck Z _ _ _ h0 n0 _ Ty2.heap _
    rw [eqy2]
    exact ⟨rfl, Ny2, rfl⟩
  · show Fin p e below s _ _ _ (s₁.setTop (mkF m 2 #[iv pj, iv pn] [(.int pn), (.int pj)]))
    obtain ⟨Ty3, Xy3, ey3, sty3⟩ := getS2 X0 hx hZ hown (host := "") (Or.inl (W_ hw 212)) Via.refl e0 HS_jdk_internal_util_Preconditions_SIOOBE_FORMATTER (g := (mkF m 2 #[iv pj, iv pn] [(.int pn), (.int pj)])) rfl (hb hby d37_2)
    refine Fin.step (sty3) ?_
    show Fin p e below s _ _ _ (Ty3.setTop (mkF m 5 #[iv pj, iv pn] [(.ref fr), (.int pn), (.int pj)]))
    obtain ⟨_, Ty4, Lcy4, Xy4, hQy4, sty4⟩ := packS (Jvm.LawKit.callS Xy3 hx (y := n38) hown (mvT hZ (W_ hw 213)) (mvT hZ (W_ hw 214)) (mvT hZ (W_ hw 97)) (mvT hZ (W_ hw 215)) (by decide) (backOf (W := 0) (rmk1 l Z a0 hw [] pj pn fr h0 n0 Z0 hj) hZ (W_ hw 215) (W_ hw 97) (by decide) (by decide)) (g := (mkF m 5 #[iv pj, iv pn] [(.ref fr), (.int pn), (.int pj)])) rfl (by rw [hml]; rfl) (argsL := [(.int pj), (.int pn), (.ref fr)]) (rest := []) (lenOf pd_19 rfl) rfl (lb rfl) (hb hby d37_5) (fun _ _ => ⟨rfl, ey3, (by decide : 0 + 0 ≤ _), (by decide : 0 + 0 ≤ _)⟩))
    obtain ⟨rfl, Nqy4, eqy4⟩ := hQy4
    have Ny4 := Fr.app N0 Nqy4
    refine Fin.step (sty4) ?_
    show Fin p e below s _ _ _ (Ty4.setTop (mkF m 8 #[iv pj, iv pn] [(.int pj)]))
    refine Fin.step (fun _ k => Yo.pop Xy4.here hx (hb hby d37_8) rfl rfl k) ?_
    refine Fin.retV Xy4 hx hret hlk (hb hby d37_9) (by decide) (by decide) ?_
    show Qck Z _ _ _ h0 n0 _ Ty4.heap _
    rw [eqy4]
    exact ⟨rfl, Ny4, rfl⟩
theorem pn_36 : plainName "java/lang/StringLatin1" = true := by first | (simp [plainName, overriddenIn]; done) | decide +kernel
theorem d36_0 : decode jdk_43_method_2_code 0 = .ok (.iload_n 1, 1) := by decide +kernel
theorem d36_1 : decode jdk_43_method_2_code 1 = .ok (.aload_n 0, 1) := by decide +kernel
theorem d36_2 : decode jdk_43_method_2_code 2 = .ok (.arraylength, 1) := by decide +kernel
theorem d36_3 : decode jdk_43_method_2_code 3 = .ok (.invokestatic 9, 3) := by decide +kernel
theorem d36_6 : decode jdk_43_method_2_code 6 = .ok (.aload_n 0, 1) := by decide +kernel
theorem d36_7 : decode jdk_43_method_2_code 7 = .ok (.iload_n 1, 1) := by decide +kernel
theorem d36_8 : decode jdk_43_method_2_code 8 = .ok (.baload, 1) := by decide +kernel
theorem d36_9 : decode jdk_43_method_2_code 9 = .ok (.sipush 255, 3) := by decide +kernel
theorem d36_12 : decode jdk_43_method_2_code 12 = .ok (.iand, 1) := by decide +kernel
theorem d36_13 : decode jdk_43_method_2_code 13 = .ok (.i2c, 1) := by decide +kernel
theorem d36_14 : decode jdk_43_method_2_code 14 = .ok (.ireturn, 1) := by decide +kernel
theorem ef_rmlc (m : MethodId) (x0 : Addr) (x1 : Int32) : entryFrame m #[(.ref x0), (.int x1)] 2 = mkF m 0 #[.val (.ref x0), .val (.int x1)] [] := by first | (simp [entryFrame, mkF, argsToLocals, Value.category]; done) | rfl
abbrev R_rmlc : Room := ({ frames := 2, cells := 0, slots := 0, locals := 27 } : Room)
def Qlc (Z : State) (ab : Addr) (pj : Int32) (kb : ClassId) (pn : Int32) (vs : List Value) (fv : Value) (px : Int32) (h0 : Heap) (n0 : Nat) (v : Option Value) (h : Heap) (L : List Loc) : Prop := v = some (.int (own_ch px)) ∧ Fr n0 L ∧ h = h0
set_option maxRecDepth 65536 in
set_option maxHeartbeats 40000000 in
theorem rmlc (l : Launch) (Z : State) (a0 : Array Value) (hw : ∀ d ∈ tables_1, d.before a0 Z = true) (ws : List Jvm.Cond) (ab : Addr) (pj : Int32) (kb : ClassId) (pn : Int32) (vs : List Value) (fv : Value) (px : Int32) (h0 : Heap) (n0 : Nat) (Z0 : n0 ≤ h0.size) (HV_ab : Arv Z h0 ab kb .byte pn vs (.int 0)) (HS_jdk_internal_util_Preconditions_SIOOBE_FORMATTER : Sta Z h0 q5 q11 q6 fv) (hfv : fv.isRef = true) (hj : ¬ pj < 0 ∧ pj < pn) (hg : vs.getD pj.toNatClampNeg (.int 0) = .int px) :
    Met1 l n36 jdk_43_method_2_code 2 (some .char) ws R_rmlc #[(.ref ab), (.int pj)] Z h0 (Qlc Z ab pj kb pn vs fv px h0 n0) := by
  refine Met1.enter (plainFor_of_name pn_36) (fun m => ef_rmlc m ab pj) fun p e s m below meth c s₁ hx hby hlk hret hml hown hnm hZ X0 e0 => ?_
  have N0 := Fr.nil n0
  have K0 : Keep h0 h0 [] := Keep.refl h0 _
  show Fin p e below s _ _ _ (s₁.setTop (mkF m 0 #[rv ab, iv pj] []))
  refine Fin.step (fun _ k => Yo.iloadN X0.here hx (hb hby d36_0) rfl (Yo.aloadN X0.here hx (hb hby d36_1) rfl rfl k)) ?_
  have voy1 := HV_ab
  obtain ⟨cly1, Ary1, qay1, say1, nay1, hay1, gay1⟩ := voy1
  refine Fin.step (X0.arraylength hx (by rw [e0]; exact Ary1.1) (State.isArrayOf_alike hZ.alike Ary1.2.1) (g := (mkF m 2 #[rv ab, iv pj] [(.ref ab), (.int pj)])) rfl rfl (hb hby d36_2)) ?_
  rw [len_of say1 nay1]
  show Fin p e below s _ _ _ (s₁.setTop (mkF m 3 #[rv ab, iv pj] [(.int pn), (.int pj)]))
  obtain ⟨_, Ty2, Lcy2, Xy2, hQy2, sty2⟩ := packS (Jvm.LawKit.callS X0 hx (y := n37) hown (mvT hZ (W_ hw 209)) (mvT hZ (W_ hw 210)) (mvT hZ (W_ hw 58)) (mvT hZ (W_ hw 211)) (by decide) (backOf (W := 0) (rmck l Z a0 hw [] pj pn fv h0 n0 Z0 HS_jdk_internal_util_Preconditions_SIOOBE_FORMATTER hfv hj) hZ (W_ hw 211) (W_ hw 58) (by decide) (by decide)) (g := (mkF m 3 #[rv ab, iv pj] [(.int pn), (.int pj)])) rfl (by rw [hml]; rfl) (argsL := [(.int pj), (.int pn)]) (rest := []) (lenOf pd_9 rfl) rfl (lb rfl) (hb hby d36_3) (fun _ _ => ⟨rfl, e0, (by decide : 0 + 0 ≤ _), (by decide : 0 + 0 ≤ _)⟩))
  obtain ⟨rfl, Nqy2, eqy2⟩ := hQy2
  have Ny2 := Fr.app N0 Nqy2
  refine Fin.step (sty2) ?_
  show Fin p e below s _ _ _ (Ty2.setTop (mkF m 6 #[rv ab, iv pj] []))
  refine Fin.step (fun _ k => Yo.aloadN Xy2.here hx (hb hby d36_6) rfl rfl (Yo.iloadN Xy2.here hx (hb hby d36_7) rfl k)) ?_
  have voy3 := HV_ab
  obtain ⟨cly3, Ary3, qay3, say3, nay3, hay3, gay3⟩ := voy3
  have iny3 := inb_of (j := pj) say3 hj
  refine Fin.step (Xy2.baloadBytes hx (j := pj) (v := (.int px)) (by rw [eqy2]; exact Ary3.1) (State.isArrayOf_alike hZ.alike Ary3.2.1) Ary3.2.2 iny3 (hay3.at iny3 hg) (g := (mkF m 8 #[rv ab, iv pj] [(.int pj), (.ref ab)])) rfl rfl (hb hby d36_8)) ?_
  show Fin p e below s _ _ _ (Ty2.setTop (mkF m 9 #[rv ab, iv pj] [(.int px)]))
  refine Fin.step (fun _ k => Yo.sipush Xy2.here hx (hb hby d36_9) (Yo.iand Xy2.here hx (hb hby d36_12) rfl k)) ?_
  show Fin p e below s _ _ _ (Ty2.setTop (mkF m 13 #[rv ab, iv pj] [(.int (px &&& (255 : Int32)))]))
  refine Fin.step (fun _ k => Yo.i2c Xy2.here hx (hb hby d36_13) rfl k) ?_
  show Fin p e below s _ _ _ (Ty2.setTop (mkF m 14 #[rv ab, iv pj] [(.int ((px &&& (255 : Int32)).toUInt32.toUInt16.toUInt32.toInt32))]))
  refine Fin.retN Xy2 hx (t := .char) hret (by simp) hlk (hb hby d36_14) (by decide) (by decide) ?_
  show Qlc Z ab pj kb pn vs fv px h0 n0 _ Ty2.heap _
  rw [eqy2]
  exact ⟨(congrArg (fun z => some (Value.int z)) (own_chn px)), Ny2, rfl⟩
theorem pn_35 : plainName "java/lang/String" = true := by first | (simp [plainName, overriddenIn]; done) | decide +kernel
theorem d35_0 : decode jdk_42_method_154_code 0 = .ok (.getstatic 38, 3) := by decide +kernel
theorem d35_3 : decode jdk_42_method_154_code 3 = .ok (.ifCond .eq 14, 3) := by decide +kernel
theorem d35_6 : decode jdk_42_method_154_code 6 = .ok (.aload_n 0, 1) := by decide +kernel
theorem d35_7 : decode jdk_42_method_154_code 7 = .ok (.getfield 15, 3) := by decide +kernel
theorem d35_10 : decode jdk_42_method_154_code 10 = .ok (.ifCond .ne 7, 3) := by decide +kernel
theorem d35_13 : decode jdk_42_method_154_code 13 = .ok (.iconst 1, 1) := by decide +kernel
theorem d35_14 : decode jdk_42_method_154_code 14 = .ok (.goto 4, 3) := by decide +kernel
theorem d35_18 : decode jdk_42_method_154_code 18 = .ok (.ireturn, 1) := by decide +kernel
theorem ef_rms1 (m : MethodId) (x0 : Addr) : entryFrame m #[(.ref x0)] 1 = mkF m 0 #[.val (.ref x0)] [] := by first | (simp [entryFrame, mkF, argsToLocals, Value.category]; done) | rfl
abbrev R_rms1 : Room := ({ frames := 0, cells := 0, slots := 0, locals := 0 } : Room)
def Qs1 (Z : State) (a1 : Addr) (wc : Int32) (h0 : Heap) (n0 : Nat) (v : Option Value) (h : Heap) (L : List Loc) : Prop := v = some (.int 1) ∧ Fr n0 L ∧ h = h0
set_option maxRecDepth 65536 in
set_option maxHeartbeats 40000000 in
theorem rms1 (l : Launch) (Z : State) (a0 : Array Value) (hw : ∀ d ∈ tables_1, d.before a0 Z = true) (ws : List Jvm.Cond) (a1 : Addr) (wc : Int32) (h0 : Heap) (n0 : Nat) (Z0 : n0 ≤ h0.size) (HS_java_lang_String_COMPACT_STRINGS : Sta Z h0 q4 q10 "Z" (.int wc)) (HF_a1_coder : Fld Z h0 a1 q4 "coder" "B" (.int 0)) (hwc : ¬ wc = 0) :
    Met1 l n35 jdk_42_method_154_code 1 (some .boolean) ws R_rms1 #[(.ref a1)] Z h0 (Qs1 Z a1 wc h0 n0) := by
  refine Met1.enter (plainFor_of_name pn_35) (fun m => ef_rms1 m a1) fun p e s m below meth c s₁ hx hby hlk hret hml hown hnm hZ X0 e0 => ?_
  have N0 := Fr.nil n0
  have K0 : Keep h0 h0 [] := Keep.refl h0 _
  show Fin p e below s _ _ _ (s₁.setTop (mkF m 0 #[rv a1] []))
  obtain ⟨Ty1, Xy1, ey1, sty1⟩ := getS2 X0 hx hZ hown (host := "") (Or.inl (W_ hw 192)) Via.refl e0 HS_java_lang_String_COMPACT_STRINGS (g := (mkF m 0 #[rv a1] [])) rfl (hb hby d35_0)
  refine Fin.step (sty1) ?_
  show Fin p e below s _ _ _ (Ty1.setTop (mkF m 3 #[rv a1] [(.int wc)]))
  refine Fin.step (fun _ k => Yo.ifNo Xy1.here hx (hb hby d35_3) rfl ((if0 _ _).trans (feq (hwc : ¬ (wc = (0 : Int32)))).1) (Yo.aloadN Xy1.here hx (hb hby d35_6) rfl rfl k)) ?_
  refine fget Xy1 hx hZ hown (W_ hw 156) ey1 HF_a1_coder (hb hby d35_7) fun Ty2 Xy2 ey2 => ?_
  refine Fin.step (fun _ k => Yo.ifNo Xy2.here hx (hb hby d35_10) rfl ((if0 _ _).trans (teq ((by decide) : ((0 : Int32) = (0 : Int32)))).2) (Yo.iconst Xy2.here hx (hb hby d35_13) (Yo.goto Xy2.here hx (pc0 := 14) (pc' := 18) rfl (hb hby d35_14) (by decide) (by decide) k))) ?_
  refine Fin.retN Xy2 hx (t := .boolean) hret (by simp) hlk (hb hby d35_18) (by decide) (by decide) ?_
  show Qs1 Z a1 wc h0 n0 _ Ty2.heap _
  rw [ey2]
  exact ⟨rfl, N0, rfl⟩
theorem pn_32 : plainName "java/lang/String" = true := by first | (simp [plainName, overriddenIn]; done) | decide +kernel
theorem d32_0 : decode jdk_42_method_152_code 0 = .ok (.getstatic 38, 3) := by decide +kernel
theorem d32_3 : decode jdk_42_method_152_code 3 = .ok (.ifCond .eq 10, 3) := by decide +kernel
theorem d32_6 : decode jdk_42_method_152_code 6 = .ok (.aload_n 0, 1) := by decide +kernel
theorem d32_7 : decode jdk_42_method_152_code 7 = .ok (.getfield 15, 3) := by decide +kernel
theorem d32_10 : decode jdk_42_method_152_code 10 = .ok (.goto 4, 3) := by decide +kernel
theorem d32_14 : decode jdk_42_method_152_code 14 = .ok (.ireturn, 1) := by decide +kernel
theorem ef_rmsc (m : MethodId) (x0 : Addr) : entryFrame m #[(.ref x0)] 1 = mkF m 0 #[.val (.ref x0)] [] := by first | (simp [entryFrame, mkF, argsToLocals, Value.category]; done) | rfl
abbrev R_rmsc : Room := ({ frames := 0, cells := 0, slots := 0, locals := 0 } : Room)
def Qsc (Z : State) (a1 : Addr) (wc : Int32) (h0 : Heap) (n0 : Nat) (v : Option Value) (h : Heap) (L : List Loc) : Prop := v = some (.int 0) ∧ Fr n0 L ∧ h = h0
set_option maxRecDepth 65536 in
set_option maxHeartbeats 40000000 in
theorem rmsc (l : Launch) (Z : State) (a0 : Array Value) (hw : ∀ d ∈ tables_1, d.before a0 Z = true) (ws : List Jvm.Cond) (a1 : Addr) (wc : Int32) (h0 : Heap) (n0 : Nat) (Z0 : n0 ≤ h0.size) (HS_java_lang_String_COMPACT_STRINGS : Sta Z h0 q4 q10 "Z" (.int wc)) (HF_a1_coder : Fld Z h0 a1 q4 "coder" "B" (.int 0)) (hwc : ¬ wc = 0) :
    Met1 l n32 jdk_42_method_152_code 1 (some .byte) ws R_rmsc #[(.ref a1)] Z h0 (Qsc Z a1 wc h0 n0) := by
  refine Met1.enter (plainFor_of_name pn_32) (fun m => ef_rmsc m a1) fun p e s m below meth c s₁ hx hby hlk hret hml hown hnm hZ X0 e0 => ?_
  have N0 := Fr.nil n0
  have K0 : Keep h0 h0 [] := Keep.refl h0 _
  show Fin p e below s _ _ _ (s₁.setTop (mkF m 0 #[rv a1] []))
  obtain ⟨Ty1, Xy1, ey1, sty1⟩ := getS2 X0 hx hZ hown (host := "") (Or.inl (W_ hw 192)) Via.refl e0 HS_java_lang_String_COMPACT_STRINGS (g := (mkF m 0 #[rv a1] [])) rfl (hb hby d32_0)
  refine Fin.step (sty1) ?_
  show Fin p e below s _ _ _ (Ty1.setTop (mkF m 3 #[rv a1] [(.int wc)]))
  refine Fin.step (fun _ k => Yo.ifNo Xy1.here hx (hb hby d32_3) rfl ((if0 _ _).trans (feq (hwc : ¬ (wc = (0 : Int32)))).1) (Yo.aloadN Xy1.here hx (hb hby d32_6) rfl rfl k)) ?_
  refine fget Xy1 hx hZ hown (W_ hw 156) ey1 HF_a1_coder (hb hby d32_7) fun Ty2 Xy2 ey2 => ?_
  refine Fin.step (fun _ k => Yo.goto Xy2.here hx (pc0 := 10) (pc' := 14) rfl (hb hby d32_10) (by decide) (by decide) k) ?_
  refine Fin.retN Xy2 hx (t := .byte) hret (by simp) hlk (hb hby d32_14) (by decide) (by decide) ?_
  show Qsc Z a1 wc h0 n0 _ Ty2.heap _
  rw [ey2]
  exact ⟨rfl, N0, rfl⟩
theorem pn_31 : plainName "java/lang/String" = true := by first | (simp [plainName, overriddenIn]; done) | decide +kernel
theorem d31_0 : decode jdk_42_method_54_code 0 = .ok (.aload_n 0, 1) := by decide +kernel
theorem d31_1 : decode jdk_42_method_54_code 1 = .ok (.getfield 9, 3) := by decide +kernel
theorem d31_4 : decode jdk_42_method_54_code 4 = .ok (.arraylength, 1) := by decide +kernel
theorem d31_5 : decode jdk_42_method_54_code 5 = .ok (.aload_n 0, 1) := by decide +kernel
theorem d31_6 : decode jdk_42_method_54_code 6 = .ok (.invokevirtual 335, 3) := by decide +kernel
theorem pd_20 : parseMethodDescriptor "()B" = some ⟨[], some .byte⟩ := by decide +kernel
theorem d31_9 : decode jdk_42_method_54_code 9 = .ok (.ishr, 1) := by decide +kernel
theorem d31_10 : decode jdk_42_method_54_code 10 = .ok (.ireturn, 1) := by decide +kernel
theorem ef_rmsl (m : MethodId) (x0 : Addr) : entryFrame m #[(.ref x0)] 1 = mkF m 0 #[.val (.ref x0)] [] := by first | (simp [entryFrame, mkF, argsToLocals, Value.category]; done) | rfl
abbrev R_rmsl : Room := ({ frames := 1, cells := 0, slots := 0, locals := 13 } : Room)
def Qsl (Z : State) (a1 ab : Addr) (kb : ClassId) (pn : Int32) (vs : List Value) (wc : Int32) (h0 : Heap) (n0 : Nat) (v : Option Value) (h : Heap) (L : List Loc) : Prop := v = some (.int pn) ∧ Fr n0 L ∧ h = h0
set_option maxRecDepth 65536 in
set_option maxHeartbeats 40000000 in
theorem rmsl (l : Launch) (Z : State) (a0 : Array Value) (hw : ∀ d ∈ tables_1, d.before a0 Z = true) (ws : List Jvm.Cond) (a1 ab : Addr) (kb : ClassId) (pn : Int32) (vs : List Value) (wc : Int32) (h0 : Heap) (n0 : Nat) (Z0 : n0 ≤ h0.size) (HE_a1 : Exa Z h0 a1 q4) (HF_a1_coder : Fld Z h0 a1 q4 "coder" "B" (.int 0)) (HF_a1_value : Fld Z h0 a1 q4 "value" "[B" (.ref ab)) (HV_ab : Arv Z h0 ab kb .byte pn vs (.int 0)) (HS_java_lang_String_COMPACT_STRINGS : Sta Z h0 q4 q10 "Z" (.int wc)) (hwc : ¬ wc = 0) :
    Met1 l n31 jdk_42_method_54_code 1 (some .int) ws R_rmsl #[(.ref a1)] Z h0 (Qsl Z a1 ab kb pn vs wc h0 n0) := by
  refine Met1.enter (plainFor_of_name pn_31) (fun m => ef_rmsl m a1) fun p e s m below meth c s₁ hx hby hlk hret hml hown hnm hZ X0 e0 => ?_
  have N0 := Fr.nil n0
  have K0 : Keep h0 h0 [] := Keep.refl h0 _
  show Fin p e below s _ _ _ (s₁.setTop (mkF m 0 #[rv a1] []))
  refine Fin.step (fun _ k => Yo.aloadN X0.here hx (hb hby d31_0) rfl rfl k) ?_
  refine fget X0 hx hZ hown (W_ hw 176) e0 HF_a1_value (hb hby d31_1) fun Ty1 Xy1 ey1 => ?_
  have voy2 := HV_ab
  obtain ⟨cly2, Ary2, qay2, say2, nay2, hay2, gay2⟩ := voy2
  refine Fin.step (Xy1.arraylength hx (by rw [ey1]; exact Ary2.1) (State.isArrayOf_alike hZ.alike Ary2.2.1) (g := (mkF m 4 #[rv a1] [(.ref ab)])) rfl rfl (hb hby d31_4)) ?_
  rw [len_of say2 nay2]
  show Fin p e below s _ _ _ (Ty1.setTop (mkF m 5 #[rv a1] [(.int pn)]))
  refine Fin.step (fun _ k => Yo.aloadN Xy1.here hx (hb hby d31_5) rfl rfl k) ?_
  obtain ⟨cqy3, kqy3, qy3a, qy3b, qy3c⟩ := isOf hZ ey1 HE_a1
  obtain ⟨_, Ty3, Lcy3, Xy3, hQy3, sty3⟩ := pack (Xy1.virtualBack hx (y := n32) (z := n32) hown (mvT hZ (W_ hw 187)) (mvT hZ (W_ hw 188)) (notFace_of_selects (args := #[]) (mvT hZ (W_ hw 190))) (mvT hZ (W_ hw 190)) (mvT hZ (W_ hw 189)) (by decide) (backOf (W := 1) (rmsc l Z a0 hw [] a1 wc h0 n0 Z0 HS_java_lang_String_COMPACT_STRINGS HF_a1_coder hwc) hZ (W_ hw 191) (W_ hw 58) (by decide) (by decide)) qy3a qy3c (g := (mkF m 6 #[rv a1] [(.ref a1), (.int pn)])) rfl (by rw [hml]; rfl) (Steps.refl _) (argsL := []) (rest := [(.int pn)]) (lenOf pd_20 rfl) rfl (lb rfl) (hb hby d31_6) (fun _ _ => ⟨rfl, ey1, (by decide : 0 + 0 ≤ _), (by decide : 0 + 0 ≤ _)⟩))
  obtain ⟨rfl, Nqy3, eqy3⟩ := hQy3
  have Ny3 := Fr.app N0 Nqy3
  refine Fin.step (sty3) ?_
  show Fin p e below s _ _ _ (Ty3.setTop (mkF m 9 #[rv a1] [(.int 0), (.int pn)]))
  refine Fin.step (fun _ k => Yo.ishr Xy3.here hx (hb hby d31_9) rfl k) ?_
  show Fin p e below s _ _ _ (Ty3.setTop (mkF m 10 #[rv a1] [(.int (pn >>> ((0 : Int32) &&& 31)))]))
  refine Fin.retI Xy3 hx hret hlk (hb hby d31_10) (by decide) (by decide) ?_
  show Qsl Z a1 ab kb pn vs wc h0 n0 _ Ty3.heap _
  rw [eqy3]
  exact ⟨(congrArg (fun z => some (Value.int z)) (own_sh0 pn)), Ny3, rfl⟩
theorem pn_34 : plainName "java/lang/String" = true := by first | (simp [plainName, overriddenIn]; done) | decide +kernel
theorem d34_0 : decode jdk_42_method_56_code 0 = .ok (.aload_n 0, 1) := by decide +kernel
theorem d34_1 : decode jdk_42_method_56_code 1 = .ok (.invokevirtual 492, 3) := by decide +kernel
theorem d34_4 : decode jdk_42_method_56_code 4 = .ok (.ifCond .eq 12, 3) := by decide +kernel
theorem d34_7 : decode jdk_42_method_56_code 7 = .ok (.aload_n 0, 1) := by decide +kernel
theorem d34_8 : decode jdk_42_method_56_code 8 = .ok (.getfield 9, 3) := by decide +kernel
theorem d34_11 : decode jdk_42_method_56_code 11 = .ok (.iload_n 1, 1) := by decide +kernel
theorem d34_12 : decode jdk_42_method_56_code 12 = .ok (.invokestatic 495, 3) := by decide +kernel
theorem pd_21 : parseMethodDescriptor "([BI)C" = some ⟨[(.array .byte), .int], some .char⟩ := by decide +kernel
theorem d34_15 : decode jdk_42_method_56_code 15 = .ok (.ireturn, 1) := by decide +kernel
theorem ef_rmsca (m : MethodId) (x0 : Addr) (x1 : Int32) : entryFrame m #[(.ref x0), (.int x1)] 2 = mkF m 0 #[.val (.ref x0), .val (.int x1)] [] := by first | (simp [entryFrame, mkF, argsToLocals, Value.category]; done) | rfl
abbrev R_rmsca : Room := ({ frames := 3, cells := 0, slots := 0, locals := 40 } : Room)
def Qsca (Z : State) (a1 : Addr) (pj : Int32) (ab : Addr) (kb : ClassId) (pn : Int32) (vs : List Value) (fv : Value) (wc px : Int32) (h0 : Heap) (n0 : Nat) (v : Option Value) (h : Heap) (L : List Loc) : Prop := v = some (.int (own_ch px)) ∧ Fr n0 L ∧ h = h0
set_option maxRecDepth 65536 in
set_option maxHeartbeats 40000000 in
theorem rmsca (l : Launch) (Z : State) (a0 : Array Value) (hw : ∀ d ∈ tables_1, d.before a0 Z = true) (ws : List Jvm.Cond) (a1 : Addr) (pj : Int32) (ab : Addr) (kb : ClassId) (pn : Int32) (vs : List Value) (fv : Value) (wc px : Int32) (h0 : Heap) (n0 : Nat) (Z0 : n0 ≤ h0.size) (HE_a1 : Exa Z h0 a1 q4) (HF_a1_coder : Fld Z h0 a1 q4 "coder" "B" (.int 0)) (HF_a1_value : Fld Z h0 a1 q4 "value" "[B" (.ref ab)) (HV_ab : Arv Z h0 ab kb .byte pn vs (.int 0)) (HS_jdk_internal_util_Preconditions_SIOOBE_FORMATTER : Sta Z h0 q5 q11 q6 fv) (HS_java_lang_String_COMPACT_STRINGS : Sta Z h0 q4 q10 "Z" (.int wc)) (hfv : fv.isRef = true) (hwc : ¬ wc = 0) (hj : ¬ pj < 0 ∧ pj < pn) (hg : vs.getD pj.toNatClampNeg (.int 0) = .int px) :
    Met1 l n34 jdk_42_method_56_code 2 (some .char) ws R_rmsca #[(.ref a1), (.int pj)] Z h0 (Qsca Z a1 pj ab kb pn vs fv wc px h0 n0) := by
  refine Met1.enter (plainFor_of_name pn_34) (fun m => ef_rmsca m a1 pj) fun p e s m below meth c s₁ hx hby hlk hret hml hown hnm hZ X0 e0 => ?_
  have N0 := Fr.nil n0
  have K0 : Keep h0 h0 [] := Keep.refl h0 _
  show Fin p e below s _ _ _ (s₁.setTop (mkF m 0 #[rv a1, iv pj] []))
  refine Fin.step (fun _ k => Yo.aloadN X0.here hx (hb hby d34_0) rfl rfl k) ?_
  obtain ⟨cqy1, kqy1, qy1a, qy1b, qy1c⟩ := isOf hZ e0 HE_a1
  obtain ⟨_, Ty1, Lcy1, Xy1, hQy1, sty1⟩ := pack (X0.virtualBack hx (y := n35) (z := n35) hown (mvT hZ (W_ hw 201)) (mvT hZ (W_ hw 202)) (notFace_of_selects (args := #[]) (mvT hZ (W_ hw 204))) (mvT hZ (W_ hw 204)) (mvT hZ (W_ hw 203)) (by decide) (backOf (W := 0) (rms1 l Z a0 hw [] a1 wc h0 n0 Z0 HS_java_lang_String_COMPACT_STRINGS HF_a1_coder hwc) hZ (W_ hw 205) (W_ hw 58) (by decide) (by decide)) qy1a qy1c (g := (mkF m 1 #[rv a1, iv pj] [(.ref a1)])) rfl (by rw [hml]; rfl) (Steps.refl _) (argsL := []) (rest := []) (lenOf pd_2 rfl) rfl (lb rfl) (hb hby d34_1) (fun _ _ => ⟨rfl, e0, (by decide : 0 + 0 ≤ _), (by decide : 0 + 0 ≤ _)⟩))
  obtain ⟨rfl, Nqy1, eqy1⟩ := hQy1
  have Ny1 := Fr.app N0 Nqy1
  refine Fin.step (sty1) ?_
  show Fin p e below s _ _ _ (Ty1.setTop (mkF m 4 #[rv a1, iv pj] [(.int 1)]))
  refine Fin.step (fun _ k => Yo.ifNo Xy1.here hx (hb hby d34_4) rfl ((if0 _ _).trans (feq ((by decide) : ¬ ((1 : Int32) = (0 : Int32)))).1) (Yo.aloadN Xy1.here hx (hb hby d34_7) rfl rfl k)) ?_
  refine fget Xy1 hx hZ hown (W_ hw 176) eqy1 HF_a1_value (hb hby d34_8) fun Ty2 Xy2 ey2 => ?_
  refine Fin.step (fun _ k => Yo.iloadN Xy2.here hx (hb hby d34_11) rfl k) ?_
  obtain ⟨_, Ty3, Lcy3, Xy3, hQy3, sty3⟩ := packS (Jvm.LawKit.callS Xy2 hx (y := n36) hown (mvT hZ (W_ hw 206)) (mvT hZ (W_ hw 207)) (mvT hZ (W_ hw 119)) (mvT hZ (W_ hw 208)) (by decide) (backOf (W := 0) (rmlc l Z a0 hw [] ab pj kb pn vs fv px h0 n0 Z0 HV_ab HS_jdk_internal_util_Preconditions_SIOOBE_FORMATTER hfv hj hg) hZ (W_ hw 208) (W_ hw 119) (by decide) (by decide)) (g := (mkF m 12 #[rv a1, iv pj] [(.int pj), (.ref ab)])) rfl (by rw [hml]; rfl) (argsL := [(.ref ab), (.int pj)]) (rest := []) (lenOf pd_21 rfl) rfl (lb rfl) (hb hby d34_12) (fun _ _ => ⟨rfl, ey2, (by decide : 0 + 0 ≤ _), (by decide : 0 + 0 ≤ _)⟩))
  obtain ⟨rfl, Nqy3, eqy3⟩ := hQy3
  have Ny3 := Fr.app Ny1 Nqy3
  refine Fin.step (sty3) ?_
  show Fin p e below s _ _ _ (Ty3.setTop (mkF m 15 #[rv a1, iv pj] [(.int (own_ch px))]))
  refine Fin.retN Xy3 hx (t := .char) hret (by simp) hlk (hb hby d34_15) (by decide) (by decide) ?_
  show Qsca Z a1 pj ab kb pn vs fv wc px h0 n0 _ Ty3.heap _
  rw [eqy3]
  exact ⟨(congrArg (fun z => some (Value.int z)) (own_chm px)), Ny3, rfl⟩
theorem pn_33 : plainName "com/example/uzor/uzor/StringValuesEndElementPinLaw" = true := by first | (simp [plainName, overriddenIn]; done) | decide +kernel
theorem d33_0 : decode method_2_code 0 = .ok (.iload 5, 2) := by decide +kernel
theorem d33_2 : decode method_2_code 2 = .ok (.iload_n 2, 1) := by decide +kernel
theorem d33_3 : decode method_2_code 3 = .ok (.iload 4, 2) := by decide +kernel
theorem d33_5 : decode method_2_code 5 = .ok (.iadd, 1) := by decide +kernel
theorem d33_6 : decode method_2_code 6 = .ok (.if_icmp .lt 5, 3) := by decide +kernel
theorem d33_11 : decode method_2_code 11 = .ok (.iload 5, 2) := by decide +kernel
theorem d33_13 : decode method_2_code 13 = .ok (.iload_n 2, 1) := by decide +kernel
theorem d33_14 : decode method_2_code 14 = .ok (.if_icmp .ge 10, 3) := by decide +kernel
theorem d33_17 : decode method_2_code 17 = .ok (.aload_n 1, 1) := by decide +kernel
theorem d33_18 : decode method_2_code 18 = .ok (.iload 5, 2) := by decide +kernel
theorem d33_20 : decode method_2_code 20 = .ok (.caload, 1) := by decide +kernel
theorem d33_21 : decode method_2_code 21 = .ok (.goto 9, 3) := by decide +kernel
theorem d33_30 : decode method_2_code 30 = .ok (.istore 6, 2) := by decide +kernel
theorem d33_32 : decode method_2_code 32 = .ok (.aload_n 0, 1) := by decide +kernel
theorem d33_33 : decode method_2_code 33 = .ok (.iload 5, 2) := by decide +kernel
theorem d33_35 : decode method_2_code 35 = .ok (.invokevirtual 7, 3) := by decide +kernel
theorem pd_22 : parseMethodDescriptor "(I)C" = some ⟨[.int], some .char⟩ := by decide +kernel
theorem d33_38 : decode method_2_code 38 = .ok (.iload 6, 2) := by decide +kernel
theorem d33_40 : decode method_2_code 40 = .ok (.if_icmp .ne 7, 3) := by decide +kernel
theorem d33_43 : decode method_2_code 43 = .ok (.iconst 1, 1) := by decide +kernel
theorem d33_44 : decode method_2_code 44 = .ok (.goto 4, 3) := by decide +kernel
theorem d33_48 : decode method_2_code 48 = .ok (.ireturn, 1) := by decide +kernel
theorem d33_24 : decode method_2_code 24 = .ok (.aload_n 3, 1) := by decide +kernel
theorem d33_25 : decode method_2_code 25 = .ok (.iload 5, 2) := by decide +kernel
theorem d33_27 : decode method_2_code 27 = .ok (.iload_n 2, 1) := by decide +kernel
theorem d33_28 : decode method_2_code 28 = .ok (.isub, 1) := by decide +kernel
theorem d33_29 : decode method_2_code 29 = .ok (.caload, 1) := by decide +kernel
theorem d33_9 : decode method_2_code 9 = .ok (.iconst 1, 1) := by decide +kernel
theorem d33_10 : decode method_2_code 10 = .ok (.ireturn, 1) := by decide +kernel
theorem ef_rmat (m : MethodId) (x0 : Addr) (x1 : Addr) (x2 : Int32) (x3 : Addr) (x4 : Int32) (x5 : Int32) : entryFrame m #[(.ref x0), (.ref x1), (.int x2), (.ref x3), (.int x4), (.int x5)] 7 = mkF m 0 #[.val (.ref x0), .val (.ref x1), .val (.int x2), .val (.ref x3), .val (.int x4), .val (.int x5), .unset] [] := by first | (simp [entryFrame, mkF, argsToLocals, Value.category]; done) | rfl
abbrev R_rmat : Room := ({ frames := 4, cells := 0, slots := 0, locals := 53 } : Room)
def Qat (Z : State) (a1 a2 : Addr) (pa : Int32) (a4 : Addr) (pb pj : Int32) (ab : Addr) (kb : ClassId) (pm : Int32) (vs : List Value) (kx : ClassId) (xs : List Value) (ky : ClassId) (ys : List Value) (fv : Value) (wc : Int32) (h0 : Heap) (n0 : Nat) (v : Option Value) (h : Heap) (L : List Loc) : Prop := v = some (.int 1) ∧ Fr n0 L ∧ h = h0
set_option maxRecDepth 65536 in
set_option maxHeartbeats 40000000 in
theorem rmat (l : Launch) (Z : State) (a0 : Array Value) (hw : ∀ d ∈ tables_1, d.before a0 Z = true) (ws : List Jvm.Cond) (a1 a2 : Addr) (pa : Int32) (a4 : Addr) (pb pj : Int32) (ab : Addr) (kb : ClassId) (pm : Int32) (vs : List Value) (kx : ClassId) (xs : List Value) (ky : ClassId) (ys : List Value) (fv : Value) (wc : Int32) (h0 : Heap) (n0 : Nat) (Z0 : n0 ≤ h0.size) (HE_a1 : Exa Z h0 a1 q4) (HF_a1_coder : Fld Z h0 a1 q4 "coder" "B" (.int 0)) (HF_a1_value : Fld Z h0 a1 q4 "value" "[B" (.ref ab)) (HV_ab : Arv Z h0 ab kb .byte pm vs (.int 0)) (HV_a2 : Arv Z h0 a2 kx .char (3 : Int32) xs (.int 0)) (HV_a4 : Arv Z h0 a4 ky .char (3 : Int32) ys (.int 0)) (HS_jdk_internal_util_Preconditions_SIOOBE_FORMATTER : Sta Z h0 q5 q11 q6 fv) (HS_java_lang_String_COMPACT_STRINGS : Sta Z h0 q4 q10 "Z" (.int wc)) (hfv : fv.isRef = true) (hwc : ¬ wc = 0) (hxl : own_lat xs) (hyl : own_lat ys) (hk : own_ok vs xs ys pa pb pm pj) :
    Met1 l n33 method_2_code 7 (some .boolean) ws R_rmat #[(.ref a1), (.ref a2), (.int pa), (.ref a4), (.int pb), (.int pj)] Z h0 (Qat Z a1 a2 pa a4 pb pj ab kb pm vs kx xs ky ys fv wc h0 n0) := by
  refine Met1.enter (plainFor_of_name pn_33) (fun m => ef_rmat m a1 a2 pa a4 pb pj) fun p e s m below meth c s₁ hx hby hlk hret hml hown hnm hZ X0 e0 => ?_
  have N0 := Fr.nil n0
  have K0 : Keep h0 h0 [] := Keep.refl h0 _
  show Fin p e below s _ _ _ (s₁.setTop (mkF m 0 #[rv a1, rv a2, iv pa, rv a4, iv pb, iv pj, .unset] []))
  refine Fin.step (fun _ k => Yo.iload X0.here hx (hb hby d33_0) rfl (Yo.iloadN X0.here hx (hb hby d33_2) rfl (Yo.iload X0.here hx (hb hby d33_3) rfl (Yo.iadd X0.here hx (hb hby d33_5) rfl k)))) ?_
  show Fin p e below s _ _ _ (s₁.setTop (mkF m 6 #[rv a1, rv a2, iv pa, rv a4, iv pb, iv pj, .unset] [(.int (pa + pb)), (.int pj)]))
  by_cases hcy1 : pj < (pa + pb)
  · refine Fin.step (fun _ k => Yo.icmpYes X0.here hx (pc0 := 6) (pc' := 11) rfl (hb hby d33_6) rfl (tlt (hcy1 : (pj < (pa + pb)))).1 (by decide) (by decide) (Yo.iload X0.here hx (hb hby d33_11) rfl (Yo.iloadN X0.here hx (hb hby d33_13) rfl k))) ?_
    by_cases hcy2 : pj < pa
    · refine Fin.step (fun _ k => Yo.icmpNo X0.here hx (hb hby d33_14) rfl (tlt (hcy2 : (pj < pa))).2.1 (Yo.aloadN X0.here hx (hb hby d33_17) rfl rfl (Yo.iload X0.here hx (hb hby d33_18) rfl k))) ?_
      have voy3 := HV_a2
      obtain ⟨cly3, Ary3, qay3, say3, nay3, hay3, gay3⟩ := voy3
      have iny3 := inb_of (j := pj) say3 ((hk hcy1).2.2.1 hcy2).1
      refine Fin.step (X0.caload hx (j := pj) (v := (.int (own_gt xs pj.toNatClampNeg))) (by rw [e0]; exact Ary3.1) (State.isArrayOf_alike hZ.alike Ary3.2.1) Ary3.2.2 iny3 (hay3.at iny3 (own_lg hxl _).1) (g := (mkF m 20 #[rv a1, rv a2, iv pa, rv a4, iv pb, iv pj, .unset] [(.int pj), (.ref a2)])) rfl rfl (hb hby d33_20)) ?_
      show Fin p e below s _ _ _ (s₁.setTop (mkF m 21 #[rv a1, rv a2, iv pa, rv a4, iv pb, iv pj, .unset] [(.int (own_gt xs pj.toNatClampNeg))]))
      refine Fin.step (fun _ k => Yo.goto X0.here hx (pc0 := 21) (pc' := 30) rfl (hb hby d33_21) (by decide) (by decide) (Yo.istore X0.here hx (hb hby d33_30) rfl (l' := #[rv a1, rv a2, iv pa, rv a4, iv pb, iv pj, .val (.int (own_gt xs pj.toNatClampNeg))]) rfl (Yo.aloadN X0.here hx (hb hby d33_32) rfl rfl (Yo.iload X0.here hx (hb hby d33_33) rfl k)))) ?_
      obtain ⟨cqy4, kqy4, qy4a, qy4b, qy4c⟩ := isOf hZ e0 HE_a1
      obtain ⟨_, Ty4, Lcy4, Xy4, hQy4, sty4⟩ := pack (X0.virtualBack hx (y := n34) (z := n34) hown (mvT hZ (W_ hw 196)) (mvT hZ (W_ hw 197)) (notFace_of_selects (args := #[]) (mvT hZ (W_ hw 199))) (mvT hZ (W_ hw 199)) (mvT hZ (W_ hw 198)) (by decide) (backOf (W := 0) (rmsca l Z a0 hw [] a1 pj ab kb pm vs fv wc (own_gt vs pj.toNatClampNeg) h0 n0 Z0 HE_a1 HF_a1_coder HF_a1_value HV_ab HS_jdk_internal_util_Preconditions_SIOOBE_FORMATTER HS_java_lang_String_COMPACT_STRINGS hfv hwc (hk hcy1).1 (hk hcy1).2.1) hZ (W_ hw 200) (W_ hw 58) (by decide) (by decide)) qy4a qy4c (g := (mkF m 35 #[rv a1, rv a2, iv pa, rv a4, iv pb, iv pj, .val (.int (own_gt xs pj.toNatClampNeg))] [(.int pj), (.ref a1)])) rfl (by rw [hml]; rfl) (Steps.refl _) (argsL := [(.int pj)]) (rest := []) (lenOf pd_22 rfl) rfl (lb rfl) (hb hby d33_35) (fun _ _ => ⟨rfl, e0, (by decide : 0 + 0 ≤ _), (by decide : 0 + 0 ≤ _)⟩))
      obtain ⟨rfl, Nqy4, eqy4⟩ := hQy4
      have Ny4 := Fr.app N0 Nqy4
      refine Fin.step (sty4) ?_
      show Fin p e below s _ _ _ (Ty4.setTop (mkF m 38 #[rv a1, rv a2, iv pa, rv a4, iv pb, iv pj, .val (.int (own_gt xs pj.toNatClampNeg))] [(.int (own_ch (own_gt vs pj.toNatClampNeg)))]))
      refine Fin.step (fun _ k => Yo.iload Xy4.here hx (hb hby d33_38) rfl (Yo.icmpNo Xy4.here hx (hb hby d33_40) rfl (teq (((hk hcy1).2.2.1 hcy2).2 : ((own_ch (own_gt vs pj.toNatClampNeg)) = (own_gt xs pj.toNatClampNeg)))).2 (Yo.iconst Xy4.here hx (hb hby d33_43) (Yo.goto Xy4.here hx (pc0 := 44) (pc' := 48) rfl (hb hby d33_44) (by decide) (by decide) k)))) ?_
      refine Fin.retN Xy4 hx (t := .boolean) hret (by simp) hlk (hb hby d33_48) (by decide) (by decide) ?_
      show Qat Z a1 a2 pa a4 pb pj ab kb pm vs kx xs ky ys fv wc h0 n0 _ Ty4.heap _
      rw [eqy4]
      exact ⟨rfl, Ny4, rfl⟩
    · refine Fin.step (fun _ k => Yo.icmpYes X0.here hx (pc0 := 14) (pc' := 24) rfl (hb hby d33_14) rfl (flt (hcy2 : ¬ (pj < pa))).2.1 (by decide) (by decide) (Yo.aloadN X0.here hx (hb hby d33_24) rfl rfl (Yo.iload X0.here hx (hb hby d33_25) rfl (Yo.iloadN X0.here hx (hb hby d33_27) rfl (Yo.isub X0.here hx (hb hby d33_28) rfl k))))) ?_
      show Fin p e below s _ _ _ (s₁.setTop (mkF m 29 #[rv a1, rv a2, iv pa, rv a4, iv pb, iv pj, .unset] [(.int (pj - pa)), (.ref a4)]))
      have voy5 := HV_a4
      obtain ⟨cly5, Ary5, qay5, say5, nay5, hay5, gay5⟩ := voy5
      have iny5 := inb_of (j := (pj - pa)) say5 ((hk hcy1).2.2.2 hcy2).1
      refine Fin.step (X0.caload hx (j := (pj - pa)) (v := (.int (own_gt ys (pj - pa).toNatClampNeg))) (by rw [e0]; exact Ary5.1) (State.isArrayOf_alike hZ.alike Ary5.2.1) Ary5.2.2 iny5 (hay5.at iny5 (own_lg hyl _).1) (g := (mkF m 29 #[rv a1, rv a2, iv pa, rv a4, iv pb, iv pj, .unset] [(.int (pj - pa)), (.ref a4)])) rfl rfl (hb hby d33_29)) ?_
      show Fin p e below s _ _ _ (s₁.setTop (mkF m 30 #[rv a1, rv a2, iv pa, rv a4, iv pb, iv pj, .unset] [(.int (own_gt ys (pj - pa).toNatClampNeg))]))
      refine Fin.step (fun _ k => Yo.istore X0.here hx (hb hby d33_30) rfl (l' := #[rv a1, rv a2, iv pa, rv a4, iv pb, iv pj, .val (.int (own_gt ys (pj - pa).toNatClampNeg))]) rfl (Yo.aloadN X0.here hx (hb hby d33_32) rfl rfl (Yo.iload X0.here hx (hb hby d33_33) rfl k))) ?_
      obtain ⟨cqy6, kqy6, qy6a, qy6b, qy6c⟩ := isOf hZ e0 HE_a1
      obtain ⟨_, Ty6, Lcy6, Xy6, hQy6, sty6⟩ := pack (X0.virtualBack hx (y := n34) (z := n34) hown (mvT hZ (W_ hw 196)) (mvT hZ (W_ hw 197)) (notFace_of_selects (args := #[]) (mvT hZ (W_ hw 199))) (mvT hZ (W_ hw 199)) (mvT hZ (W_ hw 198)) (by decide) (backOf (W := 0) (rmsca l Z a0 hw [] a1 pj ab kb pm vs fv wc (own_gt vs pj.toNatClampNeg) h0 n0 Z0 HE_a1 HF_a1_coder HF_a1_value HV_ab HS_jdk_internal_util_Preconditions_SIOOBE_FORMATTER HS_java_lang_String_COMPACT_STRINGS hfv hwc (hk hcy1).1 (hk hcy1).2.1) hZ (W_ hw 200) (W_ hw 58) (by decide) (by decide)) qy6a qy6c (g := (mkF m 35 #[rv a1, rv a2, iv pa, rv a4, iv pb, iv pj, .val (.int (own_gt ys (pj - pa).toNatClampNeg))] [(.int pj), (.ref a1)])) rfl (by rw [hml]; rfl) (Steps.refl _) (argsL := [(.int pj)]) (rest := []) (lenOf pd_22 rfl) rfl (lb rfl) (hb hby d33_35) (fun _ _ => ⟨rfl, e0, (by decide : 0 + 0 ≤ _), (by decide : 0 + 0 ≤ _)⟩))
      obtain ⟨rfl, Nqy6, eqy6⟩ := hQy6
      have Ny6 := Fr.app N0 Nqy6
      refine Fin.step (sty6) ?_
      show Fin p e below s _ _ _ (Ty6.setTop (mkF m 38 #[rv a1, rv a2, iv pa, rv a4, iv pb, iv pj, .val (.int (own_gt ys (pj - pa).toNatClampNeg))] [(.int (own_ch (own_gt vs pj.toNatClampNeg)))]))
      refine Fin.step (fun _ k => Yo.iload Xy6.here hx (hb hby d33_38) rfl (Yo.icmpNo Xy6.here hx (hb hby d33_40) rfl (teq (((hk hcy1).2.2.2 hcy2).2 : ((own_ch (own_gt vs pj.toNatClampNeg)) = (own_gt ys (pj - pa).toNatClampNeg)))).2 (Yo.iconst Xy6.here hx (hb hby d33_43) (Yo.goto Xy6.here hx (pc0 := 44) (pc' := 48) rfl (hb hby d33_44) (by decide) (by decide) k)))) ?_
      refine Fin.retN Xy6 hx (t := .boolean) hret (by simp) hlk (hb hby d33_48) (by decide) (by decide) ?_
      show Qat Z a1 a2 pa a4 pb pj ab kb pm vs kx xs ky ys fv wc h0 n0 _ Ty6.heap _
      rw [eqy6]
      exact ⟨rfl, Ny6, rfl⟩
  · refine Fin.step (fun _ k => Yo.icmpNo X0.here hx (hb hby d33_6) rfl (flt (hcy1 : ¬ (pj < (pa + pb)))).1 (Yo.iconst X0.here hx (hb hby d33_9) k)) ?_
    refine Fin.retN X0 hx (t := .boolean) hret (by simp) hlk (hb hby d33_10) (by decide) (by decide) ?_
    show Qat Z a1 a2 pa a4 pb pj ab kb pm vs kx xs ky ys fv wc h0 n0 _ s₁.heap _
    rw [e0]
    exact ⟨rfl, N0, rfl⟩
theorem pn_30 : plainName "com/example/uzor/uzor/StringValuesEndElementPinLaw" = true := by first | (simp [plainName, overriddenIn]; done) | decide +kernel
theorem d30_0 : decode method_3_code 0 = .ok (.aload_n 0, 1) := by decide +kernel
theorem d30_1 : decode method_3_code 1 = .ok (.ifnull 14, 3) := by decide +kernel
theorem d30_4 : decode method_3_code 4 = .ok (.aload_n 0, 1) := by decide +kernel
theorem d30_5 : decode method_3_code 5 = .ok (.invokevirtual 13, 3) := by decide +kernel
theorem d30_8 : decode method_3_code 8 = .ok (.iload_n 2, 1) := by decide +kernel
theorem d30_9 : decode method_3_code 9 = .ok (.iload 4, 2) := by decide +kernel
theorem d30_11 : decode method_3_code 11 = .ok (.iadd, 1) := by decide +kernel
theorem d30_12 : decode method_3_code 12 = .ok (.if_icmp .eq 5, 3) := by decide +kernel
theorem d30_17 : decode method_3_code 17 = .ok (.aload_n 0, 1) := by decide +kernel
theorem d30_18 : decode method_3_code 18 = .ok (.aload_n 1, 1) := by decide +kernel
theorem d30_19 : decode method_3_code 19 = .ok (.iload_n 2, 1) := by decide +kernel
theorem d30_20 : decode method_3_code 20 = .ok (.aload_n 3, 1) := by decide +kernel
theorem d30_21 : decode method_3_code 21 = .ok (.iload 4, 2) := by decide +kernel
theorem d30_23 : decode method_3_code 23 = .ok (.iconst 0, 1) := by decide +kernel
theorem d30_24 : decode method_3_code 24 = .ok (.invokestatic 17, 3) := by decide +kernel
theorem pd_23 : parseMethodDescriptor "(Ljava/lang/String;[CI[CII)Z" = some ⟨[(.object "java/lang/String"), (.array .char), .int, (.array .char), .int, .int], some .boolean⟩ := by decide +kernel
theorem d30_27 : decode method_3_code 27 = .ok (.ifCond .eq 72, 3) := by decide +kernel
theorem d30_30 : decode method_3_code 30 = .ok (.aload_n 0, 1) := by decide +kernel
theorem d30_31 : decode method_3_code 31 = .ok (.aload_n 1, 1) := by decide +kernel
theorem d30_32 : decode method_3_code 32 = .ok (.iload_n 2, 1) := by decide +kernel
theorem d30_33 : decode method_3_code 33 = .ok (.aload_n 3, 1) := by decide +kernel
theorem d30_34 : decode method_3_code 34 = .ok (.iload 4, 2) := by decide +kernel
theorem d30_36 : decode method_3_code 36 = .ok (.iconst 1, 1) := by decide +kernel
theorem d30_37 : decode method_3_code 37 = .ok (.invokestatic 17, 3) := by decide +kernel
theorem d30_40 : decode method_3_code 40 = .ok (.ifCond .eq 59, 3) := by decide +kernel
theorem d30_43 : decode method_3_code 43 = .ok (.aload_n 0, 1) := by decide +kernel
theorem d30_44 : decode method_3_code 44 = .ok (.aload_n 1, 1) := by decide +kernel
theorem d30_45 : decode method_3_code 45 = .ok (.iload_n 2, 1) := by decide +kernel
theorem d30_46 : decode method_3_code 46 = .ok (.aload_n 3, 1) := by decide +kernel
theorem d30_47 : decode method_3_code 47 = .ok (.iload 4, 2) := by decide +kernel
theorem d30_49 : decode method_3_code 49 = .ok (.iconst 2, 1) := by decide +kernel
theorem d30_50 : decode method_3_code 50 = .ok (.invokestatic 17, 3) := by decide +kernel
theorem d30_53 : decode method_3_code 53 = .ok (.ifCond .eq 46, 3) := by decide +kernel
theorem d30_56 : decode method_3_code 56 = .ok (.aload_n 0, 1) := by decide +kernel
theorem d30_57 : decode method_3_code 57 = .ok (.aload_n 1, 1) := by decide +kernel
theorem d30_58 : decode method_3_code 58 = .ok (.iload_n 2, 1) := by decide +kernel
theorem d30_59 : decode method_3_code 59 = .ok (.aload_n 3, 1) := by decide +kernel
theorem d30_60 : decode method_3_code 60 = .ok (.iload 4, 2) := by decide +kernel
theorem d30_62 : decode method_3_code 62 = .ok (.iconst 3, 1) := by decide +kernel
theorem d30_63 : decode method_3_code 63 = .ok (.invokestatic 17, 3) := by decide +kernel
theorem d30_66 : decode method_3_code 66 = .ok (.ifCond .eq 33, 3) := by decide +kernel
theorem d30_69 : decode method_3_code 69 = .ok (.aload_n 0, 1) := by decide +kernel
theorem d30_70 : decode method_3_code 70 = .ok (.aload_n 1, 1) := by decide +kernel
theorem d30_71 : decode method_3_code 71 = .ok (.iload_n 2, 1) := by decide +kernel
theorem d30_72 : decode method_3_code 72 = .ok (.aload_n 3, 1) := by decide +kernel
theorem d30_73 : decode method_3_code 73 = .ok (.iload 4, 2) := by decide +kernel
theorem d30_75 : decode method_3_code 75 = .ok (.iconst 4, 1) := by decide +kernel
theorem d30_76 : decode method_3_code 76 = .ok (.invokestatic 17, 3) := by decide +kernel
theorem d30_79 : decode method_3_code 79 = .ok (.ifCond .eq 20, 3) := by decide +kernel
theorem d30_82 : decode method_3_code 82 = .ok (.aload_n 0, 1) := by decide +kernel
theorem d30_83 : decode method_3_code 83 = .ok (.aload_n 1, 1) := by decide +kernel
theorem d30_84 : decode method_3_code 84 = .ok (.iload_n 2, 1) := by decide +kernel
theorem d30_85 : decode method_3_code 85 = .ok (.aload_n 3, 1) := by decide +kernel
theorem d30_86 : decode method_3_code 86 = .ok (.iload 4, 2) := by decide +kernel
theorem d30_88 : decode method_3_code 88 = .ok (.iconst 5, 1) := by decide +kernel
theorem d30_89 : decode method_3_code 89 = .ok (.invokestatic 17, 3) := by decide +kernel
theorem d30_92 : decode method_3_code 92 = .ok (.ifCond .eq 7, 3) := by decide +kernel
theorem d30_95 : decode method_3_code 95 = .ok (.iconst 1, 1) := by decide +kernel
theorem d30_96 : decode method_3_code 96 = .ok (.goto 4, 3) := by decide +kernel
theorem d30_100 : decode method_3_code 100 = .ok (.ireturn, 1) := by decide +kernel
theorem ef_rmma (m : MethodId) (x0 : Addr) (x1 : Addr) (x2 : Int32) (x3 : Addr) (x4 : Int32) : entryFrame m #[(.ref x0), (.ref x1), (.int x2), (.ref x3), (.int x4)] 5 = mkF m 0 #[.val (.ref x0), .val (.ref x1), .val (.int x2), .val (.ref x3), .val (.int x4)] [] := by first | (simp [entryFrame, mkF, argsToLocals, Value.category]; done) | rfl
abbrev R_rmma : Room := ({ frames := 5, cells := 0, slots := 0, locals := 71 } : Room)
def Qma (Z : State) (a1 a2 : Addr) (pa : Int32) (a4 : Addr) (pb : Int32) (ab : Addr) (kb : ClassId) (pm : Int32) (vs : List Value) (kx : ClassId) (xs : List Value) (ky : ClassId) (ys : List Value) (fv : Value) (wc : Int32) (h0 : Heap) (n0 : Nat) (v : Option Value) (h : Heap) (L : List Loc) : Prop := v = some (.int 1) ∧ Fr n0 L ∧ h = h0
set_option maxRecDepth 65536 in
set_option maxHeartbeats 40000000 in
theorem rmma (l : Launch) (Z : State) (a0 : Array Value) (hw : ∀ d ∈ tables_1, d.before a0 Z = true) (ws : List Jvm.Cond) (a1 a2 : Addr) (pa : Int32) (a4 : Addr) (pb : Int32) (ab : Addr) (kb : ClassId) (pm : Int32) (vs : List Value) (kx : ClassId) (xs : List Value) (ky : ClassId) (ys : List Value) (fv : Value) (wc : Int32) (h0 : Heap) (n0 : Nat) (Z0 : n0 ≤ h0.size) (HE_a1 : Exa Z h0 a1 q4) (HF_a1_coder : Fld Z h0 a1 q4 "coder" "B" (.int 0)) (HF_a1_value : Fld Z h0 a1 q4 "value" "[B" (.ref ab)) (HV_ab : Arv Z h0 ab kb .byte pm vs (.int 0)) (HV_a2 : Arv Z h0 a2 kx .char (3 : Int32) xs (.int 0)) (HV_a4 : Arv Z h0 a4 ky .char (3 : Int32) ys (.int 0)) (HS_jdk_internal_util_Preconditions_SIOOBE_FORMATTER : Sta Z h0 q5 q11 q6 fv) (HS_java_lang_String_COMPACT_STRINGS : Sta Z h0 q4 q10 "Z" (.int wc)) (hfv : fv.isRef = true) (hwc : ¬ wc = 0) (hxl : own_lat xs) (hyl : own_lat ys) (hpm : pm = pa + pb) (hk : ∀ j : Int32, 0 ≤ j.toInt → j.toInt ≤ 5 → own_ok vs xs ys pa pb pm j) :
    Met1 l n30 method_3_code 5 (some .boolean) ws R_rmma #[(.ref a1), (.ref a2), (.int pa), (.ref a4), (.int pb)] Z h0 (Qma Z a1 a2 pa a4 pb ab kb pm vs kx xs ky ys fv wc h0 n0) := by
  refine Met1.enter (plainFor_of_name pn_30) (fun m => ef_rmma m a1 a2 pa a4 pb) fun p e s m below meth c s₁ hx hby hlk hret hml hown hnm hZ X0 e0 => ?_
  have N0 := Fr.nil n0
  have K0 : Keep h0 h0 [] := Keep.refl h0 _
  show Fin p e below s _ _ _ (s₁.setTop (mkF m 0 #[rv a1, rv a2, iv pa, rv a4, iv pb] []))
  refine Fin.step (fun _ k => Yo.aloadN X0.here hx (hb hby d30_0) rfl rfl (Yo.ifnullNo X0.here hx (hb hby d30_1) rfl (Yo.aloadN X0.here hx (hb hby d30_4) rfl rfl k))) ?_
  obtain ⟨cqy1, kqy1, qy1a, qy1b, qy1c⟩ := isOf hZ e0 HE_a1
  obtain ⟨_, Ty1, Lcy1, Xy1, hQy1, sty1⟩ := pack (X0.virtualBack hx (y := n31) (z := n31) hown (mvT hZ (W_ hw 182)) (mvT hZ (W_ hw 183)) (notFace_of_selects (args := #[]) (mvT hZ (W_ hw 185))) (mvT hZ (W_ hw 185)) (mvT hZ (W_ hw 184)) (by decide) (backOf (W := 0) (rmsl l Z a0 hw [] a1 ab kb pm vs wc h0 n0 Z0 HE_a1 HF_a1_coder HF_a1_value HV_ab HS_java_lang_String_COMPACT_STRINGS hwc) hZ (W_ hw 186) (W_ hw 58) (by decide) (by decide)) qy1a qy1c (g := (mkF m 5 #[rv a1, rv a2, iv pa, rv a4, iv pb] [(.ref a1)])) rfl (by rw [hml]; rfl) (Steps.refl _) (argsL := []) (rest := []) (lenOf pd_1 rfl) rfl (lb rfl) (hb hby d30_5) (fun _ _ => ⟨rfl, e0, (by decide : 0 + 0 ≤ _), (by decide : 0 + 0 ≤ _)⟩))
  obtain ⟨rfl, Nqy1, eqy1⟩ := hQy1
  have Ny1 := Fr.app N0 Nqy1
  refine Fin.step (sty1) ?_
  show Fin p e below s _ _ _ (Ty1.setTop (mkF m 8 #[rv a1, rv a2, iv pa, rv a4, iv pb] [(.int pm)]))
  refine Fin.step (fun _ k => Yo.iloadN Xy1.here hx (hb hby d30_8) rfl (Yo.iload Xy1.here hx (hb hby d30_9) rfl (Yo.iadd Xy1.here hx (hb hby d30_11) rfl k))) ?_
  show Fin p e below s _ _ _ (Ty1.setTop (mkF m 12 #[rv a1, rv a2, iv pa, rv a4, iv pb] [(.int (pa + pb)), (.int pm)]))
  refine Fin.step (fun _ k => Yo.icmpYes Xy1.here hx (pc0 := 12) (pc' := 17) rfl (hb hby d30_12) rfl (teq (hpm : (pm = (pa + pb)))).1 (by decide) (by decide) (Yo.aloadN Xy1.here hx (hb hby d30_17) rfl rfl (Yo.aloadN Xy1.here hx (hb hby d30_18) rfl rfl (Yo.iloadN Xy1.here hx (hb hby d30_19) rfl (Yo.aloadN Xy1.here hx (hb hby d30_20) rfl rfl (Yo.iload Xy1.here hx (hb hby d30_21) rfl (Yo.iconst Xy1.here hx (hb hby d30_23) k))))))) ?_
  obtain ⟨_, Ty2, Lcy2, Xy2, hQy2, sty2⟩ := packS (Jvm.LawKit.callS Xy1 hx (y := n33) hown (mvT hZ (W_ hw 193)) (mvT hZ (W_ hw 194)) (mvT hZ (W_ hw 180)) (mvT hZ (W_ hw 195)) (by decide) (backOf (W := 0) (rmat l Z a0 hw [] a1 a2 pa a4 pb (0 : Int32) ab kb pm vs kx xs ky ys fv wc h0 n0 Z0 HE_a1 HF_a1_coder HF_a1_value HV_ab HV_a2 HV_a4 HS_jdk_internal_util_Preconditions_SIOOBE_FORMATTER HS_java_lang_String_COMPACT_STRINGS hfv hwc hxl hyl (hk _ (by decide) (by decide))) hZ (W_ hw 195) (W_ hw 180) (by decide) (by decide)) (g := (mkF m 24 #[rv a1, rv a2, iv pa, rv a4, iv pb] [(.int 0), (.int pb), (.ref a4), (.int pa), (.ref a2), (.ref a1)])) rfl (by rw [hml]; rfl) (argsL := [(.ref a1), (.ref a2), (.int pa), (.ref a4), (.int pb), (.int 0)]) (rest := []) (lenOf pd_23 rfl) rfl (lb rfl) (hb hby d30_24) (fun _ _ => ⟨rfl, eqy1, (by decide : 0 + 0 ≤ _), (by decide : 0 + 0 ≤ _)⟩))
  obtain ⟨rfl, Nqy2, eqy2⟩ := hQy2
  have Ny2 := Fr.app Ny1 Nqy2
  refine Fin.step (sty2) ?_
  show Fin p e below s _ _ _ (Ty2.setTop (mkF m 27 #[rv a1, rv a2, iv pa, rv a4, iv pb] [(.int 1)]))
  refine Fin.step (fun _ k => Yo.ifNo Xy2.here hx (hb hby d30_27) rfl ((if0 _ _).trans (feq ((by decide) : ¬ ((1 : Int32) = (0 : Int32)))).1) (Yo.aloadN Xy2.here hx (hb hby d30_30) rfl rfl (Yo.aloadN Xy2.here hx (hb hby d30_31) rfl rfl (Yo.iloadN Xy2.here hx (hb hby d30_32) rfl (Yo.aloadN Xy2.here hx (hb hby d30_33) rfl rfl (Yo.iload Xy2.here hx (hb hby d30_34) rfl (Yo.iconst Xy2.here hx (hb hby d30_36) k))))))) ?_
  obtain ⟨_, Ty3, Lcy3, Xy3, hQy3, sty3⟩ := packS (Jvm.LawKit.callS Xy2 hx (y := n33) hown (mvT hZ (W_ hw 193)) (mvT hZ (W_ hw 194)) (mvT hZ (W_ hw 180)) (mvT hZ (W_ hw 195)) (by decide) (backOf (W := 0) (rmat l Z a0 hw [] a1 a2 pa a4 pb (1 : Int32) ab kb pm vs kx xs ky ys fv wc h0 n0 Z0 HE_a1 HF_a1_coder HF_a1_value HV_ab HV_a2 HV_a4 HS_jdk_internal_util_Preconditions_SIOOBE_FORMATTER HS_java_lang_String_COMPACT_STRINGS hfv hwc hxl hyl (hk _ (by decide) (by decide))) hZ (W_ hw 195) (W_ hw 180) (by decide) (by decide)) (g := (mkF m 37 #[rv a1, rv a2, iv pa, rv a4, iv pb] [(.int 1), (.int pb), (.ref a4), (.int pa), (.ref a2), (.ref a1)])) rfl (by rw [hml]; rfl) (argsL := [(.ref a1), (.ref a2), (.int pa), (.ref a4), (.int pb), (.int 1)]) (rest := []) (lenOf pd_23 rfl) rfl (lb rfl) (hb hby d30_37) (fun _ _ => ⟨rfl, eqy2, (by decide : 0 + 0 ≤ _), (by decide : 0 + 0 ≤ _)⟩))
  obtain ⟨rfl, Nqy3, eqy3⟩ := hQy3
  have Ny3 := Fr.app Ny2 Nqy3
  refine Fin.step (sty3) ?_
  show Fin p e below s _ _ _ (Ty3.setTop (mkF m 40 #[rv a1, rv a2, iv pa, rv a4, iv pb] [(.int 1)]))
  refine Fin.step (fun _ k => Yo.ifNo Xy3.here hx (hb hby d30_40) rfl ((if0 _ _).trans (feq ((by decide) : ¬ ((1 : Int32) = (0 : Int32)))).1) (Yo.aloadN Xy3.here hx (hb hby d30_43) rfl rfl (Yo.aloadN Xy3.here hx (hb hby d30_44) rfl rfl (Yo.iloadN Xy3.here hx (hb hby d30_45) rfl (Yo.aloadN Xy3.here hx (hb hby d30_46) rfl rfl (Yo.iload Xy3.here hx (hb hby d30_47) rfl (Yo.iconst Xy3.here hx (hb hby d30_49) k))))))) ?_
  obtain ⟨_, Ty4, Lcy4, Xy4, hQy4, sty4⟩ := packS (Jvm.LawKit.callS Xy3 hx (y := n33) hown (mvT hZ (W_ hw 193)) (mvT hZ (W_ hw 194)) (mvT hZ (W_ hw 180)) (mvT hZ (W_ hw 195)) (by decide) (backOf (W := 0) (rmat l Z a0 hw [] a1 a2 pa a4 pb (2 : Int32) ab kb pm vs kx xs ky ys fv wc h0 n0 Z0 HE_a1 HF_a1_coder HF_a1_value HV_ab HV_a2 HV_a4 HS_jdk_internal_util_Preconditions_SIOOBE_FORMATTER HS_java_lang_String_COMPACT_STRINGS hfv hwc hxl hyl (hk _ (by decide) (by decide))) hZ (W_ hw 195) (W_ hw 180) (by decide) (by decide)) (g := (mkF m 50 #[rv a1, rv a2, iv pa, rv a4, iv pb] [(.int 2), (.int pb), (.ref a4), (.int pa), (.ref a2), (.ref a1)])) rfl (by rw [hml]; rfl) (argsL := [(.ref a1), (.ref a2), (.int pa), (.ref a4), (.int pb), (.int 2)]) (rest := []) (lenOf pd_23 rfl) rfl (lb rfl) (hb hby d30_50) (fun _ _ => ⟨rfl, eqy3, (by decide : 0 + 0 ≤ _), (by decide : 0 + 0 ≤ _)⟩))
  obtain ⟨rfl, Nqy4, eqy4⟩ := hQy4
  have Ny4 := Fr.app Ny3 Nqy4
  refine Fin.step (sty4) ?_
  show Fin p e below s _ _ _ (Ty4.setTop (mkF m 53 #[rv a1, rv a2, iv pa, rv a4, iv pb] [(.int 1)]))
  refine Fin.step (fun _ k => Yo.ifNo Xy4.here hx (hb hby d30_53) rfl ((if0 _ _).trans (feq ((by decide) : ¬ ((1 : Int32) = (0 : Int32)))).1) (Yo.aloadN Xy4.here hx (hb hby d30_56) rfl rfl (Yo.aloadN Xy4.here hx (hb hby d30_57) rfl rfl (Yo.iloadN Xy4.here hx (hb hby d30_58) rfl (Yo.aloadN Xy4.here hx (hb hby d30_59) rfl rfl (Yo.iload Xy4.here hx (hb hby d30_60) rfl (Yo.iconst Xy4.here hx (hb hby d30_62) k))))))) ?_
  obtain ⟨_, Ty5, Lcy5, Xy5, hQy5, sty5⟩ := packS (Jvm.LawKit.callS Xy4 hx (y := n33) hown (mvT hZ (W_ hw 193)) (mvT hZ (W_ hw 194)) (mvT hZ (W_ hw 180)) (mvT hZ (W_ hw 195)) (by decide) (backOf (W := 0) (rmat l Z a0 hw [] a1 a2 pa a4 pb (3 : Int32) ab kb pm vs kx xs ky ys fv wc h0 n0 Z0 HE_a1 HF_a1_coder HF_a1_value HV_ab HV_a2 HV_a4 HS_jdk_internal_util_Preconditions_SIOOBE_FORMATTER HS_java_lang_String_COMPACT_STRINGS hfv hwc hxl hyl (hk _ (by decide) (by decide))) hZ (W_ hw 195) (W_ hw 180) (by decide) (by decide)) (g := (mkF m 63 #[rv a1, rv a2, iv pa, rv a4, iv pb] [(.int 3), (.int pb), (.ref a4), (.int pa), (.ref a2), (.ref a1)])) rfl (by rw [hml]; rfl) (argsL := [(.ref a1), (.ref a2), (.int pa), (.ref a4), (.int pb), (.int 3)]) (rest := []) (lenOf pd_23 rfl) rfl (lb rfl) (hb hby d30_63) (fun _ _ => ⟨rfl, eqy4, (by decide : 0 + 0 ≤ _), (by decide : 0 + 0 ≤ _)⟩))
  obtain ⟨rfl, Nqy5, eqy5⟩ := hQy5
  have Ny5 := Fr.app Ny4 Nqy5
  refine Fin.step (sty5) ?_
  show Fin p e below s _ _ _ (Ty5.setTop (mkF m 66 #[rv a1, rv a2, iv pa, rv a4, iv pb] [(.int 1)]))
  refine Fin.step (fun _ k => Yo.ifNo Xy5.here hx (hb hby d30_66) rfl ((if0 _ _).trans (feq ((by decide) : ¬ ((1 : Int32) = (0 : Int32)))).1) (Yo.aloadN Xy5.here hx (hb hby d30_69) rfl rfl (Yo.aloadN Xy5.here hx (hb hby d30_70) rfl rfl (Yo.iloadN Xy5.here hx (hb hby d30_71) rfl (Yo.aloadN Xy5.here hx (hb hby d30_72) rfl rfl (Yo.iload Xy5.here hx (hb hby d30_73) rfl (Yo.iconst Xy5.here hx (hb hby d30_75) k))))))) ?_
  obtain ⟨_, Ty6, Lcy6, Xy6, hQy6, sty6⟩ := packS (Jvm.LawKit.callS Xy5 hx (y := n33) hown (mvT hZ (W_ hw 193)) (mvT hZ (W_ hw 194)) (mvT hZ (W_ hw 180)) (mvT hZ (W_ hw 195)) (by decide) (backOf (W := 0) (rmat l Z a0 hw [] a1 a2 pa a4 pb (4 : Int32) ab kb pm vs kx xs ky ys fv wc h0 n0 Z0 HE_a1 HF_a1_coder HF_a1_value HV_ab HV_a2 HV_a4 HS_jdk_internal_util_Preconditions_SIOOBE_FORMATTER HS_java_lang_String_COMPACT_STRINGS hfv hwc hxl hyl (hk _ (by decide) (by decide))) hZ (W_ hw 195) (W_ hw 180) (by decide) (by decide)) (g := (mkF m 76 #[rv a1, rv a2, iv pa, rv a4, iv pb] [(.int 4), (.int pb), (.ref a4), (.int pa), (.ref a2), (.ref a1)])) rfl (by rw [hml]; rfl) (argsL := [(.ref a1), (.ref a2), (.int pa), (.ref a4), (.int pb), (.int 4)]) (rest := []) (lenOf pd_23 rfl) rfl (lb rfl) (hb hby d30_76) (fun _ _ => ⟨rfl, eqy5, (by decide : 0 + 0 ≤ _), (by decide : 0 + 0 ≤ _)⟩))
  obtain ⟨rfl, Nqy6, eqy6⟩ := hQy6
  have Ny6 := Fr.app Ny5 Nqy6
  refine Fin.step (sty6) ?_
  show Fin p e below s _ _ _ (Ty6.setTop (mkF m 79 #[rv a1, rv a2, iv pa, rv a4, iv pb] [(.int 1)]))
  refine Fin.step (fun _ k => Yo.ifNo Xy6.here hx (hb hby d30_79) rfl ((if0 _ _).trans (feq ((by decide) : ¬ ((1 : Int32) = (0 : Int32)))).1) (Yo.aloadN Xy6.here hx (hb hby d30_82) rfl rfl (Yo.aloadN Xy6.here hx (hb hby d30_83) rfl rfl (Yo.iloadN Xy6.here hx (hb hby d30_84) rfl (Yo.aloadN Xy6.here hx (hb hby d30_85) rfl rfl (Yo.iload Xy6.here hx (hb hby d30_86) rfl (Yo.iconst Xy6.here hx (hb hby d30_88) k))))))) ?_
  obtain ⟨_, Ty7, Lcy7, Xy7, hQy7, sty7⟩ := packS (Jvm.LawKit.callS Xy6 hx (y := n33) hown (mvT hZ (W_ hw 193)) (mvT hZ (W_ hw 194)) (mvT hZ (W_ hw 180)) (mvT hZ (W_ hw 195)) (by decide) (backOf (W := 0) (rmat l Z a0 hw [] a1 a2 pa a4 pb (5 : Int32) ab kb pm vs kx xs ky ys fv wc h0 n0 Z0 HE_a1 HF_a1_coder HF_a1_value HV_ab HV_a2 HV_a4 HS_jdk_internal_util_Preconditions_SIOOBE_FORMATTER HS_java_lang_String_COMPACT_STRINGS hfv hwc hxl hyl (hk _ (by decide) (by decide))) hZ (W_ hw 195) (W_ hw 180) (by decide) (by decide)) (g := (mkF m 89 #[rv a1, rv a2, iv pa, rv a4, iv pb] [(.int 5), (.int pb), (.ref a4), (.int pa), (.ref a2), (.ref a1)])) rfl (by rw [hml]; rfl) (argsL := [(.ref a1), (.ref a2), (.int pa), (.ref a4), (.int pb), (.int 5)]) (rest := []) (lenOf pd_23 rfl) rfl (lb rfl) (hb hby d30_89) (fun _ _ => ⟨rfl, eqy6, (by decide : 0 + 0 ≤ _), (by decide : 0 + 0 ≤ _)⟩))
  obtain ⟨rfl, Nqy7, eqy7⟩ := hQy7
  have Ny7 := Fr.app Ny6 Nqy7
  refine Fin.step (sty7) ?_
  show Fin p e below s _ _ _ (Ty7.setTop (mkF m 92 #[rv a1, rv a2, iv pa, rv a4, iv pb] [(.int 1)]))
  refine Fin.step (fun _ k => Yo.ifNo Xy7.here hx (hb hby d30_92) rfl ((if0 _ _).trans (feq ((by decide) : ¬ ((1 : Int32) = (0 : Int32)))).1) (Yo.iconst Xy7.here hx (hb hby d30_95) (Yo.goto Xy7.here hx (pc0 := 96) (pc' := 100) rfl (hb hby d30_96) (by decide) (by decide) k))) ?_
  refine Fin.retN Xy7 hx (t := .boolean) hret (by simp) hlk (hb hby d30_100) (by decide) (by decide) ?_
  show Qma Z a1 a2 pa a4 pb ab kb pm vs kx xs ky ys fv wc h0 n0 _ Ty7.heap _
  rw [eqy7]
  exact ⟨rfl, Ny7, rfl⟩
theorem pn_0 : plainName "com/example/uzor/uzor/StringValuesEndElementPinLaw" = true := by first | (simp [plainName, overriddenIn]; done) | decide +kernel
theorem pd_24 : parseMethodDescriptor "(I)Lcom/example/uzor/uzor/StringValues$Value;" = some ⟨[.int], some (.object "com/example/uzor/uzor/StringValues$Value")⟩ := by decide +kernel
theorem pd_25 : parseMethodDescriptor "(Ljava/lang/String;[CI[CI)Z" = some ⟨[(.object "java/lang/String"), (.array .char), .int, (.array .char), .int], some .boolean⟩ := by decide +kernel
theorem ef_rm0 (m : MethodId) (x0 : Int32) (x1 : Int32) (x2 : Int32) (x3 : Int32) : entryFrame m #[(.int x0), (.int x1), (.int x2), (.int x3)] maxLocals = mkF m 0 #[.val (.int x0), .val (.int x1), .val (.int x2), .val (.int x3), .unset, .unset, .unset, .unset, .unset, .unset, .unset, .unset, .unset, .unset, .unset, .unset, .unset, .unset, .unset, .unset, .unset] [] := by first | (simp [entryFrame, mkF, argsToLocals, Value.category, maxLocals]; done) | rfl
def Q0 (Z : State) (p1 p2 p3 p4 : Int32) (fv gv : Value) (wc : Int32) (h0 : Heap) (n0 : Nat) (v : Option Value) (h : Heap) (L : List Loc) : Prop := v = some (.int 1) ∧ Fr n0 L ∧ Keep h0 h []
set_option maxRecDepth 65536 in
set_option maxHeartbeats 40000000 in
theorem rm0 (l : Launch) (Z : State) (a0 : Array Value) (hw : ∀ d ∈ tables_1, d.before a0 Z = true) (ws : List Jvm.Cond) (p1 p2 p3 p4 : Int32) (fv gv : Value) (wc : Int32) (h0 : Heap) (n0 : Nat) (Z0 : n0 ≤ h0.size) (HS_jdk_internal_util_Preconditions_SIOOBE_FORMATTER : Sta Z h0 q5 q11 q6 fv) (HS_jdk_internal_util_Preconditions_IOOBE_FORMATTER : Sta Z h0 q5 q12 q6 gv) (HS_java_lang_String_COMPACT_STRINGS : Sta Z h0 q4 q10 "Z" (.int wc)) (hfv : fv.isRef = true) (hgv : gv.isRef = true) (hwc : ¬ wc = 0) :
    Met1 l x code maxLocals ret ws room_1 #[(.int p1), (.int p2), (.int p3), (.int p4)] Z h0 (Q0 Z p1 p2 p3 p4 fv gv wc h0 n0) := by
  refine Met1.enter (plainFor_of_name pn_0) (fun m => ef_rm0 m p1 p2 p3 p4) fun p e s m below meth c s₁ hx hby hlk hret hml hown hnm hZ X0 e0 => ?_
  have N0 := Fr.nil n0
  have K0 : Keep h0 h0 [] := Keep.refl h0 _
  show Fin p e below s _ _ _ (s₁.setTop (mkF m 0 #[iv p1, iv p2, iv p3, iv p4, .unset, .unset, .unset, .unset, .unset, .unset, .unset, .unset, .unset, .unset, .unset, .unset, .unset, .unset, .unset, .unset, .unset] []))
  refine Fin.step (fun _ k => Yo.iconst X0.here hx (hb hby at_0) k) ?_
  obtain ⟨Ty1, hy1, ky1, Xy1, ey1, Ey1, Ay1, sty1⟩ := newP X0 hx hZ (W_ hw 0) e0 (g := (mkF m 1 #[iv p1, iv p2, iv p3, iv p4, .unset, .unset, .unset, .unset, .unset, .unset, .unset, .unset, .unset, .unset, .unset, .unset, .unset, .unset, .unset, .unset, .unset] [(.int 3)])) rfl (hb hby at_1) rfl (by decide) (cap := 3) (by decide) (by decide) (by decide) (by decide)
  obtain ⟨by1, gy1⟩ : ∃ z, z = h0.size := ⟨_, rfl⟩
  rw [← gy1] at Ay1 sty1
  have gzy1 : n0 ≤ by1 := Nat.le_trans Z0 (Nat.le_of_eq gy1.symm)
  have szy1 : h0.size ≤ by1 := Nat.le_trans K0.1 (Nat.le_of_eq gy1.symm)
  have Zy1 := Nat.le_trans Z0 Ey1.1
  have Ky1 := K0.ext Ey1
  have Vy1 : Arv Z hy1 by1 ky1 .char (3 : Int32) [(.int 0), (.int 0), (.int 0)] (.int 0) := (Arv.new Ay1 (by decide)).pad (pad_rep [] (.int 0) 3)
  refine Fin.step (sty1) ?_
  show Fin p e below s _ _ _ (Ty1.setTop (mkF m 3 #[iv p1, iv p2, iv p3, iv p4, .unset, .unset, .unset, .unset, .unset, .unset, .unset, .unset, .unset, .unset, .unset, .unset, .unset, .unset, .unset, .unset, .unset] [(.ref by1)]))
  refine Fin.step (fun _ k => Yo.dup Xy1.here hx (hb hby at_3) rfl rfl (Yo.iconst Xy1.here hx (hb hby at_4) (Yo.iloadN Xy1.here hx (hb hby at_5) rfl (Yo.sipush Xy1.here hx (hb hby at_6) (Yo.iand Xy1.here hx (hb hby at_9) rfl k))))) ?_
  show Fin p e below s _ _ _ (Ty1.setTop (mkF m 10 #[iv p1, iv p2, iv p3, iv p4, .unset, .unset, .unset, .unset, .unset, .unset, .unset, .unset, .unset, .unset, .unset, .unset, .unset, .unset, .unset, .unset, .unset] [(.int (p1 &&& (255 : Int32))), (.int 0), (.ref by1), (.ref by1)]))
  refine Fin.step (fun _ k => Yo.i2c Xy1.here hx (hb hby at_10) rfl k) ?_
  show Fin p e below s _ _ _ (Ty1.setTop (mkF m 11 #[iv p1, iv p2, iv p3, iv p4, .unset, .unset, .unset, .unset, .unset, .unset, .unset, .unset, .unset, .unset, .unset, .unset, .unset, .unset, .unset, .unset, .unset] [(.int ((p1 &&& (255 : Int32)).toUInt32.toUInt16.toUInt32.toInt32)), (.int 0), (.ref by1), (.ref by1)]))
  have voy2 := Vy1
  obtain ⟨cly2, Ary2, qay2, say2, nay2, hay2, gay2⟩ := voy2
  obtain ⟨Ty2, hy2, Xy2, ey2, Wy2, sty2⟩ := stC Xy1 hx hZ ey1 Ary2 (j := (0 : Int32)) (inb_of say2 ⟨by decide, by decide⟩) (g := (mkF m 11 #[iv p1, iv p2, iv p3, iv p4, .unset, .unset, .unset, .unset, .unset, .unset, .unset, .unset, .unset, .unset, .unset, .unset, .unset, .unset, .unset, .unset, .unset] [(.int ((p1 &&& (255 : Int32)).toUInt32.toUInt16.toUInt32.toInt32)), (.int 0), (.ref by1), (.ref by1)])) rfl rfl (hb hby at_11)
  have Vy2 : Arv Z hy2 by1 ky1 .char (3 : Int32) [(.int (nar .char ((p1 &&& (255 : Int32)).toUInt32.toUInt16.toUInt32.toInt32))), (.int 0), (.int 0)] (.int 0) := Arv.set Ary2 qay2 say2 nay2 hay2 gay2 (fits_nar_char _) Wy2 0 rfl (Nat.le_of_ble_eq_true rfl)
  have Zy2 : n0 ≤ hy2.size := Nat.le_trans Zy1 (Keep.of_wr Wy2).1
  have Ky2 : Keep h0 hy2 [] := Ky1.wr Wy2 (Or.inr szy1)
  have Ny2 := Fr.snoc Xy2 N0 gzy1
  refine Fin.step (sty2) ?_
  show Fin p e below s _ _ _ (Ty2.setTop (mkF m 12 #[iv p1, iv p2, iv p3, iv p4, .unset, .unset, .unset, .unset, .unset, .unset, .unset, .unset, .unset, .unset, .unset, .unset, .unset, .unset, .unset, .unset, .unset] [(.ref by1)]))
  refine Fin.step (fun _ k => Yo.dup Xy2.here hx (hb hby at_12) rfl rfl (Yo.iconst Xy2.here hx (hb hby at_13) (Yo.iloadN Xy2.here hx (hb hby at_14) rfl (Yo.bipush Xy2.here hx (hb hby at_15) (Yo.iushr Xy2.here hx (hb hby at_17) rfl k))))) ?_
  show Fin p e below s _ _ _ (Ty2.setTop (mkF m 18 #[iv p1, iv p2, iv p3, iv p4, .unset, .unset, .unset, .unset, .unset, .unset, .unset, .unset, .unset, .unset, .unset, .unset, .unset, .unset, .unset, .unset, .unset] [(.int (ushI p1 (8 : Int32))), (.int 1), (.ref by1), (.ref by1)]))
  refine Fin.step (fun _ k => Yo.sipush Xy2.here hx (hb hby at_18) (Yo.iand Xy2.here hx (hb hby at_21) rfl k)) ?_
  show Fin p e below s _ _ _ (Ty2.setTop (mkF m 22 #[iv p1, iv p2, iv p3, iv p4, .unset, .unset, .unset, .unset, .unset, .unset, .unset, .unset, .unset, .unset, .unset, .unset, .unset, .unset, .unset, .unset, .unset] [(.int ((ushI p1 (8 : Int32)) &&& (255 : Int32))), (.int 1), (.ref by1), (.ref by1)]))
  refine Fin.step (fun _ k => Yo.i2c Xy2.here hx (hb hby at_22) rfl k) ?_
  show Fin p e below s _ _ _ (Ty2.setTop (mkF m 23 #[iv p1, iv p2, iv p3, iv p4, .unset, .unset, .unset, .unset, .unset, .unset, .unset, .unset, .unset, .unset, .unset, .unset, .unset, .unset, .unset, .unset, .unset] [(.int (((ushI p1 (8 : Int32)) &&& (255 : Int32)).toUInt32.toUInt16.toUInt32.toInt32)), (.int 1), (.ref by1), (.ref by1)]))
  have voy3 := Vy2
  obtain ⟨cly3, Ary3, qay3, say3, nay3, hay3, gay3⟩ := voy3
  obtain ⟨Ty3, hy3, Xy3, ey3, Wy3, sty3⟩ := stC Xy2 hx hZ ey2 Ary3 (j := (1 : Int32)) (inb_of say3 ⟨by decide, by decide⟩) (g := (mkF m 23 #[iv p1, iv p2, iv p3, iv p4, .unset, .unset, .unset, .unset, .unset, .unset, .unset, .unset, .unset, .unset, .unset, .unset, .unset, .unset, .unset, .unset, .unset] [(.int (((ushI p1 (8 : Int32)) &&& (255 : Int32)).toUInt32.toUInt16.toUInt32.toInt32)), (.int 1), (.ref by1), (.ref by1)])) rfl rfl (hb hby at_23)
  have Vy3 : Arv Z hy3 by1 ky1 .char (3 : Int32) [(.int (nar .char ((p1 &&& (255 : Int32)).toUInt32.toUInt16.toUInt32.toInt32))), (.int (nar .char (((ushI p1 (8 : Int32)) &&& (255 : Int32)).toUInt32.toUInt16.toUInt32.toInt32))), (.int 0)] (.int 0) := Arv.set Ary3 qay3 say3 nay3 hay3 gay3 (fits_nar_char _) Wy3 1 rfl (Nat.le_of_ble_eq_true rfl)
  have Zy3 : n0 ≤ hy3.size := Nat.le_trans Zy2 (Keep.of_wr Wy3).1
  have Ky3 : Keep h0 hy3 [] := Ky2.wr Wy3 (Or.inr szy1)
  have Ny3 := Fr.snoc Xy3 Ny2 gzy1
  refine Fin.step (sty3) ?_
  show Fin p e below s _ _ _ (Ty3.setTop (mkF m 24 #[iv p1, iv p2, iv p3, iv p4, .unset, .unset, .unset, .unset, .unset, .unset, .unset, .unset, .unset, .unset, .unset, .unset, .unset, .unset, .unset, .unset, .unset] [(.ref by1)]))
  refine Fin.step (fun _ k => Yo.dup Xy3.here hx (hb hby at_24) rfl rfl (Yo.iconst Xy3.here hx (hb hby at_25) (Yo.iloadN Xy3.here hx (hb hby at_26) rfl (Yo.bipush Xy3.here hx (hb hby at_27) (Yo.iushr Xy3.here hx (hb hby at_29) rfl k))))) ?_
  show Fin p e below s _ _ _ (Ty3.setTop (mkF m 30 #[iv p1, iv p2, iv p3, iv p4, .unset, .unset, .unset, .unset, .unset, .unset, .unset, .unset, .unset, .unset, .unset, .unset, .unset, .unset, .unset, .unset, .unset] [(.int (ushI p1 (16 : Int32))), (.int 2), (.ref by1), (.ref by1)]))
  refine Fin.step (fun _ k => Yo.sipush Xy3.here hx (hb hby at_30) (Yo.iand Xy3.here hx (hb hby at_33) rfl k)) ?_
  show Fin p e below s _ _ _ (Ty3.setTop (mkF m 34 #[iv p1, iv p2, iv p3, iv p4, .unset, .unset, .unset, .unset, .unset, .unset, .unset, .unset, .unset, .unset, .unset, .unset, .unset, .unset, .unset, .unset, .unset] [(.int ((ushI p1 (16 : Int32)) &&& (255 : Int32))), (.int 2), (.ref by1), (.ref by1)]))
  refine Fin.step (fun _ k => Yo.i2c Xy3.here hx (hb hby at_34) rfl k) ?_
  show Fin p e below s _ _ _ (Ty3.setTop (mkF m 35 #[iv p1, iv p2, iv p3, iv p4, .unset, .unset, .unset, .unset, .unset, .unset, .unset, .unset, .unset, .unset, .unset, .unset, .unset, .unset, .unset, .unset, .unset] [(.int (((ushI p1 (16 : Int32)) &&& (255 : Int32)).toUInt32.toUInt16.toUInt32.toInt32)), (.int 2), (.ref by1), (.ref by1)]))
  have voy4 := Vy3
  obtain ⟨cly4, Ary4, qay4, say4, nay4, hay4, gay4⟩ := voy4
  obtain ⟨Ty4, hy4, Xy4, ey4, Wy4, sty4⟩ := stC Xy3 hx hZ ey3 Ary4 (j := (2 : Int32)) (inb_of say4 ⟨by decide, by decide⟩) (g := (mkF m 35 #[iv p1, iv p2, iv p3, iv p4, .unset, .unset, .unset, .unset, .unset, .unset, .unset, .unset, .unset, .unset, .unset, .unset, .unset, .unset, .unset, .unset, .unset] [(.int (((ushI p1 (16 : Int32)) &&& (255 : Int32)).toUInt32.toUInt16.toUInt32.toInt32)), (.int 2), (.ref by1), (.ref by1)])) rfl rfl (hb hby at_35)
  have Vy4 : Arv Z hy4 by1 ky1 .char (3 : Int32) [(.int (nar .char ((p1 &&& (255 : Int32)).toUInt32.toUInt16.toUInt32.toInt32))), (.int (nar .char (((ushI p1 (8 : Int32)) &&& (255 : Int32)).toUInt32.toUInt16.toUInt32.toInt32))), (.int (nar .char (((ushI p1 (16 : Int32)) &&& (255 : Int32)).toUInt32.toUInt16.toUInt32.toInt32)))] (.int 0) := Arv.set Ary4 qay4 say4 nay4 hay4 gay4 (fits_nar_char _) Wy4 2 rfl (Nat.le_of_ble_eq_true rfl)
  have Zy4 : n0 ≤ hy4.size := Nat.le_trans Zy3 (Keep.of_wr Wy4).1
  have Ky4 : Keep h0 hy4 [] := Ky3.wr Wy4 (Or.inr szy1)
  have Ny4 := Fr.snoc Xy4 Ny3 gzy1
  refine Fin.step (sty4) ?_
  show Fin p e below s _ _ _ (Ty4.setTop (mkF m 36 #[iv p1, iv p2, iv p3, iv p4, .unset, .unset, .unset, .unset, .unset, .unset, .unset, .unset, .unset, .unset, .unset, .unset, .unset, .unset, .unset, .unset, .unset] [(.ref by1)]))
  obtain ⟨XL, h_XL⟩ : ∃ z : List Value, z = [(.int (nar .char ((p1 &&& (255 : Int32)).toUInt32.toUInt16.toUInt32.toInt32))), (.int (nar .char (((ushI p1 (8 : Int32)) &&& (255 : Int32)).toUInt32.toUInt16.toUInt32.toInt32))), (.int (nar .char (((ushI p1 (16 : Int32)) &&& (255 : Int32)).toUInt32.toUInt16.toUInt32.toInt32)))] := ⟨_, rfl⟩
  have hX : own_lat XL := by rw [h_XL]; exact own_lat3 _ _ _
  have VLXL : Arv Z hy4 by1 ky1 .char (3 : Int32) XL (.int 0) := by rw [h_XL]; exact Vy4
  refine Fin.step (fun _ k => Yo.astore Xy4.here hx (hb hby at_36) rfl rfl (l' := #[iv p1, iv p2, iv p3, iv p4, rv by1, .unset, .unset, .unset, .unset, .unset, .unset, .unset, .unset, .unset, .unset, .unset, .unset, .unset, .unset, .unset, .unset]) rfl (Yo.iconst Xy4.here hx (hb hby at_38) k)) ?_
  obtain ⟨Ty5, hy5, ky5, Xy5, ey5, Ey5, Ay5, sty5⟩ := newP Xy4 hx hZ (W_ hw 0) ey4 (g := (mkF m 39 #[iv p1, iv p2, iv p3, iv p4, rv by1, .unset, .unset, .unset, .unset, .unset, .unset, .unset, .unset, .unset, .unset, .unset, .unset, .unset, .unset, .unset, .unset] [(.int 3)])) rfl (hb hby at_39) rfl (by decide) (cap := 3) (by decide) (by decide) (by decide) (by decide)
  obtain ⟨by5, gy5⟩ : ∃ z, z = hy4.size := ⟨_, rfl⟩
  rw [← gy5] at Ay5 sty5
  have gzy5 : n0 ≤ by5 := Nat.le_trans Zy4 (Nat.le_of_eq gy5.symm)
  have szy5 : h0.size ≤ by5 := Nat.le_trans Ky4.1 (Nat.le_of_eq gy5.symm)
  have Zy5 := Nat.le_trans Zy4 Ey5.1
  have Ky5 := Ky4.ext Ey5
  have Vy5 : Arv Z hy5 by5 ky5 .char (3 : Int32) [(.int 0), (.int 0), (.int 0)] (.int 0) := (Arv.new Ay5 (by decide)).pad (pad_rep [] (.int 0) 3)
  refine Fin.step (sty5) ?_
  show Fin p e below s _ _ _ (Ty5.setTop (mkF m 41 #[iv p1, iv p2, iv p3, iv p4, rv by1, .unset, .unset, .unset, .unset, .unset, .unset, .unset, .unset, .unset, .unset, .unset, .unset, .unset, .unset, .unset, .unset] [(.ref by5)]))
  refine Fin.step (fun _ k => Yo.dup Xy5.here hx (hb hby at_41) rfl rfl (Yo.iconst Xy5.here hx (hb hby at_42) (Yo.iloadN Xy5.here hx (hb hby at_43) rfl (Yo.sipush Xy5.here hx (hb hby at_44) (Yo.iand Xy5.here hx (hb hby at_47) rfl k))))) ?_
  show Fin p e below s _ _ _ (Ty5.setTop (mkF m 48 #[iv p1, iv p2, iv p3, iv p4, rv by1, .unset, .unset, .unset, .unset, .unset, .unset, .unset, .unset, .unset, .unset, .unset, .unset, .unset, .unset, .unset, .unset] [(.int (p2 &&& (255 : Int32))), (.int 0), (.ref by5), (.ref by5)]))
  refine Fin.step (fun _ k => Yo.i2c Xy5.here hx (hb hby at_48) rfl k) ?_
  show Fin p e below s _ _ _ (Ty5.setTop (mkF m 49 #[iv p1, iv p2, iv p3, iv p4, rv by1, .unset, .unset, .unset, .unset, .unset, .unset, .unset, .unset, .unset, .unset, .unset, .unset, .unset, .unset, .unset, .unset] [(.int ((p2 &&& (255 : Int32)).toUInt32.toUInt16.toUInt32.toInt32)), (.int 0), (.ref by5), (.ref by5)]))
  have voy6 := Vy5
  obtain ⟨cly6, Ary6, qay6, say6, nay6, hay6, gay6⟩ := voy6
  obtain ⟨Ty6, hy6, Xy6, ey6, Wy6, sty6⟩ := stC Xy5 hx hZ ey5 Ary6 (j := (0 : Int32)) (inb_of say6 ⟨by decide, by decide⟩) (g := (mkF m 49 #[iv p1, iv p2, iv p3, iv p4, rv by1, .unset, .unset, .unset, .unset, .unset, .unset, .unset, .unset, .unset, .unset, .unset, .unset, .unset, .unset, .unset, .unset] [(.int ((p2 &&& (255 : Int32)).toUInt32.toUInt16.toUInt32.toInt32)), (.int 0), (.ref by5), (.ref by5)])) rfl rfl (hb hby at_49)
  have Vy6 : Arv Z hy6 by5 ky5 .char (3 : Int32) [(.int (nar .char ((p2 &&& (255 : Int32)).toUInt32.toUInt16.toUInt32.toInt32))), (.int 0), (.int 0)] (.int 0) := Arv.set Ary6 qay6 say6 nay6 hay6 gay6 (fits_nar_char _) Wy6 0 rfl (Nat.le_of_ble_eq_true rfl)
  have Zy6 : n0 ≤ hy6.size := Nat.le_trans Zy5 (Keep.of_wr Wy6).1
  have Ky6 : Keep h0 hy6 [] := Ky5.wr Wy6 (Or.inr szy5)
  have Ny6 := Fr.snoc Xy6 Ny4 gzy5
  refine Fin.step (sty6) ?_
  show Fin p e below s _ _ _ (Ty6.setTop (mkF m 50 #[iv p1, iv p2, iv p3, iv p4, rv by1, .unset, .unset, .unset, .unset, .unset, .unset, .unset, .unset, .unset, .unset, .unset, .unset, .unset, .unset, .unset, .unset] [(.ref by5)]))
  refine Fin.step (fun _ k => Yo.dup Xy6.here hx (hb hby at_50) rfl rfl (Yo.iconst Xy6.here hx (hb hby at_51) (Yo.iloadN Xy6.here hx (hb hby at_52) rfl (Yo.bipush Xy6.here hx (hb hby at_53) (Yo.iushr Xy6.here hx (hb hby at_55) rfl k))))) ?_
  show Fin p e below s _ _ _ (Ty6.setTop (mkF m 56 #[iv p1, iv p2, iv p3, iv p4, rv by1, .unset, .unset, .unset, .unset, .unset, .unset, .unset, .unset, .unset, .unset, .unset, .unset, .unset, .unset, .unset, .unset] [(.int (ushI p2 (8 : Int32))), (.int 1), (.ref by5), (.ref by5)]))
  refine Fin.step (fun _ k => Yo.sipush Xy6.here hx (hb hby at_56) (Yo.iand Xy6.here hx (hb hby at_59) rfl k)) ?_
  show Fin p e below s _ _ _ (Ty6.setTop (mkF m 60 #[iv p1, iv p2, iv p3, iv p4, rv by1, .unset, .unset, .unset, .unset, .unset, .unset, .unset, .unset, .unset, .unset, .unset, .unset, .unset, .unset, .unset, .unset] [(.int ((ushI p2 (8 : Int32)) &&& (255 : Int32))), (.int 1), (.ref by5), (.ref by5)]))
  refine Fin.step (fun _ k => Yo.i2c Xy6.here hx (hb hby at_60) rfl k) ?_
  show Fin p e below s _ _ _ (Ty6.setTop (mkF m 61 #[iv p1, iv p2, iv p3, iv p4, rv by1, .unset, .unset, .unset, .unset, .unset, .unset, .unset, .unset, .unset, .unset, .unset, .unset, .unset, .unset, .unset, .unset] [(.int (((ushI p2 (8 : Int32)) &&& (255 : Int32)).toUInt32.toUInt16.toUInt32.toInt32)), (.int 1), (.ref by5), (.ref by5)]))
  have voy7 := Vy6
  obtain ⟨cly7, Ary7, qay7, say7, nay7, hay7, gay7⟩ := voy7
  obtain ⟨Ty7, hy7, Xy7, ey7, Wy7, sty7⟩ := stC Xy6 hx hZ ey6 Ary7 (j := (1 : Int32)) (inb_of say7 ⟨by decide, by decide⟩) (g := (mkF m 61 #[iv p1, iv p2, iv p3, iv p4, rv by1, .unset, .unset, .unset, .unset, .unset, .unset, .unset, .unset, .unset, .unset, .unset, .unset, .unset, .unset, .unset, .unset] [(.int (((ushI p2 (8 : Int32)) &&& (255 : Int32)).toUInt32.toUInt16.toUInt32.toInt32)), (.int 1), (.ref by5), (.ref by5)])) rfl rfl (hb hby at_61)
  have Vy7 : Arv Z hy7 by5 ky5 .char (3 : Int32) [(.int (nar .char ((p2 &&& (255 : Int32)).toUInt32.toUInt16.toUInt32.toInt32))), (.int (nar .char (((ushI p2 (8 : Int32)) &&& (255 : Int32)).toUInt32.toUInt16.toUInt32.toInt32))), (.int 0)] (.int 0) := Arv.set Ary7 qay7 say7 nay7 hay7 gay7 (fits_nar_char _) Wy7 1 rfl (Nat.le_of_ble_eq_true rfl)
  have Zy7 : n0 ≤ hy7.size := Nat.le_trans Zy6 (Keep.of_wr Wy7).1
  have Ky7 : Keep h0 hy7 [] := Ky6.wr Wy7 (Or.inr szy5)
  have Ny7 := Fr.snoc Xy7 Ny6 gzy5
  refine Fin.step (sty7) ?_
  show Fin p e below s _ _ _ (Ty7.setTop (mkF m 62 #[iv p1, iv p2, iv p3, iv p4, rv by1, .unset, .unset, .unset, .unset, .unset, .unset, .unset, .unset, .unset, .unset, .unset, .unset, .unset, .unset, .unset, .unset] [(.ref by5)]))
  refine Fin.step (fun _ k => Yo.dup Xy7.here hx (hb hby at_62) rfl rfl (Yo.iconst Xy7.here hx (hb hby at_63) (Yo.iloadN Xy7.here hx (hb hby at_64) rfl (Yo.bipush Xy7.here hx (hb hby at_65) (Yo.iushr Xy7.here hx (hb hby at_67) rfl k))))) ?_
  show Fin p e below s _ _ _ (Ty7.setTop (mkF m 68 #[iv p1, iv p2, iv p3, iv p4, rv by1, .unset, .unset, .unset, .unset, .unset, .unset, .unset, .unset, .unset, .unset, .unset, .unset, .unset, .unset, .unset, .unset] [(.int (ushI p2 (16 : Int32))), (.int 2), (.ref by5), (.ref by5)]))
  refine Fin.step (fun _ k => Yo.sipush Xy7.here hx (hb hby at_68) (Yo.iand Xy7.here hx (hb hby at_71) rfl k)) ?_
  show Fin p e below s _ _ _ (Ty7.setTop (mkF m 72 #[iv p1, iv p2, iv p3, iv p4, rv by1, .unset, .unset, .unset, .unset, .unset, .unset, .unset, .unset, .unset, .unset, .unset, .unset, .unset, .unset, .unset, .unset] [(.int ((ushI p2 (16 : Int32)) &&& (255 : Int32))), (.int 2), (.ref by5), (.ref by5)]))
  refine Fin.step (fun _ k => Yo.i2c Xy7.here hx (hb hby at_72) rfl k) ?_
  show Fin p e below s _ _ _ (Ty7.setTop (mkF m 73 #[iv p1, iv p2, iv p3, iv p4, rv by1, .unset, .unset, .unset, .unset, .unset, .unset, .unset, .unset, .unset, .unset, .unset, .unset, .unset, .unset, .unset, .unset] [(.int (((ushI p2 (16 : Int32)) &&& (255 : Int32)).toUInt32.toUInt16.toUInt32.toInt32)), (.int 2), (.ref by5), (.ref by5)]))
  have voy8 := Vy7
  obtain ⟨cly8, Ary8, qay8, say8, nay8, hay8, gay8⟩ := voy8
  obtain ⟨Ty8, hy8, Xy8, ey8, Wy8, sty8⟩ := stC Xy7 hx hZ ey7 Ary8 (j := (2 : Int32)) (inb_of say8 ⟨by decide, by decide⟩) (g := (mkF m 73 #[iv p1, iv p2, iv p3, iv p4, rv by1, .unset, .unset, .unset, .unset, .unset, .unset, .unset, .unset, .unset, .unset, .unset, .unset, .unset, .unset, .unset, .unset] [(.int (((ushI p2 (16 : Int32)) &&& (255 : Int32)).toUInt32.toUInt16.toUInt32.toInt32)), (.int 2), (.ref by5), (.ref by5)])) rfl rfl (hb hby at_73)
  have Vy8 : Arv Z hy8 by5 ky5 .char (3 : Int32) [(.int (nar .char ((p2 &&& (255 : Int32)).toUInt32.toUInt16.toUInt32.toInt32))), (.int (nar .char (((ushI p2 (8 : Int32)) &&& (255 : Int32)).toUInt32.toUInt16.toUInt32.toInt32))), (.int (nar .char (((ushI p2 (16 : Int32)) &&& (255 : Int32)).toUInt32.toUInt16.toUInt32.toInt32)))] (.int 0) := Arv.set Ary8 qay8 say8 nay8 hay8 gay8 (fits_nar_char _) Wy8 2 rfl (Nat.le_of_ble_eq_true rfl)
  have Zy8 : n0 ≤ hy8.size := Nat.le_trans Zy7 (Keep.of_wr Wy8).1
  have Ky8 : Keep h0 hy8 [] := Ky7.wr Wy8 (Or.inr szy5)
  have Ny8 := Fr.snoc Xy8 Ny7 gzy5
  refine Fin.step (sty8) ?_
  show Fin p e below s _ _ _ (Ty8.setTop (mkF m 74 #[iv p1, iv p2, iv p3, iv p4, rv by1, .unset, .unset, .unset, .unset, .unset, .unset, .unset, .unset, .unset, .unset, .unset, .unset, .unset, .unset, .unset, .unset] [(.ref by5)]))
  obtain ⟨YL, h_YL⟩ : ∃ z : List Value, z = [(.int (nar .char ((p2 &&& (255 : Int32)).toUInt32.toUInt16.toUInt32.toInt32))), (.int (nar .char (((ushI p2 (8 : Int32)) &&& (255 : Int32)).toUInt32.toUInt16.toUInt32.toInt32))), (.int (nar .char (((ushI p2 (16 : Int32)) &&& (255 : Int32)).toUInt32.toUInt16.toUInt32.toInt32)))] := ⟨_, rfl⟩
  have hY : own_lat YL := by rw [h_YL]; exact own_lat3 _ _ _
  have VLYL : Arv Z hy8 by5 ky5 .char (3 : Int32) YL (.int 0) := by rw [h_YL]; exact Vy8
  refine Fin.step (fun _ k => Yo.astore Xy8.here hx (hb hby at_74) rfl rfl (l' := #[iv p1, iv p2, iv p3, iv p4, rv by1, rv by5, .unset, .unset, .unset, .unset, .unset, .unset, .unset, .unset, .unset, .unset, .unset, .unset, .unset, .unset, .unset]) rfl (Yo.iloadN Xy8.here hx (hb hby at_76) rfl (Yo.iconst Xy8.here hx (hb hby at_77) (Yo.iand Xy8.here hx (hb hby at_78) rfl k)))) ?_
  show Fin p e below s _ _ _ (Ty8.setTop (mkF m 79 #[iv p1, iv p2, iv p3, iv p4, rv by1, rv by5, .unset, .unset, .unset, .unset, .unset, .unset, .unset, .unset, .unset, .unset, .unset, .unset, .unset, .unset, .unset] [(.int (p3 &&& (3 : Int32)))]))
  refine Fin.step (fun _ k => Yo.istore Xy8.here hx (hb hby at_79) rfl (l' := #[iv p1, iv p2, iv p3, iv p4, rv by1, rv by5, .val (.int (p3 &&& (3 : Int32))), .unset, .unset, .unset, .unset, .unset, .unset, .unset, .unset, .unset, .unset, .unset, .unset, .unset, .unset]) rfl k) ?_
  obtain ⟨AA, h_AA⟩ : ∃ z : Int32, z = (p3 &&& (3 : Int32)) := ⟨_, rfl⟩
  rw [← h_AA]
  show Fin p e below s _ _ _ (Ty8.setTop (mkF m 81 #[iv p1, iv p2, iv p3, iv p4, rv by1, rv by5, iv AA, .unset, .unset, .unset, .unset, .unset, .unset, .unset, .unset, .unset, .unset, .unset, .unset, .unset, .unset] []))
  have hA : AA = 0 ∨ AA = 1 ∨ AA = 2 ∨ AA = 3 := by rw [h_AA]; exact own_m3 _
  refine Fin.step (fun _ k => Yo.iloadN Xy8.here hx (hb hby at_81) rfl (Yo.iconst Xy8.here hx (hb hby at_82) (Yo.iushr Xy8.here hx (hb hby at_83) rfl k))) ?_
  show Fin p e below s _ _ _ (Ty8.setTop (mkF m 84 #[iv p1, iv p2, iv p3, iv p4, rv by1, rv by5, iv AA, .unset, .unset, .unset, .unset, .unset, .unset, .unset, .unset, .unset, .unset, .unset, .unset, .unset, .unset] [(.int (ushI p3 (2 : Int32)))]))
  refine Fin.step (fun _ k => Yo.iconst Xy8.here hx (hb hby at_84) (Yo.iand Xy8.here hx (hb hby at_85) rfl k)) ?_
  show Fin p e below s _ _ _ (Ty8.setTop (mkF m 86 #[iv p1, iv p2, iv p3, iv p4, rv by1, rv by5, iv AA, .unset, .unset, .unset, .unset, .unset, .unset, .unset, .unset, .unset, .unset, .unset, .unset, .unset, .unset] [(.int ((ushI p3 (2 : Int32)) &&& (3 : Int32)))]))
  refine Fin.step (fun _ k => Yo.istore Xy8.here hx (hb hby at_86) rfl (l' := #[iv p1, iv p2, iv p3, iv p4, rv by1, rv by5, iv AA, .val (.int ((ushI p3 (2 : Int32)) &&& (3 : Int32))), .unset, .unset, .unset, .unset, .unset, .unset, .unset, .unset, .unset, .unset, .unset, .unset, .unset]) rfl k) ?_
  obtain ⟨BB, h_BB⟩ : ∃ z : Int32, z = ((ushI p3 (2 : Int32)) &&& (3 : Int32)) := ⟨_, rfl⟩
  rw [← h_BB]
  show Fin p e below s _ _ _ (Ty8.setTop (mkF m 88 #[iv p1, iv p2, iv p3, iv p4, rv by1, rv by5, iv AA, iv BB, .unset, .unset, .unset, .unset, .unset, .unset, .unset, .unset, .unset, .unset, .unset, .unset, .unset] []))
  have hB : BB = 0 ∨ BB = 1 ∨ BB = 2 ∨ BB = 3 := by rw [h_BB]; exact own_m3 _
  refine Fin.step (fun _ k => Yo.iloadN Xy8.here hx (hb hby at_88) rfl (Yo.iconst Xy8.here hx (hb hby at_89) (Yo.iushr Xy8.here hx (hb hby at_90) rfl k))) ?_
  show Fin p e below s _ _ _ (Ty8.setTop (mkF m 91 #[iv p1, iv p2, iv p3, iv p4, rv by1, rv by5, iv AA, iv BB, .unset, .unset, .unset, .unset, .unset, .unset, .unset, .unset, .unset, .unset, .unset, .unset, .unset] [(.int (ushI p3 (4 : Int32)))]))
  refine Fin.step (fun _ k => Yo.iconst Xy8.here hx (hb hby at_91) (Yo.iand Xy8.here hx (hb hby at_92) rfl k)) ?_
  show Fin p e below s _ _ _ (Ty8.setTop (mkF m 93 #[iv p1, iv p2, iv p3, iv p4, rv by1, rv by5, iv AA, iv BB, .unset, .unset, .unset, .unset, .unset, .unset, .unset, .unset, .unset, .unset, .unset, .unset, .unset] [(.int ((ushI p3 (4 : Int32)) &&& (1 : Int32)))]))
  by_cases hcy9 : ((ushI p3 (4 : Int32)) &&& (1 : Int32)) = (0 : Int32)
  · refine Fin.step (fun _ k => Yo.ifYes Xy8.here hx (pc0 := 93) (pc' := 100) rfl (hb hby at_93) rfl ((if0 _ _).trans (teq (hcy9 : (((ushI p3 (4 : Int32)) &&& (1 : Int32)) = (0 : Int32)))).1) (by decide) (by decide) (Yo.iconst Xy8.here hx (hb hby at_100) (Yo.istore Xy8.here hx (hb hby at_101) rfl (l' := #[iv p1, iv p2, iv p3, iv p4, rv by1, rv by5, iv AA, iv BB, iv 0, .unset, .unset, .unset, .unset, .unset, .unset, .unset, .unset, .unset, .unset, .unset, .unset]) rfl (Yo.iloadN Xy8.here hx (hb hby at_103) rfl (Yo.iconst Xy8.here hx (hb hby at_104) (Yo.iushr Xy8.here hx (hb hby at_105) rfl k)))))) ?_
    show Fin p e below s _ _ _ (Ty8.setTop (mkF m 106 #[iv p1, iv p2, iv p3, iv p4, rv by1, rv by5, iv AA, iv BB, iv 0, .unset, .unset, .unset, .unset, .unset, .unset, .unset, .unset, .unset, .unset, .unset, .unset] [(.int (ushI p3 (5 : Int32)))]))
    refine Fin.step (fun _ k => Yo.iconst Xy8.here hx (hb hby at_106) (Yo.iand Xy8.here hx (hb hby at_107) rfl k)) ?_
    show Fin p e below s _ _ _ (Ty8.setTop (mkF m 108 #[iv p1, iv p2, iv p3, iv p4, rv by1, rv by5, iv AA, iv BB, iv 0, .unset, .unset, .unset, .unset, .unset, .unset, .unset, .unset, .unset, .unset, .unset, .unset] [(.int ((ushI p3 (5 : Int32)) &&& (1 : Int32)))]))
    by_cases hcy10 : ((ushI p3 (5 : Int32)) &&& (1 : Int32)) = (0 : Int32)
    · refine Fin.step (fun _ k => Yo.ifYes Xy8.here hx (pc0 := 108) (pc' := 115) rfl (hb hby at_108) rfl ((if0 _ _).trans (teq (hcy10 : (((ushI p3 (5 : Int32)) &&& (1 : Int32)) = (0 : Int32)))).1) (by decide) (by decide) (Yo.iconst Xy8.here hx (hb hby at_115) (Yo.istore Xy8.here hx (hb hby at_116) rfl (l' := #[iv p1, iv p2, iv p3, iv p4, rv by1, rv by5, iv AA, iv BB, iv 0, iv 0, .unset, .unset, .unset, .unset, .unset, .unset, .unset, .unset, .unset, .unset, .unset]) rfl (Yo.iloadN Xy8.here hx (hb hby at_118) rfl (Yo.bipush Xy8.here hx (hb hby at_119) (Yo.iand Xy8.here hx (hb hby at_121) rfl k)))))) ?_
      show Fin p e below s _ _ _ (Ty8.setTop (mkF m 122 #[iv p1, iv p2, iv p3, iv p4, rv by1, rv by5, iv AA, iv BB, iv 0, iv 0, .unset, .unset, .unset, .unset, .unset, .unset, .unset, .unset, .unset, .unset, .unset] [(.int (p4 &&& (7 : Int32)))]))
      refine Fin.step (fun _ k => Yo.istore Xy8.here hx (hb hby at_122) rfl (l' := #[iv p1, iv p2, iv p3, iv p4, rv by1, rv by5, iv AA, iv BB, iv 0, iv 0, .val (.int (p4 &&& (7 : Int32))), .unset, .unset, .unset, .unset, .unset, .unset, .unset, .unset, .unset, .unset]) rfl k) ?_
      obtain ⟨LO, h_LO⟩ : ∃ z : Int32, z = (p4 &&& (7 : Int32)) := ⟨_, rfl⟩
      rw [← h_LO]
      show Fin p e below s _ _ _ (Ty8.setTop (mkF m 124 #[iv p1, iv p2, iv p3, iv p4, rv by1, rv by5, iv AA, iv BB, iv 0, iv 0, iv LO, .unset, .unset, .unset, .unset, .unset, .unset, .unset, .unset, .unset, .unset] []))
      have hLO : 0 ≤ LO.toInt ∧ LO.toInt ≤ 7 := by rw [h_LO]; exact own_m7 _
      refine Fin.step (fun _ k => Yo.iloadN Xy8.here hx (hb hby at_124) rfl (Yo.iconst Xy8.here hx (hb hby at_125) (Yo.iushr Xy8.here hx (hb hby at_126) rfl k))) ?_
      show Fin p e below s _ _ _ (Ty8.setTop (mkF m 127 #[iv p1, iv p2, iv p3, iv p4, rv by1, rv by5, iv AA, iv BB, iv 0, iv 0, iv LO, .unset, .unset, .unset, .unset, .unset, .unset, .unset, .unset, .unset, .unset] [(.int (ushI p4 (3 : Int32)))]))
      refine Fin.step (fun _ k => Yo.bipush Xy8.here hx (hb hby at_127) (Yo.iand Xy8.here hx (hb hby at_129) rfl k)) ?_
      show Fin p e below s _ _ _ (Ty8.setTop (mkF m 130 #[iv p1, iv p2, iv p3, iv p4, rv by1, rv by5, iv AA, iv BB, iv 0, iv 0, iv LO, .unset, .unset, .unset, .unset, .unset, .unset, .unset, .unset, .unset, .unset] [(.int ((ushI p4 (3 : Int32)) &&& (7 : Int32)))]))
      refine Fin.step (fun _ k => Yo.istore Xy8.here hx (hb hby at_130) rfl (l' := #[iv p1, iv p2, iv p3, iv p4, rv by1, rv by5, iv AA, iv BB, iv 0, iv 0, iv LO, .val (.int ((ushI p4 (3 : Int32)) &&& (7 : Int32))), .unset, .unset, .unset, .unset, .unset, .unset, .unset, .unset, .unset]) rfl k) ?_
      obtain ⟨LI, h_LI⟩ : ∃ z : Int32, z = ((ushI p4 (3 : Int32)) &&& (7 : Int32)) := ⟨_, rfl⟩
      rw [← h_LI]
      show Fin p e below s _ _ _ (Ty8.setTop (mkF m 132 #[iv p1, iv p2, iv p3, iv p4, rv by1, rv by5, iv AA, iv BB, iv 0, iv 0, iv LO, iv LI, .unset, .unset, .unset, .unset, .unset, .unset, .unset, .unset, .unset] []))
      have hLI : 0 ≤ LI.toInt ∧ LI.toInt ≤ 7 := by rw [h_LI]; exact own_m7 _
      obtain ⟨Ty11, hy11, Xy11, ey11, Ey11, Ay11, Dy11, -, sty11⟩ := newO Xy8 hx hZ hown (W_ hw 1) (W_ hw 2) (W_ hw 3) ey8 (g := (mkF m 132 #[iv p1, iv p2, iv p3, iv p4, rv by1, rv by5, iv AA, iv BB, iv 0, iv 0, iv LO, iv LI, .unset, .unset, .unset, .unset, .unset, .unset, .unset, .unset, .unset] [])) rfl (hb hby at_132) (by decide) (by decide)
      obtain ⟨by11, gy11⟩ : ∃ z, z = hy8.size := ⟨_, rfl⟩
      rw [← gy11] at Ay11 Dy11 sty11
      have gzy11 : n0 ≤ by11 := Nat.le_trans Zy8 (Nat.le_of_eq gy11.symm)
      have szy11 : h0.size ≤ by11 := Nat.le_trans Ky8.1 (Nat.le_of_eq gy11.symm)
      have Zy11 := Nat.le_trans Zy8 Ey11.1
      have Ky11 := Ky8.ext Ey11
      have F_open_by11 : Fld Z hy11 by11 q1 "open" q9 .null := Dy11 (Or.inl (W_ hw 13)) (ty := (.array (.object "com/example/uzor/uzor/StringValues$Value"))) (by decide)
      have F_depth_by11 : Fld Z hy11 by11 q1 "depth" "I" (.int 0) := Dy11 (Or.inl (W_ hw 20)) (ty := .int) (by decide)
      have F_count_by11 : Fld Z hy11 by11 q1 "count" "I" (.int 0) := Dy11 (Or.inl (W_ hw 27)) (ty := .int) (by decide)
      refine Fin.step (sty11) ?_
      show Fin p e below s _ _ _ (Ty11.setTop (mkF m 135 #[iv p1, iv p2, iv p3, iv p4, rv by1, rv by5, iv AA, iv BB, iv 0, iv 0, iv LO, iv LI, .unset, .unset, .unset, .unset, .unset, .unset, .unset, .unset, .unset] [(.ref by11)]))
      refine Fin.step (fun _ k => Yo.dup Xy11.here hx (hb hby at_135) rfl rfl k) ?_
      obtain ⟨_, Ty12, Lcy12, Xy12, hQy12, sty12⟩ := pack (Xy11.specialBack hx (y := n1) rfl hown (mvT hZ (W_ hw 4)) (mvT hZ (W_ hw 5)) (mvT hZ (W_ hw 6)) (by decide) (backOf (W := 1) (rmsvi l Z a0 hw [] by11 hy11 n0 Zy11 Ay11 F_open_by11 F_depth_by11 F_count_by11 gzy11) hZ (W_ hw 6) (W_ hw 3) (by decide) (by decide)) (g := (mkF m 136 #[iv p1, iv p2, iv p3, iv p4, rv by1, rv by5, iv AA, iv BB, iv 0, iv 0, iv LO, iv LI, .unset, .unset, .unset, .unset, .unset, .unset, .unset, .unset, .unset] [(.ref by11), (.ref by11)])) rfl (by rw [hml]; rfl) (Steps.refl _) (a := by11) (argsL := []) (rest := [(.ref by11)]) (lenOf pd_7 rfl) rfl (lb rfl) (hb hby at_136) (fun _ _ => ⟨rfl, ey11, (by decide : 3 + 1 ≤ _), (by decide : 9 + 4 ≤ _)⟩))
      obtain ⟨ao_y12, ko_y12, rfl, bfy12_0, Nqy12, Kcy12, fy12_0, fy12_1, fy12_2, fy12_3, ppy12_0, ney12_0⟩ := hQy12
      have Ny12 := Fr.app Ny8 Nqy12
      have gzy12_0 : n0 ≤ ao_y12 := Nat.le_trans Zy11 bfy12_0
      have szy12_0 : h0.size ≤ ao_y12 := Nat.le_trans Ky11.1 bfy12_0
      have Zy12 := Nat.le_trans Zy11 Kcy12.1
      have Ky12 := Ky11.trans Kcy12 (allS (Or.inr szy11) all0)
      refine Fin.step (sty12) ?_
      show Fin p e below s _ _ _ (Ty12.setTop (mkF m 139 #[iv p1, iv p2, iv p3, iv p4, rv by1, rv by5, iv AA, iv BB, iv 0, iv 0, iv LO, iv LI, .unset, .unset, .unset, .unset, .unset, .unset, .unset, .unset, .unset] [(.ref by11)]))
      refine Fin.step (fun _ k => Yo.astore Xy12.here hx (hb hby at_139) rfl rfl (l' := #[iv p1, iv p2, iv p3, iv p4, rv by1, rv by5, iv AA, iv BB, iv 0, iv 0, iv LO, iv LI, rv by11, .unset, .unset, .unset, .unset, .unset, .unset, .unset, .unset]) rfl (Yo.aload Xy12.here hx (hb hby at_141) rfl rfl k)) ?_
      obtain ⟨cqy13, kqy13, qy13a, qy13b, qy13c⟩ := isOf hZ rfl (Ay11.keep Kcy12)
      obtain ⟨_, Ty13, Lcy13, Xy13, hQy13, sty13⟩ := pack (Xy12.virtualBack hx (y := n3) (z := n3) hown (mvT hZ (W_ hw 14)) (mvT hZ (W_ hw 15)) (notFace_of_selects (args := #[]) (mvT hZ (W_ hw 17))) (mvT hZ (W_ hw 17)) (mvT hZ (W_ hw 16)) (by decide) (backOf (W := 0) (rmse0 l Z a0 hw [] by11 ao_y12 (0 : Int32) Ty12.heap n0 Zy12 (Ay11.keep Kcy12) fy12_0 fy12_1 fy12_2 gzy11) hZ (W_ hw 18) (W_ hw 3) (by decide) (by decide)) qy13a qy13c (g := (mkF m 143 #[iv p1, iv p2, iv p3, iv p4, rv by1, rv by5, iv AA, iv BB, iv 0, iv 0, iv LO, iv LI, rv by11, .unset, .unset, .unset, .unset, .unset, .unset, .unset, .unset] [(.ref by11)])) rfl (by rw [hml]; rfl) (Steps.refl _) (argsL := []) (rest := []) (lenOf pd_1 rfl) rfl (lb rfl) (hb hby at_143) (fun _ _ => ⟨rfl, rfl, (by decide : 4 + 0 ≤ _), (by decide : 13 + 0 ≤ _)⟩))
      obtain ⟨rfl, Nqy13, Kcy13, fy13_0, fy13_1, fy13_2⟩ := hQy13
      have Ny13 := Fr.app Ny12 Nqy13
      have Zy13 := Nat.le_trans Zy12 Kcy13.1
      have Ky13 := Ky12.trans Kcy13 (allS (Or.inr szy11) all0)
      refine Fin.step (sty13) ?_
      show Fin p e below s _ _ _ (Ty13.setTop (mkF m 146 #[iv p1, iv p2, iv p3, iv p4, rv by1, rv by5, iv AA, iv BB, iv 0, iv 0, iv LO, iv LI, rv by11, .unset, .unset, .unset, .unset, .unset, .unset, .unset, .unset] [(.int 0)]))
      refine Fin.step (fun _ k => Yo.istore Xy13.here hx (hb hby at_146) rfl (l' := #[iv p1, iv p2, iv p3, iv p4, rv by1, rv by5, iv AA, iv BB, iv 0, iv 0, iv LO, iv LI, rv by11, iv 0, .unset, .unset, .unset, .unset, .unset, .unset, .unset]) rfl (Yo.iload Xy13.here hx (hb hby at_148) rfl (Yo.ifYes Xy13.here hx (pc0 := 150) (pc' := 163) rfl (hb hby at_150) rfl ((if0 _ _).trans (teq ((by decide) : ((0 : Int32) = (0 : Int32)))).1) (by decide) (by decide) (Yo.aconstNull Xy13.here hx (hb hby at_163) (Yo.astore Xy13.here hx (hb hby at_164) rfl rfl (l' := #[iv p1, iv p2, iv p3, iv p4, rv by1, rv by5, iv AA, iv BB, iv 0, iv 0, iv LO, iv LI, rv by11, iv 0, .val .null, .unset, .unset, .unset, .unset, .unset, .unset]) rfl (Yo.aload Xy13.here hx (hb hby at_166) rfl rfl (Yo.aload Xy13.here hx (hb hby at_168) rfl rfl (Yo.iconst Xy13.here hx (hb hby at_170) k)))))))) ?_
      refine Fin.step (fun _ k => Yo.iload Xy13.here hx (hb hby at_171) rfl k) ?_
      have ry15 := ((Ay11.keep Kcy12).keep Kcy13)
      obtain ⟨cqy14, kqy14, qy14a, qy14b, qy14c⟩ := isOf hZ rfl ry15
      obtain ⟨_, Ty14, Lcy14, Xy14, hQy14, sty14⟩ := pack (Xy13.virtualBack hx (y := n4) (z := n4) hown (mvT hZ (W_ hw 21)) (mvT hZ (W_ hw 22)) (notFace_of_selects (args := #[]) (mvT hZ (W_ hw 24))) (mvT hZ (W_ hw 24)) (mvT hZ (W_ hw 23)) (by decide) (backOf (W := 0) (rmt l Z a0 hw [] by11 by1 AA Ty13.heap n0 Zy13 fy13_2) hZ (W_ hw 25) (W_ hw 3) (by decide) (by decide)) qy14a qy14c (g := (mkF m 173 #[iv p1, iv p2, iv p3, iv p4, rv by1, rv by5, iv AA, iv BB, iv 0, iv 0, iv LO, iv LI, rv by11, iv 0, .val .null, .unset, .unset, .unset, .unset, .unset, .unset] [(.int AA), (.int 0), (.ref by1), (.ref by11)])) rfl (by rw [hml]; rfl) (Steps.refl _) (argsL := [(.ref by1), (.int 0), (.int AA)]) (rest := []) (lenOf pd_5 rfl) rfl (lb rfl) (hb hby at_173) (fun _ _ => ⟨rfl, rfl, (by decide : 4 + 0 ≤ _), (by decide : 13 + 0 ≤ _)⟩))
      obtain ⟨rfl, Nqy14, eqy14⟩ := hQy14
      have Ny14 := Fr.app Ny13 Nqy14
      refine Fin.step (sty14) ?_
      show Fin p e below s _ _ _ (Ty14.setTop (mkF m 176 #[iv p1, iv p2, iv p3, iv p4, rv by1, rv by5, iv AA, iv BB, iv 0, iv 0, iv LO, iv LI, rv by11, iv 0, .val .null, .unset, .unset, .unset, .unset, .unset, .unset] []))
      refine Fin.step (fun _ k => Yo.aload Xy14.here hx (hb hby at_176) rfl rfl k) ?_
      obtain ⟨cqy16, kqy16, qy16a, qy16b, qy16c⟩ := isOf hZ eqy14 ry15
      obtain ⟨_, Ty16, Lcy16, Xy16, hQy16, sty16⟩ := pack (Xy14.virtualBack hx (y := n3) (z := n3) hown (mvT hZ (W_ hw 14)) (mvT hZ (W_ hw 15)) (notFace_of_selects (args := #[]) (mvT hZ (W_ hw 17))) (mvT hZ (W_ hw 17)) (mvT hZ (W_ hw 16)) (by decide) (backOf (W := 0) (rmse1 l Z a0 hw [] by11 ao_y12 (0 : Int32) Ty13.heap n0 Zy13 ry15 fy13_0 fy13_1 fy13_2 gzy11) hZ (W_ hw 18) (W_ hw 3) (by decide) (by decide)) qy16a qy16c (g := (mkF m 178 #[iv p1, iv p2, iv p3, iv p4, rv by1, rv by5, iv AA, iv BB, iv 0, iv 0, iv LO, iv LI, rv by11, iv 0, .val .null, .unset, .unset, .unset, .unset, .unset, .unset] [(.ref by11)])) rfl (by rw [hml]; rfl) (Steps.refl _) (argsL := []) (rest := []) (lenOf pd_1 rfl) rfl (lb rfl) (hb hby at_178) (fun _ _ => ⟨rfl, eqy14, (by decide : 4 + 0 ≤ _), (by decide : 13 + 0 ≤ _)⟩))
      obtain ⟨rfl, Nqy16, Kcy16, fy16_0, fy16_1, fy16_2⟩ := hQy16
      have Ny16 := Fr.app Ny14 Nqy16
      have Zy16 := Nat.le_trans Zy13 Kcy16.1
      have Ky16 := Ky13.trans Kcy16 (allS (Or.inr szy11) all0)
      refine Fin.step (sty16) ?_
      show Fin p e below s _ _ _ (Ty16.setTop (mkF m 181 #[iv p1, iv p2, iv p3, iv p4, rv by1, rv by5, iv AA, iv BB, iv 0, iv 0, iv LO, iv LI, rv by11, iv 0, .val .null, .unset, .unset, .unset, .unset, .unset, .unset] [(.int 1)]))
      refine Fin.step (fun _ k => Yo.istore Xy16.here hx (hb hby at_181) rfl (l' := #[iv p1, iv p2, iv p3, iv p4, rv by1, rv by5, iv AA, iv BB, iv 0, iv 0, iv LO, iv LI, rv by11, iv 0, .val .null, iv 1, .unset, .unset, .unset, .unset, .unset]) rfl (Yo.iload Xy16.here hx (hb hby at_183) rfl (Yo.ifYes Xy16.here hx (pc0 := 185) (pc' := 198) rfl (hb hby at_185) rfl ((if0 _ _).trans (teq ((by decide) : ((0 : Int32) = (0 : Int32)))).1) (by decide) (by decide) (Yo.aconstNull Xy16.here hx (hb hby at_198) (Yo.astore Xy16.here hx (hb hby at_199) rfl rfl (l' := #[iv p1, iv p2, iv p3, iv p4, rv by1, rv by5, iv AA, iv BB, iv 0, iv 0, iv LO, iv LI, rv by11, iv 0, .val .null, iv 1, .val .null, .unset, .unset, .unset, .unset]) rfl (Yo.aload Xy16.here hx (hb hby at_201) rfl rfl (Yo.aload Xy16.here hx (hb hby at_203) rfl rfl (Yo.iconst Xy16.here hx (hb hby at_205) k)))))))) ?_
      refine Fin.step (fun _ k => Yo.iload Xy16.here hx (hb hby at_206) rfl k) ?_
      obtain ⟨cqy17, kqy17, qy17a, qy17b, qy17c⟩ := isOf hZ rfl (ry15.keep Kcy16)
      obtain ⟨_, Ty17, Lcy17, Xy17, hQy17, sty17⟩ := pack (Xy16.virtualBack hx (y := n4) (z := n4) hown (mvT hZ (W_ hw 21)) (mvT hZ (W_ hw 22)) (notFace_of_selects (args := #[]) (mvT hZ (W_ hw 24))) (mvT hZ (W_ hw 24)) (mvT hZ (W_ hw 23)) (by decide) (backOf (W := 0) (rmt l Z a0 hw [] by11 by5 BB Ty16.heap n0 Zy16 fy16_2) hZ (W_ hw 25) (W_ hw 3) (by decide) (by decide)) qy17a qy17c (g := (mkF m 208 #[iv p1, iv p2, iv p3, iv p4, rv by1, rv by5, iv AA, iv BB, iv 0, iv 0, iv LO, iv LI, rv by11, iv 0, .val .null, iv 1, .val .null, .unset, .unset, .unset, .unset] [(.int BB), (.int 0), (.ref by5), (.ref by11)])) rfl (by rw [hml]; rfl) (Steps.refl _) (argsL := [(.ref by5), (.int 0), (.int BB)]) (rest := []) (lenOf pd_5 rfl) rfl (lb rfl) (hb hby at_208) (fun _ _ => ⟨rfl, rfl, (by decide : 4 + 0 ≤ _), (by decide : 13 + 0 ≤ _)⟩))
      obtain ⟨rfl, Nqy17, eqy17⟩ := hQy17
      have Ny17 := Fr.app Ny16 Nqy17
      refine Fin.step (sty17) ?_
      show Fin p e below s _ _ _ (Ty17.setTop (mkF m 211 #[iv p1, iv p2, iv p3, iv p4, rv by1, rv by5, iv AA, iv BB, iv 0, iv 0, iv LO, iv LI, rv by11, iv 0, .val .null, iv 1, .val .null, .unset, .unset, .unset, .unset] []))
      refine Fin.step (fun _ k => Yo.aload Xy17.here hx (hb hby at_211) rfl rfl k) ?_
      obtain ⟨cqy18, kqy18, qy18a, qy18b, qy18c⟩ := isOf hZ eqy17 (ry15.keep Kcy16)
      obtain ⟨_, Ty18, Lcy18, Xy18, hQy18, sty18⟩ := pack (Xy17.virtualBack hx (y := n5) (z := n5) hown (mvT hZ (W_ hw 28)) (mvT hZ (W_ hw 29)) (notFace_of_selects (args := #[]) (mvT hZ (W_ hw 31))) (mvT hZ (W_ hw 31)) (mvT hZ (W_ hw 30)) (by decide) (backOf (W := 0) (rmen2 l Z a0 hw [] by11 ao_y12 Ty16.heap n0 Zy16 (ry15.keep Kcy16) fy16_0 fy16_1 fy16_2 gzy11) hZ (W_ hw 32) (W_ hw 3) (by decide) (by decide)) qy18a qy18c (g := (mkF m 213 #[iv p1, iv p2, iv p3, iv p4, rv by1, rv by5, iv AA, iv BB, iv 0, iv 0, iv LO, iv LI, rv by11, iv 0, .val .null, iv 1, .val .null, .unset, .unset, .unset, .unset] [(.ref by11)])) rfl (by rw [hml]; rfl) (Steps.refl _) (argsL := []) (rest := []) (lenOf pd_1 rfl) rfl (lb rfl) (hb hby at_213) (fun _ _ => ⟨rfl, eqy17, (by decide : 4 + 0 ≤ _), (by decide : 13 + 0 ≤ _)⟩))
      obtain ⟨rfl, Nqy18, Kcy18, fy18_0, fy18_1, fy18_2⟩ := hQy18
      have Ny18 := Fr.app Ny17 Nqy18
      have Zy18 := Nat.le_trans Zy16 Kcy18.1
      have Ky18 := Ky16.trans Kcy18 (allS (Or.inr szy11) all0)
      refine Fin.step (sty18) ?_
      show Fin p e below s _ _ _ (Ty18.setTop (mkF m 216 #[iv p1, iv p2, iv p3, iv p4, rv by1, rv by5, iv AA, iv BB, iv 0, iv 0, iv LO, iv LI, rv by11, iv 0, .val .null, iv 1, .val .null, .unset, .unset, .unset, .unset] [(.int 1)]))
      refine Fin.step (fun _ k => Yo.istore Xy18.here hx (hb hby at_216) rfl (l' := #[iv p1, iv p2, iv p3, iv p4, rv by1, rv by5, iv AA, iv BB, iv 0, iv 0, iv LO, iv LI, rv by11, iv 0, .val .null, iv 1, .val .null, iv 1, .unset, .unset, .unset]) rfl (Yo.iload Xy18.here hx (hb hby at_218) rfl (Yo.ifNo Xy18.here hx (hb hby at_220) rfl ((if0 _ _).trans (teq ((by decide) : ((0 : Int32) = (0 : Int32)))).2) (Yo.iload Xy18.here hx (hb hby at_223) rfl (Yo.iconst Xy18.here hx (hb hby at_225) (Yo.icmpNo Xy18.here hx (hb hby at_226) rfl (teq ((by decide) : ((1 : Int32) = (1 : Int32)))).2 (Yo.iload Xy18.here hx (hb hby at_229) rfl (Yo.iconst Xy18.here hx (hb hby at_231) k)))))))) ?_
      refine Fin.step (fun _ k => Yo.icmpNo Xy18.here hx (hb hby at_232) rfl (teq ((by decide) : ((1 : Int32) = (1 : Int32)))).2 (Yo.iconst Xy18.here hx (hb hby at_235) (Yo.goto Xy18.here hx (pc0 := 236) (pc' := 240) rfl (hb hby at_236) (by decide) (by decide) (Yo.istore Xy18.here hx (hb hby at_240) rfl (l' := #[iv p1, iv p2, iv p3, iv p4, rv by1, rv by5, iv AA, iv BB, iv 0, iv 0, iv LO, iv LI, rv by11, iv 0, .val .null, iv 1, .val .null, iv 1, iv 1, .unset, .unset]) rfl (Yo.aload Xy18.here hx (hb hby at_242) rfl rfl (Yo.ifnullYes Xy18.here hx (pc0 := 244) (pc' := 267) rfl (hb hby at_244) rfl (by decide) (by decide) (Yo.aload Xy18.here hx (hb hby at_267) rfl rfl (Yo.ifnullYes Xy18.here hx (pc0 := 269) (pc' := 333) rfl (hb hby at_269) rfl (by decide) (by decide) k)))))))) ?_
      refine Fin.step (fun _ k => Yo.aload Xy18.here hx (hb hby at_333) rfl rfl k) ?_
      have ry19 := ((ry15.keep Kcy16).keep Kcy18)
      obtain ⟨cqy20, kqy20, qy20a, qy20b, qy20c⟩ := isOf hZ rfl ry19
      obtain ⟨_, Ty20, Lcy20, Xy20, hQy20, sty20⟩ := pack (Xy18.virtualBack hx (y := n5) (z := n5) hown (mvT hZ (W_ hw 28)) (mvT hZ (W_ hw 29)) (notFace_of_selects (args := #[]) (mvT hZ (W_ hw 31))) (mvT hZ (W_ hw 31)) (mvT hZ (W_ hw 30)) (by decide) (backOf (W := 0) (rmen1 l Z a0 hw [] by11 ao_y12 Ty18.heap n0 Zy18 ry19 fy18_0 fy18_1 fy18_2 gzy11) hZ (W_ hw 32) (W_ hw 3) (by decide) (by decide)) qy20a qy20c (g := (mkF m 335 #[iv p1, iv p2, iv p3, iv p4, rv by1, rv by5, iv AA, iv BB, iv 0, iv 0, iv LO, iv LI, rv by11, iv 0, .val .null, iv 1, .val .null, iv 1, iv 1, .unset, .unset] [(.ref by11)])) rfl (by rw [hml]; rfl) (Steps.refl _) (argsL := []) (rest := []) (lenOf pd_1 rfl) rfl (lb rfl) (hb hby at_335) (fun _ _ => ⟨rfl, rfl, (by decide : 4 + 0 ≤ _), (by decide : 13 + 0 ≤ _)⟩))
      obtain ⟨rfl, Nqy20, Kcy20, fy20_0, fy20_1, fy20_2⟩ := hQy20
      have Ny20 := Fr.app Ny18 Nqy20
      have Zy20 := Nat.le_trans Zy18 Kcy20.1
      have Ky20 := Ky18.trans Kcy20 (allS (Or.inr szy11) all0)
      refine Fin.step (sty20) ?_
      show Fin p e below s _ _ _ (Ty20.setTop (mkF m 338 #[iv p1, iv p2, iv p3, iv p4, rv by1, rv by5, iv AA, iv BB, iv 0, iv 0, iv LO, iv LI, rv by11, iv 0, .val .null, iv 1, .val .null, iv 1, iv 1, .unset, .unset] [(.int 0)]))
      refine Fin.step (fun _ k => Yo.istore Xy20.here hx (hb hby at_338) rfl (l' := #[iv p1, iv p2, iv p3, iv p4, rv by1, rv by5, iv AA, iv BB, iv 0, iv 0, iv LO, iv LI, rv by11, iv 0, .val .null, iv 1, .val .null, iv 1, iv 1, iv 0, .unset]) rfl (Yo.iload Xy20.here hx (hb hby at_340) rfl (Yo.ifNo Xy20.here hx (hb hby at_342) rfl ((if0 _ _).trans (feq ((by decide) : ¬ ((1 : Int32) = (0 : Int32)))).1) (Yo.iload Xy20.here hx (hb hby at_345) rfl (Yo.ifNo Xy20.here hx (hb hby at_347) rfl ((if0 _ _).trans (teq ((by decide) : ((0 : Int32) = (0 : Int32)))).2) (Yo.iconst Xy20.here hx (hb hby at_350) (Yo.goto Xy20.here hx (pc0 := 351) (pc' := 355) rfl (hb hby at_351) (by decide) (by decide) (Yo.istore Xy20.here hx (hb hby at_355) rfl (l' := #[iv p1, iv p2, iv p3, iv p4, rv by1, rv by5, iv AA, iv BB, iv 0, iv 0, iv LO, iv LI, rv by11, iv 0, .val .null, iv 1, .val .null, iv 1, iv 1, iv 0, .unset]) rfl k)))))))) ?_
      refine Fin.step (fun _ k => Yo.aload Xy20.here hx (hb hby at_357) rfl rfl (Yo.ifnullYes Xy20.here hx (pc0 := 359) (pc' := 427) rfl (hb hby at_359) rfl (by decide) (by decide) (Yo.iload Xy20.here hx (hb hby at_427) rfl k))) ?_
      refine Fin.retN Xy20 hx (t := .boolean) hret (by simp) hlk (hb hby at_429) (by decide) (by decide) ?_
      show Q0 Z p1 p2 p3 p4 fv gv wc h0 n0 _ Ty20.heap _
      exact ⟨rfl, Ny20, Ky20⟩
    · refine Fin.step (fun _ k => Yo.ifNo Xy8.here hx (hb hby at_108) rfl ((if0 _ _).trans (feq (hcy10 : ¬ (((ushI p3 (5 : Int32)) &&& (1 : Int32)) = (0 : Int32)))).1) (Yo.iconst Xy8.here hx (hb hby at_111) (Yo.goto Xy8.here hx (pc0 := 112) (pc' := 116) rfl (hb hby at_112) (by decide) (by decide) (Yo.istore Xy8.here hx (hb hby at_116) rfl (l' := #[iv p1, iv p2, iv p3, iv p4, rv by1, rv by5, iv AA, iv BB, iv 0, iv 1, .unset, .unset, .unset, .unset, .unset, .unset, .unset, .unset, .unset, .unset, .unset]) rfl (Yo.iloadN Xy8.here hx (hb hby at_118) rfl (Yo.bipush Xy8.here hx (hb hby at_119) (Yo.iand Xy8.here hx (hb hby at_121) rfl k))))))) ?_
      show Fin p e below s _ _ _ (Ty8.setTop (mkF m 122 #[iv p1, iv p2, iv p3, iv p4, rv by1, rv by5, iv AA, iv BB, iv 0, iv 1, .unset, .unset, .unset, .unset, .unset, .unset, .unset, .unset, .unset, .unset, .unset] [(.int (p4 &&& (7 : Int32)))]))
      refine Fin.step (fun _ k => Yo.istore Xy8.here hx (hb hby at_122) rfl (l' := #[iv p1, iv p2, iv p3, iv p4, rv by1, rv by5, iv AA, iv BB, iv 0, iv 1, .val (.int (p4 &&& (7 : Int32))), .unset, .unset, .unset, .unset, .unset, .unset, .unset, .unset, .unset, .unset]) rfl k) ?_
      obtain ⟨LO, h_LO⟩ : ∃ z : Int32, z = (p4 &&& (7 : Int32)) := ⟨_, rfl⟩
      rw [← h_LO]
      show Fin p e below s _ _ _ (Ty8.setTop (mkF m 124 #[iv p1, iv p2, iv p3, iv p4, rv by1, rv by5, iv AA, iv BB, iv 0, iv 1, iv LO, .unset, .unset, .unset, .unset, .unset, .unset, .unset, .unset, .unset, .unset] []))
      have hLO : 0 ≤ LO.toInt ∧ LO.toInt ≤ 7 := by rw [h_LO]; exact own_m7 _
      refine Fin.step (fun _ k => Yo.iloadN Xy8.here hx (hb hby at_124) rfl (Yo.iconst Xy8.here hx (hb hby at_125) (Yo.iushr Xy8.here hx (hb hby at_126) rfl k))) ?_
      show Fin p e below s _ _ _ (Ty8.setTop (mkF m 127 #[iv p1, iv p2, iv p3, iv p4, rv by1, rv by5, iv AA, iv BB, iv 0, iv 1, iv LO, .unset, .unset, .unset, .unset, .unset, .unset, .unset, .unset, .unset, .unset] [(.int (ushI p4 (3 : Int32)))]))
      refine Fin.step (fun _ k => Yo.bipush Xy8.here hx (hb hby at_127) (Yo.iand Xy8.here hx (hb hby at_129) rfl k)) ?_
      show Fin p e below s _ _ _ (Ty8.setTop (mkF m 130 #[iv p1, iv p2, iv p3, iv p4, rv by1, rv by5, iv AA, iv BB, iv 0, iv 1, iv LO, .unset, .unset, .unset, .unset, .unset, .unset, .unset, .unset, .unset, .unset] [(.int ((ushI p4 (3 : Int32)) &&& (7 : Int32)))]))
      refine Fin.step (fun _ k => Yo.istore Xy8.here hx (hb hby at_130) rfl (l' := #[iv p1, iv p2, iv p3, iv p4, rv by1, rv by5, iv AA, iv BB, iv 0, iv 1, iv LO, .val (.int ((ushI p4 (3 : Int32)) &&& (7 : Int32))), .unset, .unset, .unset, .unset, .unset, .unset, .unset, .unset, .unset]) rfl k) ?_
      obtain ⟨LI, h_LI⟩ : ∃ z : Int32, z = ((ushI p4 (3 : Int32)) &&& (7 : Int32)) := ⟨_, rfl⟩
      rw [← h_LI]
      show Fin p e below s _ _ _ (Ty8.setTop (mkF m 132 #[iv p1, iv p2, iv p3, iv p4, rv by1, rv by5, iv AA, iv BB, iv 0, iv 1, iv LO, iv LI, .unset, .unset, .unset, .unset, .unset, .unset, .unset, .unset, .unset] []))
      have hLI : 0 ≤ LI.toInt ∧ LI.toInt ≤ 7 := by rw [h_LI]; exact own_m7 _
      obtain ⟨Ty21, hy21, Xy21, ey21, Ey21, Ay21, Dy21, -, sty21⟩ := newO Xy8 hx hZ hown (W_ hw 1) (W_ hw 2) (W_ hw 3) ey8 (g := (mkF m 132 #[iv p1, iv p2, iv p3, iv p4, rv by1, rv by5, iv AA, iv BB, iv 0, iv 1, iv LO, iv LI, .unset, .unset, .unset, .unset, .unset, .unset, .unset, .unset, .unset] [])) rfl (hb hby at_132) (by decide) (by decide)
      obtain ⟨by21, gy21⟩ : ∃ z, z = hy8.size := ⟨_, rfl⟩
      rw [← gy21] at Ay21 Dy21 sty21
      have gzy21 : n0 ≤ by21 := Nat.le_trans Zy8 (Nat.le_of_eq gy21.symm)
      have szy21 : h0.size ≤ by21 := Nat.le_trans Ky8.1 (Nat.le_of_eq gy21.symm)
      have Zy21 := Nat.le_trans Zy8 Ey21.1
      have Ky21 := Ky8.ext Ey21
      have F_open_by21 : Fld Z hy21 by21 q1 "open" q9 .null := Dy21 (Or.inl (W_ hw 13)) (ty := (.array (.object "com/example/uzor/uzor/StringValues$Value"))) (by decide)
      have F_depth_by21 : Fld Z hy21 by21 q1 "depth" "I" (.int 0) := Dy21 (Or.inl (W_ hw 20)) (ty := .int) (by decide)
      have F_count_by21 : Fld Z hy21 by21 q1 "count" "I" (.int 0) := Dy21 (Or.inl (W_ hw 27)) (ty := .int) (by decide)
      refine Fin.step (sty21) ?_
      show Fin p e below s _ _ _ (Ty21.setTop (mkF m 135 #[iv p1, iv p2, iv p3, iv p4, rv by1, rv by5, iv AA, iv BB, iv 0, iv 1, iv LO, iv LI, .unset, .unset, .unset, .unset, .unset, .unset, .unset, .unset, .unset] [(.ref by21)]))
      refine Fin.step (fun _ k => Yo.dup Xy21.here hx (hb hby at_135) rfl rfl k) ?_
      obtain ⟨_, Ty22, Lcy22, Xy22, hQy22, sty22⟩ := pack (Xy21.specialBack hx (y := n1) rfl hown (mvT hZ (W_ hw 4)) (mvT hZ (W_ hw 5)) (mvT hZ (W_ hw 6)) (by decide) (backOf (W := 1) (rmsvi l Z a0 hw [] by21 hy21 n0 Zy21 Ay21 F_open_by21 F_depth_by21 F_count_by21 gzy21) hZ (W_ hw 6) (W_ hw 3) (by decide) (by decide)) (g := (mkF m 136 #[iv p1, iv p2, iv p3, iv p4, rv by1, rv by5, iv AA, iv BB, iv 0, iv 1, iv LO, iv LI, .unset, .unset, .unset, .unset, .unset, .unset, .unset, .unset, .unset] [(.ref by21), (.ref by21)])) rfl (by rw [hml]; rfl) (Steps.refl _) (a := by21) (argsL := []) (rest := [(.ref by21)]) (lenOf pd_7 rfl) rfl (lb rfl) (hb hby at_136) (fun _ _ => ⟨rfl, ey21, (by decide : 3 + 1 ≤ _), (by decide : 9 + 4 ≤ _)⟩))
      obtain ⟨ao_y22, ko_y22, rfl, bfy22_0, Nqy22, Kcy22, fy22_0, fy22_1, fy22_2, fy22_3, ppy22_0, ney22_0⟩ := hQy22
      have Ny22 := Fr.app Ny8 Nqy22
      have gzy22_0 : n0 ≤ ao_y22 := Nat.le_trans Zy21 bfy22_0
      have szy22_0 : h0.size ≤ ao_y22 := Nat.le_trans Ky21.1 bfy22_0
      have Zy22 := Nat.le_trans Zy21 Kcy22.1
      have Ky22 := Ky21.trans Kcy22 (allS (Or.inr szy21) all0)
      refine Fin.step (sty22) ?_
      show Fin p e below s _ _ _ (Ty22.setTop (mkF m 139 #[iv p1, iv p2, iv p3, iv p4, rv by1, rv by5, iv AA, iv BB, iv 0, iv 1, iv LO, iv LI, .unset, .unset, .unset, .unset, .unset, .unset, .unset, .unset, .unset] [(.ref by21)]))
      refine Fin.step (fun _ k => Yo.astore Xy22.here hx (hb hby at_139) rfl rfl (l' := #[iv p1, iv p2, iv p3, iv p4, rv by1, rv by5, iv AA, iv BB, iv 0, iv 1, iv LO, iv LI, rv by21, .unset, .unset, .unset, .unset, .unset, .unset, .unset, .unset]) rfl (Yo.aload Xy22.here hx (hb hby at_141) rfl rfl k)) ?_
      obtain ⟨cqy23, kqy23, qy23a, qy23b, qy23c⟩ := isOf hZ rfl (Ay21.keep Kcy22)
      obtain ⟨_, Ty23, Lcy23, Xy23, hQy23, sty23⟩ := pack (Xy22.virtualBack hx (y := n3) (z := n3) hown (mvT hZ (W_ hw 14)) (mvT hZ (W_ hw 15)) (notFace_of_selects (args := #[]) (mvT hZ (W_ hw 17))) (mvT hZ (W_ hw 17)) (mvT hZ (W_ hw 16)) (by decide) (backOf (W := 0) (rmse0 l Z a0 hw [] by21 ao_y22 (0 : Int32) Ty22.heap n0 Zy22 (Ay21.keep Kcy22) fy22_0 fy22_1 fy22_2 gzy21) hZ (W_ hw 18) (W_ hw 3) (by decide) (by decide)) qy23a qy23c (g := (mkF m 143 #[iv p1, iv p2, iv p3, iv p4, rv by1, rv by5, iv AA, iv BB, iv 0, iv 1, iv LO, iv LI, rv by21, .unset, .unset, .unset, .unset, .unset, .unset, .unset, .unset] [(.ref by21)])) rfl (by rw [hml]; rfl) (Steps.refl _) (argsL := []) (rest := []) (lenOf pd_1 rfl) rfl (lb rfl) (hb hby at_143) (fun _ _ => ⟨rfl, rfl, (by decide : 4 + 0 ≤ _), (by decide : 13 + 0 ≤ _)⟩))
      obtain ⟨rfl, Nqy23, Kcy23, fy23_0, fy23_1, fy23_2⟩ := hQy23
      have Ny23 := Fr.app Ny22 Nqy23
      have Zy23 := Nat.le_trans Zy22 Kcy23.1
      have Ky23 := Ky22.trans Kcy23 (allS (Or.inr szy21) all0)
      refine Fin.step (sty23) ?_
      show Fin p e below s _ _ _ (Ty23.setTop (mkF m 146 #[iv p1, iv p2, iv p3, iv p4, rv by1, rv by5, iv AA, iv BB, iv 0, iv 1, iv LO, iv LI, rv by21, .unset, .unset, .unset, .unset, .unset, .unset, .unset, .unset] [(.int 0)]))
      refine Fin.step (fun _ k => Yo.istore Xy23.here hx (hb hby at_146) rfl (l' := #[iv p1, iv p2, iv p3, iv p4, rv by1, rv by5, iv AA, iv BB, iv 0, iv 1, iv LO, iv LI, rv by21, iv 0, .unset, .unset, .unset, .unset, .unset, .unset, .unset]) rfl (Yo.iload Xy23.here hx (hb hby at_148) rfl (Yo.ifYes Xy23.here hx (pc0 := 150) (pc' := 163) rfl (hb hby at_150) rfl ((if0 _ _).trans (teq ((by decide) : ((0 : Int32) = (0 : Int32)))).1) (by decide) (by decide) (Yo.aconstNull Xy23.here hx (hb hby at_163) (Yo.astore Xy23.here hx (hb hby at_164) rfl rfl (l' := #[iv p1, iv p2, iv p3, iv p4, rv by1, rv by5, iv AA, iv BB, iv 0, iv 1, iv LO, iv LI, rv by21, iv 0, .val .null, .unset, .unset, .unset, .unset, .unset, .unset]) rfl (Yo.aload Xy23.here hx (hb hby at_166) rfl rfl (Yo.aload Xy23.here hx (hb hby at_168) rfl rfl (Yo.iconst Xy23.here hx (hb hby at_170) k)))))))) ?_
      refine Fin.step (fun _ k => Yo.iload Xy23.here hx (hb hby at_171) rfl k) ?_
      have ry25 := ((Ay21.keep Kcy22).keep Kcy23)
      obtain ⟨cqy24, kqy24, qy24a, qy24b, qy24c⟩ := isOf hZ rfl ry25
      obtain ⟨_, Ty24, Lcy24, Xy24, hQy24, sty24⟩ := pack (Xy23.virtualBack hx (y := n4) (z := n4) hown (mvT hZ (W_ hw 21)) (mvT hZ (W_ hw 22)) (notFace_of_selects (args := #[]) (mvT hZ (W_ hw 24))) (mvT hZ (W_ hw 24)) (mvT hZ (W_ hw 23)) (by decide) (backOf (W := 0) (rmt l Z a0 hw [] by21 by1 AA Ty23.heap n0 Zy23 fy23_2) hZ (W_ hw 25) (W_ hw 3) (by decide) (by decide)) qy24a qy24c (g := (mkF m 173 #[iv p1, iv p2, iv p3, iv p4, rv by1, rv by5, iv AA, iv BB, iv 0, iv 1, iv LO, iv LI, rv by21, iv 0, .val .null, .unset, .unset, .unset, .unset, .unset, .unset] [(.int AA), (.int 0), (.ref by1), (.ref by21)])) rfl (by rw [hml]; rfl) (Steps.refl _) (argsL := [(.ref by1), (.int 0), (.int AA)]) (rest := []) (lenOf pd_5 rfl) rfl (lb rfl) (hb hby at_173) (fun _ _ => ⟨rfl, rfl, (by decide : 4 + 0 ≤ _), (by decide : 13 + 0 ≤ _)⟩))
      obtain ⟨rfl, Nqy24, eqy24⟩ := hQy24
      have Ny24 := Fr.app Ny23 Nqy24
      refine Fin.step (sty24) ?_
      show Fin p e below s _ _ _ (Ty24.setTop (mkF m 176 #[iv p1, iv p2, iv p3, iv p4, rv by1, rv by5, iv AA, iv BB, iv 0, iv 1, iv LO, iv LI, rv by21, iv 0, .val .null, .unset, .unset, .unset, .unset, .unset, .unset] []))
      refine Fin.step (fun _ k => Yo.aload Xy24.here hx (hb hby at_176) rfl rfl k) ?_
      obtain ⟨cqy26, kqy26, qy26a, qy26b, qy26c⟩ := isOf hZ eqy24 ry25
      obtain ⟨_, Ty26, Lcy26, Xy26, hQy26, sty26⟩ := pack (Xy24.virtualBack hx (y := n3) (z := n3) hown (mvT hZ (W_ hw 14)) (mvT hZ (W_ hw 15)) (notFace_of_selects (args := #[]) (mvT hZ (W_ hw 17))) (mvT hZ (W_ hw 17)) (mvT hZ (W_ hw 16)) (by decide) (backOf (W := 0) (rmse1 l Z a0 hw [] by21 ao_y22 (0 : Int32) Ty23.heap n0 Zy23 ry25 fy23_0 fy23_1 fy23_2 gzy21) hZ (W_ hw 18) (W_ hw 3) (by decide) (by decide)) qy26a qy26c (g := (mkF m 178 #[iv p1, iv p2, iv p3, iv p4, rv by1, rv by5, iv AA, iv BB, iv 0, iv 1, iv LO, iv LI, rv by21, iv 0, .val .null, .unset, .unset, .unset, .unset, .unset, .unset] [(.ref by21)])) rfl (by rw [hml]; rfl) (Steps.refl _) (argsL := []) (rest := []) (lenOf pd_1 rfl) rfl (lb rfl) (hb hby at_178) (fun _ _ => ⟨rfl, eqy24, (by decide : 4 + 0 ≤ _), (by decide : 13 + 0 ≤ _)⟩))
      obtain ⟨rfl, Nqy26, Kcy26, fy26_0, fy26_1, fy26_2⟩ := hQy26
      have Ny26 := Fr.app Ny24 Nqy26
      have Zy26 := Nat.le_trans Zy23 Kcy26.1
      have Ky26 := Ky23.trans Kcy26 (allS (Or.inr szy21) all0)
      refine Fin.step (sty26) ?_
      show Fin p e below s _ _ _ (Ty26.setTop (mkF m 181 #[iv p1, iv p2, iv p3, iv p4, rv by1, rv by5, iv AA, iv BB, iv 0, iv 1, iv LO, iv LI, rv by21, iv 0, .val .null, .unset, .unset, .unset, .unset, .unset, .unset] [(.int 1)]))
      refine Fin.step (fun _ k => Yo.istore Xy26.here hx (hb hby at_181) rfl (l' := #[iv p1, iv p2, iv p3, iv p4, rv by1, rv by5, iv AA, iv BB, iv 0, iv 1, iv LO, iv LI, rv by21, iv 0, .val .null, iv 1, .unset, .unset, .unset, .unset, .unset]) rfl (Yo.iload Xy26.here hx (hb hby at_183) rfl (Yo.ifNo Xy26.here hx (hb hby at_185) rfl ((if0 _ _).trans (feq ((by decide) : ¬ ((1 : Int32) = (0 : Int32)))).1) (Yo.aload Xy26.here hx (hb hby at_188) rfl rfl (Yo.iload Xy26.here hx (hb hby at_190) rfl k))))) ?_
      have ry27 := ((fy22_3.keep Kcy23 (ninS (Ne.symm ney22_0) nin0)).keep Kcy26 (ninS (Ne.symm ney22_0) nin0))
      have ry28 := (Sta_keep HS_java_lang_String_COMPACT_STRINGS Ky26)
      obtain ⟨cqy29, kqy29, qy29a, qy29b, qy29c⟩ := isOf hZ rfl (ry25.keep Kcy26)
      obtain ⟨_, Ty29, Lcy29, Xy29, hQy29, sty29⟩ := pack (Xy26.virtualBack hx (y := n6) (z := n6) hown (mvT hZ (W_ hw 33)) (mvT hZ (W_ hw 34)) (notFace_of_selects (args := #[]) (mvT hZ (W_ hw 36))) (mvT hZ (W_ hw 36)) (mvT hZ (W_ hw 35)) (by decide) (backOf (W := 0) (rmbu0 l Z a0 hw [] by21 LI ao_y22 ko_y22 (2 : Int32) wc Ty26.heap n0 Zy26 (ry25.keep Kcy26) fy26_0 fy26_1 fy26_2 ry27 ry28 gzy21 gzy22_0 hwc ppy22_0 ney22_0) hZ (W_ hw 37) (W_ hw 3) (by decide) (by decide)) qy29a qy29c (g := (mkF m 192 #[iv p1, iv p2, iv p3, iv p4, rv by1, rv by5, iv AA, iv BB, iv 0, iv 1, iv LO, iv LI, rv by21, iv 0, .val .null, iv 1, .unset, .unset, .unset, .unset, .unset] [(.int LI), (.ref by21)])) rfl (by rw [hml]; rfl) (Steps.refl _) (argsL := [(.int LI)]) (rest := []) (lenOf pd_24 rfl) rfl (lb rfl) (hb hby at_192) (fun _ _ => ⟨rfl, rfl, (by decide : 4 + 3 ≤ _), (by decide : 13 + 24 ≤ _)⟩))
      obtain ⟨bo_y29, ab_y29, kb_y29, by29, rfl, bzy29, bfy29_0, bfy29_1, Nqy29, Kcy29, fy29_0, fy29_1, fy29_2, fy29_3, fy29_4, fy29_5, fy29_6, fy29_7, fy29_8, fy29_9, fy29_10, fy29_11, fy29_12, fy29_13, ney29_0, ney29_1, ney29_2⟩ := hQy29
      have Ny29 := Fr.app Ny26 Nqy29
      have gzy29 : n0 ≤ by29 := Nat.le_trans Zy26 bzy29
      have szy29 : h0.size ≤ by29 := Nat.le_trans Ky26.1 bzy29
      have gzy29_0 : n0 ≤ bo_y29 := Nat.le_trans Zy26 bfy29_0
      have szy29_0 : h0.size ≤ bo_y29 := Nat.le_trans Ky26.1 bfy29_0
      have gzy29_1 : n0 ≤ ab_y29 := Nat.le_trans Zy26 bfy29_1
      have szy29_1 : h0.size ≤ ab_y29 := Nat.le_trans Ky26.1 bfy29_1
      have Zy29 := Nat.le_trans Zy26 Kcy29.1
      have Ky29 := Ky26.trans Kcy29 (allS (Or.inr szy21) (allS (Or.inr szy22_0) all0))
      refine Fin.step (sty29) ?_
      show Fin p e below s _ _ _ (Ty29.setTop (mkF m 195 #[iv p1, iv p2, iv p3, iv p4, rv by1, rv by5, iv AA, iv BB, iv 0, iv 1, iv LO, iv LI, rv by21, iv 0, .val .null, iv 1, .unset, .unset, .unset, .unset, .unset] [(.ref by29)]))
      refine Fin.step (fun _ k => Yo.goto Xy29.here hx (pc0 := 195) (pc' := 199) rfl (hb hby at_195) (by decide) (by decide) (Yo.astore Xy29.here hx (hb hby at_199) rfl rfl (l' := #[iv p1, iv p2, iv p3, iv p4, rv by1, rv by5, iv AA, iv BB, iv 0, iv 1, iv LO, iv LI, rv by21, iv 0, .val .null, iv 1, rv by29, .unset, .unset, .unset, .unset]) rfl k)) ?_
      rcases Classical.em ((LI - BB) < (0 : Int32)) with hi2 | hi2
      · have hi2_ := hi2
        refine Fin.step (fun _ k => Yo.aload Xy29.here hx (hb hby at_201) rfl rfl (Yo.aload Xy29.here hx (hb hby at_203) rfl rfl (Yo.iconst Xy29.here hx (hb hby at_205) (Yo.iload Xy29.here hx (hb hby at_206) rfl k)))) ?_
        have ry30 := ((ry25.keep Kcy26).keep Kcy29)
        have ney31 := nlt ((((nsV Vy5).wr Wy6).wr Wy7).wr Wy8).lt (Nat.le_of_eq gy21.symm)
        have ney32 := nlt (((((nsV Vy5).wr Wy6).wr Wy7).wr Wy8).ext Ey21).lt bfy22_0
        have ry33 := (((((VLYL.ext Ey21).keep Kcy22 (ninS ney31 nin0)).keep Kcy23 (ninS ney31 nin0)).keep Kcy26 (ninS ney31 nin0)).keep Kcy29 (ninS ney31 (ninS ney32 nin0)))
        have ry34 := (Sta_keepW ry28 Kcy29 (allS (nsE (((Ay21.keep Kcy22).keep Kcy23).keep Kcy26)) (allS (((nsV fy22_3).keep Kcy23).keep Kcy26) all0)))
        have ry35 := (Sta_keep HS_jdk_internal_util_Preconditions_IOOBE_FORMATTER Ky29)
        have ney36 := nlt (((Ay21.keep Kcy22).keep Kcy23).keep Kcy26).lt bzy29
        have ney37 := nlt (((nsV fy22_3).keep Kcy23).keep Kcy26).lt bzy29
        have ney38 := nlt (((Ay21.keep Kcy22).keep Kcy23).keep Kcy26).lt bfy29_0
        have ney39 := nlt (((nsV fy22_3).keep Kcy23).keep Kcy26).lt bfy29_0
        have ney40 := nlt (((Ay21.keep Kcy22).keep Kcy23).keep Kcy26).lt bfy29_1
        have ney41 := nlt (((nsV fy22_3).keep Kcy23).keep Kcy26).lt bfy29_1
        have ney42 := nlt ((((((((nsV Vy5).wr Wy6).wr Wy7).wr Wy8).ext Ey21).keep Kcy22).keep Kcy23).keep Kcy26).lt bzy29
        obtain ⟨cqy43, kqy43, qy43a, qy43b, qy43c⟩ := isOf hZ rfl ry30
        obtain ⟨_, Ty43, Lcy43, Xy43, hQy43, sty43⟩ := pack (Xy29.virtualBack hx (y := n4) (z := n4) hown (mvT hZ (W_ hw 21)) (mvT hZ (W_ hw 22)) (notFace_of_selects (args := #[]) (mvT hZ (W_ hw 24))) (mvT hZ (W_ hw 24)) (mvT hZ (W_ hw 23)) (by decide) (backOf (W := 0) (rmtp l Z a0 hw [] by21 by5 BB ao_y22 ko_y22 (2 : Int32) by29 bo_y29 ab_y29 kb_y29 (0 : Int32) [(.int 0), (.int 0), (.int 0), (.int 0), (.int 0), (.int 0), (.int 0), (.int 0), (.int 0), (.int 0), (.int 0), (.int 0), (.int 0), (.int 0), (.int 0), (.int 0)] LI ky5 YL wc gv Ty29.heap n0 Zy29 ry30 fy29_0 fy29_1 fy29_2 fy29_3 fy29_4 fy29_5 fy29_6 fy29_7 fy29_9 fy29_10 fy29_11 fy29_12 fy29_13 ry33 ry34 ry35 gzy21 gzy22_0 gzy29 hB hY hwc hgv ppy22_0 hi2 ney22_0 ney36 ney37 (Ne.symm ney38) (Ne.symm ney39) (Ne.symm ney29_1) (Ne.symm ney40) (Ne.symm ney41) (Ne.symm ney29_2) ney31 ney32 ney42) hZ (W_ hw 25) (W_ hw 3) (by decide) (by decide)) qy43a qy43c (g := (mkF m 208 #[iv p1, iv p2, iv p3, iv p4, rv by1, rv by5, iv AA, iv BB, iv 0, iv 1, iv LO, iv LI, rv by21, iv 0, .val .null, iv 1, rv by29, .unset, .unset, .unset, .unset] [(.int BB), (.int 0), (.ref by5), (.ref by21)])) rfl (by rw [hml]; rfl) (Steps.refl _) (argsL := [(.ref by5), (.int 0), (.int BB)]) (rest := []) (lenOf pd_5 rfl) rfl (lb rfl) (hb hby at_208) (fun _ _ => ⟨rfl, rfl, (by decide : 7 + 0 ≤ _), (by decide : 37 + 0 ≤ _)⟩))
        obtain ⟨rfl, Nqy43, Kcy43, fy43_0, fy43_1, fy43_2, fy43_3, fy43_4, fy43_5⟩ := hQy43
        have Ny43 := Fr.app Ny29 Nqy43
        have Zy43 := Nat.le_trans Zy29 Kcy43.1
        have Ky43 := Ky29.trans Kcy43 (allS (Or.inr szy21) (allS (Or.inr szy22_0) (allS (Or.inr szy29) all0)))
        refine Fin.step (sty43) ?_
        show Fin p e below s _ _ _ (Ty43.setTop (mkF m 211 #[iv p1, iv p2, iv p3, iv p4, rv by1, rv by5, iv AA, iv BB, iv 0, iv 1, iv LO, iv LI, rv by21, iv 0, .val .null, iv 1, rv by29, .unset, .unset, .unset, .unset] []))
        refine Fin.step (fun _ k => Yo.aload Xy43.here hx (hb hby at_211) rfl rfl k) ?_
        obtain ⟨cqy44, kqy44, qy44a, qy44b, qy44c⟩ := isOf hZ rfl (ry30.keep Kcy43)
        obtain ⟨_, Ty44, Lcy44, Xy44, hQy44, sty44⟩ := pack (Xy43.virtualBack hx (y := n5) (z := n5) hown (mvT hZ (W_ hw 28)) (mvT hZ (W_ hw 29)) (notFace_of_selects (args := #[]) (mvT hZ (W_ hw 31))) (mvT hZ (W_ hw 31)) (mvT hZ (W_ hw 30)) (by decide) (backOf (W := 0) (rmen2 l Z a0 hw [] by21 ao_y22 Ty43.heap n0 Zy43 (ry30.keep Kcy43) fy43_0 fy43_1 fy43_2 gzy21) hZ (W_ hw 32) (W_ hw 3) (by decide) (by decide)) qy44a qy44c (g := (mkF m 213 #[iv p1, iv p2, iv p3, iv p4, rv by1, rv by5, iv AA, iv BB, iv 0, iv 1, iv LO, iv LI, rv by21, iv 0, .val .null, iv 1, rv by29, .unset, .unset, .unset, .unset] [(.ref by21)])) rfl (by rw [hml]; rfl) (Steps.refl _) (argsL := []) (rest := []) (lenOf pd_1 rfl) rfl (lb rfl) (hb hby at_213) (fun _ _ => ⟨rfl, rfl, (by decide : 7 + 0 ≤ _), (by decide : 37 + 0 ≤ _)⟩))
        obtain ⟨rfl, Nqy44, Kcy44, fy44_0, fy44_1, fy44_2⟩ := hQy44
        have Ny44 := Fr.app Ny43 Nqy44
        have Zy44 := Nat.le_trans Zy43 Kcy44.1
        have Ky44 := Ky43.trans Kcy44 (allS (Or.inr szy21) all0)
        refine Fin.step (sty44) ?_
        show Fin p e below s _ _ _ (Ty44.setTop (mkF m 216 #[iv p1, iv p2, iv p3, iv p4, rv by1, rv by5, iv AA, iv BB, iv 0, iv 1, iv LO, iv LI, rv by21, iv 0, .val .null, iv 1, rv by29, .unset, .unset, .unset, .unset] [(.int 1)]))
        refine Fin.step (fun _ k => Yo.istore Xy44.here hx (hb hby at_216) rfl (l' := #[iv p1, iv p2, iv p3, iv p4, rv by1, rv by5, iv AA, iv BB, iv 0, iv 1, iv LO, iv LI, rv by21, iv 0, .val .null, iv 1, rv by29, iv 1, .unset, .unset, .unset]) rfl (Yo.iload Xy44.here hx (hb hby at_218) rfl (Yo.ifNo Xy44.here hx (hb hby at_220) rfl ((if0 _ _).trans (teq ((by decide) : ((0 : Int32) = (0 : Int32)))).2) (Yo.iload Xy44.here hx (hb hby at_223) rfl (Yo.iconst Xy44.here hx (hb hby at_225) (Yo.icmpNo Xy44.here hx (hb hby at_226) rfl (teq ((by decide) : ((1 : Int32) = (1 : Int32)))).2 (Yo.iload Xy44.here hx (hb hby at_229) rfl (Yo.iconst Xy44.here hx (hb hby at_231) k)))))))) ?_
        refine Fin.step (fun _ k => Yo.icmpNo Xy44.here hx (hb hby at_232) rfl (teq ((by decide) : ((1 : Int32) = (1 : Int32)))).2 (Yo.iconst Xy44.here hx (hb hby at_235) (Yo.goto Xy44.here hx (pc0 := 236) (pc' := 240) rfl (hb hby at_236) (by decide) (by decide) (Yo.istore Xy44.here hx (hb hby at_240) rfl (l' := #[iv p1, iv p2, iv p3, iv p4, rv by1, rv by5, iv AA, iv BB, iv 0, iv 1, iv LO, iv LI, rv by21, iv 0, .val .null, iv 1, rv by29, iv 1, iv 1, .unset, .unset]) rfl (Yo.aload Xy44.here hx (hb hby at_242) rfl rfl (Yo.ifnullYes Xy44.here hx (pc0 := 244) (pc' := 267) rfl (hb hby at_244) rfl (by decide) (by decide) (Yo.aload Xy44.here hx (hb hby at_267) rfl rfl (Yo.ifnullNo Xy44.here hx (hb hby at_269) rfl k)))))))) ?_
        refine Fin.step (fun _ k => Yo.aload Xy44.here hx (hb hby at_272) rfl rfl k) ?_
        have ry45 := (fy43_5.keep Kcy44 (ninS (Ne.symm ney36) nin0))
        have ry47 := ((fy29_4.keep Kcy43).keep Kcy44)
        obtain ⟨cqy46, kqy46, qy46a, qy46b, qy46c⟩ := isOf hZ rfl ry47
        obtain ⟨_, Ty46, Lcy46, Xy46, hQy46, sty46⟩ := pack (Xy44.virtualBack hx (y := n20) (z := n20) hown (mvT hZ (W_ hw 122)) (mvT hZ (W_ hw 123)) (notFace_of_selects (args := #[]) (mvT hZ (W_ hw 125))) (mvT hZ (W_ hw 125)) (mvT hZ (W_ hw 124)) (by decide) (backOf (W := 0) (rmg0 l Z a0 hw [] by29 Ty44.heap n0 Zy44 ry45) hZ (W_ hw 126) (W_ hw 39) (by decide) (by decide)) qy46a qy46c (g := (mkF m 274 #[iv p1, iv p2, iv p3, iv p4, rv by1, rv by5, iv AA, iv BB, iv 0, iv 1, iv LO, iv LI, rv by21, iv 0, .val .null, iv 1, rv by29, iv 1, iv 1, .unset, .unset] [(.ref by29)])) rfl (by rw [hml]; rfl) (Steps.refl _) (argsL := []) (rest := []) (lenOf pd_15 rfl) rfl (lb rfl) (hb hby at_274) (fun _ _ => ⟨rfl, rfl, (by decide : 7 + 0 ≤ _), (by decide : 37 + 0 ≤ _)⟩))
        obtain ⟨rfl, Nqy46, eqy46⟩ := hQy46
        have Ny46 := Fr.app Ny44 Nqy46
        refine Fin.step (sty46) ?_
        show Fin p e below s _ _ _ (Ty46.setTop (mkF m 277 #[iv p1, iv p2, iv p3, iv p4, rv by1, rv by5, iv AA, iv BB, iv 0, iv 1, iv LO, iv LI, rv by21, iv 0, .val .null, iv 1, rv by29, iv 1, iv 1, .unset, .unset] [.null]))
        refine Fin.step (fun _ k => Yo.astore Xy46.here hx (hb hby at_277) rfl rfl (l' := #[iv p1, iv p2, iv p3, iv p4, rv by1, rv by5, iv AA, iv BB, iv 0, iv 1, iv LO, iv LI, rv by21, iv 0, .val .null, iv 1, rv by29, iv 1, iv 1, .val .null, .unset]) rfl (Yo.iload Xy46.here hx (hb hby at_279) rfl (Yo.iload Xy46.here hx (hb hby at_281) rfl (Yo.icmpYes Xy46.here hx (pc0 := 283) (pc' := 316) rfl (hb hby at_283) rfl (tlt (((own_lim hLI (own_pi hB)).mp hi2) : (LI < BB))).2.2.1 (by decide) (by decide) (Yo.iload Xy46.here hx (hb hby at_316) rfl (Yo.ifNo Xy46.here hx (hb hby at_318) rfl ((if0 _ _).trans (feq ((by decide) : ¬ ((1 : Int32) = (0 : Int32)))).1) (Yo.aload Xy46.here hx (hb hby at_321) rfl rfl (Yo.ifnonnullNo Xy46.here hx (hb hby at_323) rfl k)))))))) ?_
        refine Fin.step (fun _ k => Yo.iconst Xy46.here hx (hb hby at_326) (Yo.goto Xy46.here hx (pc0 := 327) (pc' := 331) rfl (hb hby at_327) (by decide) (by decide) (Yo.istore Xy46.here hx (hb hby at_331) rfl (l' := #[iv p1, iv p2, iv p3, iv p4, rv by1, rv by5, iv AA, iv BB, iv 0, iv 1, iv LO, iv LI, rv by21, iv 0, .val .null, iv 1, rv by29, iv 1, iv 1, .val .null, .unset]) rfl (Yo.aload Xy46.here hx (hb hby at_333) rfl rfl k)))) ?_
        have ry48 := ((ry30.keep Kcy43).keep Kcy44)
        obtain ⟨cqy49, kqy49, qy49a, qy49b, qy49c⟩ := isOf hZ eqy46 ry48
        obtain ⟨_, Ty49, Lcy49, Xy49, hQy49, sty49⟩ := pack (Xy46.virtualBack hx (y := n5) (z := n5) hown (mvT hZ (W_ hw 28)) (mvT hZ (W_ hw 29)) (notFace_of_selects (args := #[]) (mvT hZ (W_ hw 31))) (mvT hZ (W_ hw 31)) (mvT hZ (W_ hw 30)) (by decide) (backOf (W := 0) (rmen1 l Z a0 hw [] by21 ao_y22 Ty44.heap n0 Zy44 ry48 fy44_0 fy44_1 fy44_2 gzy21) hZ (W_ hw 32) (W_ hw 3) (by decide) (by decide)) qy49a qy49c (g := (mkF m 335 #[iv p1, iv p2, iv p3, iv p4, rv by1, rv by5, iv AA, iv BB, iv 0, iv 1, iv LO, iv LI, rv by21, iv 0, .val .null, iv 1, rv by29, iv 1, iv 1, .val .null, .unset] [(.ref by21)])) rfl (by rw [hml]; rfl) (Steps.refl _) (argsL := []) (rest := []) (lenOf pd_1 rfl) rfl (lb rfl) (hb hby at_335) (fun _ _ => ⟨rfl, eqy46, (by decide : 7 + 0 ≤ _), (by decide : 37 + 0 ≤ _)⟩))
        obtain ⟨rfl, Nqy49, Kcy49, fy49_0, fy49_1, fy49_2⟩ := hQy49
        have Ny49 := Fr.app Ny46 Nqy49
        have Zy49 := Nat.le_trans Zy44 Kcy49.1
        have Ky49 := Ky44.trans Kcy49 (allS (Or.inr szy21) all0)
        refine Fin.step (sty49) ?_
        show Fin p e below s _ _ _ (Ty49.setTop (mkF m 338 #[iv p1, iv p2, iv p3, iv p4, rv by1, rv by5, iv AA, iv BB, iv 0, iv 1, iv LO, iv LI, rv by21, iv 0, .val .null, iv 1, rv by29, iv 1, iv 1, .val .null, .unset] [(.int 0)]))
        refine Fin.step (fun _ k => Yo.istore Xy49.here hx (hb hby at_338) rfl (l' := #[iv p1, iv p2, iv p3, iv p4, rv by1, rv by5, iv AA, iv BB, iv 0, iv 1, iv LO, iv LI, rv by21, iv 0, .val .null, iv 1, rv by29, iv 1, iv 1, iv 0, .unset]) rfl (Yo.iload Xy49.here hx (hb hby at_340) rfl (Yo.ifNo Xy49.here hx (hb hby at_342) rfl ((if0 _ _).trans (feq ((by decide) : ¬ ((1 : Int32) = (0 : Int32)))).1) (Yo.iload Xy49.here hx (hb hby at_345) rfl (Yo.ifNo Xy49.here hx (hb hby at_347) rfl ((if0 _ _).trans (teq ((by decide) : ((0 : Int32) = (0 : Int32)))).2) (Yo.iconst Xy49.here hx (hb hby at_350) (Yo.goto Xy49.here hx (pc0 := 351) (pc' := 355) rfl (hb hby at_351) (by decide) (by decide) (Yo.istore Xy49.here hx (hb hby at_355) rfl (l' := #[iv p1, iv p2, iv p3, iv p4, rv by1, rv by5, iv AA, iv BB, iv 0, iv 1, iv LO, iv LI, rv by21, iv 0, .val .null, iv 1, rv by29, iv 1, iv 1, iv 0, .unset]) rfl k)))))))) ?_
        refine Fin.step (fun _ k => Yo.aload Xy49.here hx (hb hby at_357) rfl rfl (Yo.ifnullYes Xy49.here hx (pc0 := 359) (pc' := 427) rfl (hb hby at_359) rfl (by decide) (by decide) (Yo.iload Xy49.here hx (hb hby at_427) rfl k))) ?_
        refine Fin.retN Xy49 hx (t := .boolean) hret (by simp) hlk (hb hby at_429) (by decide) (by decide) ?_
        show Q0 Z p1 p2 p3 p4 fv gv wc h0 n0 _ Ty49.heap _
        exact ⟨rfl, Ny49, Ky49⟩
      · have hi2_ := hi2
        refine Fin.step (fun _ k => Yo.aload Xy29.here hx (hb hby at_201) rfl rfl (Yo.aload Xy29.here hx (hb hby at_203) rfl rfl (Yo.iconst Xy29.here hx (hb hby at_205) (Yo.iload Xy29.here hx (hb hby at_206) rfl k)))) ?_
        have ry50 := ((ry25.keep Kcy26).keep Kcy29)
        have ney51 := nlt ((((nsV Vy5).wr Wy6).wr Wy7).wr Wy8).lt (Nat.le_of_eq gy21.symm)
        have ney52 := nlt (((((nsV Vy5).wr Wy6).wr Wy7).wr Wy8).ext Ey21).lt bfy22_0
        have ry53 := (((((VLYL.ext Ey21).keep Kcy22 (ninS ney51 nin0)).keep Kcy23 (ninS ney51 nin0)).keep Kcy26 (ninS ney51 nin0)).keep Kcy29 (ninS ney51 (ninS ney52 nin0)))
        have ry54 := (Sta_keepW ry28 Kcy29 (allS (nsE (((Ay21.keep Kcy22).keep Kcy23).keep Kcy26)) (allS (((nsV fy22_3).keep Kcy23).keep Kcy26) all0)))
        have ry55 := (Sta_keep HS_jdk_internal_util_Preconditions_IOOBE_FORMATTER Ky29)
        have ney56 := nlt (((Ay21.keep Kcy22).keep Kcy23).keep Kcy26).lt bfy29_0
        have ney57 := nlt (((Ay21.keep Kcy22).keep Kcy23).keep Kcy26).lt bfy29_1
        have ney58 := nlt (((nsV fy22_3).keep Kcy23).keep Kcy26).lt bfy29_0
        have ney59 := nlt (((nsV fy22_3).keep Kcy23).keep Kcy26).lt bfy29_1
        have ney60 := nlt ((((((((nsV Vy5).wr Wy6).wr Wy7).wr Wy8).ext Ey21).keep Kcy22).keep Kcy23).keep Kcy26).lt bfy29_0
        have ney61 := nlt ((((((((nsV Vy5).wr Wy6).wr Wy7).wr Wy8).ext Ey21).keep Kcy22).keep Kcy23).keep Kcy26).lt bfy29_1
        obtain ⟨cqy62, kqy62, qy62a, qy62b, qy62c⟩ := isOf hZ rfl ry50
        obtain ⟨_, Ty62, Lcy62, Xy62, hQy62, sty62⟩ := pack (Xy29.virtualBack hx (y := n4) (z := n4) hown (mvT hZ (W_ hw 21)) (mvT hZ (W_ hw 22)) (notFace_of_selects (args := #[]) (mvT hZ (W_ hw 24))) (mvT hZ (W_ hw 24)) (mvT hZ (W_ hw 23)) (by decide) (backOf (W := 0) (rmto l Z a0 hw [] by21 by5 BB ao_y22 ko_y22 (2 : Int32) by29 bo_y29 ab_y29 kb_y29 (0 : Int32) [(.int 0), (.int 0), (.int 0), (.int 0), (.int 0), (.int 0), (.int 0), (.int 0), (.int 0), (.int 0), (.int 0), (.int 0), (.int 0), (.int 0), (.int 0), (.int 0)] LI BB ky5 YL wc gv Ty29.heap n0 Zy29 ry50 fy29_0 fy29_1 fy29_2 fy29_3 fy29_4 fy29_5 fy29_6 fy29_7 fy29_9 fy29_10 fy29_11 fy29_12 fy29_13 ry53 ry54 ry55 gzy29_0 gzy29_1 hB hY hwc hgv ppy22_0 (by decide) rfl (Int32.zero_add BB).symm hi2 ney22_0 ney56 ney57 ney58 ney59 ney29_1 ney29_2 ney29_0 ney60 ney61) hZ (W_ hw 25) (W_ hw 3) (by decide) (by decide)) qy62a qy62c (g := (mkF m 208 #[iv p1, iv p2, iv p3, iv p4, rv by1, rv by5, iv AA, iv BB, iv 0, iv 1, iv LO, iv LI, rv by21, iv 0, .val .null, iv 1, rv by29, .unset, .unset, .unset, .unset] [(.int BB), (.int 0), (.ref by5), (.ref by21)])) rfl (by rw [hml]; rfl) (Steps.refl _) (argsL := [(.ref by5), (.int 0), (.int BB)]) (rest := []) (lenOf pd_5 rfl) rfl (lb rfl) (hb hby at_208) (fun _ _ => ⟨rfl, rfl, (by decide : 7 + 0 ≤ _), (by decide : 37 + 0 ≤ _)⟩))
        obtain ⟨rfl, Nqy62, Kcy62, fy62_0, fy62_1, fy62_2, fy62_3⟩ := hQy62
        have Ny62 := Fr.app Ny29 Nqy62
        have Zy62 := Nat.le_trans Zy29 Kcy62.1
        have Ky62 := Ky29.trans Kcy62 (allS (Or.inr szy29_0) (allS (Or.inr szy29_1) all0))
        refine Fin.step (sty62) ?_
        show Fin p e below s _ _ _ (Ty62.setTop (mkF m 211 #[iv p1, iv p2, iv p3, iv p4, rv by1, rv by5, iv AA, iv BB, iv 0, iv 1, iv LO, iv LI, rv by21, iv 0, .val .null, iv 1, rv by29, .unset, .unset, .unset, .unset] []))
        refine Fin.step (fun _ k => Yo.aload Xy62.here hx (hb hby at_211) rfl rfl k) ?_
        have ry63 := (fy29_0.keep Kcy62 (ninS ney56 (ninS ney57 nin0)))
        have ry64 := (fy29_1.keep Kcy62 (ninS ney56 (ninS ney57 nin0)))
        have ry65 := (fy29_2.keep Kcy62 (ninS ney56 (ninS ney57 nin0)))
        have ry66 := (fy29_3.keep Kcy62 (ninS ney58 (ninS ney59 nin0)))
        have ry67 := (fy29_5.keep Kcy62 (ninS ney29_1 (ninS ney29_2 nin0)))
        have ry68 := (fy29_7.keep Kcy62 (ninS ney29_1 (ninS ney29_2 nin0)))
        have ry69 := (fy29_8.keep Kcy62 (ninS ney29_1 (ninS ney29_2 nin0)))
        have ry70 := (Sta_keepW ry54 Kcy62 (allS (nsE fy29_9) (allS (nsV fy29_13) all0)))
        have ney71 := nlt (((Ay21.keep Kcy22).keep Kcy23).keep Kcy26).lt bzy29
        have ney72 := nlt (((nsV fy22_3).keep Kcy23).keep Kcy26).lt bzy29
        obtain ⟨cqy73, kqy73, qy73a, qy73b, qy73c⟩ := isOf hZ rfl (ry50.keep Kcy62)
        obtain ⟨_, Ty73, Lcy73, Xy73, hQy73, sty73⟩ := pack (Xy62.virtualBack hx (y := n5) (z := n5) hown (mvT hZ (W_ hw 28)) (mvT hZ (W_ hw 29)) (notFace_of_selects (args := #[]) (mvT hZ (W_ hw 31))) (mvT hZ (W_ hw 31)) (mvT hZ (W_ hw 30)) (by decide) (backOf (W := 0) (rmes2 l Z a0 hw [] by21 ao_y22 ko_y22 by29 bo_y29 ab_y29 kb_y29 BB (own_app [(.int 0), (.int 0), (.int 0), (.int 0), (.int 0), (.int 0), (.int 0), (.int 0), (.int 0), (.int 0), (.int 0), (.int 0), (.int 0), (.int 0), (.int 0), (.int 0)] YL (0 : Int32).toNatClampNeg BB.toNatClampNeg) wc Ty62.heap n0 Zy62 (ry50.keep Kcy62) ry63 ry64 ry65 ry66 (fy29_4.keep Kcy62) ry67 ry68 ry69 (fy29_9.keep Kcy62) fy62_0 fy62_1 fy62_2 fy62_3 ry70 gzy21 gzy22_0 gzy29 (own_6 (own_pi hB)) hwc ney22_0 (Ne.symm ney71) (Ne.symm ney72) (Ne.symm ney56) (Ne.symm ney58) (Ne.symm ney29_1) (Ne.symm ney57) (Ne.symm ney59) (Ne.symm ney29_2)) hZ (W_ hw 32) (W_ hw 3) (by decide) (by decide)) qy73a qy73c (g := (mkF m 213 #[iv p1, iv p2, iv p3, iv p4, rv by1, rv by5, iv AA, iv BB, iv 0, iv 1, iv LO, iv LI, rv by21, iv 0, .val .null, iv 1, rv by29, .unset, .unset, .unset, .unset] [(.ref by21)])) rfl (by rw [hml]; rfl) (Steps.refl _) (argsL := []) (rest := []) (lenOf pd_1 rfl) rfl (lb rfl) (hb hby at_213) (fun _ _ => ⟨rfl, rfl, (by decide : 7 + 2 ≤ _), (by decide : 37 + 10 ≤ _)⟩))
        obtain ⟨so_y73, nb_y73, kn_y73, rfl, bfy73_0, bfy73_1, Nqy73, Kcy73, fy73_0, fy73_1, fy73_2, fy73_3, fy73_4, fy73_5, fy73_6, fy73_7, fy73_8, ney73_0⟩ := hQy73
        have Ny73 := Fr.app Ny62 Nqy73
        have gzy73_0 : n0 ≤ so_y73 := Nat.le_trans Zy62 bfy73_0
        have szy73_0 : h0.size ≤ so_y73 := Nat.le_trans Ky62.1 bfy73_0
        have gzy73_1 : n0 ≤ nb_y73 := Nat.le_trans Zy62 bfy73_1
        have szy73_1 : h0.size ≤ nb_y73 := Nat.le_trans Ky62.1 bfy73_1
        have Zy73 := Nat.le_trans Zy62 Kcy73.1
        have Ky73 := Ky62.trans Kcy73 (allS (Or.inr szy21) (allS (Or.inr szy22_0) (allS (Or.inr szy29) all0)))
        refine Fin.step (sty73) ?_
        show Fin p e below s _ _ _ (Ty73.setTop (mkF m 216 #[iv p1, iv p2, iv p3, iv p4, rv by1, rv by5, iv AA, iv BB, iv 0, iv 1, iv LO, iv LI, rv by21, iv 0, .val .null, iv 1, rv by29, .unset, .unset, .unset, .unset] [(.int 1)]))
        refine Fin.step (fun _ k => Yo.istore Xy73.here hx (hb hby at_216) rfl (l' := #[iv p1, iv p2, iv p3, iv p4, rv by1, rv by5, iv AA, iv BB, iv 0, iv 1, iv LO, iv LI, rv by21, iv 0, .val .null, iv 1, rv by29, iv 1, .unset, .unset, .unset]) rfl (Yo.iload Xy73.here hx (hb hby at_218) rfl (Yo.ifNo Xy73.here hx (hb hby at_220) rfl ((if0 _ _).trans (teq ((by decide) : ((0 : Int32) = (0 : Int32)))).2) (Yo.iload Xy73.here hx (hb hby at_223) rfl (Yo.iconst Xy73.here hx (hb hby at_225) (Yo.icmpNo Xy73.here hx (hb hby at_226) rfl (teq ((by decide) : ((1 : Int32) = (1 : Int32)))).2 (Yo.iload Xy73.here hx (hb hby at_229) rfl (Yo.iconst Xy73.here hx (hb hby at_231) k)))))))) ?_
        refine Fin.step (fun _ k => Yo.icmpNo Xy73.here hx (hb hby at_232) rfl (teq ((by decide) : ((1 : Int32) = (1 : Int32)))).2 (Yo.iconst Xy73.here hx (hb hby at_235) (Yo.goto Xy73.here hx (pc0 := 236) (pc' := 240) rfl (hb hby at_236) (by decide) (by decide) (Yo.istore Xy73.here hx (hb hby at_240) rfl (l' := #[iv p1, iv p2, iv p3, iv p4, rv by1, rv by5, iv AA, iv BB, iv 0, iv 1, iv LO, iv LI, rv by21, iv 0, .val .null, iv 1, rv by29, iv 1, iv 1, .unset, .unset]) rfl (Yo.aload Xy73.here hx (hb hby at_242) rfl rfl (Yo.ifnullYes Xy73.here hx (pc0 := 244) (pc' := 267) rfl (hb hby at_244) rfl (by decide) (by decide) (Yo.aload Xy73.here hx (hb hby at_267) rfl rfl (Yo.ifnullNo Xy73.here hx (hb hby at_269) rfl k)))))))) ?_
        refine Fin.step (fun _ k => Yo.aload Xy73.here hx (hb hby at_272) rfl rfl k) ?_
        have ry75 := ((fy29_4.keep Kcy62).keep Kcy73)
        obtain ⟨cqy74, kqy74, qy74a, qy74b, qy74c⟩ := isOf hZ rfl ry75
        obtain ⟨_, Ty74, Lcy74, Xy74, hQy74, sty74⟩ := pack (Xy73.virtualBack hx (y := n20) (z := n20) hown (mvT hZ (W_ hw 122)) (mvT hZ (W_ hw 123)) (notFace_of_selects (args := #[]) (mvT hZ (W_ hw 125))) (mvT hZ (W_ hw 125)) (mvT hZ (W_ hw 124)) (by decide) (backOf (W := 0) (rmg1 l Z a0 hw [] by29 so_y73 Ty73.heap n0 Zy73 fy73_4) hZ (W_ hw 126) (W_ hw 39) (by decide) (by decide)) qy74a qy74c (g := (mkF m 274 #[iv p1, iv p2, iv p3, iv p4, rv by1, rv by5, iv AA, iv BB, iv 0, iv 1, iv LO, iv LI, rv by21, iv 0, .val .null, iv 1, rv by29, iv 1, iv 1, .unset, .unset] [(.ref by29)])) rfl (by rw [hml]; rfl) (Steps.refl _) (argsL := []) (rest := []) (lenOf pd_15 rfl) rfl (lb rfl) (hb hby at_274) (fun _ _ => ⟨rfl, rfl, (by decide : 9 + 0 ≤ _), (by decide : 47 + 0 ≤ _)⟩))
        obtain ⟨rfl, Nqy74, eqy74⟩ := hQy74
        have Ny74 := Fr.app Ny73 Nqy74
        refine Fin.step (sty74) ?_
        show Fin p e below s _ _ _ (Ty74.setTop (mkF m 277 #[iv p1, iv p2, iv p3, iv p4, rv by1, rv by5, iv AA, iv BB, iv 0, iv 1, iv LO, iv LI, rv by21, iv 0, .val .null, iv 1, rv by29, iv 1, iv 1, .unset, .unset] [(.ref so_y73)]))
        refine Fin.step (fun _ k => Yo.astore Xy74.here hx (hb hby at_277) rfl rfl (l' := #[iv p1, iv p2, iv p3, iv p4, rv by1, rv by5, iv AA, iv BB, iv 0, iv 1, iv LO, iv LI, rv by21, iv 0, .val .null, iv 1, rv by29, iv 1, iv 1, rv so_y73, .unset]) rfl (Yo.iload Xy74.here hx (hb hby at_279) rfl (Yo.iload Xy74.here hx (hb hby at_281) rfl (Yo.icmpNo Xy74.here hx (hb hby at_283) rfl (flt ((fun q => hi2 ((own_lim hLI (own_pi hB)).mpr q)) : ¬ (LI < BB))).2.2.1 (Yo.iload Xy74.here hx (hb hby at_286) rfl (Yo.ifNo Xy74.here hx (hb hby at_288) rfl ((if0 _ _).trans (feq ((by decide) : ¬ ((1 : Int32) = (0 : Int32)))).1) (Yo.aload Xy74.here hx (hb hby at_291) rfl rfl (Yo.aload Xy74.here hx (hb hby at_293) rfl rfl k)))))))) ?_
        refine Fin.step (fun _ k => Yo.iload Xy74.here hx (hb hby at_295) rfl (Yo.aload Xy74.here hx (hb hby at_297) rfl rfl (Yo.iconst Xy74.here hx (hb hby at_299) k))) ?_
        have ney76 := nlt ((((((((nsV Vy5).wr Wy6).wr Wy7).wr Wy8).ext Ey21).keep Kcy22).keep Kcy23).keep Kcy26).lt bzy29
        have ry77 := ((ry53.keep Kcy62 (ninS ney60 (ninS ney61 nin0))).keep Kcy73 (ninS ney51 (ninS ney52 (ninS ney76 nin0))))
        have ney78 := nlt ((((nsV Vy1).wr Wy2).wr Wy3).wr Wy4).lt (Nat.le_of_eq gy5.symm)
        have ney79 := nlt ((((((((nsV Vy1).wr Wy2).wr Wy3).wr Wy4).ext Ey5).wr Wy6).wr Wy7).wr Wy8).lt (Nat.le_of_eq gy21.symm)
        have ney80 := nlt (((((((((nsV Vy1).wr Wy2).wr Wy3).wr Wy4).ext Ey5).wr Wy6).wr Wy7).wr Wy8).ext Ey21).lt bfy22_0
        have ney81 := nlt ((((((((((((nsV Vy1).wr Wy2).wr Wy3).wr Wy4).ext Ey5).wr Wy6).wr Wy7).wr Wy8).ext Ey21).keep Kcy22).keep Kcy23).keep Kcy26).lt bfy29_1
        have ney82 := nlt ((((((((((((nsV Vy1).wr Wy2).wr Wy3).wr Wy4).ext Ey5).wr Wy6).wr Wy7).wr Wy8).ext Ey21).keep Kcy22).keep Kcy23).keep Kcy26).lt bfy29_0
        have ney83 := nlt ((((((((((((nsV Vy1).wr Wy2).wr Wy3).wr Wy4).ext Ey5).wr Wy6).wr Wy7).wr Wy8).ext Ey21).keep Kcy22).keep Kcy23).keep Kcy26).lt bzy29
        have ry84 := (((((((((((VLXL.ext Ey5).other Wy6 ney78).other Wy7 ney78).other Wy8 ney78).ext Ey21).keep Kcy22 (ninS ney79 nin0)).keep Kcy23 (ninS ney79 nin0)).keep Kcy26 (ninS ney79 nin0)).keep Kcy29 (ninS ney79 (ninS ney80 nin0))).keep Kcy62 (ninS ney82 (ninS ney81 nin0))).keep Kcy73 (ninS ney79 (ninS ney80 (ninS ney83 nin0))))
        have ry85 := (Sta_keep HS_jdk_internal_util_Preconditions_SIOOBE_FORMATTER Ky73)
        have ry86 := (Sta_keepW ry70 Kcy73 (allS (nsE (((((Ay21.keep Kcy22).keep Kcy23).keep Kcy26).keep Kcy29).keep Kcy62)) (allS (((((nsV fy22_3).keep Kcy23).keep Kcy26).keep Kcy29).keep Kcy62) (allS (nsE (fy29_4.keep Kcy62)) all0))))
        obtain ⟨_, Ty87, Lcy87, Xy87, hQy87, sty87⟩ := packS (Jvm.LawKit.callS Xy74 hx (y := n30) hown (mvT hZ (W_ hw 178)) (mvT hZ (W_ hw 179)) (mvT hZ (W_ hw 180)) (mvT hZ (W_ hw 181)) (by decide) (backOf (W := 0) (rmma l Z a0 hw [] so_y73 by5 BB by1 (0 : Int32) nb_y73 kn_y73 BB (own_cp (own_app [(.int 0), (.int 0), (.int 0), (.int 0), (.int 0), (.int 0), (.int 0), (.int 0), (.int 0), (.int 0), (.int 0), (.int 0), (.int 0), (.int 0), (.int 0), (.int 0)] YL (0 : Int32).toNatClampNeg BB.toNatClampNeg) BB.toNatClampNeg) ky5 YL ky1 XL fv wc Ty73.heap n0 Zy73 fy73_5 fy73_6 fy73_7 fy73_8 ry77 ry84 ry85 ry86 hfv hwc hY hX (Int32.add_zero BB).symm (fun j u v => own_oki (own_pi hB) rfl hX hY u v)) hZ (W_ hw 181) (W_ hw 180) (by decide) (by decide)) (g := (mkF m 300 #[iv p1, iv p2, iv p3, iv p4, rv by1, rv by5, iv AA, iv BB, iv 0, iv 1, iv LO, iv LI, rv by21, iv 0, .val .null, iv 1, rv by29, iv 1, iv 1, rv so_y73, .unset] [(.int 0), (.ref by1), (.int BB), (.ref by5), (.ref so_y73)])) rfl (by rw [hml]; rfl) (argsL := [(.ref so_y73), (.ref by5), (.int BB), (.ref by1), (.int 0)]) (rest := []) (lenOf pd_25 rfl) rfl (lb rfl) (hb hby at_300) (fun _ _ => ⟨rfl, eqy74, (by decide : 9 + 0 ≤ _), (by decide : 47 + 0 ≤ _)⟩))
        obtain ⟨rfl, Nqy87, eqy87⟩ := hQy87
        have Ny87 := Fr.app Ny74 Nqy87
        refine Fin.step (sty87) ?_
        show Fin p e below s _ _ _ (Ty87.setTop (mkF m 303 #[iv p1, iv p2, iv p3, iv p4, rv by1, rv by5, iv AA, iv BB, iv 0, iv 1, iv LO, iv LI, rv by21, iv 0, .val .null, iv 1, rv by29, iv 1, iv 1, rv so_y73, .unset] [(.int 1)]))
        refine Fin.step (fun _ k => Yo.ifNo Xy87.here hx (hb hby at_303) rfl ((if0 _ _).trans (feq ((by decide) : ¬ ((1 : Int32) = (0 : Int32)))).1) (Yo.iconst Xy87.here hx (hb hby at_306) (Yo.goto Xy87.here hx (pc0 := 307) (pc' := 311) rfl (hb hby at_307) (by decide) (by decide) (Yo.istore Xy87.here hx (hb hby at_311) rfl (l' := #[iv p1, iv p2, iv p3, iv p4, rv by1, rv by5, iv AA, iv BB, iv 0, iv 1, iv LO, iv LI, rv by21, iv 0, .val .null, iv 1, rv by29, iv 1, iv 1, rv so_y73, .unset]) rfl (Yo.goto Xy87.here hx (pc0 := 313) (pc' := 333) rfl (hb hby at_313) (by decide) (by decide) (Yo.aload Xy87.here hx (hb hby at_333) rfl rfl k)))))) ?_
        have ry88 := ((ry50.keep Kcy62).keep Kcy73)
        obtain ⟨cqy89, kqy89, qy89a, qy89b, qy89c⟩ := isOf hZ eqy87 ry88
        obtain ⟨_, Ty89, Lcy89, Xy89, hQy89, sty89⟩ := pack (Xy87.virtualBack hx (y := n5) (z := n5) hown (mvT hZ (W_ hw 28)) (mvT hZ (W_ hw 29)) (notFace_of_selects (args := #[]) (mvT hZ (W_ hw 31))) (mvT hZ (W_ hw 31)) (mvT hZ (W_ hw 30)) (by decide) (backOf (W := 0) (rmen1 l Z a0 hw [] by21 ao_y22 Ty73.heap n0 Zy73 ry88 fy73_0 fy73_1 fy73_2 gzy21) hZ (W_ hw 32) (W_ hw 3) (by decide) (by decide)) qy89a qy89c (g := (mkF m 335 #[iv p1, iv p2, iv p3, iv p4, rv by1, rv by5, iv AA, iv BB, iv 0, iv 1, iv LO, iv LI, rv by21, iv 0, .val .null, iv 1, rv by29, iv 1, iv 1, rv so_y73, .unset] [(.ref by21)])) rfl (by rw [hml]; rfl) (Steps.refl _) (argsL := []) (rest := []) (lenOf pd_1 rfl) rfl (lb rfl) (hb hby at_335) (fun _ _ => ⟨rfl, eqy87, (by decide : 9 + 0 ≤ _), (by decide : 47 + 0 ≤ _)⟩))
        obtain ⟨rfl, Nqy89, Kcy89, fy89_0, fy89_1, fy89_2⟩ := hQy89
        have Ny89 := Fr.app Ny87 Nqy89
        have Zy89 := Nat.le_trans Zy73 Kcy89.1
        have Ky89 := Ky73.trans Kcy89 (allS (Or.inr szy21) all0)
        refine Fin.step (sty89) ?_
        show Fin p e below s _ _ _ (Ty89.setTop (mkF m 338 #[iv p1, iv p2, iv p3, iv p4, rv by1, rv by5, iv AA, iv BB, iv 0, iv 1, iv LO, iv LI, rv by21, iv 0, .val .null, iv 1, rv by29, iv 1, iv 1, rv so_y73, .unset] [(.int 0)]))
        refine Fin.step (fun _ k => Yo.istore Xy89.here hx (hb hby at_338) rfl (l' := #[iv p1, iv p2, iv p3, iv p4, rv by1, rv by5, iv AA, iv BB, iv 0, iv 1, iv LO, iv LI, rv by21, iv 0, .val .null, iv 1, rv by29, iv 1, iv 1, iv 0, .unset]) rfl (Yo.iload Xy89.here hx (hb hby at_340) rfl (Yo.ifNo Xy89.here hx (hb hby at_342) rfl ((if0 _ _).trans (feq ((by decide) : ¬ ((1 : Int32) = (0 : Int32)))).1) (Yo.iload Xy89.here hx (hb hby at_345) rfl (Yo.ifNo Xy89.here hx (hb hby at_347) rfl ((if0 _ _).trans (teq ((by decide) : ((0 : Int32) = (0 : Int32)))).2) (Yo.iconst Xy89.here hx (hb hby at_350) (Yo.goto Xy89.here hx (pc0 := 351) (pc' := 355) rfl (hb hby at_351) (by decide) (by decide) (Yo.istore Xy89.here hx (hb hby at_355) rfl (l' := #[iv p1, iv p2, iv p3, iv p4, rv by1, rv by5, iv AA, iv BB, iv 0, iv 1, iv LO, iv LI, rv by21, iv 0, .val .null, iv 1, rv by29, iv 1, iv 1, iv 0, .unset]) rfl k)))))))) ?_
        refine Fin.step (fun _ k => Yo.aload Xy89.here hx (hb hby at_357) rfl rfl (Yo.ifnullYes Xy89.here hx (pc0 := 359) (pc' := 427) rfl (hb hby at_359) rfl (by decide) (by decide) (Yo.iload Xy89.here hx (hb hby at_427) rfl k))) ?_
        refine Fin.retN Xy89 hx (t := .boolean) hret (by simp) hlk (hb hby at_429) (by decide) (by decide) ?_
        show Q0 Z p1 p2 p3 p4 fv gv wc h0 n0 _ Ty89.heap _
        exact ⟨rfl, Ny89, Ky89⟩
  · refine Fin.step (fun _ k => Yo.ifNo Xy8.here hx (hb hby at_93) rfl ((if0 _ _).trans (feq (hcy9 : ¬ (((ushI p3 (4 : Int32)) &&& (1 : Int32)) = (0 : Int32)))).1) (Yo.iconst Xy8.here hx (hb hby at_96) (Yo.goto Xy8.here hx (pc0 := 97) (pc' := 101) rfl (hb hby at_97) (by decide) (by decide) (Yo.istore Xy8.here hx (hb hby at_101) rfl (l' := #[iv p1, iv p2, iv p3, iv p4, rv by1, rv by5, iv AA, iv BB, iv 1, .unset, .unset, .unset, .unset, .unset, .unset, .unset, .unset, .unset, .unset, .unset, .unset]) rfl (Yo.iloadN Xy8.here hx (hb hby at_103) rfl (Yo.iconst Xy8.here hx (hb hby at_104) (Yo.iushr Xy8.here hx (hb hby at_105) rfl k))))))) ?_
    show Fin p e below s _ _ _ (Ty8.setTop (mkF m 106 #[iv p1, iv p2, iv p3, iv p4, rv by1, rv by5, iv AA, iv BB, iv 1, .unset, .unset, .unset, .unset, .unset, .unset, .unset, .unset, .unset, .unset, .unset, .unset] [(.int (ushI p3 (5 : Int32)))]))
    refine Fin.step (fun _ k => Yo.iconst Xy8.here hx (hb hby at_106) (Yo.iand Xy8.here hx (hb hby at_107) rfl k)) ?_
    show Fin p e below s _ _ _ (Ty8.setTop (mkF m 108 #[iv p1, iv p2, iv p3, iv p4, rv by1, rv by5, iv AA, iv BB, iv 1, .unset, .unset, .unset, .unset, .unset, .unset, .unset, .unset, .unset, .unset, .unset, .unset] [(.int ((ushI p3 (5 : Int32)) &&& (1 : Int32)))]))
    by_cases hcy90 : ((ushI p3 (5 : Int32)) &&& (1 : Int32)) = (0 : Int32)
    · refine Fin.step (fun _ k => Yo.ifYes Xy8.here hx (pc0 := 108) (pc' := 115) rfl (hb hby at_108) rfl ((if0 _ _).trans (teq (hcy90 : (((ushI p3 (5 : Int32)) &&& (1 : Int32)) = (0 : Int32)))).1) (by decide) (by decide) (Yo.iconst Xy8.here hx (hb hby at_115) (Yo.istore Xy8.here hx (hb hby at_116) rfl (l' := #[iv p1, iv p2, iv p3, iv p4, rv by1, rv by5, iv AA, iv BB, iv 1, iv 0, .unset, .unset, .unset, .unset, .unset, .unset, .unset, .unset, .unset, .unset, .unset]) rfl (Yo.iloadN Xy8.here hx (hb hby at_118) rfl (Yo.bipush Xy8.here hx (hb hby at_119) (Yo.iand Xy8.here hx (hb hby at_121) rfl k)))))) ?_
      show Fin p e below s _ _ _ (Ty8.setTop (mkF m 122 #[iv p1, iv p2, iv p3, iv p4, rv by1, rv by5, iv AA, iv BB, iv 1, iv 0, .unset, .unset, .unset, .unset, .unset, .unset, .unset, .unset, .unset, .unset, .unset] [(.int (p4 &&& (7 : Int32)))]))
      refine Fin.step (fun _ k => Yo.istore Xy8.here hx (hb hby at_122) rfl (l' := #[iv p1, iv p2, iv p3, iv p4, rv by1, rv by5, iv AA, iv BB, iv 1, iv 0, .val (.int (p4 &&& (7 : Int32))), .unset, .unset, .unset, .unset, .unset, .unset, .unset, .unset, .unset, .unset]) rfl k) ?_
      obtain ⟨LO, h_LO⟩ : ∃ z : Int32, z = (p4 &&& (7 : Int32)) := ⟨_, rfl⟩
      rw [← h_LO]
      show Fin p e below s _ _ _ (Ty8.setTop (mkF m 124 #[iv p1, iv p2, iv p3, iv p4, rv by1, rv by5, iv AA, iv BB, iv 1, iv 0, iv LO, .unset, .unset, .unset, .unset, .unset, .unset, .unset, .unset, .unset, .unset] []))
      have hLO : 0 ≤ LO.toInt ∧ LO.toInt ≤ 7 := by rw [h_LO]; exact own_m7 _
      refine Fin.step (fun _ k => Yo.iloadN Xy8.here hx (hb hby at_124) rfl (Yo.iconst Xy8.here hx (hb hby at_125) (Yo.iushr Xy8.here hx (hb hby at_126) rfl k))) ?_
      show Fin p e below s _ _ _ (Ty8.setTop (mkF m 127 #[iv p1, iv p2, iv p3, iv p4, rv by1, rv by5, iv AA, iv BB, iv 1, iv 0, iv LO, .unset, .unset, .unset, .unset, .unset, .unset, .unset, .unset, .unset, .unset] [(.int (ushI p4 (3 : Int32)))]))
      refine Fin.step (fun _ k => Yo.bipush Xy8.here hx (hb hby at_127) (Yo.iand Xy8.here hx (hb hby at_129) rfl k)) ?_
      show Fin p e below s _ _ _ (Ty8.setTop (mkF m 130 #[iv p1, iv p2, iv p3, iv p4, rv by1, rv by5, iv AA, iv BB, iv 1, iv 0, iv LO, .unset, .unset, .unset, .unset, .unset, .unset, .unset, .unset, .unset, .unset] [(.int ((ushI p4 (3 : Int32)) &&& (7 : Int32)))]))
      refine Fin.step (fun _ k => Yo.istore Xy8.here hx (hb hby at_130) rfl (l' := #[iv p1, iv p2, iv p3, iv p4, rv by1, rv by5, iv AA, iv BB, iv 1, iv 0, iv LO, .val (.int ((ushI p4 (3 : Int32)) &&& (7 : Int32))), .unset, .unset, .unset, .unset, .unset, .unset, .unset, .unset, .unset]) rfl k) ?_
      obtain ⟨LI, h_LI⟩ : ∃ z : Int32, z = ((ushI p4 (3 : Int32)) &&& (7 : Int32)) := ⟨_, rfl⟩
      rw [← h_LI]
      show Fin p e below s _ _ _ (Ty8.setTop (mkF m 132 #[iv p1, iv p2, iv p3, iv p4, rv by1, rv by5, iv AA, iv BB, iv 1, iv 0, iv LO, iv LI, .unset, .unset, .unset, .unset, .unset, .unset, .unset, .unset, .unset] []))
      have hLI : 0 ≤ LI.toInt ∧ LI.toInt ≤ 7 := by rw [h_LI]; exact own_m7 _
      obtain ⟨Ty91, hy91, Xy91, ey91, Ey91, Ay91, Dy91, -, sty91⟩ := newO Xy8 hx hZ hown (W_ hw 1) (W_ hw 2) (W_ hw 3) ey8 (g := (mkF m 132 #[iv p1, iv p2, iv p3, iv p4, rv by1, rv by5, iv AA, iv BB, iv 1, iv 0, iv LO, iv LI, .unset, .unset, .unset, .unset, .unset, .unset, .unset, .unset, .unset] [])) rfl (hb hby at_132) (by decide) (by decide)
      obtain ⟨by91, gy91⟩ : ∃ z, z = hy8.size := ⟨_, rfl⟩
      rw [← gy91] at Ay91 Dy91 sty91
      have gzy91 : n0 ≤ by91 := Nat.le_trans Zy8 (Nat.le_of_eq gy91.symm)
      have szy91 : h0.size ≤ by91 := Nat.le_trans Ky8.1 (Nat.le_of_eq gy91.symm)
      have Zy91 := Nat.le_trans Zy8 Ey91.1
      have Ky91 := Ky8.ext Ey91
      have F_open_by91 : Fld Z hy91 by91 q1 "open" q9 .null := Dy91 (Or.inl (W_ hw 13)) (ty := (.array (.object "com/example/uzor/uzor/StringValues$Value"))) (by decide)
      have F_depth_by91 : Fld Z hy91 by91 q1 "depth" "I" (.int 0) := Dy91 (Or.inl (W_ hw 20)) (ty := .int) (by decide)
      have F_count_by91 : Fld Z hy91 by91 q1 "count" "I" (.int 0) := Dy91 (Or.inl (W_ hw 27)) (ty := .int) (by decide)
      refine Fin.step (sty91) ?_
      show Fin p e below s _ _ _ (Ty91.setTop (mkF m 135 #[iv p1, iv p2, iv p3, iv p4, rv by1, rv by5, iv AA, iv BB, iv 1, iv 0, iv LO, iv LI, .unset, .unset, .unset, .unset, .unset, .unset, .unset, .unset, .unset] [(.ref by91)]))
      refine Fin.step (fun _ k => Yo.dup Xy91.here hx (hb hby at_135) rfl rfl k) ?_
      obtain ⟨_, Ty92, Lcy92, Xy92, hQy92, sty92⟩ := pack (Xy91.specialBack hx (y := n1) rfl hown (mvT hZ (W_ hw 4)) (mvT hZ (W_ hw 5)) (mvT hZ (W_ hw 6)) (by decide) (backOf (W := 1) (rmsvi l Z a0 hw [] by91 hy91 n0 Zy91 Ay91 F_open_by91 F_depth_by91 F_count_by91 gzy91) hZ (W_ hw 6) (W_ hw 3) (by decide) (by decide)) (g := (mkF m 136 #[iv p1, iv p2, iv p3, iv p4, rv by1, rv by5, iv AA, iv BB, iv 1, iv 0, iv LO, iv LI, .unset, .unset, .unset, .unset, .unset, .unset, .unset, .unset, .unset] [(.ref by91), (.ref by91)])) rfl (by rw [hml]; rfl) (Steps.refl _) (a := by91) (argsL := []) (rest := [(.ref by91)]) (lenOf pd_7 rfl) rfl (lb rfl) (hb hby at_136) (fun _ _ => ⟨rfl, ey91, (by decide : 3 + 1 ≤ _), (by decide : 9 + 4 ≤ _)⟩))
      obtain ⟨ao_y92, ko_y92, rfl, bfy92_0, Nqy92, Kcy92, fy92_0, fy92_1, fy92_2, fy92_3, ppy92_0, ney92_0⟩ := hQy92
      have Ny92 := Fr.app Ny8 Nqy92
      have gzy92_0 : n0 ≤ ao_y92 := Nat.le_trans Zy91 bfy92_0
      have szy92_0 : h0.size ≤ ao_y92 := Nat.le_trans Ky91.1 bfy92_0
      have Zy92 := Nat.le_trans Zy91 Kcy92.1
      have Ky92 := Ky91.trans Kcy92 (allS (Or.inr szy91) all0)
      refine Fin.step (sty92) ?_
      show Fin p e below s _ _ _ (Ty92.setTop (mkF m 139 #[iv p1, iv p2, iv p3, iv p4, rv by1, rv by5, iv AA, iv BB, iv 1, iv 0, iv LO, iv LI, .unset, .unset, .unset, .unset, .unset, .unset, .unset, .unset, .unset] [(.ref by91)]))
      refine Fin.step (fun _ k => Yo.astore Xy92.here hx (hb hby at_139) rfl rfl (l' := #[iv p1, iv p2, iv p3, iv p4, rv by1, rv by5, iv AA, iv BB, iv 1, iv 0, iv LO, iv LI, rv by91, .unset, .unset, .unset, .unset, .unset, .unset, .unset, .unset]) rfl (Yo.aload Xy92.here hx (hb hby at_141) rfl rfl k)) ?_
      obtain ⟨cqy93, kqy93, qy93a, qy93b, qy93c⟩ := isOf hZ rfl (Ay91.keep Kcy92)
      obtain ⟨_, Ty93, Lcy93, Xy93, hQy93, sty93⟩ := pack (Xy92.virtualBack hx (y := n3) (z := n3) hown (mvT hZ (W_ hw 14)) (mvT hZ (W_ hw 15)) (notFace_of_selects (args := #[]) (mvT hZ (W_ hw 17))) (mvT hZ (W_ hw 17)) (mvT hZ (W_ hw 16)) (by decide) (backOf (W := 0) (rmse0 l Z a0 hw [] by91 ao_y92 (0 : Int32) Ty92.heap n0 Zy92 (Ay91.keep Kcy92) fy92_0 fy92_1 fy92_2 gzy91) hZ (W_ hw 18) (W_ hw 3) (by decide) (by decide)) qy93a qy93c (g := (mkF m 143 #[iv p1, iv p2, iv p3, iv p4, rv by1, rv by5, iv AA, iv BB, iv 1, iv 0, iv LO, iv LI, rv by91, .unset, .unset, .unset, .unset, .unset, .unset, .unset, .unset] [(.ref by91)])) rfl (by rw [hml]; rfl) (Steps.refl _) (argsL := []) (rest := []) (lenOf pd_1 rfl) rfl (lb rfl) (hb hby at_143) (fun _ _ => ⟨rfl, rfl, (by decide : 4 + 0 ≤ _), (by decide : 13 + 0 ≤ _)⟩))
      obtain ⟨rfl, Nqy93, Kcy93, fy93_0, fy93_1, fy93_2⟩ := hQy93
      have Ny93 := Fr.app Ny92 Nqy93
      have Zy93 := Nat.le_trans Zy92 Kcy93.1
      have Ky93 := Ky92.trans Kcy93 (allS (Or.inr szy91) all0)
      refine Fin.step (sty93) ?_
      show Fin p e below s _ _ _ (Ty93.setTop (mkF m 146 #[iv p1, iv p2, iv p3, iv p4, rv by1, rv by5, iv AA, iv BB, iv 1, iv 0, iv LO, iv LI, rv by91, .unset, .unset, .unset, .unset, .unset, .unset, .unset, .unset] [(.int 0)]))
      refine Fin.step (fun _ k => Yo.istore Xy93.here hx (hb hby at_146) rfl (l' := #[iv p1, iv p2, iv p3, iv p4, rv by1, rv by5, iv AA, iv BB, iv 1, iv 0, iv LO, iv LI, rv by91, iv 0, .unset, .unset, .unset, .unset, .unset, .unset, .unset]) rfl (Yo.iload Xy93.here hx (hb hby at_148) rfl (Yo.ifNo Xy93.here hx (hb hby at_150) rfl ((if0 _ _).trans (feq ((by decide) : ¬ ((1 : Int32) = (0 : Int32)))).1) (Yo.aload Xy93.here hx (hb hby at_153) rfl rfl (Yo.iload Xy93.here hx (hb hby at_155) rfl k))))) ?_
      have ry94 := ((Ay91.keep Kcy92).keep Kcy93)
      have ry95 := (fy92_3.keep Kcy93 (ninS (Ne.symm ney92_0) nin0))
      have ry96 := (Sta_keep HS_java_lang_String_COMPACT_STRINGS Ky93)
      obtain ⟨cqy97, kqy97, qy97a, qy97b, qy97c⟩ := isOf hZ rfl ry94
      obtain ⟨_, Ty97, Lcy97, Xy97, hQy97, sty97⟩ := pack (Xy93.virtualBack hx (y := n6) (z := n6) hown (mvT hZ (W_ hw 33)) (mvT hZ (W_ hw 34)) (notFace_of_selects (args := #[]) (mvT hZ (W_ hw 36))) (mvT hZ (W_ hw 36)) (mvT hZ (W_ hw 35)) (by decide) (backOf (W := 0) (rmbu0 l Z a0 hw [] by91 LO ao_y92 ko_y92 (1 : Int32) wc Ty93.heap n0 Zy93 ry94 fy93_0 fy93_1 fy93_2 ry95 ry96 gzy91 gzy92_0 hwc ppy92_0 ney92_0) hZ (W_ hw 37) (W_ hw 3) (by decide) (by decide)) qy97a qy97c (g := (mkF m 157 #[iv p1, iv p2, iv p3, iv p4, rv by1, rv by5, iv AA, iv BB, iv 1, iv 0, iv LO, iv LI, rv by91, iv 0, .unset, .unset, .unset, .unset, .unset, .unset, .unset] [(.int LO), (.ref by91)])) rfl (by rw [hml]; rfl) (Steps.refl _) (argsL := [(.int LO)]) (rest := []) (lenOf pd_24 rfl) rfl (lb rfl) (hb hby at_157) (fun _ _ => ⟨rfl, rfl, (by decide : 4 + 3 ≤ _), (by decide : 13 + 24 ≤ _)⟩))
      obtain ⟨bo_y97, ab_y97, kb_y97, by97, rfl, bzy97, bfy97_0, bfy97_1, Nqy97, Kcy97, fy97_0, fy97_1, fy97_2, fy97_3, fy97_4, fy97_5, fy97_6, fy97_7, fy97_8, fy97_9, fy97_10, fy97_11, fy97_12, fy97_13, ney97_0, ney97_1, ney97_2⟩ := hQy97
      have Ny97 := Fr.app Ny93 Nqy97
      have gzy97 : n0 ≤ by97 := Nat.le_trans Zy93 bzy97
      have szy97 : h0.size ≤ by97 := Nat.le_trans Ky93.1 bzy97
      have gzy97_0 : n0 ≤ bo_y97 := Nat.le_trans Zy93 bfy97_0
      have szy97_0 : h0.size ≤ bo_y97 := Nat.le_trans Ky93.1 bfy97_0
      have gzy97_1 : n0 ≤ ab_y97 := Nat.le_trans Zy93 bfy97_1
      have szy97_1 : h0.size ≤ ab_y97 := Nat.le_trans Ky93.1 bfy97_1
      have Zy97 := Nat.le_trans Zy93 Kcy97.1
      have Ky97 := Ky93.trans Kcy97 (allS (Or.inr szy91) (allS (Or.inr szy92_0) all0))
      refine Fin.step (sty97) ?_
      show Fin p e below s _ _ _ (Ty97.setTop (mkF m 160 #[iv p1, iv p2, iv p3, iv p4, rv by1, rv by5, iv AA, iv BB, iv 1, iv 0, iv LO, iv LI, rv by91, iv 0, .unset, .unset, .unset, .unset, .unset, .unset, .unset] [(.ref by97)]))
      refine Fin.step (fun _ k => Yo.goto Xy97.here hx (pc0 := 160) (pc' := 164) rfl (hb hby at_160) (by decide) (by decide) (Yo.astore Xy97.here hx (hb hby at_164) rfl rfl (l' := #[iv p1, iv p2, iv p3, iv p4, rv by1, rv by5, iv AA, iv BB, iv 1, iv 0, iv LO, iv LI, rv by91, iv 0, rv by97, .unset, .unset, .unset, .unset, .unset, .unset]) rfl k)) ?_
      rcases Classical.em ((LO - AA) < (0 : Int32)) with ho1 | ho1
      · have ho1_ := ho1
        refine Fin.step (fun _ k => Yo.aload Xy97.here hx (hb hby at_166) rfl rfl (Yo.aload Xy97.here hx (hb hby at_168) rfl rfl (Yo.iconst Xy97.here hx (hb hby at_170) (Yo.iload Xy97.here hx (hb hby at_171) rfl k)))) ?_
        have ney98 := nlt ((((nsV Vy1).wr Wy2).wr Wy3).wr Wy4).lt (Nat.le_of_eq gy5.symm)
        have ney99 := nlt ((((((((nsV Vy1).wr Wy2).wr Wy3).wr Wy4).ext Ey5).wr Wy6).wr Wy7).wr Wy8).lt (Nat.le_of_eq gy91.symm)
        have ney100 := nlt (((((((((nsV Vy1).wr Wy2).wr Wy3).wr Wy4).ext Ey5).wr Wy6).wr Wy7).wr Wy8).ext Ey91).lt bfy92_0
        have ry101 := ((((((((VLXL.ext Ey5).other Wy6 ney98).other Wy7 ney98).other Wy8 ney98).ext Ey91).keep Kcy92 (ninS ney99 nin0)).keep Kcy93 (ninS ney99 nin0)).keep Kcy97 (ninS ney99 (ninS ney100 nin0)))
        have ry102 := (Sta_keepW ry96 Kcy97 (allS (nsE ((Ay91.keep Kcy92).keep Kcy93)) (allS ((nsV fy92_3).keep Kcy93) all0)))
        have ry103 := (Sta_keep HS_jdk_internal_util_Preconditions_IOOBE_FORMATTER Ky97)
        have ney104 := nlt ((Ay91.keep Kcy92).keep Kcy93).lt bzy97
        have ney105 := nlt ((nsV fy92_3).keep Kcy93).lt bzy97
        have ney106 := nlt ((Ay91.keep Kcy92).keep Kcy93).lt bfy97_0
        have ney107 := nlt ((nsV fy92_3).keep Kcy93).lt bfy97_0
        have ney108 := nlt ((Ay91.keep Kcy92).keep Kcy93).lt bfy97_1
        have ney109 := nlt ((nsV fy92_3).keep Kcy93).lt bfy97_1
        have ney110 := nlt (((((((((((nsV Vy1).wr Wy2).wr Wy3).wr Wy4).ext Ey5).wr Wy6).wr Wy7).wr Wy8).ext Ey91).keep Kcy92).keep Kcy93).lt bzy97
        obtain ⟨cqy111, kqy111, qy111a, qy111b, qy111c⟩ := isOf hZ rfl (ry94.keep Kcy97)
        obtain ⟨_, Ty111, Lcy111, Xy111, hQy111, sty111⟩ := pack (Xy97.virtualBack hx (y := n4) (z := n4) hown (mvT hZ (W_ hw 21)) (mvT hZ (W_ hw 22)) (notFace_of_selects (args := #[]) (mvT hZ (W_ hw 24))) (mvT hZ (W_ hw 24)) (mvT hZ (W_ hw 23)) (by decide) (backOf (W := 0) (rmtp l Z a0 hw [] by91 by1 AA ao_y92 ko_y92 (1 : Int32) by97 bo_y97 ab_y97 kb_y97 (0 : Int32) [(.int 0), (.int 0), (.int 0), (.int 0), (.int 0), (.int 0), (.int 0), (.int 0), (.int 0), (.int 0), (.int 0), (.int 0), (.int 0), (.int 0), (.int 0), (.int 0)] LO ky1 XL wc gv Ty97.heap n0 Zy97 (ry94.keep Kcy97) fy97_0 fy97_1 fy97_2 fy97_3 fy97_4 fy97_5 fy97_6 fy97_7 fy97_9 fy97_10 fy97_11 fy97_12 fy97_13 ry101 ry102 ry103 gzy91 gzy92_0 gzy97 hA hX hwc hgv ppy92_0 ho1 ney92_0 ney104 ney105 (Ne.symm ney106) (Ne.symm ney107) (Ne.symm ney97_1) (Ne.symm ney108) (Ne.symm ney109) (Ne.symm ney97_2) ney99 ney100 ney110) hZ (W_ hw 25) (W_ hw 3) (by decide) (by decide)) qy111a qy111c (g := (mkF m 173 #[iv p1, iv p2, iv p3, iv p4, rv by1, rv by5, iv AA, iv BB, iv 1, iv 0, iv LO, iv LI, rv by91, iv 0, rv by97, .unset, .unset, .unset, .unset, .unset, .unset] [(.int AA), (.int 0), (.ref by1), (.ref by91)])) rfl (by rw [hml]; rfl) (Steps.refl _) (argsL := [(.ref by1), (.int 0), (.int AA)]) (rest := []) (lenOf pd_5 rfl) rfl (lb rfl) (hb hby at_173) (fun _ _ => ⟨rfl, rfl, (by decide : 7 + 0 ≤ _), (by decide : 37 + 0 ≤ _)⟩))
        obtain ⟨rfl, Nqy111, Kcy111, fy111_0, fy111_1, fy111_2, fy111_3, fy111_4, fy111_5⟩ := hQy111
        have Ny111 := Fr.app Ny97 Nqy111
        have Zy111 := Nat.le_trans Zy97 Kcy111.1
        have Ky111 := Ky97.trans Kcy111 (allS (Or.inr szy91) (allS (Or.inr szy92_0) (allS (Or.inr szy97) all0)))
        refine Fin.step (sty111) ?_
        show Fin p e below s _ _ _ (Ty111.setTop (mkF m 176 #[iv p1, iv p2, iv p3, iv p4, rv by1, rv by5, iv AA, iv BB, iv 1, iv 0, iv LO, iv LI, rv by91, iv 0, rv by97, .unset, .unset, .unset, .unset, .unset, .unset] []))
        refine Fin.step (fun _ k => Yo.aload Xy111.here hx (hb hby at_176) rfl rfl k) ?_
        have ry112 := ((ry94.keep Kcy97).keep Kcy111)
        obtain ⟨cqy113, kqy113, qy113a, qy113b, qy113c⟩ := isOf hZ rfl ry112
        obtain ⟨_, Ty113, Lcy113, Xy113, hQy113, sty113⟩ := pack (Xy111.virtualBack hx (y := n3) (z := n3) hown (mvT hZ (W_ hw 14)) (mvT hZ (W_ hw 15)) (notFace_of_selects (args := #[]) (mvT hZ (W_ hw 17))) (mvT hZ (W_ hw 17)) (mvT hZ (W_ hw 16)) (by decide) (backOf (W := 0) (rmse1 l Z a0 hw [] by91 ao_y92 (0 : Int32) Ty111.heap n0 Zy111 ry112 fy111_0 fy111_1 fy111_2 gzy91) hZ (W_ hw 18) (W_ hw 3) (by decide) (by decide)) qy113a qy113c (g := (mkF m 178 #[iv p1, iv p2, iv p3, iv p4, rv by1, rv by5, iv AA, iv BB, iv 1, iv 0, iv LO, iv LI, rv by91, iv 0, rv by97, .unset, .unset, .unset, .unset, .unset, .unset] [(.ref by91)])) rfl (by rw [hml]; rfl) (Steps.refl _) (argsL := []) (rest := []) (lenOf pd_1 rfl) rfl (lb rfl) (hb hby at_178) (fun _ _ => ⟨rfl, rfl, (by decide : 7 + 0 ≤ _), (by decide : 37 + 0 ≤ _)⟩))
        obtain ⟨rfl, Nqy113, Kcy113, fy113_0, fy113_1, fy113_2⟩ := hQy113
        have Ny113 := Fr.app Ny111 Nqy113
        have Zy113 := Nat.le_trans Zy111 Kcy113.1
        have Ky113 := Ky111.trans Kcy113 (allS (Or.inr szy91) all0)
        refine Fin.step (sty113) ?_
        show Fin p e below s _ _ _ (Ty113.setTop (mkF m 181 #[iv p1, iv p2, iv p3, iv p4, rv by1, rv by5, iv AA, iv BB, iv 1, iv 0, iv LO, iv LI, rv by91, iv 0, rv by97, .unset, .unset, .unset, .unset, .unset, .unset] [(.int 1)]))
        refine Fin.step (fun _ k => Yo.istore Xy113.here hx (hb hby at_181) rfl (l' := #[iv p1, iv p2, iv p3, iv p4, rv by1, rv by5, iv AA, iv BB, iv 1, iv 0, iv LO, iv LI, rv by91, iv 0, rv by97, iv 1, .unset, .unset, .unset, .unset, .unset]) rfl (Yo.iload Xy113.here hx (hb hby at_183) rfl (Yo.ifYes Xy113.here hx (pc0 := 185) (pc' := 198) rfl (hb hby at_185) rfl ((if0 _ _).trans (teq ((by decide) : ((0 : Int32) = (0 : Int32)))).1) (by decide) (by decide) (Yo.aconstNull Xy113.here hx (hb hby at_198) (Yo.astore Xy113.here hx (hb hby at_199) rfl rfl (l' := #[iv p1, iv p2, iv p3, iv p4, rv by1, rv by5, iv AA, iv BB, iv 1, iv 0, iv LO, iv LI, rv by91, iv 0, rv by97, iv 1, .val .null, .unset, .unset, .unset, .unset]) rfl (Yo.aload Xy113.here hx (hb hby at_201) rfl rfl (Yo.aload Xy113.here hx (hb hby at_203) rfl rfl (Yo.iconst Xy113.here hx (hb hby at_205) k)))))))) ?_
        refine Fin.step (fun _ k => Yo.iload Xy113.here hx (hb hby at_206) rfl k) ?_
        obtain ⟨cqy114, kqy114, qy114a, qy114b, qy114c⟩ := isOf hZ rfl (ry112.keep Kcy113)
        obtain ⟨_, Ty114, Lcy114, Xy114, hQy114, sty114⟩ := pack (Xy113.virtualBack hx (y := n4) (z := n4) hown (mvT hZ (W_ hw 21)) (mvT hZ (W_ hw 22)) (notFace_of_selects (args := #[]) (mvT hZ (W_ hw 24))) (mvT hZ (W_ hw 24)) (mvT hZ (W_ hw 23)) (by decide) (backOf (W := 0) (rmt l Z a0 hw [] by91 by5 BB Ty113.heap n0 Zy113 fy113_2) hZ (W_ hw 25) (W_ hw 3) (by decide) (by decide)) qy114a qy114c (g := (mkF m 208 #[iv p1, iv p2, iv p3, iv p4, rv by1, rv by5, iv AA, iv BB, iv 1, iv 0, iv LO, iv LI, rv by91, iv 0, rv by97, iv 1, .val .null, .unset, .unset, .unset, .unset] [(.int BB), (.int 0), (.ref by5), (.ref by91)])) rfl (by rw [hml]; rfl) (Steps.refl _) (argsL := [(.ref by5), (.int 0), (.int BB)]) (rest := []) (lenOf pd_5 rfl) rfl (lb rfl) (hb hby at_208) (fun _ _ => ⟨rfl, rfl, (by decide : 7 + 0 ≤ _), (by decide : 37 + 0 ≤ _)⟩))
        obtain ⟨rfl, Nqy114, eqy114⟩ := hQy114
        have Ny114 := Fr.app Ny113 Nqy114
        refine Fin.step (sty114) ?_
        show Fin p e below s _ _ _ (Ty114.setTop (mkF m 211 #[iv p1, iv p2, iv p3, iv p4, rv by1, rv by5, iv AA, iv BB, iv 1, iv 0, iv LO, iv LI, rv by91, iv 0, rv by97, iv 1, .val .null, .unset, .unset, .unset, .unset] []))
        refine Fin.step (fun _ k => Yo.aload Xy114.here hx (hb hby at_211) rfl rfl k) ?_
        obtain ⟨cqy115, kqy115, qy115a, qy115b, qy115c⟩ := isOf hZ eqy114 (ry112.keep Kcy113)
        obtain ⟨_, Ty115, Lcy115, Xy115, hQy115, sty115⟩ := pack (Xy114.virtualBack hx (y := n5) (z := n5) hown (mvT hZ (W_ hw 28)) (mvT hZ (W_ hw 29)) (notFace_of_selects (args := #[]) (mvT hZ (W_ hw 31))) (mvT hZ (W_ hw 31)) (mvT hZ (W_ hw 30)) (by decide) (backOf (W := 0) (rmen2 l Z a0 hw [] by91 ao_y92 Ty113.heap n0 Zy113 (ry112.keep Kcy113) fy113_0 fy113_1 fy113_2 gzy91) hZ (W_ hw 32) (W_ hw 3) (by decide) (by decide)) qy115a qy115c (g := (mkF m 213 #[iv p1, iv p2, iv p3, iv p4, rv by1, rv by5, iv AA, iv BB, iv 1, iv 0, iv LO, iv LI, rv by91, iv 0, rv by97, iv 1, .val .null, .unset, .unset, .unset, .unset] [(.ref by91)])) rfl (by rw [hml]; rfl) (Steps.refl _) (argsL := []) (rest := []) (lenOf pd_1 rfl) rfl (lb rfl) (hb hby at_213) (fun _ _ => ⟨rfl, eqy114, (by decide : 7 + 0 ≤ _), (by decide : 37 + 0 ≤ _)⟩))
        obtain ⟨rfl, Nqy115, Kcy115, fy115_0, fy115_1, fy115_2⟩ := hQy115
        have Ny115 := Fr.app Ny114 Nqy115
        have Zy115 := Nat.le_trans Zy113 Kcy115.1
        have Ky115 := Ky113.trans Kcy115 (allS (Or.inr szy91) all0)
        refine Fin.step (sty115) ?_
        show Fin p e below s _ _ _ (Ty115.setTop (mkF m 216 #[iv p1, iv p2, iv p3, iv p4, rv by1, rv by5, iv AA, iv BB, iv 1, iv 0, iv LO, iv LI, rv by91, iv 0, rv by97, iv 1, .val .null, .unset, .unset, .unset, .unset] [(.int 1)]))
        refine Fin.step (fun _ k => Yo.istore Xy115.here hx (hb hby at_216) rfl (l' := #[iv p1, iv p2, iv p3, iv p4, rv by1, rv by5, iv AA, iv BB, iv 1, iv 0, iv LO, iv LI, rv by91, iv 0, rv by97, iv 1, .val .null, iv 1, .unset, .unset, .unset]) rfl (Yo.iload Xy115.here hx (hb hby at_218) rfl (Yo.ifNo Xy115.here hx (hb hby at_220) rfl ((if0 _ _).trans (teq ((by decide) : ((0 : Int32) = (0 : Int32)))).2) (Yo.iload Xy115.here hx (hb hby at_223) rfl (Yo.iconst Xy115.here hx (hb hby at_225) (Yo.icmpNo Xy115.here hx (hb hby at_226) rfl (teq ((by decide) : ((1 : Int32) = (1 : Int32)))).2 (Yo.iload Xy115.here hx (hb hby at_229) rfl (Yo.iconst Xy115.here hx (hb hby at_231) k)))))))) ?_
        refine Fin.step (fun _ k => Yo.icmpNo Xy115.here hx (hb hby at_232) rfl (teq ((by decide) : ((1 : Int32) = (1 : Int32)))).2 (Yo.iconst Xy115.here hx (hb hby at_235) (Yo.goto Xy115.here hx (pc0 := 236) (pc' := 240) rfl (hb hby at_236) (by decide) (by decide) (Yo.istore Xy115.here hx (hb hby at_240) rfl (l' := #[iv p1, iv p2, iv p3, iv p4, rv by1, rv by5, iv AA, iv BB, iv 1, iv 0, iv LO, iv LI, rv by91, iv 0, rv by97, iv 1, .val .null, iv 1, iv 1, .unset, .unset]) rfl (Yo.aload Xy115.here hx (hb hby at_242) rfl rfl (Yo.ifnullNo Xy115.here hx (hb hby at_244) rfl (Yo.iload Xy115.here hx (hb hby at_247) rfl (Yo.ifNo Xy115.here hx (hb hby at_249) rfl ((if0 _ _).trans (feq ((by decide) : ¬ ((1 : Int32) = (0 : Int32)))).1) k)))))))) ?_
        refine Fin.step (fun _ k => Yo.aload Xy115.here hx (hb hby at_252) rfl rfl k) ?_
        have ry116 := ((fy111_5.keep Kcy113 (ninS (Ne.symm ney104) nin0)).keep Kcy115 (ninS (Ne.symm ney104) nin0))
        have ry118 := (((fy97_4.keep Kcy111).keep Kcy113).keep Kcy115)
        obtain ⟨cqy117, kqy117, qy117a, qy117b, qy117c⟩ := isOf hZ rfl ry118
        obtain ⟨_, Ty117, Lcy117, Xy117, hQy117, sty117⟩ := pack (Xy115.virtualBack hx (y := n20) (z := n20) hown (mvT hZ (W_ hw 122)) (mvT hZ (W_ hw 123)) (notFace_of_selects (args := #[]) (mvT hZ (W_ hw 125))) (mvT hZ (W_ hw 125)) (mvT hZ (W_ hw 124)) (by decide) (backOf (W := 0) (rmg0 l Z a0 hw [] by97 Ty115.heap n0 Zy115 ry116) hZ (W_ hw 126) (W_ hw 39) (by decide) (by decide)) qy117a qy117c (g := (mkF m 254 #[iv p1, iv p2, iv p3, iv p4, rv by1, rv by5, iv AA, iv BB, iv 1, iv 0, iv LO, iv LI, rv by91, iv 0, rv by97, iv 1, .val .null, iv 1, iv 1, .unset, .unset] [(.ref by97)])) rfl (by rw [hml]; rfl) (Steps.refl _) (argsL := []) (rest := []) (lenOf pd_15 rfl) rfl (lb rfl) (hb hby at_254) (fun _ _ => ⟨rfl, rfl, (by decide : 7 + 0 ≤ _), (by decide : 37 + 0 ≤ _)⟩))
        obtain ⟨rfl, Nqy117, eqy117⟩ := hQy117
        have Ny117 := Fr.app Ny115 Nqy117
        refine Fin.step (sty117) ?_
        show Fin p e below s _ _ _ (Ty117.setTop (mkF m 257 #[iv p1, iv p2, iv p3, iv p4, rv by1, rv by5, iv AA, iv BB, iv 1, iv 0, iv LO, iv LI, rv by91, iv 0, rv by97, iv 1, .val .null, iv 1, iv 1, .unset, .unset] [.null]))
        refine Fin.step (fun _ k => Yo.ifnonnullNo Xy117.here hx (hb hby at_257) rfl (Yo.iconst Xy117.here hx (hb hby at_260) (Yo.goto Xy117.here hx (pc0 := 261) (pc' := 265) rfl (hb hby at_261) (by decide) (by decide) (Yo.istore Xy117.here hx (hb hby at_265) rfl (l' := #[iv p1, iv p2, iv p3, iv p4, rv by1, rv by5, iv AA, iv BB, iv 1, iv 0, iv LO, iv LI, rv by91, iv 0, rv by97, iv 1, .val .null, iv 1, iv 1, .unset, .unset]) rfl (Yo.aload Xy117.here hx (hb hby at_267) rfl rfl (Yo.ifnullYes Xy117.here hx (pc0 := 269) (pc' := 333) rfl (hb hby at_269) rfl (by decide) (by decide) (Yo.aload Xy117.here hx (hb hby at_333) rfl rfl k))))))) ?_
        have ry119 := ((ry112.keep Kcy113).keep Kcy115)
        obtain ⟨cqy120, kqy120, qy120a, qy120b, qy120c⟩ := isOf hZ eqy117 ry119
        obtain ⟨_, Ty120, Lcy120, Xy120, hQy120, sty120⟩ := pack (Xy117.virtualBack hx (y := n5) (z := n5) hown (mvT hZ (W_ hw 28)) (mvT hZ (W_ hw 29)) (notFace_of_selects (args := #[]) (mvT hZ (W_ hw 31))) (mvT hZ (W_ hw 31)) (mvT hZ (W_ hw 30)) (by decide) (backOf (W := 0) (rmen1 l Z a0 hw [] by91 ao_y92 Ty115.heap n0 Zy115 ry119 fy115_0 fy115_1 fy115_2 gzy91) hZ (W_ hw 32) (W_ hw 3) (by decide) (by decide)) qy120a qy120c (g := (mkF m 335 #[iv p1, iv p2, iv p3, iv p4, rv by1, rv by5, iv AA, iv BB, iv 1, iv 0, iv LO, iv LI, rv by91, iv 0, rv by97, iv 1, .val .null, iv 1, iv 1, .unset, .unset] [(.ref by91)])) rfl (by rw [hml]; rfl) (Steps.refl _) (argsL := []) (rest := []) (lenOf pd_1 rfl) rfl (lb rfl) (hb hby at_335) (fun _ _ => ⟨rfl, eqy117, (by decide : 7 + 0 ≤ _), (by decide : 37 + 0 ≤ _)⟩))
        obtain ⟨rfl, Nqy120, Kcy120, fy120_0, fy120_1, fy120_2⟩ := hQy120
        have Ny120 := Fr.app Ny117 Nqy120
        have Zy120 := Nat.le_trans Zy115 Kcy120.1
        have Ky120 := Ky115.trans Kcy120 (allS (Or.inr szy91) all0)
        refine Fin.step (sty120) ?_
        show Fin p e below s _ _ _ (Ty120.setTop (mkF m 338 #[iv p1, iv p2, iv p3, iv p4, rv by1, rv by5, iv AA, iv BB, iv 1, iv 0, iv LO, iv LI, rv by91, iv 0, rv by97, iv 1, .val .null, iv 1, iv 1, .unset, .unset] [(.int 0)]))
        refine Fin.step (fun _ k => Yo.istore Xy120.here hx (hb hby at_338) rfl (l' := #[iv p1, iv p2, iv p3, iv p4, rv by1, rv by5, iv AA, iv BB, iv 1, iv 0, iv LO, iv LI, rv by91, iv 0, rv by97, iv 1, .val .null, iv 1, iv 1, iv 0, .unset]) rfl (Yo.iload Xy120.here hx (hb hby at_340) rfl (Yo.ifNo Xy120.here hx (hb hby at_342) rfl ((if0 _ _).trans (feq ((by decide) : ¬ ((1 : Int32) = (0 : Int32)))).1) (Yo.iload Xy120.here hx (hb hby at_345) rfl (Yo.ifNo Xy120.here hx (hb hby at_347) rfl ((if0 _ _).trans (teq ((by decide) : ((0 : Int32) = (0 : Int32)))).2) (Yo.iconst Xy120.here hx (hb hby at_350) (Yo.goto Xy120.here hx (pc0 := 351) (pc' := 355) rfl (hb hby at_351) (by decide) (by decide) (Yo.istore Xy120.here hx (hb hby at_355) rfl (l' := #[iv p1, iv p2, iv p3, iv p4, rv by1, rv by5, iv AA, iv BB, iv 1, iv 0, iv LO, iv LI, rv by91, iv 0, rv by97, iv 1, .val .null, iv 1, iv 1, iv 0, .unset]) rfl k)))))))) ?_
        refine Fin.step (fun _ k => Yo.aload Xy120.here hx (hb hby at_357) rfl rfl (Yo.ifnullNo Xy120.here hx (hb hby at_359) rfl (Yo.aload Xy120.here hx (hb hby at_362) rfl rfl k))) ?_
        have ry121 := (ry116.keep Kcy120 (ninS (Ne.symm ney104) nin0))
        obtain ⟨cqy122, kqy122, qy122a, qy122b, qy122c⟩ := isOf hZ rfl (ry118.keep Kcy120)
        obtain ⟨_, Ty122, Lcy122, Xy122, hQy122, sty122⟩ := pack (Xy120.virtualBack hx (y := n20) (z := n20) hown (mvT hZ (W_ hw 122)) (mvT hZ (W_ hw 123)) (notFace_of_selects (args := #[]) (mvT hZ (W_ hw 125))) (mvT hZ (W_ hw 125)) (mvT hZ (W_ hw 124)) (by decide) (backOf (W := 0) (rmg0 l Z a0 hw [] by97 Ty120.heap n0 Zy120 ry121) hZ (W_ hw 126) (W_ hw 39) (by decide) (by decide)) qy122a qy122c (g := (mkF m 364 #[iv p1, iv p2, iv p3, iv p4, rv by1, rv by5, iv AA, iv BB, iv 1, iv 0, iv LO, iv LI, rv by91, iv 0, rv by97, iv 1, .val .null, iv 1, iv 1, iv 0, .unset] [(.ref by97)])) rfl (by rw [hml]; rfl) (Steps.refl _) (argsL := []) (rest := []) (lenOf pd_15 rfl) rfl (lb rfl) (hb hby at_364) (fun _ _ => ⟨rfl, rfl, (by decide : 7 + 0 ≤ _), (by decide : 37 + 0 ≤ _)⟩))
        obtain ⟨rfl, Nqy122, eqy122⟩ := hQy122
        have Ny122 := Fr.app Ny120 Nqy122
        refine Fin.step (sty122) ?_
        show Fin p e below s _ _ _ (Ty122.setTop (mkF m 367 #[iv p1, iv p2, iv p3, iv p4, rv by1, rv by5, iv AA, iv BB, iv 1, iv 0, iv LO, iv LI, rv by91, iv 0, rv by97, iv 1, .val .null, iv 1, iv 1, iv 0, .unset] [.null]))
        refine Fin.step (fun _ k => Yo.astore Xy122.here hx (hb hby at_367) rfl rfl (l' := #[iv p1, iv p2, iv p3, iv p4, rv by1, rv by5, iv AA, iv BB, iv 1, iv 0, iv LO, iv LI, rv by91, iv 0, rv by97, iv 1, .val .null, iv 1, iv 1, iv 0, .val .null]) rfl (Yo.iload Xy122.here hx (hb hby at_369) rfl (Yo.iload Xy122.here hx (hb hby at_371) rfl (Yo.iadd Xy122.here hx (hb hby at_373) rfl k)))) ?_
        show Fin p e below s _ _ _ (Ty122.setTop (mkF m 374 #[iv p1, iv p2, iv p3, iv p4, rv by1, rv by5, iv AA, iv BB, iv 1, iv 0, iv LO, iv LI, rv by91, iv 0, rv by97, iv 1, .val .null, iv 1, iv 1, iv 0, .val .null] [(.int (AA + BB))]))
        refine Fin.step (fun _ k => Yo.iload Xy122.here hx (hb hby at_374) rfl (Yo.icmpYes Xy122.here hx (pc0 := 376) (pc' := 410) rfl (hb hby at_376) rfl (tlt ((own_lim3 hLO (own_pi hB) (own_pi hA) ho1) : (LO < (AA + BB)))).2.2.1 (by decide) (by decide) (Yo.iload Xy122.here hx (hb hby at_410) rfl (Yo.ifNo Xy122.here hx (hb hby at_412) rfl ((if0 _ _).trans (feq ((by decide) : ¬ ((1 : Int32) = (0 : Int32)))).1) (Yo.aload Xy122.here hx (hb hby at_415) rfl rfl (Yo.ifnonnullNo Xy122.here hx (hb hby at_417) rfl (Yo.iconst Xy122.here hx (hb hby at_420) (Yo.goto Xy122.here hx (pc0 := 421) (pc' := 425) rfl (hb hby at_421) (by decide) (by decide) k)))))))) ?_
        refine Fin.step (fun _ k => Yo.istore Xy122.here hx (hb hby at_425) rfl (l' := #[iv p1, iv p2, iv p3, iv p4, rv by1, rv by5, iv AA, iv BB, iv 1, iv 0, iv LO, iv LI, rv by91, iv 0, rv by97, iv 1, .val .null, iv 1, iv 1, iv 0, .val .null]) rfl (Yo.iload Xy122.here hx (hb hby at_427) rfl k)) ?_
        refine Fin.retN Xy122 hx (t := .boolean) hret (by simp) hlk (hb hby at_429) (by decide) (by decide) ?_
        show Q0 Z p1 p2 p3 p4 fv gv wc h0 n0 _ Ty122.heap _
        rw [eqy122]
        exact ⟨rfl, Ny122, Ky120⟩
      · have ho1_ := ho1
        refine Fin.step (fun _ k => Yo.aload Xy97.here hx (hb hby at_166) rfl rfl (Yo.aload Xy97.here hx (hb hby at_168) rfl rfl (Yo.iconst Xy97.here hx (hb hby at_170) (Yo.iload Xy97.here hx (hb hby at_171) rfl k)))) ?_
        have ney123 := nlt ((((nsV Vy1).wr Wy2).wr Wy3).wr Wy4).lt (Nat.le_of_eq gy5.symm)
        have ney124 := nlt ((((((((nsV Vy1).wr Wy2).wr Wy3).wr Wy4).ext Ey5).wr Wy6).wr Wy7).wr Wy8).lt (Nat.le_of_eq gy91.symm)
        have ney125 := nlt (((((((((nsV Vy1).wr Wy2).wr Wy3).wr Wy4).ext Ey5).wr Wy6).wr Wy7).wr Wy8).ext Ey91).lt bfy92_0
        have ry126 := ((((((((VLXL.ext Ey5).other Wy6 ney123).other Wy7 ney123).other Wy8 ney123).ext Ey91).keep Kcy92 (ninS ney124 nin0)).keep Kcy93 (ninS ney124 nin0)).keep Kcy97 (ninS ney124 (ninS ney125 nin0)))
        have ry127 := (Sta_keepW ry96 Kcy97 (allS (nsE ((Ay91.keep Kcy92).keep Kcy93)) (allS ((nsV fy92_3).keep Kcy93) all0)))
        have ry128 := (Sta_keep HS_jdk_internal_util_Preconditions_IOOBE_FORMATTER Ky97)
        have ney129 := nlt ((Ay91.keep Kcy92).keep Kcy93).lt bfy97_0
        have ney130 := nlt ((Ay91.keep Kcy92).keep Kcy93).lt bfy97_1
        have ney131 := nlt ((nsV fy92_3).keep Kcy93).lt bfy97_0
        have ney132 := nlt ((nsV fy92_3).keep Kcy93).lt bfy97_1
        have ney133 := nlt (((((((((((nsV Vy1).wr Wy2).wr Wy3).wr Wy4).ext Ey5).wr Wy6).wr Wy7).wr Wy8).ext Ey91).keep Kcy92).keep Kcy93).lt bfy97_0
        have ney134 := nlt (((((((((((nsV Vy1).wr Wy2).wr Wy3).wr Wy4).ext Ey5).wr Wy6).wr Wy7).wr Wy8).ext Ey91).keep Kcy92).keep Kcy93).lt bfy97_1
        obtain ⟨cqy135, kqy135, qy135a, qy135b, qy135c⟩ := isOf hZ rfl (ry94.keep Kcy97)
        obtain ⟨_, Ty135, Lcy135, Xy135, hQy135, sty135⟩ := pack (Xy97.virtualBack hx (y := n4) (z := n4) hown (mvT hZ (W_ hw 21)) (mvT hZ (W_ hw 22)) (notFace_of_selects (args := #[]) (mvT hZ (W_ hw 24))) (mvT hZ (W_ hw 24)) (mvT hZ (W_ hw 23)) (by decide) (backOf (W := 0) (rmto l Z a0 hw [] by91 by1 AA ao_y92 ko_y92 (1 : Int32) by97 bo_y97 ab_y97 kb_y97 (0 : Int32) [(.int 0), (.int 0), (.int 0), (.int 0), (.int 0), (.int 0), (.int 0), (.int 0), (.int 0), (.int 0), (.int 0), (.int 0), (.int 0), (.int 0), (.int 0), (.int 0)] LO AA ky1 XL wc gv Ty97.heap n0 Zy97 (ry94.keep Kcy97) fy97_0 fy97_1 fy97_2 fy97_3 fy97_4 fy97_5 fy97_6 fy97_7 fy97_9 fy97_10 fy97_11 fy97_12 fy97_13 ry126 ry127 ry128 gzy97_0 gzy97_1 hA hX hwc hgv ppy92_0 (by decide) rfl (Int32.zero_add AA).symm ho1 ney92_0 ney129 ney130 ney131 ney132 ney97_1 ney97_2 ney97_0 ney133 ney134) hZ (W_ hw 25) (W_ hw 3) (by decide) (by decide)) qy135a qy135c (g := (mkF m 173 #[iv p1, iv p2, iv p3, iv p4, rv by1, rv by5, iv AA, iv BB, iv 1, iv 0, iv LO, iv LI, rv by91, iv 0, rv by97, .unset, .unset, .unset, .unset, .unset, .unset] [(.int AA), (.int 0), (.ref by1), (.ref by91)])) rfl (by rw [hml]; rfl) (Steps.refl _) (argsL := [(.ref by1), (.int 0), (.int AA)]) (rest := []) (lenOf pd_5 rfl) rfl (lb rfl) (hb hby at_173) (fun _ _ => ⟨rfl, rfl, (by decide : 7 + 0 ≤ _), (by decide : 37 + 0 ≤ _)⟩))
        obtain ⟨rfl, Nqy135, Kcy135, fy135_0, fy135_1, fy135_2, fy135_3⟩ := hQy135
        have Ny135 := Fr.app Ny97 Nqy135
        have Zy135 := Nat.le_trans Zy97 Kcy135.1
        have Ky135 := Ky97.trans Kcy135 (allS (Or.inr szy97_0) (allS (Or.inr szy97_1) all0))
        refine Fin.step (sty135) ?_
        show Fin p e below s _ _ _ (Ty135.setTop (mkF m 176 #[iv p1, iv p2, iv p3, iv p4, rv by1, rv by5, iv AA, iv BB, iv 1, iv 0, iv LO, iv LI, rv by91, iv 0, rv by97, .unset, .unset, .unset, .unset, .unset, .unset] []))
        refine Fin.step (fun _ k => Yo.aload Xy135.here hx (hb hby at_176) rfl rfl k) ?_
        have ry136 := ((ry94.keep Kcy97).keep Kcy135)
        have ry137 := (fy97_0.keep Kcy135 (ninS ney129 (ninS ney130 nin0)))
        have ry138 := (fy97_1.keep Kcy135 (ninS ney129 (ninS ney130 nin0)))
        have ry139 := (fy97_2.keep Kcy135 (ninS ney129 (ninS ney130 nin0)))
        obtain ⟨cqy140, kqy140, qy140a, qy140b, qy140c⟩ := isOf hZ rfl ry136
        obtain ⟨_, Ty140, Lcy140, Xy140, hQy140, sty140⟩ := pack (Xy135.virtualBack hx (y := n3) (z := n3) hown (mvT hZ (W_ hw 14)) (mvT hZ (W_ hw 15)) (notFace_of_selects (args := #[]) (mvT hZ (W_ hw 17))) (mvT hZ (W_ hw 17)) (mvT hZ (W_ hw 16)) (by decide) (backOf (W := 0) (rmse1 l Z a0 hw [] by91 ao_y92 (1 : Int32) Ty135.heap n0 Zy135 ry136 ry137 ry138 ry139 gzy91) hZ (W_ hw 18) (W_ hw 3) (by decide) (by decide)) qy140a qy140c (g := (mkF m 178 #[iv p1, iv p2, iv p3, iv p4, rv by1, rv by5, iv AA, iv BB, iv 1, iv 0, iv LO, iv LI, rv by91, iv 0, rv by97, .unset, .unset, .unset, .unset, .unset, .unset] [(.ref by91)])) rfl (by rw [hml]; rfl) (Steps.refl _) (argsL := []) (rest := []) (lenOf pd_1 rfl) rfl (lb rfl) (hb hby at_178) (fun _ _ => ⟨rfl, rfl, (by decide : 7 + 0 ≤ _), (by decide : 37 + 0 ≤ _)⟩))
        obtain ⟨rfl, Nqy140, Kcy140, fy140_0, fy140_1, fy140_2⟩ := hQy140
        have Ny140 := Fr.app Ny135 Nqy140
        have Zy140 := Nat.le_trans Zy135 Kcy140.1
        have Ky140 := Ky135.trans Kcy140 (allS (Or.inr szy91) all0)
        refine Fin.step (sty140) ?_
        show Fin p e below s _ _ _ (Ty140.setTop (mkF m 181 #[iv p1, iv p2, iv p3, iv p4, rv by1, rv by5, iv AA, iv BB, iv 1, iv 0, iv LO, iv LI, rv by91, iv 0, rv by97, .unset, .unset, .unset, .unset, .unset, .unset] [(.int 1)]))
        refine Fin.step (fun _ k => Yo.istore Xy140.here hx (hb hby at_181) rfl (l' := #[iv p1, iv p2, iv p3, iv p4, rv by1, rv by5, iv AA, iv BB, iv 1, iv 0, iv LO, iv LI, rv by91, iv 0, rv by97, iv 1, .unset, .unset, .unset, .unset, .unset]) rfl (Yo.iload Xy140.here hx (hb hby at_183) rfl (Yo.ifYes Xy140.here hx (pc0 := 185) (pc' := 198) rfl (hb hby at_185) rfl ((if0 _ _).trans (teq ((by decide) : ((0 : Int32) = (0 : Int32)))).1) (by decide) (by decide) (Yo.aconstNull Xy140.here hx (hb hby at_198) (Yo.astore Xy140.here hx (hb hby at_199) rfl rfl (l' := #[iv p1, iv p2, iv p3, iv p4, rv by1, rv by5, iv AA, iv BB, iv 1, iv 0, iv LO, iv LI, rv by91, iv 0, rv by97, iv 1, .val .null, .unset, .unset, .unset, .unset]) rfl k))))) ?_
        rcases Classical.em ((LO - BB) < AA) with ho2 | ho2
        · have ho2_ := ho2
          refine Fin.step (fun _ k => Yo.aload Xy140.here hx (hb hby at_201) rfl rfl (Yo.aload Xy140.here hx (hb hby at_203) rfl rfl (Yo.iconst Xy140.here hx (hb hby at_205) (Yo.iload Xy140.here hx (hb hby at_206) rfl k)))) ?_
          have ry141 := ((fy97_3.keep Kcy135 (ninS ney131 (ninS ney132 nin0))).keep Kcy140 (ninS (Ne.symm ney92_0) nin0))
          have ry142 := ((fy97_4.keep Kcy135).keep Kcy140)
          have ney143 := nlt ((Ay91.keep Kcy92).keep Kcy93).lt bzy97
          have ry144 := ((fy97_5.keep Kcy135 (ninS ney97_1 (ninS ney97_2 nin0))).keep Kcy140 (ninS (Ne.symm ney143) nin0))
          have ry145 := ((fy97_6.keep Kcy135 (ninS ney97_1 (ninS ney97_2 nin0))).keep Kcy140 (ninS (Ne.symm ney143) nin0))
          have ry146 := ((fy97_7.keep Kcy135 (ninS ney97_1 (ninS ney97_2 nin0))).keep Kcy140 (ninS (Ne.symm ney143) nin0))
          have ry147 := ((fy97_9.keep Kcy135).keep Kcy140)
          have ry148 := (fy135_0.keep Kcy140 (ninS (Ne.symm ney129) nin0))
          have ry149 := (fy135_1.keep Kcy140 (ninS (Ne.symm ney129) nin0))
          have ry150 := (fy135_2.keep Kcy140 (ninS (Ne.symm ney129) nin0))
          have ry151 := (fy135_3.keep Kcy140 (ninS (Ne.symm ney130) nin0))
          have ney152 := nlt ((((nsV Vy5).wr Wy6).wr Wy7).wr Wy8).lt (Nat.le_of_eq gy91.symm)
          have ney153 := nlt (((((nsV Vy5).wr Wy6).wr Wy7).wr Wy8).ext Ey91).lt bfy92_0
          have ney154 := nlt (((((((nsV Vy5).wr Wy6).wr Wy7).wr Wy8).ext Ey91).keep Kcy92).keep Kcy93).lt bfy97_1
          have ney155 := nlt (((((((nsV Vy5).wr Wy6).wr Wy7).wr Wy8).ext Ey91).keep Kcy92).keep Kcy93).lt bfy97_0
          have ry156 := ((((((VLYL.ext Ey91).keep Kcy92 (ninS ney152 nin0)).keep Kcy93 (ninS ney152 nin0)).keep Kcy97 (ninS ney152 (ninS ney153 nin0))).keep Kcy135 (ninS ney155 (ninS ney154 nin0))).keep Kcy140 (ninS ney152 nin0))
          have ry157 := (Sta_keepW (Sta_keepW ry127 Kcy135 (allS (nsE fy97_9) (allS (nsV fy97_13) all0))) Kcy140 (allS (nsE ((((Ay91.keep Kcy92).keep Kcy93).keep Kcy97).keep Kcy135)) all0))
          have ry158 := (Sta_keepW (Sta_keepW ry128 Kcy135 (allS (nsE fy97_9) (allS (nsV fy97_13) all0))) Kcy140 (allS (nsE ((((Ay91.keep Kcy92).keep Kcy93).keep Kcy97).keep Kcy135)) all0))
          have ney159 := nlt ((nsV fy92_3).keep Kcy93).lt bzy97
          have ney160 := nlt (((((((nsV Vy5).wr Wy6).wr Wy7).wr Wy8).ext Ey91).keep Kcy92).keep Kcy93).lt bzy97
          obtain ⟨cqy161, kqy161, qy161a, qy161b, qy161c⟩ := isOf hZ rfl (ry136.keep Kcy140)
          obtain ⟨_, Ty161, Lcy161, Xy161, hQy161, sty161⟩ := pack (Xy140.virtualBack hx (y := n4) (z := n4) hown (mvT hZ (W_ hw 21)) (mvT hZ (W_ hw 22)) (notFace_of_selects (args := #[]) (mvT hZ (W_ hw 24))) (mvT hZ (W_ hw 24)) (mvT hZ (W_ hw 23)) (by decide) (backOf (W := 0) (rmtp l Z a0 hw [] by91 by5 BB ao_y92 ko_y92 (2 : Int32) by97 bo_y97 ab_y97 kb_y97 AA (own_app [(.int 0), (.int 0), (.int 0), (.int 0), (.int 0), (.int 0), (.int 0), (.int 0), (.int 0), (.int 0), (.int 0), (.int 0), (.int 0), (.int 0), (.int 0), (.int 0)] XL (0 : Int32).toNatClampNeg AA.toNatClampNeg) LO ky5 YL wc gv Ty140.heap n0 Zy140 (ry136.keep Kcy140) fy140_0 fy140_1 fy140_2 ry141 ry142 ry144 ry145 ry146 ry147 ry148 ry149 ry150 ry151 ry156 ry157 ry158 gzy91 gzy92_0 gzy97 hB hY hwc hgv ppy92_0 ho2 ney92_0 ney143 ney159 (Ne.symm ney129) (Ne.symm ney131) (Ne.symm ney97_1) (Ne.symm ney130) (Ne.symm ney132) (Ne.symm ney97_2) ney152 ney153 ney160) hZ (W_ hw 25) (W_ hw 3) (by decide) (by decide)) qy161a qy161c (g := (mkF m 208 #[iv p1, iv p2, iv p3, iv p4, rv by1, rv by5, iv AA, iv BB, iv 1, iv 0, iv LO, iv LI, rv by91, iv 0, rv by97, iv 1, .val .null, .unset, .unset, .unset, .unset] [(.int BB), (.int 0), (.ref by5), (.ref by91)])) rfl (by rw [hml]; rfl) (Steps.refl _) (argsL := [(.ref by5), (.int 0), (.int BB)]) (rest := []) (lenOf pd_5 rfl) rfl (lb rfl) (hb hby at_208) (fun _ _ => ⟨rfl, rfl, (by decide : 7 + 0 ≤ _), (by decide : 37 + 0 ≤ _)⟩))
          obtain ⟨rfl, Nqy161, Kcy161, fy161_0, fy161_1, fy161_2, fy161_3, fy161_4, fy161_5⟩ := hQy161
          have Ny161 := Fr.app Ny140 Nqy161
          have Zy161 := Nat.le_trans Zy140 Kcy161.1
          have Ky161 := Ky140.trans Kcy161 (allS (Or.inr szy91) (allS (Or.inr szy92_0) (allS (Or.inr szy97) all0)))
          refine Fin.step (sty161) ?_
          show Fin p e below s _ _ _ (Ty161.setTop (mkF m 211 #[iv p1, iv p2, iv p3, iv p4, rv by1, rv by5, iv AA, iv BB, iv 1, iv 0, iv LO, iv LI, rv by91, iv 0, rv by97, iv 1, .val .null, .unset, .unset, .unset, .unset] []))
          refine Fin.step (fun _ k => Yo.aload Xy161.here hx (hb hby at_211) rfl rfl k) ?_
          have ry162 := ((ry136.keep Kcy140).keep Kcy161)
          obtain ⟨cqy163, kqy163, qy163a, qy163b, qy163c⟩ := isOf hZ rfl ry162
          obtain ⟨_, Ty163, Lcy163, Xy163, hQy163, sty163⟩ := pack (Xy161.virtualBack hx (y := n5) (z := n5) hown (mvT hZ (W_ hw 28)) (mvT hZ (W_ hw 29)) (notFace_of_selects (args := #[]) (mvT hZ (W_ hw 31))) (mvT hZ (W_ hw 31)) (mvT hZ (W_ hw 30)) (by decide) (backOf (W := 0) (rmen2 l Z a0 hw [] by91 ao_y92 Ty161.heap n0 Zy161 ry162 fy161_0 fy161_1 fy161_2 gzy91) hZ (W_ hw 32) (W_ hw 3) (by decide) (by decide)) qy163a qy163c (g := (mkF m 213 #[iv p1, iv p2, iv p3, iv p4, rv by1, rv by5, iv AA, iv BB, iv 1, iv 0, iv LO, iv LI, rv by91, iv 0, rv by97, iv 1, .val .null, .unset, .unset, .unset, .unset] [(.ref by91)])) rfl (by rw [hml]; rfl) (Steps.refl _) (argsL := []) (rest := []) (lenOf pd_1 rfl) rfl (lb rfl) (hb hby at_213) (fun _ _ => ⟨rfl, rfl, (by decide : 7 + 0 ≤ _), (by decide : 37 + 0 ≤ _)⟩))
          obtain ⟨rfl, Nqy163, Kcy163, fy163_0, fy163_1, fy163_2⟩ := hQy163
          have Ny163 := Fr.app Ny161 Nqy163
          have Zy163 := Nat.le_trans Zy161 Kcy163.1
          have Ky163 := Ky161.trans Kcy163 (allS (Or.inr szy91) all0)
          refine Fin.step (sty163) ?_
          show Fin p e below s _ _ _ (Ty163.setTop (mkF m 216 #[iv p1, iv p2, iv p3, iv p4, rv by1, rv by5, iv AA, iv BB, iv 1, iv 0, iv LO, iv LI, rv by91, iv 0, rv by97, iv 1, .val .null, .unset, .unset, .unset, .unset] [(.int 1)]))
          refine Fin.step (fun _ k => Yo.istore Xy163.here hx (hb hby at_216) rfl (l' := #[iv p1, iv p2, iv p3, iv p4, rv by1, rv by5, iv AA, iv BB, iv 1, iv 0, iv LO, iv LI, rv by91, iv 0, rv by97, iv 1, .val .null, iv 1, .unset, .unset, .unset]) rfl (Yo.iload Xy163.here hx (hb hby at_218) rfl (Yo.ifNo Xy163.here hx (hb hby at_220) rfl ((if0 _ _).trans (teq ((by decide) : ((0 : Int32) = (0 : Int32)))).2) (Yo.iload Xy163.here hx (hb hby at_223) rfl (Yo.iconst Xy163.here hx (hb hby at_225) (Yo.icmpNo Xy163.here hx (hb hby at_226) rfl (teq ((by decide) : ((1 : Int32) = (1 : Int32)))).2 (Yo.iload Xy163.here hx (hb hby at_229) rfl (Yo.iconst Xy163.here hx (hb hby at_231) k)))))))) ?_
          refine Fin.step (fun _ k => Yo.icmpNo Xy163.here hx (hb hby at_232) rfl (teq ((by decide) : ((1 : Int32) = (1 : Int32)))).2 (Yo.iconst Xy163.here hx (hb hby at_235) (Yo.goto Xy163.here hx (pc0 := 236) (pc' := 240) rfl (hb hby at_236) (by decide) (by decide) (Yo.istore Xy163.here hx (hb hby at_240) rfl (l' := #[iv p1, iv p2, iv p3, iv p4, rv by1, rv by5, iv AA, iv BB, iv 1, iv 0, iv LO, iv LI, rv by91, iv 0, rv by97, iv 1, .val .null, iv 1, iv 1, .unset, .unset]) rfl (Yo.aload Xy163.here hx (hb hby at_242) rfl rfl (Yo.ifnullNo Xy163.here hx (hb hby at_244) rfl (Yo.iload Xy163.here hx (hb hby at_247) rfl (Yo.ifNo Xy163.here hx (hb hby at_249) rfl ((if0 _ _).trans (feq ((by decide) : ¬ ((1 : Int32) = (0 : Int32)))).1) k)))))))) ?_
          refine Fin.step (fun _ k => Yo.aload Xy163.here hx (hb hby at_252) rfl rfl k) ?_
          have ry164 := (fy161_5.keep Kcy163 (ninS (Ne.symm ney143) nin0))
          have ry166 := ((ry142.keep Kcy161).keep Kcy163)
          obtain ⟨cqy165, kqy165, qy165a, qy165b, qy165c⟩ := isOf hZ rfl ry166
          obtain ⟨_, Ty165, Lcy165, Xy165, hQy165, sty165⟩ := pack (Xy163.virtualBack hx (y := n20) (z := n20) hown (mvT hZ (W_ hw 122)) (mvT hZ (W_ hw 123)) (notFace_of_selects (args := #[]) (mvT hZ (W_ hw 125))) (mvT hZ (W_ hw 125)) (mvT hZ (W_ hw 124)) (by decide) (backOf (W := 0) (rmg0 l Z a0 hw [] by97 Ty163.heap n0 Zy163 ry164) hZ (W_ hw 126) (W_ hw 39) (by decide) (by decide)) qy165a qy165c (g := (mkF m 254 #[iv p1, iv p2, iv p3, iv p4, rv by1, rv by5, iv AA, iv BB, iv 1, iv 0, iv LO, iv LI, rv by91, iv 0, rv by97, iv 1, .val .null, iv 1, iv 1, .unset, .unset] [(.ref by97)])) rfl (by rw [hml]; rfl) (Steps.refl _) (argsL := []) (rest := []) (lenOf pd_15 rfl) rfl (lb rfl) (hb hby at_254) (fun _ _ => ⟨rfl, rfl, (by decide : 7 + 0 ≤ _), (by decide : 37 + 0 ≤ _)⟩))
          obtain ⟨rfl, Nqy165, eqy165⟩ := hQy165
          have Ny165 := Fr.app Ny163 Nqy165
          refine Fin.step (sty165) ?_
          show Fin p e below s _ _ _ (Ty165.setTop (mkF m 257 #[iv p1, iv p2, iv p3, iv p4, rv by1, rv by5, iv AA, iv BB, iv 1, iv 0, iv LO, iv LI, rv by91, iv 0, rv by97, iv 1, .val .null, iv 1, iv 1, .unset, .unset] [.null]))
          refine Fin.step (fun _ k => Yo.ifnonnullNo Xy165.here hx (hb hby at_257) rfl (Yo.iconst Xy165.here hx (hb hby at_260) (Yo.goto Xy165.here hx (pc0 := 261) (pc' := 265) rfl (hb hby at_261) (by decide) (by decide) (Yo.istore Xy165.here hx (hb hby at_265) rfl (l' := #[iv p1, iv p2, iv p3, iv p4, rv by1, rv by5, iv AA, iv BB, iv 1, iv 0, iv LO, iv LI, rv by91, iv 0, rv by97, iv 1, .val .null, iv 1, iv 1, .unset, .unset]) rfl (Yo.aload Xy165.here hx (hb hby at_267) rfl rfl (Yo.ifnullYes Xy165.here hx (pc0 := 269) (pc' := 333) rfl (hb hby at_269) rfl (by decide) (by decide) (Yo.aload Xy165.here hx (hb hby at_333) rfl rfl k))))))) ?_
          obtain ⟨cqy167, kqy167, qy167a, qy167b, qy167c⟩ := isOf hZ eqy165 (ry162.keep Kcy163)
          obtain ⟨_, Ty167, Lcy167, Xy167, hQy167, sty167⟩ := pack (Xy165.virtualBack hx (y := n5) (z := n5) hown (mvT hZ (W_ hw 28)) (mvT hZ (W_ hw 29)) (notFace_of_selects (args := #[]) (mvT hZ (W_ hw 31))) (mvT hZ (W_ hw 31)) (mvT hZ (W_ hw 30)) (by decide) (backOf (W := 0) (rmen1 l Z a0 hw [] by91 ao_y92 Ty163.heap n0 Zy163 (ry162.keep Kcy163) fy163_0 fy163_1 fy163_2 gzy91) hZ (W_ hw 32) (W_ hw 3) (by decide) (by decide)) qy167a qy167c (g := (mkF m 335 #[iv p1, iv p2, iv p3, iv p4, rv by1, rv by5, iv AA, iv BB, iv 1, iv 0, iv LO, iv LI, rv by91, iv 0, rv by97, iv 1, .val .null, iv 1, iv 1, .unset, .unset] [(.ref by91)])) rfl (by rw [hml]; rfl) (Steps.refl _) (argsL := []) (rest := []) (lenOf pd_1 rfl) rfl (lb rfl) (hb hby at_335) (fun _ _ => ⟨rfl, eqy165, (by decide : 7 + 0 ≤ _), (by decide : 37 + 0 ≤ _)⟩))
          obtain ⟨rfl, Nqy167, Kcy167, fy167_0, fy167_1, fy167_2⟩ := hQy167
          have Ny167 := Fr.app Ny165 Nqy167
          have Zy167 := Nat.le_trans Zy163 Kcy167.1
          have Ky167 := Ky163.trans Kcy167 (allS (Or.inr szy91) all0)
          refine Fin.step (sty167) ?_
          show Fin p e below s _ _ _ (Ty167.setTop (mkF m 338 #[iv p1, iv p2, iv p3, iv p4, rv by1, rv by5, iv AA, iv BB, iv 1, iv 0, iv LO, iv LI, rv by91, iv 0, rv by97, iv 1, .val .null, iv 1, iv 1, .unset, .unset] [(.int 0)]))
          refine Fin.step (fun _ k => Yo.istore Xy167.here hx (hb hby at_338) rfl (l' := #[iv p1, iv p2, iv p3, iv p4, rv by1, rv by5, iv AA, iv BB, iv 1, iv 0, iv LO, iv LI, rv by91, iv 0, rv by97, iv 1, .val .null, iv 1, iv 1, iv 0, .unset]) rfl (Yo.iload Xy167.here hx (hb hby at_340) rfl (Yo.ifNo Xy167.here hx (hb hby at_342) rfl ((if0 _ _).trans (feq ((by decide) : ¬ ((1 : Int32) = (0 : Int32)))).1) (Yo.iload Xy167.here hx (hb hby at_345) rfl (Yo.ifNo Xy167.here hx (hb hby at_347) rfl ((if0 _ _).trans (teq ((by decide) : ((0 : Int32) = (0 : Int32)))).2) (Yo.iconst Xy167.here hx (hb hby at_350) (Yo.goto Xy167.here hx (pc0 := 351) (pc' := 355) rfl (hb hby at_351) (by decide) (by decide) (Yo.istore Xy167.here hx (hb hby at_355) rfl (l' := #[iv p1, iv p2, iv p3, iv p4, rv by1, rv by5, iv AA, iv BB, iv 1, iv 0, iv LO, iv LI, rv by91, iv 0, rv by97, iv 1, .val .null, iv 1, iv 1, iv 0, .unset]) rfl k)))))))) ?_
          refine Fin.step (fun _ k => Yo.aload Xy167.here hx (hb hby at_357) rfl rfl (Yo.ifnullNo Xy167.here hx (hb hby at_359) rfl (Yo.aload Xy167.here hx (hb hby at_362) rfl rfl k))) ?_
          have ry168 := (ry164.keep Kcy167 (ninS (Ne.symm ney143) nin0))
          obtain ⟨cqy169, kqy169, qy169a, qy169b, qy169c⟩ := isOf hZ rfl (ry166.keep Kcy167)
          obtain ⟨_, Ty169, Lcy169, Xy169, hQy169, sty169⟩ := pack (Xy167.virtualBack hx (y := n20) (z := n20) hown (mvT hZ (W_ hw 122)) (mvT hZ (W_ hw 123)) (notFace_of_selects (args := #[]) (mvT hZ (W_ hw 125))) (mvT hZ (W_ hw 125)) (mvT hZ (W_ hw 124)) (by decide) (backOf (W := 0) (rmg0 l Z a0 hw [] by97 Ty167.heap n0 Zy167 ry168) hZ (W_ hw 126) (W_ hw 39) (by decide) (by decide)) qy169a qy169c (g := (mkF m 364 #[iv p1, iv p2, iv p3, iv p4, rv by1, rv by5, iv AA, iv BB, iv 1, iv 0, iv LO, iv LI, rv by91, iv 0, rv by97, iv 1, .val .null, iv 1, iv 1, iv 0, .unset] [(.ref by97)])) rfl (by rw [hml]; rfl) (Steps.refl _) (argsL := []) (rest := []) (lenOf pd_15 rfl) rfl (lb rfl) (hb hby at_364) (fun _ _ => ⟨rfl, rfl, (by decide : 7 + 0 ≤ _), (by decide : 37 + 0 ≤ _)⟩))
          obtain ⟨rfl, Nqy169, eqy169⟩ := hQy169
          have Ny169 := Fr.app Ny167 Nqy169
          refine Fin.step (sty169) ?_
          show Fin p e below s _ _ _ (Ty169.setTop (mkF m 367 #[iv p1, iv p2, iv p3, iv p4, rv by1, rv by5, iv AA, iv BB, iv 1, iv 0, iv LO, iv LI, rv by91, iv 0, rv by97, iv 1, .val .null, iv 1, iv 1, iv 0, .unset] [.null]))
          refine Fin.step (fun _ k => Yo.astore Xy169.here hx (hb hby at_367) rfl rfl (l' := #[iv p1, iv p2, iv p3, iv p4, rv by1, rv by5, iv AA, iv BB, iv 1, iv 0, iv LO, iv LI, rv by91, iv 0, rv by97, iv 1, .val .null, iv 1, iv 1, iv 0, .val .null]) rfl (Yo.iload Xy169.here hx (hb hby at_369) rfl (Yo.iload Xy169.here hx (hb hby at_371) rfl (Yo.iadd Xy169.here hx (hb hby at_373) rfl k)))) ?_
          show Fin p e below s _ _ _ (Ty169.setTop (mkF m 374 #[iv p1, iv p2, iv p3, iv p4, rv by1, rv by5, iv AA, iv BB, iv 1, iv 0, iv LO, iv LI, rv by91, iv 0, rv by97, iv 1, .val .null, iv 1, iv 1, iv 0, .val .null] [(.int (AA + BB))]))
          refine Fin.step (fun _ k => Yo.iload Xy169.here hx (hb hby at_374) rfl (Yo.icmpYes Xy169.here hx (pc0 := 376) (pc' := 410) rfl (hb hby at_376) rfl (tlt (((own_lim2 hLO (own_pi hB) (own_pi hA)).mp ho2) : (LO < (AA + BB)))).2.2.1 (by decide) (by decide) (Yo.iload Xy169.here hx (hb hby at_410) rfl (Yo.ifNo Xy169.here hx (hb hby at_412) rfl ((if0 _ _).trans (feq ((by decide) : ¬ ((1 : Int32) = (0 : Int32)))).1) (Yo.aload Xy169.here hx (hb hby at_415) rfl rfl (Yo.ifnonnullNo Xy169.here hx (hb hby at_417) rfl (Yo.iconst Xy169.here hx (hb hby at_420) (Yo.goto Xy169.here hx (pc0 := 421) (pc' := 425) rfl (hb hby at_421) (by decide) (by decide) k)))))))) ?_
          refine Fin.step (fun _ k => Yo.istore Xy169.here hx (hb hby at_425) rfl (l' := #[iv p1, iv p2, iv p3, iv p4, rv by1, rv by5, iv AA, iv BB, iv 1, iv 0, iv LO, iv LI, rv by91, iv 0, rv by97, iv 1, .val .null, iv 1, iv 1, iv 0, .val .null]) rfl (Yo.iload Xy169.here hx (hb hby at_427) rfl k)) ?_
          refine Fin.retN Xy169 hx (t := .boolean) hret (by simp) hlk (hb hby at_429) (by decide) (by decide) ?_
          show Q0 Z p1 p2 p3 p4 fv gv wc h0 n0 _ Ty169.heap _
          rw [eqy169]
          exact ⟨rfl, Ny169, Ky167⟩
        · have ho2_ := ho2
          refine Fin.step (fun _ k => Yo.aload Xy140.here hx (hb hby at_201) rfl rfl (Yo.aload Xy140.here hx (hb hby at_203) rfl rfl (Yo.iconst Xy140.here hx (hb hby at_205) (Yo.iload Xy140.here hx (hb hby at_206) rfl k)))) ?_
          have ry170 := ((fy97_3.keep Kcy135 (ninS ney131 (ninS ney132 nin0))).keep Kcy140 (ninS (Ne.symm ney92_0) nin0))
          have ry171 := ((fy97_4.keep Kcy135).keep Kcy140)
          have ney172 := nlt ((Ay91.keep Kcy92).keep Kcy93).lt bzy97
          have ry173 := ((fy97_5.keep Kcy135 (ninS ney97_1 (ninS ney97_2 nin0))).keep Kcy140 (ninS (Ne.symm ney172) nin0))
          have ry174 := ((fy97_6.keep Kcy135 (ninS ney97_1 (ninS ney97_2 nin0))).keep Kcy140 (ninS (Ne.symm ney172) nin0))
          have ry175 := ((fy97_7.keep Kcy135 (ninS ney97_1 (ninS ney97_2 nin0))).keep Kcy140 (ninS (Ne.symm ney172) nin0))
          have ry176 := ((fy97_9.keep Kcy135).keep Kcy140)
          have ry177 := (fy135_0.keep Kcy140 (ninS (Ne.symm ney129) nin0))
          have ry178 := (fy135_1.keep Kcy140 (ninS (Ne.symm ney129) nin0))
          have ry179 := (fy135_2.keep Kcy140 (ninS (Ne.symm ney129) nin0))
          have ry180 := (fy135_3.keep Kcy140 (ninS (Ne.symm ney130) nin0))
          have ney181 := nlt ((((nsV Vy5).wr Wy6).wr Wy7).wr Wy8).lt (Nat.le_of_eq gy91.symm)
          have ney182 := nlt (((((nsV Vy5).wr Wy6).wr Wy7).wr Wy8).ext Ey91).lt bfy92_0
          have ney183 := nlt (((((((nsV Vy5).wr Wy6).wr Wy7).wr Wy8).ext Ey91).keep Kcy92).keep Kcy93).lt bfy97_1
          have ney184 := nlt (((((((nsV Vy5).wr Wy6).wr Wy7).wr Wy8).ext Ey91).keep Kcy92).keep Kcy93).lt bfy97_0
          have ry185 := ((((((VLYL.ext Ey91).keep Kcy92 (ninS ney181 nin0)).keep Kcy93 (ninS ney181 nin0)).keep Kcy97 (ninS ney181 (ninS ney182 nin0))).keep Kcy135 (ninS ney184 (ninS ney183 nin0))).keep Kcy140 (ninS ney181 nin0))
          have ry186 := (Sta_keepW (Sta_keepW ry127 Kcy135 (allS (nsE fy97_9) (allS (nsV fy97_13) all0))) Kcy140 (allS (nsE ((((Ay91.keep Kcy92).keep Kcy93).keep Kcy97).keep Kcy135)) all0))
          have ry187 := (Sta_keepW (Sta_keepW ry128 Kcy135 (allS (nsE fy97_9) (allS (nsV fy97_13) all0))) Kcy140 (allS (nsE ((((Ay91.keep Kcy92).keep Kcy93).keep Kcy97).keep Kcy135)) all0))
          obtain ⟨cqy188, kqy188, qy188a, qy188b, qy188c⟩ := isOf hZ rfl (ry136.keep Kcy140)
          obtain ⟨_, Ty188, Lcy188, Xy188, hQy188, sty188⟩ := pack (Xy140.virtualBack hx (y := n4) (z := n4) hown (mvT hZ (W_ hw 21)) (mvT hZ (W_ hw 22)) (notFace_of_selects (args := #[]) (mvT hZ (W_ hw 24))) (mvT hZ (W_ hw 24)) (mvT hZ (W_ hw 23)) (by decide) (backOf (W := 0) (rmto l Z a0 hw [] by91 by5 BB ao_y92 ko_y92 (2 : Int32) by97 bo_y97 ab_y97 kb_y97 AA (own_app [(.int 0), (.int 0), (.int 0), (.int 0), (.int 0), (.int 0), (.int 0), (.int 0), (.int 0), (.int 0), (.int 0), (.int 0), (.int 0), (.int 0), (.int 0), (.int 0)] XL (0 : Int32).toNatClampNeg AA.toNatClampNeg) LO (AA + BB) ky5 YL wc gv Ty140.heap n0 Zy140 (ry136.keep Kcy140) fy140_0 fy140_1 fy140_2 ry170 ry171 ry173 ry174 ry175 ry176 ry177 ry178 ry179 ry180 ry185 ry186 ry187 gzy97_0 gzy97_1 hB hY hwc hgv ppy92_0 (own_pi hA) (own_applen _ _ _ _) rfl ho2 ney92_0 ney129 ney130 ney131 ney132 ney97_1 ney97_2 ney97_0 ney184 ney183) hZ (W_ hw 25) (W_ hw 3) (by decide) (by decide)) qy188a qy188c (g := (mkF m 208 #[iv p1, iv p2, iv p3, iv p4, rv by1, rv by5, iv AA, iv BB, iv 1, iv 0, iv LO, iv LI, rv by91, iv 0, rv by97, iv 1, .val .null, .unset, .unset, .unset, .unset] [(.int BB), (.int 0), (.ref by5), (.ref by91)])) rfl (by rw [hml]; rfl) (Steps.refl _) (argsL := [(.ref by5), (.int 0), (.int BB)]) (rest := []) (lenOf pd_5 rfl) rfl (lb rfl) (hb hby at_208) (fun _ _ => ⟨rfl, rfl, (by decide : 7 + 0 ≤ _), (by decide : 37 + 0 ≤ _)⟩))
          obtain ⟨rfl, Nqy188, Kcy188, fy188_0, fy188_1, fy188_2, fy188_3⟩ := hQy188
          have Ny188 := Fr.app Ny140 Nqy188
          have Zy188 := Nat.le_trans Zy140 Kcy188.1
          have Ky188 := Ky140.trans Kcy188 (allS (Or.inr szy97_0) (allS (Or.inr szy97_1) all0))
          refine Fin.step (sty188) ?_
          show Fin p e below s _ _ _ (Ty188.setTop (mkF m 211 #[iv p1, iv p2, iv p3, iv p4, rv by1, rv by5, iv AA, iv BB, iv 1, iv 0, iv LO, iv LI, rv by91, iv 0, rv by97, iv 1, .val .null, .unset, .unset, .unset, .unset] []))
          refine Fin.step (fun _ k => Yo.aload Xy188.here hx (hb hby at_211) rfl rfl k) ?_
          have ry189 := ((ry136.keep Kcy140).keep Kcy188)
          have ry190 := (fy140_0.keep Kcy188 (ninS ney129 (ninS ney130 nin0)))
          have ry191 := (fy140_1.keep Kcy188 (ninS ney129 (ninS ney130 nin0)))
          have ry192 := (fy140_2.keep Kcy188 (ninS ney129 (ninS ney130 nin0)))
          have ry193 := (ry170.keep Kcy188 (ninS ney131 (ninS ney132 nin0)))
          have ry194 := (((fy97_8.keep Kcy135 (ninS ney97_1 (ninS ney97_2 nin0))).keep Kcy140 (ninS (Ne.symm ney172) nin0)).keep Kcy188 (ninS ney97_1 (ninS ney97_2 nin0)))
          obtain ⟨cqy195, kqy195, qy195a, qy195b, qy195c⟩ := isOf hZ rfl ry189
          obtain ⟨_, Ty195, Lcy195, Xy195, hQy195, sty195⟩ := pack (Xy188.virtualBack hx (y := n5) (z := n5) hown (mvT hZ (W_ hw 28)) (mvT hZ (W_ hw 29)) (notFace_of_selects (args := #[]) (mvT hZ (W_ hw 31))) (mvT hZ (W_ hw 31)) (mvT hZ (W_ hw 30)) (by decide) (backOf (W := 0) (rmen2n l Z a0 hw [] by91 ao_y92 ko_y92 by97 Ty188.heap n0 Zy188 ry189 ry190 ry191 ry192 ry193 ry194 gzy91) hZ (W_ hw 32) (W_ hw 3) (by decide) (by decide)) qy195a qy195c (g := (mkF m 213 #[iv p1, iv p2, iv p3, iv p4, rv by1, rv by5, iv AA, iv BB, iv 1, iv 0, iv LO, iv LI, rv by91, iv 0, rv by97, iv 1, .val .null, .unset, .unset, .unset, .unset] [(.ref by91)])) rfl (by rw [hml]; rfl) (Steps.refl _) (argsL := []) (rest := []) (lenOf pd_1 rfl) rfl (lb rfl) (hb hby at_213) (fun _ _ => ⟨rfl, rfl, (by decide : 7 + 0 ≤ _), (by decide : 37 + 0 ≤ _)⟩))
          obtain ⟨rfl, Nqy195, Kcy195, fy195_0, fy195_1, fy195_2⟩ := hQy195
          have Ny195 := Fr.app Ny188 Nqy195
          have Zy195 := Nat.le_trans Zy188 Kcy195.1
          have Ky195 := Ky188.trans Kcy195 (allS (Or.inr szy91) all0)
          refine Fin.step (sty195) ?_
          show Fin p e below s _ _ _ (Ty195.setTop (mkF m 216 #[iv p1, iv p2, iv p3, iv p4, rv by1, rv by5, iv AA, iv BB, iv 1, iv 0, iv LO, iv LI, rv by91, iv 0, rv by97, iv 1, .val .null, .unset, .unset, .unset, .unset] [(.int 1)]))
          refine Fin.step (fun _ k => Yo.istore Xy195.here hx (hb hby at_216) rfl (l' := #[iv p1, iv p2, iv p3, iv p4, rv by1, rv by5, iv AA, iv BB, iv 1, iv 0, iv LO, iv LI, rv by91, iv 0, rv by97, iv 1, .val .null, iv 1, .unset, .unset, .unset]) rfl (Yo.iload Xy195.here hx (hb hby at_218) rfl (Yo.ifNo Xy195.here hx (hb hby at_220) rfl ((if0 _ _).trans (teq ((by decide) : ((0 : Int32) = (0 : Int32)))).2) (Yo.iload Xy195.here hx (hb hby at_223) rfl (Yo.iconst Xy195.here hx (hb hby at_225) (Yo.icmpNo Xy195.here hx (hb hby at_226) rfl (teq ((by decide) : ((1 : Int32) = (1 : Int32)))).2 (Yo.iload Xy195.here hx (hb hby at_229) rfl (Yo.iconst Xy195.here hx (hb hby at_231) k)))))))) ?_
          refine Fin.step (fun _ k => Yo.icmpNo Xy195.here hx (hb hby at_232) rfl (teq ((by decide) : ((1 : Int32) = (1 : Int32)))).2 (Yo.iconst Xy195.here hx (hb hby at_235) (Yo.goto Xy195.here hx (pc0 := 236) (pc' := 240) rfl (hb hby at_236) (by decide) (by decide) (Yo.istore Xy195.here hx (hb hby at_240) rfl (l' := #[iv p1, iv p2, iv p3, iv p4, rv by1, rv by5, iv AA, iv BB, iv 1, iv 0, iv LO, iv LI, rv by91, iv 0, rv by97, iv 1, .val .null, iv 1, iv 1, .unset, .unset]) rfl (Yo.aload Xy195.here hx (hb hby at_242) rfl rfl (Yo.ifnullNo Xy195.here hx (hb hby at_244) rfl (Yo.iload Xy195.here hx (hb hby at_247) rfl (Yo.ifNo Xy195.here hx (hb hby at_249) rfl ((if0 _ _).trans (feq ((by decide) : ¬ ((1 : Int32) = (0 : Int32)))).1) k)))))))) ?_
          refine Fin.step (fun _ k => Yo.aload Xy195.here hx (hb hby at_252) rfl rfl k) ?_
          have ry196 := ((ry175.keep Kcy188 (ninS ney97_1 (ninS ney97_2 nin0))).keep Kcy195 (ninS (Ne.symm ney172) nin0))
          have ry198 := ((ry171.keep Kcy188).keep Kcy195)
          obtain ⟨cqy197, kqy197, qy197a, qy197b, qy197c⟩ := isOf hZ rfl ry198
          obtain ⟨_, Ty197, Lcy197, Xy197, hQy197, sty197⟩ := pack (Xy195.virtualBack hx (y := n20) (z := n20) hown (mvT hZ (W_ hw 122)) (mvT hZ (W_ hw 123)) (notFace_of_selects (args := #[]) (mvT hZ (W_ hw 125))) (mvT hZ (W_ hw 125)) (mvT hZ (W_ hw 124)) (by decide) (backOf (W := 0) (rmg0 l Z a0 hw [] by97 Ty195.heap n0 Zy195 ry196) hZ (W_ hw 126) (W_ hw 39) (by decide) (by decide)) qy197a qy197c (g := (mkF m 254 #[iv p1, iv p2, iv p3, iv p4, rv by1, rv by5, iv AA, iv BB, iv 1, iv 0, iv LO, iv LI, rv by91, iv 0, rv by97, iv 1, .val .null, iv 1, iv 1, .unset, .unset] [(.ref by97)])) rfl (by rw [hml]; rfl) (Steps.refl _) (argsL := []) (rest := []) (lenOf pd_15 rfl) rfl (lb rfl) (hb hby at_254) (fun _ _ => ⟨rfl, rfl, (by decide : 7 + 0 ≤ _), (by decide : 37 + 0 ≤ _)⟩))
          obtain ⟨rfl, Nqy197, eqy197⟩ := hQy197
          have Ny197 := Fr.app Ny195 Nqy197
          refine Fin.step (sty197) ?_
          show Fin p e below s _ _ _ (Ty197.setTop (mkF m 257 #[iv p1, iv p2, iv p3, iv p4, rv by1, rv by5, iv AA, iv BB, iv 1, iv 0, iv LO, iv LI, rv by91, iv 0, rv by97, iv 1, .val .null, iv 1, iv 1, .unset, .unset] [.null]))
          refine Fin.step (fun _ k => Yo.ifnonnullNo Xy197.here hx (hb hby at_257) rfl (Yo.iconst Xy197.here hx (hb hby at_260) (Yo.goto Xy197.here hx (pc0 := 261) (pc' := 265) rfl (hb hby at_261) (by decide) (by decide) (Yo.istore Xy197.here hx (hb hby at_265) rfl (l' := #[iv p1, iv p2, iv p3, iv p4, rv by1, rv by5, iv AA, iv BB, iv 1, iv 0, iv LO, iv LI, rv by91, iv 0, rv by97, iv 1, .val .null, iv 1, iv 1, .unset, .unset]) rfl (Yo.aload Xy197.here hx (hb hby at_267) rfl rfl (Yo.ifnullYes Xy197.here hx (pc0 := 269) (pc' := 333) rfl (hb hby at_269) rfl (by decide) (by decide) (Yo.aload Xy197.here hx (hb hby at_333) rfl rfl k))))))) ?_
          have ry199 := (ry193.keep Kcy195 (ninS (Ne.symm ney92_0) nin0))
          have ry200 := ((ry173.keep Kcy188 (ninS ney97_1 (ninS ney97_2 nin0))).keep Kcy195 (ninS (Ne.symm ney172) nin0))
          have ry201 := (ry194.keep Kcy195 (ninS (Ne.symm ney172) nin0))
          have ry202 := ((ry176.keep Kcy188).keep Kcy195)
          have ry203 := (fy188_0.keep Kcy195 (ninS (Ne.symm ney129) nin0))
          have ry204 := (fy188_1.keep Kcy195 (ninS (Ne.symm ney129) nin0))
          have ry205 := (fy188_2.keep Kcy195 (ninS (Ne.symm ney129) nin0))
          have ry206 := (fy188_3.keep Kcy195 (ninS (Ne.symm ney130) nin0))
          have ry207 := (Sta_keepW (Sta_keepW ry186 Kcy188 (allS (nsE ((fy97_9.keep Kcy135).keep Kcy140)) (allS (((nsV fy97_13).keep Kcy135).keep Kcy140) all0))) Kcy195 (allS (nsE ((((((Ay91.keep Kcy92).keep Kcy93).keep Kcy97).keep Kcy135).keep Kcy140).keep Kcy188)) all0))
          have ney208 := nlt ((nsV fy92_3).keep Kcy93).lt bzy97
          obtain ⟨cqy209, kqy209, qy209a, qy209b, qy209c⟩ := isOf hZ eqy197 (ry189.keep Kcy195)
          obtain ⟨_, Ty209, Lcy209, Xy209, hQy209, sty209⟩ := pack (Xy197.virtualBack hx (y := n5) (z := n5) hown (mvT hZ (W_ hw 28)) (mvT hZ (W_ hw 29)) (notFace_of_selects (args := #[]) (mvT hZ (W_ hw 31))) (mvT hZ (W_ hw 31)) (mvT hZ (W_ hw 30)) (by decide) (backOf (W := 0) (rmes1 l Z a0 hw [] by91 ao_y92 ko_y92 by97 bo_y97 ab_y97 kb_y97 (AA + BB) (own_app (own_app [(.int 0), (.int 0), (.int 0), (.int 0), (.int 0), (.int 0), (.int 0), (.int 0), (.int 0), (.int 0), (.int 0), (.int 0), (.int 0), (.int 0), (.int 0), (.int 0)] XL (0 : Int32).toNatClampNeg AA.toNatClampNeg) YL AA.toNatClampNeg BB.toNatClampNeg) wc Ty195.heap n0 Zy195 (ry189.keep Kcy195) fy195_0 fy195_1 fy195_2 ry199 ry198 ry200 ry196 ry201 ry202 ry203 ry204 ry205 ry206 ry207 gzy91 gzy92_0 gzy97 (own_66 (own_pi hA) (own_pi hB)) hwc ney92_0 (Ne.symm ney172) (Ne.symm ney208) (Ne.symm ney129) (Ne.symm ney131) (Ne.symm ney97_1) (Ne.symm ney130) (Ne.symm ney132) (Ne.symm ney97_2)) hZ (W_ hw 32) (W_ hw 3) (by decide) (by decide)) qy209a qy209c (g := (mkF m 335 #[iv p1, iv p2, iv p3, iv p4, rv by1, rv by5, iv AA, iv BB, iv 1, iv 0, iv LO, iv LI, rv by91, iv 0, rv by97, iv 1, .val .null, iv 1, iv 1, .unset, .unset] [(.ref by91)])) rfl (by rw [hml]; rfl) (Steps.refl _) (argsL := []) (rest := []) (lenOf pd_1 rfl) rfl (lb rfl) (hb hby at_335) (fun _ _ => ⟨rfl, eqy197, (by decide : 7 + 2 ≤ _), (by decide : 37 + 10 ≤ _)⟩))
          obtain ⟨so_y209, nb_y209, kn_y209, rfl, bfy209_0, bfy209_1, Nqy209, Kcy209, fy209_0, fy209_1, fy209_2, fy209_3, fy209_4, fy209_5, fy209_6, fy209_7, fy209_8, ney209_0⟩ := hQy209
          have Ny209 := Fr.app Ny197 Nqy209
          have gzy209_0 : n0 ≤ so_y209 := Nat.le_trans Zy195 bfy209_0
          have szy209_0 : h0.size ≤ so_y209 := Nat.le_trans Ky195.1 bfy209_0
          have gzy209_1 : n0 ≤ nb_y209 := Nat.le_trans Zy195 bfy209_1
          have szy209_1 : h0.size ≤ nb_y209 := Nat.le_trans Ky195.1 bfy209_1
          have Zy209 := Nat.le_trans Zy195 Kcy209.1
          have Ky209 := Ky195.trans Kcy209 (allS (Or.inr szy91) (allS (Or.inr szy92_0) (allS (Or.inr szy97) all0)))
          refine Fin.step (sty209) ?_
          show Fin p e below s _ _ _ (Ty209.setTop (mkF m 338 #[iv p1, iv p2, iv p3, iv p4, rv by1, rv by5, iv AA, iv BB, iv 1, iv 0, iv LO, iv LI, rv by91, iv 0, rv by97, iv 1, .val .null, iv 1, iv 1, .unset, .unset] [(.int 0)]))
          refine Fin.step (fun _ k => Yo.istore Xy209.here hx (hb hby at_338) rfl (l' := #[iv p1, iv p2, iv p3, iv p4, rv by1, rv by5, iv AA, iv BB, iv 1, iv 0, iv LO, iv LI, rv by91, iv 0, rv by97, iv 1, .val .null, iv 1, iv 1, iv 0, .unset]) rfl (Yo.iload Xy209.here hx (hb hby at_340) rfl (Yo.ifNo Xy209.here hx (hb hby at_342) rfl ((if0 _ _).trans (feq ((by decide) : ¬ ((1 : Int32) = (0 : Int32)))).1) (Yo.iload Xy209.here hx (hb hby at_345) rfl (Yo.ifNo Xy209.here hx (hb hby at_347) rfl ((if0 _ _).trans (teq ((by decide) : ((0 : Int32) = (0 : Int32)))).2) (Yo.iconst Xy209.here hx (hb hby at_350) (Yo.goto Xy209.here hx (pc0 := 351) (pc' := 355) rfl (hb hby at_351) (by decide) (by decide) (Yo.istore Xy209.here hx (hb hby at_355) rfl (l' := #[iv p1, iv p2, iv p3, iv p4, rv by1, rv by5, iv AA, iv BB, iv 1, iv 0, iv LO, iv LI, rv by91, iv 0, rv by97, iv 1, .val .null, iv 1, iv 1, iv 0, .unset]) rfl k)))))))) ?_
          refine Fin.step (fun _ k => Yo.aload Xy209.here hx (hb hby at_357) rfl rfl (Yo.ifnullNo Xy209.here hx (hb hby at_359) rfl (Yo.aload Xy209.here hx (hb hby at_362) rfl rfl k))) ?_
          obtain ⟨cqy210, kqy210, qy210a, qy210b, qy210c⟩ := isOf hZ rfl (ry198.keep Kcy209)
          obtain ⟨_, Ty210, Lcy210, Xy210, hQy210, sty210⟩ := pack (Xy209.virtualBack hx (y := n20) (z := n20) hown (mvT hZ (W_ hw 122)) (mvT hZ (W_ hw 123)) (notFace_of_selects (args := #[]) (mvT hZ (W_ hw 125))) (mvT hZ (W_ hw 125)) (mvT hZ (W_ hw 124)) (by decide) (backOf (W := 0) (rmg1 l Z a0 hw [] by97 so_y209 Ty209.heap n0 Zy209 fy209_4) hZ (W_ hw 126) (W_ hw 39) (by decide) (by decide)) qy210a qy210c (g := (mkF m 364 #[iv p1, iv p2, iv p3, iv p4, rv by1, rv by5, iv AA, iv BB, iv 1, iv 0, iv LO, iv LI, rv by91, iv 0, rv by97, iv 1, .val .null, iv 1, iv 1, iv 0, .unset] [(.ref by97)])) rfl (by rw [hml]; rfl) (Steps.refl _) (argsL := []) (rest := []) (lenOf pd_15 rfl) rfl (lb rfl) (hb hby at_364) (fun _ _ => ⟨rfl, rfl, (by decide : 9 + 0 ≤ _), (by decide : 47 + 0 ≤ _)⟩))
          obtain ⟨rfl, Nqy210, eqy210⟩ := hQy210
          have Ny210 := Fr.app Ny209 Nqy210
          refine Fin.step (sty210) ?_
          show Fin p e below s _ _ _ (Ty210.setTop (mkF m 367 #[iv p1, iv p2, iv p3, iv p4, rv by1, rv by5, iv AA, iv BB, iv 1, iv 0, iv LO, iv LI, rv by91, iv 0, rv by97, iv 1, .val .null, iv 1, iv 1, iv 0, .unset] [(.ref so_y209)]))
          refine Fin.step (fun _ k => Yo.astore Xy210.here hx (hb hby at_367) rfl rfl (l' := #[iv p1, iv p2, iv p3, iv p4, rv by1, rv by5, iv AA, iv BB, iv 1, iv 0, iv LO, iv LI, rv by91, iv 0, rv by97, iv 1, .val .null, iv 1, iv 1, iv 0, rv so_y209]) rfl (Yo.iload Xy210.here hx (hb hby at_369) rfl (Yo.iload Xy210.here hx (hb hby at_371) rfl (Yo.iadd Xy210.here hx (hb hby at_373) rfl k)))) ?_
          show Fin p e below s _ _ _ (Ty210.setTop (mkF m 374 #[iv p1, iv p2, iv p3, iv p4, rv by1, rv by5, iv AA, iv BB, iv 1, iv 0, iv LO, iv LI, rv by91, iv 0, rv by97, iv 1, .val .null, iv 1, iv 1, iv 0, rv so_y209] [(.int (AA + BB))]))
          refine Fin.step (fun _ k => Yo.iload Xy210.here hx (hb hby at_374) rfl (Yo.icmpNo Xy210.here hx (hb hby at_376) rfl (flt ((fun q => ho2 ((own_lim2 hLO (own_pi hB) (own_pi hA)).mpr q)) : ¬ (LO < (AA + BB)))).2.2.1 (Yo.iload Xy210.here hx (hb hby at_379) rfl (Yo.ifNo Xy210.here hx (hb hby at_381) rfl ((if0 _ _).trans (feq ((by decide) : ¬ ((1 : Int32) = (0 : Int32)))).1) (Yo.aload Xy210.here hx (hb hby at_384) rfl rfl (Yo.aload Xy210.here hx (hb hby at_386) rfl rfl (Yo.iload Xy210.here hx (hb hby at_388) rfl (Yo.aload Xy210.here hx (hb hby at_390) rfl rfl k)))))))) ?_
          refine Fin.step (fun _ k => Yo.iload Xy210.here hx (hb hby at_392) rfl k) ?_
          have ney211 := nlt (((((((((((nsV Vy1).wr Wy2).wr Wy3).wr Wy4).ext Ey5).wr Wy6).wr Wy7).wr Wy8).ext Ey91).keep Kcy92).keep Kcy93).lt bzy97
          have ry212 := (((((ry126.keep Kcy135 (ninS ney133 (ninS ney134 nin0))).keep Kcy140 (ninS ney124 nin0)).keep Kcy188 (ninS ney133 (ninS ney134 nin0))).keep Kcy195 (ninS ney124 nin0)).keep Kcy209 (ninS ney124 (ninS ney125 (ninS ney211 nin0))))
          have ney213 := nlt (((((((nsV Vy5).wr Wy6).wr Wy7).wr Wy8).ext Ey91).keep Kcy92).keep Kcy93).lt bzy97
          have ry214 := (((ry185.keep Kcy188 (ninS ney184 (ninS ney183 nin0))).keep Kcy195 (ninS ney181 nin0)).keep Kcy209 (ninS ney181 (ninS ney182 (ninS ney213 nin0))))
          have ry215 := (Sta_keep HS_jdk_internal_util_Preconditions_SIOOBE_FORMATTER Ky209)
          have ry216 := (Sta_keepW ry207 Kcy209 (allS (nsE (((((((Ay91.keep Kcy92).keep Kcy93).keep Kcy97).keep Kcy135).keep Kcy140).keep Kcy188).keep Kcy195)) (allS (((((((nsV fy92_3).keep Kcy93).keep Kcy97).keep Kcy135).keep Kcy140).keep Kcy188).keep Kcy195) (allS (nsE ((((fy97_4.keep Kcy135).keep Kcy140).keep Kcy188).keep Kcy195)) all0))))
          obtain ⟨_, Ty217, Lcy217, Xy217, hQy217, sty217⟩ := packS (Jvm.LawKit.callS Xy210 hx (y := n30) hown (mvT hZ (W_ hw 178)) (mvT hZ (W_ hw 179)) (mvT hZ (W_ hw 180)) (mvT hZ (W_ hw 181)) (by decide) (backOf (W := 0) (rmma l Z a0 hw [] so_y209 by1 AA by5 BB nb_y209 kn_y209 (AA + BB) (own_cp (own_app (own_app [(.int 0), (.int 0), (.int 0), (.int 0), (.int 0), (.int 0), (.int 0), (.int 0), (.int 0), (.int 0), (.int 0), (.int 0), (.int 0), (.int 0), (.int 0), (.int 0)] XL (0 : Int32).toNatClampNeg AA.toNatClampNeg) YL AA.toNatClampNeg BB.toNatClampNeg) (AA + BB).toNatClampNeg) ky1 XL ky5 YL fv wc Ty209.heap n0 Zy209 fy209_5 fy209_6 fy209_7 fy209_8 ry212 ry214 ry215 ry216 hfv hwc hX hY rfl (fun j u v => own_oko (own_pi hA) (own_pi hB) rfl hX hY u v)) hZ (W_ hw 181) (W_ hw 180) (by decide) (by decide)) (g := (mkF m 394 #[iv p1, iv p2, iv p3, iv p4, rv by1, rv by5, iv AA, iv BB, iv 1, iv 0, iv LO, iv LI, rv by91, iv 0, rv by97, iv 1, .val .null, iv 1, iv 1, iv 0, rv so_y209] [(.int BB), (.ref by5), (.int AA), (.ref by1), (.ref so_y209)])) rfl (by rw [hml]; rfl) (argsL := [(.ref so_y209), (.ref by1), (.int AA), (.ref by5), (.int BB)]) (rest := []) (lenOf pd_25 rfl) rfl (lb rfl) (hb hby at_394) (fun _ _ => ⟨rfl, eqy210, (by decide : 9 + 0 ≤ _), (by decide : 47 + 0 ≤ _)⟩))
          obtain ⟨rfl, Nqy217, eqy217⟩ := hQy217
          have Ny217 := Fr.app Ny210 Nqy217
          refine Fin.step (sty217) ?_
          show Fin p e below s _ _ _ (Ty217.setTop (mkF m 397 #[iv p1, iv p2, iv p3, iv p4, rv by1, rv by5, iv AA, iv BB, iv 1, iv 0, iv LO, iv LI, rv by91, iv 0, rv by97, iv 1, .val .null, iv 1, iv 1, iv 0, rv so_y209] [(.int 1)]))
          refine Fin.step (fun _ k => Yo.ifNo Xy217.here hx (hb hby at_397) rfl ((if0 _ _).trans (feq ((by decide) : ¬ ((1 : Int32) = (0 : Int32)))).1) (Yo.iconst Xy217.here hx (hb hby at_400) (Yo.goto Xy217.here hx (pc0 := 401) (pc' := 405) rfl (hb hby at_401) (by decide) (by decide) (Yo.istore Xy217.here hx (hb hby at_405) rfl (l' := #[iv p1, iv p2, iv p3, iv p4, rv by1, rv by5, iv AA, iv BB, iv 1, iv 0, iv LO, iv LI, rv by91, iv 0, rv by97, iv 1, .val .null, iv 1, iv 1, iv 0, rv so_y209]) rfl (Yo.goto Xy217.here hx (pc0 := 407) (pc' := 427) rfl (hb hby at_407) (by decide) (by decide) (Yo.iload Xy217.here hx (hb hby at_427) rfl k)))))) ?_
          refine Fin.retN Xy217 hx (t := .boolean) hret (by simp) hlk (hb hby at_429) (by decide) (by decide) ?_
          show Q0 Z p1 p2 p3 p4 fv gv wc h0 n0 _ Ty217.heap _
          rw [eqy217]
          exact ⟨rfl, Ny217, Ky209⟩
    · refine Fin.step (fun _ k => Yo.ifNo Xy8.here hx (hb hby at_108) rfl ((if0 _ _).trans (feq (hcy90 : ¬ (((ushI p3 (5 : Int32)) &&& (1 : Int32)) = (0 : Int32)))).1) (Yo.iconst Xy8.here hx (hb hby at_111) (Yo.goto Xy8.here hx (pc0 := 112) (pc' := 116) rfl (hb hby at_112) (by decide) (by decide) (Yo.istore Xy8.here hx (hb hby at_116) rfl (l' := #[iv p1, iv p2, iv p3, iv p4, rv by1, rv by5, iv AA, iv BB, iv 1, iv 1, .unset, .unset, .unset, .unset, .unset, .unset, .unset, .unset, .unset, .unset, .unset]) rfl (Yo.iloadN Xy8.here hx (hb hby at_118) rfl (Yo.bipush Xy8.here hx (hb hby at_119) (Yo.iand Xy8.here hx (hb hby at_121) rfl k))))))) ?_
      show Fin p e below s _ _ _ (Ty8.setTop (mkF m 122 #[iv p1, iv p2, iv p3, iv p4, rv by1, rv by5, iv AA, iv BB, iv 1, iv 1, .unset, .unset, .unset, .unset, .unset, .unset, .unset, .unset, .unset, .unset, .unset] [(.int (p4 &&& (7 : Int32)))]))
      refine Fin.step (fun _ k => Yo.istore Xy8.here hx (hb hby at_122) rfl (l' := #[iv p1, iv p2, iv p3, iv p4, rv by1, rv by5, iv AA, iv BB, iv 1, iv 1, .val (.int (p4 &&& (7 : Int32))), .unset, .unset, .unset, .unset, .unset, .unset, .unset, .unset, .unset, .unset]) rfl k) ?_
      obtain ⟨LO, h_LO⟩ : ∃ z : Int32, z = (p4 &&& (7 : Int32)) := ⟨_, rfl⟩
      rw [← h_LO]
      show Fin p e below s _ _ _ (Ty8.setTop (mkF m 124 #[iv p1, iv p2, iv p3, iv p4, rv by1, rv by5, iv AA, iv BB, iv 1, iv 1, iv LO, .unset, .unset, .unset, .unset, .unset, .unset, .unset, .unset, .unset, .unset] []))
      have hLO : 0 ≤ LO.toInt ∧ LO.toInt ≤ 7 := by rw [h_LO]; exact own_m7 _
      refine Fin.step (fun _ k => Yo.iloadN Xy8.here hx (hb hby at_124) rfl (Yo.iconst Xy8.here hx (hb hby at_125) (Yo.iushr Xy8.here hx (hb hby at_126) rfl k))) ?_
      show Fin p e below s _ _ _ (Ty8.setTop (mkF m 127 #[iv p1, iv p2, iv p3, iv p4, rv by1, rv by5, iv AA, iv BB, iv 1, iv 1, iv LO, .unset, .unset, .unset, .unset, .unset, .unset, .unset, .unset, .unset, .unset] [(.int (ushI p4 (3 : Int32)))]))
      refine Fin.step (fun _ k => Yo.bipush Xy8.here hx (hb hby at_127) (Yo.iand Xy8.here hx (hb hby at_129) rfl k)) ?_
      show Fin p e below s _ _ _ (Ty8.setTop (mkF m 130 #[iv p1, iv p2, iv p3, iv p4, rv by1, rv by5, iv AA, iv BB, iv 1, iv 1, iv LO, .unset, .unset, .unset, .unset, .unset, .unset, .unset, .unset, .unset, .unset] [(.int ((ushI p4 (3 : Int32)) &&& (7 : Int32)))]))
      refine Fin.step (fun _ k => Yo.istore Xy8.here hx (hb hby at_130) rfl (l' := #[iv p1, iv p2, iv p3, iv p4, rv by1, rv by5, iv AA, iv BB, iv 1, iv 1, iv LO, .val (.int ((ushI p4 (3 : Int32)) &&& (7 : Int32))), .unset, .unset, .unset, .unset, .unset, .unset, .unset, .unset, .unset]) rfl k) ?_
      obtain ⟨LI, h_LI⟩ : ∃ z : Int32, z = ((ushI p4 (3 : Int32)) &&& (7 : Int32)) := ⟨_, rfl⟩
      rw [← h_LI]
      show Fin p e below s _ _ _ (Ty8.setTop (mkF m 132 #[iv p1, iv p2, iv p3, iv p4, rv by1, rv by5, iv AA, iv BB, iv 1, iv 1, iv LO, iv LI, .unset, .unset, .unset, .unset, .unset, .unset, .unset, .unset, .unset] []))
      have hLI : 0 ≤ LI.toInt ∧ LI.toInt ≤ 7 := by rw [h_LI]; exact own_m7 _
      obtain ⟨Ty218, hy218, Xy218, ey218, Ey218, Ay218, Dy218, -, sty218⟩ := newO Xy8 hx hZ hown (W_ hw 1) (W_ hw 2) (W_ hw 3) ey8 (g := (mkF m 132 #[iv p1, iv p2, iv p3, iv p4, rv by1, rv by5, iv AA, iv BB, iv 1, iv 1, iv LO, iv LI, .unset, .unset, .unset, .unset, .unset, .unset, .unset, .unset, .unset] [])) rfl (hb hby at_132) (by decide) (by decide)
      obtain ⟨by218, gy218⟩ : ∃ z, z = hy8.size := ⟨_, rfl⟩
      rw [← gy218] at Ay218 Dy218 sty218
      have gzy218 : n0 ≤ by218 := Nat.le_trans Zy8 (Nat.le_of_eq gy218.symm)
      have szy218 : h0.size ≤ by218 := Nat.le_trans Ky8.1 (Nat.le_of_eq gy218.symm)
      have Zy218 := Nat.le_trans Zy8 Ey218.1
      have Ky218 := Ky8.ext Ey218
      have F_open_by218 : Fld Z hy218 by218 q1 "open" q9 .null := Dy218 (Or.inl (W_ hw 13)) (ty := (.array (.object "com/example/uzor/uzor/StringValues$Value"))) (by decide)
      have F_depth_by218 : Fld Z hy218 by218 q1 "depth" "I" (.int 0) := Dy218 (Or.inl (W_ hw 20)) (ty := .int) (by decide)
      have F_count_by218 : Fld Z hy218 by218 q1 "count" "I" (.int 0) := Dy218 (Or.inl (W_ hw 27)) (ty := .int) (by decide)
      refine Fin.step (sty218) ?_
      show Fin p e below s _ _ _ (Ty218.setTop (mkF m 135 #[iv p1, iv p2, iv p3, iv p4, rv by1, rv by5, iv AA, iv BB, iv 1, iv 1, iv LO, iv LI, .unset, .unset, .unset, .unset, .unset, .unset, .unset, .unset, .unset] [(.ref by218)]))
      refine Fin.step (fun _ k => Yo.dup Xy218.here hx (hb hby at_135) rfl rfl k) ?_
      obtain ⟨_, Ty219, Lcy219, Xy219, hQy219, sty219⟩ := pack (Xy218.specialBack hx (y := n1) rfl hown (mvT hZ (W_ hw 4)) (mvT hZ (W_ hw 5)) (mvT hZ (W_ hw 6)) (by decide) (backOf (W := 1) (rmsvi l Z a0 hw [] by218 hy218 n0 Zy218 Ay218 F_open_by218 F_depth_by218 F_count_by218 gzy218) hZ (W_ hw 6) (W_ hw 3) (by decide) (by decide)) (g := (mkF m 136 #[iv p1, iv p2, iv p3, iv p4, rv by1, rv by5, iv AA, iv BB, iv 1, iv 1, iv LO, iv LI, .unset, .unset, .unset, .unset, .unset, .unset, .unset, .unset, .unset] [(.ref by218), (.ref by218)])) rfl (by rw [hml]; rfl) (Steps.refl _) (a := by218) (argsL := []) (rest := [(.ref by218)]) (lenOf pd_7 rfl) rfl (lb rfl) (hb hby at_136) (fun _ _ => ⟨rfl, ey218, (by decide : 3 + 1 ≤ _), (by decide : 9 + 4 ≤ _)⟩))
      obtain ⟨ao_y219, ko_y219, rfl, bfy219_0, Nqy219, Kcy219, fy219_0, fy219_1, fy219_2, fy219_3, ppy219_0, ney219_0⟩ := hQy219
      have Ny219 := Fr.app Ny8 Nqy219
      have gzy219_0 : n0 ≤ ao_y219 := Nat.le_trans Zy218 bfy219_0
      have szy219_0 : h0.size ≤ ao_y219 := Nat.le_trans Ky218.1 bfy219_0
      have Zy219 := Nat.le_trans Zy218 Kcy219.1
      have Ky219 := Ky218.trans Kcy219 (allS (Or.inr szy218) all0)
      refine Fin.step (sty219) ?_
      show Fin p e below s _ _ _ (Ty219.setTop (mkF m 139 #[iv p1, iv p2, iv p3, iv p4, rv by1, rv by5, iv AA, iv BB, iv 1, iv 1, iv LO, iv LI, .unset, .unset, .unset, .unset, .unset, .unset, .unset, .unset, .unset] [(.ref by218)]))
      refine Fin.step (fun _ k => Yo.astore Xy219.here hx (hb hby at_139) rfl rfl (l' := #[iv p1, iv p2, iv p3, iv p4, rv by1, rv by5, iv AA, iv BB, iv 1, iv 1, iv LO, iv LI, rv by218, .unset, .unset, .unset, .unset, .unset, .unset, .unset, .unset]) rfl (Yo.aload Xy219.here hx (hb hby at_141) rfl rfl k)) ?_
      obtain ⟨cqy220, kqy220, qy220a, qy220b, qy220c⟩ := isOf hZ rfl (Ay218.keep Kcy219)
      obtain ⟨_, Ty220, Lcy220, Xy220, hQy220, sty220⟩ := pack (Xy219.virtualBack hx (y := n3) (z := n3) hown (mvT hZ (W_ hw 14)) (mvT hZ (W_ hw 15)) (notFace_of_selects (args := #[]) (mvT hZ (W_ hw 17))) (mvT hZ (W_ hw 17)) (mvT hZ (W_ hw 16)) (by decide) (backOf (W := 0) (rmse0 l Z a0 hw [] by218 ao_y219 (0 : Int32) Ty219.heap n0 Zy219 (Ay218.keep Kcy219) fy219_0 fy219_1 fy219_2 gzy218) hZ (W_ hw 18) (W_ hw 3) (by decide) (by decide)) qy220a qy220c (g := (mkF m 143 #[iv p1, iv p2, iv p3, iv p4, rv by1, rv by5, iv AA, iv BB, iv 1, iv 1, iv LO, iv LI, rv by218, .unset, .unset, .unset, .unset, .unset, .unset, .unset, .unset] [(.ref by218)])) rfl (by rw [hml]; rfl) (Steps.refl _) (argsL := []) (rest := []) (lenOf pd_1 rfl) rfl (lb rfl) (hb hby at_143) (fun _ _ => ⟨rfl, rfl, (by decide : 4 + 0 ≤ _), (by decide : 13 + 0 ≤ _)⟩))
      obtain ⟨rfl, Nqy220, Kcy220, fy220_0, fy220_1, fy220_2⟩ := hQy220
      have Ny220 := Fr.app Ny219 Nqy220
      have Zy220 := Nat.le_trans Zy219 Kcy220.1
      have Ky220 := Ky219.trans Kcy220 (allS (Or.inr szy218) all0)
      refine Fin.step (sty220) ?_
      show Fin p e below s _ _ _ (Ty220.setTop (mkF m 146 #[iv p1, iv p2, iv p3, iv p4, rv by1, rv by5, iv AA, iv BB, iv 1, iv 1, iv LO, iv LI, rv by218, .unset, .unset, .unset, .unset, .unset, .unset, .unset, .unset] [(.int 0)]))
      refine Fin.step (fun _ k => Yo.istore Xy220.here hx (hb hby at_146) rfl (l' := #[iv p1, iv p2, iv p3, iv p4, rv by1, rv by5, iv AA, iv BB, iv 1, iv 1, iv LO, iv LI, rv by218, iv 0, .unset, .unset, .unset, .unset, .unset, .unset, .unset]) rfl (Yo.iload Xy220.here hx (hb hby at_148) rfl (Yo.ifNo Xy220.here hx (hb hby at_150) rfl ((if0 _ _).trans (feq ((by decide) : ¬ ((1 : Int32) = (0 : Int32)))).1) (Yo.aload Xy220.here hx (hb hby at_153) rfl rfl (Yo.iload Xy220.here hx (hb hby at_155) rfl k))))) ?_
      have ry221 := ((Ay218.keep Kcy219).keep Kcy220)
      have ry222 := (fy219_3.keep Kcy220 (ninS (Ne.symm ney219_0) nin0))
      have ry223 := (Sta_keep HS_java_lang_String_COMPACT_STRINGS Ky220)
      obtain ⟨cqy224, kqy224, qy224a, qy224b, qy224c⟩ := isOf hZ rfl ry221
      obtain ⟨_, Ty224, Lcy224, Xy224, hQy224, sty224⟩ := pack (Xy220.virtualBack hx (y := n6) (z := n6) hown (mvT hZ (W_ hw 33)) (mvT hZ (W_ hw 34)) (notFace_of_selects (args := #[]) (mvT hZ (W_ hw 36))) (mvT hZ (W_ hw 36)) (mvT hZ (W_ hw 35)) (by decide) (backOf (W := 0) (rmbu0 l Z a0 hw [] by218 LO ao_y219 ko_y219 (1 : Int32) wc Ty220.heap n0 Zy220 ry221 fy220_0 fy220_1 fy220_2 ry222 ry223 gzy218 gzy219_0 hwc ppy219_0 ney219_0) hZ (W_ hw 37) (W_ hw 3) (by decide) (by decide)) qy224a qy224c (g := (mkF m 157 #[iv p1, iv p2, iv p3, iv p4, rv by1, rv by5, iv AA, iv BB, iv 1, iv 1, iv LO, iv LI, rv by218, iv 0, .unset, .unset, .unset, .unset, .unset, .unset, .unset] [(.int LO), (.ref by218)])) rfl (by rw [hml]; rfl) (Steps.refl _) (argsL := [(.int LO)]) (rest := []) (lenOf pd_24 rfl) rfl (lb rfl) (hb hby at_157) (fun _ _ => ⟨rfl, rfl, (by decide : 4 + 3 ≤ _), (by decide : 13 + 24 ≤ _)⟩))
      obtain ⟨bo_y224, ab_y224, kb_y224, by224, rfl, bzy224, bfy224_0, bfy224_1, Nqy224, Kcy224, fy224_0, fy224_1, fy224_2, fy224_3, fy224_4, fy224_5, fy224_6, fy224_7, fy224_8, fy224_9, fy224_10, fy224_11, fy224_12, fy224_13, ney224_0, ney224_1, ney224_2⟩ := hQy224
      have Ny224 := Fr.app Ny220 Nqy224
      have gzy224 : n0 ≤ by224 := Nat.le_trans Zy220 bzy224
      have szy224 : h0.size ≤ by224 := Nat.le_trans Ky220.1 bzy224
      have gzy224_0 : n0 ≤ bo_y224 := Nat.le_trans Zy220 bfy224_0
      have szy224_0 : h0.size ≤ bo_y224 := Nat.le_trans Ky220.1 bfy224_0
      have gzy224_1 : n0 ≤ ab_y224 := Nat.le_trans Zy220 bfy224_1
      have szy224_1 : h0.size ≤ ab_y224 := Nat.le_trans Ky220.1 bfy224_1
      have Zy224 := Nat.le_trans Zy220 Kcy224.1
      have Ky224 := Ky220.trans Kcy224 (allS (Or.inr szy218) (allS (Or.inr szy219_0) all0))
      refine Fin.step (sty224) ?_
      show Fin p e below s _ _ _ (Ty224.setTop (mkF m 160 #[iv p1, iv p2, iv p3, iv p4, rv by1, rv by5, iv AA, iv BB, iv 1, iv 1, iv LO, iv LI, rv by218, iv 0, .unset, .unset, .unset, .unset, .unset, .unset, .unset] [(.ref by224)]))
      refine Fin.step (fun _ k => Yo.goto Xy224.here hx (pc0 := 160) (pc' := 164) rfl (hb hby at_160) (by decide) (by decide) (Yo.astore Xy224.here hx (hb hby at_164) rfl rfl (l' := #[iv p1, iv p2, iv p3, iv p4, rv by1, rv by5, iv AA, iv BB, iv 1, iv 1, iv LO, iv LI, rv by218, iv 0, rv by224, .unset, .unset, .unset, .unset, .unset, .unset]) rfl k)) ?_
      rcases Classical.em ((LO - AA) < (0 : Int32)) with ho1 | ho1
      · have ho1_ := ho1
        refine Fin.step (fun _ k => Yo.aload Xy224.here hx (hb hby at_166) rfl rfl (Yo.aload Xy224.here hx (hb hby at_168) rfl rfl (Yo.iconst Xy224.here hx (hb hby at_170) (Yo.iload Xy224.here hx (hb hby at_171) rfl k)))) ?_
        have ney225 := nlt ((((nsV Vy1).wr Wy2).wr Wy3).wr Wy4).lt (Nat.le_of_eq gy5.symm)
        have ney226 := nlt ((((((((nsV Vy1).wr Wy2).wr Wy3).wr Wy4).ext Ey5).wr Wy6).wr Wy7).wr Wy8).lt (Nat.le_of_eq gy218.symm)
        have ney227 := nlt (((((((((nsV Vy1).wr Wy2).wr Wy3).wr Wy4).ext Ey5).wr Wy6).wr Wy7).wr Wy8).ext Ey218).lt bfy219_0
        have ry228 := ((((((((VLXL.ext Ey5).other Wy6 ney225).other Wy7 ney225).other Wy8 ney225).ext Ey218).keep Kcy219 (ninS ney226 nin0)).keep Kcy220 (ninS ney226 nin0)).keep Kcy224 (ninS ney226 (ninS ney227 nin0)))
        have ry229 := (Sta_keepW ry223 Kcy224 (allS (nsE ((Ay218.keep Kcy219).keep Kcy220)) (allS ((nsV fy219_3).keep Kcy220) all0)))
        have ry230 := (Sta_keep HS_jdk_internal_util_Preconditions_IOOBE_FORMATTER Ky224)
        have ney231 := nlt ((Ay218.keep Kcy219).keep Kcy220).lt bzy224
        have ney232 := nlt ((nsV fy219_3).keep Kcy220).lt bzy224
        have ney233 := nlt ((Ay218.keep Kcy219).keep Kcy220).lt bfy224_0
        have ney234 := nlt ((nsV fy219_3).keep Kcy220).lt bfy224_0
        have ney235 := nlt ((Ay218.keep Kcy219).keep Kcy220).lt bfy224_1
        have ney236 := nlt ((nsV fy219_3).keep Kcy220).lt bfy224_1
        have ney237 := nlt (((((((((((nsV Vy1).wr Wy2).wr Wy3).wr Wy4).ext Ey5).wr Wy6).wr Wy7).wr Wy8).ext Ey218).keep Kcy219).keep Kcy220).lt bzy224
        obtain ⟨cqy238, kqy238, qy238a, qy238b, qy238c⟩ := isOf hZ rfl (ry221.keep Kcy224)
        obtain ⟨_, Ty238, Lcy238, Xy238, hQy238, sty238⟩ := pack (Xy224.virtualBack hx (y := n4) (z := n4) hown (mvT hZ (W_ hw 21)) (mvT hZ (W_ hw 22)) (notFace_of_selects (args := #[]) (mvT hZ (W_ hw 24))) (mvT hZ (W_ hw 24)) (mvT hZ (W_ hw 23)) (by decide) (backOf (W := 0) (rmtp l Z a0 hw [] by218 by1 AA ao_y219 ko_y219 (1 : Int32) by224 bo_y224 ab_y224 kb_y224 (0 : Int32) [(.int 0), (.int 0), (.int 0), (.int 0), (.int 0), (.int 0), (.int 0), (.int 0), (.int 0), (.int 0), (.int 0), (.int 0), (.int 0), (.int 0), (.int 0), (.int 0)] LO ky1 XL wc gv Ty224.heap n0 Zy224 (ry221.keep Kcy224) fy224_0 fy224_1 fy224_2 fy224_3 fy224_4 fy224_5 fy224_6 fy224_7 fy224_9 fy224_10 fy224_11 fy224_12 fy224_13 ry228 ry229 ry230 gzy218 gzy219_0 gzy224 hA hX hwc hgv ppy219_0 ho1 ney219_0 ney231 ney232 (Ne.symm ney233) (Ne.symm ney234) (Ne.symm ney224_1) (Ne.symm ney235) (Ne.symm ney236) (Ne.symm ney224_2) ney226 ney227 ney237) hZ (W_ hw 25) (W_ hw 3) (by decide) (by decide)) qy238a qy238c (g := (mkF m 173 #[iv p1, iv p2, iv p3, iv p4, rv by1, rv by5, iv AA, iv BB, iv 1, iv 1, iv LO, iv LI, rv by218, iv 0, rv by224, .unset, .unset, .unset, .unset, .unset, .unset] [(.int AA), (.int 0), (.ref by1), (.ref by218)])) rfl (by rw [hml]; rfl) (Steps.refl _) (argsL := [(.ref by1), (.int 0), (.int AA)]) (rest := []) (lenOf pd_5 rfl) rfl (lb rfl) (hb hby at_173) (fun _ _ => ⟨rfl, rfl, (by decide : 7 + 0 ≤ _), (by decide : 37 + 0 ≤ _)⟩))
        obtain ⟨rfl, Nqy238, Kcy238, fy238_0, fy238_1, fy238_2, fy238_3, fy238_4, fy238_5⟩ := hQy238
        have Ny238 := Fr.app Ny224 Nqy238
        have Zy238 := Nat.le_trans Zy224 Kcy238.1
        have Ky238 := Ky224.trans Kcy238 (allS (Or.inr szy218) (allS (Or.inr szy219_0) (allS (Or.inr szy224) all0)))
        refine Fin.step (sty238) ?_
        show Fin p e below s _ _ _ (Ty238.setTop (mkF m 176 #[iv p1, iv p2, iv p3, iv p4, rv by1, rv by5, iv AA, iv BB, iv 1, iv 1, iv LO, iv LI, rv by218, iv 0, rv by224, .unset, .unset, .unset, .unset, .unset, .unset] []))
        refine Fin.step (fun _ k => Yo.aload Xy238.here hx (hb hby at_176) rfl rfl k) ?_
        have ry239 := ((ry221.keep Kcy224).keep Kcy238)
        obtain ⟨cqy240, kqy240, qy240a, qy240b, qy240c⟩ := isOf hZ rfl ry239
        obtain ⟨_, Ty240, Lcy240, Xy240, hQy240, sty240⟩ := pack (Xy238.virtualBack hx (y := n3) (z := n3) hown (mvT hZ (W_ hw 14)) (mvT hZ (W_ hw 15)) (notFace_of_selects (args := #[]) (mvT hZ (W_ hw 17))) (mvT hZ (W_ hw 17)) (mvT hZ (W_ hw 16)) (by decide) (backOf (W := 0) (rmse1 l Z a0 hw [] by218 ao_y219 (0 : Int32) Ty238.heap n0 Zy238 ry239 fy238_0 fy238_1 fy238_2 gzy218) hZ (W_ hw 18) (W_ hw 3) (by decide) (by decide)) qy240a qy240c (g := (mkF m 178 #[iv p1, iv p2, iv p3, iv p4, rv by1, rv by5, iv AA, iv BB, iv 1, iv 1, iv LO, iv LI, rv by218, iv 0, rv by224, .unset, .unset, .unset, .unset, .unset, .unset] [(.ref by218)])) rfl (by rw [hml]; rfl) (Steps.refl _) (argsL := []) (rest := []) (lenOf pd_1 rfl) rfl (lb rfl) (hb hby at_178) (fun _ _ => ⟨rfl, rfl, (by decide : 7 + 0 ≤ _), (by decide : 37 + 0 ≤ _)⟩))
        obtain ⟨rfl, Nqy240, Kcy240, fy240_0, fy240_1, fy240_2⟩ := hQy240
        have Ny240 := Fr.app Ny238 Nqy240
        have Zy240 := Nat.le_trans Zy238 Kcy240.1
        have Ky240 := Ky238.trans Kcy240 (allS (Or.inr szy218) all0)
        refine Fin.step (sty240) ?_
        show Fin p e below s _ _ _ (Ty240.setTop (mkF m 181 #[iv p1, iv p2, iv p3, iv p4, rv by1, rv by5, iv AA, iv BB, iv 1, iv 1, iv LO, iv LI, rv by218, iv 0, rv by224, .unset, .unset, .unset, .unset, .unset, .unset] [(.int 1)]))
        refine Fin.step (fun _ k => Yo.istore Xy240.here hx (hb hby at_181) rfl (l' := #[iv p1, iv p2, iv p3, iv p4, rv by1, rv by5, iv AA, iv BB, iv 1, iv 1, iv LO, iv LI, rv by218, iv 0, rv by224, iv 1, .unset, .unset, .unset, .unset, .unset]) rfl (Yo.iload Xy240.here hx (hb hby at_183) rfl (Yo.ifNo Xy240.here hx (hb hby at_185) rfl ((if0 _ _).trans (feq ((by decide) : ¬ ((1 : Int32) = (0 : Int32)))).1) (Yo.aload Xy240.here hx (hb hby at_188) rfl rfl (Yo.iload Xy240.here hx (hb hby at_190) rfl k))))) ?_
        have ry241 := (fy238_3.keep Kcy240 (ninS (Ne.symm ney219_0) nin0))
        have ry242 := (Sta_keepW (Sta_keepW ry229 Kcy238 (allS (nsE (((Ay218.keep Kcy219).keep Kcy220).keep Kcy224)) (allS (((nsV fy219_3).keep Kcy220).keep Kcy224) (allS (nsE fy224_4) all0)))) Kcy240 (allS (nsE ((((Ay218.keep Kcy219).keep Kcy220).keep Kcy224).keep Kcy238)) all0))
        obtain ⟨cqy243, kqy243, qy243a, qy243b, qy243c⟩ := isOf hZ rfl (ry239.keep Kcy240)
        obtain ⟨_, Ty243, Lcy243, Xy243, hQy243, sty243⟩ := pack (Xy240.virtualBack hx (y := n6) (z := n6) hown (mvT hZ (W_ hw 33)) (mvT hZ (W_ hw 34)) (notFace_of_selects (args := #[]) (mvT hZ (W_ hw 36))) (mvT hZ (W_ hw 36)) (mvT hZ (W_ hw 35)) (by decide) (backOf (W := 0) (rmbu0 l Z a0 hw [] by218 LI ao_y219 ko_y219 (2 : Int32) wc Ty240.heap n0 Zy240 (ry239.keep Kcy240) fy240_0 fy240_1 fy240_2 ry241 ry242 gzy218 gzy219_0 hwc ppy219_0 ney219_0) hZ (W_ hw 37) (W_ hw 3) (by decide) (by decide)) qy243a qy243c (g := (mkF m 192 #[iv p1, iv p2, iv p3, iv p4, rv by1, rv by5, iv AA, iv BB, iv 1, iv 1, iv LO, iv LI, rv by218, iv 0, rv by224, iv 1, .unset, .unset, .unset, .unset, .unset] [(.int LI), (.ref by218)])) rfl (by rw [hml]; rfl) (Steps.refl _) (argsL := [(.int LI)]) (rest := []) (lenOf pd_24 rfl) rfl (lb rfl) (hb hby at_192) (fun _ _ => ⟨rfl, rfl, (by decide : 7 + 3 ≤ _), (by decide : 37 + 24 ≤ _)⟩))
        obtain ⟨bo_y243, ab_y243, kb_y243, by243, rfl, bzy243, bfy243_0, bfy243_1, Nqy243, Kcy243, fy243_0, fy243_1, fy243_2, fy243_3, fy243_4, fy243_5, fy243_6, fy243_7, fy243_8, fy243_9, fy243_10, fy243_11, fy243_12, fy243_13, ney243_0, ney243_1, ney243_2⟩ := hQy243
        have Ny243 := Fr.app Ny240 Nqy243
        have gzy243 : n0 ≤ by243 := Nat.le_trans Zy240 bzy243
        have szy243 : h0.size ≤ by243 := Nat.le_trans Ky240.1 bzy243
        have gzy243_0 : n0 ≤ bo_y243 := Nat.le_trans Zy240 bfy243_0
        have szy243_0 : h0.size ≤ bo_y243 := Nat.le_trans Ky240.1 bfy243_0
        have gzy243_1 : n0 ≤ ab_y243 := Nat.le_trans Zy240 bfy243_1
        have szy243_1 : h0.size ≤ ab_y243 := Nat.le_trans Ky240.1 bfy243_1
        have Zy243 := Nat.le_trans Zy240 Kcy243.1
        have Ky243 := Ky240.trans Kcy243 (allS (Or.inr szy218) (allS (Or.inr szy219_0) all0))
        refine Fin.step (sty243) ?_
        show Fin p e below s _ _ _ (Ty243.setTop (mkF m 195 #[iv p1, iv p2, iv p3, iv p4, rv by1, rv by5, iv AA, iv BB, iv 1, iv 1, iv LO, iv LI, rv by218, iv 0, rv by224, iv 1, .unset, .unset, .unset, .unset, .unset] [(.ref by243)]))
        refine Fin.step (fun _ k => Yo.goto Xy243.here hx (pc0 := 195) (pc' := 199) rfl (hb hby at_195) (by decide) (by decide) (Yo.astore Xy243.here hx (hb hby at_199) rfl rfl (l' := #[iv p1, iv p2, iv p3, iv p4, rv by1, rv by5, iv AA, iv BB, iv 1, iv 1, iv LO, iv LI, rv by218, iv 0, rv by224, iv 1, rv by243, .unset, .unset, .unset, .unset]) rfl k)) ?_
        rcases Classical.em ((LI - BB) < (0 : Int32)) with hi2 | hi2
        · have hi2_ := hi2
          refine Fin.step (fun _ k => Yo.aload Xy243.here hx (hb hby at_201) rfl rfl (Yo.aload Xy243.here hx (hb hby at_203) rfl rfl (Yo.iconst Xy243.here hx (hb hby at_205) (Yo.iload Xy243.here hx (hb hby at_206) rfl k)))) ?_
          have ry244 := ((ry239.keep Kcy240).keep Kcy243)
          have ney245 := nlt ((((nsV Vy5).wr Wy6).wr Wy7).wr Wy8).lt (Nat.le_of_eq gy218.symm)
          have ney246 := nlt (((((nsV Vy5).wr Wy6).wr Wy7).wr Wy8).ext Ey218).lt bfy219_0
          have ney247 := nlt (((((((nsV Vy5).wr Wy6).wr Wy7).wr Wy8).ext Ey218).keep Kcy219).keep Kcy220).lt bzy224
          have ry248 := (((((((VLYL.ext Ey218).keep Kcy219 (ninS ney245 nin0)).keep Kcy220 (ninS ney245 nin0)).keep Kcy224 (ninS ney245 (ninS ney246 nin0))).keep Kcy238 (ninS ney245 (ninS ney246 (ninS ney247 nin0)))).keep Kcy240 (ninS ney245 nin0)).keep Kcy243 (ninS ney245 (ninS ney246 nin0)))
          have ry249 := (Sta_keepW ry242 Kcy243 (allS (nsE (((((Ay218.keep Kcy219).keep Kcy220).keep Kcy224).keep Kcy238).keep Kcy240)) (allS (((((nsV fy219_3).keep Kcy220).keep Kcy224).keep Kcy238).keep Kcy240) all0)))
          have ry250 := (Sta_keepW (Sta_keepW (Sta_keepW ry230 Kcy238 (allS (nsE (((Ay218.keep Kcy219).keep Kcy220).keep Kcy224)) (allS (((nsV fy219_3).keep Kcy220).keep Kcy224) (allS (nsE fy224_4) all0)))) Kcy240 (allS (nsE ((((Ay218.keep Kcy219).keep Kcy220).keep Kcy224).keep Kcy238)) all0)) Kcy243 (allS (nsE (((((Ay218.keep Kcy219).keep Kcy220).keep Kcy224).keep Kcy238).keep Kcy240)) (allS (((((nsV fy219_3).keep Kcy220).keep Kcy224).keep Kcy238).keep Kcy240) all0)))
          have ney251 := nlt (((((Ay218.keep Kcy219).keep Kcy220).keep Kcy224).keep Kcy238).keep Kcy240).lt bzy243
          have ney252 := nlt (((((nsV fy219_3).keep Kcy220).keep Kcy224).keep Kcy238).keep Kcy240).lt bzy243
          have ney253 := nlt (((((Ay218.keep Kcy219).keep Kcy220).keep Kcy224).keep Kcy238).keep Kcy240).lt bfy243_0
          have ney254 := nlt (((((nsV fy219_3).keep Kcy220).keep Kcy224).keep Kcy238).keep Kcy240).lt bfy243_0
          have ney255 := nlt (((((Ay218.keep Kcy219).keep Kcy220).keep Kcy224).keep Kcy238).keep Kcy240).lt bfy243_1
          have ney256 := nlt (((((nsV fy219_3).keep Kcy220).keep Kcy224).keep Kcy238).keep Kcy240).lt bfy243_1
          have ney257 := nlt ((((((((((nsV Vy5).wr Wy6).wr Wy7).wr Wy8).ext Ey218).keep Kcy219).keep Kcy220).keep Kcy224).keep Kcy238).keep Kcy240).lt bzy243
          obtain ⟨cqy258, kqy258, qy258a, qy258b, qy258c⟩ := isOf hZ rfl ry244
          obtain ⟨_, Ty258, Lcy258, Xy258, hQy258, sty258⟩ := pack (Xy243.virtualBack hx (y := n4) (z := n4) hown (mvT hZ (W_ hw 21)) (mvT hZ (W_ hw 22)) (notFace_of_selects (args := #[]) (mvT hZ (W_ hw 24))) (mvT hZ (W_ hw 24)) (mvT hZ (W_ hw 23)) (by decide) (backOf (W := 0) (rmtp l Z a0 hw [] by218 by5 BB ao_y219 ko_y219 (2 : Int32) by243 bo_y243 ab_y243 kb_y243 (0 : Int32) [(.int 0), (.int 0), (.int 0), (.int 0), (.int 0), (.int 0), (.int 0), (.int 0), (.int 0), (.int 0), (.int 0), (.int 0), (.int 0), (.int 0), (.int 0), (.int 0)] LI ky5 YL wc gv Ty243.heap n0 Zy243 ry244 fy243_0 fy243_1 fy243_2 fy243_3 fy243_4 fy243_5 fy243_6 fy243_7 fy243_9 fy243_10 fy243_11 fy243_12 fy243_13 ry248 ry249 ry250 gzy218 gzy219_0 gzy243 hB hY hwc hgv ppy219_0 hi2 ney219_0 ney251 ney252 (Ne.symm ney253) (Ne.symm ney254) (Ne.symm ney243_1) (Ne.symm ney255) (Ne.symm ney256) (Ne.symm ney243_2) ney245 ney246 ney257) hZ (W_ hw 25) (W_ hw 3) (by decide) (by decide)) qy258a qy258c (g := (mkF m 208 #[iv p1, iv p2, iv p3, iv p4, rv by1, rv by5, iv AA, iv BB, iv 1, iv 1, iv LO, iv LI, rv by218, iv 0, rv by224, iv 1, rv by243, .unset, .unset, .unset, .unset] [(.int BB), (.int 0), (.ref by5), (.ref by218)])) rfl (by rw [hml]; rfl) (Steps.refl _) (argsL := [(.ref by5), (.int 0), (.int BB)]) (rest := []) (lenOf pd_5 rfl) rfl (lb rfl) (hb hby at_208) (fun _ _ => ⟨rfl, rfl, (by decide : 10 + 0 ≤ _), (by decide : 61 + 0 ≤ _)⟩))
          obtain ⟨rfl, Nqy258, Kcy258, fy258_0, fy258_1, fy258_2, fy258_3, fy258_4, fy258_5⟩ := hQy258
          have Ny258 := Fr.app Ny243 Nqy258
          have Zy258 := Nat.le_trans Zy243 Kcy258.1
          have Ky258 := Ky243.trans Kcy258 (allS (Or.inr szy218) (allS (Or.inr szy219_0) (allS (Or.inr szy243) all0)))
          refine Fin.step (sty258) ?_
          show Fin p e below s _ _ _ (Ty258.setTop (mkF m 211 #[iv p1, iv p2, iv p3, iv p4, rv by1, rv by5, iv AA, iv BB, iv 1, iv 1, iv LO, iv LI, rv by218, iv 0, rv by224, iv 1, rv by243, .unset, .unset, .unset, .unset] []))
          refine Fin.step (fun _ k => Yo.aload Xy258.here hx (hb hby at_211) rfl rfl k) ?_
          obtain ⟨cqy259, kqy259, qy259a, qy259b, qy259c⟩ := isOf hZ rfl (ry244.keep Kcy258)
          obtain ⟨_, Ty259, Lcy259, Xy259, hQy259, sty259⟩ := pack (Xy258.virtualBack hx (y := n5) (z := n5) hown (mvT hZ (W_ hw 28)) (mvT hZ (W_ hw 29)) (notFace_of_selects (args := #[]) (mvT hZ (W_ hw 31))) (mvT hZ (W_ hw 31)) (mvT hZ (W_ hw 30)) (by decide) (backOf (W := 0) (rmen2 l Z a0 hw [] by218 ao_y219 Ty258.heap n0 Zy258 (ry244.keep Kcy258) fy258_0 fy258_1 fy258_2 gzy218) hZ (W_ hw 32) (W_ hw 3) (by decide) (by decide)) qy259a qy259c (g := (mkF m 213 #[iv p1, iv p2, iv p3, iv p4, rv by1, rv by5, iv AA, iv BB, iv 1, iv 1, iv LO, iv LI, rv by218, iv 0, rv by224, iv 1, rv by243, .unset, .unset, .unset, .unset] [(.ref by218)])) rfl (by rw [hml]; rfl) (Steps.refl _) (argsL := []) (rest := []) (lenOf pd_1 rfl) rfl (lb rfl) (hb hby at_213) (fun _ _ => ⟨rfl, rfl, (by decide : 10 + 0 ≤ _), (by decide : 61 + 0 ≤ _)⟩))
          obtain ⟨rfl, Nqy259, Kcy259, fy259_0, fy259_1, fy259_2⟩ := hQy259
          have Ny259 := Fr.app Ny258 Nqy259
          have Zy259 := Nat.le_trans Zy258 Kcy259.1
          have Ky259 := Ky258.trans Kcy259 (allS (Or.inr szy218) all0)
          refine Fin.step (sty259) ?_
          show Fin p e below s _ _ _ (Ty259.setTop (mkF m 216 #[iv p1, iv p2, iv p3, iv p4, rv by1, rv by5, iv AA, iv BB, iv 1, iv 1, iv LO, iv LI, rv by218, iv 0, rv by224, iv 1, rv by243, .unset, .unset, .unset, .unset] [(.int 1)]))
          refine Fin.step (fun _ k => Yo.istore Xy259.here hx (hb hby at_216) rfl (l' := #[iv p1, iv p2, iv p3, iv p4, rv by1, rv by5, iv AA, iv BB, iv 1, iv 1, iv LO, iv LI, rv by218, iv 0, rv by224, iv 1, rv by243, iv 1, .unset, .unset, .unset]) rfl (Yo.iload Xy259.here hx (hb hby at_218) rfl (Yo.ifNo Xy259.here hx (hb hby at_220) rfl ((if0 _ _).trans (teq ((by decide) : ((0 : Int32) = (0 : Int32)))).2) (Yo.iload Xy259.here hx (hb hby at_223) rfl (Yo.iconst Xy259.here hx (hb hby at_225) (Yo.icmpNo Xy259.here hx (hb hby at_226) rfl (teq ((by decide) : ((1 : Int32) = (1 : Int32)))).2 (Yo.iload Xy259.here hx (hb hby at_229) rfl (Yo.iconst Xy259.here hx (hb hby at_231) k)))))))) ?_
          refine Fin.step (fun _ k => Yo.icmpNo Xy259.here hx (hb hby at_232) rfl (teq ((by decide) : ((1 : Int32) = (1 : Int32)))).2 (Yo.iconst Xy259.here hx (hb hby at_235) (Yo.goto Xy259.here hx (pc0 := 236) (pc' := 240) rfl (hb hby at_236) (by decide) (by decide) (Yo.istore Xy259.here hx (hb hby at_240) rfl (l' := #[iv p1, iv p2, iv p3, iv p4, rv by1, rv by5, iv AA, iv BB, iv 1, iv 1, iv LO, iv LI, rv by218, iv 0, rv by224, iv 1, rv by243, iv 1, iv 1, .unset, .unset]) rfl (Yo.aload Xy259.here hx (hb hby at_242) rfl rfl (Yo.ifnullNo Xy259.here hx (hb hby at_244) rfl (Yo.iload Xy259.here hx (hb hby at_247) rfl (Yo.ifNo Xy259.here hx (hb hby at_249) rfl ((if0 _ _).trans (feq ((by decide) : ¬ ((1 : Int32) = (0 : Int32)))).1) k)))))))) ?_
          refine Fin.step (fun _ k => Yo.aload Xy259.here hx (hb hby at_252) rfl rfl k) ?_
          have ney260 := nlt ((fy224_4.keep Kcy238).keep Kcy240).lt bzy243
          have ry261 := ((((fy238_5.keep Kcy240 (ninS (Ne.symm ney231) nin0)).keep Kcy243 (ninS (Ne.symm ney231) (ninS (Ne.symm ney232) nin0))).keep Kcy258 (ninS (Ne.symm ney231) (ninS (Ne.symm ney232) (ninS ney260 nin0)))).keep Kcy259 (ninS (Ne.symm ney231) nin0))
          have ry263 := (((((fy224_4.keep Kcy238).keep Kcy240).keep Kcy243).keep Kcy258).keep Kcy259)
          obtain ⟨cqy262, kqy262, qy262a, qy262b, qy262c⟩ := isOf hZ rfl ry263
          obtain ⟨_, Ty262, Lcy262, Xy262, hQy262, sty262⟩ := pack (Xy259.virtualBack hx (y := n20) (z := n20) hown (mvT hZ (W_ hw 122)) (mvT hZ (W_ hw 123)) (notFace_of_selects (args := #[]) (mvT hZ (W_ hw 125))) (mvT hZ (W_ hw 125)) (mvT hZ (W_ hw 124)) (by decide) (backOf (W := 0) (rmg0 l Z a0 hw [] by224 Ty259.heap n0 Zy259 ry261) hZ (W_ hw 126) (W_ hw 39) (by decide) (by decide)) qy262a qy262c (g := (mkF m 254 #[iv p1, iv p2, iv p3, iv p4, rv by1, rv by5, iv AA, iv BB, iv 1, iv 1, iv LO, iv LI, rv by218, iv 0, rv by224, iv 1, rv by243, iv 1, iv 1, .unset, .unset] [(.ref by224)])) rfl (by rw [hml]; rfl) (Steps.refl _) (argsL := []) (rest := []) (lenOf pd_15 rfl) rfl (lb rfl) (hb hby at_254) (fun _ _ => ⟨rfl, rfl, (by decide : 10 + 0 ≤ _), (by decide : 61 + 0 ≤ _)⟩))
          obtain ⟨rfl, Nqy262, eqy262⟩ := hQy262
          have Ny262 := Fr.app Ny259 Nqy262
          refine Fin.step (sty262) ?_
          show Fin p e below s _ _ _ (Ty262.setTop (mkF m 257 #[iv p1, iv p2, iv p3, iv p4, rv by1, rv by5, iv AA, iv BB, iv 1, iv 1, iv LO, iv LI, rv by218, iv 0, rv by224, iv 1, rv by243, iv 1, iv 1, .unset, .unset] [.null]))
          refine Fin.step (fun _ k => Yo.ifnonnullNo Xy262.here hx (hb hby at_257) rfl (Yo.iconst Xy262.here hx (hb hby at_260) (Yo.goto Xy262.here hx (pc0 := 261) (pc' := 265) rfl (hb hby at_261) (by decide) (by decide) (Yo.istore Xy262.here hx (hb hby at_265) rfl (l' := #[iv p1, iv p2, iv p3, iv p4, rv by1, rv by5, iv AA, iv BB, iv 1, iv 1, iv LO, iv LI, rv by218, iv 0, rv by224, iv 1, rv by243, iv 1, iv 1, .unset, .unset]) rfl (Yo.aload Xy262.here hx (hb hby at_267) rfl rfl (Yo.ifnullNo Xy262.here hx (hb hby at_269) rfl (Yo.aload Xy262.here hx (hb hby at_272) rfl rfl k))))))) ?_
          have ry264 := (fy258_5.keep Kcy259 (ninS (Ne.symm ney251) nin0))
          have ry266 := ((fy243_4.keep Kcy258).keep Kcy259)
          obtain ⟨cqy265, kqy265, qy265a, qy265b, qy265c⟩ := isOf hZ eqy262 ry266
          obtain ⟨_, Ty265, Lcy265, Xy265, hQy265, sty265⟩ := pack (Xy262.virtualBack hx (y := n20) (z := n20) hown (mvT hZ (W_ hw 122)) (mvT hZ (W_ hw 123)) (notFace_of_selects (args := #[]) (mvT hZ (W_ hw 125))) (mvT hZ (W_ hw 125)) (mvT hZ (W_ hw 124)) (by decide) (backOf (W := 0) (rmg0 l Z a0 hw [] by243 Ty259.heap n0 Zy259 ry264) hZ (W_ hw 126) (W_ hw 39) (by decide) (by decide)) qy265a qy265c (g := (mkF m 274 #[iv p1, iv p2, iv p3, iv p4, rv by1, rv by5, iv AA, iv BB, iv 1, iv 1, iv LO, iv LI, rv by218, iv 0, rv by224, iv 1, rv by243, iv 1, iv 1, .unset, .unset] [(.ref by243)])) rfl (by rw [hml]; rfl) (Steps.refl _) (argsL := []) (rest := []) (lenOf pd_15 rfl) rfl (lb rfl) (hb hby at_274) (fun _ _ => ⟨rfl, eqy262, (by decide : 10 + 0 ≤ _), (by decide : 61 + 0 ≤ _)⟩))
          obtain ⟨rfl, Nqy265, eqy265⟩ := hQy265
          have Ny265 := Fr.app Ny262 Nqy265
          refine Fin.step (sty265) ?_
          show Fin p e below s _ _ _ (Ty265.setTop (mkF m 277 #[iv p1, iv p2, iv p3, iv p4, rv by1, rv by5, iv AA, iv BB, iv 1, iv 1, iv LO, iv LI, rv by218, iv 0, rv by224, iv 1, rv by243, iv 1, iv 1, .unset, .unset] [.null]))
          refine Fin.step (fun _ k => Yo.astore Xy265.here hx (hb hby at_277) rfl rfl (l' := #[iv p1, iv p2, iv p3, iv p4, rv by1, rv by5, iv AA, iv BB, iv 1, iv 1, iv LO, iv LI, rv by218, iv 0, rv by224, iv 1, rv by243, iv 1, iv 1, .val .null, .unset]) rfl (Yo.iload Xy265.here hx (hb hby at_279) rfl (Yo.iload Xy265.here hx (hb hby at_281) rfl (Yo.icmpYes Xy265.here hx (pc0 := 283) (pc' := 316) rfl (hb hby at_283) rfl (tlt (((own_lim hLI (own_pi hB)).mp hi2) : (LI < BB))).2.2.1 (by decide) (by decide) (Yo.iload Xy265.here hx (hb hby at_316) rfl (Yo.ifNo Xy265.here hx (hb hby at_318) rfl ((if0 _ _).trans (feq ((by decide) : ¬ ((1 : Int32) = (0 : Int32)))).1) (Yo.aload Xy265.here hx (hb hby at_321) rfl rfl (Yo.ifnonnullNo Xy265.here hx (hb hby at_323) rfl k)))))))) ?_
          refine Fin.step (fun _ k => Yo.iconst Xy265.here hx (hb hby at_326) (Yo.goto Xy265.here hx (pc0 := 327) (pc' := 331) rfl (hb hby at_327) (by decide) (by decide) (Yo.istore Xy265.here hx (hb hby at_331) rfl (l' := #[iv p1, iv p2, iv p3, iv p4, rv by1, rv by5, iv AA, iv BB, iv 1, iv 1, iv LO, iv LI, rv by218, iv 0, rv by224, iv 1, rv by243, iv 1, iv 1, .val .null, .unset]) rfl (Yo.aload Xy265.here hx (hb hby at_333) rfl rfl k)))) ?_
          have ry267 := ((ry244.keep Kcy258).keep Kcy259)
          obtain ⟨cqy268, kqy268, qy268a, qy268b, qy268c⟩ := isOf hZ eqy265 ry267
          obtain ⟨_, Ty268, Lcy268, Xy268, hQy268, sty268⟩ := pack (Xy265.virtualBack hx (y := n5) (z := n5) hown (mvT hZ (W_ hw 28)) (mvT hZ (W_ hw 29)) (notFace_of_selects (args := #[]) (mvT hZ (W_ hw 31))) (mvT hZ (W_ hw 31)) (mvT hZ (W_ hw 30)) (by decide) (backOf (W := 0) (rmen1 l Z a0 hw [] by218 ao_y219 Ty259.heap n0 Zy259 ry267 fy259_0 fy259_1 fy259_2 gzy218) hZ (W_ hw 32) (W_ hw 3) (by decide) (by decide)) qy268a qy268c (g := (mkF m 335 #[iv p1, iv p2, iv p3, iv p4, rv by1, rv by5, iv AA, iv BB, iv 1, iv 1, iv LO, iv LI, rv by218, iv 0, rv by224, iv 1, rv by243, iv 1, iv 1, .val .null, .unset] [(.ref by218)])) rfl (by rw [hml]; rfl) (Steps.refl _) (argsL := []) (rest := []) (lenOf pd_1 rfl) rfl (lb rfl) (hb hby at_335) (fun _ _ => ⟨rfl, eqy265, (by decide : 10 + 0 ≤ _), (by decide : 61 + 0 ≤ _)⟩))
          obtain ⟨rfl, Nqy268, Kcy268, fy268_0, fy268_1, fy268_2⟩ := hQy268
          have Ny268 := Fr.app Ny265 Nqy268
          have Zy268 := Nat.le_trans Zy259 Kcy268.1
          have Ky268 := Ky259.trans Kcy268 (allS (Or.inr szy218) all0)
          refine Fin.step (sty268) ?_
          show Fin p e below s _ _ _ (Ty268.setTop (mkF m 338 #[iv p1, iv p2, iv p3, iv p4, rv by1, rv by5, iv AA, iv BB, iv 1, iv 1, iv LO, iv LI, rv by218, iv 0, rv by224, iv 1, rv by243, iv 1, iv 1, .val .null, .unset] [(.int 0)]))
          refine Fin.step (fun _ k => Yo.istore Xy268.here hx (hb hby at_338) rfl (l' := #[iv p1, iv p2, iv p3, iv p4, rv by1, rv by5, iv AA, iv BB, iv 1, iv 1, iv LO, iv LI, rv by218, iv 0, rv by224, iv 1, rv by243, iv 1, iv 1, iv 0, .unset]) rfl (Yo.iload Xy268.here hx (hb hby at_340) rfl (Yo.ifNo Xy268.here hx (hb hby at_342) rfl ((if0 _ _).trans (feq ((by decide) : ¬ ((1 : Int32) = (0 : Int32)))).1) (Yo.iload Xy268.here hx (hb hby at_345) rfl (Yo.ifNo Xy268.here hx (hb hby at_347) rfl ((if0 _ _).trans (teq ((by decide) : ((0 : Int32) = (0 : Int32)))).2) (Yo.iconst Xy268.here hx (hb hby at_350) (Yo.goto Xy268.here hx (pc0 := 351) (pc' := 355) rfl (hb hby at_351) (by decide) (by decide) (Yo.istore Xy268.here hx (hb hby at_355) rfl (l' := #[iv p1, iv p2, iv p3, iv p4, rv by1, rv by5, iv AA, iv BB, iv 1, iv 1, iv LO, iv LI, rv by218, iv 0, rv by224, iv 1, rv by243, iv 1, iv 1, iv 0, .unset]) rfl k)))))))) ?_
          refine Fin.step (fun _ k => Yo.aload Xy268.here hx (hb hby at_357) rfl rfl (Yo.ifnullNo Xy268.here hx (hb hby at_359) rfl (Yo.aload Xy268.here hx (hb hby at_362) rfl rfl k))) ?_
          have ry269 := (ry261.keep Kcy268 (ninS (Ne.symm ney231) nin0))
          obtain ⟨cqy270, kqy270, qy270a, qy270b, qy270c⟩ := isOf hZ rfl (ry263.keep Kcy268)
          obtain ⟨_, Ty270, Lcy270, Xy270, hQy270, sty270⟩ := pack (Xy268.virtualBack hx (y := n20) (z := n20) hown (mvT hZ (W_ hw 122)) (mvT hZ (W_ hw 123)) (notFace_of_selects (args := #[]) (mvT hZ (W_ hw 125))) (mvT hZ (W_ hw 125)) (mvT hZ (W_ hw 124)) (by decide) (backOf (W := 0) (rmg0 l Z a0 hw [] by224 Ty268.heap n0 Zy268 ry269) hZ (W_ hw 126) (W_ hw 39) (by decide) (by decide)) qy270a qy270c (g := (mkF m 364 #[iv p1, iv p2, iv p3, iv p4, rv by1, rv by5, iv AA, iv BB, iv 1, iv 1, iv LO, iv LI, rv by218, iv 0, rv by224, iv 1, rv by243, iv 1, iv 1, iv 0, .unset] [(.ref by224)])) rfl (by rw [hml]; rfl) (Steps.refl _) (argsL := []) (rest := []) (lenOf pd_15 rfl) rfl (lb rfl) (hb hby at_364) (fun _ _ => ⟨rfl, rfl, (by decide : 10 + 0 ≤ _), (by decide : 61 + 0 ≤ _)⟩))
          obtain ⟨rfl, Nqy270, eqy270⟩ := hQy270
          have Ny270 := Fr.app Ny268 Nqy270
          refine Fin.step (sty270) ?_
          show Fin p e below s _ _ _ (Ty270.setTop (mkF m 367 #[iv p1, iv p2, iv p3, iv p4, rv by1, rv by5, iv AA, iv BB, iv 1, iv 1, iv LO, iv LI, rv by218, iv 0, rv by224, iv 1, rv by243, iv 1, iv 1, iv 0, .unset] [.null]))
          refine Fin.step (fun _ k => Yo.astore Xy270.here hx (hb hby at_367) rfl rfl (l' := #[iv p1, iv p2, iv p3, iv p4, rv by1, rv by5, iv AA, iv BB, iv 1, iv 1, iv LO, iv LI, rv by218, iv 0, rv by224, iv 1, rv by243, iv 1, iv 1, iv 0, .val .null]) rfl (Yo.iload Xy270.here hx (hb hby at_369) rfl (Yo.iload Xy270.here hx (hb hby at_371) rfl (Yo.iadd Xy270.here hx (hb hby at_373) rfl k)))) ?_
          show Fin p e below s _ _ _ (Ty270.setTop (mkF m 374 #[iv p1, iv p2, iv p3, iv p4, rv by1, rv by5, iv AA, iv BB, iv 1, iv 1, iv LO, iv LI, rv by218, iv 0, rv by224, iv 1, rv by243, iv 1, iv 1, iv 0, .val .null] [(.int (AA + BB))]))
          refine Fin.step (fun _ k => Yo.iload Xy270.here hx (hb hby at_374) rfl (Yo.icmpYes Xy270.here hx (pc0 := 376) (pc' := 410) rfl (hb hby at_376) rfl (tlt ((own_lim3 hLO (own_pi hB) (own_pi hA) ho1) : (LO < (AA + BB)))).2.2.1 (by decide) (by decide) (Yo.iload Xy270.here hx (hb hby at_410) rfl (Yo.ifNo Xy270.here hx (hb hby at_412) rfl ((if0 _ _).trans (feq ((by decide) : ¬ ((1 : Int32) = (0 : Int32)))).1) (Yo.aload Xy270.here hx (hb hby at_415) rfl rfl (Yo.ifnonnullNo Xy270.here hx (hb hby at_417) rfl (Yo.iconst Xy270.here hx (hb hby at_420) (Yo.goto Xy270.here hx (pc0 := 421) (pc' := 425) rfl (hb hby at_421) (by decide) (by decide) k)))))))) ?_
          refine Fin.step (fun _ k => Yo.istore Xy270.here hx (hb hby at_425) rfl (l' := #[iv p1, iv p2, iv p3, iv p4, rv by1, rv by5, iv AA, iv BB, iv 1, iv 1, iv LO, iv LI, rv by218, iv 0, rv by224, iv 1, rv by243, iv 1, iv 1, iv 0, .val .null]) rfl (Yo.iload Xy270.here hx (hb hby at_427) rfl k)) ?_
          refine Fin.retN Xy270 hx (t := .boolean) hret (by simp) hlk (hb hby at_429) (by decide) (by decide) ?_
          show Q0 Z p1 p2 p3 p4 fv gv wc h0 n0 _ Ty270.heap _
          rw [eqy270]
          exact ⟨rfl, Ny270, Ky268⟩
        · have hi2_ := hi2
          refine Fin.step (fun _ k => Yo.aload Xy243.here hx (hb hby at_201) rfl rfl (Yo.aload Xy243.here hx (hb hby at_203) rfl rfl (Yo.iconst Xy243.here hx (hb hby at_205) (Yo.iload Xy243.here hx (hb hby at_206) rfl k)))) ?_
          have ry271 := ((ry239.keep Kcy240).keep Kcy243)
          have ney272 := nlt ((((nsV Vy5).wr Wy6).wr Wy7).wr Wy8).lt (Nat.le_of_eq gy218.symm)
          have ney273 := nlt (((((nsV Vy5).wr Wy6).wr Wy7).wr Wy8).ext Ey218).lt bfy219_0
          have ney274 := nlt (((((((nsV Vy5).wr Wy6).wr Wy7).wr Wy8).ext Ey218).keep Kcy219).keep Kcy220).lt bzy224
          have ry275 := (((((((VLYL.ext Ey218).keep Kcy219 (ninS ney272 nin0)).keep Kcy220 (ninS ney272 nin0)).keep Kcy224 (ninS ney272 (ninS ney273 nin0))).keep Kcy238 (ninS ney272 (ninS ney273 (ninS ney274 nin0)))).keep Kcy240 (ninS ney272 nin0)).keep Kcy243 (ninS ney272 (ninS ney273 nin0)))
          have ry276 := (Sta_keepW ry242 Kcy243 (allS (nsE (((((Ay218.keep Kcy219).keep Kcy220).keep Kcy224).keep Kcy238).keep Kcy240)) (allS (((((nsV fy219_3).keep Kcy220).keep Kcy224).keep Kcy238).keep Kcy240) all0)))
          have ry277 := (Sta_keepW (Sta_keepW (Sta_keepW ry230 Kcy238 (allS (nsE (((Ay218.keep Kcy219).keep Kcy220).keep Kcy224)) (allS (((nsV fy219_3).keep Kcy220).keep Kcy224) (allS (nsE fy224_4) all0)))) Kcy240 (allS (nsE ((((Ay218.keep Kcy219).keep Kcy220).keep Kcy224).keep Kcy238)) all0)) Kcy243 (allS (nsE (((((Ay218.keep Kcy219).keep Kcy220).keep Kcy224).keep Kcy238).keep Kcy240)) (allS (((((nsV fy219_3).keep Kcy220).keep Kcy224).keep Kcy238).keep Kcy240) all0)))
          have ney278 := nlt (((((Ay218.keep Kcy219).keep Kcy220).keep Kcy224).keep Kcy238).keep Kcy240).lt bfy243_0
          have ney279 := nlt (((((Ay218.keep Kcy219).keep Kcy220).keep Kcy224).keep Kcy238).keep Kcy240).lt bfy243_1
          have ney280 := nlt (((((nsV fy219_3).keep Kcy220).keep Kcy224).keep Kcy238).keep Kcy240).lt bfy243_0
          have ney281 := nlt (((((nsV fy219_3).keep Kcy220).keep Kcy224).keep Kcy238).keep Kcy240).lt bfy243_1
          have ney282 := nlt ((((((((((nsV Vy5).wr Wy6).wr Wy7).wr Wy8).ext Ey218).keep Kcy219).keep Kcy220).keep Kcy224).keep Kcy238).keep Kcy240).lt bfy243_0
          have ney283 := nlt ((((((((((nsV Vy5).wr Wy6).wr Wy7).wr Wy8).ext Ey218).keep Kcy219).keep Kcy220).keep Kcy224).keep Kcy238).keep Kcy240).lt bfy243_1
          obtain ⟨cqy284, kqy284, qy284a, qy284b, qy284c⟩ := isOf hZ rfl ry271
          obtain ⟨_, Ty284, Lcy284, Xy284, hQy284, sty284⟩ := pack (Xy243.virtualBack hx (y := n4) (z := n4) hown (mvT hZ (W_ hw 21)) (mvT hZ (W_ hw 22)) (notFace_of_selects (args := #[]) (mvT hZ (W_ hw 24))) (mvT hZ (W_ hw 24)) (mvT hZ (W_ hw 23)) (by decide) (backOf (W := 0) (rmto l Z a0 hw [] by218 by5 BB ao_y219 ko_y219 (2 : Int32) by243 bo_y243 ab_y243 kb_y243 (0 : Int32) [(.int 0), (.int 0), (.int 0), (.int 0), (.int 0), (.int 0), (.int 0), (.int 0), (.int 0), (.int 0), (.int 0), (.int 0), (.int 0), (.int 0), (.int 0), (.int 0)] LI BB ky5 YL wc gv Ty243.heap n0 Zy243 ry271 fy243_0 fy243_1 fy243_2 fy243_3 fy243_4 fy243_5 fy243_6 fy243_7 fy243_9 fy243_10 fy243_11 fy243_12 fy243_13 ry275 ry276 ry277 gzy243_0 gzy243_1 hB hY hwc hgv ppy219_0 (by decide) rfl (Int32.zero_add BB).symm hi2 ney219_0 ney278 ney279 ney280 ney281 ney243_1 ney243_2 ney243_0 ney282 ney283) hZ (W_ hw 25) (W_ hw 3) (by decide) (by decide)) qy284a qy284c (g := (mkF m 208 #[iv p1, iv p2, iv p3, iv p4, rv by1, rv by5, iv AA, iv BB, iv 1, iv 1, iv LO, iv LI, rv by218, iv 0, rv by224, iv 1, rv by243, .unset, .unset, .unset, .unset] [(.int BB), (.int 0), (.ref by5), (.ref by218)])) rfl (by rw [hml]; rfl) (Steps.refl _) (argsL := [(.ref by5), (.int 0), (.int BB)]) (rest := []) (lenOf pd_5 rfl) rfl (lb rfl) (hb hby at_208) (fun _ _ => ⟨rfl, rfl, (by decide : 10 + 0 ≤ _), (by decide : 61 + 0 ≤ _)⟩))
          obtain ⟨rfl, Nqy284, Kcy284, fy284_0, fy284_1, fy284_2, fy284_3⟩ := hQy284
          have Ny284 := Fr.app Ny243 Nqy284
          have Zy284 := Nat.le_trans Zy243 Kcy284.1
          have Ky284 := Ky243.trans Kcy284 (allS (Or.inr szy243_0) (allS (Or.inr szy243_1) all0))
          refine Fin.step (sty284) ?_
          show Fin p e below s _ _ _ (Ty284.setTop (mkF m 211 #[iv p1, iv p2, iv p3, iv p4, rv by1, rv by5, iv AA, iv BB, iv 1, iv 1, iv LO, iv LI, rv by218, iv 0, rv by224, iv 1, rv by243, .unset, .unset, .unset, .unset] []))
          refine Fin.step (fun _ k => Yo.aload Xy284.here hx (hb hby at_211) rfl rfl k) ?_
          have ry285 := (fy243_0.keep Kcy284 (ninS ney278 (ninS ney279 nin0)))
          have ry286 := (fy243_1.keep Kcy284 (ninS ney278 (ninS ney279 nin0)))
          have ry287 := (fy243_2.keep Kcy284 (ninS ney278 (ninS ney279 nin0)))
          have ry288 := (fy243_3.keep Kcy284 (ninS ney280 (ninS ney281 nin0)))
          have ry289 := (fy243_5.keep Kcy284 (ninS ney243_1 (ninS ney243_2 nin0)))
          have ry290 := (fy243_7.keep Kcy284 (ninS ney243_1 (ninS ney243_2 nin0)))
          have ry291 := (fy243_8.keep Kcy284 (ninS ney243_1 (ninS ney243_2 nin0)))
          have ry292 := (Sta_keepW ry276 Kcy284 (allS (nsE fy243_9) (allS (nsV fy243_13) all0)))
          have ney293 := nlt (((((Ay218.keep Kcy219).keep Kcy220).keep Kcy224).keep Kcy238).keep Kcy240).lt bzy243
          have ney294 := nlt (((((nsV fy219_3).keep Kcy220).keep Kcy224).keep Kcy238).keep Kcy240).lt bzy243
          obtain ⟨cqy295, kqy295, qy295a, qy295b, qy295c⟩ := isOf hZ rfl (ry271.keep Kcy284)
          obtain ⟨_, Ty295, Lcy295, Xy295, hQy295, sty295⟩ := pack (Xy284.virtualBack hx (y := n5) (z := n5) hown (mvT hZ (W_ hw 28)) (mvT hZ (W_ hw 29)) (notFace_of_selects (args := #[]) (mvT hZ (W_ hw 31))) (mvT hZ (W_ hw 31)) (mvT hZ (W_ hw 30)) (by decide) (backOf (W := 0) (rmes2 l Z a0 hw [] by218 ao_y219 ko_y219 by243 bo_y243 ab_y243 kb_y243 BB (own_app [(.int 0), (.int 0), (.int 0), (.int 0), (.int 0), (.int 0), (.int 0), (.int 0), (.int 0), (.int 0), (.int 0), (.int 0), (.int 0), (.int 0), (.int 0), (.int 0)] YL (0 : Int32).toNatClampNeg BB.toNatClampNeg) wc Ty284.heap n0 Zy284 (ry271.keep Kcy284) ry285 ry286 ry287 ry288 (fy243_4.keep Kcy284) ry289 ry290 ry291 (fy243_9.keep Kcy284) fy284_0 fy284_1 fy284_2 fy284_3 ry292 gzy218 gzy219_0 gzy243 (own_6 (own_pi hB)) hwc ney219_0 (Ne.symm ney293) (Ne.symm ney294) (Ne.symm ney278) (Ne.symm ney280) (Ne.symm ney243_1) (Ne.symm ney279) (Ne.symm ney281) (Ne.symm ney243_2)) hZ (W_ hw 32) (W_ hw 3) (by decide) (by decide)) qy295a qy295c (g := (mkF m 213 #[iv p1, iv p2, iv p3, iv p4, rv by1, rv by5, iv AA, iv BB, iv 1, iv 1, iv LO, iv LI, rv by218, iv 0, rv by224, iv 1, rv by243, .unset, .unset, .unset, .unset] [(.ref by218)])) rfl (by rw [hml]; rfl) (Steps.refl _) (argsL := []) (rest := []) (lenOf pd_1 rfl) rfl (lb rfl) (hb hby at_213) (fun _ _ => ⟨rfl, rfl, (by decide : 10 + 2 ≤ _), (by decide : 61 + 10 ≤ _)⟩))
          obtain ⟨so_y295, nb_y295, kn_y295, rfl, bfy295_0, bfy295_1, Nqy295, Kcy295, fy295_0, fy295_1, fy295_2, fy295_3, fy295_4, fy295_5, fy295_6, fy295_7, fy295_8, ney295_0⟩ := hQy295
          have Ny295 := Fr.app Ny284 Nqy295
          have gzy295_0 : n0 ≤ so_y295 := Nat.le_trans Zy284 bfy295_0
          have szy295_0 : h0.size ≤ so_y295 := Nat.le_trans Ky284.1 bfy295_0
          have gzy295_1 : n0 ≤ nb_y295 := Nat.le_trans Zy284 bfy295_1
          have szy295_1 : h0.size ≤ nb_y295 := Nat.le_trans Ky284.1 bfy295_1
          have Zy295 := Nat.le_trans Zy284 Kcy295.1
          have Ky295 := Ky284.trans Kcy295 (allS (Or.inr szy218) (allS (Or.inr szy219_0) (allS (Or.inr szy243) all0)))
          refine Fin.step (sty295) ?_
          show Fin p e below s _ _ _ (Ty295.setTop (mkF m 216 #[iv p1, iv p2, iv p3, iv p4, rv by1, rv by5, iv AA, iv BB, iv 1, iv 1, iv LO, iv LI, rv by218, iv 0, rv by224, iv 1, rv by243, .unset, .unset, .unset, .unset] [(.int 1)]))
          refine Fin.step (fun _ k => Yo.istore Xy295.here hx (hb hby at_216) rfl (l' := #[iv p1, iv p2, iv p3, iv p4, rv by1, rv by5, iv AA, iv BB, iv 1, iv 1, iv LO, iv LI, rv by218, iv 0, rv by224, iv 1, rv by243, iv 1, .unset, .unset, .unset]) rfl (Yo.iload Xy295.here hx (hb hby at_218) rfl (Yo.ifNo Xy295.here hx (hb hby at_220) rfl ((if0 _ _).trans (teq ((by decide) : ((0 : Int32) = (0 : Int32)))).2) (Yo.iload Xy295.here hx (hb hby at_223) rfl (Yo.iconst Xy295.here hx (hb hby at_225) (Yo.icmpNo Xy295.here hx (hb hby at_226) rfl (teq ((by decide) : ((1 : Int32) = (1 : Int32)))).2 (Yo.iload Xy295.here hx (hb hby at_229) rfl (Yo.iconst Xy295.here hx (hb hby at_231) k)))))))) ?_
          refine Fin.step (fun _ k => Yo.icmpNo Xy295.here hx (hb hby at_232) rfl (teq ((by decide) : ((1 : Int32) = (1 : Int32)))).2 (Yo.iconst Xy295.here hx (hb hby at_235) (Yo.goto Xy295.here hx (pc0 := 236) (pc' := 240) rfl (hb hby at_236) (by decide) (by decide) (Yo.istore Xy295.here hx (hb hby at_240) rfl (l' := #[iv p1, iv p2, iv p3, iv p4, rv by1, rv by5, iv AA, iv BB, iv 1, iv 1, iv LO, iv LI, rv by218, iv 0, rv by224, iv 1, rv by243, iv 1, iv 1, .unset, .unset]) rfl (Yo.aload Xy295.here hx (hb hby at_242) rfl rfl (Yo.ifnullNo Xy295.here hx (hb hby at_244) rfl (Yo.iload Xy295.here hx (hb hby at_247) rfl (Yo.ifNo Xy295.here hx (hb hby at_249) rfl ((if0 _ _).trans (feq ((by decide) : ¬ ((1 : Int32) = (0 : Int32)))).1) k)))))))) ?_
          refine Fin.step (fun _ k => Yo.aload Xy295.here hx (hb hby at_252) rfl rfl k) ?_
          have ney296 := nlt ((fy224_4.keep Kcy238).keep Kcy240).lt bfy243_1
          have ney297 := nlt ((fy224_4.keep Kcy238).keep Kcy240).lt bfy243_0
          have ney298 := nlt ((fy224_4.keep Kcy238).keep Kcy240).lt bzy243
          have ry299 := ((((fy238_5.keep Kcy240 (ninS (Ne.symm ney231) nin0)).keep Kcy243 (ninS (Ne.symm ney231) (ninS (Ne.symm ney232) nin0))).keep Kcy284 (ninS ney297 (ninS ney296 nin0))).keep Kcy295 (ninS (Ne.symm ney231) (ninS (Ne.symm ney232) (ninS ney298 nin0))))
          have ry301 := (((((fy224_4.keep Kcy238).keep Kcy240).keep Kcy243).keep Kcy284).keep Kcy295)
          obtain ⟨cqy300, kqy300, qy300a, qy300b, qy300c⟩ := isOf hZ rfl ry301
          obtain ⟨_, Ty300, Lcy300, Xy300, hQy300, sty300⟩ := pack (Xy295.virtualBack hx (y := n20) (z := n20) hown (mvT hZ (W_ hw 122)) (mvT hZ (W_ hw 123)) (notFace_of_selects (args := #[]) (mvT hZ (W_ hw 125))) (mvT hZ (W_ hw 125)) (mvT hZ (W_ hw 124)) (by decide) (backOf (W := 0) (rmg0 l Z a0 hw [] by224 Ty295.heap n0 Zy295 ry299) hZ (W_ hw 126) (W_ hw 39) (by decide) (by decide)) qy300a qy300c (g := (mkF m 254 #[iv p1, iv p2, iv p3, iv p4, rv by1, rv by5, iv AA, iv BB, iv 1, iv 1, iv LO, iv LI, rv by218, iv 0, rv by224, iv 1, rv by243, iv 1, iv 1, .unset, .unset] [(.ref by224)])) rfl (by rw [hml]; rfl) (Steps.refl _) (argsL := []) (rest := []) (lenOf pd_15 rfl) rfl (lb rfl) (hb hby at_254) (fun _ _ => ⟨rfl, rfl, (by decide : 12 + 0 ≤ _), (by decide : 71 + 0 ≤ _)⟩))
          obtain ⟨rfl, Nqy300, eqy300⟩ := hQy300
          have Ny300 := Fr.app Ny295 Nqy300
          refine Fin.step (sty300) ?_
          show Fin p e below s _ _ _ (Ty300.setTop (mkF m 257 #[iv p1, iv p2, iv p3, iv p4, rv by1, rv by5, iv AA, iv BB, iv 1, iv 1, iv LO, iv LI, rv by218, iv 0, rv by224, iv 1, rv by243, iv 1, iv 1, .unset, .unset] [.null]))
          refine Fin.step (fun _ k => Yo.ifnonnullNo Xy300.here hx (hb hby at_257) rfl (Yo.iconst Xy300.here hx (hb hby at_260) (Yo.goto Xy300.here hx (pc0 := 261) (pc' := 265) rfl (hb hby at_261) (by decide) (by decide) (Yo.istore Xy300.here hx (hb hby at_265) rfl (l' := #[iv p1, iv p2, iv p3, iv p4, rv by1, rv by5, iv AA, iv BB, iv 1, iv 1, iv LO, iv LI, rv by218, iv 0, rv by224, iv 1, rv by243, iv 1, iv 1, .unset, .unset]) rfl (Yo.aload Xy300.here hx (hb hby at_267) rfl rfl (Yo.ifnullNo Xy300.here hx (hb hby at_269) rfl (Yo.aload Xy300.here hx (hb hby at_272) rfl rfl k))))))) ?_
          have ry303 := ((fy243_4.keep Kcy284).keep Kcy295)
          obtain ⟨cqy302, kqy302, qy302a, qy302b, qy302c⟩ := isOf hZ eqy300 ry303
          obtain ⟨_, Ty302, Lcy302, Xy302, hQy302, sty302⟩ := pack (Xy300.virtualBack hx (y := n20) (z := n20) hown (mvT hZ (W_ hw 122)) (mvT hZ (W_ hw 123)) (notFace_of_selects (args := #[]) (mvT hZ (W_ hw 125))) (mvT hZ (W_ hw 125)) (mvT hZ (W_ hw 124)) (by decide) (backOf (W := 0) (rmg1 l Z a0 hw [] by243 so_y295 Ty295.heap n0 Zy295 fy295_4) hZ (W_ hw 126) (W_ hw 39) (by decide) (by decide)) qy302a qy302c (g := (mkF m 274 #[iv p1, iv p2, iv p3, iv p4, rv by1, rv by5, iv AA, iv BB, iv 1, iv 1, iv LO, iv LI, rv by218, iv 0, rv by224, iv 1, rv by243, iv 1, iv 1, .unset, .unset] [(.ref by243)])) rfl (by rw [hml]; rfl) (Steps.refl _) (argsL := []) (rest := []) (lenOf pd_15 rfl) rfl (lb rfl) (hb hby at_274) (fun _ _ => ⟨rfl, eqy300, (by decide : 12 + 0 ≤ _), (by decide : 71 + 0 ≤ _)⟩))
          obtain ⟨rfl, Nqy302, eqy302⟩ := hQy302
          have Ny302 := Fr.app Ny300 Nqy302
          refine Fin.step (sty302) ?_
          show Fin p e below s _ _ _ (Ty302.setTop (mkF m 277 #[iv p1, iv p2, iv p3, iv p4, rv by1, rv by5, iv AA, iv BB, iv 1, iv 1, iv LO, iv LI, rv by218, iv 0, rv by224, iv 1, rv by243, iv 1, iv 1, .unset, .unset] [(.ref so_y295)]))
          refine Fin.step (fun _ k => Yo.astore Xy302.here hx (hb hby at_277) rfl rfl (l' := #[iv p1, iv p2, iv p3, iv p4, rv by1, rv by5, iv AA, iv BB, iv 1, iv 1, iv LO, iv LI, rv by218, iv 0, rv by224, iv 1, rv by243, iv 1, iv 1, rv so_y295, .unset]) rfl (Yo.iload Xy302.here hx (hb hby at_279) rfl (Yo.iload Xy302.here hx (hb hby at_281) rfl (Yo.icmpNo Xy302.here hx (hb hby at_283) rfl (flt ((fun q => hi2 ((own_lim hLI (own_pi hB)).mpr q)) : ¬ (LI < BB))).2.2.1 (Yo.iload Xy302.here hx (hb hby at_286) rfl (Yo.ifNo Xy302.here hx (hb hby at_288) rfl ((if0 _ _).trans (feq ((by decide) : ¬ ((1 : Int32) = (0 : Int32)))).1) (Yo.aload Xy302.here hx (hb hby at_291) rfl rfl (Yo.aload Xy302.here hx (hb hby at_293) rfl rfl k)))))))) ?_
          refine Fin.step (fun _ k => Yo.iload Xy302.here hx (hb hby at_295) rfl (Yo.aload Xy302.here hx (hb hby at_297) rfl rfl (Yo.iconst Xy302.here hx (hb hby at_299) k))) ?_
          have ney304 := nlt ((((((((((nsV Vy5).wr Wy6).wr Wy7).wr Wy8).ext Ey218).keep Kcy219).keep Kcy220).keep Kcy224).keep Kcy238).keep Kcy240).lt bzy243
          have ry305 := ((ry275.keep Kcy284 (ninS ney282 (ninS ney283 nin0))).keep Kcy295 (ninS ney272 (ninS ney273 (ninS ney304 nin0))))
          have ney306 := nlt ((((((((((((((nsV Vy1).wr Wy2).wr Wy3).wr Wy4).ext Ey5).wr Wy6).wr Wy7).wr Wy8).ext Ey218).keep Kcy219).keep Kcy220).keep Kcy224).keep Kcy238).keep Kcy240).lt bfy243_1
          have ney307 := nlt ((((((((((((((nsV Vy1).wr Wy2).wr Wy3).wr Wy4).ext Ey5).wr Wy6).wr Wy7).wr Wy8).ext Ey218).keep Kcy219).keep Kcy220).keep Kcy224).keep Kcy238).keep Kcy240).lt bfy243_0
          have ney308 := nlt ((((((((((((((nsV Vy1).wr Wy2).wr Wy3).wr Wy4).ext Ey5).wr Wy6).wr Wy7).wr Wy8).ext Ey218).keep Kcy219).keep Kcy220).keep Kcy224).keep Kcy238).keep Kcy240).lt bzy243
          have ry309 := (((((ry228.keep Kcy238 (ninS ney226 (ninS ney227 (ninS ney237 nin0)))).keep Kcy240 (ninS ney226 nin0)).keep Kcy243 (ninS ney226 (ninS ney227 nin0))).keep Kcy284 (ninS ney307 (ninS ney306 nin0))).keep Kcy295 (ninS ney226 (ninS ney227 (ninS ney308 nin0))))
          have ry310 := (Sta_keep HS_jdk_internal_util_Preconditions_SIOOBE_FORMATTER Ky295)
          have ry311 := (Sta_keepW ry292 Kcy295 (allS (nsE (((((((Ay218.keep Kcy219).keep Kcy220).keep Kcy224).keep Kcy238).keep Kcy240).keep Kcy243).keep Kcy284)) (allS (((((((nsV fy219_3).keep Kcy220).keep Kcy224).keep Kcy238).keep Kcy240).keep Kcy243).keep Kcy284) (allS (nsE (fy243_4.keep Kcy284)) all0))))
          obtain ⟨_, Ty312, Lcy312, Xy312, hQy312, sty312⟩ := packS (Jvm.LawKit.callS Xy302 hx (y := n30) hown (mvT hZ (W_ hw 178)) (mvT hZ (W_ hw 179)) (mvT hZ (W_ hw 180)) (mvT hZ (W_ hw 181)) (by decide) (backOf (W := 0) (rmma l Z a0 hw [] so_y295 by5 BB by1 (0 : Int32) nb_y295 kn_y295 BB (own_cp (own_app [(.int 0), (.int 0), (.int 0), (.int 0), (.int 0), (.int 0), (.int 0), (.int 0), (.int 0), (.int 0), (.int 0), (.int 0), (.int 0), (.int 0), (.int 0), (.int 0)] YL (0 : Int32).toNatClampNeg BB.toNatClampNeg) BB.toNatClampNeg) ky5 YL ky1 XL fv wc Ty295.heap n0 Zy295 fy295_5 fy295_6 fy295_7 fy295_8 ry305 ry309 ry310 ry311 hfv hwc hY hX (Int32.add_zero BB).symm (fun j u v => own_oki (own_pi hB) rfl hX hY u v)) hZ (W_ hw 181) (W_ hw 180) (by decide) (by decide)) (g := (mkF m 300 #[iv p1, iv p2, iv p3, iv p4, rv by1, rv by5, iv AA, iv BB, iv 1, iv 1, iv LO, iv LI, rv by218, iv 0, rv by224, iv 1, rv by243, iv 1, iv 1, rv so_y295, .unset] [(.int 0), (.ref by1), (.int BB), (.ref by5), (.ref so_y295)])) rfl (by rw [hml]; rfl) (argsL := [(.ref so_y295), (.ref by5), (.int BB), (.ref by1), (.int 0)]) (rest := []) (lenOf pd_25 rfl) rfl (lb rfl) (hb hby at_300) (fun _ _ => ⟨rfl, eqy302, (by decide : 12 + 0 ≤ _), (by decide : 71 + 0 ≤ _)⟩))
          obtain ⟨rfl, Nqy312, eqy312⟩ := hQy312
          have Ny312 := Fr.app Ny302 Nqy312
          refine Fin.step (sty312) ?_
          show Fin p e below s _ _ _ (Ty312.setTop (mkF m 303 #[iv p1, iv p2, iv p3, iv p4, rv by1, rv by5, iv AA, iv BB, iv 1, iv 1, iv LO, iv LI, rv by218, iv 0, rv by224, iv 1, rv by243, iv 1, iv 1, rv so_y295, .unset] [(.int 1)]))
          refine Fin.step (fun _ k => Yo.ifNo Xy312.here hx (hb hby at_303) rfl ((if0 _ _).trans (feq ((by decide) : ¬ ((1 : Int32) = (0 : Int32)))).1) (Yo.iconst Xy312.here hx (hb hby at_306) (Yo.goto Xy312.here hx (pc0 := 307) (pc' := 311) rfl (hb hby at_307) (by decide) (by decide) (Yo.istore Xy312.here hx (hb hby at_311) rfl (l' := #[iv p1, iv p2, iv p3, iv p4, rv by1, rv by5, iv AA, iv BB, iv 1, iv 1, iv LO, iv LI, rv by218, iv 0, rv by224, iv 1, rv by243, iv 1, iv 1, rv so_y295, .unset]) rfl (Yo.goto Xy312.here hx (pc0 := 313) (pc' := 333) rfl (hb hby at_313) (by decide) (by decide) (Yo.aload Xy312.here hx (hb hby at_333) rfl rfl k)))))) ?_
          have ry313 := ((ry271.keep Kcy284).keep Kcy295)
          obtain ⟨cqy314, kqy314, qy314a, qy314b, qy314c⟩ := isOf hZ eqy312 ry313
          obtain ⟨_, Ty314, Lcy314, Xy314, hQy314, sty314⟩ := pack (Xy312.virtualBack hx (y := n5) (z := n5) hown (mvT hZ (W_ hw 28)) (mvT hZ (W_ hw 29)) (notFace_of_selects (args := #[]) (mvT hZ (W_ hw 31))) (mvT hZ (W_ hw 31)) (mvT hZ (W_ hw 30)) (by decide) (backOf (W := 0) (rmen1 l Z a0 hw [] by218 ao_y219 Ty295.heap n0 Zy295 ry313 fy295_0 fy295_1 fy295_2 gzy218) hZ (W_ hw 32) (W_ hw 3) (by decide) (by decide)) qy314a qy314c (g := (mkF m 335 #[iv p1, iv p2, iv p3, iv p4, rv by1, rv by5, iv AA, iv BB, iv 1, iv 1, iv LO, iv LI, rv by218, iv 0, rv by224, iv 1, rv by243, iv 1, iv 1, rv so_y295, .unset] [(.ref by218)])) rfl (by rw [hml]; rfl) (Steps.refl _) (argsL := []) (rest := []) (lenOf pd_1 rfl) rfl (lb rfl) (hb hby at_335) (fun _ _ => ⟨rfl, eqy312, (by decide : 12 + 0 ≤ _), (by decide : 71 + 0 ≤ _)⟩))
          obtain ⟨rfl, Nqy314, Kcy314, fy314_0, fy314_1, fy314_2⟩ := hQy314
          have Ny314 := Fr.app Ny312 Nqy314
          have Zy314 := Nat.le_trans Zy295 Kcy314.1
          have Ky314 := Ky295.trans Kcy314 (allS (Or.inr szy218) all0)
          refine Fin.step (sty314) ?_
          show Fin p e below s _ _ _ (Ty314.setTop (mkF m 338 #[iv p1, iv p2, iv p3, iv p4, rv by1, rv by5, iv AA, iv BB, iv 1, iv 1, iv LO, iv LI, rv by218, iv 0, rv by224, iv 1, rv by243, iv 1, iv 1, rv so_y295, .unset] [(.int 0)]))
          refine Fin.step (fun _ k => Yo.istore Xy314.here hx (hb hby at_338) rfl (l' := #[iv p1, iv p2, iv p3, iv p4, rv by1, rv by5, iv AA, iv BB, iv 1, iv 1, iv LO, iv LI, rv by218, iv 0, rv by224, iv 1, rv by243, iv 1, iv 1, iv 0, .unset]) rfl (Yo.iload Xy314.here hx (hb hby at_340) rfl (Yo.ifNo Xy314.here hx (hb hby at_342) rfl ((if0 _ _).trans (feq ((by decide) : ¬ ((1 : Int32) = (0 : Int32)))).1) (Yo.iload Xy314.here hx (hb hby at_345) rfl (Yo.ifNo Xy314.here hx (hb hby at_347) rfl ((if0 _ _).trans (teq ((by decide) : ((0 : Int32) = (0 : Int32)))).2) (Yo.iconst Xy314.here hx (hb hby at_350) (Yo.goto Xy314.here hx (pc0 := 351) (pc' := 355) rfl (hb hby at_351) (by decide) (by decide) (Yo.istore Xy314.here hx (hb hby at_355) rfl (l' := #[iv p1, iv p2, iv p3, iv p4, rv by1, rv by5, iv AA, iv BB, iv 1, iv 1, iv LO, iv LI, rv by218, iv 0, rv by224, iv 1, rv by243, iv 1, iv 1, iv 0, .unset]) rfl k)))))))) ?_
          refine Fin.step (fun _ k => Yo.aload Xy314.here hx (hb hby at_357) rfl rfl (Yo.ifnullNo Xy314.here hx (hb hby at_359) rfl (Yo.aload Xy314.here hx (hb hby at_362) rfl rfl k))) ?_
          have ry315 := (ry299.keep Kcy314 (ninS (Ne.symm ney231) nin0))
          obtain ⟨cqy316, kqy316, qy316a, qy316b, qy316c⟩ := isOf hZ rfl (ry301.keep Kcy314)
          obtain ⟨_, Ty316, Lcy316, Xy316, hQy316, sty316⟩ := pack (Xy314.virtualBack hx (y := n20) (z := n20) hown (mvT hZ (W_ hw 122)) (mvT hZ (W_ hw 123)) (notFace_of_selects (args := #[]) (mvT hZ (W_ hw 125))) (mvT hZ (W_ hw 125)) (mvT hZ (W_ hw 124)) (by decide) (backOf (W := 0) (rmg0 l Z a0 hw [] by224 Ty314.heap n0 Zy314 ry315) hZ (W_ hw 126) (W_ hw 39) (by decide) (by decide)) qy316a qy316c (g := (mkF m 364 #[iv p1, iv p2, iv p3, iv p4, rv by1, rv by5, iv AA, iv BB, iv 1, iv 1, iv LO, iv LI, rv by218, iv 0, rv by224, iv 1, rv by243, iv 1, iv 1, iv 0, .unset] [(.ref by224)])) rfl (by rw [hml]; rfl) (Steps.refl _) (argsL := []) (rest := []) (lenOf pd_15 rfl) rfl (lb rfl) (hb hby at_364) (fun _ _ => ⟨rfl, rfl, (by decide : 12 + 0 ≤ _), (by decide : 71 + 0 ≤ _)⟩))
          obtain ⟨rfl, Nqy316, eqy316⟩ := hQy316
          have Ny316 := Fr.app Ny314 Nqy316
          refine Fin.step (sty316) ?_
          show Fin p e below s _ _ _ (Ty316.setTop (mkF m 367 #[iv p1, iv p2, iv p3, iv p4, rv by1, rv by5, iv AA, iv BB, iv 1, iv 1, iv LO, iv LI, rv by218, iv 0, rv by224, iv 1, rv by243, iv 1, iv 1, iv 0, .unset] [.null]))
          refine Fin.step (fun _ k => Yo.astore Xy316.here hx (hb hby at_367) rfl rfl (l' := #[iv p1, iv p2, iv p3, iv p4, rv by1, rv by5, iv AA, iv BB, iv 1, iv 1, iv LO, iv LI, rv by218, iv 0, rv by224, iv 1, rv by243, iv 1, iv 1, iv 0, .val .null]) rfl (Yo.iload Xy316.here hx (hb hby at_369) rfl (Yo.iload Xy316.here hx (hb hby at_371) rfl (Yo.iadd Xy316.here hx (hb hby at_373) rfl k)))) ?_
          show Fin p e below s _ _ _ (Ty316.setTop (mkF m 374 #[iv p1, iv p2, iv p3, iv p4, rv by1, rv by5, iv AA, iv BB, iv 1, iv 1, iv LO, iv LI, rv by218, iv 0, rv by224, iv 1, rv by243, iv 1, iv 1, iv 0, .val .null] [(.int (AA + BB))]))
          refine Fin.step (fun _ k => Yo.iload Xy316.here hx (hb hby at_374) rfl (Yo.icmpYes Xy316.here hx (pc0 := 376) (pc' := 410) rfl (hb hby at_376) rfl (tlt ((own_lim3 hLO (own_pi hB) (own_pi hA) ho1) : (LO < (AA + BB)))).2.2.1 (by decide) (by decide) (Yo.iload Xy316.here hx (hb hby at_410) rfl (Yo.ifNo Xy316.here hx (hb hby at_412) rfl ((if0 _ _).trans (feq ((by decide) : ¬ ((1 : Int32) = (0 : Int32)))).1) (Yo.aload Xy316.here hx (hb hby at_415) rfl rfl (Yo.ifnonnullNo Xy316.here hx (hb hby at_417) rfl (Yo.iconst Xy316.here hx (hb hby at_420) (Yo.goto Xy316.here hx (pc0 := 421) (pc' := 425) rfl (hb hby at_421) (by decide) (by decide) k)))))))) ?_
          refine Fin.step (fun _ k => Yo.istore Xy316.here hx (hb hby at_425) rfl (l' := #[iv p1, iv p2, iv p3, iv p4, rv by1, rv by5, iv AA, iv BB, iv 1, iv 1, iv LO, iv LI, rv by218, iv 0, rv by224, iv 1, rv by243, iv 1, iv 1, iv 0, .val .null]) rfl (Yo.iload Xy316.here hx (hb hby at_427) rfl k)) ?_
          refine Fin.retN Xy316 hx (t := .boolean) hret (by simp) hlk (hb hby at_429) (by decide) (by decide) ?_
          show Q0 Z p1 p2 p3 p4 fv gv wc h0 n0 _ Ty316.heap _
          rw [eqy316]
          exact ⟨rfl, Ny316, Ky314⟩
      · have ho1_ := ho1
        refine Fin.step (fun _ k => Yo.aload Xy224.here hx (hb hby at_166) rfl rfl (Yo.aload Xy224.here hx (hb hby at_168) rfl rfl (Yo.iconst Xy224.here hx (hb hby at_170) (Yo.iload Xy224.here hx (hb hby at_171) rfl k)))) ?_
        have ney317 := nlt ((((nsV Vy1).wr Wy2).wr Wy3).wr Wy4).lt (Nat.le_of_eq gy5.symm)
        have ney318 := nlt ((((((((nsV Vy1).wr Wy2).wr Wy3).wr Wy4).ext Ey5).wr Wy6).wr Wy7).wr Wy8).lt (Nat.le_of_eq gy218.symm)
        have ney319 := nlt (((((((((nsV Vy1).wr Wy2).wr Wy3).wr Wy4).ext Ey5).wr Wy6).wr Wy7).wr Wy8).ext Ey218).lt bfy219_0
        have ry320 := ((((((((VLXL.ext Ey5).other Wy6 ney317).other Wy7 ney317).other Wy8 ney317).ext Ey218).keep Kcy219 (ninS ney318 nin0)).keep Kcy220 (ninS ney318 nin0)).keep Kcy224 (ninS ney318 (ninS ney319 nin0)))
        have ry321 := (Sta_keepW ry223 Kcy224 (allS (nsE ((Ay218.keep Kcy219).keep Kcy220)) (allS ((nsV fy219_3).keep Kcy220) all0)))
        have ry322 := (Sta_keep HS_jdk_internal_util_Preconditions_IOOBE_FORMATTER Ky224)
        have ney323 := nlt ((Ay218.keep Kcy219).keep Kcy220).lt bfy224_0
        have ney324 := nlt ((Ay218.keep Kcy219).keep Kcy220).lt bfy224_1
        have ney325 := nlt ((nsV fy219_3).keep Kcy220).lt bfy224_0
        have ney326 := nlt ((nsV fy219_3).keep Kcy220).lt bfy224_1
        have ney327 := nlt (((((((((((nsV Vy1).wr Wy2).wr Wy3).wr Wy4).ext Ey5).wr Wy6).wr Wy7).wr Wy8).ext Ey218).keep Kcy219).keep Kcy220).lt bfy224_0
        have ney328 := nlt (((((((((((nsV Vy1).wr Wy2).wr Wy3).wr Wy4).ext Ey5).wr Wy6).wr Wy7).wr Wy8).ext Ey218).keep Kcy219).keep Kcy220).lt bfy224_1
        obtain ⟨cqy329, kqy329, qy329a, qy329b, qy329c⟩ := isOf hZ rfl (ry221.keep Kcy224)
        obtain ⟨_, Ty329, Lcy329, Xy329, hQy329, sty329⟩ := pack (Xy224.virtualBack hx (y := n4) (z := n4) hown (mvT hZ (W_ hw 21)) (mvT hZ (W_ hw 22)) (notFace_of_selects (args := #[]) (mvT hZ (W_ hw 24))) (mvT hZ (W_ hw 24)) (mvT hZ (W_ hw 23)) (by decide) (backOf (W := 0) (rmto l Z a0 hw [] by218 by1 AA ao_y219 ko_y219 (1 : Int32) by224 bo_y224 ab_y224 kb_y224 (0 : Int32) [(.int 0), (.int 0), (.int 0), (.int 0), (.int 0), (.int 0), (.int 0), (.int 0), (.int 0), (.int 0), (.int 0), (.int 0), (.int 0), (.int 0), (.int 0), (.int 0)] LO AA ky1 XL wc gv Ty224.heap n0 Zy224 (ry221.keep Kcy224) fy224_0 fy224_1 fy224_2 fy224_3 fy224_4 fy224_5 fy224_6 fy224_7 fy224_9 fy224_10 fy224_11 fy224_12 fy224_13 ry320 ry321 ry322 gzy224_0 gzy224_1 hA hX hwc hgv ppy219_0 (by decide) rfl (Int32.zero_add AA).symm ho1 ney219_0 ney323 ney324 ney325 ney326 ney224_1 ney224_2 ney224_0 ney327 ney328) hZ (W_ hw 25) (W_ hw 3) (by decide) (by decide)) qy329a qy329c (g := (mkF m 173 #[iv p1, iv p2, iv p3, iv p4, rv by1, rv by5, iv AA, iv BB, iv 1, iv 1, iv LO, iv LI, rv by218, iv 0, rv by224, .unset, .unset, .unset, .unset, .unset, .unset] [(.int AA), (.int 0), (.ref by1), (.ref by218)])) rfl (by rw [hml]; rfl) (Steps.refl _) (argsL := [(.ref by1), (.int 0), (.int AA)]) (rest := []) (lenOf pd_5 rfl) rfl (lb rfl) (hb hby at_173) (fun _ _ => ⟨rfl, rfl, (by decide : 7 + 0 ≤ _), (by decide : 37 + 0 ≤ _)⟩))
        obtain ⟨rfl, Nqy329, Kcy329, fy329_0, fy329_1, fy329_2, fy329_3⟩ := hQy329
        have Ny329 := Fr.app Ny224 Nqy329
        have Zy329 := Nat.le_trans Zy224 Kcy329.1
        have Ky329 := Ky224.trans Kcy329 (allS (Or.inr szy224_0) (allS (Or.inr szy224_1) all0))
        refine Fin.step (sty329) ?_
        show Fin p e below s _ _ _ (Ty329.setTop (mkF m 176 #[iv p1, iv p2, iv p3, iv p4, rv by1, rv by5, iv AA, iv BB, iv 1, iv 1, iv LO, iv LI, rv by218, iv 0, rv by224, .unset, .unset, .unset, .unset, .unset, .unset] []))
        refine Fin.step (fun _ k => Yo.aload Xy329.here hx (hb hby at_176) rfl rfl k) ?_
        have ry330 := ((ry221.keep Kcy224).keep Kcy329)
        have ry331 := (fy224_0.keep Kcy329 (ninS ney323 (ninS ney324 nin0)))
        have ry332 := (fy224_1.keep Kcy329 (ninS ney323 (ninS ney324 nin0)))
        have ry333 := (fy224_2.keep Kcy329 (ninS ney323 (ninS ney324 nin0)))
        obtain ⟨cqy334, kqy334, qy334a, qy334b, qy334c⟩ := isOf hZ rfl ry330
        obtain ⟨_, Ty334, Lcy334, Xy334, hQy334, sty334⟩ := pack (Xy329.virtualBack hx (y := n3) (z := n3) hown (mvT hZ (W_ hw 14)) (mvT hZ (W_ hw 15)) (notFace_of_selects (args := #[]) (mvT hZ (W_ hw 17))) (mvT hZ (W_ hw 17)) (mvT hZ (W_ hw 16)) (by decide) (backOf (W := 0) (rmse1 l Z a0 hw [] by218 ao_y219 (1 : Int32) Ty329.heap n0 Zy329 ry330 ry331 ry332 ry333 gzy218) hZ (W_ hw 18) (W_ hw 3) (by decide) (by decide)) qy334a qy334c (g := (mkF m 178 #[iv p1, iv p2, iv p3, iv p4, rv by1, rv by5, iv AA, iv BB, iv 1, iv 1, iv LO, iv LI, rv by218, iv 0, rv by224, .unset, .unset, .unset, .unset, .unset, .unset] [(.ref by218)])) rfl (by rw [hml]; rfl) (Steps.refl _) (argsL := []) (rest := []) (lenOf pd_1 rfl) rfl (lb rfl) (hb hby at_178) (fun _ _ => ⟨rfl, rfl, (by decide : 7 + 0 ≤ _), (by decide : 37 + 0 ≤ _)⟩))
        obtain ⟨rfl, Nqy334, Kcy334, fy334_0, fy334_1, fy334_2⟩ := hQy334
        have Ny334 := Fr.app Ny329 Nqy334
        have Zy334 := Nat.le_trans Zy329 Kcy334.1
        have Ky334 := Ky329.trans Kcy334 (allS (Or.inr szy218) all0)
        refine Fin.step (sty334) ?_
        show Fin p e below s _ _ _ (Ty334.setTop (mkF m 181 #[iv p1, iv p2, iv p3, iv p4, rv by1, rv by5, iv AA, iv BB, iv 1, iv 1, iv LO, iv LI, rv by218, iv 0, rv by224, .unset, .unset, .unset, .unset, .unset, .unset] [(.int 1)]))
        refine Fin.step (fun _ k => Yo.istore Xy334.here hx (hb hby at_181) rfl (l' := #[iv p1, iv p2, iv p3, iv p4, rv by1, rv by5, iv AA, iv BB, iv 1, iv 1, iv LO, iv LI, rv by218, iv 0, rv by224, iv 1, .unset, .unset, .unset, .unset, .unset]) rfl (Yo.iload Xy334.here hx (hb hby at_183) rfl (Yo.ifNo Xy334.here hx (hb hby at_185) rfl ((if0 _ _).trans (feq ((by decide) : ¬ ((1 : Int32) = (0 : Int32)))).1) (Yo.aload Xy334.here hx (hb hby at_188) rfl rfl (Yo.iload Xy334.here hx (hb hby at_190) rfl k))))) ?_
        have ry335 := ((fy224_3.keep Kcy329 (ninS ney325 (ninS ney326 nin0))).keep Kcy334 (ninS (Ne.symm ney219_0) nin0))
        have ry336 := (Sta_keepW (Sta_keepW ry321 Kcy329 (allS (nsE fy224_9) (allS (nsV fy224_13) all0))) Kcy334 (allS (nsE ((((Ay218.keep Kcy219).keep Kcy220).keep Kcy224).keep Kcy329)) all0))
        obtain ⟨cqy337, kqy337, qy337a, qy337b, qy337c⟩ := isOf hZ rfl (ry330.keep Kcy334)
        obtain ⟨_, Ty337, Lcy337, Xy337, hQy337, sty337⟩ := pack (Xy334.virtualBack hx (y := n6) (z := n6) hown (mvT hZ (W_ hw 33)) (mvT hZ (W_ hw 34)) (notFace_of_selects (args := #[]) (mvT hZ (W_ hw 36))) (mvT hZ (W_ hw 36)) (mvT hZ (W_ hw 35)) (by decide) (backOf (W := 0) (rmbu1 l Z a0 hw [] by218 LI ao_y219 ko_y219 (2 : Int32) by224 wc Ty334.heap n0 Zy334 (ry330.keep Kcy334) fy334_0 fy334_1 fy334_2 ry335 ry336 gzy218 gzy219_0 hwc ppy219_0 ney219_0) hZ (W_ hw 37) (W_ hw 3) (by decide) (by decide)) qy337a qy337c (g := (mkF m 192 #[iv p1, iv p2, iv p3, iv p4, rv by1, rv by5, iv AA, iv BB, iv 1, iv 1, iv LO, iv LI, rv by218, iv 0, rv by224, iv 1, .unset, .unset, .unset, .unset, .unset] [(.int LI), (.ref by218)])) rfl (by rw [hml]; rfl) (Steps.refl _) (argsL := [(.int LI)]) (rest := []) (lenOf pd_24 rfl) rfl (lb rfl) (hb hby at_192) (fun _ _ => ⟨rfl, rfl, (by decide : 7 + 3 ≤ _), (by decide : 37 + 24 ≤ _)⟩))
        obtain ⟨bo_y337, ab_y337, kb_y337, by337, rfl, bzy337, bfy337_0, bfy337_1, Nqy337, Kcy337, fy337_0, fy337_1, fy337_2, fy337_3, fy337_4, fy337_5, fy337_6, fy337_7, fy337_8, fy337_9, fy337_10, fy337_11, fy337_12, fy337_13, ney337_0, ney337_1, ney337_2⟩ := hQy337
        have Ny337 := Fr.app Ny334 Nqy337
        have gzy337 : n0 ≤ by337 := Nat.le_trans Zy334 bzy337
        have szy337 : h0.size ≤ by337 := Nat.le_trans Ky334.1 bzy337
        have gzy337_0 : n0 ≤ bo_y337 := Nat.le_trans Zy334 bfy337_0
        have szy337_0 : h0.size ≤ bo_y337 := Nat.le_trans Ky334.1 bfy337_0
        have gzy337_1 : n0 ≤ ab_y337 := Nat.le_trans Zy334 bfy337_1
        have szy337_1 : h0.size ≤ ab_y337 := Nat.le_trans Ky334.1 bfy337_1
        have Zy337 := Nat.le_trans Zy334 Kcy337.1
        have Ky337 := Ky334.trans Kcy337 (allS (Or.inr szy218) (allS (Or.inr szy219_0) all0))
        refine Fin.step (sty337) ?_
        show Fin p e below s _ _ _ (Ty337.setTop (mkF m 195 #[iv p1, iv p2, iv p3, iv p4, rv by1, rv by5, iv AA, iv BB, iv 1, iv 1, iv LO, iv LI, rv by218, iv 0, rv by224, iv 1, .unset, .unset, .unset, .unset, .unset] [(.ref by337)]))
        refine Fin.step (fun _ k => Yo.goto Xy337.here hx (pc0 := 195) (pc' := 199) rfl (hb hby at_195) (by decide) (by decide) (Yo.astore Xy337.here hx (hb hby at_199) rfl rfl (l' := #[iv p1, iv p2, iv p3, iv p4, rv by1, rv by5, iv AA, iv BB, iv 1, iv 1, iv LO, iv LI, rv by218, iv 0, rv by224, iv 1, rv by337, .unset, .unset, .unset, .unset]) rfl k)) ?_
        rcases Classical.em ((LO - BB) < AA) with ho2 | ho2
        · have ho2_ := ho2
          rcases Classical.em ((LI - BB) < (0 : Int32)) with hi2 | hi2
          · have hi2_ := hi2
            refine Fin.step (fun _ k => Yo.aload Xy337.here hx (hb hby at_201) rfl rfl (Yo.aload Xy337.here hx (hb hby at_203) rfl rfl (Yo.iconst Xy337.here hx (hb hby at_205) (Yo.iload Xy337.here hx (hb hby at_206) rfl k)))) ?_
            have ry338 := ((ry330.keep Kcy334).keep Kcy337)
            have ry339 := (((fy224_4.keep Kcy329).keep Kcy334).keep Kcy337)
            have ney340 := nlt ((Ay218.keep Kcy219).keep Kcy220).lt bzy224
            have ney341 := nlt ((nsV fy219_3).keep Kcy220).lt bzy224
            have ry342 := (((fy224_5.keep Kcy329 (ninS ney224_1 (ninS ney224_2 nin0))).keep Kcy334 (ninS (Ne.symm ney340) nin0)).keep Kcy337 (ninS (Ne.symm ney340) (ninS (Ne.symm ney341) nin0)))
            have ry343 := (((fy224_6.keep Kcy329 (ninS ney224_1 (ninS ney224_2 nin0))).keep Kcy334 (ninS (Ne.symm ney340) nin0)).keep Kcy337 (ninS (Ne.symm ney340) (ninS (Ne.symm ney341) nin0)))
            have ry344 := (((fy224_7.keep Kcy329 (ninS ney224_1 (ninS ney224_2 nin0))).keep Kcy334 (ninS (Ne.symm ney340) nin0)).keep Kcy337 (ninS (Ne.symm ney340) (ninS (Ne.symm ney341) nin0)))
            have ry345 := (((fy224_9.keep Kcy329).keep Kcy334).keep Kcy337)
            have ry346 := ((fy329_0.keep Kcy334 (ninS (Ne.symm ney323) nin0)).keep Kcy337 (ninS (Ne.symm ney323) (ninS (Ne.symm ney325) nin0)))
            have ry347 := ((fy329_1.keep Kcy334 (ninS (Ne.symm ney323) nin0)).keep Kcy337 (ninS (Ne.symm ney323) (ninS (Ne.symm ney325) nin0)))
            have ry348 := ((fy329_2.keep Kcy334 (ninS (Ne.symm ney323) nin0)).keep Kcy337 (ninS (Ne.symm ney323) (ninS (Ne.symm ney325) nin0)))
            have ry349 := ((fy329_3.keep Kcy334 (ninS (Ne.symm ney324) nin0)).keep Kcy337 (ninS (Ne.symm ney324) (ninS (Ne.symm ney326) nin0)))
            have ney350 := nlt ((((nsV Vy5).wr Wy6).wr Wy7).wr Wy8).lt (Nat.le_of_eq gy218.symm)
            have ney351 := nlt (((((nsV Vy5).wr Wy6).wr Wy7).wr Wy8).ext Ey218).lt bfy219_0
            have ney352 := nlt (((((((nsV Vy5).wr Wy6).wr Wy7).wr Wy8).ext Ey218).keep Kcy219).keep Kcy220).lt bfy224_1
            have ney353 := nlt (((((((nsV Vy5).wr Wy6).wr Wy7).wr Wy8).ext Ey218).keep Kcy219).keep Kcy220).lt bfy224_0
            have ry354 := (((((((VLYL.ext Ey218).keep Kcy219 (ninS ney350 nin0)).keep Kcy220 (ninS ney350 nin0)).keep Kcy224 (ninS ney350 (ninS ney351 nin0))).keep Kcy329 (ninS ney353 (ninS ney352 nin0))).keep Kcy334 (ninS ney350 nin0)).keep Kcy337 (ninS ney350 (ninS ney351 nin0)))
            have ry355 := (Sta_keepW ry336 Kcy337 (allS (nsE (((((Ay218.keep Kcy219).keep Kcy220).keep Kcy224).keep Kcy329).keep Kcy334)) (allS (((((nsV fy219_3).keep Kcy220).keep Kcy224).keep Kcy329).keep Kcy334) all0)))
            have ry356 := (Sta_keepW (Sta_keepW (Sta_keepW ry322 Kcy329 (allS (nsE fy224_9) (allS (nsV fy224_13) all0))) Kcy334 (allS (nsE ((((Ay218.keep Kcy219).keep Kcy220).keep Kcy224).keep Kcy329)) all0)) Kcy337 (allS (nsE (((((Ay218.keep Kcy219).keep Kcy220).keep Kcy224).keep Kcy329).keep Kcy334)) (allS (((((nsV fy219_3).keep Kcy220).keep Kcy224).keep Kcy329).keep Kcy334) all0)))
            have ney357 := nlt (((((Ay218.keep Kcy219).keep Kcy220).keep Kcy224).keep Kcy329).keep Kcy334).lt bzy337
            have ney358 := nlt (((((nsV fy219_3).keep Kcy220).keep Kcy224).keep Kcy329).keep Kcy334).lt bzy337
            have ney359 := nlt ((fy224_4.keep Kcy329).keep Kcy334).lt bzy337
            have ney360 := nlt ((fy224_9.keep Kcy329).keep Kcy334).lt bzy337
            have ney361 := nlt (((nsV fy224_13).keep Kcy329).keep Kcy334).lt bzy337
            have ney362 := nlt (((((Ay218.keep Kcy219).keep Kcy220).keep Kcy224).keep Kcy329).keep Kcy334).lt bfy337_0
            have ney363 := nlt (((((nsV fy219_3).keep Kcy220).keep Kcy224).keep Kcy329).keep Kcy334).lt bfy337_0
            have ney364 := nlt ((fy224_4.keep Kcy329).keep Kcy334).lt bfy337_0
            have ney365 := nlt (((((Ay218.keep Kcy219).keep Kcy220).keep Kcy224).keep Kcy329).keep Kcy334).lt bfy337_1
            have ney366 := nlt (((((nsV fy219_3).keep Kcy220).keep Kcy224).keep Kcy329).keep Kcy334).lt bfy337_1
            have ney367 := nlt ((fy224_4.keep Kcy329).keep Kcy334).lt bfy337_1
            have ney368 := nlt (((((((nsV Vy5).wr Wy6).wr Wy7).wr Wy8).ext Ey218).keep Kcy219).keep Kcy220).lt bzy224
            have ney369 := nlt ((((((((((nsV Vy5).wr Wy6).wr Wy7).wr Wy8).ext Ey218).keep Kcy219).keep Kcy220).keep Kcy224).keep Kcy329).keep Kcy334).lt bzy337
            obtain ⟨cqy370, kqy370, qy370a, qy370b, qy370c⟩ := isOf hZ rfl ry338
            obtain ⟨_, Ty370, Lcy370, Xy370, hQy370, sty370⟩ := pack (Xy337.virtualBack hx (y := n4) (z := n4) hown (mvT hZ (W_ hw 21)) (mvT hZ (W_ hw 22)) (notFace_of_selects (args := #[]) (mvT hZ (W_ hw 24))) (mvT hZ (W_ hw 24)) (mvT hZ (W_ hw 23)) (by decide) (backOf (W := 0) (rmtpp l Z a0 hw [] by218 by5 BB ao_y219 ko_y219 (2 : Int32) by224 bo_y224 ab_y224 kb_y224 AA (own_app [(.int 0), (.int 0), (.int 0), (.int 0), (.int 0), (.int 0), (.int 0), (.int 0), (.int 0), (.int 0), (.int 0), (.int 0), (.int 0), (.int 0), (.int 0), (.int 0)] XL (0 : Int32).toNatClampNeg AA.toNatClampNeg) LO by337 bo_y337 ab_y337 kb_y337 (0 : Int32) [(.int 0), (.int 0), (.int 0), (.int 0), (.int 0), (.int 0), (.int 0), (.int 0), (.int 0), (.int 0), (.int 0), (.int 0), (.int 0), (.int 0), (.int 0), (.int 0)] LI ky5 YL wc gv Ty337.heap n0 Zy337 ry338 fy337_0 fy337_1 fy337_2 fy337_3 ry339 ry342 ry343 ry344 ry345 ry346 ry347 ry348 ry349 fy337_4 fy337_5 fy337_6 fy337_7 fy337_9 fy337_10 fy337_11 fy337_12 fy337_13 ry354 ry355 ry356 gzy218 gzy219_0 gzy224 gzy337 hB hY hwc hgv ppy219_0 ho2 hi2 ney219_0 ney340 ney357 ney341 ney358 ney359 (Ne.symm ney323) (Ne.symm ney325) (Ne.symm ney224_1) ney360 (Ne.symm ney324) (Ne.symm ney326) (Ne.symm ney224_2) ney361 (Ne.symm ney362) (Ne.symm ney363) (Ne.symm ney364) (Ne.symm ney337_1) (Ne.symm ney365) (Ne.symm ney366) (Ne.symm ney367) (Ne.symm ney337_2) ney350 ney351 ney368 ney369) hZ (W_ hw 25) (W_ hw 3) (by decide) (by decide)) qy370a qy370c (g := (mkF m 208 #[iv p1, iv p2, iv p3, iv p4, rv by1, rv by5, iv AA, iv BB, iv 1, iv 1, iv LO, iv LI, rv by218, iv 0, rv by224, iv 1, rv by337, .unset, .unset, .unset, .unset] [(.int BB), (.int 0), (.ref by5), (.ref by218)])) rfl (by rw [hml]; rfl) (Steps.refl _) (argsL := [(.ref by5), (.int 0), (.int BB)]) (rest := []) (lenOf pd_5 rfl) rfl (lb rfl) (hb hby at_208) (fun _ _ => ⟨rfl, rfl, (by decide : 10 + 0 ≤ _), (by decide : 61 + 0 ≤ _)⟩))
            obtain ⟨rfl, Nqy370, Kcy370, fy370_0, fy370_1, fy370_2, fy370_3, fy370_4, fy370_5, fy370_6, fy370_7⟩ := hQy370
            have Ny370 := Fr.app Ny337 Nqy370
            have Zy370 := Nat.le_trans Zy337 Kcy370.1
            have Ky370 := Ky337.trans Kcy370 (allS (Or.inr szy218) (allS (Or.inr szy219_0) (allS (Or.inr szy224) (allS (Or.inr szy337) all0))))
            refine Fin.step (sty370) ?_
            show Fin p e below s _ _ _ (Ty370.setTop (mkF m 211 #[iv p1, iv p2, iv p3, iv p4, rv by1, rv by5, iv AA, iv BB, iv 1, iv 1, iv LO, iv LI, rv by218, iv 0, rv by224, iv 1, rv by337, .unset, .unset, .unset, .unset] []))
            refine Fin.step (fun _ k => Yo.aload Xy370.here hx (hb hby at_211) rfl rfl k) ?_
            obtain ⟨cqy371, kqy371, qy371a, qy371b, qy371c⟩ := isOf hZ rfl (ry338.keep Kcy370)
            obtain ⟨_, Ty371, Lcy371, Xy371, hQy371, sty371⟩ := pack (Xy370.virtualBack hx (y := n5) (z := n5) hown (mvT hZ (W_ hw 28)) (mvT hZ (W_ hw 29)) (notFace_of_selects (args := #[]) (mvT hZ (W_ hw 31))) (mvT hZ (W_ hw 31)) (mvT hZ (W_ hw 30)) (by decide) (backOf (W := 0) (rmen2 l Z a0 hw [] by218 ao_y219 Ty370.heap n0 Zy370 (ry338.keep Kcy370) fy370_0 fy370_1 fy370_2 gzy218) hZ (W_ hw 32) (W_ hw 3) (by decide) (by decide)) qy371a qy371c (g := (mkF m 213 #[iv p1, iv p2, iv p3, iv p4, rv by1, rv by5, iv AA, iv BB, iv 1, iv 1, iv LO, iv LI, rv by218, iv 0, rv by224, iv 1, rv by337, .unset, .unset, .unset, .unset] [(.ref by218)])) rfl (by rw [hml]; rfl) (Steps.refl _) (argsL := []) (rest := []) (lenOf pd_1 rfl) rfl (lb rfl) (hb hby at_213) (fun _ _ => ⟨rfl, rfl, (by decide : 10 + 0 ≤ _), (by decide : 61 + 0 ≤ _)⟩))
            obtain ⟨rfl, Nqy371, Kcy371, fy371_0, fy371_1, fy371_2⟩ := hQy371
            have Ny371 := Fr.app Ny370 Nqy371
            have Zy371 := Nat.le_trans Zy370 Kcy371.1
            have Ky371 := Ky370.trans Kcy371 (allS (Or.inr szy218) all0)
            refine Fin.step (sty371) ?_
            show Fin p e below s _ _ _ (Ty371.setTop (mkF m 216 #[iv p1, iv p2, iv p3, iv p4, rv by1, rv by5, iv AA, iv BB, iv 1, iv 1, iv LO, iv LI, rv by218, iv 0, rv by224, iv 1, rv by337, .unset, .unset, .unset, .unset] [(.int 1)]))
            refine Fin.step (fun _ k => Yo.istore Xy371.here hx (hb hby at_216) rfl (l' := #[iv p1, iv p2, iv p3, iv p4, rv by1, rv by5, iv AA, iv BB, iv 1, iv 1, iv LO, iv LI, rv by218, iv 0, rv by224, iv 1, rv by337, iv 1, .unset, .unset, .unset]) rfl (Yo.iload Xy371.here hx (hb hby at_218) rfl (Yo.ifNo Xy371.here hx (hb hby at_220) rfl ((if0 _ _).trans (teq ((by decide) : ((0 : Int32) = (0 : Int32)))).2) (Yo.iload Xy371.here hx (hb hby at_223) rfl (Yo.iconst Xy371.here hx (hb hby at_225) (Yo.icmpNo Xy371.here hx (hb hby at_226) rfl (teq ((by decide) : ((1 : Int32) = (1 : Int32)))).2 (Yo.iload Xy371.here hx (hb hby at_229) rfl (Yo.iconst Xy371.here hx (hb hby at_231) k)))))))) ?_
            refine Fin.step (fun _ k => Yo.icmpNo Xy371.here hx (hb hby at_232) rfl (teq ((by decide) : ((1 : Int32) = (1 : Int32)))).2 (Yo.iconst Xy371.here hx (hb hby at_235) (Yo.goto Xy371.here hx (pc0 := 236) (pc' := 240) rfl (hb hby at_236) (by decide) (by decide) (Yo.istore Xy371.here hx (hb hby at_240) rfl (l' := #[iv p1, iv p2, iv p3, iv p4, rv by1, rv by5, iv AA, iv BB, iv 1, iv 1, iv LO, iv LI, rv by218, iv 0, rv by224, iv 1, rv by337, iv 1, iv 1, .unset, .unset]) rfl (Yo.aload Xy371.here hx (hb hby at_242) rfl rfl (Yo.ifnullNo Xy371.here hx (hb hby at_244) rfl (Yo.iload Xy371.here hx (hb hby at_247) rfl (Yo.ifNo Xy371.here hx (hb hby at_249) rfl ((if0 _ _).trans (feq ((by decide) : ¬ ((1 : Int32) = (0 : Int32)))).1) k)))))))) ?_
            refine Fin.step (fun _ k => Yo.aload Xy371.here hx (hb hby at_252) rfl rfl k) ?_
            have ry372 := (fy370_5.keep Kcy371 (ninS (Ne.symm ney340) nin0))
            have ry374 := ((ry339.keep Kcy370).keep Kcy371)
            obtain ⟨cqy373, kqy373, qy373a, qy373b, qy373c⟩ := isOf hZ rfl ry374
            obtain ⟨_, Ty373, Lcy373, Xy373, hQy373, sty373⟩ := pack (Xy371.virtualBack hx (y := n20) (z := n20) hown (mvT hZ (W_ hw 122)) (mvT hZ (W_ hw 123)) (notFace_of_selects (args := #[]) (mvT hZ (W_ hw 125))) (mvT hZ (W_ hw 125)) (mvT hZ (W_ hw 124)) (by decide) (backOf (W := 0) (rmg0 l Z a0 hw [] by224 Ty371.heap n0 Zy371 ry372) hZ (W_ hw 126) (W_ hw 39) (by decide) (by decide)) qy373a qy373c (g := (mkF m 254 #[iv p1, iv p2, iv p3, iv p4, rv by1, rv by5, iv AA, iv BB, iv 1, iv 1, iv LO, iv LI, rv by218, iv 0, rv by224, iv 1, rv by337, iv 1, iv 1, .unset, .unset] [(.ref by224)])) rfl (by rw [hml]; rfl) (Steps.refl _) (argsL := []) (rest := []) (lenOf pd_15 rfl) rfl (lb rfl) (hb hby at_254) (fun _ _ => ⟨rfl, rfl, (by decide : 10 + 0 ≤ _), (by decide : 61 + 0 ≤ _)⟩))
            obtain ⟨rfl, Nqy373, eqy373⟩ := hQy373
            have Ny373 := Fr.app Ny371 Nqy373
            refine Fin.step (sty373) ?_
            show Fin p e below s _ _ _ (Ty373.setTop (mkF m 257 #[iv p1, iv p2, iv p3, iv p4, rv by1, rv by5, iv AA, iv BB, iv 1, iv 1, iv LO, iv LI, rv by218, iv 0, rv by224, iv 1, rv by337, iv 1, iv 1, .unset, .unset] [.null]))
            refine Fin.step (fun _ k => Yo.ifnonnullNo Xy373.here hx (hb hby at_257) rfl (Yo.iconst Xy373.here hx (hb hby at_260) (Yo.goto Xy373.here hx (pc0 := 261) (pc' := 265) rfl (hb hby at_261) (by decide) (by decide) (Yo.istore Xy373.here hx (hb hby at_265) rfl (l' := #[iv p1, iv p2, iv p3, iv p4, rv by1, rv by5, iv AA, iv BB, iv 1, iv 1, iv LO, iv LI, rv by218, iv 0, rv by224, iv 1, rv by337, iv 1, iv 1, .unset, .unset]) rfl (Yo.aload Xy373.here hx (hb hby at_267) rfl rfl (Yo.ifnullNo Xy373.here hx (hb hby at_269) rfl (Yo.aload Xy373.here hx (hb hby at_272) rfl rfl k))))))) ?_
            have ry375 := (fy370_7.keep Kcy371 (ninS (Ne.symm ney357) nin0))
            have ry377 := ((fy337_4.keep Kcy370).keep Kcy371)
            obtain ⟨cqy376, kqy376, qy376a, qy376b, qy376c⟩ := isOf hZ eqy373 ry377
            obtain ⟨_, Ty376, Lcy376, Xy376, hQy376, sty376⟩ := pack (Xy373.virtualBack hx (y := n20) (z := n20) hown (mvT hZ (W_ hw 122)) (mvT hZ (W_ hw 123)) (notFace_of_selects (args := #[]) (mvT hZ (W_ hw 125))) (mvT hZ (W_ hw 125)) (mvT hZ (W_ hw 124)) (by decide) (backOf (W := 0) (rmg0 l Z a0 hw [] by337 Ty371.heap n0 Zy371 ry375) hZ (W_ hw 126) (W_ hw 39) (by decide) (by decide)) qy376a qy376c (g := (mkF m 274 #[iv p1, iv p2, iv p3, iv p4, rv by1, rv by5, iv AA, iv BB, iv 1, iv 1, iv LO, iv LI, rv by218, iv 0, rv by224, iv 1, rv by337, iv 1, iv 1, .unset, .unset] [(.ref by337)])) rfl (by rw [hml]; rfl) (Steps.refl _) (argsL := []) (rest := []) (lenOf pd_15 rfl) rfl (lb rfl) (hb hby at_274) (fun _ _ => ⟨rfl, eqy373, (by decide : 10 + 0 ≤ _), (by decide : 61 + 0 ≤ _)⟩))
            obtain ⟨rfl, Nqy376, eqy376⟩ := hQy376
            have Ny376 := Fr.app Ny373 Nqy376
            refine Fin.step (sty376) ?_
            show Fin p e below s _ _ _ (Ty376.setTop (mkF m 277 #[iv p1, iv p2, iv p3, iv p4, rv by1, rv by5, iv AA, iv BB, iv 1, iv 1, iv LO, iv LI, rv by218, iv 0, rv by224, iv 1, rv by337, iv 1, iv 1, .unset, .unset] [.null]))
            refine Fin.step (fun _ k => Yo.astore Xy376.here hx (hb hby at_277) rfl rfl (l' := #[iv p1, iv p2, iv p3, iv p4, rv by1, rv by5, iv AA, iv BB, iv 1, iv 1, iv LO, iv LI, rv by218, iv 0, rv by224, iv 1, rv by337, iv 1, iv 1, .val .null, .unset]) rfl (Yo.iload Xy376.here hx (hb hby at_279) rfl (Yo.iload Xy376.here hx (hb hby at_281) rfl (Yo.icmpYes Xy376.here hx (pc0 := 283) (pc' := 316) rfl (hb hby at_283) rfl (tlt (((own_lim hLI (own_pi hB)).mp hi2) : (LI < BB))).2.2.1 (by decide) (by decide) (Yo.iload Xy376.here hx (hb hby at_316) rfl (Yo.ifNo Xy376.here hx (hb hby at_318) rfl ((if0 _ _).trans (feq ((by decide) : ¬ ((1 : Int32) = (0 : Int32)))).1) (Yo.aload Xy376.here hx (hb hby at_321) rfl rfl (Yo.ifnonnullNo Xy376.here hx (hb hby at_323) rfl k)))))))) ?_
            refine Fin.step (fun _ k => Yo.iconst Xy376.here hx (hb hby at_326) (Yo.goto Xy376.here hx (pc0 := 327) (pc' := 331) rfl (hb hby at_327) (by decide) (by decide) (Yo.istore Xy376.here hx (hb hby at_331) rfl (l' := #[iv p1, iv p2, iv p3, iv p4, rv by1, rv by5, iv AA, iv BB, iv 1, iv 1, iv LO, iv LI, rv by218, iv 0, rv by224, iv 1, rv by337, iv 1, iv 1, .val .null, .unset]) rfl (Yo.aload Xy376.here hx (hb hby at_333) rfl rfl k)))) ?_
            have ry378 := ((ry338.keep Kcy370).keep Kcy371)
            obtain ⟨cqy379, kqy379, qy379a, qy379b, qy379c⟩ := isOf hZ eqy376 ry378
            obtain ⟨_, Ty379, Lcy379, Xy379, hQy379, sty379⟩ := pack (Xy376.virtualBack hx (y := n5) (z := n5) hown (mvT hZ (W_ hw 28)) (mvT hZ (W_ hw 29)) (notFace_of_selects (args := #[]) (mvT hZ (W_ hw 31))) (mvT hZ (W_ hw 31)) (mvT hZ (W_ hw 30)) (by decide) (backOf (W := 0) (rmen1 l Z a0 hw [] by218 ao_y219 Ty371.heap n0 Zy371 ry378 fy371_0 fy371_1 fy371_2 gzy218) hZ (W_ hw 32) (W_ hw 3) (by decide) (by decide)) qy379a qy379c (g := (mkF m 335 #[iv p1, iv p2, iv p3, iv p4, rv by1, rv by5, iv AA, iv BB, iv 1, iv 1, iv LO, iv LI, rv by218, iv 0, rv by224, iv 1, rv by337, iv 1, iv 1, .val .null, .unset] [(.ref by218)])) rfl (by rw [hml]; rfl) (Steps.refl _) (argsL := []) (rest := []) (lenOf pd_1 rfl) rfl (lb rfl) (hb hby at_335) (fun _ _ => ⟨rfl, eqy376, (by decide : 10 + 0 ≤ _), (by decide : 61 + 0 ≤ _)⟩))
            obtain ⟨rfl, Nqy379, Kcy379, fy379_0, fy379_1, fy379_2⟩ := hQy379
            have Ny379 := Fr.app Ny376 Nqy379
            have Zy379 := Nat.le_trans Zy371 Kcy379.1
            have Ky379 := Ky371.trans Kcy379 (allS (Or.inr szy218) all0)
            refine Fin.step (sty379) ?_
            show Fin p e below s _ _ _ (Ty379.setTop (mkF m 338 #[iv p1, iv p2, iv p3, iv p4, rv by1, rv by5, iv AA, iv BB, iv 1, iv 1, iv LO, iv LI, rv by218, iv 0, rv by224, iv 1, rv by337, iv 1, iv 1, .val .null, .unset] [(.int 0)]))
            refine Fin.step (fun _ k => Yo.istore Xy379.here hx (hb hby at_338) rfl (l' := #[iv p1, iv p2, iv p3, iv p4, rv by1, rv by5, iv AA, iv BB, iv 1, iv 1, iv LO, iv LI, rv by218, iv 0, rv by224, iv 1, rv by337, iv 1, iv 1, iv 0, .unset]) rfl (Yo.iload Xy379.here hx (hb hby at_340) rfl (Yo.ifNo Xy379.here hx (hb hby at_342) rfl ((if0 _ _).trans (feq ((by decide) : ¬ ((1 : Int32) = (0 : Int32)))).1) (Yo.iload Xy379.here hx (hb hby at_345) rfl (Yo.ifNo Xy379.here hx (hb hby at_347) rfl ((if0 _ _).trans (teq ((by decide) : ((0 : Int32) = (0 : Int32)))).2) (Yo.iconst Xy379.here hx (hb hby at_350) (Yo.goto Xy379.here hx (pc0 := 351) (pc' := 355) rfl (hb hby at_351) (by decide) (by decide) (Yo.istore Xy379.here hx (hb hby at_355) rfl (l' := #[iv p1, iv p2, iv p3, iv p4, rv by1, rv by5, iv AA, iv BB, iv 1, iv 1, iv LO, iv LI, rv by218, iv 0, rv by224, iv 1, rv by337, iv 1, iv 1, iv 0, .unset]) rfl k)))))))) ?_
            refine Fin.step (fun _ k => Yo.aload Xy379.here hx (hb hby at_357) rfl rfl (Yo.ifnullNo Xy379.here hx (hb hby at_359) rfl (Yo.aload Xy379.here hx (hb hby at_362) rfl rfl k))) ?_
            have ry380 := (ry372.keep Kcy379 (ninS (Ne.symm ney340) nin0))
            obtain ⟨cqy381, kqy381, qy381a, qy381b, qy381c⟩ := isOf hZ rfl (ry374.keep Kcy379)
            obtain ⟨_, Ty381, Lcy381, Xy381, hQy381, sty381⟩ := pack (Xy379.virtualBack hx (y := n20) (z := n20) hown (mvT hZ (W_ hw 122)) (mvT hZ (W_ hw 123)) (notFace_of_selects (args := #[]) (mvT hZ (W_ hw 125))) (mvT hZ (W_ hw 125)) (mvT hZ (W_ hw 124)) (by decide) (backOf (W := 0) (rmg0 l Z a0 hw [] by224 Ty379.heap n0 Zy379 ry380) hZ (W_ hw 126) (W_ hw 39) (by decide) (by decide)) qy381a qy381c (g := (mkF m 364 #[iv p1, iv p2, iv p3, iv p4, rv by1, rv by5, iv AA, iv BB, iv 1, iv 1, iv LO, iv LI, rv by218, iv 0, rv by224, iv 1, rv by337, iv 1, iv 1, iv 0, .unset] [(.ref by224)])) rfl (by rw [hml]; rfl) (Steps.refl _) (argsL := []) (rest := []) (lenOf pd_15 rfl) rfl (lb rfl) (hb hby at_364) (fun _ _ => ⟨rfl, rfl, (by decide : 10 + 0 ≤ _), (by decide : 61 + 0 ≤ _)⟩))
            obtain ⟨rfl, Nqy381, eqy381⟩ := hQy381
            have Ny381 := Fr.app Ny379 Nqy381
            refine Fin.step (sty381) ?_
            show Fin p e below s _ _ _ (Ty381.setTop (mkF m 367 #[iv p1, iv p2, iv p3, iv p4, rv by1, rv by5, iv AA, iv BB, iv 1, iv 1, iv LO, iv LI, rv by218, iv 0, rv by224, iv 1, rv by337, iv 1, iv 1, iv 0, .unset] [.null]))
            refine Fin.step (fun _ k => Yo.astore Xy381.here hx (hb hby at_367) rfl rfl (l' := #[iv p1, iv p2, iv p3, iv p4, rv by1, rv by5, iv AA, iv BB, iv 1, iv 1, iv LO, iv LI, rv by218, iv 0, rv by224, iv 1, rv by337, iv 1, iv 1, iv 0, .val .null]) rfl (Yo.iload Xy381.here hx (hb hby at_369) rfl (Yo.iload Xy381.here hx (hb hby at_371) rfl (Yo.iadd Xy381.here hx (hb hby at_373) rfl k)))) ?_
            show Fin p e below s _ _ _ (Ty381.setTop (mkF m 374 #[iv p1, iv p2, iv p3, iv p4, rv by1, rv by5, iv AA, iv BB, iv 1, iv 1, iv LO, iv LI, rv by218, iv 0, rv by224, iv 1, rv by337, iv 1, iv 1, iv 0, .val .null] [(.int (AA + BB))]))
            refine Fin.step (fun _ k => Yo.iload Xy381.here hx (hb hby at_374) rfl (Yo.icmpYes Xy381.here hx (pc0 := 376) (pc' := 410) rfl (hb hby at_376) rfl (tlt (((own_lim2 hLO (own_pi hB) (own_pi hA)).mp ho2) : (LO < (AA + BB)))).2.2.1 (by decide) (by decide) (Yo.iload Xy381.here hx (hb hby at_410) rfl (Yo.ifNo Xy381.here hx (hb hby at_412) rfl ((if0 _ _).trans (feq ((by decide) : ¬ ((1 : Int32) = (0 : Int32)))).1) (Yo.aload Xy381.here hx (hb hby at_415) rfl rfl (Yo.ifnonnullNo Xy381.here hx (hb hby at_417) rfl (Yo.iconst Xy381.here hx (hb hby at_420) (Yo.goto Xy381.here hx (pc0 := 421) (pc' := 425) rfl (hb hby at_421) (by decide) (by decide) k)))))))) ?_
            refine Fin.step (fun _ k => Yo.istore Xy381.here hx (hb hby at_425) rfl (l' := #[iv p1, iv p2, iv p3, iv p4, rv by1, rv by5, iv AA, iv BB, iv 1, iv 1, iv LO, iv LI, rv by218, iv 0, rv by224, iv 1, rv by337, iv 1, iv 1, iv 0, .val .null]) rfl (Yo.iload Xy381.here hx (hb hby at_427) rfl k)) ?_
            refine Fin.retN Xy381 hx (t := .boolean) hret (by simp) hlk (hb hby at_429) (by decide) (by decide) ?_
            show Q0 Z p1 p2 p3 p4 fv gv wc h0 n0 _ Ty381.heap _
            rw [eqy381]
            exact ⟨rfl, Ny381, Ky379⟩
          · have hi2_ := hi2
            refine Fin.step (fun _ k => Yo.aload Xy337.here hx (hb hby at_201) rfl rfl (Yo.aload Xy337.here hx (hb hby at_203) rfl rfl (Yo.iconst Xy337.here hx (hb hby at_205) (Yo.iload Xy337.here hx (hb hby at_206) rfl k)))) ?_
            have ry382 := ((ry330.keep Kcy334).keep Kcy337)
            have ry383 := (((fy224_4.keep Kcy329).keep Kcy334).keep Kcy337)
            have ney384 := nlt ((Ay218.keep Kcy219).keep Kcy220).lt bzy224
            have ney385 := nlt ((nsV fy219_3).keep Kcy220).lt bzy224
            have ry386 := (((fy224_5.keep Kcy329 (ninS ney224_1 (ninS ney224_2 nin0))).keep Kcy334 (ninS (Ne.symm ney384) nin0)).keep Kcy337 (ninS (Ne.symm ney384) (ninS (Ne.symm ney385) nin0)))
            have ry387 := (((fy224_6.keep Kcy329 (ninS ney224_1 (ninS ney224_2 nin0))).keep Kcy334 (ninS (Ne.symm ney384) nin0)).keep Kcy337 (ninS (Ne.symm ney384) (ninS (Ne.symm ney385) nin0)))
            have ry388 := (((fy224_7.keep Kcy329 (ninS ney224_1 (ninS ney224_2 nin0))).keep Kcy334 (ninS (Ne.symm ney384) nin0)).keep Kcy337 (ninS (Ne.symm ney384) (ninS (Ne.symm ney385) nin0)))
            have ry389 := (((fy224_9.keep Kcy329).keep Kcy334).keep Kcy337)
            have ry390 := ((fy329_0.keep Kcy334 (ninS (Ne.symm ney323) nin0)).keep Kcy337 (ninS (Ne.symm ney323) (ninS (Ne.symm ney325) nin0)))
            have ry391 := ((fy329_1.keep Kcy334 (ninS (Ne.symm ney323) nin0)).keep Kcy337 (ninS (Ne.symm ney323) (ninS (Ne.symm ney325) nin0)))
            have ry392 := ((fy329_2.keep Kcy334 (ninS (Ne.symm ney323) nin0)).keep Kcy337 (ninS (Ne.symm ney323) (ninS (Ne.symm ney325) nin0)))
            have ry393 := ((fy329_3.keep Kcy334 (ninS (Ne.symm ney324) nin0)).keep Kcy337 (ninS (Ne.symm ney324) (ninS (Ne.symm ney326) nin0)))
            have ney394 := nlt ((((nsV Vy5).wr Wy6).wr Wy7).wr Wy8).lt (Nat.le_of_eq gy218.symm)
            have ney395 := nlt (((((nsV Vy5).wr Wy6).wr Wy7).wr Wy8).ext Ey218).lt bfy219_0
            have ney396 := nlt (((((((nsV Vy5).wr Wy6).wr Wy7).wr Wy8).ext Ey218).keep Kcy219).keep Kcy220).lt bfy224_1
            have ney397 := nlt (((((((nsV Vy5).wr Wy6).wr Wy7).wr Wy8).ext Ey218).keep Kcy219).keep Kcy220).lt bfy224_0
            have ry398 := (((((((VLYL.ext Ey218).keep Kcy219 (ninS ney394 nin0)).keep Kcy220 (ninS ney394 nin0)).keep Kcy224 (ninS ney394 (ninS ney395 nin0))).keep Kcy329 (ninS ney397 (ninS ney396 nin0))).keep Kcy334 (ninS ney394 nin0)).keep Kcy337 (ninS ney394 (ninS ney395 nin0)))
            have ry399 := (Sta_keepW ry336 Kcy337 (allS (nsE (((((Ay218.keep Kcy219).keep Kcy220).keep Kcy224).keep Kcy329).keep Kcy334)) (allS (((((nsV fy219_3).keep Kcy220).keep Kcy224).keep Kcy329).keep Kcy334) all0)))
            have ry400 := (Sta_keepW (Sta_keepW (Sta_keepW ry322 Kcy329 (allS (nsE fy224_9) (allS (nsV fy224_13) all0))) Kcy334 (allS (nsE ((((Ay218.keep Kcy219).keep Kcy220).keep Kcy224).keep Kcy329)) all0)) Kcy337 (allS (nsE (((((Ay218.keep Kcy219).keep Kcy220).keep Kcy224).keep Kcy329).keep Kcy334)) (allS (((((nsV fy219_3).keep Kcy220).keep Kcy224).keep Kcy329).keep Kcy334) all0)))
            have ney401 := nlt (((((Ay218.keep Kcy219).keep Kcy220).keep Kcy224).keep Kcy329).keep Kcy334).lt bfy337_0
            have ney402 := nlt (((((Ay218.keep Kcy219).keep Kcy220).keep Kcy224).keep Kcy329).keep Kcy334).lt bfy337_1
            have ney403 := nlt (((((nsV fy219_3).keep Kcy220).keep Kcy224).keep Kcy329).keep Kcy334).lt bfy337_0
            have ney404 := nlt (((((nsV fy219_3).keep Kcy220).keep Kcy224).keep Kcy329).keep Kcy334).lt bfy337_1
            have ney405 := nlt ((fy224_4.keep Kcy329).keep Kcy334).lt bfy337_0
            have ney406 := nlt ((fy224_4.keep Kcy329).keep Kcy334).lt bfy337_1
            have ney407 := nlt ((fy224_9.keep Kcy329).keep Kcy334).lt bfy337_0
            have ney408 := nlt ((fy224_9.keep Kcy329).keep Kcy334).lt bfy337_1
            have ney409 := nlt (((nsV fy224_13).keep Kcy329).keep Kcy334).lt bfy337_0
            have ney410 := nlt (((nsV fy224_13).keep Kcy329).keep Kcy334).lt bfy337_1
            have ney411 := nlt (((((Ay218.keep Kcy219).keep Kcy220).keep Kcy224).keep Kcy329).keep Kcy334).lt bzy337
            have ney412 := nlt (((((nsV fy219_3).keep Kcy220).keep Kcy224).keep Kcy329).keep Kcy334).lt bzy337
            have ney413 := nlt ((fy224_4.keep Kcy329).keep Kcy334).lt bzy337
            have ney414 := nlt (((((((nsV Vy5).wr Wy6).wr Wy7).wr Wy8).ext Ey218).keep Kcy219).keep Kcy220).lt bzy224
            have ney415 := nlt ((((((((((nsV Vy5).wr Wy6).wr Wy7).wr Wy8).ext Ey218).keep Kcy219).keep Kcy220).keep Kcy224).keep Kcy329).keep Kcy334).lt bfy337_0
            have ney416 := nlt ((((((((((nsV Vy5).wr Wy6).wr Wy7).wr Wy8).ext Ey218).keep Kcy219).keep Kcy220).keep Kcy224).keep Kcy329).keep Kcy334).lt bfy337_1
            obtain ⟨cqy417, kqy417, qy417a, qy417b, qy417c⟩ := isOf hZ rfl ry382
            obtain ⟨_, Ty417, Lcy417, Xy417, hQy417, sty417⟩ := pack (Xy337.virtualBack hx (y := n4) (z := n4) hown (mvT hZ (W_ hw 21)) (mvT hZ (W_ hw 22)) (notFace_of_selects (args := #[]) (mvT hZ (W_ hw 24))) (mvT hZ (W_ hw 24)) (mvT hZ (W_ hw 23)) (by decide) (backOf (W := 0) (rmtpo l Z a0 hw [] by218 by5 BB ao_y219 ko_y219 (2 : Int32) by224 bo_y224 ab_y224 kb_y224 AA (own_app [(.int 0), (.int 0), (.int 0), (.int 0), (.int 0), (.int 0), (.int 0), (.int 0), (.int 0), (.int 0), (.int 0), (.int 0), (.int 0), (.int 0), (.int 0), (.int 0)] XL (0 : Int32).toNatClampNeg AA.toNatClampNeg) LO by337 bo_y337 ab_y337 kb_y337 (0 : Int32) [(.int 0), (.int 0), (.int 0), (.int 0), (.int 0), (.int 0), (.int 0), (.int 0), (.int 0), (.int 0), (.int 0), (.int 0), (.int 0), (.int 0), (.int 0), (.int 0)] LI BB ky5 YL wc gv Ty337.heap n0 Zy337 ry382 fy337_0 fy337_1 fy337_2 fy337_3 ry383 ry386 ry387 ry388 ry389 ry390 ry391 ry392 ry393 fy337_4 fy337_5 fy337_6 fy337_7 fy337_9 fy337_10 fy337_11 fy337_12 fy337_13 ry398 ry399 ry400 gzy218 gzy219_0 gzy224 gzy337_0 gzy337_1 hB hY hwc hgv ppy219_0 ho2 (by decide) rfl (Int32.zero_add BB).symm hi2 ney219_0 ney384 ney401 ney402 ney385 ney403 ney404 ney405 ney406 (Ne.symm ney323) (Ne.symm ney325) (Ne.symm ney224_1) ney407 ney408 (Ne.symm ney324) (Ne.symm ney326) (Ne.symm ney224_2) ney409 ney410 (Ne.symm ney411) (Ne.symm ney412) (Ne.symm ney413) ney337_1 ney337_2 ney337_0 ney394 ney395 ney414 ney415 ney416) hZ (W_ hw 25) (W_ hw 3) (by decide) (by decide)) qy417a qy417c (g := (mkF m 208 #[iv p1, iv p2, iv p3, iv p4, rv by1, rv by5, iv AA, iv BB, iv 1, iv 1, iv LO, iv LI, rv by218, iv 0, rv by224, iv 1, rv by337, .unset, .unset, .unset, .unset] [(.int BB), (.int 0), (.ref by5), (.ref by218)])) rfl (by rw [hml]; rfl) (Steps.refl _) (argsL := [(.ref by5), (.int 0), (.int BB)]) (rest := []) (lenOf pd_5 rfl) rfl (lb rfl) (hb hby at_208) (fun _ _ => ⟨rfl, rfl, (by decide : 10 + 0 ≤ _), (by decide : 61 + 0 ≤ _)⟩))
            obtain ⟨rfl, Nqy417, Kcy417, fy417_0, fy417_1, fy417_2, fy417_3, fy417_4, fy417_5, fy417_6, fy417_7, fy417_8, fy417_9⟩ := hQy417
            have Ny417 := Fr.app Ny337 Nqy417
            have Zy417 := Nat.le_trans Zy337 Kcy417.1
            have Ky417 := Ky337.trans Kcy417 (allS (Or.inr szy218) (allS (Or.inr szy219_0) (allS (Or.inr szy224) (allS (Or.inr szy337_0) (allS (Or.inr szy337_1) all0)))))
            refine Fin.step (sty417) ?_
            show Fin p e below s _ _ _ (Ty417.setTop (mkF m 211 #[iv p1, iv p2, iv p3, iv p4, rv by1, rv by5, iv AA, iv BB, iv 1, iv 1, iv LO, iv LI, rv by218, iv 0, rv by224, iv 1, rv by337, .unset, .unset, .unset, .unset] []))
            refine Fin.step (fun _ k => Yo.aload Xy417.here hx (hb hby at_211) rfl rfl k) ?_
            have ry418 := (fy337_5.keep Kcy417 (ninS (Ne.symm ney411) (ninS (Ne.symm ney412) (ninS (Ne.symm ney413) (ninS ney337_1 (ninS ney337_2 nin0))))))
            have ry419 := (fy337_7.keep Kcy417 (ninS (Ne.symm ney411) (ninS (Ne.symm ney412) (ninS (Ne.symm ney413) (ninS ney337_1 (ninS ney337_2 nin0))))))
            have ry420 := (fy337_8.keep Kcy417 (ninS (Ne.symm ney411) (ninS (Ne.symm ney412) (ninS (Ne.symm ney413) (ninS ney337_1 (ninS ney337_2 nin0))))))
            have ry421 := (Sta_keepW ry399 Kcy417 (allS (nsE ((((((Ay218.keep Kcy219).keep Kcy220).keep Kcy224).keep Kcy329).keep Kcy334).keep Kcy337)) (allS ((((((nsV fy219_3).keep Kcy220).keep Kcy224).keep Kcy329).keep Kcy334).keep Kcy337) (allS (nsE (((fy224_4.keep Kcy329).keep Kcy334).keep Kcy337)) (allS (nsE fy337_9) (allS (nsV fy337_13) all0))))))
            obtain ⟨cqy422, kqy422, qy422a, qy422b, qy422c⟩ := isOf hZ rfl (ry382.keep Kcy417)
            obtain ⟨_, Ty422, Lcy422, Xy422, hQy422, sty422⟩ := pack (Xy417.virtualBack hx (y := n5) (z := n5) hown (mvT hZ (W_ hw 28)) (mvT hZ (W_ hw 29)) (notFace_of_selects (args := #[]) (mvT hZ (W_ hw 31))) (mvT hZ (W_ hw 31)) (mvT hZ (W_ hw 30)) (by decide) (backOf (W := 0) (rmes2 l Z a0 hw [] by218 ao_y219 ko_y219 by337 bo_y337 ab_y337 kb_y337 BB (own_app [(.int 0), (.int 0), (.int 0), (.int 0), (.int 0), (.int 0), (.int 0), (.int 0), (.int 0), (.int 0), (.int 0), (.int 0), (.int 0), (.int 0), (.int 0), (.int 0)] YL (0 : Int32).toNatClampNeg BB.toNatClampNeg) wc Ty417.heap n0 Zy417 (ry382.keep Kcy417) fy417_0 fy417_1 fy417_2 fy417_3 (fy337_4.keep Kcy417) ry418 ry419 ry420 (fy337_9.keep Kcy417) fy417_6 fy417_7 fy417_8 fy417_9 ry421 gzy218 gzy219_0 gzy337 (own_6 (own_pi hB)) hwc ney219_0 (Ne.symm ney411) (Ne.symm ney412) (Ne.symm ney401) (Ne.symm ney403) (Ne.symm ney337_1) (Ne.symm ney402) (Ne.symm ney404) (Ne.symm ney337_2)) hZ (W_ hw 32) (W_ hw 3) (by decide) (by decide)) qy422a qy422c (g := (mkF m 213 #[iv p1, iv p2, iv p3, iv p4, rv by1, rv by5, iv AA, iv BB, iv 1, iv 1, iv LO, iv LI, rv by218, iv 0, rv by224, iv 1, rv by337, .unset, .unset, .unset, .unset] [(.ref by218)])) rfl (by rw [hml]; rfl) (Steps.refl _) (argsL := []) (rest := []) (lenOf pd_1 rfl) rfl (lb rfl) (hb hby at_213) (fun _ _ => ⟨rfl, rfl, (by decide : 10 + 2 ≤ _), (by decide : 61 + 10 ≤ _)⟩))
            obtain ⟨so_y422, nb_y422, kn_y422, rfl, bfy422_0, bfy422_1, Nqy422, Kcy422, fy422_0, fy422_1, fy422_2, fy422_3, fy422_4, fy422_5, fy422_6, fy422_7, fy422_8, ney422_0⟩ := hQy422
            have Ny422 := Fr.app Ny417 Nqy422
            have gzy422_0 : n0 ≤ so_y422 := Nat.le_trans Zy417 bfy422_0
            have szy422_0 : h0.size ≤ so_y422 := Nat.le_trans Ky417.1 bfy422_0
            have gzy422_1 : n0 ≤ nb_y422 := Nat.le_trans Zy417 bfy422_1
            have szy422_1 : h0.size ≤ nb_y422 := Nat.le_trans Ky417.1 bfy422_1
            have Zy422 := Nat.le_trans Zy417 Kcy422.1
            have Ky422 := Ky417.trans Kcy422 (allS (Or.inr szy218) (allS (Or.inr szy219_0) (allS (Or.inr szy337) all0)))
            refine Fin.step (sty422) ?_
            show Fin p e below s _ _ _ (Ty422.setTop (mkF m 216 #[iv p1, iv p2, iv p3, iv p4, rv by1, rv by5, iv AA, iv BB, iv 1, iv 1, iv LO, iv LI, rv by218, iv 0, rv by224, iv 1, rv by337, .unset, .unset, .unset, .unset] [(.int 1)]))
            refine Fin.step (fun _ k => Yo.istore Xy422.here hx (hb hby at_216) rfl (l' := #[iv p1, iv p2, iv p3, iv p4, rv by1, rv by5, iv AA, iv BB, iv 1, iv 1, iv LO, iv LI, rv by218, iv 0, rv by224, iv 1, rv by337, iv 1, .unset, .unset, .unset]) rfl (Yo.iload Xy422.here hx (hb hby at_218) rfl (Yo.ifNo Xy422.here hx (hb hby at_220) rfl ((if0 _ _).trans (teq ((by decide) : ((0 : Int32) = (0 : Int32)))).2) (Yo.iload Xy422.here hx (hb hby at_223) rfl (Yo.iconst Xy422.here hx (hb hby at_225) (Yo.icmpNo Xy422.here hx (hb hby at_226) rfl (teq ((by decide) : ((1 : Int32) = (1 : Int32)))).2 (Yo.iload Xy422.here hx (hb hby at_229) rfl (Yo.iconst Xy422.here hx (hb hby at_231) k)))))))) ?_
            refine Fin.step (fun _ k => Yo.icmpNo Xy422.here hx (hb hby at_232) rfl (teq ((by decide) : ((1 : Int32) = (1 : Int32)))).2 (Yo.iconst Xy422.here hx (hb hby at_235) (Yo.goto Xy422.here hx (pc0 := 236) (pc' := 240) rfl (hb hby at_236) (by decide) (by decide) (Yo.istore Xy422.here hx (hb hby at_240) rfl (l' := #[iv p1, iv p2, iv p3, iv p4, rv by1, rv by5, iv AA, iv BB, iv 1, iv 1, iv LO, iv LI, rv by218, iv 0, rv by224, iv 1, rv by337, iv 1, iv 1, .unset, .unset]) rfl (Yo.aload Xy422.here hx (hb hby at_242) rfl rfl (Yo.ifnullNo Xy422.here hx (hb hby at_244) rfl (Yo.iload Xy422.here hx (hb hby at_247) rfl (Yo.ifNo Xy422.here hx (hb hby at_249) rfl ((if0 _ _).trans (feq ((by decide) : ¬ ((1 : Int32) = (0 : Int32)))).1) k)))))))) ?_
            refine Fin.step (fun _ k => Yo.aload Xy422.here hx (hb hby at_252) rfl rfl k) ?_
            have ry423 := (fy417_5.keep Kcy422 (ninS (Ne.symm ney384) (ninS (Ne.symm ney385) (ninS ney413 nin0))))
            have ry425 := ((ry383.keep Kcy417).keep Kcy422)
            obtain ⟨cqy424, kqy424, qy424a, qy424b, qy424c⟩ := isOf hZ rfl ry425
            obtain ⟨_, Ty424, Lcy424, Xy424, hQy424, sty424⟩ := pack (Xy422.virtualBack hx (y := n20) (z := n20) hown (mvT hZ (W_ hw 122)) (mvT hZ (W_ hw 123)) (notFace_of_selects (args := #[]) (mvT hZ (W_ hw 125))) (mvT hZ (W_ hw 125)) (mvT hZ (W_ hw 124)) (by decide) (backOf (W := 0) (rmg0 l Z a0 hw [] by224 Ty422.heap n0 Zy422 ry423) hZ (W_ hw 126) (W_ hw 39) (by decide) (by decide)) qy424a qy424c (g := (mkF m 254 #[iv p1, iv p2, iv p3, iv p4, rv by1, rv by5, iv AA, iv BB, iv 1, iv 1, iv LO, iv LI, rv by218, iv 0, rv by224, iv 1, rv by337, iv 1, iv 1, .unset, .unset] [(.ref by224)])) rfl (by rw [hml]; rfl) (Steps.refl _) (argsL := []) (rest := []) (lenOf pd_15 rfl) rfl (lb rfl) (hb hby at_254) (fun _ _ => ⟨rfl, rfl, (by decide : 12 + 0 ≤ _), (by decide : 71 + 0 ≤ _)⟩))
            obtain ⟨rfl, Nqy424, eqy424⟩ := hQy424
            have Ny424 := Fr.app Ny422 Nqy424
            refine Fin.step (sty424) ?_
            show Fin p e below s _ _ _ (Ty424.setTop (mkF m 257 #[iv p1, iv p2, iv p3, iv p4, rv by1, rv by5, iv AA, iv BB, iv 1, iv 1, iv LO, iv LI, rv by218, iv 0, rv by224, iv 1, rv by337, iv 1, iv 1, .unset, .unset] [.null]))
            refine Fin.step (fun _ k => Yo.ifnonnullNo Xy424.here hx (hb hby at_257) rfl (Yo.iconst Xy424.here hx (hb hby at_260) (Yo.goto Xy424.here hx (pc0 := 261) (pc' := 265) rfl (hb hby at_261) (by decide) (by decide) (Yo.istore Xy424.here hx (hb hby at_265) rfl (l' := #[iv p1, iv p2, iv p3, iv p4, rv by1, rv by5, iv AA, iv BB, iv 1, iv 1, iv LO, iv LI, rv by218, iv 0, rv by224, iv 1, rv by337, iv 1, iv 1, .unset, .unset]) rfl (Yo.aload Xy424.here hx (hb hby at_267) rfl rfl (Yo.ifnullNo Xy424.here hx (hb hby at_269) rfl (Yo.aload Xy424.here hx (hb hby at_272) rfl rfl k))))))) ?_
            have ry427 := ((fy337_4.keep Kcy417).keep Kcy422)
            obtain ⟨cqy426, kqy426, qy426a, qy426b, qy426c⟩ := isOf hZ eqy424 ry427
            obtain ⟨_, Ty426, Lcy426, Xy426, hQy426, sty426⟩ := pack (Xy424.virtualBack hx (y := n20) (z := n20) hown (mvT hZ (W_ hw 122)) (mvT hZ (W_ hw 123)) (notFace_of_selects (args := #[]) (mvT hZ (W_ hw 125))) (mvT hZ (W_ hw 125)) (mvT hZ (W_ hw 124)) (by decide) (backOf (W := 0) (rmg1 l Z a0 hw [] by337 so_y422 Ty422.heap n0 Zy422 fy422_4) hZ (W_ hw 126) (W_ hw 39) (by decide) (by decide)) qy426a qy426c (g := (mkF m 274 #[iv p1, iv p2, iv p3, iv p4, rv by1, rv by5, iv AA, iv BB, iv 1, iv 1, iv LO, iv LI, rv by218, iv 0, rv by224, iv 1, rv by337, iv 1, iv 1, .unset, .unset] [(.ref by337)])) rfl (by rw [hml]; rfl) (Steps.refl _) (argsL := []) (rest := []) (lenOf pd_15 rfl) rfl (lb rfl) (hb hby at_274) (fun _ _ => ⟨rfl, eqy424, (by decide : 12 + 0 ≤ _), (by decide : 71 + 0 ≤ _)⟩))
            obtain ⟨rfl, Nqy426, eqy426⟩ := hQy426
            have Ny426 := Fr.app Ny424 Nqy426
            refine Fin.step (sty426) ?_
            show Fin p e below s _ _ _ (Ty426.setTop (mkF m 277 #[iv p1, iv p2, iv p3, iv p4, rv by1, rv by5, iv AA, iv BB, iv 1, iv 1, iv LO, iv LI, rv by218, iv 0, rv by224, iv 1, rv by337, iv 1, iv 1, .unset, .unset] [(.ref so_y422)]))
            refine Fin.step (fun _ k => Yo.astore Xy426.here hx (hb hby at_277) rfl rfl (l' := #[iv p1, iv p2, iv p3, iv p4, rv by1, rv by5, iv AA, iv BB, iv 1, iv 1, iv LO, iv LI, rv by218, iv 0, rv by224, iv 1, rv by337, iv 1, iv 1, rv so_y422, .unset]) rfl (Yo.iload Xy426.here hx (hb hby at_279) rfl (Yo.iload Xy426.here hx (hb hby at_281) rfl (Yo.icmpNo Xy426.here hx (hb hby at_283) rfl (flt ((fun q => hi2 ((own_lim hLI (own_pi hB)).mpr q)) : ¬ (LI < BB))).2.2.1 (Yo.iload Xy426.here hx (hb hby at_286) rfl (Yo.ifNo Xy426.here hx (hb hby at_288) rfl ((if0 _ _).trans (feq ((by decide) : ¬ ((1 : Int32) = (0 : Int32)))).1) (Yo.aload Xy426.here hx (hb hby at_291) rfl rfl (Yo.aload Xy426.here hx (hb hby at_293) rfl rfl k)))))))) ?_
            refine Fin.step (fun _ k => Yo.iload Xy426.here hx (hb hby at_295) rfl (Yo.aload Xy426.here hx (hb hby at_297) rfl rfl (Yo.iconst Xy426.here hx (hb hby at_299) k))) ?_
            have ney428 := nlt ((((((((((nsV Vy5).wr Wy6).wr Wy7).wr Wy8).ext Ey218).keep Kcy219).keep Kcy220).keep Kcy224).keep Kcy329).keep Kcy334).lt bzy337
            have ry429 := ((ry398.keep Kcy417 (ninS ney394 (ninS ney395 (ninS ney414 (ninS ney415 (ninS ney416 nin0)))))).keep Kcy422 (ninS ney394 (ninS ney395 (ninS ney428 nin0))))
            have ney430 := nlt ((((((((((((((nsV Vy1).wr Wy2).wr Wy3).wr Wy4).ext Ey5).wr Wy6).wr Wy7).wr Wy8).ext Ey218).keep Kcy219).keep Kcy220).keep Kcy224).keep Kcy329).keep Kcy334).lt bfy337_1
            have ney431 := nlt ((((((((((((((nsV Vy1).wr Wy2).wr Wy3).wr Wy4).ext Ey5).wr Wy6).wr Wy7).wr Wy8).ext Ey218).keep Kcy219).keep Kcy220).keep Kcy224).keep Kcy329).keep Kcy334).lt bfy337_0
            have ney432 := nlt (((((((((((nsV Vy1).wr Wy2).wr Wy3).wr Wy4).ext Ey5).wr Wy6).wr Wy7).wr Wy8).ext Ey218).keep Kcy219).keep Kcy220).lt bzy224
            have ney433 := nlt ((((((((((((((nsV Vy1).wr Wy2).wr Wy3).wr Wy4).ext Ey5).wr Wy6).wr Wy7).wr Wy8).ext Ey218).keep Kcy219).keep Kcy220).keep Kcy224).keep Kcy329).keep Kcy334).lt bzy337
            have ry434 := (((((ry320.keep Kcy329 (ninS ney327 (ninS ney328 nin0))).keep Kcy334 (ninS ney318 nin0)).keep Kcy337 (ninS ney318 (ninS ney319 nin0))).keep Kcy417 (ninS ney318 (ninS ney319 (ninS ney432 (ninS ney431 (ninS ney430 nin0)))))).keep Kcy422 (ninS ney318 (ninS ney319 (ninS ney433 nin0))))
            have ry435 := (Sta_keep HS_jdk_internal_util_Preconditions_SIOOBE_FORMATTER Ky422)
            have ry436 := (Sta_keepW ry421 Kcy422 (allS (nsE (((((((Ay218.keep Kcy219).keep Kcy220).keep Kcy224).keep Kcy329).keep Kcy334).keep Kcy337).keep Kcy417)) (allS (((((((nsV fy219_3).keep Kcy220).keep Kcy224).keep Kcy329).keep Kcy334).keep Kcy337).keep Kcy417) (allS (nsE (fy337_4.keep Kcy417)) all0))))
            obtain ⟨_, Ty437, Lcy437, Xy437, hQy437, sty437⟩ := packS (Jvm.LawKit.callS Xy426 hx (y := n30) hown (mvT hZ (W_ hw 178)) (mvT hZ (W_ hw 179)) (mvT hZ (W_ hw 180)) (mvT hZ (W_ hw 181)) (by decide) (backOf (W := 0) (rmma l Z a0 hw [] so_y422 by5 BB by1 (0 : Int32) nb_y422 kn_y422 BB (own_cp (own_app [(.int 0), (.int 0), (.int 0), (.int 0), (.int 0), (.int 0), (.int 0), (.int 0), (.int 0), (.int 0), (.int 0), (.int 0), (.int 0), (.int 0), (.int 0), (.int 0)] YL (0 : Int32).toNatClampNeg BB.toNatClampNeg) BB.toNatClampNeg) ky5 YL ky1 XL fv wc Ty422.heap n0 Zy422 fy422_5 fy422_6 fy422_7 fy422_8 ry429 ry434 ry435 ry436 hfv hwc hY hX (Int32.add_zero BB).symm (fun j u v => own_oki (own_pi hB) rfl hX hY u v)) hZ (W_ hw 181) (W_ hw 180) (by decide) (by decide)) (g := (mkF m 300 #[iv p1, iv p2, iv p3, iv p4, rv by1, rv by5, iv AA, iv BB, iv 1, iv 1, iv LO, iv LI, rv by218, iv 0, rv by224, iv 1, rv by337, iv 1, iv 1, rv so_y422, .unset] [(.int 0), (.ref by1), (.int BB), (.ref by5), (.ref so_y422)])) rfl (by rw [hml]; rfl) (argsL := [(.ref so_y422), (.ref by5), (.int BB), (.ref by1), (.int 0)]) (rest := []) (lenOf pd_25 rfl) rfl (lb rfl) (hb hby at_300) (fun _ _ => ⟨rfl, eqy426, (by decide : 12 + 0 ≤ _), (by decide : 71 + 0 ≤ _)⟩))
            obtain ⟨rfl, Nqy437, eqy437⟩ := hQy437
            have Ny437 := Fr.app Ny426 Nqy437
            refine Fin.step (sty437) ?_
            show Fin p e below s _ _ _ (Ty437.setTop (mkF m 303 #[iv p1, iv p2, iv p3, iv p4, rv by1, rv by5, iv AA, iv BB, iv 1, iv 1, iv LO, iv LI, rv by218, iv 0, rv by224, iv 1, rv by337, iv 1, iv 1, rv so_y422, .unset] [(.int 1)]))
            refine Fin.step (fun _ k => Yo.ifNo Xy437.here hx (hb hby at_303) rfl ((if0 _ _).trans (feq ((by decide) : ¬ ((1 : Int32) = (0 : Int32)))).1) (Yo.iconst Xy437.here hx (hb hby at_306) (Yo.goto Xy437.here hx (pc0 := 307) (pc' := 311) rfl (hb hby at_307) (by decide) (by decide) (Yo.istore Xy437.here hx (hb hby at_311) rfl (l' := #[iv p1, iv p2, iv p3, iv p4, rv by1, rv by5, iv AA, iv BB, iv 1, iv 1, iv LO, iv LI, rv by218, iv 0, rv by224, iv 1, rv by337, iv 1, iv 1, rv so_y422, .unset]) rfl (Yo.goto Xy437.here hx (pc0 := 313) (pc' := 333) rfl (hb hby at_313) (by decide) (by decide) (Yo.aload Xy437.here hx (hb hby at_333) rfl rfl k)))))) ?_
            have ry438 := ((ry382.keep Kcy417).keep Kcy422)
            obtain ⟨cqy439, kqy439, qy439a, qy439b, qy439c⟩ := isOf hZ eqy437 ry438
            obtain ⟨_, Ty439, Lcy439, Xy439, hQy439, sty439⟩ := pack (Xy437.virtualBack hx (y := n5) (z := n5) hown (mvT hZ (W_ hw 28)) (mvT hZ (W_ hw 29)) (notFace_of_selects (args := #[]) (mvT hZ (W_ hw 31))) (mvT hZ (W_ hw 31)) (mvT hZ (W_ hw 30)) (by decide) (backOf (W := 0) (rmen1 l Z a0 hw [] by218 ao_y219 Ty422.heap n0 Zy422 ry438 fy422_0 fy422_1 fy422_2 gzy218) hZ (W_ hw 32) (W_ hw 3) (by decide) (by decide)) qy439a qy439c (g := (mkF m 335 #[iv p1, iv p2, iv p3, iv p4, rv by1, rv by5, iv AA, iv BB, iv 1, iv 1, iv LO, iv LI, rv by218, iv 0, rv by224, iv 1, rv by337, iv 1, iv 1, rv so_y422, .unset] [(.ref by218)])) rfl (by rw [hml]; rfl) (Steps.refl _) (argsL := []) (rest := []) (lenOf pd_1 rfl) rfl (lb rfl) (hb hby at_335) (fun _ _ => ⟨rfl, eqy437, (by decide : 12 + 0 ≤ _), (by decide : 71 + 0 ≤ _)⟩))
            obtain ⟨rfl, Nqy439, Kcy439, fy439_0, fy439_1, fy439_2⟩ := hQy439
            have Ny439 := Fr.app Ny437 Nqy439
            have Zy439 := Nat.le_trans Zy422 Kcy439.1
            have Ky439 := Ky422.trans Kcy439 (allS (Or.inr szy218) all0)
            refine Fin.step (sty439) ?_
            show Fin p e below s _ _ _ (Ty439.setTop (mkF m 338 #[iv p1, iv p2, iv p3, iv p4, rv by1, rv by5, iv AA, iv BB, iv 1, iv 1, iv LO, iv LI, rv by218, iv 0, rv by224, iv 1, rv by337, iv 1, iv 1, rv so_y422, .unset] [(.int 0)]))
            refine Fin.step (fun _ k => Yo.istore Xy439.here hx (hb hby at_338) rfl (l' := #[iv p1, iv p2, iv p3, iv p4, rv by1, rv by5, iv AA, iv BB, iv 1, iv 1, iv LO, iv LI, rv by218, iv 0, rv by224, iv 1, rv by337, iv 1, iv 1, iv 0, .unset]) rfl (Yo.iload Xy439.here hx (hb hby at_340) rfl (Yo.ifNo Xy439.here hx (hb hby at_342) rfl ((if0 _ _).trans (feq ((by decide) : ¬ ((1 : Int32) = (0 : Int32)))).1) (Yo.iload Xy439.here hx (hb hby at_345) rfl (Yo.ifNo Xy439.here hx (hb hby at_347) rfl ((if0 _ _).trans (teq ((by decide) : ((0 : Int32) = (0 : Int32)))).2) (Yo.iconst Xy439.here hx (hb hby at_350) (Yo.goto Xy439.here hx (pc0 := 351) (pc' := 355) rfl (hb hby at_351) (by decide) (by decide) (Yo.istore Xy439.here hx (hb hby at_355) rfl (l' := #[iv p1, iv p2, iv p3, iv p4, rv by1, rv by5, iv AA, iv BB, iv 1, iv 1, iv LO, iv LI, rv by218, iv 0, rv by224, iv 1, rv by337, iv 1, iv 1, iv 0, .unset]) rfl k)))))))) ?_
            refine Fin.step (fun _ k => Yo.aload Xy439.here hx (hb hby at_357) rfl rfl (Yo.ifnullNo Xy439.here hx (hb hby at_359) rfl (Yo.aload Xy439.here hx (hb hby at_362) rfl rfl k))) ?_
            have ry440 := (ry423.keep Kcy439 (ninS (Ne.symm ney384) nin0))
            obtain ⟨cqy441, kqy441, qy441a, qy441b, qy441c⟩ := isOf hZ rfl (ry425.keep Kcy439)
            obtain ⟨_, Ty441, Lcy441, Xy441, hQy441, sty441⟩ := pack (Xy439.virtualBack hx (y := n20) (z := n20) hown (mvT hZ (W_ hw 122)) (mvT hZ (W_ hw 123)) (notFace_of_selects (args := #[]) (mvT hZ (W_ hw 125))) (mvT hZ (W_ hw 125)) (mvT hZ (W_ hw 124)) (by decide) (backOf (W := 0) (rmg0 l Z a0 hw [] by224 Ty439.heap n0 Zy439 ry440) hZ (W_ hw 126) (W_ hw 39) (by decide) (by decide)) qy441a qy441c (g := (mkF m 364 #[iv p1, iv p2, iv p3, iv p4, rv by1, rv by5, iv AA, iv BB, iv 1, iv 1, iv LO, iv LI, rv by218, iv 0, rv by224, iv 1, rv by337, iv 1, iv 1, iv 0, .unset] [(.ref by224)])) rfl (by rw [hml]; rfl) (Steps.refl _) (argsL := []) (rest := []) (lenOf pd_15 rfl) rfl (lb rfl) (hb hby at_364) (fun _ _ => ⟨rfl, rfl, (by decide : 12 + 0 ≤ _), (by decide : 71 + 0 ≤ _)⟩))
            obtain ⟨rfl, Nqy441, eqy441⟩ := hQy441
            have Ny441 := Fr.app Ny439 Nqy441
            refine Fin.step (sty441) ?_
            show Fin p e below s _ _ _ (Ty441.setTop (mkF m 367 #[iv p1, iv p2, iv p3, iv p4, rv by1, rv by5, iv AA, iv BB, iv 1, iv 1, iv LO, iv LI, rv by218, iv 0, rv by224, iv 1, rv by337, iv 1, iv 1, iv 0, .unset] [.null]))
            refine Fin.step (fun _ k => Yo.astore Xy441.here hx (hb hby at_367) rfl rfl (l' := #[iv p1, iv p2, iv p3, iv p4, rv by1, rv by5, iv AA, iv BB, iv 1, iv 1, iv LO, iv LI, rv by218, iv 0, rv by224, iv 1, rv by337, iv 1, iv 1, iv 0, .val .null]) rfl (Yo.iload Xy441.here hx (hb hby at_369) rfl (Yo.iload Xy441.here hx (hb hby at_371) rfl (Yo.iadd Xy441.here hx (hb hby at_373) rfl k)))) ?_
            show Fin p e below s _ _ _ (Ty441.setTop (mkF m 374 #[iv p1, iv p2, iv p3, iv p4, rv by1, rv by5, iv AA, iv BB, iv 1, iv 1, iv LO, iv LI, rv by218, iv 0, rv by224, iv 1, rv by337, iv 1, iv 1, iv 0, .val .null] [(.int (AA + BB))]))
            refine Fin.step (fun _ k => Yo.iload Xy441.here hx (hb hby at_374) rfl (Yo.icmpYes Xy441.here hx (pc0 := 376) (pc' := 410) rfl (hb hby at_376) rfl (tlt (((own_lim2 hLO (own_pi hB) (own_pi hA)).mp ho2) : (LO < (AA + BB)))).2.2.1 (by decide) (by decide) (Yo.iload Xy441.here hx (hb hby at_410) rfl (Yo.ifNo Xy441.here hx (hb hby at_412) rfl ((if0 _ _).trans (feq ((by decide) : ¬ ((1 : Int32) = (0 : Int32)))).1) (Yo.aload Xy441.here hx (hb hby at_415) rfl rfl (Yo.ifnonnullNo Xy441.here hx (hb hby at_417) rfl (Yo.iconst Xy441.here hx (hb hby at_420) (Yo.goto Xy441.here hx (pc0 := 421) (pc' := 425) rfl (hb hby at_421) (by decide) (by decide) k)))))))) ?_
            refine Fin.step (fun _ k => Yo.istore Xy441.here hx (hb hby at_425) rfl (l' := #[iv p1, iv p2, iv p3, iv p4, rv by1, rv by5, iv AA, iv BB, iv 1, iv 1, iv LO, iv LI, rv by218, iv 0, rv by224, iv 1, rv by337, iv 1, iv 1, iv 0, .val .null]) rfl (Yo.iload Xy441.here hx (hb hby at_427) rfl k)) ?_
            refine Fin.retN Xy441 hx (t := .boolean) hret (by simp) hlk (hb hby at_429) (by decide) (by decide) ?_
            show Q0 Z p1 p2 p3 p4 fv gv wc h0 n0 _ Ty441.heap _
            rw [eqy441]
            exact ⟨rfl, Ny441, Ky439⟩
        · have ho2_ := ho2
          rcases Classical.em ((LI - BB) < (0 : Int32)) with hi2 | hi2
          · have hi2_ := hi2
            refine Fin.step (fun _ k => Yo.aload Xy337.here hx (hb hby at_201) rfl rfl (Yo.aload Xy337.here hx (hb hby at_203) rfl rfl (Yo.iconst Xy337.here hx (hb hby at_205) (Yo.iload Xy337.here hx (hb hby at_206) rfl k)))) ?_
            have ry442 := ((ry330.keep Kcy334).keep Kcy337)
            have ry443 := (((fy224_4.keep Kcy329).keep Kcy334).keep Kcy337)
            have ney444 := nlt ((Ay218.keep Kcy219).keep Kcy220).lt bzy224
            have ney445 := nlt ((nsV fy219_3).keep Kcy220).lt bzy224
            have ry446 := (((fy224_5.keep Kcy329 (ninS ney224_1 (ninS ney224_2 nin0))).keep Kcy334 (ninS (Ne.symm ney444) nin0)).keep Kcy337 (ninS (Ne.symm ney444) (ninS (Ne.symm ney445) nin0)))
            have ry447 := (((fy224_6.keep Kcy329 (ninS ney224_1 (ninS ney224_2 nin0))).keep Kcy334 (ninS (Ne.symm ney444) nin0)).keep Kcy337 (ninS (Ne.symm ney444) (ninS (Ne.symm ney445) nin0)))
            have ry448 := (((fy224_7.keep Kcy329 (ninS ney224_1 (ninS ney224_2 nin0))).keep Kcy334 (ninS (Ne.symm ney444) nin0)).keep Kcy337 (ninS (Ne.symm ney444) (ninS (Ne.symm ney445) nin0)))
            have ry449 := (((fy224_9.keep Kcy329).keep Kcy334).keep Kcy337)
            have ry450 := ((fy329_0.keep Kcy334 (ninS (Ne.symm ney323) nin0)).keep Kcy337 (ninS (Ne.symm ney323) (ninS (Ne.symm ney325) nin0)))
            have ry451 := ((fy329_1.keep Kcy334 (ninS (Ne.symm ney323) nin0)).keep Kcy337 (ninS (Ne.symm ney323) (ninS (Ne.symm ney325) nin0)))
            have ry452 := ((fy329_2.keep Kcy334 (ninS (Ne.symm ney323) nin0)).keep Kcy337 (ninS (Ne.symm ney323) (ninS (Ne.symm ney325) nin0)))
            have ry453 := ((fy329_3.keep Kcy334 (ninS (Ne.symm ney324) nin0)).keep Kcy337 (ninS (Ne.symm ney324) (ninS (Ne.symm ney326) nin0)))
            have ney454 := nlt ((((nsV Vy5).wr Wy6).wr Wy7).wr Wy8).lt (Nat.le_of_eq gy218.symm)
            have ney455 := nlt (((((nsV Vy5).wr Wy6).wr Wy7).wr Wy8).ext Ey218).lt bfy219_0
            have ney456 := nlt (((((((nsV Vy5).wr Wy6).wr Wy7).wr Wy8).ext Ey218).keep Kcy219).keep Kcy220).lt bfy224_1
            have ney457 := nlt (((((((nsV Vy5).wr Wy6).wr Wy7).wr Wy8).ext Ey218).keep Kcy219).keep Kcy220).lt bfy224_0
            have ry458 := (((((((VLYL.ext Ey218).keep Kcy219 (ninS ney454 nin0)).keep Kcy220 (ninS ney454 nin0)).keep Kcy224 (ninS ney454 (ninS ney455 nin0))).keep Kcy329 (ninS ney457 (ninS ney456 nin0))).keep Kcy334 (ninS ney454 nin0)).keep Kcy337 (ninS ney454 (ninS ney455 nin0)))
            have ry459 := (Sta_keepW ry336 Kcy337 (allS (nsE (((((Ay218.keep Kcy219).keep Kcy220).keep Kcy224).keep Kcy329).keep Kcy334)) (allS (((((nsV fy219_3).keep Kcy220).keep Kcy224).keep Kcy329).keep Kcy334) all0)))
            have ry460 := (Sta_keepW (Sta_keepW (Sta_keepW ry322 Kcy329 (allS (nsE fy224_9) (allS (nsV fy224_13) all0))) Kcy334 (allS (nsE ((((Ay218.keep Kcy219).keep Kcy220).keep Kcy224).keep Kcy329)) all0)) Kcy337 (allS (nsE (((((Ay218.keep Kcy219).keep Kcy220).keep Kcy224).keep Kcy329).keep Kcy334)) (allS (((((nsV fy219_3).keep Kcy220).keep Kcy224).keep Kcy329).keep Kcy334) all0)))
            have ney461 := nlt (((((Ay218.keep Kcy219).keep Kcy220).keep Kcy224).keep Kcy329).keep Kcy334).lt bzy337
            have ney462 := nlt (((((nsV fy219_3).keep Kcy220).keep Kcy224).keep Kcy329).keep Kcy334).lt bzy337
            have ney463 := nlt ((fy224_4.keep Kcy329).keep Kcy334).lt bzy337
            have ney464 := nlt ((fy224_9.keep Kcy329).keep Kcy334).lt bzy337
            have ney465 := nlt (((nsV fy224_13).keep Kcy329).keep Kcy334).lt bzy337
            have ney466 := nlt (((((Ay218.keep Kcy219).keep Kcy220).keep Kcy224).keep Kcy329).keep Kcy334).lt bfy337_0
            have ney467 := nlt (((((nsV fy219_3).keep Kcy220).keep Kcy224).keep Kcy329).keep Kcy334).lt bfy337_0
            have ney468 := nlt ((fy224_9.keep Kcy329).keep Kcy334).lt bfy337_0
            have ney469 := nlt (((nsV fy224_13).keep Kcy329).keep Kcy334).lt bfy337_0
            have ney470 := nlt (((((Ay218.keep Kcy219).keep Kcy220).keep Kcy224).keep Kcy329).keep Kcy334).lt bfy337_1
            have ney471 := nlt (((((nsV fy219_3).keep Kcy220).keep Kcy224).keep Kcy329).keep Kcy334).lt bfy337_1
            have ney472 := nlt ((fy224_9.keep Kcy329).keep Kcy334).lt bfy337_1
            have ney473 := nlt (((nsV fy224_13).keep Kcy329).keep Kcy334).lt bfy337_1
            have ney474 := nlt ((((((((((nsV Vy5).wr Wy6).wr Wy7).wr Wy8).ext Ey218).keep Kcy219).keep Kcy220).keep Kcy224).keep Kcy329).keep Kcy334).lt bzy337
            obtain ⟨cqy475, kqy475, qy475a, qy475b, qy475c⟩ := isOf hZ rfl ry442
            obtain ⟨_, Ty475, Lcy475, Xy475, hQy475, sty475⟩ := pack (Xy337.virtualBack hx (y := n4) (z := n4) hown (mvT hZ (W_ hw 21)) (mvT hZ (W_ hw 22)) (notFace_of_selects (args := #[]) (mvT hZ (W_ hw 24))) (mvT hZ (W_ hw 24)) (mvT hZ (W_ hw 23)) (by decide) (backOf (W := 0) (rmtop l Z a0 hw [] by218 by5 BB ao_y219 ko_y219 (2 : Int32) by224 bo_y224 ab_y224 kb_y224 AA (own_app [(.int 0), (.int 0), (.int 0), (.int 0), (.int 0), (.int 0), (.int 0), (.int 0), (.int 0), (.int 0), (.int 0), (.int 0), (.int 0), (.int 0), (.int 0), (.int 0)] XL (0 : Int32).toNatClampNeg AA.toNatClampNeg) LO (AA + BB) by337 bo_y337 ab_y337 kb_y337 (0 : Int32) [(.int 0), (.int 0), (.int 0), (.int 0), (.int 0), (.int 0), (.int 0), (.int 0), (.int 0), (.int 0), (.int 0), (.int 0), (.int 0), (.int 0), (.int 0), (.int 0)] LI ky5 YL wc gv Ty337.heap n0 Zy337 ry442 fy337_0 fy337_1 fy337_2 fy337_3 ry443 ry446 ry447 ry448 ry449 ry450 ry451 ry452 ry453 fy337_4 fy337_5 fy337_6 fy337_7 fy337_9 fy337_10 fy337_11 fy337_12 fy337_13 ry458 ry459 ry460 gzy218 gzy219_0 gzy224_0 gzy224_1 gzy337 hB hY hwc hgv ppy219_0 (own_pi hA) (own_applen _ _ _ _) rfl ho2 hi2 ney219_0 ney323 ney324 ney461 ney325 ney326 ney462 (Ne.symm ney444) (Ne.symm ney445) ney224_1 ney224_2 ney463 ney224_0 ney464 ney465 (Ne.symm ney466) (Ne.symm ney467) (Ne.symm ney468) (Ne.symm ney469) (Ne.symm ney337_1) (Ne.symm ney470) (Ne.symm ney471) (Ne.symm ney472) (Ne.symm ney473) (Ne.symm ney337_2) ney454 ney455 ney457 ney456 ney474) hZ (W_ hw 25) (W_ hw 3) (by decide) (by decide)) qy475a qy475c (g := (mkF m 208 #[iv p1, iv p2, iv p3, iv p4, rv by1, rv by5, iv AA, iv BB, iv 1, iv 1, iv LO, iv LI, rv by218, iv 0, rv by224, iv 1, rv by337, .unset, .unset, .unset, .unset] [(.int BB), (.int 0), (.ref by5), (.ref by218)])) rfl (by rw [hml]; rfl) (Steps.refl _) (argsL := [(.ref by5), (.int 0), (.int BB)]) (rest := []) (lenOf pd_5 rfl) rfl (lb rfl) (hb hby at_208) (fun _ _ => ⟨rfl, rfl, (by decide : 10 + 0 ≤ _), (by decide : 61 + 0 ≤ _)⟩))
            obtain ⟨rfl, Nqy475, Kcy475, fy475_0, fy475_1, fy475_2, fy475_3, fy475_4, fy475_5, fy475_6, fy475_7, fy475_8, fy475_9⟩ := hQy475
            have Ny475 := Fr.app Ny337 Nqy475
            have Zy475 := Nat.le_trans Zy337 Kcy475.1
            have Ky475 := Ky337.trans Kcy475 (allS (Or.inr szy218) (allS (Or.inr szy219_0) (allS (Or.inr szy224_0) (allS (Or.inr szy224_1) (allS (Or.inr szy337) all0)))))
            refine Fin.step (sty475) ?_
            show Fin p e below s _ _ _ (Ty475.setTop (mkF m 211 #[iv p1, iv p2, iv p3, iv p4, rv by1, rv by5, iv AA, iv BB, iv 1, iv 1, iv LO, iv LI, rv by218, iv 0, rv by224, iv 1, rv by337, .unset, .unset, .unset, .unset] []))
            refine Fin.step (fun _ k => Yo.aload Xy475.here hx (hb hby at_211) rfl rfl k) ?_
            have ry476 := ((((fy224_8.keep Kcy329 (ninS ney224_1 (ninS ney224_2 nin0))).keep Kcy334 (ninS (Ne.symm ney444) nin0)).keep Kcy337 (ninS (Ne.symm ney444) (ninS (Ne.symm ney445) nin0))).keep Kcy475 (ninS (Ne.symm ney444) (ninS (Ne.symm ney445) (ninS ney224_1 (ninS ney224_2 (ninS ney463 nin0))))))
            obtain ⟨cqy477, kqy477, qy477a, qy477b, qy477c⟩ := isOf hZ rfl (ry442.keep Kcy475)
            obtain ⟨_, Ty477, Lcy477, Xy477, hQy477, sty477⟩ := pack (Xy475.virtualBack hx (y := n5) (z := n5) hown (mvT hZ (W_ hw 28)) (mvT hZ (W_ hw 29)) (notFace_of_selects (args := #[]) (mvT hZ (W_ hw 31))) (mvT hZ (W_ hw 31)) (mvT hZ (W_ hw 30)) (by decide) (backOf (W := 0) (rmen2n l Z a0 hw [] by218 ao_y219 ko_y219 by224 Ty475.heap n0 Zy475 (ry442.keep Kcy475) fy475_0 fy475_1 fy475_2 fy475_3 ry476 gzy218) hZ (W_ hw 32) (W_ hw 3) (by decide) (by decide)) qy477a qy477c (g := (mkF m 213 #[iv p1, iv p2, iv p3, iv p4, rv by1, rv by5, iv AA, iv BB, iv 1, iv 1, iv LO, iv LI, rv by218, iv 0, rv by224, iv 1, rv by337, .unset, .unset, .unset, .unset] [(.ref by218)])) rfl (by rw [hml]; rfl) (Steps.refl _) (argsL := []) (rest := []) (lenOf pd_1 rfl) rfl (lb rfl) (hb hby at_213) (fun _ _ => ⟨rfl, rfl, (by decide : 10 + 0 ≤ _), (by decide : 61 + 0 ≤ _)⟩))
            obtain ⟨rfl, Nqy477, Kcy477, fy477_0, fy477_1, fy477_2⟩ := hQy477
            have Ny477 := Fr.app Ny475 Nqy477
            have Zy477 := Nat.le_trans Zy475 Kcy477.1
            have Ky477 := Ky475.trans Kcy477 (allS (Or.inr szy218) all0)
            refine Fin.step (sty477) ?_
            show Fin p e below s _ _ _ (Ty477.setTop (mkF m 216 #[iv p1, iv p2, iv p3, iv p4, rv by1, rv by5, iv AA, iv BB, iv 1, iv 1, iv LO, iv LI, rv by218, iv 0, rv by224, iv 1, rv by337, .unset, .unset, .unset, .unset] [(.int 1)]))
            refine Fin.step (fun _ k => Yo.istore Xy477.here hx (hb hby at_216) rfl (l' := #[iv p1, iv p2, iv p3, iv p4, rv by1, rv by5, iv AA, iv BB, iv 1, iv 1, iv LO, iv LI, rv by218, iv 0, rv by224, iv 1, rv by337, iv 1, .unset, .unset, .unset]) rfl (Yo.iload Xy477.here hx (hb hby at_218) rfl (Yo.ifNo Xy477.here hx (hb hby at_220) rfl ((if0 _ _).trans (teq ((by decide) : ((0 : Int32) = (0 : Int32)))).2) (Yo.iload Xy477.here hx (hb hby at_223) rfl (Yo.iconst Xy477.here hx (hb hby at_225) (Yo.icmpNo Xy477.here hx (hb hby at_226) rfl (teq ((by decide) : ((1 : Int32) = (1 : Int32)))).2 (Yo.iload Xy477.here hx (hb hby at_229) rfl (Yo.iconst Xy477.here hx (hb hby at_231) k)))))))) ?_
            refine Fin.step (fun _ k => Yo.icmpNo Xy477.here hx (hb hby at_232) rfl (teq ((by decide) : ((1 : Int32) = (1 : Int32)))).2 (Yo.iconst Xy477.here hx (hb hby at_235) (Yo.goto Xy477.here hx (pc0 := 236) (pc' := 240) rfl (hb hby at_236) (by decide) (by decide) (Yo.istore Xy477.here hx (hb hby at_240) rfl (l' := #[iv p1, iv p2, iv p3, iv p4, rv by1, rv by5, iv AA, iv BB, iv 1, iv 1, iv LO, iv LI, rv by218, iv 0, rv by224, iv 1, rv by337, iv 1, iv 1, .unset, .unset]) rfl (Yo.aload Xy477.here hx (hb hby at_242) rfl rfl (Yo.ifnullNo Xy477.here hx (hb hby at_244) rfl (Yo.iload Xy477.here hx (hb hby at_247) rfl (Yo.ifNo Xy477.here hx (hb hby at_249) rfl ((if0 _ _).trans (feq ((by decide) : ¬ ((1 : Int32) = (0 : Int32)))).1) k)))))))) ?_
            refine Fin.step (fun _ k => Yo.aload Xy477.here hx (hb hby at_252) rfl rfl k) ?_
            have ry478 := ((ry448.keep Kcy475 (ninS (Ne.symm ney444) (ninS (Ne.symm ney445) (ninS ney224_1 (ninS ney224_2 (ninS ney463 nin0)))))).keep Kcy477 (ninS (Ne.symm ney444) nin0))
            have ry480 := ((ry443.keep Kcy475).keep Kcy477)
            obtain ⟨cqy479, kqy479, qy479a, qy479b, qy479c⟩ := isOf hZ rfl ry480
            obtain ⟨_, Ty479, Lcy479, Xy479, hQy479, sty479⟩ := pack (Xy477.virtualBack hx (y := n20) (z := n20) hown (mvT hZ (W_ hw 122)) (mvT hZ (W_ hw 123)) (notFace_of_selects (args := #[]) (mvT hZ (W_ hw 125))) (mvT hZ (W_ hw 125)) (mvT hZ (W_ hw 124)) (by decide) (backOf (W := 0) (rmg0 l Z a0 hw [] by224 Ty477.heap n0 Zy477 ry478) hZ (W_ hw 126) (W_ hw 39) (by decide) (by decide)) qy479a qy479c (g := (mkF m 254 #[iv p1, iv p2, iv p3, iv p4, rv by1, rv by5, iv AA, iv BB, iv 1, iv 1, iv LO, iv LI, rv by218, iv 0, rv by224, iv 1, rv by337, iv 1, iv 1, .unset, .unset] [(.ref by224)])) rfl (by rw [hml]; rfl) (Steps.refl _) (argsL := []) (rest := []) (lenOf pd_15 rfl) rfl (lb rfl) (hb hby at_254) (fun _ _ => ⟨rfl, rfl, (by decide : 10 + 0 ≤ _), (by decide : 61 + 0 ≤ _)⟩))
            obtain ⟨rfl, Nqy479, eqy479⟩ := hQy479
            have Ny479 := Fr.app Ny477 Nqy479
            refine Fin.step (sty479) ?_
            show Fin p e below s _ _ _ (Ty479.setTop (mkF m 257 #[iv p1, iv p2, iv p3, iv p4, rv by1, rv by5, iv AA, iv BB, iv 1, iv 1, iv LO, iv LI, rv by218, iv 0, rv by224, iv 1, rv by337, iv 1, iv 1, .unset, .unset] [.null]))
            refine Fin.step (fun _ k => Yo.ifnonnullNo Xy479.here hx (hb hby at_257) rfl (Yo.iconst Xy479.here hx (hb hby at_260) (Yo.goto Xy479.here hx (pc0 := 261) (pc' := 265) rfl (hb hby at_261) (by decide) (by decide) (Yo.istore Xy479.here hx (hb hby at_265) rfl (l' := #[iv p1, iv p2, iv p3, iv p4, rv by1, rv by5, iv AA, iv BB, iv 1, iv 1, iv LO, iv LI, rv by218, iv 0, rv by224, iv 1, rv by337, iv 1, iv 1, .unset, .unset]) rfl (Yo.aload Xy479.here hx (hb hby at_267) rfl rfl (Yo.ifnullNo Xy479.here hx (hb hby at_269) rfl (Yo.aload Xy479.here hx (hb hby at_272) rfl rfl k))))))) ?_
            have ry481 := (fy475_9.keep Kcy477 (ninS (Ne.symm ney461) nin0))
            have ry483 := ((fy337_4.keep Kcy475).keep Kcy477)
            obtain ⟨cqy482, kqy482, qy482a, qy482b, qy482c⟩ := isOf hZ eqy479 ry483
            obtain ⟨_, Ty482, Lcy482, Xy482, hQy482, sty482⟩ := pack (Xy479.virtualBack hx (y := n20) (z := n20) hown (mvT hZ (W_ hw 122)) (mvT hZ (W_ hw 123)) (notFace_of_selects (args := #[]) (mvT hZ (W_ hw 125))) (mvT hZ (W_ hw 125)) (mvT hZ (W_ hw 124)) (by decide) (backOf (W := 0) (rmg0 l Z a0 hw [] by337 Ty477.heap n0 Zy477 ry481) hZ (W_ hw 126) (W_ hw 39) (by decide) (by decide)) qy482a qy482c (g := (mkF m 274 #[iv p1, iv p2, iv p3, iv p4, rv by1, rv by5, iv AA, iv BB, iv 1, iv 1, iv LO, iv LI, rv by218, iv 0, rv by224, iv 1, rv by337, iv 1, iv 1, .unset, .unset] [(.ref by337)])) rfl (by rw [hml]; rfl) (Steps.refl _) (argsL := []) (rest := []) (lenOf pd_15 rfl) rfl (lb rfl) (hb hby at_274) (fun _ _ => ⟨rfl, eqy479, (by decide : 10 + 0 ≤ _), (by decide : 61 + 0 ≤ _)⟩))
            obtain ⟨rfl, Nqy482, eqy482⟩ := hQy482
            have Ny482 := Fr.app Ny479 Nqy482
            refine Fin.step (sty482) ?_
            show Fin p e below s _ _ _ (Ty482.setTop (mkF m 277 #[iv p1, iv p2, iv p3, iv p4, rv by1, rv by5, iv AA, iv BB, iv 1, iv 1, iv LO, iv LI, rv by218, iv 0, rv by224, iv 1, rv by337, iv 1, iv 1, .unset, .unset] [.null]))
            refine Fin.step (fun _ k => Yo.astore Xy482.here hx (hb hby at_277) rfl rfl (l' := #[iv p1, iv p2, iv p3, iv p4, rv by1, rv by5, iv AA, iv BB, iv 1, iv 1, iv LO, iv LI, rv by218, iv 0, rv by224, iv 1, rv by337, iv 1, iv 1, .val .null, .unset]) rfl (Yo.iload Xy482.here hx (hb hby at_279) rfl (Yo.iload Xy482.here hx (hb hby at_281) rfl (Yo.icmpYes Xy482.here hx (pc0 := 283) (pc' := 316) rfl (hb hby at_283) rfl (tlt (((own_lim hLI (own_pi hB)).mp hi2) : (LI < BB))).2.2.1 (by decide) (by decide) (Yo.iload Xy482.here hx (hb hby at_316) rfl (Yo.ifNo Xy482.here hx (hb hby at_318) rfl ((if0 _ _).trans (feq ((by decide) : ¬ ((1 : Int32) = (0 : Int32)))).1) (Yo.aload Xy482.here hx (hb hby at_321) rfl rfl (Yo.ifnonnullNo Xy482.here hx (hb hby at_323) rfl k)))))))) ?_
            refine Fin.step (fun _ k => Yo.iconst Xy482.here hx (hb hby at_326) (Yo.goto Xy482.here hx (pc0 := 327) (pc' := 331) rfl (hb hby at_327) (by decide) (by decide) (Yo.istore Xy482.here hx (hb hby at_331) rfl (l' := #[iv p1, iv p2, iv p3, iv p4, rv by1, rv by5, iv AA, iv BB, iv 1, iv 1, iv LO, iv LI, rv by218, iv 0, rv by224, iv 1, rv by337, iv 1, iv 1, .val .null, .unset]) rfl (Yo.aload Xy482.here hx (hb hby at_333) rfl rfl k)))) ?_
            have ry484 := ((ry442.keep Kcy475).keep Kcy477)
            have ry485 := (fy475_3.keep Kcy477 (ninS (Ne.symm ney219_0) nin0))
            have ry486 := ((ry446.keep Kcy475 (ninS (Ne.symm ney444) (ninS (Ne.symm ney445) (ninS ney224_1 (ninS ney224_2 (ninS ney463 nin0)))))).keep Kcy477 (ninS (Ne.symm ney444) nin0))
            have ry487 := (ry476.keep Kcy477 (ninS (Ne.symm ney444) nin0))
            have ry488 := ((ry449.keep Kcy475).keep Kcy477)
            have ry489 := (fy475_4.keep Kcy477 (ninS (Ne.symm ney323) nin0))
            have ry490 := (fy475_5.keep Kcy477 (ninS (Ne.symm ney323) nin0))
            have ry491 := (fy475_6.keep Kcy477 (ninS (Ne.symm ney323) nin0))
            have ry492 := (fy475_7.keep Kcy477 (ninS (Ne.symm ney324) nin0))
            have ry493 := (Sta_keepW (Sta_keepW ry459 Kcy475 (allS (nsE ((((((Ay218.keep Kcy219).keep Kcy220).keep Kcy224).keep Kcy329).keep Kcy334).keep Kcy337)) (allS ((((((nsV fy219_3).keep Kcy220).keep Kcy224).keep Kcy329).keep Kcy334).keep Kcy337) (allS (nsE (((fy224_9.keep Kcy329).keep Kcy334).keep Kcy337)) (allS ((((nsV fy224_13).keep Kcy329).keep Kcy334).keep Kcy337) (allS (nsE fy337_4) all0)))))) Kcy477 (allS (nsE (((((((Ay218.keep Kcy219).keep Kcy220).keep Kcy224).keep Kcy329).keep Kcy334).keep Kcy337).keep Kcy475)) all0))
            obtain ⟨cqy494, kqy494, qy494a, qy494b, qy494c⟩ := isOf hZ eqy482 ry484
            obtain ⟨_, Ty494, Lcy494, Xy494, hQy494, sty494⟩ := pack (Xy482.virtualBack hx (y := n5) (z := n5) hown (mvT hZ (W_ hw 28)) (mvT hZ (W_ hw 29)) (notFace_of_selects (args := #[]) (mvT hZ (W_ hw 31))) (mvT hZ (W_ hw 31)) (mvT hZ (W_ hw 30)) (by decide) (backOf (W := 0) (rmes1 l Z a0 hw [] by218 ao_y219 ko_y219 by224 bo_y224 ab_y224 kb_y224 (AA + BB) (own_app (own_app [(.int 0), (.int 0), (.int 0), (.int 0), (.int 0), (.int 0), (.int 0), (.int 0), (.int 0), (.int 0), (.int 0), (.int 0), (.int 0), (.int 0), (.int 0), (.int 0)] XL (0 : Int32).toNatClampNeg AA.toNatClampNeg) YL AA.toNatClampNeg BB.toNatClampNeg) wc Ty477.heap n0 Zy477 ry484 fy477_0 fy477_1 fy477_2 ry485 ry480 ry486 ry478 ry487 ry488 ry489 ry490 ry491 ry492 ry493 gzy218 gzy219_0 gzy224 (own_66 (own_pi hA) (own_pi hB)) hwc ney219_0 (Ne.symm ney444) (Ne.symm ney445) (Ne.symm ney323) (Ne.symm ney325) (Ne.symm ney224_1) (Ne.symm ney324) (Ne.symm ney326) (Ne.symm ney224_2)) hZ (W_ hw 32) (W_ hw 3) (by decide) (by decide)) qy494a qy494c (g := (mkF m 335 #[iv p1, iv p2, iv p3, iv p4, rv by1, rv by5, iv AA, iv BB, iv 1, iv 1, iv LO, iv LI, rv by218, iv 0, rv by224, iv 1, rv by337, iv 1, iv 1, .val .null, .unset] [(.ref by218)])) rfl (by rw [hml]; rfl) (Steps.refl _) (argsL := []) (rest := []) (lenOf pd_1 rfl) rfl (lb rfl) (hb hby at_335) (fun _ _ => ⟨rfl, eqy482, (by decide : 10 + 2 ≤ _), (by decide : 61 + 10 ≤ _)⟩))
            obtain ⟨so_y494, nb_y494, kn_y494, rfl, bfy494_0, bfy494_1, Nqy494, Kcy494, fy494_0, fy494_1, fy494_2, fy494_3, fy494_4, fy494_5, fy494_6, fy494_7, fy494_8, ney494_0⟩ := hQy494
            have Ny494 := Fr.app Ny482 Nqy494
            have gzy494_0 : n0 ≤ so_y494 := Nat.le_trans Zy477 bfy494_0
            have szy494_0 : h0.size ≤ so_y494 := Nat.le_trans Ky477.1 bfy494_0
            have gzy494_1 : n0 ≤ nb_y494 := Nat.le_trans Zy477 bfy494_1
            have szy494_1 : h0.size ≤ nb_y494 := Nat.le_trans Ky477.1 bfy494_1
            have Zy494 := Nat.le_trans Zy477 Kcy494.1
            have Ky494 := Ky477.trans Kcy494 (allS (Or.inr szy218) (allS (Or.inr szy219_0) (allS (Or.inr szy224) all0)))
            refine Fin.step (sty494) ?_
            show Fin p e below s _ _ _ (Ty494.setTop (mkF m 338 #[iv p1, iv p2, iv p3, iv p4, rv by1, rv by5, iv AA, iv BB, iv 1, iv 1, iv LO, iv LI, rv by218, iv 0, rv by224, iv 1, rv by337, iv 1, iv 1, .val .null, .unset] [(.int 0)]))
            refine Fin.step (fun _ k => Yo.istore Xy494.here hx (hb hby at_338) rfl (l' := #[iv p1, iv p2, iv p3, iv p4, rv by1, rv by5, iv AA, iv BB, iv 1, iv 1, iv LO, iv LI, rv by218, iv 0, rv by224, iv 1, rv by337, iv 1, iv 1, iv 0, .unset]) rfl (Yo.iload Xy494.here hx (hb hby at_340) rfl (Yo.ifNo Xy494.here hx (hb hby at_342) rfl ((if0 _ _).trans (feq ((by decide) : ¬ ((1 : Int32) = (0 : Int32)))).1) (Yo.iload Xy494.here hx (hb hby at_345) rfl (Yo.ifNo Xy494.here hx (hb hby at_347) rfl ((if0 _ _).trans (teq ((by decide) : ((0 : Int32) = (0 : Int32)))).2) (Yo.iconst Xy494.here hx (hb hby at_350) (Yo.goto Xy494.here hx (pc0 := 351) (pc' := 355) rfl (hb hby at_351) (by decide) (by decide) (Yo.istore Xy494.here hx (hb hby at_355) rfl (l' := #[iv p1, iv p2, iv p3, iv p4, rv by1, rv by5, iv AA, iv BB, iv 1, iv 1, iv LO, iv LI, rv by218, iv 0, rv by224, iv 1, rv by337, iv 1, iv 1, iv 0, .unset]) rfl k)))))))) ?_
            refine Fin.step (fun _ k => Yo.aload Xy494.here hx (hb hby at_357) rfl rfl (Yo.ifnullNo Xy494.here hx (hb hby at_359) rfl (Yo.aload Xy494.here hx (hb hby at_362) rfl rfl k))) ?_
            obtain ⟨cqy495, kqy495, qy495a, qy495b, qy495c⟩ := isOf hZ rfl (ry480.keep Kcy494)
            obtain ⟨_, Ty495, Lcy495, Xy495, hQy495, sty495⟩ := pack (Xy494.virtualBack hx (y := n20) (z := n20) hown (mvT hZ (W_ hw 122)) (mvT hZ (W_ hw 123)) (notFace_of_selects (args := #[]) (mvT hZ (W_ hw 125))) (mvT hZ (W_ hw 125)) (mvT hZ (W_ hw 124)) (by decide) (backOf (W := 0) (rmg1 l Z a0 hw [] by224 so_y494 Ty494.heap n0 Zy494 fy494_4) hZ (W_ hw 126) (W_ hw 39) (by decide) (by decide)) qy495a qy495c (g := (mkF m 364 #[iv p1, iv p2, iv p3, iv p4, rv by1, rv by5, iv AA, iv BB, iv 1, iv 1, iv LO, iv LI, rv by218, iv 0, rv by224, iv 1, rv by337, iv 1, iv 1, iv 0, .unset] [(.ref by224)])) rfl (by rw [hml]; rfl) (Steps.refl _) (argsL := []) (rest := []) (lenOf pd_15 rfl) rfl (lb rfl) (hb hby at_364) (fun _ _ => ⟨rfl, rfl, (by decide : 12 + 0 ≤ _), (by decide : 71 + 0 ≤ _)⟩))
            obtain ⟨rfl, Nqy495, eqy495⟩ := hQy495
            have Ny495 := Fr.app Ny494 Nqy495
            refine Fin.step (sty495) ?_
            show Fin p e below s _ _ _ (Ty495.setTop (mkF m 367 #[iv p1, iv p2, iv p3, iv p4, rv by1, rv by5, iv AA, iv BB, iv 1, iv 1, iv LO, iv LI, rv by218, iv 0, rv by224, iv 1, rv by337, iv 1, iv 1, iv 0, .unset] [(.ref so_y494)]))
            refine Fin.step (fun _ k => Yo.astore Xy495.here hx (hb hby at_367) rfl rfl (l' := #[iv p1, iv p2, iv p3, iv p4, rv by1, rv by5, iv AA, iv BB, iv 1, iv 1, iv LO, iv LI, rv by218, iv 0, rv by224, iv 1, rv by337, iv 1, iv 1, iv 0, rv so_y494]) rfl (Yo.iload Xy495.here hx (hb hby at_369) rfl (Yo.iload Xy495.here hx (hb hby at_371) rfl (Yo.iadd Xy495.here hx (hb hby at_373) rfl k)))) ?_
            show Fin p e below s _ _ _ (Ty495.setTop (mkF m 374 #[iv p1, iv p2, iv p3, iv p4, rv by1, rv by5, iv AA, iv BB, iv 1, iv 1, iv LO, iv LI, rv by218, iv 0, rv by224, iv 1, rv by337, iv 1, iv 1, iv 0, rv so_y494] [(.int (AA + BB))]))
            refine Fin.step (fun _ k => Yo.iload Xy495.here hx (hb hby at_374) rfl (Yo.icmpNo Xy495.here hx (hb hby at_376) rfl (flt ((fun q => ho2 ((own_lim2 hLO (own_pi hB) (own_pi hA)).mpr q)) : ¬ (LO < (AA + BB)))).2.2.1 (Yo.iload Xy495.here hx (hb hby at_379) rfl (Yo.ifNo Xy495.here hx (hb hby at_381) rfl ((if0 _ _).trans (feq ((by decide) : ¬ ((1 : Int32) = (0 : Int32)))).1) (Yo.aload Xy495.here hx (hb hby at_384) rfl rfl (Yo.aload Xy495.here hx (hb hby at_386) rfl rfl (Yo.iload Xy495.here hx (hb hby at_388) rfl (Yo.aload Xy495.here hx (hb hby at_390) rfl rfl k)))))))) ?_
            refine Fin.step (fun _ k => Yo.iload Xy495.here hx (hb hby at_392) rfl k) ?_
            have ney496 := nlt ((((((((((((((nsV Vy1).wr Wy2).wr Wy3).wr Wy4).ext Ey5).wr Wy6).wr Wy7).wr Wy8).ext Ey218).keep Kcy219).keep Kcy220).keep Kcy224).keep Kcy329).keep Kcy334).lt bzy337
            have ney497 := nlt (((((((((((nsV Vy1).wr Wy2).wr Wy3).wr Wy4).ext Ey5).wr Wy6).wr Wy7).wr Wy8).ext Ey218).keep Kcy219).keep Kcy220).lt bzy224
            have ry498 := ((((((ry320.keep Kcy329 (ninS ney327 (ninS ney328 nin0))).keep Kcy334 (ninS ney318 nin0)).keep Kcy337 (ninS ney318 (ninS ney319 nin0))).keep Kcy475 (ninS ney318 (ninS ney319 (ninS ney327 (ninS ney328 (ninS ney496 nin0)))))).keep Kcy477 (ninS ney318 nin0)).keep Kcy494 (ninS ney318 (ninS ney319 (ninS ney497 nin0))))
            have ney499 := nlt (((((((nsV Vy5).wr Wy6).wr Wy7).wr Wy8).ext Ey218).keep Kcy219).keep Kcy220).lt bzy224
            have ry500 := (((ry458.keep Kcy475 (ninS ney454 (ninS ney455 (ninS ney457 (ninS ney456 (ninS ney474 nin0)))))).keep Kcy477 (ninS ney454 nin0)).keep Kcy494 (ninS ney454 (ninS ney455 (ninS ney499 nin0))))
            have ry501 := (Sta_keep HS_jdk_internal_util_Preconditions_SIOOBE_FORMATTER Ky494)
            have ry502 := (Sta_keepW ry493 Kcy494 (allS (nsE ((((((((Ay218.keep Kcy219).keep Kcy220).keep Kcy224).keep Kcy329).keep Kcy334).keep Kcy337).keep Kcy475).keep Kcy477)) (allS ((((((((nsV fy219_3).keep Kcy220).keep Kcy224).keep Kcy329).keep Kcy334).keep Kcy337).keep Kcy475).keep Kcy477) (allS (nsE (((((fy224_4.keep Kcy329).keep Kcy334).keep Kcy337).keep Kcy475).keep Kcy477)) all0))))
            obtain ⟨_, Ty503, Lcy503, Xy503, hQy503, sty503⟩ := packS (Jvm.LawKit.callS Xy495 hx (y := n30) hown (mvT hZ (W_ hw 178)) (mvT hZ (W_ hw 179)) (mvT hZ (W_ hw 180)) (mvT hZ (W_ hw 181)) (by decide) (backOf (W := 0) (rmma l Z a0 hw [] so_y494 by1 AA by5 BB nb_y494 kn_y494 (AA + BB) (own_cp (own_app (own_app [(.int 0), (.int 0), (.int 0), (.int 0), (.int 0), (.int 0), (.int 0), (.int 0), (.int 0), (.int 0), (.int 0), (.int 0), (.int 0), (.int 0), (.int 0), (.int 0)] XL (0 : Int32).toNatClampNeg AA.toNatClampNeg) YL AA.toNatClampNeg BB.toNatClampNeg) (AA + BB).toNatClampNeg) ky1 XL ky5 YL fv wc Ty494.heap n0 Zy494 fy494_5 fy494_6 fy494_7 fy494_8 ry498 ry500 ry501 ry502 hfv hwc hX hY rfl (fun j u v => own_oko (own_pi hA) (own_pi hB) rfl hX hY u v)) hZ (W_ hw 181) (W_ hw 180) (by decide) (by decide)) (g := (mkF m 394 #[iv p1, iv p2, iv p3, iv p4, rv by1, rv by5, iv AA, iv BB, iv 1, iv 1, iv LO, iv LI, rv by218, iv 0, rv by224, iv 1, rv by337, iv 1, iv 1, iv 0, rv so_y494] [(.int BB), (.ref by5), (.int AA), (.ref by1), (.ref so_y494)])) rfl (by rw [hml]; rfl) (argsL := [(.ref so_y494), (.ref by1), (.int AA), (.ref by5), (.int BB)]) (rest := []) (lenOf pd_25 rfl) rfl (lb rfl) (hb hby at_394) (fun _ _ => ⟨rfl, eqy495, (by decide : 12 + 0 ≤ _), (by decide : 71 + 0 ≤ _)⟩))
            obtain ⟨rfl, Nqy503, eqy503⟩ := hQy503
            have Ny503 := Fr.app Ny495 Nqy503
            refine Fin.step (sty503) ?_
            show Fin p e below s _ _ _ (Ty503.setTop (mkF m 397 #[iv p1, iv p2, iv p3, iv p4, rv by1, rv by5, iv AA, iv BB, iv 1, iv 1, iv LO, iv LI, rv by218, iv 0, rv by224, iv 1, rv by337, iv 1, iv 1, iv 0, rv so_y494] [(.int 1)]))
            refine Fin.step (fun _ k => Yo.ifNo Xy503.here hx (hb hby at_397) rfl ((if0 _ _).trans (feq ((by decide) : ¬ ((1 : Int32) = (0 : Int32)))).1) (Yo.iconst Xy503.here hx (hb hby at_400) (Yo.goto Xy503.here hx (pc0 := 401) (pc' := 405) rfl (hb hby at_401) (by decide) (by decide) (Yo.istore Xy503.here hx (hb hby at_405) rfl (l' := #[iv p1, iv p2, iv p3, iv p4, rv by1, rv by5, iv AA, iv BB, iv 1, iv 1, iv LO, iv LI, rv by218, iv 0, rv by224, iv 1, rv by337, iv 1, iv 1, iv 0, rv so_y494]) rfl (Yo.goto Xy503.here hx (pc0 := 407) (pc' := 427) rfl (hb hby at_407) (by decide) (by decide) (Yo.iload Xy503.here hx (hb hby at_427) rfl k)))))) ?_
            refine Fin.retN Xy503 hx (t := .boolean) hret (by simp) hlk (hb hby at_429) (by decide) (by decide) ?_
            show Q0 Z p1 p2 p3 p4 fv gv wc h0 n0 _ Ty503.heap _
            rw [eqy503]
            exact ⟨rfl, Ny503, Ky494⟩
          · have hi2_ := hi2
            refine Fin.step (fun _ k => Yo.aload Xy337.here hx (hb hby at_201) rfl rfl (Yo.aload Xy337.here hx (hb hby at_203) rfl rfl (Yo.iconst Xy337.here hx (hb hby at_205) (Yo.iload Xy337.here hx (hb hby at_206) rfl k)))) ?_
            have ry504 := ((ry330.keep Kcy334).keep Kcy337)
            have ry505 := (((fy224_4.keep Kcy329).keep Kcy334).keep Kcy337)
            have ney506 := nlt ((Ay218.keep Kcy219).keep Kcy220).lt bzy224
            have ney507 := nlt ((nsV fy219_3).keep Kcy220).lt bzy224
            have ry508 := (((fy224_5.keep Kcy329 (ninS ney224_1 (ninS ney224_2 nin0))).keep Kcy334 (ninS (Ne.symm ney506) nin0)).keep Kcy337 (ninS (Ne.symm ney506) (ninS (Ne.symm ney507) nin0)))
            have ry509 := (((fy224_6.keep Kcy329 (ninS ney224_1 (ninS ney224_2 nin0))).keep Kcy334 (ninS (Ne.symm ney506) nin0)).keep Kcy337 (ninS (Ne.symm ney506) (ninS (Ne.symm ney507) nin0)))
            have ry510 := (((fy224_7.keep Kcy329 (ninS ney224_1 (ninS ney224_2 nin0))).keep Kcy334 (ninS (Ne.symm ney506) nin0)).keep Kcy337 (ninS (Ne.symm ney506) (ninS (Ne.symm ney507) nin0)))
            have ry511 := (((fy224_9.keep Kcy329).keep Kcy334).keep Kcy337)
            have ry512 := ((fy329_0.keep Kcy334 (ninS (Ne.symm ney323) nin0)).keep Kcy337 (ninS (Ne.symm ney323) (ninS (Ne.symm ney325) nin0)))
            have ry513 := ((fy329_1.keep Kcy334 (ninS (Ne.symm ney323) nin0)).keep Kcy337 (ninS (Ne.symm ney323) (ninS (Ne.symm ney325) nin0)))
            have ry514 := ((fy329_2.keep Kcy334 (ninS (Ne.symm ney323) nin0)).keep Kcy337 (ninS (Ne.symm ney323) (ninS (Ne.symm ney325) nin0)))
            have ry515 := ((fy329_3.keep Kcy334 (ninS (Ne.symm ney324) nin0)).keep Kcy337 (ninS (Ne.symm ney324) (ninS (Ne.symm ney326) nin0)))
            have ney516 := nlt ((((nsV Vy5).wr Wy6).wr Wy7).wr Wy8).lt (Nat.le_of_eq gy218.symm)
            have ney517 := nlt (((((nsV Vy5).wr Wy6).wr Wy7).wr Wy8).ext Ey218).lt bfy219_0
            have ney518 := nlt (((((((nsV Vy5).wr Wy6).wr Wy7).wr Wy8).ext Ey218).keep Kcy219).keep Kcy220).lt bfy224_1
            have ney519 := nlt (((((((nsV Vy5).wr Wy6).wr Wy7).wr Wy8).ext Ey218).keep Kcy219).keep Kcy220).lt bfy224_0
            have ry520 := (((((((VLYL.ext Ey218).keep Kcy219 (ninS ney516 nin0)).keep Kcy220 (ninS ney516 nin0)).keep Kcy224 (ninS ney516 (ninS ney517 nin0))).keep Kcy329 (ninS ney519 (ninS ney518 nin0))).keep Kcy334 (ninS ney516 nin0)).keep Kcy337 (ninS ney516 (ninS ney517 nin0)))
            have ry521 := (Sta_keepW ry336 Kcy337 (allS (nsE (((((Ay218.keep Kcy219).keep Kcy220).keep Kcy224).keep Kcy329).keep Kcy334)) (allS (((((nsV fy219_3).keep Kcy220).keep Kcy224).keep Kcy329).keep Kcy334) all0)))
            have ry522 := (Sta_keepW (Sta_keepW (Sta_keepW ry322 Kcy329 (allS (nsE fy224_9) (allS (nsV fy224_13) all0))) Kcy334 (allS (nsE ((((Ay218.keep Kcy219).keep Kcy220).keep Kcy224).keep Kcy329)) all0)) Kcy337 (allS (nsE (((((Ay218.keep Kcy219).keep Kcy220).keep Kcy224).keep Kcy329).keep Kcy334)) (allS (((((nsV fy219_3).keep Kcy220).keep Kcy224).keep Kcy329).keep Kcy334) all0)))
            have ney523 := nlt (((((Ay218.keep Kcy219).keep Kcy220).keep Kcy224).keep Kcy329).keep Kcy334).lt bfy337_0
            have ney524 := nlt (((((Ay218.keep Kcy219).keep Kcy220).keep Kcy224).keep Kcy329).keep Kcy334).lt bfy337_1
            have ney525 := nlt (((((nsV fy219_3).keep Kcy220).keep Kcy224).keep Kcy329).keep Kcy334).lt bfy337_0
            have ney526 := nlt (((((nsV fy219_3).keep Kcy220).keep Kcy224).keep Kcy329).keep Kcy334).lt bfy337_1
            have ney527 := nlt ((fy224_4.keep Kcy329).keep Kcy334).lt bfy337_0
            have ney528 := nlt ((fy224_4.keep Kcy329).keep Kcy334).lt bfy337_1
            have ney529 := nlt ((fy224_9.keep Kcy329).keep Kcy334).lt bfy337_0
            have ney530 := nlt ((fy224_9.keep Kcy329).keep Kcy334).lt bfy337_1
            have ney531 := nlt (((nsV fy224_13).keep Kcy329).keep Kcy334).lt bfy337_0
            have ney532 := nlt (((nsV fy224_13).keep Kcy329).keep Kcy334).lt bfy337_1
            have ney533 := nlt ((fy224_9.keep Kcy329).keep Kcy334).lt bzy337
            have ney534 := nlt (((nsV fy224_13).keep Kcy329).keep Kcy334).lt bzy337
            have ney535 := nlt ((((((((((nsV Vy5).wr Wy6).wr Wy7).wr Wy8).ext Ey218).keep Kcy219).keep Kcy220).keep Kcy224).keep Kcy329).keep Kcy334).lt bfy337_0
            have ney536 := nlt ((((((((((nsV Vy5).wr Wy6).wr Wy7).wr Wy8).ext Ey218).keep Kcy219).keep Kcy220).keep Kcy224).keep Kcy329).keep Kcy334).lt bfy337_1
            obtain ⟨cqy537, kqy537, qy537a, qy537b, qy537c⟩ := isOf hZ rfl ry504
            obtain ⟨_, Ty537, Lcy537, Xy537, hQy537, sty537⟩ := pack (Xy337.virtualBack hx (y := n4) (z := n4) hown (mvT hZ (W_ hw 21)) (mvT hZ (W_ hw 22)) (notFace_of_selects (args := #[]) (mvT hZ (W_ hw 24))) (mvT hZ (W_ hw 24)) (mvT hZ (W_ hw 23)) (by decide) (backOf (W := 0) (rmtoo l Z a0 hw [] by218 by5 BB ao_y219 ko_y219 (2 : Int32) by224 bo_y224 ab_y224 kb_y224 AA (own_app [(.int 0), (.int 0), (.int 0), (.int 0), (.int 0), (.int 0), (.int 0), (.int 0), (.int 0), (.int 0), (.int 0), (.int 0), (.int 0), (.int 0), (.int 0), (.int 0)] XL (0 : Int32).toNatClampNeg AA.toNatClampNeg) LO (AA + BB) by337 bo_y337 ab_y337 kb_y337 (0 : Int32) [(.int 0), (.int 0), (.int 0), (.int 0), (.int 0), (.int 0), (.int 0), (.int 0), (.int 0), (.int 0), (.int 0), (.int 0), (.int 0), (.int 0), (.int 0), (.int 0)] LI BB ky5 YL wc gv Ty337.heap n0 Zy337 ry504 fy337_0 fy337_1 fy337_2 fy337_3 ry505 ry508 ry509 ry510 ry511 ry512 ry513 ry514 ry515 fy337_4 fy337_5 fy337_6 fy337_7 fy337_9 fy337_10 fy337_11 fy337_12 fy337_13 ry520 ry521 ry522 gzy224_0 gzy224_1 gzy337_0 gzy337_1 hB hY hwc hgv ppy219_0 (own_pi hA) (own_applen _ _ _ _) rfl ho2 (by decide) rfl (Int32.zero_add BB).symm hi2 ney219_0 ney323 ney324 ney523 ney524 ney325 ney326 ney525 ney526 ney224_1 ney224_2 ney527 ney528 ney224_0 ney529 ney530 ney531 ney532 (Ne.symm ney533) (Ne.symm ney534) ney337_1 ney337_2 ney337_0 ney519 ney518 ney535 ney536) hZ (W_ hw 25) (W_ hw 3) (by decide) (by decide)) qy537a qy537c (g := (mkF m 208 #[iv p1, iv p2, iv p3, iv p4, rv by1, rv by5, iv AA, iv BB, iv 1, iv 1, iv LO, iv LI, rv by218, iv 0, rv by224, iv 1, rv by337, .unset, .unset, .unset, .unset] [(.int BB), (.int 0), (.ref by5), (.ref by218)])) rfl (by rw [hml]; rfl) (Steps.refl _) (argsL := [(.ref by5), (.int 0), (.int BB)]) (rest := []) (lenOf pd_5 rfl) rfl (lb rfl) (hb hby at_208) (fun _ _ => ⟨rfl, rfl, (by decide : 10 + 0 ≤ _), (by decide : 61 + 0 ≤ _)⟩))
            obtain ⟨rfl, Nqy537, Kcy537, fy537_0, fy537_1, fy537_2, fy537_3, fy537_4, fy537_5, fy537_6, fy537_7⟩ := hQy537
            have Ny537 := Fr.app Ny337 Nqy537
            have Zy537 := Nat.le_trans Zy337 Kcy537.1
            have Ky537 := Ky337.trans Kcy537 (allS (Or.inr szy224_0) (allS (Or.inr szy224_1) (allS (Or.inr szy337_0) (allS (Or.inr szy337_1) all0))))
            refine Fin.step (sty537) ?_
            show Fin p e below s _ _ _ (Ty537.setTop (mkF m 211 #[iv p1, iv p2, iv p3, iv p4, rv by1, rv by5, iv AA, iv BB, iv 1, iv 1, iv LO, iv LI, rv by218, iv 0, rv by224, iv 1, rv by337, .unset, .unset, .unset, .unset] []))
            refine Fin.step (fun _ k => Yo.aload Xy537.here hx (hb hby at_211) rfl rfl k) ?_
            have ry538 := (fy337_0.keep Kcy537 (ninS ney323 (ninS ney324 (ninS ney523 (ninS ney524 nin0)))))
            have ry539 := (fy337_1.keep Kcy537 (ninS ney323 (ninS ney324 (ninS ney523 (ninS ney524 nin0)))))
            have ry540 := (fy337_2.keep Kcy537 (ninS ney323 (ninS ney324 (ninS ney523 (ninS ney524 nin0)))))
            have ry541 := (fy337_3.keep Kcy537 (ninS ney325 (ninS ney326 (ninS ney525 (ninS ney526 nin0)))))
            have ry542 := (fy337_5.keep Kcy537 (ninS (Ne.symm ney533) (ninS (Ne.symm ney534) (ninS ney337_1 (ninS ney337_2 nin0)))))
            have ry543 := (fy337_7.keep Kcy537 (ninS (Ne.symm ney533) (ninS (Ne.symm ney534) (ninS ney337_1 (ninS ney337_2 nin0)))))
            have ry544 := (fy337_8.keep Kcy537 (ninS (Ne.symm ney533) (ninS (Ne.symm ney534) (ninS ney337_1 (ninS ney337_2 nin0)))))
            have ry545 := ((((fy224_8.keep Kcy329 (ninS ney224_1 (ninS ney224_2 nin0))).keep Kcy334 (ninS (Ne.symm ney506) nin0)).keep Kcy337 (ninS (Ne.symm ney506) (ninS (Ne.symm ney507) nin0))).keep Kcy537 (ninS ney224_1 (ninS ney224_2 (ninS ney527 (ninS ney528 nin0)))))
            have ry546 := (Sta_keepW ry521 Kcy537 (allS (nsE (((fy224_9.keep Kcy329).keep Kcy334).keep Kcy337)) (allS ((((nsV fy224_13).keep Kcy329).keep Kcy334).keep Kcy337) (allS (nsE fy337_9) (allS (nsV fy337_13) all0)))))
            have ney547 := nlt (((((Ay218.keep Kcy219).keep Kcy220).keep Kcy224).keep Kcy329).keep Kcy334).lt bzy337
            have ney548 := nlt (((((nsV fy219_3).keep Kcy220).keep Kcy224).keep Kcy329).keep Kcy334).lt bzy337
            have ney549 := nlt ((fy224_4.keep Kcy329).keep Kcy334).lt bzy337
            obtain ⟨cqy550, kqy550, qy550a, qy550b, qy550c⟩ := isOf hZ rfl (ry504.keep Kcy537)
            obtain ⟨_, Ty550, Lcy550, Xy550, hQy550, sty550⟩ := pack (Xy537.virtualBack hx (y := n5) (z := n5) hown (mvT hZ (W_ hw 28)) (mvT hZ (W_ hw 29)) (notFace_of_selects (args := #[]) (mvT hZ (W_ hw 31))) (mvT hZ (W_ hw 31)) (mvT hZ (W_ hw 30)) (by decide) (backOf (W := 0) (rmes3 l Z a0 hw [] by218 ao_y219 ko_y219 by224 by337 bo_y337 ab_y337 kb_y337 BB (own_app [(.int 0), (.int 0), (.int 0), (.int 0), (.int 0), (.int 0), (.int 0), (.int 0), (.int 0), (.int 0), (.int 0), (.int 0), (.int 0), (.int 0), (.int 0), (.int 0)] YL (0 : Int32).toNatClampNeg BB.toNatClampNeg) wc Ty537.heap n0 Zy537 (ry504.keep Kcy537) ry538 ry539 ry540 ry541 (fy337_4.keep Kcy537) ry542 ry543 ry544 (fy337_9.keep Kcy537) fy537_4 fy537_5 fy537_6 fy537_7 ry545 ry546 gzy218 gzy219_0 gzy337 (own_6 (own_pi hB)) hwc ney219_0 (Ne.symm ney547) (Ne.symm ney548) (Ne.symm ney523) (Ne.symm ney525) (Ne.symm ney337_1) (Ne.symm ney524) (Ne.symm ney526) (Ne.symm ney337_2) (Ne.symm ney506) (Ne.symm ney507) ney549) hZ (W_ hw 32) (W_ hw 3) (by decide) (by decide)) qy550a qy550c (g := (mkF m 213 #[iv p1, iv p2, iv p3, iv p4, rv by1, rv by5, iv AA, iv BB, iv 1, iv 1, iv LO, iv LI, rv by218, iv 0, rv by224, iv 1, rv by337, .unset, .unset, .unset, .unset] [(.ref by218)])) rfl (by rw [hml]; rfl) (Steps.refl _) (argsL := []) (rest := []) (lenOf pd_1 rfl) rfl (lb rfl) (hb hby at_213) (fun _ _ => ⟨rfl, rfl, (by decide : 10 + 2 ≤ _), (by decide : 61 + 10 ≤ _)⟩))
            obtain ⟨so_y550, nb_y550, kn_y550, rfl, bfy550_0, bfy550_1, Nqy550, Kcy550, fy550_0, fy550_1, fy550_2, fy550_3, fy550_4, fy550_5, fy550_6, fy550_7, fy550_8, ney550_0⟩ := hQy550
            have Ny550 := Fr.app Ny537 Nqy550
            have gzy550_0 : n0 ≤ so_y550 := Nat.le_trans Zy537 bfy550_0
            have szy550_0 : h0.size ≤ so_y550 := Nat.le_trans Ky537.1 bfy550_0
            have gzy550_1 : n0 ≤ nb_y550 := Nat.le_trans Zy537 bfy550_1
            have szy550_1 : h0.size ≤ nb_y550 := Nat.le_trans Ky537.1 bfy550_1
            have Zy550 := Nat.le_trans Zy537 Kcy550.1
            have Ky550 := Ky537.trans Kcy550 (allS (Or.inr szy218) (allS (Or.inr szy219_0) (allS (Or.inr szy337) all0)))
            refine Fin.step (sty550) ?_
            show Fin p e below s _ _ _ (Ty550.setTop (mkF m 216 #[iv p1, iv p2, iv p3, iv p4, rv by1, rv by5, iv AA, iv BB, iv 1, iv 1, iv LO, iv LI, rv by218, iv 0, rv by224, iv 1, rv by337, .unset, .unset, .unset, .unset] [(.int 1)]))
            refine Fin.step (fun _ k => Yo.istore Xy550.here hx (hb hby at_216) rfl (l' := #[iv p1, iv p2, iv p3, iv p4, rv by1, rv by5, iv AA, iv BB, iv 1, iv 1, iv LO, iv LI, rv by218, iv 0, rv by224, iv 1, rv by337, iv 1, .unset, .unset, .unset]) rfl (Yo.iload Xy550.here hx (hb hby at_218) rfl (Yo.ifNo Xy550.here hx (hb hby at_220) rfl ((if0 _ _).trans (teq ((by decide) : ((0 : Int32) = (0 : Int32)))).2) (Yo.iload Xy550.here hx (hb hby at_223) rfl (Yo.iconst Xy550.here hx (hb hby at_225) (Yo.icmpNo Xy550.here hx (hb hby at_226) rfl (teq ((by decide) : ((1 : Int32) = (1 : Int32)))).2 (Yo.iload Xy550.here hx (hb hby at_229) rfl (Yo.iconst Xy550.here hx (hb hby at_231) k)))))))) ?_
            refine Fin.step (fun _ k => Yo.icmpNo Xy550.here hx (hb hby at_232) rfl (teq ((by decide) : ((1 : Int32) = (1 : Int32)))).2 (Yo.iconst Xy550.here hx (hb hby at_235) (Yo.goto Xy550.here hx (pc0 := 236) (pc' := 240) rfl (hb hby at_236) (by decide) (by decide) (Yo.istore Xy550.here hx (hb hby at_240) rfl (l' := #[iv p1, iv p2, iv p3, iv p4, rv by1, rv by5, iv AA, iv BB, iv 1, iv 1, iv LO, iv LI, rv by218, iv 0, rv by224, iv 1, rv by337, iv 1, iv 1, .unset, .unset]) rfl (Yo.aload Xy550.here hx (hb hby at_242) rfl rfl (Yo.ifnullNo Xy550.here hx (hb hby at_244) rfl (Yo.iload Xy550.here hx (hb hby at_247) rfl (Yo.ifNo Xy550.here hx (hb hby at_249) rfl ((if0 _ _).trans (feq ((by decide) : ¬ ((1 : Int32) = (0 : Int32)))).1) k)))))))) ?_
            refine Fin.step (fun _ k => Yo.aload Xy550.here hx (hb hby at_252) rfl rfl k) ?_
            have ry551 := ((ry510.keep Kcy537 (ninS ney224_1 (ninS ney224_2 (ninS ney527 (ninS ney528 nin0))))).keep Kcy550 (ninS (Ne.symm ney506) (ninS (Ne.symm ney507) (ninS ney549 nin0))))
            have ry553 := ((ry505.keep Kcy537).keep Kcy550)
            obtain ⟨cqy552, kqy552, qy552a, qy552b, qy552c⟩ := isOf hZ rfl ry553
            obtain ⟨_, Ty552, Lcy552, Xy552, hQy552, sty552⟩ := pack (Xy550.virtualBack hx (y := n20) (z := n20) hown (mvT hZ (W_ hw 122)) (mvT hZ (W_ hw 123)) (notFace_of_selects (args := #[]) (mvT hZ (W_ hw 125))) (mvT hZ (W_ hw 125)) (mvT hZ (W_ hw 124)) (by decide) (backOf (W := 0) (rmg0 l Z a0 hw [] by224 Ty550.heap n0 Zy550 ry551) hZ (W_ hw 126) (W_ hw 39) (by decide) (by decide)) qy552a qy552c (g := (mkF m 254 #[iv p1, iv p2, iv p3, iv p4, rv by1, rv by5, iv AA, iv BB, iv 1, iv 1, iv LO, iv LI, rv by218, iv 0, rv by224, iv 1, rv by337, iv 1, iv 1, .unset, .unset] [(.ref by224)])) rfl (by rw [hml]; rfl) (Steps.refl _) (argsL := []) (rest := []) (lenOf pd_15 rfl) rfl (lb rfl) (hb hby at_254) (fun _ _ => ⟨rfl, rfl, (by decide : 12 + 0 ≤ _), (by decide : 71 + 0 ≤ _)⟩))
            obtain ⟨rfl, Nqy552, eqy552⟩ := hQy552
            have Ny552 := Fr.app Ny550 Nqy552
            refine Fin.step (sty552) ?_
            show Fin p e below s _ _ _ (Ty552.setTop (mkF m 257 #[iv p1, iv p2, iv p3, iv p4, rv by1, rv by5, iv AA, iv BB, iv 1, iv 1, iv LO, iv LI, rv by218, iv 0, rv by224, iv 1, rv by337, iv 1, iv 1, .unset, .unset] [.null]))
            refine Fin.step (fun _ k => Yo.ifnonnullNo Xy552.here hx (hb hby at_257) rfl (Yo.iconst Xy552.here hx (hb hby at_260) (Yo.goto Xy552.here hx (pc0 := 261) (pc' := 265) rfl (hb hby at_261) (by decide) (by decide) (Yo.istore Xy552.here hx (hb hby at_265) rfl (l' := #[iv p1, iv p2, iv p3, iv p4, rv by1, rv by5, iv AA, iv BB, iv 1, iv 1, iv LO, iv LI, rv by218, iv 0, rv by224, iv 1, rv by337, iv 1, iv 1, .unset, .unset]) rfl (Yo.aload Xy552.here hx (hb hby at_267) rfl rfl (Yo.ifnullNo Xy552.here hx (hb hby at_269) rfl (Yo.aload Xy552.here hx (hb hby at_272) rfl rfl k))))))) ?_
            have ry555 := ((fy337_4.keep Kcy537).keep Kcy550)
            obtain ⟨cqy554, kqy554, qy554a, qy554b, qy554c⟩ := isOf hZ eqy552 ry555
            obtain ⟨_, Ty554, Lcy554, Xy554, hQy554, sty554⟩ := pack (Xy552.virtualBack hx (y := n20) (z := n20) hown (mvT hZ (W_ hw 122)) (mvT hZ (W_ hw 123)) (notFace_of_selects (args := #[]) (mvT hZ (W_ hw 125))) (mvT hZ (W_ hw 125)) (mvT hZ (W_ hw 124)) (by decide) (backOf (W := 0) (rmg1 l Z a0 hw [] by337 so_y550 Ty550.heap n0 Zy550 fy550_4) hZ (W_ hw 126) (W_ hw 39) (by decide) (by decide)) qy554a qy554c (g := (mkF m 274 #[iv p1, iv p2, iv p3, iv p4, rv by1, rv by5, iv AA, iv BB, iv 1, iv 1, iv LO, iv LI, rv by218, iv 0, rv by224, iv 1, rv by337, iv 1, iv 1, .unset, .unset] [(.ref by337)])) rfl (by rw [hml]; rfl) (Steps.refl _) (argsL := []) (rest := []) (lenOf pd_15 rfl) rfl (lb rfl) (hb hby at_274) (fun _ _ => ⟨rfl, eqy552, (by decide : 12 + 0 ≤ _), (by decide : 71 + 0 ≤ _)⟩))
            obtain ⟨rfl, Nqy554, eqy554⟩ := hQy554
            have Ny554 := Fr.app Ny552 Nqy554
            refine Fin.step (sty554) ?_
            show Fin p e below s _ _ _ (Ty554.setTop (mkF m 277 #[iv p1, iv p2, iv p3, iv p4, rv by1, rv by5, iv AA, iv BB, iv 1, iv 1, iv LO, iv LI, rv by218, iv 0, rv by224, iv 1, rv by337, iv 1, iv 1, .unset, .unset] [(.ref so_y550)]))
            refine Fin.step (fun _ k => Yo.astore Xy554.here hx (hb hby at_277) rfl rfl (l' := #[iv p1, iv p2, iv p3, iv p4, rv by1, rv by5, iv AA, iv BB, iv 1, iv 1, iv LO, iv LI, rv by218, iv 0, rv by224, iv 1, rv by337, iv 1, iv 1, rv so_y550, .unset]) rfl (Yo.iload Xy554.here hx (hb hby at_279) rfl (Yo.iload Xy554.here hx (hb hby at_281) rfl (Yo.icmpNo Xy554.here hx (hb hby at_283) rfl (flt ((fun q => hi2 ((own_lim hLI (own_pi hB)).mpr q)) : ¬ (LI < BB))).2.2.1 (Yo.iload Xy554.here hx (hb hby at_286) rfl (Yo.ifNo Xy554.here hx (hb hby at_288) rfl ((if0 _ _).trans (feq ((by decide) : ¬ ((1 : Int32) = (0 : Int32)))).1) (Yo.aload Xy554.here hx (hb hby at_291) rfl rfl (Yo.aload Xy554.here hx (hb hby at_293) rfl rfl k)))))))) ?_
            refine Fin.step (fun _ k => Yo.iload Xy554.here hx (hb hby at_295) rfl (Yo.aload Xy554.here hx (hb hby at_297) rfl rfl (Yo.iconst Xy554.here hx (hb hby at_299) k))) ?_
            have ney556 := nlt ((((((((((nsV Vy5).wr Wy6).wr Wy7).wr Wy8).ext Ey218).keep Kcy219).keep Kcy220).keep Kcy224).keep Kcy329).keep Kcy334).lt bzy337
            have ry557 := ((ry520.keep Kcy537 (ninS ney519 (ninS ney518 (ninS ney535 (ninS ney536 nin0))))).keep Kcy550 (ninS ney516 (ninS ney517 (ninS ney556 nin0))))
            have ney558 := nlt ((((((((((((((nsV Vy1).wr Wy2).wr Wy3).wr Wy4).ext Ey5).wr Wy6).wr Wy7).wr Wy8).ext Ey218).keep Kcy219).keep Kcy220).keep Kcy224).keep Kcy329).keep Kcy334).lt bfy337_1
            have ney559 := nlt ((((((((((((((nsV Vy1).wr Wy2).wr Wy3).wr Wy4).ext Ey5).wr Wy6).wr Wy7).wr Wy8).ext Ey218).keep Kcy219).keep Kcy220).keep Kcy224).keep Kcy329).keep Kcy334).lt bfy337_0
            have ney560 := nlt ((((((((((((((nsV Vy1).wr Wy2).wr Wy3).wr Wy4).ext Ey5).wr Wy6).wr Wy7).wr Wy8).ext Ey218).keep Kcy219).keep Kcy220).keep Kcy224).keep Kcy329).keep Kcy334).lt bzy337
            have ry561 := (((((ry320.keep Kcy329 (ninS ney327 (ninS ney328 nin0))).keep Kcy334 (ninS ney318 nin0)).keep Kcy337 (ninS ney318 (ninS ney319 nin0))).keep Kcy537 (ninS ney327 (ninS ney328 (ninS ney559 (ninS ney558 nin0))))).keep Kcy550 (ninS ney318 (ninS ney319 (ninS ney560 nin0))))
            have ry562 := (Sta_keep HS_jdk_internal_util_Preconditions_SIOOBE_FORMATTER Ky550)
            have ry563 := (Sta_keepW ry546 Kcy550 (allS (nsE (((((((Ay218.keep Kcy219).keep Kcy220).keep Kcy224).keep Kcy329).keep Kcy334).keep Kcy337).keep Kcy537)) (allS (((((((nsV fy219_3).keep Kcy220).keep Kcy224).keep Kcy329).keep Kcy334).keep Kcy337).keep Kcy537) (allS (nsE (fy337_4.keep Kcy537)) all0))))
            obtain ⟨_, Ty564, Lcy564, Xy564, hQy564, sty564⟩ := packS (Jvm.LawKit.callS Xy554 hx (y := n30) hown (mvT hZ (W_ hw 178)) (mvT hZ (W_ hw 179)) (mvT hZ (W_ hw 180)) (mvT hZ (W_ hw 181)) (by decide) (backOf (W := 0) (rmma l Z a0 hw [] so_y550 by5 BB by1 (0 : Int32) nb_y550 kn_y550 BB (own_cp (own_app [(.int 0), (.int 0), (.int 0), (.int 0), (.int 0), (.int 0), (.int 0), (.int 0), (.int 0), (.int 0), (.int 0), (.int 0), (.int 0), (.int 0), (.int 0), (.int 0)] YL (0 : Int32).toNatClampNeg BB.toNatClampNeg) BB.toNatClampNeg) ky5 YL ky1 XL fv wc Ty550.heap n0 Zy550 fy550_5 fy550_6 fy550_7 fy550_8 ry557 ry561 ry562 ry563 hfv hwc hY hX (Int32.add_zero BB).symm (fun j u v => own_oki (own_pi hB) rfl hX hY u v)) hZ (W_ hw 181) (W_ hw 180) (by decide) (by decide)) (g := (mkF m 300 #[iv p1, iv p2, iv p3, iv p4, rv by1, rv by5, iv AA, iv BB, iv 1, iv 1, iv LO, iv LI, rv by218, iv 0, rv by224, iv 1, rv by337, iv 1, iv 1, rv so_y550, .unset] [(.int 0), (.ref by1), (.int BB), (.ref by5), (.ref so_y550)])) rfl (by rw [hml]; rfl) (argsL := [(.ref so_y550), (.ref by5), (.int BB), (.ref by1), (.int 0)]) (rest := []) (lenOf pd_25 rfl) rfl (lb rfl) (hb hby at_300) (fun _ _ => ⟨rfl, eqy554, (by decide : 12 + 0 ≤ _), (by decide : 71 + 0 ≤ _)⟩))
            obtain ⟨rfl, Nqy564, eqy564⟩ := hQy564
            have Ny564 := Fr.app Ny554 Nqy564
            refine Fin.step (sty564) ?_
            show Fin p e below s _ _ _ (Ty564.setTop (mkF m 303 #[iv p1, iv p2, iv p3, iv p4, rv by1, rv by5, iv AA, iv BB, iv 1, iv 1, iv LO, iv LI, rv by218, iv 0, rv by224, iv 1, rv by337, iv 1, iv 1, rv so_y550, .unset] [(.int 1)]))
            refine Fin.step (fun _ k => Yo.ifNo Xy564.here hx (hb hby at_303) rfl ((if0 _ _).trans (feq ((by decide) : ¬ ((1 : Int32) = (0 : Int32)))).1) (Yo.iconst Xy564.here hx (hb hby at_306) (Yo.goto Xy564.here hx (pc0 := 307) (pc' := 311) rfl (hb hby at_307) (by decide) (by decide) (Yo.istore Xy564.here hx (hb hby at_311) rfl (l' := #[iv p1, iv p2, iv p3, iv p4, rv by1, rv by5, iv AA, iv BB, iv 1, iv 1, iv LO, iv LI, rv by218, iv 0, rv by224, iv 1, rv by337, iv 1, iv 1, rv so_y550, .unset]) rfl (Yo.goto Xy564.here hx (pc0 := 313) (pc' := 333) rfl (hb hby at_313) (by decide) (by decide) (Yo.aload Xy564.here hx (hb hby at_333) rfl rfl k)))))) ?_
            have ry565 := ((ry504.keep Kcy537).keep Kcy550)
            have ry566 := ((ry508.keep Kcy537 (ninS ney224_1 (ninS ney224_2 (ninS ney527 (ninS ney528 nin0))))).keep Kcy550 (ninS (Ne.symm ney506) (ninS (Ne.symm ney507) (ninS ney549 nin0))))
            have ry567 := (ry545.keep Kcy550 (ninS (Ne.symm ney506) (ninS (Ne.symm ney507) (ninS ney549 nin0))))
            have ry568 := ((ry511.keep Kcy537).keep Kcy550)
            have ry569 := (fy537_0.keep Kcy550 (ninS (Ne.symm ney323) (ninS (Ne.symm ney325) (ninS ney533 nin0))))
            have ry570 := (fy537_1.keep Kcy550 (ninS (Ne.symm ney323) (ninS (Ne.symm ney325) (ninS ney533 nin0))))
            have ry571 := (fy537_2.keep Kcy550 (ninS (Ne.symm ney323) (ninS (Ne.symm ney325) (ninS ney533 nin0))))
            have ry572 := (fy537_3.keep Kcy550 (ninS (Ne.symm ney324) (ninS (Ne.symm ney326) (ninS ney534 nin0))))
            obtain ⟨cqy573, kqy573, qy573a, qy573b, qy573c⟩ := isOf hZ eqy564 ry565
            obtain ⟨_, Ty573, Lcy573, Xy573, hQy573, sty573⟩ := pack (Xy564.virtualBack hx (y := n5) (z := n5) hown (mvT hZ (W_ hw 28)) (mvT hZ (W_ hw 29)) (notFace_of_selects (args := #[]) (mvT hZ (W_ hw 31))) (mvT hZ (W_ hw 31)) (mvT hZ (W_ hw 30)) (by decide) (backOf (W := 0) (rmes1 l Z a0 hw [] by218 ao_y219 ko_y219 by224 bo_y224 ab_y224 kb_y224 (AA + BB) (own_app (own_app [(.int 0), (.int 0), (.int 0), (.int 0), (.int 0), (.int 0), (.int 0), (.int 0), (.int 0), (.int 0), (.int 0), (.int 0), (.int 0), (.int 0), (.int 0), (.int 0)] XL (0 : Int32).toNatClampNeg AA.toNatClampNeg) YL AA.toNatClampNeg BB.toNatClampNeg) wc Ty550.heap n0 Zy550 ry565 fy550_0 fy550_1 fy550_2 fy550_3 ry553 ry566 ry551 ry567 ry568 ry569 ry570 ry571 ry572 ry563 gzy218 gzy219_0 gzy224 (own_66 (own_pi hA) (own_pi hB)) hwc ney219_0 (Ne.symm ney506) (Ne.symm ney507) (Ne.symm ney323) (Ne.symm ney325) (Ne.symm ney224_1) (Ne.symm ney324) (Ne.symm ney326) (Ne.symm ney224_2)) hZ (W_ hw 32) (W_ hw 3) (by decide) (by decide)) qy573a qy573c (g := (mkF m 335 #[iv p1, iv p2, iv p3, iv p4, rv by1, rv by5, iv AA, iv BB, iv 1, iv 1, iv LO, iv LI, rv by218, iv 0, rv by224, iv 1, rv by337, iv 1, iv 1, rv so_y550, .unset] [(.ref by218)])) rfl (by rw [hml]; rfl) (Steps.refl _) (argsL := []) (rest := []) (lenOf pd_1 rfl) rfl (lb rfl) (hb hby at_335) (fun _ _ => ⟨rfl, eqy564, (by decide : 12 + 2 ≤ _), (by decide : 71 + 10 ≤ _)⟩))
            obtain ⟨so_y573, nb_y573, kn_y573, rfl, bfy573_0, bfy573_1, Nqy573, Kcy573, fy573_0, fy573_1, fy573_2, fy573_3, fy573_4, fy573_5, fy573_6, fy573_7, fy573_8, ney573_0⟩ := hQy573
            have Ny573 := Fr.app Ny564 Nqy573
            have gzy573_0 : n0 ≤ so_y573 := Nat.le_trans Zy550 bfy573_0
            have szy573_0 : h0.size ≤ so_y573 := Nat.le_trans Ky550.1 bfy573_0
            have gzy573_1 : n0 ≤ nb_y573 := Nat.le_trans Zy550 bfy573_1
            have szy573_1 : h0.size ≤ nb_y573 := Nat.le_trans Ky550.1 bfy573_1
            have Zy573 := Nat.le_trans Zy550 Kcy573.1
            have Ky573 := Ky550.trans Kcy573 (allS (Or.inr szy218) (allS (Or.inr szy219_0) (allS (Or.inr szy224) all0)))
            refine Fin.step (sty573) ?_
            show Fin p e below s _ _ _ (Ty573.setTop (mkF m 338 #[iv p1, iv p2, iv p3, iv p4, rv by1, rv by5, iv AA, iv BB, iv 1, iv 1, iv LO, iv LI, rv by218, iv 0, rv by224, iv 1, rv by337, iv 1, iv 1, rv so_y550, .unset] [(.int 0)]))
            refine Fin.step (fun _ k => Yo.istore Xy573.here hx (hb hby at_338) rfl (l' := #[iv p1, iv p2, iv p3, iv p4, rv by1, rv by5, iv AA, iv BB, iv 1, iv 1, iv LO, iv LI, rv by218, iv 0, rv by224, iv 1, rv by337, iv 1, iv 1, iv 0, .unset]) rfl (Yo.iload Xy573.here hx (hb hby at_340) rfl (Yo.ifNo Xy573.here hx (hb hby at_342) rfl ((if0 _ _).trans (feq ((by decide) : ¬ ((1 : Int32) = (0 : Int32)))).1) (Yo.iload Xy573.here hx (hb hby at_345) rfl (Yo.ifNo Xy573.here hx (hb hby at_347) rfl ((if0 _ _).trans (teq ((by decide) : ((0 : Int32) = (0 : Int32)))).2) (Yo.iconst Xy573.here hx (hb hby at_350) (Yo.goto Xy573.here hx (pc0 := 351) (pc' := 355) rfl (hb hby at_351) (by decide) (by decide) (Yo.istore Xy573.here hx (hb hby at_355) rfl (l' := #[iv p1, iv p2, iv p3, iv p4, rv by1, rv by5, iv AA, iv BB, iv 1, iv 1, iv LO, iv LI, rv by218, iv 0, rv by224, iv 1, rv by337, iv 1, iv 1, iv 0, .unset]) rfl k)))))))) ?_
            refine Fin.step (fun _ k => Yo.aload Xy573.here hx (hb hby at_357) rfl rfl (Yo.ifnullNo Xy573.here hx (hb hby at_359) rfl (Yo.aload Xy573.here hx (hb hby at_362) rfl rfl k))) ?_
            obtain ⟨cqy574, kqy574, qy574a, qy574b, qy574c⟩ := isOf hZ rfl (ry553.keep Kcy573)
            obtain ⟨_, Ty574, Lcy574, Xy574, hQy574, sty574⟩ := pack (Xy573.virtualBack hx (y := n20) (z := n20) hown (mvT hZ (W_ hw 122)) (mvT hZ (W_ hw 123)) (notFace_of_selects (args := #[]) (mvT hZ (W_ hw 125))) (mvT hZ (W_ hw 125)) (mvT hZ (W_ hw 124)) (by decide) (backOf (W := 0) (rmg1 l Z a0 hw [] by224 so_y573 Ty573.heap n0 Zy573 fy573_4) hZ (W_ hw 126) (W_ hw 39) (by decide) (by decide)) qy574a qy574c (g := (mkF m 364 #[iv p1, iv p2, iv p3, iv p4, rv by1, rv by5, iv AA, iv BB, iv 1, iv 1, iv LO, iv LI, rv by218, iv 0, rv by224, iv 1, rv by337, iv 1, iv 1, iv 0, .unset] [(.ref by224)])) rfl (by rw [hml]; rfl) (Steps.refl _) (argsL := []) (rest := []) (lenOf pd_15 rfl) rfl (lb rfl) (hb hby at_364) (fun _ _ => ⟨rfl, rfl, (by decide : 14 + 0 ≤ _), (by decide : 81 + 0 ≤ _)⟩))
            obtain ⟨rfl, Nqy574, eqy574⟩ := hQy574
            have Ny574 := Fr.app Ny573 Nqy574
            refine Fin.step (sty574) ?_
            show Fin p e below s _ _ _ (Ty574.setTop (mkF m 367 #[iv p1, iv p2, iv p3, iv p4, rv by1, rv by5, iv AA, iv BB, iv 1, iv 1, iv LO, iv LI, rv by218, iv 0, rv by224, iv 1, rv by337, iv 1, iv 1, iv 0, .unset] [(.ref so_y573)]))
            refine Fin.step (fun _ k => Yo.astore Xy574.here hx (hb hby at_367) rfl rfl (l' := #[iv p1, iv p2, iv p3, iv p4, rv by1, rv by5, iv AA, iv BB, iv 1, iv 1, iv LO, iv LI, rv by218, iv 0, rv by224, iv 1, rv by337, iv 1, iv 1, iv 0, rv so_y573]) rfl (Yo.iload Xy574.here hx (hb hby at_369) rfl (Yo.iload Xy574.here hx (hb hby at_371) rfl (Yo.iadd Xy574.here hx (hb hby at_373) rfl k)))) ?_
            show Fin p e below s _ _ _ (Ty574.setTop (mkF m 374 #[iv p1, iv p2, iv p3, iv p4, rv by1, rv by5, iv AA, iv BB, iv 1, iv 1, iv LO, iv LI, rv by218, iv 0, rv by224, iv 1, rv by337, iv 1, iv 1, iv 0, rv so_y573] [(.int (AA + BB))]))
            refine Fin.step (fun _ k => Yo.iload Xy574.here hx (hb hby at_374) rfl (Yo.icmpNo Xy574.here hx (hb hby at_376) rfl (flt ((fun q => ho2 ((own_lim2 hLO (own_pi hB) (own_pi hA)).mpr q)) : ¬ (LO < (AA + BB)))).2.2.1 (Yo.iload Xy574.here hx (hb hby at_379) rfl (Yo.ifNo Xy574.here hx (hb hby at_381) rfl ((if0 _ _).trans (feq ((by decide) : ¬ ((1 : Int32) = (0 : Int32)))).1) (Yo.aload Xy574.here hx (hb hby at_384) rfl rfl (Yo.aload Xy574.here hx (hb hby at_386) rfl rfl (Yo.iload Xy574.here hx (hb hby at_388) rfl (Yo.aload Xy574.here hx (hb hby at_390) rfl rfl k)))))))) ?_
            refine Fin.step (fun _ k => Yo.iload Xy574.here hx (hb hby at_392) rfl k) ?_
            have ney575 := nlt (((((((((((nsV Vy1).wr Wy2).wr Wy3).wr Wy4).ext Ey5).wr Wy6).wr Wy7).wr Wy8).ext Ey218).keep Kcy219).keep Kcy220).lt bzy224
            have ry576 := (ry561.keep Kcy573 (ninS ney318 (ninS ney319 (ninS ney575 nin0))))
            have ney577 := nlt (((((((nsV Vy5).wr Wy6).wr Wy7).wr Wy8).ext Ey218).keep Kcy219).keep Kcy220).lt bzy224
            have ry578 := (ry557.keep Kcy573 (ninS ney516 (ninS ney517 (ninS ney577 nin0))))
            have ry579 := (Sta_keepW ry562 Kcy573 (allS (nsE ((((((((Ay218.keep Kcy219).keep Kcy220).keep Kcy224).keep Kcy329).keep Kcy334).keep Kcy337).keep Kcy537).keep Kcy550)) (allS ((((((((nsV fy219_3).keep Kcy220).keep Kcy224).keep Kcy329).keep Kcy334).keep Kcy337).keep Kcy537).keep Kcy550) (allS (nsE (((((fy224_4.keep Kcy329).keep Kcy334).keep Kcy337).keep Kcy537).keep Kcy550)) all0))))
            have ry580 := (Sta_keepW ry563 Kcy573 (allS (nsE ((((((((Ay218.keep Kcy219).keep Kcy220).keep Kcy224).keep Kcy329).keep Kcy334).keep Kcy337).keep Kcy537).keep Kcy550)) (allS ((((((((nsV fy219_3).keep Kcy220).keep Kcy224).keep Kcy329).keep Kcy334).keep Kcy337).keep Kcy537).keep Kcy550) (allS (nsE (((((fy224_4.keep Kcy329).keep Kcy334).keep Kcy337).keep Kcy537).keep Kcy550)) all0))))
            obtain ⟨_, Ty581, Lcy581, Xy581, hQy581, sty581⟩ := packS (Jvm.LawKit.callS Xy574 hx (y := n30) hown (mvT hZ (W_ hw 178)) (mvT hZ (W_ hw 179)) (mvT hZ (W_ hw 180)) (mvT hZ (W_ hw 181)) (by decide) (backOf (W := 0) (rmma l Z a0 hw [] so_y573 by1 AA by5 BB nb_y573 kn_y573 (AA + BB) (own_cp (own_app (own_app [(.int 0), (.int 0), (.int 0), (.int 0), (.int 0), (.int 0), (.int 0), (.int 0), (.int 0), (.int 0), (.int 0), (.int 0), (.int 0), (.int 0), (.int 0), (.int 0)] XL (0 : Int32).toNatClampNeg AA.toNatClampNeg) YL AA.toNatClampNeg BB.toNatClampNeg) (AA + BB).toNatClampNeg) ky1 XL ky5 YL fv wc Ty573.heap n0 Zy573 fy573_5 fy573_6 fy573_7 fy573_8 ry576 ry578 ry579 ry580 hfv hwc hX hY rfl (fun j u v => own_oko (own_pi hA) (own_pi hB) rfl hX hY u v)) hZ (W_ hw 181) (W_ hw 180) (by decide) (by decide)) (g := (mkF m 394 #[iv p1, iv p2, iv p3, iv p4, rv by1, rv by5, iv AA, iv BB, iv 1, iv 1, iv LO, iv LI, rv by218, iv 0, rv by224, iv 1, rv by337, iv 1, iv 1, iv 0, rv so_y573] [(.int BB), (.ref by5), (.int AA), (.ref by1), (.ref so_y573)])) rfl (by rw [hml]; rfl) (argsL := [(.ref so_y573), (.ref by1), (.int AA), (.ref by5), (.int BB)]) (rest := []) (lenOf pd_25 rfl) rfl (lb rfl) (hb hby at_394) (fun _ _ => ⟨rfl, eqy574, (by decide : 14 + 0 ≤ _), (by decide : 81 + 0 ≤ _)⟩))
            obtain ⟨rfl, Nqy581, eqy581⟩ := hQy581
            have Ny581 := Fr.app Ny574 Nqy581
            refine Fin.step (sty581) ?_
            show Fin p e below s _ _ _ (Ty581.setTop (mkF m 397 #[iv p1, iv p2, iv p3, iv p4, rv by1, rv by5, iv AA, iv BB, iv 1, iv 1, iv LO, iv LI, rv by218, iv 0, rv by224, iv 1, rv by337, iv 1, iv 1, iv 0, rv so_y573] [(.int 1)]))
            refine Fin.step (fun _ k => Yo.ifNo Xy581.here hx (hb hby at_397) rfl ((if0 _ _).trans (feq ((by decide) : ¬ ((1 : Int32) = (0 : Int32)))).1) (Yo.iconst Xy581.here hx (hb hby at_400) (Yo.goto Xy581.here hx (pc0 := 401) (pc' := 405) rfl (hb hby at_401) (by decide) (by decide) (Yo.istore Xy581.here hx (hb hby at_405) rfl (l' := #[iv p1, iv p2, iv p3, iv p4, rv by1, rv by5, iv AA, iv BB, iv 1, iv 1, iv LO, iv LI, rv by218, iv 0, rv by224, iv 1, rv by337, iv 1, iv 1, iv 0, rv so_y573]) rfl (Yo.goto Xy581.here hx (pc0 := 407) (pc' := 427) rfl (hb hby at_407) (by decide) (by decide) (Yo.iload Xy581.here hx (hb hby at_427) rfl k)))))) ?_
            refine Fin.retN Xy581 hx (t := .boolean) hret (by simp) hlk (hb hby at_429) (by decide) (by decide) ?_
            show Q0 Z p1 p2 p3 p4 fv gv wc h0 n0 _ Ty581.heap _
            rw [eqy581]
            exact ⟨rfl, Ny581, Ky573⟩
set_option maxRecDepth 65536 in
set_option maxHeartbeats 40000000 in
theorem comes_1 {Post : Tables → Env → Array Value → State → Outcome → State → Prop} (hpost : ∀ tb e args s v u, (limb_1_1.after args s (.returned v) u = true ∧ limb_1_2.after args s (.returned v) u = true ∧ True) → FrameEnd s (.returned v) u (Jvm.fieldLocs frame_1_writes args s ++ Jvm.arrayLocs frame_1_arrays args s ++ Jvm.staticLocs frame_1_statics s) 40 256 → Post tb e args s (.returned v) u) :
    ArmFor flags0 classFile x code maxLocals ret World_1 tables_1 room_1 Calls_1 rest_1 Pre_1 Post := by
  intro l hfl _ _ p e ha hc hk s m args below hf hA hF happ hP
  obtain ⟨hcalls, hrest, hpre⟩ := hP
  obtain ⟨-, -, -, hnamed, -, -, -, hat⟩ := (Spec.applies_iff hf).mp happ
  obtain ⟨hg, hn⟩ := and_e (Cond.before_iff.mp (show (Jvm.Cond.and given_1 narrow_1).before args s = true from hpre))
  obtain ⟨gc, gr0⟩ := and_e hg
  obtain ⟨ga0, gr1⟩ := and_e gr0
  obtain ⟨ga1, gr2⟩ := and_e gr1
  obtain ⟨ga2, gr3⟩ := and_e gr2
  have ga3 := gr3
  obtain ⟨w0, w1, w2, w3, rfl⟩ : ∃ w0 w1 w2 w3 : Value, args = #[w0, w1, w2, w3] := by
    have hs : args.size = 4 := by simpa [Cond.value, given_1] using gc
    obtain ⟨L⟩ := args
    match L, hs with
    | [w0, w1, w2, w3], _ => exact ⟨w0, w1, w2, w3, rfl⟩
  have hw := fun d (hd : d ∈ tables_1) => atoms_spec (ws := Jvm.Cond.code x code maxLocals ret :: tables_1) hat d (List.mem_cons_of_mem _ hd)
  have hfit : Fit s := fun {y c} hc i hi => by
    obtain ⟨ha, rfl⟩ := Array.getElem?_eq_some_iff.mp hc
    have q := List.all_eq_true.mp ((Array.all_eq_true_iff_forall_mem.mp hF) _ (Array.getElem_mem ha)) i (List.mem_range.mpr hi)
    simpa [Array.getElem?_eq_getElem hi] using q
  obtain ⟨hsets, hown0⟩ := atoms_of _ (rest_1_c_eq ▸ (show rest_1_c.before _ s = true from hrest))
  have hr0 := Cond.before_iff.mp hown0
  obtain ⟨i0, ei0⟩ := is_v ga0
  obtain rfl : w0 = (.int i0) := Option.some.inj ei0
  obtain ⟨i1, ei1⟩ := is_v ga1
  obtain rfl : w1 = (.int i1) := Option.some.inj ei1
  obtain ⟨i2, ei2⟩ := is_v ga2
  obtain rfl : w2 = (.int i2) := Option.some.inj ei2
  obtain ⟨i3, ei3⟩ := is_v ga3
  obtain rfl : w3 = (.int i3) := Option.some.inj ei3
  obtain ⟨wc, evc⟩ := is_v (Cond.before_iff.mp (hsets _ (List.mem_of_getElem? (i := 1) rfl)))
  have hcw := hsets _ (List.mem_of_getElem? (i := 2) rfl)
  have hwc : ¬ wc = 0 := gotF (Cond.eq_ints evc (Term.int_eval 0)) (not_v (Cond.before_iff.mp hcw))
  obtain ⟨fv, evf, hfv⟩ := isR_v (Cond.before_iff.mp (hsets _ (List.mem_of_getElem? (i := 8) rfl)))
  have HS1 := Sta.start evc (Or.inl (hsets _ (List.mem_of_getElem? (i := 0) rfl)))
  have HS2 := Sta.start evf (Or.inl (hsets _ (List.mem_of_getElem? (i := 7) rfl)))
  obtain ⟨gv, evg, fg⟩ := static_fit hfit (W_ hw 98) (ty := (.object "java/util/function/BiFunction")) (by decide)
  have hgv := fit_R fg rfl
  have HS3 := Sta.start evg (Or.inr ⟨(W_ hw 97), (W_ hw 98)⟩)
  obtain ⟨n, o, h1, h2, h3, _, L, rfl, ⟨rfl, N, _⟩, hq⟩ := rm0 l s _ hw tables_1 i0 i1 i2 i3 fv gv wc s.heap s.heap.size (Nat.le_refl _) HS2 HS3 HS1 hfv hgv hwc p e ha hc hk s m _ below hf ((Spec.applies_iff_loose hf).mp happ).1 ⟨rfl, State.Warmed39.refl s, rfl⟩ trivial
  refine ⟨n, _, h1, h2, h3, hpost _ _ _ _ _ _ ⟨Cond.after_iff.mpr rfl, Cond.after_iff.mpr (eq_i res_at (Term.int_eval (1)) rfl), trivial⟩ ⟨hq.1, hq.2.1, (hq.2.2.sift fun y hy => Or.inr (N y hy)).mono (by decide) (by decide)⟩⟩
theorem main_1_1 : Claimed_1_1 := comes_1 fun _ _ _ _ _ _ h hF => ⟨h.1, hF⟩
theorem main_1_2 : Claimed_1_2 := comes_1 fun _ _ _ _ _ _ h hF => ⟨h.2.1, hF⟩
end Jvm.Pilot.@@N@@
namespace Jvm.Pilot.@@N@@
open Jvm Jvm.ClassFile Sem Op Lib Jvm.Free Jvm.Stand Jvm.Pilot.@@N@@.Jvm.D
/-! MADE BY PROGRAM (witnessworld.py) out of the Statement's table words and the real class files: 28 classes; the members and pool entries that the words name. The judged class is class 1, her method 3. -/
namespace start1
open Jvm.ClassFile
def u (s : String) : CpInfo := .utf8 (stringToUtf16 s)
/-- a pool by its gaps: so many unusable entries, then the entry; so many at the end -/
def gap : Nat → List CpInfo → List CpInfo
  | 0, r => r
  | n + 1, r => .unusable :: gap n r
def poolList (es : List (Nat × CpInfo)) (last : Nat) : List CpInfo := es.foldr (fun e r => gap e.1 (e.2 :: r)) (gap last [])
def pool (es : List (Nat × CpInfo)) (last : Nat) : Array CpInfo := ⟨poolList es last⟩
def fileOf (pool : Array CpInfo) (this : Nat) (attrs : Array Attribute := #[]) (ms : Array MethodInfo := #[]) (fl : Nat := 33) (sup : Nat := 0) (ifs : Array Nat := #[]) (fds : Array FieldInfo := #[]) : ClassFile where
  minorVersion := 0
  majorVersion := 65
  constantPool := pool
  accessFlags := fl
  thisClass := this
  superClass := sup
  interfaces := ifs
  fields := fds
  methods := ms
  attributes := attrs
def plain (name : String) (sup : Option ClassId) : Class where
  name := name
  kind := .ordinary
  loader := none
  accessFlags := 33
  super := sup
  interfaces := #[]
  cf := none
  fields := #[]
  methods := #[]
  instanceTypes := #[]
  staticTypes := #[]
  resolved := #[]
  callSites := []
  init := .initialized
  statics := none
  mirror := none

def pool0 : Array CpInfo := pool [(5, u "<init>"), (0, u "()V"), (1, .class_ 10), (1, u "java/lang/Object")] 113

def k0c0 : Code := { maxStack := 0, maxLocals := 1, code := object_method_1_code, exceptionTable := #[], attributes := #[] }
def k0m0 : Method := { name := "<init>", desc := "()V", sig := { parameters := [], returnType := none }, accessFlags := 1, code := some k0c0 }
/-- java/lang/Object -/
def k0 : Class := { plain "java/lang/Object" none with
  accessFlags := 33
  interfaces := #[]
  cf := some (fileOf pool0 8 #[] #[{ accessFlags := 1, nameIndex := 5, descriptorIndex := 6, attributes := #[] }] 33 0 #[] #[])
  fields := #[]
  methods := #[k0m0]
  instanceTypes := #[]
  staticTypes := #[]
  resolved := Array.replicate 124 none
  statics := none }

def pool1 : Array CpInfo := pool [(2, .class_ 4), (0, .nameAndType 5 6), (0, u "java/lang/Object"), (0, u "<init>"), (0, u "()V"), (0, .methodref 8 9), (0, .class_ 10), (0, .nameAndType 11 12), (0, u "java/lang/String"), (0, u "charAt"), (0, u "(I)C"), (0, .methodref 8 14), (0, .nameAndType 15 16), (0, u "length"), (0, u "()I"), (0, .methodref 18 19), (0, .class_ 20), (0, .nameAndType 21 22), (0, u "com/example/uzor/uzor/StringValuesEndElementPinLaw"), (0, u "at"), (0, u "(Ljava/lang/String;[CI[CII)Z"), (0, .class_ 24), (0, u "com/example/uzor/uzor/StringValues"), (0, .methodref 23 3), (0, .methodref 23 27), (0, .nameAndType 28 16), (0, u "startElement"), (0, .methodref 23 30), (0, .nameAndType 31 32), (0, u "build"), (0, u "(I)Lcom/example/uzor/uzor/StringValues$Value;"), (0, .methodref 23 34), (0, .nameAndType 35 36), (0, u "text"), (0, u "([CII)V"), (0, .methodref 23 38), (0, .nameAndType 39 16), (0, u "endElement"), (0, .methodref 41 42), (0, .class_ 43), (0, .nameAndType 44 45), (0, u "com/example/uzor/uzor/StringValues$Value"), (0, u "get"), (0, u "()Ljava/lang/String;"), (0, .methodref 18 47), (0, .nameAndType 48 49), (0, u "matches"), (0, u "(Ljava/lang/String;[CI[CI)Z"), (3, u "law"), (0, u "(IIII)Z")] 6

def k1m0 : Method := { name := "<init>", desc := "()V", sig := { parameters := [], returnType := none }, accessFlags := 1, code := none }
def k1c1 : Code := { maxStack := 3, maxLocals := 7, code := method_2_code, exceptionTable := #[], attributes := #[] }
def k1m1 : Method := { name := "at", desc := "(Ljava/lang/String;[CI[CII)Z", sig := { parameters := [(.object "java/lang/String"), (.array .char), .int, (.array .char), .int, .int], returnType := some .boolean }, accessFlags := 10, code := some k1c1 }
def k1c2 : Code := { maxStack := 6, maxLocals := 5, code := method_3_code, exceptionTable := #[], attributes := #[] }
def k1m2 : Method := { name := "matches", desc := "(Ljava/lang/String;[CI[CI)Z", sig := { parameters := [(.object "java/lang/String"), (.array .char), .int, (.array .char), .int], returnType := some .boolean }, accessFlags := 10, code := some k1c2 }
def k1c3 : Code := { maxStack := 5, maxLocals := 21, code := code, exceptionTable := #[], attributes := #[] }
def k1m3 : Method := { name := "law", desc := "(IIII)Z", sig := { parameters := [.int, .int, .int, .int], returnType := some .boolean }, accessFlags := 9, code := some k1c3 }
/-- com/example/uzor/uzor/StringValuesEndElementPinLaw -/
def k1 : Class := { plain "com/example/uzor/uzor/StringValuesEndElementPinLaw" (some 0) with
  accessFlags := 49
  interfaces := #[]
  cf := some (fileOf pool1 18 #[] #[{ accessFlags := 1, nameIndex := 5, descriptorIndex := 6, attributes := #[] }, { accessFlags := 10, nameIndex := 21, descriptorIndex := 22, attributes := #[] }, { accessFlags := 10, nameIndex := 48, descriptorIndex := 49, attributes := #[] }, { accessFlags := 9, nameIndex := 53, descriptorIndex := 54, attributes := #[] }] 49 2 #[] #[])
  fields := #[]
  methods := #[k1m0, k1m1, k1m2, k1m3]
  instanceTypes := #[]
  staticTypes := #[]
  resolved := Array.replicate 61 none
  statics := none }

def pool2 : Array CpInfo := pool [(1, .methodref 2 3), (0, .class_ 4), (0, .nameAndType 5 6), (0, u "java/lang/Object"), (0, u "<init>"), (0, u "()V"), (0, .class_ 8), (0, u "com/example/uzor/uzor/StringValues$Value"), (0, .fieldref 10 11), (0, .class_ 12), (0, .nameAndType 13 14), (0, u "com/example/uzor/uzor/StringValues"), (0, u "open"), (0, u "[Lcom/example/uzor/uzor/StringValues$Value;"), (0, .fieldref 10 16), (0, .nameAndType 17 18), (0, u "depth"), (0, u "I"), (0, .fieldref 10 20), (0, .nameAndType 21 18), (0, u "count"), (0, .methodref 7 23), (0, .nameAndType 24 25), (0, u "add"), (0, u "([CII)Z"), (0, .methodref 10 27), (0, .nameAndType 28 6), (0, u "leaveOutPast"), (0, .fieldref 7 30), (0, .nameAndType 31 32), (0, u "text"), (0, u "Ljava/lang/StringBuilder;"), (0, .methodref 34 35), (0, .class_ 36), (0, .nameAndType 37 38), (0, u "java/util/Arrays"), (0, u "fill"), (0, u "([Ljava/lang/Object;IILjava/lang/Object;)V"), (0, .fieldref 7 16), (0, .methodref 7 41), (0, .nameAndType 42 6), (0, u "end"), (3, .methodref 7 47), (0, .nameAndType 5 48), (0, u "(II)V"), (7, u "startElement"), (0, u "()I"), (0, u "([CII)V"), (3, u "endElement"), (0, u "build"), (0, u "(I)Lcom/example/uzor/uzor/StringValues$Value;")] 5

def k2c0 : Code := { maxStack := 2, maxLocals := 1, code := prog_34_method_1_code, exceptionTable := #[], attributes := #[] }
def k2m0 : Method := { name := "<init>", desc := "()V", sig := { parameters := [], returnType := none }, accessFlags := 0, code := some k2c0 }
def k2c1 : Code := { maxStack := 4, maxLocals := 1, code := prog_34_method_2_code, exceptionTable := #[], attributes := #[] }
def k2m1 : Method := { name := "startElement", desc := "()I", sig := { parameters := [], returnType := some .int }, accessFlags := 0, code := some k2c1 }
def k2c2 : Code := { maxStack := 5, maxLocals := 6, code := prog_34_method_3_code, exceptionTable := #[], attributes := #[] }
def k2m2 : Method := { name := "text", desc := "([CII)V", sig := { parameters := [(.array .char), .int, .int], returnType := none }, accessFlags := 0, code := some k2c2 }
def k2c3 : Code := { maxStack := 4, maxLocals := 3, code := prog_34_method_4_code, exceptionTable := #[], attributes := #[] }
def k2m3 : Method := { name := "leaveOutPast", desc := "()V", sig := { parameters := [], returnType := none }, accessFlags := 2, code := some k2c3 }
def k2c4 : Code := { maxStack := 4, maxLocals := 1, code := prog_34_method_5_code, exceptionTable := #[], attributes := #[] }
def k2m4 : Method := { name := "endElement", desc := "()I", sig := { parameters := [], returnType := some .int }, accessFlags := 0, code := some k2c4 }
def k2c5 : Code := { maxStack := 5, maxLocals := 3, code := prog_34_method_6_code, exceptionTable := #[], attributes := #[] }
def k2m5 : Method := { name := "build", desc := "(I)Lcom/example/uzor/uzor/StringValues$Value;", sig := { parameters := [.int], returnType := some (.object "com/example/uzor/uzor/StringValues$Value") }, accessFlags := 0, code := some k2c5 }
/-- com/example/uzor/uzor/StringValues -/
def k2 : Class := { plain "com/example/uzor/uzor/StringValues" (some 0) with
  accessFlags := 48
  interfaces := #[]
  cf := some (fileOf pool2 10 #[.nestMembers #[7]] #[{ accessFlags := 0, nameIndex := 5, descriptorIndex := 6, attributes := #[] }, { accessFlags := 0, nameIndex := 56, descriptorIndex := 57, attributes := #[] }, { accessFlags := 0, nameIndex := 31, descriptorIndex := 58, attributes := #[] }, { accessFlags := 2, nameIndex := 28, descriptorIndex := 6, attributes := #[] }, { accessFlags := 0, nameIndex := 62, descriptorIndex := 57, attributes := #[] }, { accessFlags := 0, nameIndex := 63, descriptorIndex := 64, attributes := #[] }] 48 2 #[] #[{ accessFlags := 2, nameIndex := 13, descriptorIndex := 14, attributes := #[] }, { accessFlags := 2, nameIndex := 21, descriptorIndex := 18, attributes := #[] }, { accessFlags := 2, nameIndex := 17, descriptorIndex := 18, attributes := #[] }])
  fields := #[{ name := "open", type := (.array (.object "com/example/uzor/uzor/StringValues$Value")), accessFlags := 2, slot := 0, constantValue := 0 }, { name := "count", type := .int, accessFlags := 2, slot := 1, constantValue := 0 }, { name := "depth", type := .int, accessFlags := 2, slot := 2, constantValue := 0 }]
  methods := #[k2m0, k2m1, k2m2, k2m3, k2m4, k2m5]
  instanceTypes := #[(.array (.object "com/example/uzor/uzor/StringValues$Value")), .int, .int]
  staticTypes := #[]
  resolved := (Array.replicate 70 none).setIfInBounds 7 (some (.cls 4)) |>.setIfInBounds 22 (some (.method ⟨4, 1⟩)) |>.setIfInBounds 29 (some (.field 4 2)) |>.setIfInBounds 39 (some (.field 4 0)) |>.setIfInBounds 40 (some (.method ⟨4, 2⟩)) |>.setIfInBounds 46 (some (.method ⟨4, 0⟩))
  statics := none }

def pool3 : Array CpInfo := pool [(1, .class_ 2), (0, u "java/util/function/Supplier"), (0, .class_ 4), (0, u "java/lang/Object")] 9

/-- java/util/function/Supplier -/
def k3 : Class := { plain "java/util/function/Supplier" (some 0) with
  accessFlags := 1537
  interfaces := #[]
  cf := some (fileOf pool3 1 #[] #[] 1537 3 #[] #[])
  fields := #[]
  methods := #[]
  instanceTypes := #[]
  staticTypes := #[]
  resolved := Array.replicate 14 none
  statics := none }

def pool4 : Array CpInfo := pool [(1, .methodref 2 3), (0, .class_ 4), (0, .nameAndType 5 6), (0, u "java/lang/Object"), (0, u "<init>"), (0, u "()V"), (0, .class_ 8), (0, u "java/lang/StringBuilder"), (0, .methodref 7 3), (0, .fieldref 11 12), (0, .class_ 13), (0, .nameAndType 14 15), (0, u "com/example/uzor/uzor/StringValues$Value"), (0, u "text"), (0, u "Ljava/lang/StringBuilder;"), (0, .fieldref 11 17), (0, .nameAndType 18 19), (0, u "depth"), (0, u "I"), (0, .fieldref 11 21), (0, .nameAndType 22 19), (0, u "limit"), (0, .methodref 7 24), (0, .nameAndType 25 26), (0, u "length"), (0, u "()I"), (0, .methodref 7 28), (0, .nameAndType 29 30), (0, u "append"), (0, u "([CII)Ljava/lang/StringBuilder;"), (0, .methodref 7 32), (0, .nameAndType 33 34), (0, u "toString"), (0, u "()Ljava/lang/String;"), (0, .fieldref 11 36), (0, .nameAndType 37 38), (0, u "value"), (0, u "Ljava/lang/String;"), (2, u "get"), (0, .class_ 43), (0, u "java/util/function/Supplier"), (0, u "(II)V"), (2, u "add"), (0, u "([CII)Z"), (1, u "end"), (6, .class_ 58), (0, u "com/example/uzor/uzor/StringValues")] 2

def k4c0 : Code := { maxStack := 3, maxLocals := 3, code := prog_35_method_1_code, exceptionTable := #[], attributes := #[] }
def k4m0 : Method := { name := "<init>", desc := "(II)V", sig := { parameters := [.int, .int], returnType := none }, accessFlags := 2, code := some k4c0 }
def k4c1 : Code := { maxStack := 4, maxLocals := 4, code := prog_35_method_2_code, exceptionTable := #[], attributes := #[] }
def k4m1 : Method := { name := "add", desc := "([CII)Z", sig := { parameters := [(.array .char), .int, .int], returnType := some .boolean }, accessFlags := 2, code := some k4c1 }
def k4c2 : Code := { maxStack := 2, maxLocals := 1, code := prog_35_method_3_code, exceptionTable := #[], attributes := #[] }
def k4m2 : Method := { name := "end", desc := "()V", sig := { parameters := [], returnType := none }, accessFlags := 2, code := some k4c2 }
def k4c3 : Code := { maxStack := 1, maxLocals := 1, code := prog_35_method_4_code, exceptionTable := #[], attributes := #[] }
def k4m3 : Method := { name := "get", desc := "()Ljava/lang/String;", sig := { parameters := [], returnType := some (.object "java/lang/String") }, accessFlags := 1, code := some k4c3 }
/-- com/example/uzor/uzor/StringValues$Value -/
def k4 : Class := { plain "com/example/uzor/uzor/StringValues$Value" (some 0) with
  accessFlags := 48
  interfaces := #[3]
  cf := some (fileOf pool4 11 #[.nestHost 57] #[{ accessFlags := 2, nameIndex := 5, descriptorIndex := 44, attributes := #[] }, { accessFlags := 2, nameIndex := 47, descriptorIndex := 48, attributes := #[] }, { accessFlags := 2, nameIndex := 50, descriptorIndex := 6, attributes := #[] }, { accessFlags := 1, nameIndex := 41, descriptorIndex := 34, attributes := #[] }] 48 2 #[42] #[{ accessFlags := 18, nameIndex := 18, descriptorIndex := 19, attributes := #[] }, { accessFlags := 18, nameIndex := 22, descriptorIndex := 19, attributes := #[] }, { accessFlags := 2, nameIndex := 14, descriptorIndex := 15, attributes := #[] }, { accessFlags := 2, nameIndex := 37, descriptorIndex := 38, attributes := #[] }])
  fields := #[{ name := "depth", type := .int, accessFlags := 18, slot := 0, constantValue := 0 }, { name := "limit", type := .int, accessFlags := 18, slot := 1, constantValue := 0 }, { name := "text", type := (.object "java/lang/StringBuilder"), accessFlags := 2, slot := 2, constantValue := 0 }, { name := "value", type := (.object "java/lang/String"), accessFlags := 2, slot := 3, constantValue := 0 }]
  methods := #[k4m0, k4m1, k4m2, k4m3]
  instanceTypes := #[.int, .int, (.object "java/lang/StringBuilder"), (.object "java/lang/String")]
  staticTypes := #[]
  resolved := Array.replicate 61 none
  statics := none }

def pool5 : Array CpInfo := pool [(1, .class_ 2), (0, u "java/lang/Appendable"), (0, .class_ 4), (0, u "java/lang/Object")] 9

/-- java/lang/Appendable -/
def k5 : Class := { plain "java/lang/Appendable" (some 0) with
  accessFlags := 1537
  interfaces := #[]
  cf := some (fileOf pool5 1 #[] #[] 1537 3 #[] #[])
  fields := #[]
  methods := #[]
  instanceTypes := #[]
  staticTypes := #[]
  resolved := Array.replicate 14 none
  statics := none }

def pool6 : Array CpInfo := pool [(2, .class_ 4), (1, u "java/lang/CharSequence"), (42, .class_ 48), (0, u "java/lang/CharSequence$1CodePointIterator"), (10, .class_ 60), (0, u "java/lang/CharSequence$1CharIterator"), (5, .class_ 67), (0, u "java/lang/Object")] 63

/-- java/lang/CharSequence -/
def k6 : Class := { plain "java/lang/CharSequence" (some 0) with
  accessFlags := 1537
  interfaces := #[]
  cf := some (fileOf pool6 2 #[.nestMembers #[47, 59]] #[] 1537 66 #[] #[])
  fields := #[]
  methods := #[]
  instanceTypes := #[]
  staticTypes := #[]
  resolved := Array.replicate 131 none
  statics := none }

def pool7 : Array CpInfo := pool [(1, .class_ 2), (0, u "java/lang/String"), (0, .methodref 4 5), (0, .class_ 6), (0, .nameAndType 7 8), (0, u "java/lang/Object"), (0, u "<init>"), (0, u "()V"), (1, .class_ 12), (1, u "java/lang/AbstractStringBuilder"), (0, u "EMPTYVALUE"), (0, u "[B"), (0, .fieldref 10 16), (0, .nameAndType 17 14), (0, u "value"), (0, .fieldref 1 19), (0, .nameAndType 20 21), (0, u "COMPACT_STRINGS"), (0, u "Z"), (0, .fieldref 10 23), (0, .nameAndType 24 25), (0, u "coder"), (0, u "B"), (8, u "length"), (0, u "()I"), (9, u "append"), (2, .class_ 49), (0, u "java/lang/CharSequence"), (25, u "maybeLatin1"), (3, .fieldref 10 80), (0, .nameAndType 81 82), (0, u "count"), (0, u "I"), (0, .methodref 10 84), (0, .nameAndType 85 86), (0, u "isLatin1"), (0, u "()Z"), (1, .class_ 90), (1, u "java/lang/StringLatin1"), (9, .methodref 10 101), (0, .nameAndType 102 103), (0, u "ensureCapacityInternal"), (0, u "(I)V"), (57, .methodref 162 163), (0, .class_ 164), (0, .nameAndType 165 166), (0, u "jdk/internal/util/Preconditions"), (0, u "checkFromToIndex"), (0, u "(IIILjava/util/function/BiFunction;)I"), (15, u "Ljava/util/function/BiFunction;"), (0, .fieldref 162 184), (0, .nameAndType 185 182), (0, u "IOOBE_FORMATTER"), (5, .methodref 88 192), (0, .nameAndType 193 194), (0, u "canEncode"), (0, u "(C)Z"), (39, u "appendChars"), (4, .methodref 10 240), (0, .nameAndType 234 241), (0, u "([CII)V"), (161, u "()[B"), (40, .class_ 445), (0, u "java/lang/Appendable"), (60, u "([CII)Ljava/lang/AbstractStringBuilder;"), (45, u "getValue")] 56

def k7m0 : Method := { name := "<init>", desc := "()V", sig := { parameters := [], returnType := none }, accessFlags := 0, code := none }
def k7c1 : Code := { maxStack := 2, maxLocals := 2, code := jdk_68_method_2_code, exceptionTable := #[], attributes := #[] }
def k7m1 : Method := { name := "<init>", desc := "(I)V", sig := { parameters := [.int], returnType := none }, accessFlags := 0, code := some k7c1 }
def k7c2 : Code := { maxStack := 1, maxLocals := 1, code := jdk_68_method_6_code, exceptionTable := #[], attributes := #[] }
def k7m2 : Method := { name := "length", desc := "()I", sig := { parameters := [], returnType := some .int }, accessFlags := 1, code := some k7c2 }
def k7c3 : Code := { maxStack := 4, maxLocals := 3, code := jdk_68_method_9_code, exceptionTable := #[], attributes := #[] }
def k7m3 : Method := { name := "ensureCapacityInternal", desc := "(I)V", sig := { parameters := [.int], returnType := none }, accessFlags := 2, code := some k7c3 }
def k7c4 : Code := { maxStack := 4, maxLocals := 5, code := jdk_68_method_29_code, exceptionTable := #[], attributes := #[] }
def k7m4 : Method := { name := "append", desc := "([CII)Ljava/lang/AbstractStringBuilder;", sig := { parameters := [(.array .char), .int, .int], returnType := some (.object "java/lang/AbstractStringBuilder") }, accessFlags := 1, code := some k7c4 }
def k7c5 : Code := { maxStack := 1, maxLocals := 1, code := jdk_68_method_64_code, exceptionTable := #[], attributes := #[] }
def k7m5 : Method := { name := "getValue", desc := "()[B", sig := { parameters := [], returnType := some (.array .byte) }, accessFlags := 16, code := some k7c5 }
def k7c6 : Code := { maxStack := 1, maxLocals := 1, code := jdk_68_method_68_code, exceptionTable := #[], attributes := #[] }
def k7m6 : Method := { name := "isLatin1", desc := "()Z", sig := { parameters := [], returnType := some .boolean }, accessFlags := 16, code := some k7c6 }
def k7c7 : Code := { maxStack := 5, maxLocals := 9, code := jdk_68_method_74_code, exceptionTable := #[], attributes := #[] }
def k7m7 : Method := { name := "appendChars", desc := "([CII)V", sig := { parameters := [(.array .char), .int, .int], returnType := none }, accessFlags := 18, code := some k7c7 }
/-- java/lang/AbstractStringBuilder -/
def k7 : Class := { plain "java/lang/AbstractStringBuilder" (some 0) with
  accessFlags := 1056
  interfaces := #[5, 6]
  cf := some (fileOf pool7 10 #[] #[{ accessFlags := 0, nameIndex := 7, descriptorIndex := 8, attributes := #[] }, { accessFlags := 0, nameIndex := 7, descriptorIndex := 103, attributes := #[] }, { accessFlags := 1, nameIndex := 34, descriptorIndex := 35, attributes := #[] }, { accessFlags := 2, nameIndex := 102, descriptorIndex := 103, attributes := #[] }, { accessFlags := 1, nameIndex := 45, descriptorIndex := 506, attributes := #[] }, { accessFlags := 16, nameIndex := 552, descriptorIndex := 403, attributes := #[] }, { accessFlags := 16, nameIndex := 85, descriptorIndex := 86, attributes := #[] }, { accessFlags := 18, nameIndex := 234, descriptorIndex := 241, attributes := #[] }] 1056 4 #[444, 48] #[{ accessFlags := 0, nameIndex := 17, descriptorIndex := 14, attributes := #[] }, { accessFlags := 0, nameIndex := 24, descriptorIndex := 25, attributes := #[] }, { accessFlags := 0, nameIndex := 75, descriptorIndex := 21, attributes := #[] }, { accessFlags := 0, nameIndex := 81, descriptorIndex := 82, attributes := #[] }, { accessFlags := 26, nameIndex := 13, descriptorIndex := 14, attributes := #[] }])
  fields := #[{ name := "value", type := (.array .byte), accessFlags := 0, slot := 0, constantValue := 0 }, { name := "coder", type := .byte, accessFlags := 0, slot := 1, constantValue := 0 }, { name := "maybeLatin1", type := .boolean, accessFlags := 0, slot := 2, constantValue := 0 }, { name := "count", type := .int, accessFlags := 0, slot := 3, constantValue := 0 }, { name := "EMPTYVALUE", type := (.array .byte), accessFlags := 26, slot := 0, constantValue := 0 }]
  methods := #[k7m0, k7m1, k7m2, k7m3, k7m4, k7m5, k7m6, k7m7]
  instanceTypes := #[(.array .byte), .byte, .boolean, .int]
  staticTypes := #[(.array .byte)]
  resolved := Array.replicate 609 none
  statics := none }

def pool8 : Array CpInfo := pool [(1, .class_ 2), (0, u "java/io/Serializable"), (0, .class_ 4), (0, u "java/lang/Object")] 2

/-- java/io/Serializable -/
def k8 : Class := { plain "java/io/Serializable" (some 0) with
  accessFlags := 1537
  interfaces := #[]
  cf := some (fileOf pool8 1 #[] #[] 1537 3 #[] #[])
  fields := #[]
  methods := #[]
  instanceTypes := #[]
  staticTypes := #[]
  resolved := Array.replicate 7 none
  statics := none }

def pool9 : Array CpInfo := pool [(1, .class_ 2), (0, u "java/lang/Comparable"), (0, .class_ 4), (0, u "java/lang/Object")] 7

/-- java/lang/Comparable -/
def k9 : Class := { plain "java/lang/Comparable" (some 0) with
  accessFlags := 1537
  interfaces := #[]
  cf := some (fileOf pool9 1 #[] #[] 1537 3 #[] #[])
  fields := #[]
  methods := #[]
  instanceTypes := #[]
  staticTypes := #[]
  resolved := Array.replicate 12 none
  statics := none }

def pool10 : Array CpInfo := pool [(1, .methodref 2 3), (0, .class_ 4), (0, .nameAndType 5 6), (0, u "java/lang/AbstractStringBuilder"), (0, u "<init>"), (0, u "(I)V"), (11, .class_ 20), (1, u "java/lang/String"), (3, .class_ 26), (1, u "java/lang/StringBuilder"), (0, u "append"), (16, .methodref 2 45), (0, .nameAndType 27 46), (0, u "([CII)Ljava/lang/AbstractStringBuilder;"), (90, .methodref 18 138), (0, .nameAndType 5 139), (0, u "(Ljava/lang/StringBuilder;)V"), (5, u "()V"), (10, u "()I"), (135, u "([CII)Ljava/lang/StringBuilder;"), (50, .methodref 2 344), (0, .nameAndType 345 156), (0, u "length"), (3, .class_ 350), (0, u "java/lang/Appendable"), (0, .class_ 352), (0, u "java/io/Serializable"), (0, .class_ 354), (0, u "java/lang/Comparable"), (0, .class_ 356), (0, u "java/lang/CharSequence"), (0, u "serialVersionUID"), (0, u "J"), (40, u "toString"), (0, u "()Ljava/lang/String;")] 21

def k10c0 : Code := { maxStack := 2, maxLocals := 1, code := jdk_67_method_1_code, exceptionTable := #[], attributes := #[] }
def k10m0 : Method := { name := "<init>", desc := "()V", sig := { parameters := [], returnType := none }, accessFlags := 1, code := some k10c0 }
def k10c1 : Code := { maxStack := 4, maxLocals := 4, code := jdk_67_method_12_code, exceptionTable := #[], attributes := #[] }
def k10m1 : Method := { name := "append", desc := "([CII)Ljava/lang/StringBuilder;", sig := { parameters := [(.array .char), .int, .int], returnType := some (.object "java/lang/StringBuilder") }, accessFlags := 1, code := some k10c1 }
def k10c2 : Code := { maxStack := 3, maxLocals := 1, code := jdk_67_method_42_code, exceptionTable := #[], attributes := #[] }
def k10m2 : Method := { name := "toString", desc := "()Ljava/lang/String;", sig := { parameters := [], returnType := some (.object "java/lang/String") }, accessFlags := 1, code := some k10c2 }
def k10c3 : Code := { maxStack := 1, maxLocals := 1, code := jdk_67_method_93_code, exceptionTable := #[], attributes := #[] }
def k10m3 : Method := { name := "length", desc := "()I", sig := { parameters := [], returnType := some .int }, accessFlags := 4161, code := some k10c3 }
/-- java/lang/StringBuilder -/
def k10 : Class := { plain "java/lang/StringBuilder" (some 7) with
  accessFlags := 49
  interfaces := #[5, 8, 9, 6]
  cf := some (fileOf pool10 24 #[] #[{ accessFlags := 1, nameIndex := 5, descriptorIndex := 145, attributes := #[] }, { accessFlags := 1, nameIndex := 27, descriptorIndex := 292, attributes := #[] }, { accessFlags := 1, nameIndex := 399, descriptorIndex := 400, attributes := #[] }, { accessFlags := 4161, nameIndex := 345, descriptorIndex := 156, attributes := #[] }] 49 2 #[349, 351, 353, 355] #[{ accessFlags := 24, nameIndex := 357, descriptorIndex := 358, attributes := #[] }])
  fields := #[{ name := "serialVersionUID", type := .long, accessFlags := 24, slot := 0, constantValue := 0 }]
  methods := #[k10m0, k10m1, k10m2, k10m3]
  instanceTypes := #[(.array .byte), .byte, .boolean, .int]
  staticTypes := #[.long]
  resolved := Array.replicate 422 none
  statics := none }

def pool11 : Array CpInfo := pool [(1, .class_ 2), (0, u "java/lang/constant/Constable"), (0, .class_ 4), (0, u "java/lang/Object")] 6

/-- java/lang/constant/Constable -/
def k11 : Class := { plain "java/lang/constant/Constable" (some 0) with
  accessFlags := 1537
  interfaces := #[]
  cf := some (fileOf pool11 1 #[] #[] 1537 3 #[] #[])
  fields := #[]
  methods := #[]
  instanceTypes := #[]
  staticTypes := #[]
  resolved := Array.replicate 11 none
  statics := none }

def pool12 : Array CpInfo := pool [(1, .class_ 2), (0, u "java/lang/constant/ConstantDesc"), (0, .class_ 4), (0, u "java/lang/Object")] 32

/-- java/lang/constant/ConstantDesc -/
def k12 : Class := { plain "java/lang/constant/ConstantDesc" (some 0) with
  accessFlags := 1537
  interfaces := #[]
  cf := some (fileOf pool12 1 #[] #[] 1537 3 #[] #[])
  fields := #[]
  methods := #[]
  instanceTypes := #[]
  staticTypes := #[]
  resolved := Array.replicate 37 none
  statics := none }

def pool13 : Array CpInfo := pool [(1, .methodref 2 3), (0, .class_ 4), (0, .nameAndType 5 6), (0, u "java/lang/Object"), (0, u "<init>"), (0, u "()V"), (2, .fieldref 10 11), (0, .class_ 12), (0, .nameAndType 13 14), (0, u "java/lang/String"), (0, u "value"), (0, u "[B"), (0, .fieldref 10 16), (0, .nameAndType 17 18), (0, u "coder"), (0, u "B"), (2, u "hash"), (0, u "I"), (2, u "hashIsZero"), (0, u "Z"), (11, .fieldref 10 39), (0, .nameAndType 40 26), (0, u "COMPACT_STRINGS"), (13, .methodref 55 56), (0, .class_ 57), (0, .nameAndType 58 59), (0, u "java/util/Arrays"), (0, u "copyOfRange"), (0, u "([BII)[B"), (47, .class_ 109), (1, u "java/lang/StringLatin1"), (32, u "()Z"), (191, u "()I"), (0, .methodref 10 336), (0, .nameAndType 17 337), (0, u "()B"), (2, u "()[B"), (22, u "([BI)C"), (27, u "(II)V"), (35, u "(I)C"), (61, .methodref 10 490), (0, .nameAndType 5 491), (0, u "(Ljava/lang/AbstractStringBuilder;Ljava/lang/Void;)V"), (0, .methodref 10 493), (0, .nameAndType 494 142), (0, u "isLatin1"), (0, .methodref 107 496), (0, .nameAndType 497 363), (0, u "charAt"), (3, u "checkIndex"), (4, .nameAndType 507 334), (0, u "length"), (41, .methodref 550 506), (0, .class_ 551), (0, u "java/lang/AbstractStringBuilder"), (0, .methodref 550 553), (0, .nameAndType 554 340), (0, u "getValue"), (20, .class_ 576), (0, u "java/lang/CharSequence"), (22, u "CASE_INSENSITIVE_ORDER"), (0, u "Ljava/util/Comparator;"), (446, .methodref 550 493), (5, .fieldref 1054 1055), (0, .class_ 1056), (0, .nameAndType 1057 1058), (0, u "jdk/internal/util/Preconditions"), (0, u "SIOOBE_FORMATTER"), (0, u "Ljava/util/function/BiFunction;"), (0, .methodref 1054 1060), (0, .nameAndType 501 1061), (0, u "(IILjava/util/function/BiFunction;)I"), (39, u "serialPersistentFields"), (0, u "[Ljava/io/ObjectStreamField;"), (0, .class_ 1104), (0, u "java/lang/String$CaseInsensitiveComparator"), (1, .class_ 1107), (0, u "java/io/Serializable"), (0, .class_ 1109), (0, u "java/lang/Comparable"), (0, .class_ 1111), (0, u "java/lang/constant/Constable"), (0, .class_ 1113), (0, u "java/lang/constant/ConstantDesc"), (2, u "serialVersionUID"), (0, u "J"), (3, u "REPL"), (0, u "C"), (2, u "LATIN1"), (1, u "UTF16"), (105, u "(Ljava/lang/StringBuilder;)V")] 217

def k13m0 : Method := { name := "<init>", desc := "()V", sig := { parameters := [], returnType := none }, accessFlags := 1, code := none }
def k13c1 : Code := { maxStack := 3, maxLocals := 2, code := jdk_42_method_53_code, exceptionTable := #[], attributes := #[] }
def k13m1 : Method := { name := "<init>", desc := "(Ljava/lang/StringBuilder;)V", sig := { parameters := [(.object "java/lang/StringBuilder")], returnType := none }, accessFlags := 1, code := some k13c1 }
def k13c2 : Code := { maxStack := 2, maxLocals := 1, code := jdk_42_method_54_code, exceptionTable := #[], attributes := #[] }
def k13m2 : Method := { name := "length", desc := "()I", sig := { parameters := [], returnType := some .int }, accessFlags := 1, code := some k13c2 }
def k13c3 : Code := { maxStack := 2, maxLocals := 2, code := jdk_42_method_56_code, exceptionTable := #[], attributes := #[] }
def k13m3 : Method := { name := "charAt", desc := "(I)C", sig := { parameters := [.int], returnType := some .char }, accessFlags := 1, code := some k13c3 }
def k13c4 : Code := { maxStack := 5, maxLocals := 5, code := jdk_42_method_150_code, exceptionTable := #[], attributes := #[] }
def k13m4 : Method := { name := "<init>", desc := "(Ljava/lang/AbstractStringBuilder;Ljava/lang/Void;)V", sig := { parameters := [(.object "java/lang/AbstractStringBuilder"), (.object "java/lang/Void")], returnType := none }, accessFlags := 0, code := some k13c4 }
def k13c5 : Code := { maxStack := 1, maxLocals := 1, code := jdk_42_method_152_code, exceptionTable := #[], attributes := #[] }
def k13m5 : Method := { name := "coder", desc := "()B", sig := { parameters := [], returnType := some .byte }, accessFlags := 0, code := some k13c5 }
def k13c6 : Code := { maxStack := 1, maxLocals := 1, code := jdk_42_method_154_code, exceptionTable := #[], attributes := #[] }
def k13m6 : Method := { name := "isLatin1", desc := "()Z", sig := { parameters := [], returnType := some .boolean }, accessFlags := 0, code := some k13c6 }
def k13c7 : Code := { maxStack := 3, maxLocals := 2, code := jdk_42_method_155_code, exceptionTable := #[], attributes := #[] }
def k13m7 : Method := { name := "checkIndex", desc := "(II)V", sig := { parameters := [.int, .int], returnType := none }, accessFlags := 8, code := some k13c7 }
/-- java/lang/String -/
def k13 : Class := { plain "java/lang/String" (some 0) with
  accessFlags := 49
  interfaces := #[8, 9, 6, 11, 12]
  cf := some (fileOf pool13 10 #[.nestMembers #[1103]] #[{ accessFlags := 1, nameIndex := 5, descriptorIndex := 6, attributes := #[] }, { accessFlags := 1, nameIndex := 5, descriptorIndex := 1233, attributes := #[] }, { accessFlags := 1, nameIndex := 507, descriptorIndex := 334, attributes := #[] }, { accessFlags := 1, nameIndex := 497, descriptorIndex := 427, attributes := #[] }, { accessFlags := 0, nameIndex := 5, descriptorIndex := 491, attributes := #[] }, { accessFlags := 0, nameIndex := 17, descriptorIndex := 337, attributes := #[] }, { accessFlags := 0, nameIndex := 494, descriptorIndex := 142, attributes := #[] }, { accessFlags := 8, nameIndex := 501, descriptorIndex := 391, attributes := #[] }] 49 2 #[1106, 1108, 575, 1110, 1112] #[{ accessFlags := 18, nameIndex := 13, descriptorIndex := 14, attributes := #[] }, { accessFlags := 18, nameIndex := 17, descriptorIndex := 18, attributes := #[] }, { accessFlags := 2, nameIndex := 21, descriptorIndex := 22, attributes := #[] }, { accessFlags := 2, nameIndex := 25, descriptorIndex := 26, attributes := #[] }, { accessFlags := 26, nameIndex := 1116, descriptorIndex := 1117, attributes := #[] }, { accessFlags := 24, nameIndex := 40, descriptorIndex := 26, attributes := #[] }, { accessFlags := 26, nameIndex := 1101, descriptorIndex := 1102, attributes := #[] }, { accessFlags := 26, nameIndex := 1121, descriptorIndex := 1122, attributes := #[] }, { accessFlags := 25, nameIndex := 599, descriptorIndex := 600, attributes := #[] }, { accessFlags := 24, nameIndex := 1125, descriptorIndex := 18, attributes := #[] }, { accessFlags := 24, nameIndex := 1127, descriptorIndex := 18, attributes := #[] }])
  fields := #[{ name := "value", type := (.array .byte), accessFlags := 18, slot := 0, constantValue := 0 }, { name := "coder", type := .byte, accessFlags := 18, slot := 1, constantValue := 0 }, { name := "hash", type := .int, accessFlags := 2, slot := 2, constantValue := 0 }, { name := "hashIsZero", type := .boolean, accessFlags := 2, slot := 3, constantValue := 0 }, { name := "serialVersionUID", type := .long, accessFlags := 26, slot := 0, constantValue := 0 }, { name := "COMPACT_STRINGS", type := .boolean, accessFlags := 24, slot := 1, constantValue := 0 }, { name := "serialPersistentFields", type := (.array (.object "java/io/ObjectStreamField")), accessFlags := 26, slot := 2, constantValue := 0 }, { name := "REPL", type := .char, accessFlags := 26, slot := 3, constantValue := 0 }, { name := "CASE_INSENSITIVE_ORDER", type := (.object "java/util/Comparator"), accessFlags := 25, slot := 4, constantValue := 0 }, { name := "LATIN1", type := .byte, accessFlags := 24, slot := 5, constantValue := 0 }, { name := "UTF16", type := .byte, accessFlags := 24, slot := 6, constantValue := 0 }]
  methods := #[k13m0, k13m1, k13m2, k13m3, k13m4, k13m5, k13m6, k13m7]
  instanceTypes := #[(.array .byte), .byte, .int, .boolean]
  staticTypes := #[.long, .boolean, (.array (.object "java/io/ObjectStreamField")), .char, (.object "java/util/Comparator"), .byte, .byte]
  resolved := Array.replicate 1451 none
  statics := some 0 }

def pool14 : Array CpInfo := pool [(2, .class_ 4), (1, u "java/lang/Object"), (0, u "<init>"), (0, u "()V"), (17, .class_ 26), (1, u "jdk/internal/util/Preconditions"), (6, u "checkIndex"), (13, u "checkFromToIndex"), (7, .class_ 56), (0, u "jdk/internal/util/Preconditions$4"), (57, .class_ 115), (0, u "jdk/internal/util/Preconditions$1"), (7, u "SIOOBE_FORMATTER"), (0, u "Ljava/util/function/BiFunction;"), (0, .class_ 126), (0, u "jdk/internal/util/Preconditions$2"), (3, u "AIOOBE_FORMATTER"), (0, .class_ 132), (0, u "jdk/internal/util/Preconditions$3"), (3, u "IOOBE_FORMATTER"), (41, u "(IILjava/util/function/BiFunction;)I"), (4, u "(IIILjava/util/function/BiFunction;)I")] 10

def k14m0 : Method := { name := "<init>", desc := "()V", sig := { parameters := [], returnType := none }, accessFlags := 1, code := none }
def k14c1 : Code := { maxStack := 3, maxLocals := 3, code := jdk_41_method_11_code, exceptionTable := #[], attributes := #[] }
def k14m1 : Method := { name := "checkIndex", desc := "(IILjava/util/function/BiFunction;)I", sig := { parameters := [.int, .int, (.object "java/util/function/BiFunction")], returnType := some .int }, accessFlags := 9, code := some k14c1 }
def k14c2 : Code := { maxStack := 4, maxLocals := 4, code := jdk_41_method_12_code, exceptionTable := #[], attributes := #[] }
def k14m2 : Method := { name := "checkFromToIndex", desc := "(IIILjava/util/function/BiFunction;)I", sig := { parameters := [.int, .int, .int, (.object "java/util/function/BiFunction")], returnType := some .int }, accessFlags := 9, code := some k14c2 }
/-- jdk/internal/util/Preconditions -/
def k14 : Class := { plain "jdk/internal/util/Preconditions" (some 0) with
  accessFlags := 33
  interfaces := #[]
  cf := some (fileOf pool14 24 #[.nestMembers #[55, 131, 125, 114]] #[{ accessFlags := 1, nameIndex := 5, descriptorIndex := 6, attributes := #[] }, { accessFlags := 9, nameIndex := 33, descriptorIndex := 178, attributes := #[] }, { accessFlags := 9, nameIndex := 47, descriptorIndex := 183, attributes := #[] }] 33 2 #[] #[{ accessFlags := 25, nameIndex := 123, descriptorIndex := 124, attributes := #[] }, { accessFlags := 25, nameIndex := 130, descriptorIndex := 124, attributes := #[] }, { accessFlags := 25, nameIndex := 136, descriptorIndex := 124, attributes := #[] }])
  fields := #[{ name := "SIOOBE_FORMATTER", type := (.object "java/util/function/BiFunction"), accessFlags := 25, slot := 0, constantValue := 0 }, { name := "AIOOBE_FORMATTER", type := (.object "java/util/function/BiFunction"), accessFlags := 25, slot := 1, constantValue := 0 }, { name := "IOOBE_FORMATTER", type := (.object "java/util/function/BiFunction"), accessFlags := 25, slot := 2, constantValue := 0 }]
  methods := #[k14m0, k14m1, k14m2]
  instanceTypes := #[]
  staticTypes := #[(.object "java/util/function/BiFunction"), (.object "java/util/function/BiFunction"), (.object "java/util/function/BiFunction")]
  resolved := Array.replicate 194 none
  statics := some 1 }

def pool15 : Array CpInfo := pool [(1, .class_ 2), (0, u "java/lang/String"), (1, .class_ 6), (1, u "java/lang/Object"), (0, u "<init>"), (0, u "()V"), (0, .methodref 1 10), (0, .nameAndType 11 12), (0, u "checkIndex"), (0, u "(II)V"), (1, .class_ 16), (1, u "java/lang/StringLatin1"), (36, u "([BI)C"), (36, u "canEncode"), (14, u "(C)Z"), (15, u "$assertionsDisabled"), (0, u "Z"), (98, .class_ 223), (1, u "java/lang/StringLatin1$LinesSpliterator"), (28, u "charAt"), (137, .class_ 391), (0, u "java/lang/StringLatin1$CharsSpliterator")] 3

def k15m0 : Method := { name := "<init>", desc := "()V", sig := { parameters := [], returnType := none }, accessFlags := 0, code := none }
def k15c1 : Code := { maxStack := 2, maxLocals := 2, code := jdk_43_method_2_code, exceptionTable := #[], attributes := #[] }
def k15m1 : Method := { name := "charAt", desc := "([BI)C", sig := { parameters := [(.array .byte), .int], returnType := some .char }, accessFlags := 9, code := some k15c1 }
def k15c2 : Code := { maxStack := 2, maxLocals := 1, code := jdk_43_method_3_code, exceptionTable := #[], attributes := #[] }
def k15m2 : Method := { name := "canEncode", desc := "(C)Z", sig := { parameters := [.char], returnType := some .boolean }, accessFlags := 9, code := some k15c2 }
/-- java/lang/StringLatin1 -/
def k15 : Class := { plain "java/lang/StringLatin1" (some 0) with
  accessFlags := 48
  interfaces := #[]
  cf := some (fileOf pool15 14 #[.nestMembers #[390, 221]] #[{ accessFlags := 0, nameIndex := 7, descriptorIndex := 8, attributes := #[] }, { accessFlags := 9, nameIndex := 252, descriptorIndex := 53, attributes := #[] }, { accessFlags := 9, nameIndex := 90, descriptorIndex := 105, attributes := #[] }] 48 4 #[] #[{ accessFlags := 4120, nameIndex := 121, descriptorIndex := 122, attributes := #[] }])
  fields := #[{ name := "$assertionsDisabled", type := .boolean, accessFlags := 4120, slot := 0, constantValue := 0 }]
  methods := #[k15m0, k15m1, k15m2]
  instanceTypes := #[]
  staticTypes := #[.boolean]
  resolved := Array.replicate 395 none
  statics := none }

def pool16 : Array CpInfo := pool [(2, .class_ 4), (1, u "java/lang/Object"), (0, u "<init>"), (0, u "()V"), (6, .methodref 14 15), (0, .class_ 16), (0, .nameAndType 17 18), (0, u "java/util/Arrays"), (0, u "rangeCheck"), (0, u "(III)V"), (55, .class_ 76), (1, u "java/util/Arrays$NaturalOrder"), (36, .class_ 115), (1, u "java/util/Arrays$LegacyMergeSort"), (1, u "Z"), (21, u "copyOfRange"), (10, .methodref 151 152), (0, .class_ 153), (0, .nameAndType 154 155), (0, u "java/lang/System"), (0, u "arraycopy"), (0, u "(Ljava/lang/Object;ILjava/lang/Object;II)V"), (148, .methodref 305 306), (0, .class_ 307), (0, .nameAndType 308 309), (0, u "java/lang/Math"), (0, u "min"), (0, u "(II)I"), (29, .methodref 14 340), (0, .nameAndType 341 342), (0, u "copyOfRangeByte"), (0, u "([BII)[B"), (0, .methodref 14 344), (0, .nameAndType 345 346), (0, u "checkLength"), (0, u "(II)V"), (28, .class_ 376), (0, u "java/util/Arrays$ArrayList"), (68, u "$assertionsDisabled"), (269, u "MIN_ARRAY_SORT_GRAN"), (0, u "I"), (2, u "INSERTIONSORT_THRESHOLD"), (120, u "fill"), (18, u "([Ljava/lang/Object;IILjava/lang/Object;)V"), (115, .class_ 976), (0, u "java/util/Arrays$ArrayItr")] 52

def k16m0 : Method := { name := "<init>", desc := "()V", sig := { parameters := [], returnType := none }, accessFlags := 2, code := none }
def k16c1 : Code := { maxStack := 4, maxLocals := 3, code := jdk_65_method_30_code, exceptionTable := #[], attributes := #[] }
def k16m1 : Method := { name := "rangeCheck", desc := "(III)V", sig := { parameters := [.int, .int, .int], returnType := none }, accessFlags := 8, code := some k16c1 }
def k16c2 : Code := { maxStack := 3, maxLocals := 5, code := jdk_65_method_118_code, exceptionTable := #[], attributes := #[] }
def k16m2 : Method := { name := "fill", desc := "([Ljava/lang/Object;IILjava/lang/Object;)V", sig := { parameters := [(.array (.object "java/lang/Object")), .int, .int, (.object "java/lang/Object")], returnType := none }, accessFlags := 9, code := some k16c2 }
def k16c3 : Code := { maxStack := 4, maxLocals := 2, code := jdk_65_method_131_code, exceptionTable := #[], attributes := #[] }
def k16m3 : Method := { name := "checkLength", desc := "(II)V", sig := { parameters := [.int, .int], returnType := none }, accessFlags := 10, code := some k16c3 }
def k16c4 : Code := { maxStack := 3, maxLocals := 3, code := jdk_65_method_132_code, exceptionTable := #[], attributes := #[] }
def k16m4 : Method := { name := "copyOfRange", desc := "([BII)[B", sig := { parameters := [(.array .byte), .int, .int], returnType := some (.array .byte) }, accessFlags := 9, code := some k16c4 }
def k16c5 : Code := { maxStack := 6, maxLocals := 5, code := jdk_65_method_133_code, exceptionTable := #[], attributes := #[] }
def k16m5 : Method := { name := "copyOfRangeByte", desc := "([BII)[B", sig := { parameters := [(.array .byte), .int, .int], returnType := some (.array .byte) }, accessFlags := 10, code := some k16c5 }
/-- java/util/Arrays -/
def k16 : Class := { plain "java/util/Arrays" (some 0) with
  accessFlags := 49
  interfaces := #[]
  cf := some (fileOf pool16 14 #[.nestMembers #[975, 375, 113, 74]] #[{ accessFlags := 2, nameIndex := 5, descriptorIndex := 6, attributes := #[] }, { accessFlags := 8, nameIndex := 17, descriptorIndex := 18, attributes := #[] }, { accessFlags := 9, nameIndex := 840, descriptorIndex := 859, attributes := #[] }, { accessFlags := 10, nameIndex := 345, descriptorIndex := 346, attributes := #[] }, { accessFlags := 9, nameIndex := 139, descriptorIndex := 342, attributes := #[] }, { accessFlags := 10, nameIndex := 341, descriptorIndex := 342, attributes := #[] }] 49 2 #[] #[{ accessFlags := 26, nameIndex := 715, descriptorIndex := 716, attributes := #[] }, { accessFlags := 26, nameIndex := 719, descriptorIndex := 716, attributes := #[] }, { accessFlags := 4120, nameIndex := 445, descriptorIndex := 117, attributes := #[] }])
  fields := #[{ name := "MIN_ARRAY_SORT_GRAN", type := .int, accessFlags := 26, slot := 0, constantValue := 0 }, { name := "INSERTIONSORT_THRESHOLD", type := .int, accessFlags := 26, slot := 1, constantValue := 0 }, { name := "$assertionsDisabled", type := .boolean, accessFlags := 4120, slot := 2, constantValue := 0 }]
  methods := #[k16m0, k16m1, k16m2, k16m3, k16m4, k16m5]
  instanceTypes := #[]
  staticTypes := #[.int, .int, .boolean]
  resolved := Array.replicate 1029 none
  statics := none }

def pool17 : Array CpInfo := pool [(1, .class_ 2), (0, u "java/lang/Math"), (1, .class_ 6), (1, u "java/lang/Object"), (0, u "<init>"), (0, u "()V"), (89, .class_ 100), (1, u "java/lang/Math$RandomNumberGeneratorHolder"), (71, u "negativeZeroFloatBits"), (0, u "J"), (2, u "negativeZeroDoubleBits"), (24, u "min"), (43, u "$assertionsDisabled"), (0, u "Z"), (88, u "(II)I"), (2, u "twoToTheDoubleScaleDown"), (0, u "D"), (4, u "twoToTheDoubleScaleUp"), (9, u "E"), (3, u "PI"), (2, u "TAU"), (2, u "DEGREES_TO_RADIANS"), (0, u "RADIANS_TO_DEGREES")] 94

def k17m0 : Method := { name := "<init>", desc := "()V", sig := { parameters := [], returnType := none }, accessFlags := 2, code := none }
def k17c1 : Code := { maxStack := 2, maxLocals := 2, code := jdk_29_method_69_code, exceptionTable := #[], attributes := #[] }
def k17m1 : Method := { name := "min", desc := "(II)I", sig := { parameters := [.int, .int], returnType := some .int }, accessFlags := 9, code := some k17c1 }
/-- java/lang/Math -/
def k17 : Class := { plain "java/lang/Math" (some 0) with
  accessFlags := 49
  interfaces := #[]
  cf := some (fileOf pool17 1 #[.nestMembers #[98]] #[{ accessFlags := 2, nameIndex := 7, descriptorIndex := 8, attributes := #[] }, { accessFlags := 9, nameIndex := 201, descriptorIndex := 335, attributes := #[] }] 49 4 #[] #[{ accessFlags := 25, nameIndex := 354, descriptorIndex := 339, attributes := #[] }, { accessFlags := 25, nameIndex := 358, descriptorIndex := 339, attributes := #[] }, { accessFlags := 25, nameIndex := 361, descriptorIndex := 339, attributes := #[] }, { accessFlags := 26, nameIndex := 364, descriptorIndex := 339, attributes := #[] }, { accessFlags := 26, nameIndex := 365, descriptorIndex := 339, attributes := #[] }, { accessFlags := 26, nameIndex := 172, descriptorIndex := 173, attributes := #[] }, { accessFlags := 26, nameIndex := 176, descriptorIndex := 173, attributes := #[] }, { accessFlags := 8, nameIndex := 344, descriptorIndex := 339, attributes := #[] }, { accessFlags := 8, nameIndex := 338, descriptorIndex := 339, attributes := #[] }, { accessFlags := 4120, nameIndex := 245, descriptorIndex := 246, attributes := #[] }])
  fields := #[{ name := "E", type := .double, accessFlags := 25, slot := 0, constantValue := 0 }, { name := "PI", type := .double, accessFlags := 25, slot := 1, constantValue := 0 }, { name := "TAU", type := .double, accessFlags := 25, slot := 2, constantValue := 0 }, { name := "DEGREES_TO_RADIANS", type := .double, accessFlags := 26, slot := 3, constantValue := 0 }, { name := "RADIANS_TO_DEGREES", type := .double, accessFlags := 26, slot := 4, constantValue := 0 }, { name := "negativeZeroFloatBits", type := .long, accessFlags := 26, slot := 5, constantValue := 0 }, { name := "negativeZeroDoubleBits", type := .long, accessFlags := 26, slot := 6, constantValue := 0 }, { name := "twoToTheDoubleScaleUp", type := .double, accessFlags := 8, slot := 7, constantValue := 0 }, { name := "twoToTheDoubleScaleDown", type := .double, accessFlags := 8, slot := 8, constantValue := 0 }, { name := "$assertionsDisabled", type := .boolean, accessFlags := 4120, slot := 9, constantValue := 0 }]
  methods := #[k17m0, k17m1]
  instanceTypes := #[]
  staticTypes := #[.double, .double, .double, .double, .double, .long, .long, .double, .double, .boolean]
  resolved := Array.replicate 460 none
  statics := none }

def pool18 : Array CpInfo := pool [(2, .class_ 4), (1, u "java/lang/Object"), (0, u "<init>"), (0, u "()V"), (1, .class_ 10), (1, u "java/lang/System"), (0, u "allowSecurityManager"), (0, u "I"), (16, u "cons"), (0, u "Ljava/io/Console;"), (77, .class_ 110), (1, u "java/lang/System$CallersHolder"), (43, u "initialErrStream"), (0, u "Ljava/io/PrintStream;"), (19, u "security"), (0, u "Ljava/lang/SecurityManager;"), (31, .class_ 209), (0, u "java/lang/System$1"), (7, u "props"), (0, u "Ljava/util/Properties;"), (2, u "lineSeparator"), (0, u "Ljava/lang/String;"), (96, .class_ 321), (1, u "java/lang/System$LoggerFinder"), (5, .class_ 328), (0, u "java/lang/System$Logger"), (67, u "err"), (2, u "out"), (91, u "notSupportedJnuEncoding"), (15, u "in"), (17, u "initialIn"), (0, u "Ljava/io/InputStream;"), (35, u "bootLayer"), (0, u "Ljava/lang/ModuleLayer;"), (99, .class_ 664), (0, u "java/lang/System$2"), (9, u "NEVER"), (2, u "MAYBE"), (49, u "arraycopy"), (0, u "(Ljava/lang/Object;ILjava/lang/Object;II)V"), (72, .class_ 802), (0, u "java/lang/System$Logger$Level")] 31

def k18m0 : Method := { name := "<init>", desc := "()V", sig := { parameters := [], returnType := none }, accessFlags := 2, code := none }
def k18m1 : Method := { name := "arraycopy", desc := "(Ljava/lang/Object;ILjava/lang/Object;II)V", sig := { parameters := [(.object "java/lang/Object"), .int, (.object "java/lang/Object"), .int, .int], returnType := none }, accessFlags := 265, code := none }
/-- java/lang/System -/
def k18 : Class := { plain "java/lang/System" (some 0) with
  accessFlags := 49
  interfaces := #[]
  cf := some (fileOf pool18 8 #[.nestMembers #[319, 327, 801, 108, 663, 208]] #[{ accessFlags := 2, nameIndex := 5, descriptorIndex := 6, attributes := #[] }, { accessFlags := 265, nameIndex := 727, descriptorIndex := 728, attributes := #[] }] 49 2 #[] #[{ accessFlags := 25, nameIndex := 507, descriptorIndex := 526, attributes := #[] }, { accessFlags := 25, nameIndex := 399, descriptorIndex := 155, attributes := #[] }, { accessFlags := 25, nameIndex := 396, descriptorIndex := 155, attributes := #[] }, { accessFlags := 10, nameIndex := 525, descriptorIndex := 526, attributes := #[] }, { accessFlags := 26, nameIndex := 674, descriptorIndex := 12, attributes := #[] }, { accessFlags := 26, nameIndex := 677, descriptorIndex := 12, attributes := #[] }, { accessFlags := 10, nameIndex := 11, descriptorIndex := 12, attributes := #[] }, { accessFlags := 74, nameIndex := 175, descriptorIndex := 176, attributes := #[] }, { accessFlags := 10, nameIndex := 491, descriptorIndex := 222, attributes := #[] }, { accessFlags := 74, nameIndex := 29, descriptorIndex := 30, attributes := #[] }, { accessFlags := 74, nameIndex := 154, descriptorIndex := 155, attributes := #[] }, { accessFlags := 10, nameIndex := 217, descriptorIndex := 218, attributes := #[] }, { accessFlags := 10, nameIndex := 221, descriptorIndex := 222, attributes := #[] }, { accessFlags := 8, nameIndex := 562, descriptorIndex := 563, attributes := #[] }])
  fields := #[{ name := "in", type := (.object "java/io/InputStream"), accessFlags := 25, slot := 0, constantValue := 0 }, { name := "out", type := (.object "java/io/PrintStream"), accessFlags := 25, slot := 1, constantValue := 0 }, { name := "err", type := (.object "java/io/PrintStream"), accessFlags := 25, slot := 2, constantValue := 0 }, { name := "initialIn", type := (.object "java/io/InputStream"), accessFlags := 10, slot := 3, constantValue := 0 }, { name := "NEVER", type := .int, accessFlags := 26, slot := 4, constantValue := 0 }, { name := "MAYBE", type := .int, accessFlags := 26, slot := 5, constantValue := 0 }, { name := "allowSecurityManager", type := .int, accessFlags := 10, slot := 6, constantValue := 0 }, { name := "security", type := (.object "java/lang/SecurityManager"), accessFlags := 74, slot := 7, constantValue := 0 }, { name := "notSupportedJnuEncoding", type := (.object "java/lang/String"), accessFlags := 10, slot := 8, constantValue := 0 }, { name := "cons", type := (.object "java/io/Console"), accessFlags := 74, slot := 9, constantValue := 0 }, { name := "initialErrStream", type := (.object "java/io/PrintStream"), accessFlags := 74, slot := 10, constantValue := 0 }, { name := "props", type := (.object "java/util/Properties"), accessFlags := 10, slot := 11, constantValue := 0 }, { name := "lineSeparator", type := (.object "java/lang/String"), accessFlags := 10, slot := 12, constantValue := 0 }, { name := "bootLayer", type := (.object "java/lang/ModuleLayer"), accessFlags := 8, slot := 13, constantValue := 0 }]
  methods := #[k18m0, k18m1]
  instanceTypes := #[]
  staticTypes := #[(.object "java/io/InputStream"), (.object "java/io/PrintStream"), (.object "java/io/PrintStream"), (.object "java/io/InputStream"), .int, .int, .int, (.object "java/lang/SecurityManager"), (.object "java/lang/String"), (.object "java/io/Console"), (.object "java/io/PrintStream"), (.object "java/util/Properties"), (.object "java/lang/String"), (.object "java/lang/ModuleLayer")]
  resolved := Array.replicate 834 none
  statics := none }

def pool19 : Array CpInfo := pool [(9, u "<init>"), (6, .class_ 18), (1, u "java/lang/Object"), (0, u "()V"), (1, .class_ 23), (1, u "jdk/internal/util/ArraysSupport"), (0, u "LOG2_ARRAY_LONG_INDEX_SCALE"), (0, u "I"), (2, u "U"), (0, u "Ljdk/internal/misc/Unsafe;"), (8, u "BIG_ENDIAN"), (0, u "Z"), (8, u "LOG2_BYTE_BIT_SIZE"), (4, u "LOG2_ARRAY_INT_INDEX_SCALE"), (54, u "JLA"), (0, u "Ljdk/internal/access/JavaLangAccess;"), (11, u "LOG2_ARRAY_BOOLEAN_INDEX_SCALE"), (9, u "LOG2_ARRAY_BYTE_INDEX_SCALE"), (5, u "LOG2_ARRAY_CHAR_INDEX_SCALE"), (5, u "LOG2_ARRAY_SHORT_INDEX_SCALE"), (18, u "LOG2_ARRAY_FLOAT_INDEX_SCALE"), (24, u "LOG2_ARRAY_DOUBLE_INDEX_SCALE"), (89, u "T_BOOLEAN"), (2, u "T_CHAR"), (1, u "T_FLOAT"), (1, u "T_DOUBLE"), (1, u "T_BYTE"), (1, u "T_SHORT"), (1, u "T_INT"), (1, u "T_LONG"), (1, u "SOFT_MAX_ARRAY_LENGTH")] 83

def k19m0 : Method := { name := "<init>", desc := "()V", sig := { parameters := [], returnType := none }, accessFlags := 2, code := none }
/-- jdk/internal/util/ArraysSupport -/
def k19 : Class := { plain "jdk/internal/util/ArraysSupport" (some 0) with
  accessFlags := 33
  interfaces := #[]
  cf := some (fileOf pool19 21 #[] #[{ accessFlags := 2, nameIndex := 9, descriptorIndex := 19, attributes := #[] }] 33 16 #[] #[{ accessFlags := 24, nameIndex := 28, descriptorIndex := 29, attributes := #[] }, { accessFlags := 26, nameIndex := 38, descriptorIndex := 39, attributes := #[] }, { accessFlags := 25, nameIndex := 121, descriptorIndex := 25, attributes := #[] }, { accessFlags := 25, nameIndex := 131, descriptorIndex := 25, attributes := #[] }, { accessFlags := 25, nameIndex := 137, descriptorIndex := 25, attributes := #[] }, { accessFlags := 25, nameIndex := 143, descriptorIndex := 25, attributes := #[] }, { accessFlags := 25, nameIndex := 53, descriptorIndex := 25, attributes := #[] }, { accessFlags := 25, nameIndex := 24, descriptorIndex := 25, attributes := #[] }, { accessFlags := 25, nameIndex := 162, descriptorIndex := 25, attributes := #[] }, { accessFlags := 25, nameIndex := 187, descriptorIndex := 25, attributes := #[] }, { accessFlags := 26, nameIndex := 48, descriptorIndex := 25, attributes := #[] }, { accessFlags := 25, nameIndex := 277, descriptorIndex := 25, attributes := #[] }, { accessFlags := 25, nameIndex := 280, descriptorIndex := 25, attributes := #[] }, { accessFlags := 25, nameIndex := 282, descriptorIndex := 25, attributes := #[] }, { accessFlags := 25, nameIndex := 284, descriptorIndex := 25, attributes := #[] }, { accessFlags := 25, nameIndex := 286, descriptorIndex := 25, attributes := #[] }, { accessFlags := 25, nameIndex := 288, descriptorIndex := 25, attributes := #[] }, { accessFlags := 25, nameIndex := 290, descriptorIndex := 25, attributes := #[] }, { accessFlags := 25, nameIndex := 292, descriptorIndex := 25, attributes := #[] }, { accessFlags := 26, nameIndex := 108, descriptorIndex := 109, attributes := #[] }, { accessFlags := 25, nameIndex := 294, descriptorIndex := 25, attributes := #[] }])
  fields := #[{ name := "U", type := (.object "jdk/internal/misc/Unsafe"), accessFlags := 24, slot := 0, constantValue := 0 }, { name := "BIG_ENDIAN", type := .boolean, accessFlags := 26, slot := 1, constantValue := 0 }, { name := "LOG2_ARRAY_BOOLEAN_INDEX_SCALE", type := .int, accessFlags := 25, slot := 2, constantValue := 0 }, { name := "LOG2_ARRAY_BYTE_INDEX_SCALE", type := .int, accessFlags := 25, slot := 3, constantValue := 0 }, { name := "LOG2_ARRAY_CHAR_INDEX_SCALE", type := .int, accessFlags := 25, slot := 4, constantValue := 0 }, { name := "LOG2_ARRAY_SHORT_INDEX_SCALE", type := .int, accessFlags := 25, slot := 5, constantValue := 0 }, { name := "LOG2_ARRAY_INT_INDEX_SCALE", type := .int, accessFlags := 25, slot := 6, constantValue := 0 }, { name := "LOG2_ARRAY_LONG_INDEX_SCALE", type := .int, accessFlags := 25, slot := 7, constantValue := 0 }, { name := "LOG2_ARRAY_FLOAT_INDEX_SCALE", type := .int, accessFlags := 25, slot := 8, constantValue := 0 }, { name := "LOG2_ARRAY_DOUBLE_INDEX_SCALE", type := .int, accessFlags := 25, slot := 9, constantValue := 0 }, { name := "LOG2_BYTE_BIT_SIZE", type := .int, accessFlags := 26, slot := 10, constantValue := 0 }, { name := "T_BOOLEAN", type := .int, accessFlags := 25, slot := 11, constantValue := 0 }, { name := "T_CHAR", type := .int, accessFlags := 25, slot := 12, constantValue := 0 }, { name := "T_FLOAT", type := .int, accessFlags := 25, slot := 13, constantValue := 0 }, { name := "T_DOUBLE", type := .int, accessFlags := 25, slot := 14, constantValue := 0 }, { name := "T_BYTE", type := .int, accessFlags := 25, slot := 15, constantValue := 0 }, { name := "T_SHORT", type := .int, accessFlags := 25, slot := 16, constantValue := 0 }, { name := "T_INT", type := .int, accessFlags := 25, slot := 17, constantValue := 0 }, { name := "T_LONG", type := .int, accessFlags := 25, slot := 18, constantValue := 0 }, { name := "JLA", type := (.object "jdk/internal/access/JavaLangAccess"), accessFlags := 26, slot := 19, constantValue := 0 }, { name := "SOFT_MAX_ARRAY_LENGTH", type := .int, accessFlags := 25, slot := 20, constantValue := 0 }]
  methods := #[k19m0]
  instanceTypes := #[]
  staticTypes := #[(.object "jdk/internal/misc/Unsafe"), .boolean, .int, .int, .int, .int, .int, .int, .int, .int, .int, .int, .int, .int, .int, .int, .int, .int, .int, (.object "jdk/internal/access/JavaLangAccess"), .int]
  resolved := Array.replicate 378 none
  statics := none }

def pool20 : Array CpInfo := pool [(1, u "java/lang/Cloneable"), (0, .class_ 1), (0, u "java/lang/Object"), (0, .class_ 3)] 3

/-- java/lang/Cloneable -/
def k20 : Class := { plain "java/lang/Cloneable" (some 0) with
  accessFlags := 1537
  interfaces := #[]
  cf := some (fileOf pool20 2 #[] #[] 1537 4 #[] #[])
  fields := #[]
  methods := #[]
  instanceTypes := #[]
  staticTypes := #[]
  resolved := Array.replicate 8 none
  statics := none }

/-- the primitive byte -/
def k21 : Class := { plain "byte" none with kind := .primitive 'B', accessFlags := 0x411 }
/-- [B -/
def k22 : Class := { plain "[B" (some 0) with kind := .array 21 .byte, interfaces := #[20, 8], accessFlags := 1041 }

/-- the primitive char -/
def k23 : Class := { plain "char" none with kind := .primitive 'C', accessFlags := 0x411 }
/-- [C -/
def k24 : Class := { plain "[C" (some 0) with kind := .array 23 .char, interfaces := #[20, 8], accessFlags := 1041 }

/-- the primitive int -/
def k25 : Class := { plain "int" none with kind := .primitive 'I', accessFlags := 0x411 }
/-- [I -/
def k26 : Class := { plain "[I" (some 0) with kind := .array 25 .int, interfaces := #[20, 8], accessFlags := 1041 }

/-- [Lcom/example/uzor/uzor/StringValues$Value; -/
def k27 : Class := { plain "[Lcom/example/uzor/uzor/StringValues$Value;" (some 0) with kind := .array 4 (.object "com/example/uzor/uzor/StringValues$Value"), interfaces := #[20, 8], accessFlags := 1041 }

def heap : Heap := #[{ cls := 13, slots := #[.long 0, .int 1, .null, .int 0, .null, .int 0, .int 0], vm := .statics 13 },
  { cls := 14, slots := #[.null, .null, .null], vm := .statics 14 }]
def classes : Array Class := #[k0, k1, k2, k3, k4, k5, k6, k7, k8, k9, k10, k11, k12, k13, k14, k15, k16, k17, k18, k19, k20, k21, k22, k23, k24, k25, k26, k27]
def interned : List (Array UInt16 × Addr) := []
def slotsUsed : Nat := 10
def theMethod : MethodId := ⟨1, 3⟩
def args0 : Array Value := #[.int 6513249, .int 65636, .int 59, .int 61]
def aboutOver (below : List Frame) : State where
  vm := { classes := classes, interned := interned.toArray }
  heap := heap
  slotsUsed := slotsUsed
  threads := #[{ frames := .invoking theMethod args0 :: below }]
def below0 : List Frame := [.native { method := ⟨0, 0⟩, args := #[] }]
def about1 : State := aboutOver below0
def p0 : Program := .bare "" "" ""
def e0 : Env := launch0.env 0 0 0
theorem w_frames : about1.frames = Frame.invoking theMethod args0 :: below0 := rfl
set_option maxRecDepth 65536 in
theorem w_args : argsFit about1.vm theMethod args0 = true := by decide +kernel
set_option maxRecDepth 65536 in
theorem w_heap : heapFits about1 = true := by decide +kernel
set_option maxRecDepth 65536 in
theorem w_runnable : about1.curStatus? = some .runnable := by decide +kernel
set_option maxRecDepth 65536 in
theorem w_alone : about1.alone = true := by decide +kernel
set_option maxRecDepth 65536 in
theorem w_named : about1.methodNamed? x = some theMethod := by decide +kernel
set_option maxRecDepth 65536 in
theorem w_hears : about1.hears theMethod below0 = true := by decide +kernel
set_option maxRecDepth 65536 in
theorem w_ripe : about1.ripe theMethod args0 below0 = true := by decide +kernel
theorem w_running : about1.status = .running := rfl
set_option maxRecDepth 65536 in
theorem w_room : about1.hasRoom e0.platform room_1 = true :=
  launch0.hasRoom_least _ room_1 (by decide +kernel) (by decide +kernel) (by decide +kernel) (by decide +kernel) (by decide +kernel) (by decide +kernel)
theorem allAtoms_all (ts : List Jvm.Cond) (a : Array Jvm.Value) (st : Jvm.State) : (allAtoms ts).before a st = ts.all (fun c => c.before a st) := by
  induction ts with
  | nil => rfl
  | cons c t ih =>
    show (Jvm.Cond.and c (allAtoms t)).before a st = _
    rw [Jvm.Cond.before_and, ih, List.all_cons]
def words1 : List Jvm.Cond := Jvm.Cond.code x code maxLocals ret :: tables_1
/-- a 'code' word, met by the world's own term for the bytes: nothing is compared byte by byte -/
theorem code_word {y : MethodName} {bytes : ByteArray} {mx : Nat} {rt : Option FieldType} {a : Array Value} {s : State} {m : MethodId} {meth : Method} {c : Code} (h1 : s.methodNamed? y = some m) (h2 : s.vm.method? m = some meth) (h3 : meth.code = some c) (h4 : c.code = bytes)
    (h5 : (c.maxLocals == mx && c.exceptionTable.isEmpty && decide (c.maxStack ≤ mostOperands) && decide (meth.sig.returnType = rt) && !meth.locks && decide (parseMethodDescriptor y.desc = some meth.sig)) = true) : (Jvm.Cond.code y bytes mx rt).before a s = true := by
  simp only [Bool.and_eq_true, beq_iff_eq, Bool.not_eq_true', decide_eq_true_eq] at h5
  obtain ⟨⟨⟨⟨⟨g1, g2⟩, g3⟩, g4⟩, g5⟩, g6⟩ := h5
  simp [Cond.before, Cond.holds, Cond.value, h1, h2, h3, h4, g1, g2, g3, g4, g5, g6]
def isCode : Jvm.Cond → Bool
  | .code _ _ _ _ => true
  | _ => false
theorem all_split {L : List Jvm.Cond} {P : Jvm.Cond → Bool} (h1 : L.all (fun c => isCode c || P c) = true) (h2 : ∀ c ∈ L.filter isCode, P c = true) : L.all P = true := by
  refine List.all_eq_true.mpr fun c hc => ?_
  have h := List.all_eq_true.mp h1 c hc
  rcases Bool.eq_false_or_eq_true (isCode c) with hi | hi
  · exact h2 c (List.mem_filter.mpr ⟨hc, hi⟩)
  · simpa [hi] using h
set_option maxRecDepth 65536 in
theorem w_c0 : (Jvm.Cond.code x code maxLocals ret).before args0 about1 = true := code_word (m := ⟨1, 3⟩) (meth := k1m3) (c := k1c3) (by decide +kernel) rfl rfl rfl (by decide +kernel)
set_option maxRecDepth 65536 in
theorem w_c1 : (Jvm.Cond.code ({ cls := "com/example/uzor/uzor/StringValues", name := "<init>", desc := "()V" } : Jvm.MethodName) prog_34_method_1_code (1 : Nat) (Option.none : Option Jvm.ClassFile.FieldType)).before args0 about1 = true := code_word (m := ⟨2, 0⟩) (meth := k2m0) (c := k2c0) (by decide +kernel) rfl rfl rfl (by decide +kernel)
set_option maxRecDepth 65536 in
theorem w_c2 : (Jvm.Cond.code ({ cls := "java/lang/Object", name := "<init>", desc := "()V" } : Jvm.MethodName) object_method_1_code (1 : Nat) (Option.none : Option Jvm.ClassFile.FieldType)).before args0 about1 = true := code_word (m := ⟨0, 0⟩) (meth := k0m0) (c := k0c0) (by decide +kernel) rfl rfl rfl (by decide +kernel)
set_option maxRecDepth 65536 in
theorem w_c3 : (Jvm.Cond.code ({ cls := "com/example/uzor/uzor/StringValues", name := "startElement", desc := "()I" } : Jvm.MethodName) prog_34_method_2_code (1 : Nat) (Option.some Jvm.ClassFile.FieldType.int)).before args0 about1 = true := code_word (m := ⟨2, 1⟩) (meth := k2m1) (c := k2c1) (by decide +kernel) rfl rfl rfl (by decide +kernel)
set_option maxRecDepth 65536 in
theorem w_c4 : (Jvm.Cond.code ({ cls := "com/example/uzor/uzor/StringValues", name := "text", desc := "([CII)V" } : Jvm.MethodName) prog_34_method_3_code (6 : Nat) (Option.none : Option Jvm.ClassFile.FieldType)).before args0 about1 = true := code_word (m := ⟨2, 2⟩) (meth := k2m2) (c := k2c2) (by decide +kernel) rfl rfl rfl (by decide +kernel)
set_option maxRecDepth 65536 in
theorem w_c5 : (Jvm.Cond.code ({ cls := "com/example/uzor/uzor/StringValues", name := "endElement", desc := "()I" } : Jvm.MethodName) prog_34_method_5_code (1 : Nat) (Option.some Jvm.ClassFile.FieldType.int)).before args0 about1 = true := code_word (m := ⟨2, 4⟩) (meth := k2m4) (c := k2c4) (by decide +kernel) rfl rfl rfl (by decide +kernel)
set_option maxRecDepth 65536 in
theorem w_c6 : (Jvm.Cond.code ({ cls := "com/example/uzor/uzor/StringValues", name := "build", desc := "(I)Lcom/example/uzor/uzor/StringValues$Value;" } : Jvm.MethodName) prog_34_method_6_code (3 : Nat) (Option.some (Jvm.ClassFile.FieldType.object "com/example/uzor/uzor/StringValues$Value"))).before args0 about1 = true := code_word (m := ⟨2, 5⟩) (meth := k2m5) (c := k2c5) (by decide +kernel) rfl rfl rfl (by decide +kernel)
set_option maxRecDepth 65536 in
theorem w_c7 : (Jvm.Cond.code ({ cls := "com/example/uzor/uzor/StringValues$Value", name := "<init>", desc := "(II)V" } : Jvm.MethodName) prog_35_method_1_code (3 : Nat) (Option.none : Option Jvm.ClassFile.FieldType)).before args0 about1 = true := code_word (m := ⟨4, 0⟩) (meth := k4m0) (c := k4c0) (by decide +kernel) rfl rfl rfl (by decide +kernel)
set_option maxRecDepth 65536 in
theorem w_c8 : (Jvm.Cond.code ({ cls := "java/lang/StringBuilder", name := "<init>", desc := "()V" } : Jvm.MethodName) jdk_67_method_1_code (1 : Nat) (Option.none : Option Jvm.ClassFile.FieldType)).before args0 about1 = true := code_word (m := ⟨10, 0⟩) (meth := k10m0) (c := k10c0) (by decide +kernel) rfl rfl rfl (by decide +kernel)
set_option maxRecDepth 65536 in
theorem w_c9 : (Jvm.Cond.code ({ cls := "java/lang/AbstractStringBuilder", name := "<init>", desc := "(I)V" } : Jvm.MethodName) jdk_68_method_2_code (2 : Nat) (Option.none : Option Jvm.ClassFile.FieldType)).before args0 about1 = true := code_word (m := ⟨7, 1⟩) (meth := k7m1) (c := k7c1) (by decide +kernel) rfl rfl rfl (by decide +kernel)
set_option maxRecDepth 65536 in
theorem w_c10 : (Jvm.Cond.code ({ cls := "com/example/uzor/uzor/StringValues$Value", name := "add", desc := "([CII)Z" } : Jvm.MethodName) prog_35_method_2_code (4 : Nat) (Option.some Jvm.ClassFile.FieldType.boolean)).before args0 about1 = true := code_word (m := ⟨4, 1⟩) (meth := k4m1) (c := k4c1) (by decide +kernel) rfl rfl rfl (by decide +kernel)
set_option maxRecDepth 65536 in
theorem w_c11 : (Jvm.Cond.code ({ cls := "java/lang/StringBuilder", name := "length", desc := "()I" } : Jvm.MethodName) jdk_67_method_93_code (1 : Nat) (Option.some Jvm.ClassFile.FieldType.int)).before args0 about1 = true := code_word (m := ⟨10, 3⟩) (meth := k10m3) (c := k10c3) (by decide +kernel) rfl rfl rfl (by decide +kernel)
set_option maxRecDepth 65536 in
theorem w_c12 : (Jvm.Cond.code ({ cls := "java/lang/AbstractStringBuilder", name := "length", desc := "()I" } : Jvm.MethodName) jdk_68_method_6_code (1 : Nat) (Option.some Jvm.ClassFile.FieldType.int)).before args0 about1 = true := code_word (m := ⟨7, 2⟩) (meth := k7m2) (c := k7c2) (by decide +kernel) rfl rfl rfl (by decide +kernel)
set_option maxRecDepth 65536 in
theorem w_c13 : (Jvm.Cond.code ({ cls := "java/lang/StringBuilder", name := "append", desc := "([CII)Ljava/lang/StringBuilder;" } : Jvm.MethodName) jdk_67_method_12_code (4 : Nat) (Option.some (Jvm.ClassFile.FieldType.object "java/lang/StringBuilder"))).before args0 about1 = true := code_word (m := ⟨10, 1⟩) (meth := k10m1) (c := k10c1) (by decide +kernel) rfl rfl rfl (by decide +kernel)
set_option maxRecDepth 65536 in
theorem w_c14 : (Jvm.Cond.code ({ cls := "java/lang/AbstractStringBuilder", name := "append", desc := "([CII)Ljava/lang/AbstractStringBuilder;" } : Jvm.MethodName) jdk_68_method_29_code (5 : Nat) (Option.some (Jvm.ClassFile.FieldType.object "java/lang/AbstractStringBuilder"))).before args0 about1 = true := code_word (m := ⟨7, 4⟩) (meth := k7m4) (c := k7c4) (by decide +kernel) rfl rfl rfl (by decide +kernel)
set_option maxRecDepth 65536 in
theorem w_c15 : (Jvm.Cond.code ({ cls := "jdk/internal/util/Preconditions", name := "checkFromToIndex", desc := "(IIILjava/util/function/BiFunction;)I" } : Jvm.MethodName) jdk_41_method_12_code (4 : Nat) (Option.some Jvm.ClassFile.FieldType.int)).before args0 about1 = true := code_word (m := ⟨14, 2⟩) (meth := k14m2) (c := k14c2) (by decide +kernel) rfl rfl rfl (by decide +kernel)
set_option maxRecDepth 65536 in
theorem w_c16 : (Jvm.Cond.code ({ cls := "java/lang/AbstractStringBuilder", name := "ensureCapacityInternal", desc := "(I)V" } : Jvm.MethodName) jdk_68_method_9_code (3 : Nat) (Option.none : Option Jvm.ClassFile.FieldType)).before args0 about1 = true := code_word (m := ⟨7, 3⟩) (meth := k7m3) (c := k7c3) (by decide +kernel) rfl rfl rfl (by decide +kernel)
set_option maxRecDepth 65536 in
theorem w_c17 : (Jvm.Cond.code ({ cls := "java/lang/AbstractStringBuilder", name := "appendChars", desc := "([CII)V" } : Jvm.MethodName) jdk_68_method_74_code (9 : Nat) (Option.none : Option Jvm.ClassFile.FieldType)).before args0 about1 = true := code_word (m := ⟨7, 7⟩) (meth := k7m7) (c := k7c7) (by decide +kernel) rfl rfl rfl (by decide +kernel)
set_option maxRecDepth 65536 in
theorem w_c18 : (Jvm.Cond.code ({ cls := "java/lang/AbstractStringBuilder", name := "isLatin1", desc := "()Z" } : Jvm.MethodName) jdk_68_method_68_code (1 : Nat) (Option.some Jvm.ClassFile.FieldType.boolean)).before args0 about1 = true := code_word (m := ⟨7, 6⟩) (meth := k7m6) (c := k7c6) (by decide +kernel) rfl rfl rfl (by decide +kernel)
set_option maxRecDepth 65536 in
theorem w_c19 : (Jvm.Cond.code ({ cls := "java/lang/StringLatin1", name := "canEncode", desc := "(C)Z" } : Jvm.MethodName) jdk_43_method_3_code (1 : Nat) (Option.some Jvm.ClassFile.FieldType.boolean)).before args0 about1 = true := code_word (m := ⟨15, 2⟩) (meth := k15m2) (c := k15c2) (by decide +kernel) rfl rfl rfl (by decide +kernel)
set_option maxRecDepth 65536 in
theorem w_c20 : (Jvm.Cond.code ({ cls := "com/example/uzor/uzor/StringValues$Value", name := "get", desc := "()Ljava/lang/String;" } : Jvm.MethodName) prog_35_method_4_code (1 : Nat) (Option.some (Jvm.ClassFile.FieldType.object "java/lang/String"))).before args0 about1 = true := code_word (m := ⟨4, 3⟩) (meth := k4m3) (c := k4c3) (by decide +kernel) rfl rfl rfl (by decide +kernel)
set_option maxRecDepth 65536 in
theorem w_c21 : (Jvm.Cond.code ({ cls := "com/example/uzor/uzor/StringValues$Value", name := "end", desc := "()V" } : Jvm.MethodName) prog_35_method_3_code (1 : Nat) (Option.none : Option Jvm.ClassFile.FieldType)).before args0 about1 = true := code_word (m := ⟨4, 2⟩) (meth := k4m2) (c := k4c2) (by decide +kernel) rfl rfl rfl (by decide +kernel)
set_option maxRecDepth 65536 in
theorem w_c22 : (Jvm.Cond.code ({ cls := "java/lang/StringBuilder", name := "toString", desc := "()Ljava/lang/String;" } : Jvm.MethodName) jdk_67_method_42_code (1 : Nat) (Option.some (Jvm.ClassFile.FieldType.object "java/lang/String"))).before args0 about1 = true := code_word (m := ⟨10, 2⟩) (meth := k10m2) (c := k10c2) (by decide +kernel) rfl rfl rfl (by decide +kernel)
set_option maxRecDepth 65536 in
theorem w_c23 : (Jvm.Cond.code ({ cls := "java/lang/String", name := "<init>", desc := "(Ljava/lang/StringBuilder;)V" } : Jvm.MethodName) jdk_42_method_53_code (2 : Nat) (Option.none : Option Jvm.ClassFile.FieldType)).before args0 about1 = true := code_word (m := ⟨13, 1⟩) (meth := k13m1) (c := k13c1) (by decide +kernel) rfl rfl rfl (by decide +kernel)
set_option maxRecDepth 65536 in
theorem w_c24 : (Jvm.Cond.code ({ cls := "java/lang/String", name := "<init>", desc := "(Ljava/lang/AbstractStringBuilder;Ljava/lang/Void;)V" } : Jvm.MethodName) jdk_42_method_150_code (5 : Nat) (Option.none : Option Jvm.ClassFile.FieldType)).before args0 about1 = true := code_word (m := ⟨13, 4⟩) (meth := k13m4) (c := k13c4) (by decide +kernel) rfl rfl rfl (by decide +kernel)
set_option maxRecDepth 65536 in
theorem w_c25 : (Jvm.Cond.code ({ cls := "java/lang/AbstractStringBuilder", name := "getValue", desc := "()[B" } : Jvm.MethodName) jdk_68_method_64_code (1 : Nat) (Option.some (Jvm.ClassFile.FieldType.array Jvm.ClassFile.FieldType.byte))).before args0 about1 = true := code_word (m := ⟨7, 5⟩) (meth := k7m5) (c := k7c5) (by decide +kernel) rfl rfl rfl (by decide +kernel)
set_option maxRecDepth 65536 in
theorem w_c26 : (Jvm.Cond.code ({ cls := "java/util/Arrays", name := "copyOfRange", desc := "([BII)[B" } : Jvm.MethodName) jdk_65_method_132_code (3 : Nat) (Option.some (Jvm.ClassFile.FieldType.array Jvm.ClassFile.FieldType.byte))).before args0 about1 = true := code_word (m := ⟨16, 4⟩) (meth := k16m4) (c := k16c4) (by decide +kernel) rfl rfl rfl (by decide +kernel)
set_option maxRecDepth 65536 in
theorem w_c27 : (Jvm.Cond.code ({ cls := "java/util/Arrays", name := "copyOfRangeByte", desc := "([BII)[B" } : Jvm.MethodName) jdk_65_method_133_code (5 : Nat) (Option.some (Jvm.ClassFile.FieldType.array Jvm.ClassFile.FieldType.byte))).before args0 about1 = true := code_word (m := ⟨16, 5⟩) (meth := k16m5) (c := k16c5) (by decide +kernel) rfl rfl rfl (by decide +kernel)
set_option maxRecDepth 65536 in
theorem w_c28 : (Jvm.Cond.code ({ cls := "java/util/Arrays", name := "checkLength", desc := "(II)V" } : Jvm.MethodName) jdk_65_method_131_code (2 : Nat) (Option.none : Option Jvm.ClassFile.FieldType)).before args0 about1 = true := code_word (m := ⟨16, 3⟩) (meth := k16m3) (c := k16c3) (by decide +kernel) rfl rfl rfl (by decide +kernel)
set_option maxRecDepth 65536 in
theorem w_c29 : (Jvm.Cond.code ({ cls := "java/lang/Math", name := "min", desc := "(II)I" } : Jvm.MethodName) jdk_29_method_69_code (2 : Nat) (Option.some Jvm.ClassFile.FieldType.int)).before args0 about1 = true := code_word (m := ⟨17, 1⟩) (meth := k17m1) (c := k17c1) (by decide +kernel) rfl rfl rfl (by decide +kernel)
set_option maxRecDepth 65536 in
theorem w_c30 : (Jvm.Cond.code ({ cls := "com/example/uzor/uzor/StringValuesEndElementPinLaw", name := "matches", desc := "(Ljava/lang/String;[CI[CI)Z" } : Jvm.MethodName) method_3_code (5 : Nat) (Option.some Jvm.ClassFile.FieldType.boolean)).before args0 about1 = true := code_word (m := ⟨1, 2⟩) (meth := k1m2) (c := k1c2) (by decide +kernel) rfl rfl rfl (by decide +kernel)
set_option maxRecDepth 65536 in
theorem w_c31 : (Jvm.Cond.code ({ cls := "java/lang/String", name := "length", desc := "()I" } : Jvm.MethodName) jdk_42_method_54_code (1 : Nat) (Option.some Jvm.ClassFile.FieldType.int)).before args0 about1 = true := code_word (m := ⟨13, 2⟩) (meth := k13m2) (c := k13c2) (by decide +kernel) rfl rfl rfl (by decide +kernel)
set_option maxRecDepth 65536 in
theorem w_c32 : (Jvm.Cond.code ({ cls := "java/lang/String", name := "coder", desc := "()B" } : Jvm.MethodName) jdk_42_method_152_code (1 : Nat) (Option.some Jvm.ClassFile.FieldType.byte)).before args0 about1 = true := code_word (m := ⟨13, 5⟩) (meth := k13m5) (c := k13c5) (by decide +kernel) rfl rfl rfl (by decide +kernel)
set_option maxRecDepth 65536 in
theorem w_c33 : (Jvm.Cond.code ({ cls := "com/example/uzor/uzor/StringValuesEndElementPinLaw", name := "at", desc := "(Ljava/lang/String;[CI[CII)Z" } : Jvm.MethodName) method_2_code (7 : Nat) (Option.some Jvm.ClassFile.FieldType.boolean)).before args0 about1 = true := code_word (m := ⟨1, 1⟩) (meth := k1m1) (c := k1c1) (by decide +kernel) rfl rfl rfl (by decide +kernel)
set_option maxRecDepth 65536 in
theorem w_c34 : (Jvm.Cond.code ({ cls := "java/lang/String", name := "charAt", desc := "(I)C" } : Jvm.MethodName) jdk_42_method_56_code (2 : Nat) (Option.some Jvm.ClassFile.FieldType.char)).before args0 about1 = true := code_word (m := ⟨13, 3⟩) (meth := k13m3) (c := k13c3) (by decide +kernel) rfl rfl rfl (by decide +kernel)
set_option maxRecDepth 65536 in
theorem w_c35 : (Jvm.Cond.code ({ cls := "java/lang/String", name := "isLatin1", desc := "()Z" } : Jvm.MethodName) jdk_42_method_154_code (1 : Nat) (Option.some Jvm.ClassFile.FieldType.boolean)).before args0 about1 = true := code_word (m := ⟨13, 6⟩) (meth := k13m6) (c := k13c6) (by decide +kernel) rfl rfl rfl (by decide +kernel)
set_option maxRecDepth 65536 in
theorem w_c36 : (Jvm.Cond.code ({ cls := "java/lang/StringLatin1", name := "charAt", desc := "([BI)C" } : Jvm.MethodName) jdk_43_method_2_code (2 : Nat) (Option.some Jvm.ClassFile.FieldType.char)).before args0 about1 = true := code_word (m := ⟨15, 1⟩) (meth := k15m1) (c := k15c1) (by decide +kernel) rfl rfl rfl (by decide +kernel)
set_option maxRecDepth 65536 in
theorem w_c37 : (Jvm.Cond.code ({ cls := "java/lang/String", name := "checkIndex", desc := "(II)V" } : Jvm.MethodName) jdk_42_method_155_code (2 : Nat) (Option.none : Option Jvm.ClassFile.FieldType)).before args0 about1 = true := code_word (m := ⟨13, 7⟩) (meth := k13m7) (c := k13c7) (by decide +kernel) rfl rfl rfl (by decide +kernel)
set_option maxRecDepth 65536 in
theorem w_c38 : (Jvm.Cond.code ({ cls := "jdk/internal/util/Preconditions", name := "checkIndex", desc := "(IILjava/util/function/BiFunction;)I" } : Jvm.MethodName) jdk_41_method_11_code (3 : Nat) (Option.some Jvm.ClassFile.FieldType.int)).before args0 about1 = true := code_word (m := ⟨14, 1⟩) (meth := k14m1) (c := k14c1) (by decide +kernel) rfl rfl rfl (by decide +kernel)
set_option maxRecDepth 65536 in
theorem w_c39 : (Jvm.Cond.code ({ cls := "com/example/uzor/uzor/StringValues", name := "leaveOutPast", desc := "()V" } : Jvm.MethodName) prog_34_method_4_code (3 : Nat) (Option.none : Option Jvm.ClassFile.FieldType)).before args0 about1 = true := code_word (m := ⟨2, 3⟩) (meth := k2m3) (c := k2c3) (by decide +kernel) rfl rfl rfl (by decide +kernel)
set_option maxRecDepth 65536 in
theorem w_c40 : (Jvm.Cond.code ({ cls := "java/util/Arrays", name := "fill", desc := "([Ljava/lang/Object;IILjava/lang/Object;)V" } : Jvm.MethodName) jdk_65_method_118_code (5 : Nat) (Option.none : Option Jvm.ClassFile.FieldType)).before args0 about1 = true := code_word (m := ⟨16, 2⟩) (meth := k16m2) (c := k16c2) (by decide +kernel) rfl rfl rfl (by decide +kernel)
set_option maxRecDepth 65536 in
theorem w_c41 : (Jvm.Cond.code ({ cls := "java/util/Arrays", name := "rangeCheck", desc := "(III)V" } : Jvm.MethodName) jdk_65_method_30_code (3 : Nat) (Option.none : Option Jvm.ClassFile.FieldType)).before args0 about1 = true := code_word (m := ⟨16, 1⟩) (meth := k16m1) (c := k16c1) (by decide +kernel) rfl rfl rfl (by decide +kernel)
def codes1 : List Jvm.Cond := [Jvm.Cond.code x code maxLocals ret, Jvm.Cond.code ({ cls := "com/example/uzor/uzor/StringValues", name := "<init>", desc := "()V" } : Jvm.MethodName) prog_34_method_1_code (1 : Nat) (Option.none : Option Jvm.ClassFile.FieldType), Jvm.Cond.code ({ cls := "java/lang/Object", name := "<init>", desc := "()V" } : Jvm.MethodName) object_method_1_code (1 : Nat) (Option.none : Option Jvm.ClassFile.FieldType), Jvm.Cond.code ({ cls := "com/example/uzor/uzor/StringValues", name := "startElement", desc := "()I" } : Jvm.MethodName) prog_34_method_2_code (1 : Nat) (Option.some Jvm.ClassFile.FieldType.int), Jvm.Cond.code ({ cls := "com/example/uzor/uzor/StringValues", name := "text", desc := "([CII)V" } : Jvm.MethodName) prog_34_method_3_code (6 : Nat) (Option.none : Option Jvm.ClassFile.FieldType), Jvm.Cond.code ({ cls := "com/example/uzor/uzor/StringValues", name := "endElement", desc := "()I" } : Jvm.MethodName) prog_34_method_5_code (1 : Nat) (Option.some Jvm.ClassFile.FieldType.int), Jvm.Cond.code ({ cls := "com/example/uzor/uzor/StringValues", name := "build", desc := "(I)Lcom/example/uzor/uzor/StringValues$Value;" } : Jvm.MethodName) prog_34_method_6_code (3 : Nat) (Option.some (Jvm.ClassFile.FieldType.object "com/example/uzor/uzor/StringValues$Value")), Jvm.Cond.code ({ cls := "com/example/uzor/uzor/StringValues$Value", name := "<init>", desc := "(II)V" } : Jvm.MethodName) prog_35_method_1_code (3 : Nat) (Option.none : Option Jvm.ClassFile.FieldType), Jvm.Cond.code ({ cls := "java/lang/StringBuilder", name := "<init>", desc := "()V" } : Jvm.MethodName) jdk_67_method_1_code (1 : Nat) (Option.none : Option Jvm.ClassFile.FieldType), Jvm.Cond.code ({ cls := "java/lang/AbstractStringBuilder", name := "<init>", desc := "(I)V" } : Jvm.MethodName) jdk_68_method_2_code (2 : Nat) (Option.none : Option Jvm.ClassFile.FieldType), Jvm.Cond.code ({ cls := "com/example/uzor/uzor/StringValues$Value", name := "add", desc := "([CII)Z" } : Jvm.MethodName) prog_35_method_2_code (4 : Nat) (Option.some Jvm.ClassFile.FieldType.boolean), Jvm.Cond.code ({ cls := "java/lang/StringBuilder", name := "length", desc := "()I" } : Jvm.MethodName) jdk_67_method_93_code (1 : Nat) (Option.some Jvm.ClassFile.FieldType.int), Jvm.Cond.code ({ cls := "java/lang/AbstractStringBuilder", name := "length", desc := "()I" } : Jvm.MethodName) jdk_68_method_6_code (1 : Nat) (Option.some Jvm.ClassFile.FieldType.int), Jvm.Cond.code ({ cls := "java/lang/StringBuilder", name := "append", desc := "([CII)Ljava/lang/StringBuilder;" } : Jvm.MethodName) jdk_67_method_12_code (4 : Nat) (Option.some (Jvm.ClassFile.FieldType.object "java/lang/StringBuilder")), Jvm.Cond.code ({ cls := "java/lang/AbstractStringBuilder", name := "append", desc := "([CII)Ljava/lang/AbstractStringBuilder;" } : Jvm.MethodName) jdk_68_method_29_code (5 : Nat) (Option.some (Jvm.ClassFile.FieldType.object "java/lang/AbstractStringBuilder")), Jvm.Cond.code ({ cls := "jdk/internal/util/Preconditions", name := "checkFromToIndex", desc := "(IIILjava/util/function/BiFunction;)I" } : Jvm.MethodName) jdk_41_method_12_code (4 : Nat) (Option.some Jvm.ClassFile.FieldType.int), Jvm.Cond.code ({ cls := "java/lang/AbstractStringBuilder", name := "ensureCapacityInternal", desc := "(I)V" } : Jvm.MethodName) jdk_68_method_9_code (3 : Nat) (Option.none : Option Jvm.ClassFile.FieldType), Jvm.Cond.code ({ cls := "java/lang/AbstractStringBuilder", name := "appendChars", desc := "([CII)V" } : Jvm.MethodName) jdk_68_method_74_code (9 : Nat) (Option.none : Option Jvm.ClassFile.FieldType), Jvm.Cond.code ({ cls := "java/lang/AbstractStringBuilder", name := "isLatin1", desc := "()Z" } : Jvm.MethodName) jdk_68_method_68_code (1 : Nat) (Option.some Jvm.ClassFile.FieldType.boolean), Jvm.Cond.code ({ cls := "java/lang/StringLatin1", name := "canEncode", desc := "(C)Z" } : Jvm.MethodName) jdk_43_method_3_code (1 : Nat) (Option.some Jvm.ClassFile.FieldType.boolean), Jvm.Cond.code ({ cls := "com/example/uzor/uzor/StringValues$Value", name := "get", desc := "()Ljava/lang/String;" } : Jvm.MethodName) prog_35_method_4_code (1 : Nat) (Option.some (Jvm.ClassFile.FieldType.object "java/lang/String")), Jvm.Cond.code ({ cls := "com/example/uzor/uzor/StringValues$Value", name := "end", desc := "()V" } : Jvm.MethodName) prog_35_method_3_code (1 : Nat) (Option.none : Option Jvm.ClassFile.FieldType), Jvm.Cond.code ({ cls := "java/lang/StringBuilder", name := "toString", desc := "()Ljava/lang/String;" } : Jvm.MethodName) jdk_67_method_42_code (1 : Nat) (Option.some (Jvm.ClassFile.FieldType.object "java/lang/String")), Jvm.Cond.code ({ cls := "java/lang/String", name := "<init>", desc := "(Ljava/lang/StringBuilder;)V" } : Jvm.MethodName) jdk_42_method_53_code (2 : Nat) (Option.none : Option Jvm.ClassFile.FieldType), Jvm.Cond.code ({ cls := "java/lang/String", name := "<init>", desc := "(Ljava/lang/AbstractStringBuilder;Ljava/lang/Void;)V" } : Jvm.MethodName) jdk_42_method_150_code (5 : Nat) (Option.none : Option Jvm.ClassFile.FieldType), Jvm.Cond.code ({ cls := "java/lang/AbstractStringBuilder", name := "getValue", desc := "()[B" } : Jvm.MethodName) jdk_68_method_64_code (1 : Nat) (Option.some (Jvm.ClassFile.FieldType.array Jvm.ClassFile.FieldType.byte)), Jvm.Cond.code ({ cls := "java/util/Arrays", name := "copyOfRange", desc := "([BII)[B" } : Jvm.MethodName) jdk_65_method_132_code (3 : Nat) (Option.some (Jvm.ClassFile.FieldType.array Jvm.ClassFile.FieldType.byte)), Jvm.Cond.code ({ cls := "java/util/Arrays", name := "copyOfRangeByte", desc := "([BII)[B" } : Jvm.MethodName) jdk_65_method_133_code (5 : Nat) (Option.some (Jvm.ClassFile.FieldType.array Jvm.ClassFile.FieldType.byte)), Jvm.Cond.code ({ cls := "java/util/Arrays", name := "checkLength", desc := "(II)V" } : Jvm.MethodName) jdk_65_method_131_code (2 : Nat) (Option.none : Option Jvm.ClassFile.FieldType), Jvm.Cond.code ({ cls := "java/lang/Math", name := "min", desc := "(II)I" } : Jvm.MethodName) jdk_29_method_69_code (2 : Nat) (Option.some Jvm.ClassFile.FieldType.int), Jvm.Cond.code ({ cls := "com/example/uzor/uzor/StringValuesEndElementPinLaw", name := "matches", desc := "(Ljava/lang/String;[CI[CI)Z" } : Jvm.MethodName) method_3_code (5 : Nat) (Option.some Jvm.ClassFile.FieldType.boolean), Jvm.Cond.code ({ cls := "java/lang/String", name := "length", desc := "()I" } : Jvm.MethodName) jdk_42_method_54_code (1 : Nat) (Option.some Jvm.ClassFile.FieldType.int), Jvm.Cond.code ({ cls := "java/lang/String", name := "coder", desc := "()B" } : Jvm.MethodName) jdk_42_method_152_code (1 : Nat) (Option.some Jvm.ClassFile.FieldType.byte), Jvm.Cond.code ({ cls := "com/example/uzor/uzor/StringValuesEndElementPinLaw", name := "at", desc := "(Ljava/lang/String;[CI[CII)Z" } : Jvm.MethodName) method_2_code (7 : Nat) (Option.some Jvm.ClassFile.FieldType.boolean), Jvm.Cond.code ({ cls := "java/lang/String", name := "charAt", desc := "(I)C" } : Jvm.MethodName) jdk_42_method_56_code (2 : Nat) (Option.some Jvm.ClassFile.FieldType.char), Jvm.Cond.code ({ cls := "java/lang/String", name := "isLatin1", desc := "()Z" } : Jvm.MethodName) jdk_42_method_154_code (1 : Nat) (Option.some Jvm.ClassFile.FieldType.boolean), Jvm.Cond.code ({ cls := "java/lang/StringLatin1", name := "charAt", desc := "([BI)C" } : Jvm.MethodName) jdk_43_method_2_code (2 : Nat) (Option.some Jvm.ClassFile.FieldType.char), Jvm.Cond.code ({ cls := "java/lang/String", name := "checkIndex", desc := "(II)V" } : Jvm.MethodName) jdk_42_method_155_code (2 : Nat) (Option.none : Option Jvm.ClassFile.FieldType), Jvm.Cond.code ({ cls := "jdk/internal/util/Preconditions", name := "checkIndex", desc := "(IILjava/util/function/BiFunction;)I" } : Jvm.MethodName) jdk_41_method_11_code (3 : Nat) (Option.some Jvm.ClassFile.FieldType.int), Jvm.Cond.code ({ cls := "com/example/uzor/uzor/StringValues", name := "leaveOutPast", desc := "()V" } : Jvm.MethodName) prog_34_method_4_code (3 : Nat) (Option.none : Option Jvm.ClassFile.FieldType), Jvm.Cond.code ({ cls := "java/util/Arrays", name := "fill", desc := "([Ljava/lang/Object;IILjava/lang/Object;)V" } : Jvm.MethodName) jdk_65_method_118_code (5 : Nat) (Option.none : Option Jvm.ClassFile.FieldType), Jvm.Cond.code ({ cls := "java/util/Arrays", name := "rangeCheck", desc := "(III)V" } : Jvm.MethodName) jdk_65_method_30_code (3 : Nat) (Option.none : Option Jvm.ClassFile.FieldType)]
set_option maxRecDepth 65536 in
theorem codes_eq : words1.filter isCode = codes1 := rfl
theorem w_codes : ∀ c ∈ words1.filter isCode, c.before args0 about1 = true := by
  rw [codes_eq]
  intro c hc
  simp only [codes1, List.mem_cons, List.not_mem_nil, or_false] at hc
  rcases hc with rfl | rfl | rfl | rfl | rfl | rfl | rfl | rfl | rfl | rfl | rfl | rfl | rfl | rfl | rfl | rfl | rfl | rfl | rfl | rfl | rfl | rfl | rfl | rfl | rfl | rfl | rfl | rfl | rfl | rfl | rfl | rfl | rfl | rfl | rfl | rfl | rfl | rfl | rfl | rfl | rfl | rfl
  · exact w_c0
  · exact w_c1
  · exact w_c2
  · exact w_c3
  · exact w_c4
  · exact w_c5
  · exact w_c6
  · exact w_c7
  · exact w_c8
  · exact w_c9
  · exact w_c10
  · exact w_c11
  · exact w_c12
  · exact w_c13
  · exact w_c14
  · exact w_c15
  · exact w_c16
  · exact w_c17
  · exact w_c18
  · exact w_c19
  · exact w_c20
  · exact w_c21
  · exact w_c22
  · exact w_c23
  · exact w_c24
  · exact w_c25
  · exact w_c26
  · exact w_c27
  · exact w_c28
  · exact w_c29
  · exact w_c30
  · exact w_c31
  · exact w_c32
  · exact w_c33
  · exact w_c34
  · exact w_c35
  · exact w_c36
  · exact w_c37
  · exact w_c38
  · exact w_c39
  · exact w_c40
  · exact w_c41
set_option maxRecDepth 65536 in
theorem w_t1 : (words1.take 24).all (fun c => isCode c || c.before args0 about1) = true := by decide +kernel
set_option maxRecDepth 65536 in
theorem w_t2 : ((words1.drop 24).take 24).all (fun c => isCode c || c.before args0 about1) = true := by decide +kernel
set_option maxRecDepth 65536 in
theorem w_t3 : (((words1.drop 24).drop 24).take 24).all (fun c => isCode c || c.before args0 about1) = true := by decide +kernel
set_option maxRecDepth 65536 in
theorem w_t4 : ((((words1.drop 24).drop 24).drop 24).take 24).all (fun c => isCode c || c.before args0 about1) = true := by decide +kernel
set_option maxRecDepth 65536 in
theorem w_t5 : (((((words1.drop 24).drop 24).drop 24).drop 24).take 24).all (fun c => isCode c || c.before args0 about1) = true := by decide +kernel
set_option maxRecDepth 65536 in
theorem w_t6 : ((((((words1.drop 24).drop 24).drop 24).drop 24).drop 24).take 24).all (fun c => isCode c || c.before args0 about1) = true := by decide +kernel
set_option maxRecDepth 65536 in
theorem w_t7 : (((((((words1.drop 24).drop 24).drop 24).drop 24).drop 24).drop 24).take 24).all (fun c => isCode c || c.before args0 about1) = true := by decide +kernel
set_option maxRecDepth 65536 in
theorem w_t8 : ((((((((words1.drop 24).drop 24).drop 24).drop 24).drop 24).drop 24).drop 24).take 24).all (fun c => isCode c || c.before args0 about1) = true := by decide +kernel
set_option maxRecDepth 65536 in
theorem w_t9 : (((((((((words1.drop 24).drop 24).drop 24).drop 24).drop 24).drop 24).drop 24).drop 24).take 24).all (fun c => isCode c || c.before args0 about1) = true := by decide +kernel
set_option maxRecDepth 65536 in
theorem w_t10 : (((((((((words1.drop 24).drop 24).drop 24).drop 24).drop 24).drop 24).drop 24).drop 24).drop 24).all (fun c => isCode c || c.before args0 about1) = true := by decide +kernel
theorem w_tables : (allAtoms (Jvm.Cond.code x code maxLocals ret :: tables_1)).before args0 about1 = true := by
  rw [allAtoms_all]
  show words1.all (fun c => c.before args0 about1) = true
  refine all_split ?_ w_codes
  rw [← List.take_append_drop 24 words1, List.all_append, w_t1, ← List.take_append_drop 24 (words1.drop 24), List.all_append, w_t2, ← List.take_append_drop 24 ((words1.drop 24).drop 24), List.all_append, w_t3, ← List.take_append_drop 24 (((words1.drop 24).drop 24).drop 24), List.all_append, w_t4, ← List.take_append_drop 24 ((((words1.drop 24).drop 24).drop 24).drop 24), List.all_append, w_t5, ← List.take_append_drop 24 (((((words1.drop 24).drop 24).drop 24).drop 24).drop 24), List.all_append, w_t6, ← List.take_append_drop 24 ((((((words1.drop 24).drop 24).drop 24).drop 24).drop 24).drop 24), List.all_append, w_t7, ← List.take_append_drop 24 (((((((words1.drop 24).drop 24).drop 24).drop 24).drop 24).drop 24).drop 24), List.all_append, w_t8, ← List.take_append_drop 24 ((((((((words1.drop 24).drop 24).drop 24).drop 24).drop 24).drop 24).drop 24).drop 24), List.all_append, w_t9, w_t10]
  rfl
set_option maxRecDepth 65536 in
theorem w_rest : rest_1_c.before args0 about1 = true := by decide +kernel
set_option maxRecDepth 65536 in
theorem w_case : (Jvm.Cond.and given_1 narrow_1).before args0 about1 = true := by decide +kernel
theorem w_applies : (headSpec (Jvm.Cond.code x code maxLocals ret :: tables_1) room_1).applies x e0.platform about1 = true :=
  (Spec.applies_iff w_frames).mpr ⟨w_running, w_runnable, w_alone, w_named, w_hears, w_ripe, w_room, w_tables⟩
theorem atStart : AtStart classFile x code maxLocals ret World_1 tables_1 room_1 Calls_1 rest_1 Pre_1 launch0 p0 e0 about1 theMethod args0 below0 :=
  ⟨lists_1, trivial, launch0.admits_env _ _ _, launch0.least_env, fairChoices_fair.cas, fairChoices_fair.clock, w_frames, w_args, w_heap, w_applies, trivial, w_rest, w_case⟩
end start1
theorem witness_1 : WitnessClaimed_1 := ⟨start1.p0, start1.e0, start1.about1, start1.theMethod, start1.args0, start1.below0, start1.atStart⟩
end Jvm.Pilot.@@N@@
