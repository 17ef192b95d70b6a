import JvmDerived
import JvmDerived.Pilot.@@N@@Statement
import JvmDerived.Pilot.@@N@@Code
set_option linter.unusedVariables false
set_option linter.unusedSimpArgs false
@@BLOCK:NumsL.lean.txt@@

namespace Jvm.OwnKit
open Sem ClassFile Op Lib Jvm.Stand Jvm.Free Jvm.LawKit Jvm.RoadKit
section Own
variable {p : Program} {l : Launch} {e : Env} {R : Room} {s : State} {m : MethodId} {args : Array Value} {below : List Frame} {meth : Method} {c : Code} {T : State} {locs : List Loc} {cells slots : Nat} {Q : Option Value → Heap → List Loc → Prop} {C S : Nat}
/-- what a body owes from a state on -/
def Fin (p : Program) (e : Env) (below : List Frame) (s : State) (Q : Option Value → Heap → List Loc → Prop) (C S : Nat) (st : State) : Prop :=
  ∃ s₂ o, Steps p.tables e below st s₂ ∧ s₂.status = .running ∧ Ended s₂ below o ∧ ∃ v L, o = .returned v ∧ Q v s₂.heap L ∧ FrameEnd s o s₂ L C S
theorem Fin.step {st st' : State} (h : ∀ t, Steps p.tables e below st' t → Steps p.tables e below st t) (k : Fin p e below s Q C S st') : Fin p e below s Q C S st := by
  obtain ⟨s₂, o, h1, h2⟩ := k
  exact ⟨s₂, o, h _ h1, h2⟩
theorem Fin.ret (X : Stand p l e R s m args below meth c T locs cells slots) {v : Option Value} {g : JFrame} (hv : meth.sig.returnType = none → v = none) (hlocks : meth.locks = false)
    (hst : ∀ fs, (∀ (f : JFrame) (acts : List Action), f.method = m → f.locked = none → f.entered = [] → (doReturn e (T.setTop f) acts v).1 = T.setFrames fs) → Steps p.tables e below (T.setTop g) (T.setFrames fs))
    (hC : cells ≤ C) (hS : slots ≤ S) (q : Q v T.heap locs) : Fin p e below s Q C S (T.setTop g) := by
  obtain ⟨fs, hr, hrun, hended, hW, hsame⟩ := X.leave (v := v) hv hlocks
  exact ⟨_, _, hst fs hr, hrun, hended, _, _, rfl, q, ⟨_, rfl⟩, hW, hsame.mono hC hS⟩
theorem Fin.retI (X : Stand p l e R s m args below meth c T locs cells slots) (hx : p.tables.exec = Jvm.exec) {pc : Nat} {Ls : Array Slot} {z : Int32} {rest : List Value} (hret : meth.sig.returnType = some .int) (hlocks : meth.locks = false) (hd : decode c.code pc = .ok (.ireturn, 1))
    (hC : cells ≤ C) (hS : slots ≤ S) (q : Q (some (.int z)) T.heap locs) : Fin p e below s Q C S (T.setTop (mkF m pc Ls (.int z :: rest))) :=
  Fin.ret X (fun h => by rw [hret] at h; cases h) hlocks (fun fs hl => retOut X hx hret rfl (Or.inl ⟨rfl, Or.inl rfl, z, rfl⟩) hd hl) hC hS q
theorem Fin.retJ (X : Stand p l e R s m args below meth c T locs cells slots) (hx : p.tables.exec = Jvm.exec) {pc : Nat} {Ls : Array Slot} {z : Int64} {rest : List Value} (hret : meth.sig.returnType = some .long) (hlocks : meth.locks = false) (hd : decode c.code pc = .ok (.lreturn, 1))
    (hC : cells ≤ C) (hS : slots ≤ S) (q : Q (some (.long z)) T.heap locs) : Fin p e below s Q C S (T.setTop (mkF m pc Ls (.long z :: rest))) :=
  Fin.ret X (fun h => by rw [hret] at h; cases h) hlocks (fun fs hl => retOut X hx hret rfl (Or.inr (Or.inl ⟨rfl, rfl, z, rfl⟩)) hd hl) hC hS q
theorem Fin.retD (X : Stand p l e R s m args below meth c T locs cells slots) (hx : p.tables.exec = Jvm.exec) {pc : Nat} {Ls : Array Slot} {z : UInt64} {rest : List Value} (hret : meth.sig.returnType = some .double) (hlocks : meth.locks = false) (hd : decode c.code pc = .ok (.dreturn, 1))
    (hC : cells ≤ C) (hS : slots ≤ S) (q : Q (some (.double z)) T.heap locs) : Fin p e below s Q C S (T.setTop (mkF m pc Ls (.double z :: rest))) :=
  Fin.ret X (fun h => by rw [hret] at h; cases h) hlocks (fun fs hl => retOut X hx hret rfl (Or.inr (Or.inr (Or.inl ⟨rfl, rfl, z, rfl⟩))) hd hl) hC hS q
theorem Fin.retR (X : Stand p l e R s m args below meth c T locs cells slots) (hx : p.tables.exec = Jvm.exec) {pc : Nat} {Ls : Array Slot} {w : Value} {t : FieldType} {rest : List Value} (hret : meth.sig.returnType = some t) (ht : t.isReference = true) (hw : w.isRef = true) (hlocks : meth.locks = false) (hd : decode c.code pc = .ok (.areturn, 1))
    (hC : cells ≤ C) (hS : slots ≤ S) (q : Q (some w) T.heap locs) : Fin p e below s Q C S (T.setTop (mkF m pc Ls (w :: rest))) :=
  Fin.ret X (fun h => by rw [hret] at h; cases h) hlocks (fun fs hl => retOut X hx hret (by cases t <;> simp [FieldType.isReference] at ht <;> cases w <;> simp [Value.isRef] at hw <;> rfl) (Or.inr (Or.inr (Or.inr (Or.inr ⟨rfl, ht, hw⟩)))) hd hl) hC hS q
theorem Fin.retN (X : Stand p l e R s m args below meth c T locs cells slots) (hx : p.tables.exec = Jvm.exec) {pc : Nat} {Ls : Array Slot} {z : Int32} {t : FieldType} {rest : List Value} (hret : meth.sig.returnType = some t) (ht : t = .boolean ∨ t = .byte ∨ t = .char ∨ t = .short) (hlocks : meth.locks = false) (hd : decode c.code pc = .ok (.ireturn, 1))
    (hC : cells ≤ C) (hS : slots ≤ S) (q : Q (some (.int (nar t z))) T.heap locs) : Fin p e below s Q C S (T.setTop (mkF m pc Ls (.int z :: rest))) :=
  Fin.ret X (fun h => by rw [hret] at h; cases h) hlocks (fun fs hl => RoadKit.retN X hx hret ht hd hl) hC hS q
theorem Fin.retV (X : Stand p l e R s m args below meth c T locs cells slots) (hx : p.tables.exec = Jvm.exec) {pc : Nat} {Ls : Array Slot} (hret : meth.sig.returnType = none) (hlocks : meth.locks = false) (hd : decode c.code pc = .ok (.return_, 1))
    (hC : cells ≤ C) (hS : slots ≤ S) (q : Q none T.heap locs) : Fin p e below s Q C S (T.setTop (mkF m pc Ls [])) :=
  Fin.ret X (fun _ => rfl) hlocks (fun fs hl => X.returnOut hx hret hd hl) hC hS q
/-- the same where the walk may intern: the end's frame is ReturnedEndW -/
def FinW (p : Program) (e : Env) (below : List Frame) (s : State) (Q : Option Value → Heap → List Loc → Prop) (C S : Nat) (st : State) : Prop :=
  ∃ s₂ o, Steps p.tables e below st s₂ ∧ s₂.status = .running ∧ Ended s₂ below o ∧ ∃ v L, o = .returned v ∧ Q v s₂.heap L ∧ ReturnedEndW s o s₂ L C S
theorem FinW.step {st st' : State} (h : ∀ t, Steps p.tables e below st' t → Steps p.tables e below st t) (k : FinW p e below s Q C S st') : FinW p e below s Q C S st := by
  obtain ⟨s₂, o, h1, h2⟩ := k
  exact ⟨s₂, o, h _ h1, h2⟩
theorem FinW.ret {vm₁ : Vm} (X : Stand p l e R (s.setVm vm₁) m args below meth c T locs cells slots) {n : Nat} (hS : s.Since vm₁ n) (hn : n ≤ T.heap.size) {v : Option Value} {g : JFrame} (hv : meth.sig.returnType = none → v = none) (hlocks : meth.locks = false)
    (hst : ∀ fs, (∀ (f : JFrame) (acts : List Action), f.method = m → f.locked = none → f.entered = [] → (doReturn e (T.setTop f) acts v).1 = T.setFrames fs) → Steps p.tables e below (T.setTop g) (T.setFrames fs))
    (hC : cells ≤ C) (hS' : slots ≤ S) (q : Q v T.heap locs) : FinW p e below s Q C S (T.setTop g) := by
  obtain ⟨fs, hr, hrun, hended, hW⟩ := X.leaveW hS hn (v := v) hv hlocks
  exact ⟨_, _, hst fs hr, hrun, hended, _, _, rfl, q, hW.1, hW.2.1, hW.2.2.1, hW.2.2.2.mono hC hS'⟩
theorem FinW.retN {vm₁ : Vm} (X : Stand p l e R (s.setVm vm₁) m args below meth c T locs cells slots) {n : Nat} (hS : s.Since vm₁ n) (hn : n ≤ T.heap.size) (hx : p.tables.exec = Jvm.exec) {pc : Nat} {Ls : Array Slot} {z : Int32} {t : FieldType} {rest : List Value} (hret : meth.sig.returnType = some t) (ht : t = .boolean ∨ t = .byte ∨ t = .char ∨ t = .short) (hlocks : meth.locks = false) (hd : decode c.code pc = .ok (.ireturn, 1))
    (hC : cells ≤ C) (hS' : slots ≤ S) (q : Q (some (.int (nar t z))) T.heap locs) : FinW p e below s Q C S (T.setTop (mkF m pc Ls (.int z :: rest))) :=
  FinW.ret X hS hn (fun h => by rw [hret] at h; cases h) hlocks (fun fs hl => RoadKit.retN X hx hret ht hd hl) hC hS' q
theorem FinW.retR {vm₁ : Vm} (X : Stand p l e R (s.setVm vm₁) m args below meth c T locs cells slots) {n : Nat} (hS : s.Since vm₁ n) (hn : n ≤ T.heap.size) (hx : p.tables.exec = Jvm.exec) {pc : Nat} {Ls : Array Slot} {w : Value} {t : FieldType} {rest : List Value} (hret : meth.sig.returnType = some t) (ht : t.isReference = true) (hw : w.isRef = true) (hlocks : meth.locks = false) (hd : decode c.code pc = .ok (.areturn, 1))
    (hC : cells ≤ C) (hS' : slots ≤ S) (q : Q (some w) T.heap locs) : FinW p e below s Q C S (T.setTop (mkF m pc Ls (w :: rest))) :=
  FinW.ret X hS hn (fun h => by rw [hret] at h; cases h) hlocks (fun fs hl => retOut X hx hret (by cases t <;> simp [FieldType.isReference] at ht <;> cases w <;> simp [Value.isRef] at hw <;> rfl) (Or.inr (Or.inr (Or.inr (Or.inr ⟨rfl, ht, hw⟩)))) hd hl) hC hS' q
theorem recast {locs' : List Loc} {cells' slots' : Nat} (X : Stand p l e R s m args below meth c T locs cells slots) (h1 : locs = locs') (h2 : cells = cells') (h3 : slots = slots') : Stand p l e R s m args below meth c T locs' cells' slots' := by
  subst h1 h2 h3; exact X
theorem Fld.cast {Z : State} {h : Heap} {a : Addr} {C n d : String} {v w : Value} (F : Fld Z h a C n d v) (e : v = w) : Fld Z h a C n d w := e ▸ F
theorem Sta_keep {Z : State} {h h' : Heap} {C n d : String} {v : Value} (F : Sta Z h C n d v) (K : Keep h h' []) : Sta Z h' C n d v := by
  obtain ⟨cf, i, k, f, st, cell, h1, h2, h3, h4, h5, r⟩ := F
  exact ⟨cf, i, k, f, st, cell, h1, h2, h3, h4, K.2.1 _ _ h5 nin0, r⟩
def Nst (h : Heap) (a : Addr) : Prop := ∃ c : Cell, h[a]? = some c ∧ c.vm.isStatics = false
theorem Nst.lt {h : Heap} {a : Addr} (F : Nst h a) : a < h.size := by obtain ⟨c, h1, -⟩ := F; exact (Array.getElem?_eq_some_iff.mp h1).1
theorem Nst.ext {h h' : Heap} {a : Addr} (F : Nst h a) (E : Ext h h') : Nst h' a := by obtain ⟨c, h1, h2⟩ := F; exact ⟨c, E.2 _ _ h1, h2⟩
theorem Nst.wr {h h' : Heap} {a b : Addr} {sl : Nat} {v : Value} (F : Nst h a) (W : Wr h h' b sl v) : Nst h' a := by
  obtain ⟨c, h1, h2⟩ := F
  obtain ⟨d, a1, -, a3, -⟩ := wr_at W h1
  exact ⟨d, a1, by rw [a3]; exact h2⟩
theorem Nst.keep {h h' : Heap} {a : Addr} {ws : List Addr} (F : Nst h a) (K : Keep h h' ws) : Nst h' a := by
  obtain ⟨c, h1, h2⟩ := F
  obtain ⟨d, q, -, r2, -⟩ := K.2.2 _ _ h1
  exact ⟨d, q, by rw [r2]; exact h2⟩
theorem nsE {Z : State} {h : Heap} {a : Addr} {C : String} (F : Exa Z h a C) : Nst h a := by
  obtain ⟨cell, k, h1, -, -, h4, -⟩ := F; exact ⟨cell, h1, h4⟩
theorem nsV {Z : State} {h : Heap} {a : Addr} {k : ClassId} {ty : FieldType} {n : Int32} {vs : List Value} {d : Value} (F : Arv Z h a k ty n vs d) : Nst h a := by
  obtain ⟨cell, A, -⟩ := F; exact ⟨cell, A.1, A.plain⟩
theorem Sta_keepW {Z : State} {h h' : Heap} {C n d : String} {v : Value} {ws : List Addr} (F : Sta Z h C n d v) (K : Keep h h' ws) (q : ∀ x ∈ ws, Nst h x) : Sta Z h' C n d v := by
  obtain ⟨cf, i, k, f, st, cell, h1, h2, h3, h4, h5, h6, r⟩ := F
  refine ⟨cf, i, k, f, st, cell, h1, h2, h3, h4, K.2.1 _ _ h5 fun hm => ?_, h6, r⟩
  obtain ⟨c, q1, q2⟩ := q _ hm
  cases h5.symm.trans q1
  rw [h6] at q2; cases q2
theorem Arr_keep {Z : State} {h h' : Heap} {a : Addr} {c : Cell} {ty : FieldType} (F : Arr Z h a c ty) (K : Keep h h' []) : Arr Z h' a c ty := ⟨K.2.1 _ _ F.1 nin0, F.2⟩
/-- the shifts without sign -/
def ushL (x : Int64) (k : Int32) : Int64 := (x.toUInt64 >>> (k &&& 0x3f).toInt64.toUInt64).toInt64
def ushI (x k : Int32) : Int32 := (x.toUInt32 >>> (k &&& 31).toUInt32).toInt32
theorem lcE {x y : Int64} (h : x = y) : lcmpW x y = 0 := by rw [lcW]; exact (lc_eq x y).mpr h
theorem lcNE {x y : Int64} (h : ¬ x = y) : ¬ lcmpW x y = 0 := fun q => h ((lc_eq x y).mp (by rw [← lcW]; exact q))
theorem lcL {x y : Int64} (h : x < y) : lcmpW x y < 0 := by rw [lcW]; exact (lc_lt x y).mpr h
theorem lcNL {x y : Int64} (h : ¬ x < y) : ¬ lcmpW x y < 0 := fun q => h ((lc_lt x y).mp (by rw [← lcW]; exact q))
theorem lcG {x y : Int64} (h : y < x) : 0 < lcmpW x y := by rw [lcW]; exact (lc_gt x y).mpr h
theorem lcNG {x y : Int64} (h : ¬ y < x) : ¬ 0 < lcmpW x y := fun q => h ((lc_gt x y).mp (by rw [← lcW]; exact q))
end Own
end Jvm.OwnKit
namespace Jvm.OwnKit
open Sem ClassFile Op Lib Jvm.Stand Jvm.Free Jvm.LawKit Jvm.RoadKit
section Hot
variable {p : Program} {l : Launch} {e : Env} {R : Room} {s : State} {m : MethodId} {args : Array Value} {below : List Frame} {meth : Method} {c : Code} {T : State} {locs : List Loc} {cells slots : Nat} {Z : State} {a0 : Array Value} {h : Heap}
/-- getfield at a resolved entry -/
theorem getHot (X : Stand p l e R s m args below meth c T locs cells slots) (hx : p.tables.exec = Jvm.exec) (hZ : Z.Warmed39 s.vm) {own C n d : String} {index : Nat} (hown : s.vm.findClass own = some m.cls) (w : (Cond.fieldRef own index C n d).before a0 Z = true)
    (eT : T.heap = h) {a : Addr} {v : Value} (F : Fld Z h a C n d v) {g : JFrame} (hg : g.method = m) {rest : List Value} (hs : g.stack = .ref a :: rest) (hd : decode c.code g.pc = .ok (.getfield index, 3)) :
    ∀ target, Steps p.tables e below (T.setTop { g with pc := g.pc + 3, stack := v :: rest }) target → Steps p.tables e below (T.setTop g) target := by
  obtain ⟨cell, cf, k, i, f, h1, h2, h3, h4, -, -, h7⟩ := F
  have hT := wtrans hZ X.warmed
  have wU : (Cond.fieldRef own index C n d).before a0 (Z.setVm T.vm) = true := Cond.fieldRef_warmed39 hT w
  obtain ⟨k', hi, -⟩ := State.fieldFound?_setVm (s := Z) hT.alike h2
  obtain ⟨c2, k2, i2, f2, q1, q2⟩ := Cond.fieldRef_spec (cur := m.cls) (by show T.vm.findClass own = _; rw [X.warmed.alike.findClass]; exact hown) wU
  cases hi.symm.trans q1
  intro target k0
  exact (getfieldR X hx hg q2 h3 hs (by rw [eT]; exact h1) h4 h7 hd (Steps.refl _)).trans k0
theorem hotEntry (e : Env) (hT : Z.Warmed39 T.vm) {own : String} {index cur : Nat} {y : MethodName} (hcur : T.vm.findClass own = some cur) (w : (Cond.methodRef own index y).before a0 Z = true) {mk : MethodId} (hn : Z.methodNamed? y = some mk)
    (hy : y.cls ≠ "java/lang/invoke/MethodHandle" ∧ y.cls ≠ "java/lang/invoke/VarHandle") : T.vm.methodReady cur index mk ∧ namesResolved T.vm cur index mk.cls := by
  have wU : (Cond.methodRef own index y).before a0 (Z.setVm T.vm) = true := Cond.methodRef_warmed39 hT hn hy w
  have hnU : (Z.setVm T.vm).methodNamed? y = some mk := by rw [State.methodNamed?_setVm hT.alike]; exact hn
  have hcU : (Z.setVm T.vm).vm.findClass own = some cur := hcur
  obtain ⟨m2, c2, ci, b, q1, q2, q3, q4, q5⟩ := Cond.methodRef_spec (e := e) hcU wU
  cases (State.methodFound?_of_named hnU hy).symm.trans q1
  have e3 : c2 = mk.cls := Option.some.inj (q3.symm.trans (findClass_of_methodNamed hnU))
  subst e3
  refine ⟨q2, ?_⟩
  simp only [Cond.before, Cond.holds, Cond.value, hcU, q1, beq_iff_eq, Option.some.injEq, Bool.and_eq_true, decide_eq_true_eq] at wU
  obtain ⟨⟨hnames, -⟩, -⟩ := wU
  obtain ⟨cp, hcp, hnm⟩ := State.names_spec hnames
  obtain ⟨ci', nt, hentry, hnt, -⟩ := namesOf?_method hnm
  obtain ⟨k, cf, hk, hcf, rfl⟩ := State.poolOf?_spec hcU hcp
  obtain ⟨b', hask⟩ := memberRef_ask' (e := e) hk hcf hentry hnt
  cases q4.symm.trans hask
  exact ⟨k, cf, ci, nt, hk, hcf, hentry, q5⟩
/-- invokespecial of a constructor at a resolved entry -/
theorem specialHot (X : Stand p l e R s m args below meth c T locs cells slots) (hx : p.tables.exec = Jvm.exec) (hZ : Z.Warmed39 s.vm) {own : String} {index : Nat} {y : MethodName} (hy1 : y.name = "<init>")
    (hown : s.vm.findClass own = some m.cls) (w : (Cond.methodRef own index y).before a0 Z = true) (hinst : (Cond.instanceMethod y).before a0 Z = true) {bytes : ByteArray} {maxL : Nat} (hcode : (Cond.code y bytes maxL none).before a0 Z = true)
    (hy : y.cls ≠ "java/lang/invoke/MethodHandle" ∧ y.cls ≠ "java/lang/invoke/VarHandle") {W : Nat} {Pre : Pt → Array Value → Prop} {Post : Pt → Array Value → Option Value → Pt → Prop} (hK : Back l R p e below s args y 3 W Pre Post)
    {g : JFrame} (hg : g.method = m) (hsize : g.locals.size = c.maxLocals) {s₀ : State} (hcome : Steps p.tables e below s₀ (T.setTop g)) {a : Addr} {argsL rest : List Value}
    (hlen : ∀ sig, parseMethodDescriptor y.desc = some sig → argsL.length = sig.parameters.length) (hstack : g.stack = argsL.reverse ++ .ref a :: rest) (hW : 2 * g.monitorRoom + (rest.map fun v => v.category).sum ≤ W)
    (hdg : decode c.code g.pc = .ok (.invokespecial index, 3)) (hpre : ∀ vm₁, s.WarmedH vm₁ → Pre ⟨T.setVm vm₁, locs, cells, slots⟩ (.ref a :: argsL).toArray) :
    ∃ (v : Option Value) (vm₁ : Vm) (B : Pt), s.WarmedH vm₁ ∧ Stand p l e R s m args below meth c B.U B.locs B.cells B.slots ∧ Post ⟨T.setVm vm₁, locs, cells, slots⟩ (.ref a :: argsL).toArray v B ∧
      Steps p.tables e below s₀ (B.U.setTop { g with pc := g.pc + 3, stack := v.toList ++ rest }) := by
  have eV : T.setVm T.vm = T := rfl
  have hT := wtrans hZ X.warmed
  obtain ⟨mk, methM, hnZ, hmZ, hst, hab⟩ := Cond.instanceMethod_spec hinst
  obtain ⟨m2, cM, hm2, -, -, -, -, -, -, hsig⟩ := Cond.code_spec hnZ hcode
  cases hmZ.symm.trans hm2
  obtain ⟨hr, hnm⟩ := hotEntry e hT (cur := m.cls) (by rw [X.warmed.alike.findClass]; exact hown) w hnZ hy
  obtain ⟨kO, hkO, -⟩ := className_of_methodNamed hnZ
  obtain ⟨hnameM, hdescM⟩ := name_of_methodNamed hnZ hmZ
  obtain ⟨k2, hk2, -⟩ := hT.alike.2.2 _ _ hkO
  have hmT : T.vm.method? mk = some methM := by rw [hT.alike.method?]; exact hmZ
  have hfound : lookupSpecial T.vm mk.cls "<init>" methM.desc = .method mk := by
    rw [hT.alike.lookupSpecial, hdescM, ← hy1]; exact lookupSpecial_of_named hnZ hmZ hst
  have hns : s.methodNamed? y = some mk := by
    have q : (Z.setVm s.vm).methodNamed? y = some mk := by rw [State.methodNamed?_setVm hZ.alike]; exact hnZ
    exact q
  obtain ⟨v, B, X', hpost, hsteps⟩ := hK m meth c ⟨T, locs, cells, slots⟩ { g with stack := rest } (.invokespecial index) mk (.ref a :: argsL).toArray X hg hsize hdg hW (X.named hns) (eV ▸ hpre T.vm X.warmed)
  refine ⟨v, T.vm, B, X.warmed, X', eV.symm ▸ hpost, (hcome.trans ?_).trans hsteps⟩
  subst hg
  jvm_step X.here [hx, hdg, invokespecial.wp_init (e := e) (s := T) (k := k2) (meth := methM) (m := mk) (a := a) (args := argsL) (rest := rest) (f := g) X.here.top hnm hr hk2 hmT (by rw [hnameM]; exact hy1) hst hab hfound (hlen _ hsig) hstack]
  intro acts
  rw [doInvoke_state]
  exact Steps.refl _
/-- invokevirtual of a private method at a resolved entry -/
theorem privateHot (X : Stand p l e R s m args below meth c T locs cells slots) (hx : p.tables.exec = Jvm.exec) (hZ : Z.Warmed39 s.vm) {own : String} {index : Nat} {y : MethodName}
    (hown : s.vm.findClass own = some m.cls) (w : (Cond.methodRef own index y).before a0 Z = true) (hinst : (Cond.instanceMethod y).before a0 Z = true) (hpriv : (Cond.privateMethod y).before a0 Z = true) {ni : Nat} (hins : (Cond.instantiable y.cls ni).before a0 Z = true) {bytes : ByteArray} {maxL : Nat} {ret : Option FieldType} (hcode : (Cond.code y bytes maxL ret).before a0 Z = true)
    (hy : y.cls ≠ "java/lang/invoke/MethodHandle" ∧ y.cls ≠ "java/lang/invoke/VarHandle") {W : Nat} {Pre : Pt → Array Value → Prop} {Post : Pt → Array Value → Option Value → Pt → Prop} (hK : Back l R p e below s args y 3 W Pre Post)
    {g : JFrame} (hg : g.method = m) (hsize : g.locals.size = c.maxLocals) {s₀ : State} (hcome : Steps p.tables e below s₀ (T.setTop g)) {a : Addr} {cell : Cell} (hcell : T.heap[a]? = some cell) (hobj : ∀ q, cell.vm ≠ .statics q) {argsL rest : List Value}
    (hlen : ∀ sig, parseMethodDescriptor y.desc = some sig → argsL.length = sig.parameters.length) (hstack : g.stack = argsL.reverse ++ .ref a :: rest) (hW : 2 * g.monitorRoom + (rest.map fun v => v.category).sum ≤ W)
    (hdg : decode c.code g.pc = .ok (.invokevirtual index, 3)) (hpre : ∀ vm₁, s.WarmedH vm₁ → Pre ⟨T.setVm vm₁, locs, cells, slots⟩ (.ref a :: argsL).toArray) :
    ∃ (v : Option Value) (vm₁ : Vm) (B : Pt), s.WarmedH vm₁ ∧ Stand p l e R s m args below meth c B.U B.locs B.cells B.slots ∧ Post ⟨T.setVm vm₁, locs, cells, slots⟩ (.ref a :: argsL).toArray v B ∧
      Steps p.tables e below s₀ (B.U.setTop { g with pc := g.pc + 3, stack := v.toList ++ rest }) := by
  have eV : T.setVm T.vm = T := rfl
  have hT := wtrans hZ X.warmed
  obtain ⟨mk, methM, hnZ, hmZ, hst, hab⟩ := Cond.instanceMethod_spec hinst
  obtain ⟨m2, cM, hm2, -, -, -, -, -, -, hsig⟩ := Cond.code_spec hnZ hcode
  cases hmZ.symm.trans hm2
  obtain ⟨hr, hnm⟩ := hotEntry e hT (cur := m.cls) (by rw [X.warmed.alike.findClass]; exact hown) w hnZ hy
  obtain ⟨kO, hkO, hnO⟩ := className_of_methodNamed hnZ
  obtain ⟨c3, k3, z1, z2, -, z3, -⟩ := Cond.instantiable_spec hins
  cases z1.symm.trans (findClass_of_methodNamed hnZ)
  cases hkO.symm.trans z2
  have hni : kO.isInterface = false := by revert z3; cases kO.isInterface <;> simp
  obtain ⟨k2, hk2, he2⟩ := hT.alike.2.2 _ _ hkO
  have hni2 : k2.isInterface = false := by rw [he2]; exact hni
  have hmT : T.vm.method? mk = some methM := by rw [hT.alike.method?]; exact hmZ
  have hp : methM.isPrivate = true := Cond.privateMethod_at hpriv mk methM hnZ hmZ
  have hpoly : signaturePolymorphic k2 methM = false := by
    have : k2.name = y.cls := by rw [he2]; exact hnO
    simp [signaturePolymorphic, this, hy.1, hy.2]
  have hns : s.methodNamed? y = some mk := by
    have q : (Z.setVm s.vm).methodNamed? y = some mk := by rw [State.methodNamed?_setVm hZ.alike]; exact hnZ
    exact q
  obtain ⟨v, B, X', hpost, hsteps⟩ := hK m meth c ⟨T, locs, cells, slots⟩ { g with stack := rest } (.invokevirtual index) mk (.ref a :: argsL).toArray X hg hsize hdg hW (X.named hns) (eV ▸ hpre T.vm X.warmed)
  refine ⟨v, T.vm, B, X.warmed, X', eV.symm ▸ hpost, (hcome.trans ?_).trans hsteps⟩
  subst hg
  jvm_step X.here [hx, hdg, invokevirtual.wp_named (e := e) (s := T) (f := g) (r := mk) (m := mk) (c' := mk.cls) (k := k2) (k' := k2) (mk := k2) (rmeth := methM) (meth := methM) (a := a) (args := argsL) (rest := rest) (cell := cell)
    X.here.top hnm hk2 hni2 hr hk2 hmT hpoly hst (hlen _ hsig) hstack hcell hobj (selectMethod_private hmT hp) hmT hab hk2 hni2]
  intro acts
  rw [doInvoke_state]
  exact Steps.refl _
/-- the class of that name is no interface -/
def NI (Z : State) (C : String) : Prop := ∀ c k, Z.vm.findClass C = some c → Z.vm.classes[c]? = some k → k.isInterface = false
theorem NI.inst {C : String} {n : Nat} (w : (Cond.instantiable C n).before a0 Z = true) : NI Z C := fun c k h1 h2 => by
  obtain ⟨c3, k3, z1, z2, -, z3, -⟩ := Cond.instantiable_spec w
  cases h1.symm.trans z1
  cases h2.symm.trans z2
  revert z3; cases k.isInterface <;> simp
theorem NI.sel {C : String} {x y : MethodName} (w : (Cond.selects C x y).before a0 Z = true) : NI Z y.cls := fun c k h1 h2 => by
  obtain ⟨c2, r2, m2, -, -, q3, -, kP, hkP, hkPi⟩ := Cond.selects_spec w
  cases h1.symm.trans (findClass_of_methodNamed q3)
  cases h2.symm.trans hkP
  exact hkPi
theorem same_of {y : MethodName} (N : NI Z y.cls) (wi : (Cond.instanceMethod y).before a0 Z = true) (hy : y.cls ≠ "java/lang/invoke/MethodHandle" ∧ y.cls ≠ "java/lang/invoke/VarHandle") : (Cond.sameMethod y.cls y.cls y.name y.desc).before a0 Z = true := by
  obtain ⟨mk, methM, hnZ, hmZ, -, -⟩ := Cond.instanceMethod_spec wi
  obtain ⟨k, hk, -⟩ := className_of_methodNamed hnZ
  have hc := findClass_of_methodNamed hnZ
  simp only [Cond.before, Cond.holds, Cond.value, hc, State.methodFound?_of_named hnZ hy]
  simp [hnZ, hk, N _ _ hc hk]
theorem sel_of {y : MethodName} (N : NI Z y.cls) (wi : (Cond.instanceMethod y).before a0 Z = true) (wp : (Cond.privateMethod y).before a0 Z = true) (hy : y.cls ≠ "java/lang/invoke/MethodHandle" ∧ y.cls ≠ "java/lang/invoke/VarHandle") : (Cond.selects y.cls y y).before a0 Z = true := by
  obtain ⟨mk, methM, hnZ, hmZ, -, -⟩ := Cond.instanceMethod_spec wi
  obtain ⟨k, hk, -⟩ := className_of_methodNamed hnZ
  have hc := findClass_of_methodNamed hnZ
  exact selects_self_of_private hc hk (N _ _ hc hk) (Cond.privateMethod_at wp) wi hy
theorem nf_of {y : MethodName} (hZ : Z.Warmed39 s.vm) (N : NI Z y.cls) : NotFace s y := fun r0 h0 => by
  obtain ⟨k, hk, -⟩ := className_of_methodNamed h0
  have hc := findClass_of_methodNamed h0
  rw [hZ.alike.findClass] at hc
  obtain ⟨kZ, hkZ, -⟩ := Vm.findClass_spec hc
  obtain ⟨k', q1, q2⟩ := hZ.alike.2.2 _ _ hkZ
  cases hk.symm.trans q1
  have ni := N _ _ hc hkZ
  exact ⟨k, hk, by rw [q2]; exact ni⟩
end Hot
end Jvm.OwnKit
namespace Jvm.OwnKit
open Sem ClassFile Op Lib Jvm.Stand Jvm.Free Jvm.LawKit Jvm.RoadKit
section Terse
abbrev u_ : Slot := .unset
variable {p : Program} {l : Launch} {e : Env} {R : Room} {s : State} {m : MethodId} {args : Array Value} {below : List Frame} {meth : Method} {c : Code} {T : State} {locs : List Loc} {cells slots : Nat} {Z : State} {a0 : Array Value} {h : Heap} {Q : Option Value → Heap → List Loc → Prop} {C S : Nat}
/-- a body's contract, written short -/
abbrev Met1 (l : Launch) (y : MethodName) (bytes : ByteArray) (ml : Nat) (ret : Option FieldType) (ws : List Cond) (R : Room) (A : Array Value) (Z : State) (h0 : Heap) (Q : Option Value → Heap → List Loc → Prop) : Prop :=
  MetFree l y (head1 (Cond.code y bytes ml ret :: ws) R) (fun a U => a = A ∧ Z.Warmed39 U.vm ∧ U.heap = h0) (fun _ _ _ _ _ => True) (fun _ U o U' => ∃ v L, o = .returned v ∧ Q v U'.heap L ∧ FrameEnd U o U' L R.cells R.slots)
theorem Met1.enter {y : MethodName} {bytes : ByteArray} {ml : Nat} {ret : Option FieldType} {ws : List Cond} {A : Array Value} {h0 : Heap} (hp : plainFor y = true) {Ls : Array Slot} (ef : ∀ m, entryFrame m A ml = mkF m 0 Ls [])
    (k : ∀ (p : Program) (e : Env) (s : State) (m : MethodId) (below : List Frame) (meth : Method) (c : Code) (s₁ : State), p.tables.exec = Jvm.exec → c.code = bytes → meth.locks = false → meth.sig.returnType = ret → c.maxLocals = ml → s.vm.findClass y.cls = some m.cls → meth.name = y.name → Z.Warmed39 s.vm → Stand p l e R s m A below meth c s₁ [] 0 0 → s₁.heap = h0 → Fin p e below s Q R.cells R.slots (s₁.setTop (mkF m 0 Ls []))) :
    Met1 l y bytes ml ret ws R A Z h0 Q := by
  refine MetFree.of_bodySF hp hisR ?_
  intro p e s m args below meth c s₁ Bd hml0 hP hK
  obtain ⟨rfl, hZ, hh⟩ := hP
  obtain ⟨s₂, o, h1, h2, h3, v, L, h4, h5, h6⟩ := k p e s m below meth c s₁ Bd.exec Bd.bytes (BodyLoose.notSynchronized Bd) Bd.returns hml0 (findClass_of_methodNamed Bd.named) (name_of_methodNamed Bd.named Bd.method).1 hZ (Stand.of_body Bd) (by rw [← hh, Bd.state]; rfl)
  exact ⟨s₂, o, castTop (ef m) h1, h2, h3, v, L, h4, h5, h6⟩
theorem pack {rm : Room} {s₀ : State} {G : Option Value → JFrame}
    (hh : ∃ (v : Option Value) (vm₁ : Vm) (B : Pt), s.WarmedH vm₁ ∧ Stand p l e R s m args below meth c B.U B.locs B.cells B.slots ∧ (fun (A : Pt) (_ : Array Value) (v : Option Value) (B : Pt) => ∃ L, Q v B.U.heap L ∧ B.locs = A.locs ++ L ∧ B.cells = A.cells + rm.cells ∧ B.slots = A.slots + rm.slots) ⟨T.setVm vm₁, locs, cells, slots⟩ #[] v B ∧ Steps p.tables e below s₀ (B.U.setTop (G v))) :
    ∃ v T' L, Stand p l e R s m args below meth c T' (locs ++ L) (cells + rm.cells) (slots + rm.slots) ∧ Q v T'.heap L ∧ ∀ t, Steps p.tables e below (T'.setTop (G v)) t → Steps p.tables e below s₀ t := by
  obtain ⟨v, vm₁, ⟨T', L1, k1, n1⟩, -, X, ⟨L, hQ, h1, h2, h3⟩, st⟩ := hh
  exact ⟨v, T', L, recast X h1 h2 h3, hQ, fun _ k => st.trans k⟩
theorem packS {rm : Room} {s₀ : State} {G : Option Value → JFrame}
    (hh : ∃ (v : Option Value) (vm₁ : Vm) (B : Pt), s.WarmedH vm₁ ∧ Stand p l e R s m args below meth c B.U B.locs B.cells B.slots ∧ (fun (A : Pt) (_ : Array Value) (v : Option Value) (B : Pt) => ∃ L, Q v B.U.heap L ∧ B.locs = A.locs ++ L ∧ B.cells = A.cells + rm.cells ∧ B.slots = A.slots + rm.slots) ⟨T.setVm vm₁, locs, cells, slots⟩ #[] v B ∧ ∀ t, Steps p.tables e below (B.U.setTop (G v)) t → Steps p.tables e below s₀ t) :
    ∃ v T' L, Stand p l e R s m args below meth c T' (locs ++ L) (cells + rm.cells) (slots + rm.slots) ∧ Q v T'.heap L ∧ ∀ t, Steps p.tables e below (T'.setTop (G v)) t → Steps p.tables e below s₀ t := by
  obtain ⟨v, vm₁, ⟨T', L1, k1, n1⟩, -, X, ⟨L, hQ, h1, h2, h3⟩, st⟩ := hh
  exact ⟨v, T', L, recast X h1 h2 h3, hQ, st⟩
theorem fget (X : Stand p l e R s m args below meth c T locs cells slots) (hx : p.tables.exec = Jvm.exec) (hZ : Z.Warmed39 s.vm) {own O n d : String} {index : Nat} (hown : s.vm.findClass own = some m.cls) (w : (Cond.fieldLink own index O n d).before a0 Z = true)
    (eT : T.heap = h) {a : Addr} {v : Value} (F : Fld Z h a O n d v) {pc : Nat} {Ls : Array Slot} {rest : List Value} (hd : decode c.code pc = .ok (.getfield index, 3))
    (k : ∀ T', Stand p l e R s m args below meth c T' locs cells slots → T'.heap = h → Fin p e below s Q C S (T'.setTop (mkF m (pc + 3) Ls (v :: rest)))) : Fin p e below s Q C S (T.setTop (mkF m pc Ls (.ref a :: rest))) := by
  obtain ⟨T', X', e', st⟩ := getF X hx hZ hown (host := "") (Or.inl w) Via.refl eT F (g := mkF m pc Ls (.ref a :: rest)) rfl rfl hd
  exact Fin.step st (k T' X' e')
theorem fald (X : Stand p l e R s m args below meth c T locs cells slots) (hx : p.tables.exec = Jvm.exec) (hZ : Z.Warmed39 s.vm) (eT : T.heap = h) {a : Addr} {kk : ClassId} {ty : FieldType} {n j : Int32} {vs : List Value} {d v : Value} (F : Arv Z h a kk ty n vs d) (hty : ty.isReference = true)
    (hj : ¬ j < 0 ∧ j < n) (gp : vs.getD j.toNatClampNeg d = v) {pc : Nat} {Ls : Array Slot} {rest : List Value} (hd : decode c.code pc = .ok (.aaload, 1))
    (k : Fin p e below s Q C S (T.setTop (mkF m (pc + 1) Ls (v :: rest)))) : Fin p e below s Q C S (T.setTop (mkF m pc Ls (.int j :: .ref a :: rest))) := by
  obtain ⟨cl, Ar, qa, sa, na, ha, ga⟩ := F
  have hin := inb_of (j := j) sa hj
  exact Fin.step (X.aaload hx (j := j) (v := v) (by rw [eT]; exact Ar.1) (State.isArrayOf_alike hZ.alike Ar.2.1) hty Ar.2.2 hin (ha.at hin gp) (g := mkF m pc Ls (.int j :: .ref a :: rest)) rfl rfl hd) k
theorem cst3 (X : Stand p l e R s m args below meth c T locs cells slots) (hx : p.tables.exec = Jvm.exec) (hZ : Z.Warmed39 s.vm) (eT : T.heap = h) {a : Addr} {kk : ClassId} {n j x : Int32} {vs : List Value} {d : Value} (F : Arv Z h a kk .char n vs d) (hj : ¬ j < 0 ∧ j < n) {ix : Nat} (hix : j.toNatClampNeg = ix) (hlen : ix < vs.length)
    {n0 : Nat} {h0 : Heap} {ws : List Addr} (N : Fr n0 locs) (hz : n0 ≤ h.size) (K : Keep h0 h ws) (g0 : n0 ≤ a) (hm : a ∈ ws ∨ h0.size ≤ a) {pc : Nat} {Ls : Array Slot} {rest : List Value} (hd : decode c.code pc = .ok (.castore, 1)) :
    ∃ T' h', Stand p l e R s m args below meth c T' (locs ++ [⟨a, j.toNatClampNeg⟩]) cells slots ∧ T'.heap = h' ∧ Wr h h' a j.toNatClampNeg (.int (nar .char x)) ∧ Arv Z h' a kk .char n (vs.set ix (.int (nar .char x))) d ∧ Fr n0 (locs ++ [⟨a, j.toNatClampNeg⟩]) ∧ n0 ≤ h'.size ∧ Keep h0 h' ws ∧
      ∀ target, Steps p.tables e below (T'.setTop (mkF m (pc + 1) Ls rest)) target → Steps p.tables e below (T.setTop (mkF m pc Ls (.int x :: .int j :: .ref a :: rest))) target := by
  obtain ⟨cl, Ar, qa, sa, na, ha, ga⟩ := F
  obtain ⟨T', h', X', e', W, st⟩ := stC X hx hZ eT Ar (j := j) (x := x) (inb_of sa hj) (g := mkF m pc Ls (.int x :: .int j :: .ref a :: rest)) rfl rfl hd
  exact ⟨T', h', X', e', W, Arv.set Ar qa sa na ha ga (fits_nar_char _) W ix hix hlen, Fr.snoc X' N g0, Nat.le_trans hz (Keep.of_wr W).1, K.wr W hm, st⟩
theorem cld3 (X : Stand p l e R s m args below meth c T locs cells slots) (hx : p.tables.exec = Jvm.exec) (hZ : Z.Warmed39 s.vm) (eT : T.heap = h) {a : Addr} {kk : ClassId} {n j : Int32} {vs : List Value} {d v : Value} (F : Arv Z h a kk .char n vs d) (hj : ¬ j < 0 ∧ j < n) (gp : vs.getD j.toNatClampNeg d = v) {pc : Nat} {Ls : Array Slot} {rest : List Value} (hd : decode c.code pc = .ok (.caload, 1)) {target : State}
    (k : Steps p.tables e below (T.setTop (mkF m (pc + 1) Ls (v :: rest))) target) : Steps p.tables e below (T.setTop (mkF m pc Ls (.int j :: .ref a :: rest))) target := by
  obtain ⟨cl, Ar, qa, sa, na, ha, ga⟩ := F
  have hin := inb_of (j := j) sa hj
  exact X.caload hx (j := j) (v := v) (by rw [eT]; exact Ar.1) (State.isArrayOf_alike hZ.alike Ar.2.1) Ar.2.2 hin (ha.at hin gp) (g := mkF m pc Ls (.int j :: .ref a :: rest)) rfl rfl hd _ k
theorem ist3 (X : Stand p l e R s m args below meth c T locs cells slots) (hx : p.tables.exec = Jvm.exec) (hZ : Z.Warmed39 s.vm) (eT : T.heap = h) {a : Addr} {kk : ClassId} {n j x : Int32} {vs : List Value} {d : Value} (F : Arv Z h a kk .int n vs d) (hj : ¬ j < 0 ∧ j < n) {ix : Nat} (hix : j.toNatClampNeg = ix) (hlen : ix < vs.length)
    {n0 : Nat} {h0 : Heap} {ws : List Addr} (N : Fr n0 locs) (hz : n0 ≤ h.size) (K : Keep h0 h ws) (g0 : n0 ≤ a) (hm : a ∈ ws ∨ h0.size ≤ a) {pc : Nat} {Ls : Array Slot} {rest : List Value} (hd : decode c.code pc = .ok (.iastore, 1)) :
    ∃ T' h', Stand p l e R s m args below meth c T' (locs ++ [⟨a, j.toNatClampNeg⟩]) cells slots ∧ T'.heap = h' ∧ Wr h h' a j.toNatClampNeg (.int x) ∧ Arv Z h' a kk .int n (vs.set ix (.int x)) d ∧ Fr n0 (locs ++ [⟨a, j.toNatClampNeg⟩]) ∧ n0 ≤ h'.size ∧ Keep h0 h' ws ∧
      ∀ target, Steps p.tables e below (T'.setTop (mkF m (pc + 1) Ls rest)) target → Steps p.tables e below (T.setTop (mkF m pc Ls (.int x :: .int j :: .ref a :: rest))) target := by
  obtain ⟨cl, Ar, qa, sa, na, ha, ga⟩ := F
  obtain ⟨T', h', X', e', W, st⟩ := stI X hx hZ eT Ar (j := j) (x := x) (inb_of sa hj) (g := mkF m pc Ls (.int x :: .int j :: .ref a :: rest)) rfl rfl hd
  exact ⟨T', h', X', e', W, Arv.set Ar qa sa na ha ga rfl W ix hix hlen, Fr.snoc X' N g0, Nat.le_trans hz (Keep.of_wr W).1, K.wr W hm, st⟩
theorem ild3 (X : Stand p l e R s m args below meth c T locs cells slots) (hx : p.tables.exec = Jvm.exec) (hZ : Z.Warmed39 s.vm) (eT : T.heap = h) {a : Addr} {kk : ClassId} {n j : Int32} {vs : List Value} {d v : Value} (F : Arv Z h a kk .int n vs d) (hj : ¬ j < 0 ∧ j < n) (gp : vs.getD j.toNatClampNeg d = v) {pc : Nat} {Ls : Array Slot} {rest : List Value} (hd : decode c.code pc = .ok (.iaload, 1)) {target : State}
    (k : Steps p.tables e below (T.setTop (mkF m (pc + 1) Ls (v :: rest))) target) : Steps p.tables e below (T.setTop (mkF m pc Ls (.int j :: .ref a :: rest))) target := by
  obtain ⟨cl, Ar, qa, sa, na, ha, ga⟩ := F
  have hin := inb_of (j := j) sa hj
  exact X.iaload hx (j := j) (v := v) (by rw [eT]; exact Ar.1) (State.isArrayOf_alike hZ.alike Ar.2.1) Ar.2.2 hin (ha.at hin gp) (g := mkF m pc Ls (.int j :: .ref a :: rest)) rfl rfl hd _ k
theorem bld3 (X : Stand p l e R s m args below meth c T locs cells slots) (hx : p.tables.exec = Jvm.exec) (hZ : Z.Warmed39 s.vm) (eT : T.heap = h) {a : Addr} {kk : ClassId} {n j : Int32} {vs : List Value} {d v : Value} (F : Arv Z h a kk .byte n vs d) (hj : ¬ j < 0 ∧ j < n) (gp : vs.getD j.toNatClampNeg d = v) {pc : Nat} {Ls : Array Slot} {rest : List Value} (hd : decode c.code pc = .ok (.baload, 1)) {target : State}
    (k : Steps p.tables e below (T.setTop (mkF m (pc + 1) Ls (v :: rest))) target) : Steps p.tables e below (T.setTop (mkF m pc Ls (.int j :: .ref a :: rest))) target := by
  obtain ⟨cl, Ar, qa, sa, na, ha, ga⟩ := F
  have hin := inb_of (j := j) sa hj
  exact X.baloadBytes hx (j := j) (v := v) (by rw [eT]; exact Ar.1) (State.isArrayOf_alike hZ.alike Ar.2.1) Ar.2.2 hin (ha.at hin gp) (g := mkF m pc Ls (.int j :: .ref a :: rest)) rfl rfl hd _ k
theorem ofArr {a : Addr} {cl : Cell} {ty : FieldType} {n : Int32} {vs : List Value} {d : Value} (A : Arr Z h a cl ty) (hl : cl.slots = vs.toArray) (hz : ¬ n < 0) (hn : n.toNatClampNeg = vs.length) (hf : ∀ v ∈ vs, fits ty v = true) : Arv Z h a cl.cls ty n vs d := by
  have e : cl.slots.size = vs.length := by rw [hl]; simp
  refine ⟨cl, A, rfl, by rw [e, hn], hz, fun k hk => ?_, fun k hk => ?_⟩
  · rw [hl]
    simp [List.getD_eq_getElem?_getD, show k < vs.length by omega]
  · have q : k < vs.length := by omega
    have : vs.getD k d = vs[k] := by simp [List.getD_eq_getElem?_getD, q]
    rw [this]
    exact hf _ (List.getElem_mem q)
theorem castL {a : Addr} {kk : ClassId} {ty : FieldType} {n : Int32} {vs vs' : List Value} {d : Value} (F : Arv Z h a kk ty n vs d) (q : vs = vs') : Arv Z h a kk ty n vs' d := q ▸ F
theorem nlt {a b n : Nat} (h1 : a < n) (h2 : n ≤ b) : a ≠ b := Nat.ne_of_lt (Nat.lt_of_lt_of_le h1 h2)
theorem lb {a b : Nat} (h : Nat.ble a b = true) : a ≤ b := Nat.le_of_ble_eq_true h
theorem m0 {a : Addr} {L : List Addr} {P : Prop} : a ∈ a :: L ∨ P := Or.inl List.mem_cons_self
theorem m1 {a b : Addr} {L : List Addr} {P : Prop} : a ∈ b :: a :: L ∨ P := Or.inl (List.mem_cons_of_mem _ List.mem_cons_self)
theorem m2 {a b c : Addr} {L : List Addr} {P : Prop} : a ∈ b :: c :: a :: L ∨ P := Or.inl (List.mem_cons_of_mem _ (List.mem_cons_of_mem _ List.mem_cons_self))
theorem m3 {a b c d : Addr} {L : List Addr} {P : Prop} : a ∈ b :: c :: d :: a :: L ∨ P := Or.inl (List.mem_cons_of_mem _ (List.mem_cons_of_mem _ (List.mem_cons_of_mem _ List.mem_cons_self)))
end Terse
end Jvm.OwnKit
namespace Jvm.Yo
open Sem ClassFile Op Lib Jvm.Stand Jvm.Free Jvm.LawKit Jvm.RoadKit
variable {tb : Tables} [Ours tb] {e : Env} {below : List Frame} {T target : State} {m : MethodId} {c : Code} {pc : Nat} {Ls : Array Slot} {S : List Value}
theorem iload (h : At T m c below) (hx : tb.exec = Jvm.exec) {k : Nat} {v : Int32} (hd : decode c.code pc = .ok (.iload k, 2)) (hl : Ls[k]? = some (.val (.int v))) (hr : Steps tb e below (T.setTop (mkF m (pc + 2) Ls (.int v :: S))) target) : Steps tb e below (T.setTop (mkF m pc Ls S)) target := XS.iload (g := mkF m pc Ls S) h hx rfl hd hl hr
theorem iloadN (h : At T m c below) (hx : tb.exec = Jvm.exec) {k : Fin 4} {v : Int32} (hd : decode c.code pc = .ok (.iload_n k, 1)) (hl : Ls[k.val]? = some (.val (.int v))) (hr : Steps tb e below (T.setTop (mkF m (pc + 1) Ls (.int v :: S))) target) : Steps tb e below (T.setTop (mkF m pc Ls S)) target := XS.iloadN (g := mkF m pc Ls S) h hx rfl hd hl hr
theorem aload (h : At T m c below) (hx : tb.exec = Jvm.exec) {k : Nat} {v : Value} (hd : decode c.code pc = .ok (.aload k, 2)) (hl : Ls[k]? = some (.val v)) (hv : v.isRef = true) (hr : Steps tb e below (T.setTop (mkF m (pc + 2) Ls (v :: S))) target) : Steps tb e below (T.setTop (mkF m pc Ls S)) target := XS.aload (g := mkF m pc Ls S) h hx rfl hd hl hv hr
theorem aloadN (h : At T m c below) (hx : tb.exec = Jvm.exec) {k : Fin 4} {v : Value} (hd : decode c.code pc = .ok (.aload_n k, 1)) (hl : Ls[k.val]? = some (.val v)) (hv : v.isRef = true) (hr : Steps tb e below (T.setTop (mkF m (pc + 1) Ls (v :: S))) target) : Steps tb e below (T.setTop (mkF m pc Ls S)) target := XS.aloadN (g := mkF m pc Ls S) h hx rfl hd hl hv hr
theorem istore (h : At T m c below) (hx : tb.exec = Jvm.exec) {k : Nat} {x : Int32} {rest : List Value} {l' : Array Slot} (hd : decode c.code pc = .ok (.istore k, 2)) (hs : S = .int x :: rest) (hl : storeLocals Ls k (.int x) = some l') (hr : Steps tb e below (T.setTop (mkF m (pc + 2) l' (rest))) target) : Steps tb e below (T.setTop (mkF m pc Ls S)) target := XS.istore (g := mkF m pc Ls S) h hx rfl hd hs hl hr
theorem istoreN (h : At T m c below) (hx : tb.exec = Jvm.exec) {k : Fin 4} {x : Int32} {rest : List Value} {l' : Array Slot} (hd : decode c.code pc = .ok (.istore_n k, 1)) (hs : S = .int x :: rest) (hl : storeLocals Ls k.val (.int x) = some l') (hr : Steps tb e below (T.setTop (mkF m (pc + 1) l' (rest))) target) : Steps tb e below (T.setTop (mkF m pc Ls S)) target := XS.istoreN (g := mkF m pc Ls S) h hx rfl hd hs hl hr
theorem astore (h : At T m c below) (hx : tb.exec = Jvm.exec) {k : Nat} {x : Value} {rest : List Value} {l' : Array Slot} (hd : decode c.code pc = .ok (.astore k, 2)) (hs : S = x :: rest) (hv : x.isRef = true) (hl : storeLocals Ls k x = some l') (hr : Steps tb e below (T.setTop (mkF m (pc + 2) l' (rest))) target) : Steps tb e below (T.setTop (mkF m pc Ls S)) target := XS.astore (g := mkF m pc Ls S) h hx rfl hd hs hv hl hr
theorem astoreN (h : At T m c below) (hx : tb.exec = Jvm.exec) {k : Fin 4} {x : Value} {rest : List Value} {l' : Array Slot} (hd : decode c.code pc = .ok (.astore_n k, 1)) (hs : S = x :: rest) (hv : x.isRef = true) (hl : storeLocals Ls k.val x = some l') (hr : Steps tb e below (T.setTop (mkF m (pc + 1) l' (rest))) target) : Steps tb e below (T.setTop (mkF m pc Ls S)) target := XS.astoreN (g := mkF m pc Ls S) h hx rfl hd hs hv hl hr
theorem iconst (h : At T m c below) (hx : tb.exec = Jvm.exec) {i : Int} (hd : decode c.code pc = .ok (.iconst i, 1)) (hr : Steps tb e below (T.setTop (mkF m (pc + 1) Ls (.int (Int32.ofInt i) :: S))) target) : Steps tb e below (T.setTop (mkF m pc Ls S)) target := XS.iconst (g := mkF m pc Ls S) h hx rfl hd hr
theorem bipush (h : At T m c below) (hx : tb.exec = Jvm.exec) {i : Int} (hd : decode c.code pc = .ok (.bipush i, 2)) (hr : Steps tb e below (T.setTop (mkF m (pc + 2) Ls (.int (Int8.ofInt i).toInt32 :: S))) target) : Steps tb e below (T.setTop (mkF m pc Ls S)) target := XS.bipush (g := mkF m pc Ls S) h hx rfl hd hr
theorem sipush (h : At T m c below) (hx : tb.exec = Jvm.exec) {i : Int} (hd : decode c.code pc = .ok (.sipush i, 3)) (hr : Steps tb e below (T.setTop (mkF m (pc + 3) Ls (.int (Int16.ofInt i).toInt32 :: S))) target) : Steps tb e below (T.setTop (mkF m pc Ls S)) target := XS.sipush (g := mkF m pc Ls S) h hx rfl hd hr
theorem aconstNull (h : At T m c below) (hx : tb.exec = Jvm.exec) (hd : decode c.code pc = .ok (.aconst_null, 1)) (hr : Steps tb e below (T.setTop (mkF m (pc + 1) Ls (.null :: S))) target) : Steps tb e below (T.setTop (mkF m pc Ls S)) target := XS.aconstNull (g := mkF m pc Ls S) h hx rfl hd hr
theorem dup (h : At T m c below) (hx : tb.exec = Jvm.exec) {x : Value} {rest : List Value} (hd : decode c.code pc = .ok (.dup, 1)) (hs : S = x :: rest) (hc : x.category = 1) (hr : Steps tb e below (T.setTop (mkF m (pc + 1) Ls (x :: x :: rest))) target) : Steps tb e below (T.setTop (mkF m pc Ls S)) target := XS.dup (g := mkF m pc Ls S) h hx rfl hd hs hc hr
theorem pop (h : At T m c below) (hx : tb.exec = Jvm.exec) {x : Value} {rest : List Value} (hd : decode c.code pc = .ok (.pop, 1)) (hs : S = x :: rest) (hc : x.category = 1) (hr : Steps tb e below (T.setTop (mkF m (pc + 1) Ls (rest))) target) : Steps tb e below (T.setTop (mkF m pc Ls S)) target := XS.pop (g := mkF m pc Ls S) h hx rfl hd hs hc hr
theorem dupX1 (h : At T m c below) (hx : tb.exec = Jvm.exec) {x y : Value} {rest : List Value} (hd : decode c.code pc = .ok (.dup_x1, 1)) (hs : S = x :: y :: rest) (hc : x.category = 1) (hc2 : y.category = 1) (hr : Steps tb e below (T.setTop (mkF m (pc + 1) Ls (x :: y :: x :: rest))) target) : Steps tb e below (T.setTop (mkF m pc Ls S)) target := XS.dupX1 (g := mkF m pc Ls S) h hx rfl hd hs hc hc2 hr
theorem iadd (h : At T m c below) (hx : tb.exec = Jvm.exec) {x y : Int32} {rest : List Value} (hd : decode c.code pc = .ok (.iadd, 1)) (hs : S = .int y :: .int x :: rest) (hr : Steps tb e below (T.setTop (mkF m (pc + 1) Ls (.int (x + y) :: rest))) target) : Steps tb e below (T.setTop (mkF m pc Ls S)) target := XS.iadd (g := mkF m pc Ls S) h hx rfl hd hs hr
theorem isub (h : At T m c below) (hx : tb.exec = Jvm.exec) {x y : Int32} {rest : List Value} (hd : decode c.code pc = .ok (.isub, 1)) (hs : S = .int y :: .int x :: rest) (hr : Steps tb e below (T.setTop (mkF m (pc + 1) Ls (.int (x - y) :: rest))) target) : Steps tb e below (T.setTop (mkF m pc Ls S)) target := XS.isub (g := mkF m pc Ls S) h hx rfl hd hs hr
theorem iand (h : At T m c below) (hx : tb.exec = Jvm.exec) {x y : Int32} {rest : List Value} (hd : decode c.code pc = .ok (.iand, 1)) (hs : S = .int y :: .int x :: rest) (hr : Steps tb e below (T.setTop (mkF m (pc + 1) Ls (.int (x &&& y) :: rest))) target) : Steps tb e below (T.setTop (mkF m pc Ls S)) target := XS.iand (g := mkF m pc Ls S) h hx rfl hd hs hr
theorem ior (h : At T m c below) (hx : tb.exec = Jvm.exec) {x : Int32} {y : Int32} {rest : List Value} (hd : decode c.code pc = .ok (.ior, 1)) (hs : S = .int y :: .int x :: rest) (hr : Steps tb e below (T.setTop (mkF m (pc + 1) Ls (.int (x ||| y) :: rest))) target) : Steps tb e below (T.setTop (mkF m pc Ls S)) target := XS.ior (g := mkF m pc Ls S) h hx rfl hd hs hr
theorem iushr (h : At T m c below) (hx : tb.exec = Jvm.exec) {x : Int32} {y : Int32} {rest : List Value} (hd : decode c.code pc = .ok (.iushr, 1)) (hs : S = .int y :: .int x :: rest) (hr : Steps tb e below (T.setTop (mkF m (pc + 1) Ls (.int ((x.toUInt32 >>> (y &&& 31).toUInt32).toInt32) :: rest))) target) : Steps tb e below (T.setTop (mkF m pc Ls S)) target := XS.iushr (g := mkF m pc Ls S) h hx rfl hd hs hr
theorem ishr (h : At T m c below) (hx : tb.exec = Jvm.exec) {x : Int32} {y : Int32} {rest : List Value} (hd : decode c.code pc = .ok (.ishr, 1)) (hs : S = .int y :: .int x :: rest) (hr : Steps tb e below (T.setTop (mkF m (pc + 1) Ls (.int (x >>> (y &&& 31)) :: rest))) target) : Steps tb e below (T.setTop (mkF m pc Ls S)) target := XS.ishr (g := mkF m pc Ls S) h hx rfl hd hs hr
theorem ishl (h : At T m c below) (hx : tb.exec = Jvm.exec) {x : Int32} {y : Int32} {rest : List Value} (hd : decode c.code pc = .ok (.ishl, 1)) (hs : S = .int y :: .int x :: rest) (hr : Steps tb e below (T.setTop (mkF m (pc + 1) Ls (.int (x <<< (y &&& 31)) :: rest))) target) : Steps tb e below (T.setTop (mkF m pc Ls S)) target := XS.ishl (g := mkF m pc Ls S) h hx rfl hd hs hr
theorem i2c (h : At T m c below) (hx : tb.exec = Jvm.exec) {v : Int32} {rest : List Value} (hd : decode c.code pc = .ok (.i2c, 1)) (hs : S = .int v :: rest) (hr : Steps tb e below (T.setTop (mkF m (pc + 1) Ls (.int (v.toUInt32.toUInt16.toUInt32.toInt32) :: rest))) target) : Steps tb e below (T.setTop (mkF m pc Ls S)) target := XS.i2c (g := mkF m pc Ls S) h hx rfl hd hs hr
theorem i2b (h : At T m c below) (hx : tb.exec = Jvm.exec) {v : Int32} {rest : List Value} (hd : decode c.code pc = .ok (.i2b, 1)) (hs : S = .int v :: rest) (hr : Steps tb e below (T.setTop (mkF m (pc + 1) Ls (.int (v.toInt8.toInt32) :: rest))) target) : Steps tb e below (T.setTop (mkF m pc Ls S)) target := XS.i2b (g := mkF m pc Ls S) h hx rfl hd hs hr
theorem iinc (h : At T m c below) (hx : tb.exec = Jvm.exec) {k : Nat} {cst : Int} {x : Int32} {l' : Array Slot} (hd : decode c.code pc = .ok (.iinc k cst, 3)) (hl : Ls[k]? = some (.val (.int x))) (hl' : storeLocals Ls k (.int (x + Int32.ofInt cst)) = some l') (hr : Steps tb e below (T.setTop (mkF m (pc + 3) l' (S))) target) : Steps tb e below (T.setTop (mkF m pc Ls S)) target := XS.iinc (g := mkF m pc Ls S) h hx rfl hd hl hl' hr
theorem goto (h : At T m c below) (hx : tb.exec = Jvm.exec) {o : Int} {pc0 pc' : Nat} (hpc : pc = pc0) (hd : decode c.code pc = .ok (.goto o, 3)) (ho : 0 ≤ (pc0 : Int) + o) (hp : ((pc0 : Int) + o).toNat = pc') (hr : Steps tb e below (T.setTop (mkF m (pc') Ls (S))) target) : Steps tb e below (T.setTop (mkF m pc Ls S)) target := XS.goto (g := mkF m pc Ls S) h hx rfl hpc hd ho hp hr
theorem ifYes (h : At T m c below) (hx : tb.exec = Jvm.exec) {cd : ClassFile.Cond} {x : Int32} {rest : List Value} {o : Int} {pc0 pc' : Nat} (hpc : pc = pc0) (hd : decode c.code pc = .ok (.ifCond cd o, 3)) (hs : S = .int x :: rest) (hc : ifCond.holds cd x = true) (ho : 0 ≤ (pc0 : Int) + o) (hp : ((pc0 : Int) + o).toNat = pc') (hr : Steps tb e below (T.setTop (mkF m (pc') Ls (rest))) target) : Steps tb e below (T.setTop (mkF m pc Ls S)) target := XS.ifYes (g := mkF m pc Ls S) h hx rfl hpc hd hs hc ho hp hr
theorem ifNo (h : At T m c below) (hx : tb.exec = Jvm.exec) {cd : ClassFile.Cond} {o : Int} {x : Int32} {rest : List Value} (hd : decode c.code pc = .ok (.ifCond cd o, 3)) (hs : S = .int x :: rest) (hc : ifCond.holds cd x = false) (hr : Steps tb e below (T.setTop (mkF m (pc + 3) Ls (rest))) target) : Steps tb e below (T.setTop (mkF m pc Ls S)) target := XS.ifNo (g := mkF m pc Ls S) h hx rfl hd hs hc hr
theorem icmpYes (h : At T m c below) (hx : tb.exec = Jvm.exec) {cd : ClassFile.Cond} {x y : Int32} {rest : List Value} {o : Int} {pc0 pc' : Nat} (hpc : pc = pc0) (hd : decode c.code pc = .ok (.if_icmp cd o, 3)) (hs : S = .int y :: .int x :: rest) (hc : if_icmp.holds cd x y = true) (ho : 0 ≤ (pc0 : Int) + o) (hp : ((pc0 : Int) + o).toNat = pc') (hr : Steps tb e below (T.setTop (mkF m (pc') Ls (rest))) target) : Steps tb e below (T.setTop (mkF m pc Ls S)) target := XS.icmpYes (g := mkF m pc Ls S) h hx rfl hpc hd hs hc ho hp hr
theorem icmpNo (h : At T m c below) (hx : tb.exec = Jvm.exec) {cd : ClassFile.Cond} {o : Int} {x y : Int32} {rest : List Value} (hd : decode c.code pc = .ok (.if_icmp cd o, 3)) (hs : S = .int y :: .int x :: rest) (hc : if_icmp.holds cd x y = false) (hr : Steps tb e below (T.setTop (mkF m (pc + 3) Ls (rest))) target) : Steps tb e below (T.setTop (mkF m pc Ls S)) target := XS.icmpNo (g := mkF m pc Ls S) h hx rfl hd hs hc hr
theorem ifnullYes (h : At T m c below) (hx : tb.exec = Jvm.exec) {rest : List Value} {o : Int} {pc0 pc' : Nat} (hpc : pc = pc0) (hd : decode c.code pc = .ok (.ifnull o, 3)) (hs : S = .null :: rest) (ho : 0 ≤ (pc0 : Int) + o) (hp : ((pc0 : Int) + o).toNat = pc') (hr : Steps tb e below (T.setTop (mkF m (pc') Ls (rest))) target) : Steps tb e below (T.setTop (mkF m pc Ls S)) target := XS.ifnullYes (g := mkF m pc Ls S) h hx rfl hpc hd hs ho hp hr
theorem ifnullNo (h : At T m c below) (hx : tb.exec = Jvm.exec) {o : Int} {b : Addr} {rest : List Value} (hd : decode c.code pc = .ok (.ifnull o, 3)) (hs : S = .ref b :: rest) (hr : Steps tb e below (T.setTop (mkF m (pc + 3) Ls (rest))) target) : Steps tb e below (T.setTop (mkF m pc Ls S)) target := XS.ifnullNo (g := mkF m pc Ls S) h hx rfl hd hs hr
theorem ifnonnullYes (h : At T m c below) (hx : tb.exec = Jvm.exec) {b : Addr} {rest : List Value} {o : Int} {pc0 pc' : Nat} (hpc : pc = pc0) (hd : decode c.code pc = .ok (.ifnonnull o, 3)) (hs : S = .ref b :: rest) (ho : 0 ≤ (pc0 : Int) + o) (hp : ((pc0 : Int) + o).toNat = pc') (hr : Steps tb e below (T.setTop (mkF m (pc') Ls (rest))) target) : Steps tb e below (T.setTop (mkF m pc Ls S)) target := XS.ifnonnullYes (g := mkF m pc Ls S) h hx rfl hpc hd hs ho hp hr
theorem ifnonnullNo (h : At T m c below) (hx : tb.exec = Jvm.exec) {o : Int} {rest : List Value} (hd : decode c.code pc = .ok (.ifnonnull o, 3)) (hs : S = .null :: rest) (hr : Steps tb e below (T.setTop (mkF m (pc + 3) Ls (rest))) target) : Steps tb e below (T.setTop (mkF m pc Ls S)) target := XS.ifnonnullNo (g := mkF m pc Ls S) h hx rfl hd hs hr
end Jvm.Yo
namespace Jvm.OwnKit
open Sem ClassFile Op Lib Jvm.Stand Jvm.Free Jvm.LawKit Jvm.RoadKit
section Held
variable {p : Program} {l : Launch} {e : Env} {R : Room} {s : State} {m : MethodId} {args : Array Value} {below : List Frame} {meth : Method} {c : Code} {T : State} {locs : List Loc} {cells slots : Nat} {Z : State} {a0 : Array Value} {h : Heap} {EL : List (String × Nat)} {Q : Option Value → Heap → List Loc → Prop} {C S : Nat}
/-- what a body owes from a state on, where texts may be loaded: the held constants stay held -/
def FinH (p : Program) (e : Env) (below : List Frame) (s Z : State) (EL : List (String × Nat)) (Q : Option Value → Heap → List Loc → Prop) (C S : Nat) (st : State) : Prop :=
  ∃ s₂ o, Steps p.tables e below st s₂ ∧ s₂.status = .running ∧ Ended s₂ below o ∧ ∃ v L, o = .returned v ∧ Q v s₂.heap L ∧ CHr Z EL s.vm s.heap s₂.vm s₂.heap ∧ ReturnedEndW s o s₂ L C S
theorem FinH.step {st st' : State} (hh : ∀ t, Steps p.tables e below st' t → Steps p.tables e below st t) (k : FinH p e below s Z EL Q C S st') : FinH p e below s Z EL Q C S st := by
  obtain ⟨s₂, o, h1, h2⟩ := k
  exact ⟨s₂, o, hh _ h1, h2⟩
theorem FinH.ret {vm₁ : Vm} (X : Stand p l e R (s.setVm vm₁) m args below meth c T locs cells slots) {n : Nat} (hS : s.Since vm₁ n) (hn : n ≤ T.heap.size) (hZ : Z.Warmed39 vm₁) (hEL : EW Z a0 EL) (CH : CHr Z EL s.vm s.heap vm₁ T.heap) {v : Option Value} {g : JFrame} (hv : meth.sig.returnType = none → v = none) (hlocks : meth.locks = false)
    (hst : ∀ fs, (∀ (f : JFrame) (acts : List Action), f.method = m → f.locked = none → f.entered = [] → (doReturn e (T.setTop f) acts v).1 = T.setFrames fs) → Steps p.tables e below (T.setTop g) (T.setFrames fs))
    (hC : cells ≤ C) (hS' : slots ≤ S) (q : Q v T.heap locs) : FinH p e below s Z EL Q C S (T.setTop g) := by
  obtain ⟨fs, hr, hrun, hended, hW⟩ := X.leaveW hS hn (v := v) hv hlocks
  exact ⟨_, _, hst fs hr, hrun, hended, _, _, rfl, q, CH.trans (show CHr Z EL vm₁ T.heap T.vm T.heap from CHv.at X hZ hEL CH.1), hW.1, hW.2.1, hW.2.2.1, hW.2.2.2.mono hC hS'⟩
theorem FinH.retV {vm₁ : Vm} (X : Stand p l e R (s.setVm vm₁) m args below meth c T locs cells slots) {n : Nat} (hS : s.Since vm₁ n) (hn : n ≤ T.heap.size) (hZ : Z.Warmed39 vm₁) (hEL : EW Z a0 EL) (CH : CHr Z EL s.vm s.heap vm₁ T.heap) (hx : p.tables.exec = Jvm.exec) {pc : Nat} {Ls : Array Slot} (hret : meth.sig.returnType = none) (hlocks : meth.locks = false) (hd : decode c.code pc = .ok (.return_, 1))
    (hC : cells ≤ C) (hS' : slots ≤ S) (q : Q none T.heap locs) : FinH p e below s Z EL Q C S (T.setTop (mkF m pc Ls [])) :=
  FinH.ret X hS hn hZ hEL CH (fun _ => rfl) hlocks (fun fs hl => X.returnOut hx hret hd hl) hC hS' q
theorem FinH.retR {vm₁ : Vm} (X : Stand p l e R (s.setVm vm₁) m args below meth c T locs cells slots) {n : Nat} (hS : s.Since vm₁ n) (hn : n ≤ T.heap.size) (hZ : Z.Warmed39 vm₁) (hEL : EW Z a0 EL) (CH : CHr Z EL s.vm s.heap vm₁ T.heap) (hx : p.tables.exec = Jvm.exec) {pc : Nat} {Ls : Array Slot} {w : Value} {t : FieldType} {rest : List Value} (hret : meth.sig.returnType = some t) (ht : t.isReference = true) (hw : w.isRef = true) (hlocks : meth.locks = false) (hd : decode c.code pc = .ok (.areturn, 1))
    (hC : cells ≤ C) (hS' : slots ≤ S) (q : Q (some w) T.heap locs) : FinH p e below s Z EL Q C S (T.setTop (mkF m pc Ls (w :: rest))) :=
  FinH.ret X hS hn hZ hEL CH (fun h => by rw [hret] at h; cases h) hlocks (fun fs hl => retOut X hx hret (by cases t <;> simp [FieldType.isReference] at ht <;> cases w <;> simp [Value.isRef] at hw <;> rfl) (Or.inr (Or.inr (Or.inr (Or.inr ⟨rfl, ht, hw⟩)))) hd hl) hC hS' q
theorem FinH.retN {vm₁ : Vm} (X : Stand p l e R (s.setVm vm₁) m args below meth c T locs cells slots) {n : Nat} (hS : s.Since vm₁ n) (hn : n ≤ T.heap.size) (hZ : Z.Warmed39 vm₁) (hEL : EW Z a0 EL) (CH : CHr Z EL s.vm s.heap vm₁ T.heap) (hx : p.tables.exec = Jvm.exec) {pc : Nat} {Ls : Array Slot} {z : Int32} {t : FieldType} {rest : List Value} (hret : meth.sig.returnType = some t) (ht : t = .boolean ∨ t = .byte ∨ t = .char ∨ t = .short) (hlocks : meth.locks = false) (hd : decode c.code pc = .ok (.ireturn, 1))
    (hC : cells ≤ C) (hS' : slots ≤ S) (q : Q (some (.int (nar t z))) T.heap locs) : FinH p e below s Z EL Q C S (T.setTop (mkF m pc Ls (.int z :: rest))) :=
  FinH.ret X hS hn hZ hEL CH (fun h => by rw [hret] at h; cases h) hlocks (fun fs hl => RoadKit.retN X hx hret ht hd hl) hC hS' q
abbrev Met1H (l : Launch) (y : MethodName) (bytes : ByteArray) (ml : Nat) (ret : Option FieldType) (ws : List Cond) (R : Room) (A : Array Value) (Z : State) (h0 : Heap) (EL : List (String × Nat)) (Q : Option Value → Heap → List Loc → Prop) : Prop :=
  MetFree l y (head1 (Cond.code y bytes ml ret :: ws) R) (fun a U => a = A ∧ Z.Warmed39 U.vm ∧ U.heap = h0 ∧ CHv Z EL U.vm h0) (fun _ _ _ _ _ => True) (fun _ U o U' => ∃ v L, o = .returned v ∧ Q v U'.heap L ∧ CHr Z EL U.vm U.heap U'.vm U'.heap ∧ ReturnedEndW U o U' L R.cells R.slots)
theorem Met1H.enter {y : MethodName} {bytes : ByteArray} {ml : Nat} {ret : Option FieldType} {ws : List Cond} {A : Array Value} {h0 : Heap} (hp : plainFor y = true) {Ls : Array Slot} (ef : ∀ m, entryFrame m A ml = mkF m 0 Ls [])
    (k : ∀ (p : Program) (e : Env) (s : State) (m : MethodId) (below : List Frame) (meth : Method) (c : Code) (s₁ : State), p.tables.exec = Jvm.exec → c.code = bytes → meth.locks = false → meth.sig.returnType = ret → c.maxLocals = ml → s.vm.findClass y.cls = some m.cls → meth.name = y.name → Z.Warmed39 s.vm → Stand p l e R s m A below meth c s₁ [] 0 0 → s₁.heap = h0 → s.heap = h0 → CHv Z EL s.vm h0 → FinH p e below s Z EL Q R.cells R.slots (s₁.setTop (mkF m 0 Ls []))) :
    Met1H l y bytes ml ret ws R A Z h0 EL Q := by
  refine MetFree.of_bodySF hp hisR ?_
  intro p e s m args below meth c s₁ Bd hml0 hP hK
  obtain ⟨rfl, hZ, hh, hc⟩ := hP
  obtain ⟨s₂, o, h1, h2, h3, v, L, h4, h5, h6⟩ := k p e s m below meth c s₁ Bd.exec Bd.bytes (BodyLoose.notSynchronized Bd) Bd.returns hml0 (findClass_of_methodNamed Bd.named) (name_of_methodNamed Bd.named Bd.method).1 hZ (Stand.of_body Bd) (by rw [← hh, Bd.state]; rfl) hh hc
  exact ⟨s₂, o, castTop (ef m) h1, h2, h3, v, L, h4, h5, h6⟩
theorem packH {vm0 : Vm} {k0 : Nat} (hS : s.Since vm0 k0) (hk : k0 ≤ T.heap.size) (hZ : Z.Warmed39 vm0) {own : String} (hown : vm0.findClass own = some m.cls) {rm : Room} {s₀ : State} {G : Option Value → JFrame}
    (hh : ∃ (v : Option Value) (vm₁ : Vm) (B : Pt), (s.setVm vm0).WarmedH vm₁ ∧ Stand p l e R ((s.setVm vm0).setVm B.U.vm) m args below meth c B.U B.locs B.cells B.slots ∧ (s.setVm vm0).Since B.U.vm B.U.heap.size ∧ T.heap.size ≤ B.U.heap.size ∧ (fun (A : Pt) (_ : Array Value) (v : Option Value) (B : Pt) => ∃ L, Q v B.U.heap L ∧ B.locs = A.locs ++ L ∧ B.cells = A.cells + rm.cells ∧ B.slots = A.slots + rm.slots ∧ CHr Z EL vm0 h B.U.vm B.U.heap) ⟨T.setVm vm₁, locs, cells, slots⟩ #[] v B ∧ Steps p.tables e below s₀ (B.U.setTop (G v))) :
    ∃ v T' L, Stand p l e R (s.setVm T'.vm) m args below meth c T' (locs ++ L) (cells + rm.cells) (slots + rm.slots) ∧ s.Since T'.vm T'.heap.size ∧ Z.Warmed39 T'.vm ∧ T'.vm.findClass own = some m.cls ∧ Q v T'.heap L ∧ CHr Z EL vm0 h T'.vm T'.heap ∧ ∀ t, Steps p.tables e below (T'.setTop (G v)) t → Steps p.tables e below s₀ t := by
  obtain ⟨v, vm₁, ⟨T', L1, k1, n1⟩, -, X, h2, hg, ⟨L, hQ, e1, e2, e3, hC⟩, st⟩ := hh
  obtain ⟨X', hS', hZ', ho'⟩ := rebS hS hk X h2 hg hZ hown
  subst e1 e2 e3
  exact ⟨v, T', L, X', hS', hZ', ho', hQ, hC, fun _ k => st.trans k⟩
/-- a body that loads nothing keeps what is held -/
theorem Met1.toH {y : MethodName} {bytes : ByteArray} {ml : Nat} {ret : Option FieldType} {ws : List Cond} {A : Array Value} {h0 : Heap} {Q' : Option Value → Heap → List Loc → Prop} (M : Met1 l y bytes ml ret ws R A Z h0 Q) (hEL : EW Z a0 EL) (imp : ∀ v h L, Q v h L → Keep h0 h [] ∧ Q' v h L) :
    Met1H l y bytes ml ret ws R A Z h0 EL Q' :=
  MetFree.mono M (fun a s ⟨h1, h2, h3, _⟩ => ⟨h1, h2, h3⟩) (fun _ _ _ _ _ h => h) (fun a s o s' ⟨hA, hZ, hh, hc⟩ ⟨v, L, ho, hQ, hF⟩ => by
    obtain ⟨K, hQ'⟩ := imp _ _ _ hQ
    refine ⟨v, L, ho, hQ', ?_, ReturnedEndW.of_narrow hF.1 hF.2.1 hF.2.2⟩
    rw [hh]
    have A1 := CHr.keep K (fun x hx => by cases hx) hc
    have q := CHv.later (h' := s'.heap) hZ (hW := (show (Wst Z s.vm s'.heap).Warmed39 s'.vm from hF.2.1.wide)) hEL ⟨Nat.le_refl _, fun _ _ q => q⟩ (Or.inl hF.2.1.interned_eq) A1.1
    exact A1.trans ⟨q.1, Nat.le_refl _, q.2⟩)
theorem Met1H.imp {y : MethodName} {bytes : ByteArray} {ml : Nat} {ret : Option FieldType} {ws : List Cond} {A : Array Value} {h0 : Heap} {Q' : Option Value → Heap → List Loc → Prop} (M : Met1H l y bytes ml ret ws R A Z h0 EL Q) (imp : ∀ v h L, Q v h L → Q' v h L) :
    Met1H l y bytes ml ret ws R A Z h0 EL Q' :=
  MetFree.mono M (fun _ _ h => h) (fun _ _ _ _ _ h => h) (fun a s o s' _ ⟨v, L, ho, hQ, r⟩ => ⟨v, L, ho, imp _ _ _ hQ, r⟩)
end Held
end Jvm.OwnKit
namespace Jvm.OwnKit
open Sem ClassFile Op Lib Bundle Jvm.Stand Jvm.Free Jvm.LawKit Jvm.RoadKit Jvm.Free.SB Jvm.Free.SBG
variable {Z : State} {a0 : Array Value} {EL : List (String × Nat)} {vm vm0 vm1 : Vm} {h h' : Heap}
theorem safeNull {x : Addr} (hal : Z.vm.Alike vm) (E : Exa Z h x "java/lang/String") (F : Fld Z h x "java/lang/String" "value" "[B" .null) : Safe Z EL vm h x := fun B => by
  obtain ⟨p, -, u, a, -, q, rfl, G, hy⟩ := B
  obtain ⟨cell, cf, k, i, f, h1, h2, h3, h4, h5, h6, h7⟩ := F
  rcases hy with rfl | rfl
  · obtain ⟨cS, ⟨⟨s1, -, -, ⟨c1, k1, i1, f1, -⟩, -, -, -, v1, -⟩, -⟩, -⟩ := G
    cases h1.symm.trans s1
    obtain ⟨k3, e3, -⟩ := State.fieldFound?_setVm (s := Z) hal h2
    have e4 := (show (Wst Z vm h).fieldFound? _ _ _ = _ from e3).symm.trans f1
    simp only [Option.some.injEq, Prod.mk.injEq] at e4
    rw [← e4.2.2.2, h7] at v1
    cases v1
  · obtain ⟨c2, k2, g1, g2, g3, -, -⟩ := E
    have hd := G.hd
    obtain ⟨cS, -, -, hB, -⟩ := G
    cases g1.symm.trans hd
    have hB' : Z.vm.findClass "[B" = some q.SA.cls := by rw [← hal.findClass]; exact hB
    obtain ⟨ka, ha, na⟩ := Vm.findClass_spec hB'
    obtain ⟨kb, hb, nb⟩ := Vm.findClass_spec g2
    cases ha.symm.trans hb
    rw [na] at nb
    exact absurd nb (by decide)
end Jvm.OwnKit
namespace Jvm.Pilot.@@N@@
open Jvm Jvm.ClassFile Sem Op Lib Jvm.Free Jvm.Stand Jvm.LawKit Jvm.RoadKit Jvm.OwnKit Bundle Jvm.Pilot.@@N@@.Jvm.D
abbrev q0 : String := "com/example/model_for_reads/modelforreads/model/FieldType"
abbrev q1 : String := "Lcom/example/model_for_reads/modelforreads/model/FieldType;"
abbrev q2 : String := "[Lcom/example/model_for_reads/modelforreads/model/FieldType;"
abbrev q3 : String := "java/lang/String"
abbrev q4 : String := "jdk/internal/util/Preconditions"
abbrev q5 : String := "Ljava/util/function/BiFunction;"
abbrev q6 : String := "java/lang/StringUTF16"
abbrev q7 : String := "COMPACT_STRINGS"
abbrev q8 : String := "SIOOBE_FORMATTER"
abbrev n1 : MethodName := ⟨"java/lang/String", "length", "()I"⟩
abbrev n2 : MethodName := ⟨"java/lang/String", "coder", "()B"⟩
abbrev n3 : MethodName := ⟨"com/example/model_for_reads/modelforreads/model/FieldTypeFromModelNamePinLaw", "at", "(Ljava/lang/String;I)C"⟩
abbrev n4 : MethodName := ⟨"java/lang/String", "charAt", "(I)C"⟩
abbrev n5 : MethodName := ⟨"java/lang/String", "isLatin1", "()Z"⟩
abbrev n6 : MethodName := ⟨"java/lang/StringLatin1", "charAt", "([BI)C"⟩
abbrev n7 : MethodName := ⟨"java/lang/String", "checkIndex", "(II)V"⟩
abbrev n8 : MethodName := ⟨"jdk/internal/util/Preconditions", "checkIndex", "(IILjava/util/function/BiFunction;)I"⟩
abbrev n9 : MethodName := ⟨"com/example/model_for_reads/modelforreads/model/FieldTypeFromModelNamePinLaw", "str", "([CI)Ljava/lang/String;"⟩
abbrev n10 : MethodName := ⟨"java/lang/String", "<init>", "([C)V"⟩
abbrev n11 : MethodName := ⟨"java/lang/String", "<init>", "([CIILjava/lang/Void;)V"⟩
abbrev n12 : MethodName := ⟨"java/lang/Object", "<init>", "()V"⟩
abbrev n13 : MethodName := ⟨"java/lang/StringUTF16", "compress", "([CII)[B"⟩
abbrev n14 : MethodName := ⟨"java/lang/StringUTF16", "compress", "([CI[BII)I"⟩
abbrev n15 : MethodName := ⟨"java/lang/StringUTF16", "coderFromArrayLen", "([BI)B"⟩
abbrev n16 : MethodName := ⟨"com/example/model_for_reads/modelforreads/model/FieldType", "fromModelName", "(Ljava/lang/String;)Ljava/util/Optional;"⟩
abbrev n17 : MethodName := ⟨"com/example/model_for_reads/modelforreads/model/FieldType", "values", "()[Lcom/example/model_for_reads/modelforreads/model/FieldType;"⟩
abbrev n18 : MethodName := ⟨"java/lang/String", "equals", "(Ljava/lang/Object;)Z"⟩
abbrev n19 : MethodName := ⟨"java/lang/StringLatin1", "equals", "([B[B)Z"⟩
abbrev n20 : MethodName := ⟨"java/util/Optional", "of", "(Ljava/lang/Object;)Ljava/util/Optional;"⟩
abbrev n21 : MethodName := ⟨"java/util/Objects", "requireNonNull", "(Ljava/lang/Object;)Ljava/lang/Object;"⟩
abbrev n22 : MethodName := ⟨"java/util/Optional", "<init>", "(Ljava/lang/Object;)V"⟩
abbrev n23 : MethodName := ⟨"java/util/Optional", "orElse", "(Ljava/lang/Object;)Ljava/lang/Object;"⟩
abbrev n24 : MethodName := ⟨"java/util/Optional", "empty", "()Ljava/util/Optional;"⟩
abbrev n25 : MethodName := ⟨"com/example/model_for_reads/modelforreads/model/FieldTypeFromModelNamePinLaw", "byteAt", "(JI)C"⟩
abbrev n26 : MethodName := ⟨"java/lang/StringUTF16", "toBytes", "([CII)[B"⟩
abbrev n27 : MethodName := ⟨"java/lang/StringUTF16", "newBytesFor", "(I)[B"⟩
abbrev n28 : MethodName := ⟨"java/lang/StringUTF16", "newBytesLength", "(I)I"⟩
abbrev n29 : MethodName := ⟨"java/lang/StringUTF16", "putChar", "([BII)V"⟩
abbrev n30 : MethodName := ⟨"java/lang/StringUTF16", "getChar", "([BI)C"⟩
theorem W_ {a0 : Array Value} {Z : State} (hw : ∀ d ∈ tables_1, d.before a0 Z = true) (i : Nat) {d : Jvm.Cond} (h : tables_1[i]? = some d := by rfl) : d.before a0 Z = true := hw d (List.mem_of_getElem? h)
def own_gt (xs : List Value) (i : Nat) : Int32 := match xs.getD i (.int (0 : Int32)) with | .int z => z | _ => 0
def own_b (z : Int32) : Value := .int (nar .byte (z.toInt8.toInt32))
def own_app (vs xs : List Value) (t : Nat) : Nat → List Value
  | 0 => vs
  | n + 1 => (own_app vs xs t n).set (t + n) (own_b (own_gt xs n))
theorem own_applen (vs xs : List Value) (t : Nat) : ∀ n, (own_app vs xs t n).length = vs.length
  | 0 => rfl
  | n + 1 => by rw [own_app, List.length_set]; exact own_applen vs xs t n
/-- a list of chars -/
def own_chs (xs : List Value) : Prop := ∀ i, ∃ z : Int32, xs.getD i (.int (0 : Int32)) = .int z
theorem own_lg {xs : List Value} (h : own_chs xs) (i : Nat) : xs.getD i (.int (0 : Int32)) = .int (own_gt xs i) := by
  obtain ⟨z, e⟩ := h i
  unfold own_gt
  rw [e]
theorem own_tn {x : Int32} (h : 0 ≤ x.toInt) : x.toInt = x.toNatClampNeg := by show x.toInt = (x.toInt.toNat : Int); omega
/-- one turn further -/
theorem own_nx {i n : Int32} (h0 : 0 ≤ i.toInt) (hn : n.toInt ≤ 8) (h : i < n) : (¬ i < 0 ∧ i < n) ∧ 0 ≤ (i + 1).toInt ∧ (i + 1).toInt ≤ n.toInt ∧ (i + 1).toNatClampNeg = i.toNatClampNeg + 1 ∧ n.toNatClampNeg - (i + 1).toNatClampNeg < n.toNatClampNeg - i.toNatClampNeg ∧ 0 + i.toNatClampNeg < n.toNatClampNeg := by
  have h' := h
  rw [Int32.lt_iff_toInt_lt] at h'
  have e : (i + 1).toInt = i.toInt + 1 := Jvm.Kit.i32_add (q := 1) (by show _ ≤ i.toInt + 1; omega) (by show i.toInt + 1 < _; omega)
  have e1 : (i + 1).toNatClampNeg = i.toNatClampNeg + 1 := by
    show (i + 1).toInt.toNat = i.toInt.toNat + 1
    omega
  have e2 := own_tn h0
  have e3 := own_tn (x := n) (by omega)
  refine ⟨⟨?_, h⟩, by omega, by omega, e1, by omega, by omega⟩
  rw [Int32.lt_iff_toInt_lt]
  show ¬ i.toInt < (0 : Int)
  omega
theorem own_end {i n : Int32} (h : ¬ i < n) (h2 : i.toInt ≤ n.toInt) : i = n := by
  rw [Int32.lt_iff_toInt_lt] at h
  exact Int32.toInt_inj.mp (by omega)
def own_lo (z : Int32) : Value := .int (nar .byte ((z >>> ((0 : Int32) &&& 31)).toInt8.toInt32))
def own_hi (z : Int32) : Value := .int (nar .byte ((z >>> ((8 : Int32) &&& 31)).toInt8.toInt32))
def own_utf (vs xs : List Value) : Nat → List Value
  | 0 => vs
  | n + 1 => ((own_utf vs xs n).set (2 * n) (own_lo (own_gt xs n))).set (2 * n + 1) (own_hi (own_gt xs n))
theorem own_utflen (vs xs : List Value) : ∀ n, (own_utf vs xs n).length = vs.length
  | 0 => rfl
  | n + 1 => by rw [own_utf, List.length_set, List.length_set]; exact own_utflen vs xs n
theorem own_dbl {x : Int32} (h0 : 0 ≤ x.toInt) (h : x.toInt ≤ 8) : (x <<< ((1 : Int32) &&& 31)).toInt = 2 * x.toInt := by
  have e : (x <<< ((1 : Int32) &&& 31)).toInt = x.toInt * 2 ^ 1 := Jvm.Kit.i32_shl x _ (k := 1) (by decide) (by omega) (by omega)
  omega
/-- the two places of char j in an array of m = 2 n bytes -/
theorem own_two {j m n d : Int32} (h0 : 0 ≤ j.toInt) (hn : n.toInt ≤ 8) (h : j < n) (hm : m.toInt = 2 * n.toInt) (hd : d = j <<< ((1 : Int32) &&& 31)) : (¬ d < 0 ∧ d < m) ∧ (¬ (d + 1) < 0 ∧ (d + 1) < m) ∧ d.toNatClampNeg = 2 * j.toNatClampNeg ∧ (d + 1).toNatClampNeg = 2 * j.toNatClampNeg + 1 ∧ 2 * j.toNatClampNeg + 1 < m.toNatClampNeg := by
  rw [Int32.lt_iff_toInt_lt] at h
  have e := own_dbl h0 (by omega)
  rw [← hd] at e
  have e1 : (d + 1).toInt = d.toInt + 1 := Jvm.Kit.i32_add (q := 1) (by show _ ≤ d.toInt + 1; omega) (by show d.toInt + 1 < _; omega)
  have ej := own_tn h0
  have em := own_tn (x := m) (by omega)
  refine ⟨?_, ?_, ?_, ?_, ?_⟩
  · rw [Int32.lt_iff_toInt_lt, Int32.lt_iff_toInt_lt]; show ¬ _ < (0 : Int) ∧ _; omega
  · rw [Int32.lt_iff_toInt_lt, Int32.lt_iff_toInt_lt]; show ¬ _ < (0 : Int) ∧ _; omega
  · show d.toInt.toNat = _; omega
  · show (d + 1).toInt.toNat = _; omega
  · omega
theorem own_len2 {n m : Int32} (hn : 0 ≤ n.toInt ∧ n.toInt ≤ 8) (hm : m = n <<< ((1 : Int32) &&& 31)) : m.toInt = 2 * n.toInt ∧ ¬ n < 0 ∧ n < 1073741823 ∧ ¬ m < 0 ∧ m.toNatClampNeg ≤ 16 ∧ m.toNatClampNeg = 2 * n.toNatClampNeg := by
  have e := own_dbl hn.1 hn.2
  rw [← hm] at e
  have en := own_tn hn.1
  have em := own_tn (x := m) (by omega)
  refine ⟨e, ?_, ?_, ?_, by omega, by omega⟩
  · rw [Int32.lt_iff_toInt_lt]; show ¬ _ < (0 : Int); omega
  · rw [Int32.lt_iff_toInt_lt]; show _ < (1073741823 : Int); omega
  · rw [Int32.lt_iff_toInt_lt]; show ¬ _ < (0 : Int); omega
def own_gc (x y : Int32) : Int32 := (((x &&& 255) <<< ((0 : Int32) &&& 31)) ||| ((y &&& 255) <<< ((8 : Int32) &&& 31))).toUInt32.toUInt16.toUInt32.toInt32
theorem own_lt {i j n : Int32} (h : i.toInt ≤ j.toInt) (h2 : j < n) : i < n := by
  rw [Int32.lt_iff_toInt_lt] at h2 ⊢
  omega
theorem own_le8 {j n : Int32} (hn : 0 ≤ n.toInt ∧ n.toInt ≤ 8) (h : j < n) : j.toInt ≤ 8 := by
  rw [Int32.lt_iff_toInt_lt] at h
  omega
theorem own_nej {xs : List Value} {i j : Int32} (h0 : 0 ≤ i.toInt) (hb : (255 : Int32) < own_gt xs j.toNatClampNeg) (h : ¬ (255 : Int32) < own_gt xs i.toNatClampNeg) : ¬ i = j := fun q => h (q ▸ hb)
theorem own_ltj {i j : Int32} (h : i.toInt ≤ j.toInt) (h2 : ¬ i = j) : i < j := by
  rw [Int32.lt_iff_toInt_lt]
  have : i.toInt ≠ j.toInt := fun q => h2 (Int32.toInt_inj.mp q)
  omega
theorem own_atj {xs : List Value} {i j : Int32} (h0 : 0 ≤ i.toInt) (h : i.toInt ≤ j.toInt) (hl : ∀ k, k < j.toNatClampNeg → ¬ (255 : Int32) < own_gt xs k) (hb : (255 : Int32) < own_gt xs i.toNatClampNeg) : i = j := by
  apply Int32.toInt_inj.mp
  have e1 := own_tn h0
  have e2 := own_tn (x := j) (by omega)
  by_cases q : i.toNatClampNeg < j.toNatClampNeg
  · exact absurd hb (hl _ q)
  · omega
theorem own_cc (x : Int32) : (x.toUInt32.toUInt16.toUInt32.toInt32).toUInt32.toUInt16.toUInt32.toInt32 = x.toUInt32.toUInt16.toUInt32.toInt32 := by
  rw [UInt32.toUInt32_toInt32, UInt16.toUInt16_toUInt32]
theorem own_gcn (x y : Int32) : nar .char (own_gc x y) = own_gc x y := own_cc _
theorem own_c0 (x : Int32) : nar .byte ((ushI (x - x) 31).toInt8.toInt32) = 0 := by rw [Int32.sub_self]; decide
theorem own_neg {x m : Int32} (hx : 1 ≤ x.toInt ∧ x.toInt ≤ 8) (hm : m.toInt = 2 * x.toInt) : nar .byte ((ushI (x - m) 31).toInt8.toInt32) = 1 := by
  have back : ∀ k : Int32, x.toInt = k.toInt → x = k := fun k e => Int32.toInt_inj.mp e
  have backm : ∀ k : Int32, m.toInt = k.toInt → m = k := fun k e => Int32.toInt_inj.mp e
  have q : x.toInt = 1 ∨ x.toInt = 2 ∨ x.toInt = 3 ∨ x.toInt = 4 ∨ x.toInt = 5 ∨ x.toInt = 6 ∨ x.toInt = 7 ∨ x.toInt = 8 := by omega
  rcases q with q | q | q | q | q | q | q | q
  · rw [back 1 q, backm 2 (by show _ = (2 : Int); omega)]; decide
  · rw [back 2 q, backm 4 (by show _ = (4 : Int); omega)]; decide
  · rw [back 3 q, backm 6 (by show _ = (6 : Int); omega)]; decide
  · rw [back 4 q, backm 8 (by show _ = (8 : Int); omega)]; decide
  · rw [back 5 q, backm 10 (by show _ = (10 : Int); omega)]; decide
  · rw [back 6 q, backm 12 (by show _ = (12 : Int); omega)]; decide
  · rw [back 7 q, backm 14 (by show _ = (14 : Int); omega)]; decide
  · rw [back 8 q, backm 16 (by show _ = (16 : Int); omega)]; decide
theorem own_utfget (vs xs : List Value) (j : Nat) : ∀ n, j < n → 2 * n ≤ vs.length → (own_utf vs xs n).getD (2 * j) (.int (0 : Int32)) = own_lo (own_gt xs j) ∧ (own_utf vs xs n).getD (2 * j + 1) (.int (0 : Int32)) = own_hi (own_gt xs j)
  | 0, h, _ => absurd h (Nat.not_lt_zero _)
  | n + 1, h, hl => by
    have e := own_utflen vs xs n
    rw [own_utf]
    simp only [List.getD_eq_getElem?_getD]
    by_cases q : j = n
    · subst q
      rw [List.getElem?_set_ne (by omega), List.getElem?_set_self (by omega), List.getElem?_set_self (by rw [List.length_set]; omega)]
      exact ⟨rfl, rfl⟩
    · have ih := own_utfget vs xs j n (by omega) (by omega)
      simp only [List.getD_eq_getElem?_getD] at ih
      rw [List.getElem?_set_ne (by omega), List.getElem?_set_ne (by omega), List.getElem?_set_ne (by omega), List.getElem?_set_ne (by omega)]
      exact ih
theorem own_u16 (u : UInt16) : (u.toUInt32.toInt32).toInt = u.toNat := by
  have hu := u.toNat_lt
  have hc := BitVec.toInt_eq_toNat_cond u.toUInt32.toInt32.toBitVec
  have e : u.toUInt32.toInt32.toBitVec.toNat = u.toNat := by simp
  have ht : u.toUInt32.toInt32.toBitVec.toInt = u.toUInt32.toInt32.toInt := rfl
  rw [e, ht] at hc
  rw [hc, if_pos (by omega)]
theorem own_nn {a : Int32} {k : Nat} (h : a.toInt = k) (hk : k < 2 ^ 31) : a.toBitVec.toNat = k := by
  have hc := BitVec.toInt_eq_toNat_cond a.toBitVec
  have hl := a.toBitVec.isLt
  have ht : a.toBitVec.toInt = a.toInt := rfl
  rw [ht] at hc
  split at hc <;> omega
theorem own_gcv (x y : Int32) : (own_gc x y).toInt = x.toInt % 256 + 256 * (y.toInt % 256) := by
  obtain ⟨a, ha⟩ : ∃ a : Nat, (a : Int) = x.toInt % 256 := ⟨(x.toInt % 256).toNat, by omega⟩
  obtain ⟨b, hb⟩ : ∃ b : Nat, (b : Int) = y.toInt % 256 := ⟨(y.toInt % 256).toNat, by omega⟩
  have hx : (x &&& 255).toInt = x.toInt % 2 ^ 8 := Jvm.Kit.i32_mask x 255 (k := 8) (by decide) (by decide)
  have hy : (y &&& 255).toInt = y.toInt % 2 ^ 8 := Jvm.Kit.i32_mask y 255 (k := 8) (by decide) (by decide)
  have e1 : ((x &&& 255) <<< ((0 : Int32) &&& 31)).toInt = (x &&& 255).toInt * 2 ^ 0 := Jvm.Kit.i32_shl _ _ (k := 0) (by decide) (by omega) (by omega)
  have e2 : ((y &&& 255) <<< ((8 : Int32) &&& 31)).toInt = (y &&& 255).toInt * 2 ^ 8 := Jvm.Kit.i32_shl _ _ (k := 8) (by decide) (by omega) (by omega)
  have n1 := own_nn (a := (x &&& 255) <<< ((0 : Int32) &&& 31)) (k := a) (by omega) (by omega)
  have n2 := own_nn (a := (y &&& 255) <<< ((8 : Int32) &&& 31)) (k := b * 2 ^ 8) (by omega) (by omega)
  unfold own_gc
  rw [own_u16, UInt32.toNat_toUInt16]
  have eo : (((x &&& 255) <<< ((0 : Int32) &&& 31)) ||| ((y &&& 255) <<< ((8 : Int32) &&& 31))).toUInt32.toNat = a ||| (b * 2 ^ 8) := by
    show (((x &&& 255) <<< ((0 : Int32) &&& 31)) ||| ((y &&& 255) <<< ((8 : Int32) &&& 31))).toBitVec.toNat = _
    rw [Int32.toBitVec_or, BitVec.toNat_or, n1, n2]
  have es : a ||| (b * 2 ^ 8) = b * 2 ^ 8 + a := by
    rw [Nat.or_comm, ← Nat.shiftLeft_eq, Nat.shiftLeft_add_eq_or_of_lt (by omega)]
  rw [eo, es]
  omega
theorem own_gcz {z : Int32} (h : 0 ≤ z.toInt ∧ z.toInt ≤ 65535) : own_gc (nar .byte ((z >>> ((0 : Int32) &&& 31)).toInt8.toInt32)) (nar .byte ((z >>> ((8 : Int32) &&& 31)).toInt8.toInt32)) = z := by
  have nb : ∀ x : Int32, nar .byte (x.toInt8.toInt32) = x.toInt8.toInt32 := fun x => by
    show (x.toInt8.toInt32).toInt8.toInt32 = x.toInt8.toInt32
    rw [Int8.toInt8_toInt32]
  have md : ∀ x : Int32, (x.toInt8.toInt32).toInt % 256 = x.toInt % 256 := fun x => by
    rw [Int8.toInt_toInt32, Int32.toInt_toInt8]
    exact Int.bmod_emod
  have s0 : (z >>> ((0 : Int32) &&& 31)).toInt = z.toInt / 2 ^ 0 := Jvm.Kit.i32_shr z _ (k := 0) (by decide)
  have s8 : (z >>> ((8 : Int32) &&& 31)).toInt = z.toInt / 2 ^ 8 := Jvm.Kit.i32_shr z _ (k := 8) (by decide)
  apply Int32.toInt_inj.mp
  rw [own_gcv, nb, nb, md, md, s0, s8]
  omega
theorem own_pn {n : Int32} (h : 0 ≤ n.toInt ∧ n.toInt ≤ 8) : ¬ n < 0 ∧ n.toNatClampNeg ≤ 8 := by
  have e := own_tn h.1
  refine ⟨?_, by omega⟩
  rw [Int32.lt_iff_toInt_lt]
  show ¬ _ < (0 : Int)
  omega
theorem own_ltne {i n : Int32} (h : i < n) : ¬ i = n := fun q => by rw [q, Int32.lt_iff_toInt_lt] at h; omega
theorem own_jn {j n : Int32} (h0 : 0 ≤ j.toInt) (h : j < n) : j.toNatClampNeg < n.toNatClampNeg := by
  rw [Int32.lt_iff_toInt_lt] at h
  have e1 := own_tn h0
  have e2 := own_tn (x := n) (by omega)
  omega
theorem own_1n {n : Int32} (h : 0 ≤ n.toInt ∧ n.toInt ≤ 8) (h0 : ¬ n = 0) : 1 ≤ n.toInt ∧ n.toInt ≤ 8 := by
  refine ⟨?_, h.2⟩
  by_cases q : n.toInt = 0
  · exact absurd (Int32.toInt_inj.mp (q.trans rfl)) h0
  · omega
/-- the first n chars -/
def own_tk (as : List Value) (n : Nat) : List Value := (List.range n).map fun i => .int (nar .char (own_gt as i))
theorem own_tkg (as : List Value) (n i : Nat) (h : i < n) : own_gt (own_tk as n) i = nar .char (own_gt as i) := by
  unfold own_tk
  show (match ((List.range n).map fun i => Value.int (nar .char (own_gt as i))).getD i (.int (0 : Int32)) with | .int z => z | _ => 0) = _
  simp [List.getD_eq_getElem?_getD, h]
theorem own_tkc (as : List Value) (n : Nat) : own_chs (own_tk as n) := fun i => by
  unfold own_tk
  by_cases h : i < n
  · exact ⟨nar .char (own_gt as i), by simp [List.getD_eq_getElem?_getD, h]⟩
  · exact ⟨0, by simp [List.getD_eq_getElem?_getD, h]⟩
def own_ch (b : Int32) : Int32 := (b &&& 255).toUInt32.toUInt16.toUInt32.toInt32
theorem own_chn (b : Int32) : nar .char ((b &&& 255).toUInt32.toUInt16.toUInt32.toInt32) = own_ch b := own_cc _
theorem own_chm (b : Int32) : nar .char (own_ch b) = own_ch b := own_cc _
theorem own_sh0 (x : Int32) : x >>> ((0 : Int32) &&& 31) = x := by
  rw [show (0 : Int32) &&& 31 = 0 by decide, Int32.shiftRight_zero]
/-- two byte arrays alike -/
def own_eqb (n m : Int32) (vs ws : List Value) : Int32 := if n = m then (if (List.range n.toNatClampNeg).all fun i => own_gt vs i == own_gt ws i then 1 else 0) else 0
theorem own_eqb0 {n m : Int32} {vs ws : List Value} (h : ¬ n = m) : own_eqb n m vs ws = 0 := if_neg h
theorem own_eqbd {n : Int32} {vs ws : List Value} {i : Nat} (hi : i < n.toNatClampNeg) (h : ¬ own_gt vs i = own_gt ws i) : own_eqb n n vs ws = 0 := by
  unfold own_eqb
  rw [if_pos rfl, if_neg]
  intro q
  have := List.all_eq_true.mp q i (List.mem_range.mpr hi)
  exact h (by simpa using this)
theorem own_eqb1 {n : Int32} {vs ws : List Value} (h : ∀ i, i < n.toNatClampNeg → own_gt vs i = own_gt ws i) : own_eqb n n vs ws = 1 := by
  unfold own_eqb
  rw [if_pos rfl, if_pos]
  exact List.all_eq_true.mpr fun i hi => by simpa using h i (List.mem_range.mp hi)
theorem own_more {vs ws : List Value} {i : Nat} (h : ∀ k, k < i → own_gt vs k = own_gt ws k) (q : own_gt vs i = own_gt ws i) : ∀ k, k < i + 1 → own_gt vs k = own_gt ws k := fun k hk => by
  by_cases e : k = i
  · rw [e]; exact q
  · exact h k (by omega)
theorem own_e0 {n m : Int32} {vs ws : List Value} (h : own_eqb n m vs ws = 0) : (0 : Int32) = own_eqb n m vs ws := h.symm
theorem own_e1 {n m : Int32} {vs ws : List Value} (h : ¬ own_eqb n m vs ws = 0) : (1 : Int32) = own_eqb n m vs ws := by
  unfold own_eqb at h ⊢
  by_cases q : n = m
  · rw [if_pos q] at h ⊢
    split at h
    · rename_i r
      rw [if_pos r]
    · exact absurd rfl h
  · rw [if_neg q] at h
    exact absurd rfl h
def own_ba (d : Int64) (j : Int32) : Int32 := ((ushL d (8 * j)) &&& 255).toInt32.toUInt32.toUInt16.toUInt32.toInt32
theorem own_ban (d : Int64) (j : Int32) : nar .char (own_ba d j) = own_ba d j := own_cc _

theorem own_appg (vs xs : List Value) (k : Nat) : ∀ n, k < n → n ≤ vs.length → own_gt (own_app vs xs 0 n) k = nar .byte ((own_gt xs k).toInt8.toInt32)
  | 0, h, _ => absurd h (Nat.not_lt_zero _)
  | n + 1, h, hl => by
    have e := own_applen vs xs 0 n
    rw [own_app, Nat.zero_add]
    by_cases q : k = n
    · subst q
      unfold own_gt
      rw [List.getD_eq_getElem?_getD, List.getElem?_set_self (by omega)]
      rfl
    · have ih := own_appg vs xs k n (by omega) (by omega)
      rw [← ih]
      unfold own_gt
      rw [List.getD_eq_getElem?_getD, List.getElem?_set_ne (by omega), ← List.getD_eq_getElem?_getD]
theorem own_gts (as : List Value) (j k : Nat) (z : Int32) (hj : j < as.length) : own_gt (as.set j (.int z)) k = if k = j then z else own_gt as k := by
  unfold own_gt
  by_cases q : k = j
  · subst q
    rw [if_pos rfl, List.getD_eq_getElem?_getD, List.getElem?_set_self hj]
    rfl
  · rw [if_neg q, List.getD_eq_getElem?_getD, List.getElem?_set_ne (by omega), ← List.getD_eq_getElem?_getD]
theorem own_chsI {xs : List Value} (h : ∀ v ∈ xs, ∃ z : Int32, v = .int z) : own_chs xs := fun i => by
  rw [List.getD_eq_getElem?_getD]
  cases q : xs[i]? with
  | none => exact ⟨0, rfl⟩
  | some v => exact h v (List.mem_of_getElem? q)
theorem own_chm' {xs : List Value} (h : own_chs xs) : ∀ v ∈ xs, ∃ z : Int32, v = .int z := fun v hv => by
  obtain ⟨i, hi⟩ := List.getElem?_of_mem hv
  obtain ⟨z, e⟩ := h i
  rw [List.getD_eq_getElem?_getD, hi] at e
  exact ⟨z, e⟩
theorem own_chset {as : List Value} (h : own_chs as) (j : Nat) (z : Int32) : own_chs (as.set j (.int z)) := own_chsI fun v hv => by
  rcases List.mem_or_eq_of_mem_set hv with q | q
  · exact own_chm' h v q
  · exact ⟨z, q⟩
theorem own_repc (n : Nat) : own_chs (List.replicate n (.int (0 : Int32))) := own_chsI fun v hv => ⟨0, List.eq_of_mem_replicate hv⟩
theorem own_appc {vs : List Value} (h : own_chs vs) (xs : List Value) (t : Nat) : ∀ n, own_chs (own_app vs xs t n)
  | 0 => h
  | n + 1 => by rw [own_app]; exact own_chset (own_appc h xs t n) _ _
theorem own_wlc (n m : Nat) (xs : List Value) : own_chs (own_app (List.replicate n (.int (0 : Int32))) xs 0 m) := own_appc (own_repc n) xs 0 m
def own_al0 : List Value := [.int (105 : Int32), .int (110 : Int32), .int (116 : Int32), .int (120 : Int32), .int (120 : Int32), .int (120 : Int32), .int (120 : Int32), .int (120 : Int32)]
def own_al1 : List Value := [.int (100 : Int32), .int (101 : Int32), .int (99 : Int32), .int (105 : Int32), .int (109 : Int32), .int (97 : Int32), .int (108 : Int32), .int (120 : Int32)]
def own_al2 : List Value := [.int (115 : Int32), .int (116 : Int32), .int (114 : Int32), .int (105 : Int32), .int (110 : Int32), .int (103 : Int32), .int (120 : Int32), .int (120 : Int32)]
def own_nl0 : List Value := [.int (105 : Int32), .int (110 : Int32), .int (116 : Int32)]
def own_nl1 : List Value := [.int (100 : Int32), .int (101 : Int32), .int (99 : Int32), .int (105 : Int32), .int (109 : Int32), .int (97 : Int32), .int (108 : Int32)]
def own_nl2 : List Value := [.int (115 : Int32), .int (116 : Int32), .int (114 : Int32), .int (105 : Int32), .int (110 : Int32), .int (103 : Int32)]
theorem own_alc0 : own_chs own_al0 := own_chsI (by simp [own_al0])
theorem own_alc1 : own_chs own_al1 := own_chsI (by simp [own_al1])
theorem own_alc2 : own_chs own_al2 := own_chsI (by simp [own_al2])
theorem own_nlc0 : own_chs [.int (105 : Int32), .int (110 : Int32), .int (116 : Int32)] := own_chsI (by simp)
theorem own_nlc1 : own_chs [.int (100 : Int32), .int (101 : Int32), .int (99 : Int32), .int (105 : Int32), .int (109 : Int32), .int (97 : Int32), .int (108 : Int32)] := own_chsI (by simp)
theorem own_nlc2 : own_chs [.int (115 : Int32), .int (116 : Int32), .int (114 : Int32), .int (105 : Int32), .int (110 : Int32), .int (103 : Int32)] := own_chsI (by simp)
def own_bl (d : Int64) : List Value := [.int (nar .char (own_ba d 0)), .int (nar .char (own_ba d 1)), .int (nar .char (own_ba d 2)), .int (nar .char (own_ba d 3)), .int (nar .char (own_ba d 4)), .int (nar .char (own_ba d 5)), .int (nar .char (own_ba d 6)), .int (nar .char (own_ba d 7))]
theorem own_blc (d : Int64) : own_chs (own_bl d) := own_chsI (by simp [own_bl])
theorem own_bar (d : Int64) (j : Int32) : ¬ (255 : Int32) < own_ba d j := by
  obtain ⟨y, hy⟩ : ∃ y : Int64, y = ushL d (8 * j) &&& 255 := ⟨_, rfl⟩
  have hm : (ushL d (8 * j) &&& 255).toInt = (ushL d (8 * j)).toInt % 2 ^ 8 := Jvm.Kit.i64_mask (ushL d (8 * j)) 255 (k := 8) (by decide) (by decide)
  unfold own_ba
  rw [← hy] at hm ⊢
  rw [Int32.lt_iff_toInt_lt, own_u16]
  have e : y.toInt32.toUInt32.toUInt16.toNat = y.toInt32.toUInt32.toNat % 65536 := by rw [UInt32.toNat_toUInt16]
  have hn : y.toInt32.toInt = y.toInt := by rw [Int64.toInt_toInt32]; exact Int.bmod_eq_of_le (by omega) (by omega)
  have hk := own_nn (a := y.toInt32) (k := y.toInt.toNat) (by omega) (by omega)
  have e2 : y.toInt32.toUInt32.toNat = y.toInt.toNat := hk
  rw [e, e2]
  show ¬ (255 : Int) < _
  omega
theorem own_bll (d : Int64) : ∀ i, ¬ (255 : Int32) < nar .char (own_gt (own_bl d) i) := fun i => by
  have key : ∀ j : Int32, ¬ (255 : Int32) < nar .char (nar .char (own_ba d j)) := fun j => by rw [own_ban, own_ban]; exact own_bar d j
  match i with
  | 0 => exact key 0
  | 1 => exact key 1
  | 2 => exact key 2
  | 3 => exact key 3
  | 4 => exact key 4
  | 5 => exact key 5
  | 6 => exact key 6
  | 7 => exact key 7
  | k + 8 =>
    have : own_gt (own_bl d) (k + 8) = 0 := rfl
    rw [this]; decide
/-- the three lists' chars are small -/
theorem own_latk {as : List Value} (h : ∀ i, ¬ (255 : Int32) < nar .char (own_gt as i)) (n : Nat) : ∀ i, i < n → ¬ (255 : Int32) < own_gt (own_tk as n) i := fun i hi => by
  rw [own_tkg _ _ _ hi]; exact h i
theorem own_als {as : List Value} (h : as.length = 8) (q : ∀ i, i < 8 → ¬ (255 : Int32) < nar .char (own_gt as i)) : ∀ i, ¬ (255 : Int32) < nar .char (own_gt as i) := fun i => by
  by_cases c : i < 8
  · exact q i c
  · have : own_gt as i = 0 := by
      unfold own_gt
      rw [List.getD_eq_getElem?_getD, List.getElem?_eq_none (by omega)]
      rfl
    rw [this]; decide
theorem own_als0 : ∀ i, ¬ (255 : Int32) < nar .char (own_gt own_al0 i) := own_als rfl (by decide +kernel)
theorem own_als1 : ∀ i, ¬ (255 : Int32) < nar .char (own_gt own_al1 i) := own_als rfl (by decide +kernel)
theorem own_als2 : ∀ i, ¬ (255 : Int32) < nar .char (own_gt own_al2 i) := own_als rfl (by decide +kernel)
/-- the char drawn -/
theorem own_zc {z x : Int32} (h : z = x.toUInt32.toUInt16.toUInt32.toInt32) : (0 ≤ z.toInt ∧ z.toInt ≤ 65535) ∧ nar .char z = z := by
  refine ⟨?_, by rw [h]; exact own_cc x⟩
  have := x.toUInt32.toUInt16.toNat_lt
  rw [h, own_u16]
  omega
theorem own_c4 {z x : Int32} (h : z = x &&& 3) : z = 0 ∨ z = 1 ∨ z = 2 ∨ z = 3 := by
  have e : (x &&& 3).toInt = x.toInt % 2 ^ 2 := Jvm.Kit.i32_mask x 3 (k := 2) (by decide) (by decide)
  rw [← h] at e
  have b : ∀ k : Int32, z.toInt = k.toInt → z = k := fun k e => Int32.toInt_inj.mp e
  have q : z.toInt = 0 ∨ z.toInt = 1 ∨ z.toInt = 2 ∨ z.toInt = 3 := by omega
  rcases q with q | q | q | q
  · exact Or.inl (b 0 q)
  · exact Or.inr (Or.inl (b 1 q))
  · exact Or.inr (Or.inr (Or.inl (b 2 q)))
  · exact Or.inr (Or.inr (Or.inr (b 3 q)))
theorem own_m7 (x : Int32) : 0 ≤ (x &&& 7).toInt ∧ (x &&& 7).toInt ≤ 7 := by
  have e : (x &&& 7).toInt = x.toInt % 2 ^ 3 := Jvm.Kit.i32_mask x 7 (k := 3) (by decide) (by decide)
  omega
theorem own_c8 {z : Int32} (h : 0 ≤ z.toInt ∧ z.toInt ≤ 7) : z = 0 ∨ z = 1 ∨ z = 2 ∨ z = 3 ∨ z = 4 ∨ z = 5 ∨ z = 6 ∨ z = 7 := by
  have b : ∀ k : Int32, z.toInt = k.toInt → z = k := fun k e => Int32.toInt_inj.mp e
  have q : z.toInt = 0 ∨ z.toInt = 1 ∨ z.toInt = 2 ∨ z.toInt = 3 ∨ z.toInt = 4 ∨ z.toInt = 5 ∨ z.toInt = 6 ∨ z.toInt = 7 := by omega
  rcases q with q | q | q | q | q | q | q | q
  · exact Or.inl (b 0 q)
  · exact Or.inr (Or.inl (b 1 q))
  · exact Or.inr (Or.inr (Or.inl (b 2 q)))
  · exact Or.inr (Or.inr (Or.inr (Or.inl (b 3 q))))
  · exact Or.inr (Or.inr (Or.inr (Or.inr (Or.inl (b 4 q)))))
  · exact Or.inr (Or.inr (Or.inr (Or.inr (Or.inr (Or.inl (b 5 q))))))
  · exact Or.inr (Or.inr (Or.inr (Or.inr (Or.inr (Or.inr (Or.inl (b 6 q)))))))
  · exact Or.inr (Or.inr (Or.inr (Or.inr (Or.inr (Or.inr (Or.inr (b 7 q)))))))
/-- the place drawn -/
theorem own_rem {x n d : Int32} {k : Nat} (hn : n.toInt = k) (hk : 0 < k) (h8 : k ≤ 8) (hd : d = (x &&& 2147483647) % n) : (0 ≤ d.toInt ∧ d < n) ∧ (¬ d < 0 ∧ d < 8) ∧ d.toNatClampNeg < k := by
  have e : (x &&& 2147483647).toInt = x.toInt % 2 ^ 31 := Jvm.Kit.i32_mask x 2147483647 (k := 31) (by decide) (by decide)
  have e2 : d.toInt = (x &&& 2147483647).toInt.tmod n.toInt := by rw [hd, Int32.toInt_mod]
  have h0 : 0 ≤ (x &&& 2147483647).toInt := by omega
  have e3 : d.toInt = (x &&& 2147483647).toInt % n.toInt := by rw [e2]; exact Int.tmod_eq_emod_of_nonneg h0
  have l0 : 0 ≤ d.toInt := by rw [e3]; exact Int.emod_nonneg _ (by omega)
  have l1 : d.toInt < n.toInt := by rw [e3]; exact Int.emod_lt_of_pos _ (by omega)
  have et := own_tn l0
  refine ⟨⟨l0, ?_⟩, ⟨?_, ?_⟩, by omega⟩
  · rw [Int32.lt_iff_toInt_lt]; exact l1
  · rw [Int32.lt_iff_toInt_lt]; show ¬ _ < (0 : Int); omega
  · rw [Int32.lt_iff_toInt_lt]; show _ < (8 : Int); omega
/-- one char changed: small, or not -/
theorem own_setg {as : List Value} {j n : Nat} {z : Int32} (hz : nar .char z = z) (hj : j < as.length) {i : Nat} (hi : i < n) : own_gt (own_tk (as.set j (.int (nar .char z))) n) i = if i = j then z else nar .char (own_gt as i) := by
  rw [own_tkg _ _ _ hi, own_gts _ _ _ _ hj]
  split
  · rw [hz, hz]
  · rfl
theorem own_hl {as : List Value} {j n : Nat} {z : Int32} (hz : nar .char z = z) (hj : j < as.length) (hs : ¬ (255 : Int32) < z) (ha : ∀ i, ¬ (255 : Int32) < nar .char (own_gt as i)) : ∀ i, i < n → ¬ (255 : Int32) < own_gt (own_tk (as.set j (.int (nar .char z))) n) i := fun i hi => by
  rw [own_setg hz hj hi]
  split
  · exact hs
  · exact ha i
theorem own_hu {as : List Value} {j n : Nat} {z : Int32} (hz : nar .char z = z) (hj : j < as.length) (hjn : j ≤ n) (ha : ∀ i, ¬ (255 : Int32) < nar .char (own_gt as i)) : ∀ i, i < j → ¬ (255 : Int32) < own_gt (own_tk (as.set j (.int (nar .char z))) n) i := fun i hi => by
  rw [own_setg hz hj (Nat.lt_of_lt_of_le hi hjn), if_neg (Nat.ne_of_lt hi)]
  exact ha i
theorem own_hg {as : List Value} {j n : Nat} {z : Int32} (hz : nar .char z = z) (hj : j < as.length) (hjn : j < n) : own_gt (own_tk (as.set j (.int (nar .char z))) n) j = z := by
  rw [own_setg hz hj hjn, if_pos rfl]
theorem own_hb {as : List Value} {j n : Nat} {z : Int32} (hz : nar .char z = z) (hj : j < as.length) (hjn : j < n) (hb : (255 : Int32) < z) : (255 : Int32) < own_gt (own_tk (as.set j (.int (nar .char z))) n) j := by
  rw [own_hg hz hj hjn]; exact hb
theorem own_hr {as : List Value} {j n : Nat} {z : Int32} (hz : nar .char z = z) (hj : j < as.length) (hjn : j < n) (hr : 0 ≤ z.toInt ∧ z.toInt ≤ 65535) : 0 ≤ (own_gt (own_tk (as.set j (.int (nar .char z))) n) j).toInt ∧ (own_gt (own_tk (as.set j (.int (nar .char z))) n) j).toInt ≤ 65535 := by
  rw [own_hg hz hj hjn]; exact hr
/-- the bytes of a changed name -/
theorem own_wg {as : List Value} {j n k : Nat} {z : Int32} (hz : nar .char z = z) (hj : j < as.length) (hk : k < n) : own_gt (own_app (List.replicate n (.int (0 : Int32))) (own_tk (as.set j (.int (nar .char z))) n) 0 n) k = nar .byte ((if k = j then z else nar .char (own_gt as k)).toInt8.toInt32) := by
  rw [own_appg _ _ _ _ hk (by rw [List.length_replicate]; exact Nat.le_refl _), own_setg hz hj hk]
theorem own_binj {x y : Int32} (hx : 0 ≤ x.toInt ∧ x.toInt ≤ 255) (hy : 0 ≤ y.toInt ∧ y.toInt ≤ 255) (h : nar .byte (x.toInt8.toInt32) = nar .byte (y.toInt8.toInt32)) : x = y := by
  have nb : ∀ x : Int32, nar .byte (x.toInt8.toInt32) = x.toInt8.toInt32 := fun x => by
    show (x.toInt8.toInt32).toInt8.toInt32 = x.toInt8.toInt32
    rw [Int8.toInt8_toInt32]
  have md : ∀ x : Int32, (x.toInt8.toInt32).toInt % 256 = x.toInt % 256 := fun x => by
    rw [Int8.toInt_toInt32, Int32.toInt_toInt8]
    exact Int.bmod_emod
  rw [nb, nb] at h
  have e := md x
  rw [h, md y] at e
  exact Int32.toInt_inj.mp (by omega)
theorem own_255 {z : Int32} (h : ¬ (255 : Int32) < z) : z.toInt ≤ 255 := by
  rw [Int32.lt_iff_toInt_lt] at h
  have : ((255 : Int32)).toInt = 255 := rfl
  omega
theorem own_lts {z : Int32} (hb : (255 : Int32) < z) {y : Int32} (hy : y.toInt ≤ 255) : ¬ z = y := fun q => by
  rw [Int32.lt_iff_toInt_lt] at hb
  have : ((255 : Int32)).toInt = 255 := rfl
  rw [q] at hb
  omega
/-- name and chars agree on the first n -/
def own_nm (n : Nat) (ls as : List Value) : Prop := as.length = 8 ∧ n ≤ 8 ∧ ∀ k, k < n → own_gt ls k = nar .byte ((nar .char (own_gt as k)).toInt8.toInt32) ∧ nar .char (own_gt as k) = own_gt as k ∧ 0 ≤ (own_gt as k).toInt ∧ (own_gt as k).toInt ≤ 255
theorem own_nm0 : own_nm 3 own_nl0 own_al0 := ⟨rfl, by decide, by decide +kernel⟩
theorem own_nm1 : own_nm 7 own_nl1 own_al1 := ⟨rfl, by decide, by decide +kernel⟩
theorem own_nm2 : own_nm 6 own_nl2 own_al2 := ⟨rfl, by decide, by decide +kernel⟩
theorem own_old {n : Nat} {ls as : List Value} (h : own_nm n ls as) {j : Nat} (hj : j < n) {z : Int32} (hb : (255 : Int32) < z) : ¬ z = own_gt as j := own_lts hb (h.2.2 j hj).2.2.2
theorem own_same {n : Int32} {k : Nat} (hk : n.toNatClampNeg = k) {ls as : List Value} (h : own_nm k ls as) {j : Nat} (hj : j < k) {z : Int32} (hz : nar .char z = z) (e : z = own_gt as j) : ¬ own_eqb n n ls (own_app (List.replicate n.toNatClampNeg (.int (0 : Int32))) (own_tk (as.set j (.int (nar .char z))) k) 0 n.toNatClampNeg) = 0 := by
  rw [own_eqb1]
  · decide
  · intro i hi
    rw [hk] at hi ⊢
    rw [own_wg hz (by rw [h.1]; exact Nat.lt_of_lt_of_le hj h.2.1) hi, (h.2.2 i hi).1]
    split
    · rename_i q
      rw [q, e, (h.2.2 j hj).2.1]
    · rfl
theorem own_diff {n : Int32} {k : Nat} (hk : n.toNatClampNeg = k) {ls as : List Value} (h : own_nm k ls as) {j : Nat} (hj : j < k) {z : Int32} (hz : nar .char z = z) (hr : 0 ≤ z.toInt) (hs : ¬ (255 : Int32) < z) (e : ¬ z = own_gt as j) : own_eqb n n ls (own_app (List.replicate n.toNatClampNeg (.int (0 : Int32))) (own_tk (as.set j (.int (nar .char z))) k) 0 n.toNatClampNeg) = 0 := by
  refine own_eqbd (i := j) (by rw [hk]; exact hj) ?_
  rw [hk, own_wg hz (by rw [h.1]; exact Nat.lt_of_lt_of_le hj h.2.1) hj, (h.2.2 j hj).1, if_pos rfl, (h.2.2 j hj).2.1]
  exact fun q => e (own_binj (h.2.2 j hj).2.2 ⟨hr, own_255 hs⟩ q).symm
/-- string and one more is not decimal -/
theorem own_sd {z : Int32} (hz : nar .char z = z) : own_eqb 7 7 own_nl1 (own_app (List.replicate (7 : Int32).toNatClampNeg (.int (0 : Int32))) (own_tk (own_al2.set 6 (.int (nar .char z))) 7) 0 (7 : Int32).toNatClampNeg) = 0 := by
  refine own_eqbd (i := 0) (by decide) ?_
  show ¬ _ = own_gt (own_app (List.replicate 7 (.int (0 : Int32))) (own_tk (own_al2.set 6 (.int (nar .char z))) 7) 0 7) 0
  rw [own_wg hz (by decide) (by decide), if_neg (by decide)]
  decide +kernel
/-- one cell read twice -/
theorem own_fone {Z : State} {h : Heap} {a : Addr} {C n d : String} {v w : Value} (F : Fld Z h a C n d v) (G : Fld Z h a C n d w) : v = w := by
  obtain ⟨cell, cf, k, i, f, h1, h2, h3, h4, h5, h6, h7⟩ := F
  obtain ⟨cell', cf', k', i', f', g1, g2, g3, g4, g5, g6, g7⟩ := G
  cases h1.symm.trans g1
  have e := h2.symm.trans g2
  simp only [Option.some.injEq, Prod.mk.injEq] at e
  rw [← e.2.2.2, h7] at g7
  exact Option.some.inj g7
theorem own_sm {Z : State} {h : Heap} {a b x y : Addr} {C n d : String} {k k' : ClassId} {u u' : Int32} {vs ws : List Value} (e : a = b) (F : Fld Z h a C n d (.ref x)) (G : Fld Z h b C n d (.ref y)) (A : Arv Z h x k .byte u vs (.int (0 : Int32))) (B : Arv Z h y k' .byte u' ws (.int (0 : Int32))) : (1 : Int32) = own_eqb u u' vs ws := by
  subst e
  have q := own_fone F G
  cases q
  obtain ⟨cl, Ar, qa, sa, na, ha, ga⟩ := A
  obtain ⟨cl', Ar', qa', sa', na', ha', ga'⟩ := B
  cases Ar.1.symm.trans Ar'.1
  have ex : u = u' := by
    apply Int32.toInt_inj.mp
    have e1 : 0 ≤ u.toInt := by rw [Int32.lt_iff_toInt_lt] at na; have : ((0 : Int32)).toInt = 0 := rfl; omega
    have e2 : 0 ≤ u'.toInt := by rw [Int32.lt_iff_toInt_lt] at na'; have : ((0 : Int32)).toInt = 0 := rfl; omega
    have t1 := own_tn e1
    have t2 := own_tn e2
    omega
  subst ex
  refine (own_eqb1 fun i hi => ?_).symm
  have e1 := ha i (by omega)
  have e2 := ha' i (by omega)
  unfold own_gt
  rw [Option.some.inj (e1.symm.trans e2)]
/-- what the sheet says of the start -/
theorem own_eqv {args : Array Value} {s : State} {t : Term} {k : Int32} (h : (Cond.eq t (.int k)).value args s none s [] = some true) : t.eval args s none [] s = some (.int k) := by
  obtain ⟨x, y, hx, hy, h1, h2⟩ := cmp_v (Or.inl h)
  cases (Option.some.inj ((Term.int_eval k).symm.trans hy))
  obtain ⟨z, rfl⟩ := h2
  rw [hx]
  exact congrArg (fun z => some (Value.int z)) (gotT (Cond.eq_ints hx hy) h)
theorem own_eqr {args : Array Value} {s : State} {t u : Term} {a : Addr} (h : (Cond.eq t u).value args s none s [] = some true) (hu : u.eval args s none [] s = some (.ref a)) : t.eval args s none [] s = some (.ref a) := by
  obtain ⟨x, y, hx, hy, h1, h2⟩ := cmp_v (Or.inl h)
  cases Option.some.inj (hu.symm.trans hy)
  rw [hx]
  cases x <;> simp [Cond.value, hx, hu] at h
  case ref b => rw [h]
theorem own_slots {args : Array Value} {s : State} {t : Term} {a : Addr} {cl : Cell} {ty : FieldType} {k : Int32} {vs : List Value} (ev : t.eval args s none [] s = some (.ref a)) (A : Arr s s.heap a cl ty) (h6 : (Term.length t).eval args s none [] s = some (.int k)) (hk : k.toNatClampNeg = vs.length) (H : HasL cl 0 vs) : cl.slots = vs.toArray := by
  have hat : s.arrayAt? a = some cl := Arr.fin (State.Warmed39.refl s).alike A
  have hsz : cl.slots.size = vs.length := by
    simp [Term.eval, ev, hat] at h6
    obtain ⟨b, e⟩ := h6
    rw [← hk, ← e]
    simp only [Int32.toNatClampNeg, len_toInt b]
    rfl
  apply Array.ext
  · simpa using hsz
  · intro i h1 h2
    have q := HasL.at (dv := .null) vs 0 H i (by omega)
    rw [Nat.zero_add, Array.getElem?_eq_getElem h1] at q
    have e := Option.some.inj q
    rw [e]
    simp [List.getD_eq_getElem?_getD, show i < vs.length by omega]

def own_EL : List (String × Nat) := [("com/example/model_for_reads/modelforreads/model/FieldTypeFromModelNamePinLaw", 23), ("com/example/model_for_reads/modelforreads/model/FieldTypeFromModelNamePinLaw", 31), ("com/example/model_for_reads/modelforreads/model/FieldTypeFromModelNamePinLaw", 36), ("com/example/model_for_reads/modelforreads/model/FieldTypeFromModelNamePinLaw", 41), ("java/lang/String", 7)]
theorem own_EW {Z : State} {a0 : Array Value} (hw : ∀ d ∈ tables_1, d.before a0 Z = true) : EW Z a0 own_EL := (EW.cons (W_ hw 2) (by decide) (EW.cons (W_ hw 142) (by decide) (EW.cons (W_ hw 134) (by decide) (EW.cons (W_ hw 136) (by decide) (EW.cons (W_ hw 163) (by decide) EW.nil)))))
theorem own_wS {Z : State} {a0 : Array Value} (hw : ∀ d ∈ tables_1, d.before a0 Z = true) : ∀ d ∈ Bundle.stringAtoms, d.before a0 Z = true := by
  intro d hd
  simp only [Bundle.stringAtoms, List.mem_cons, List.not_mem_nil, or_false] at hd
  rcases hd with rfl | rfl | rfl | rfl | rfl | rfl | rfl
  · exact (W_ hw 3)
  · exact (W_ hw 4)
  · exact (W_ hw 5)
  · exact (W_ hw 6)
  · exact (W_ hw 7)
  · exact (W_ hw 8)
  · exact (W_ hw 9)
theorem pn_14 : plainName "java/lang/StringUTF16" = true := by first | (simp [plainName, overriddenIn]; done) | decide +kernel
theorem d14_0 : decode jdk_52_method_21_code 0 = .ok (.iconst 0, 1) := by decide +kernel
theorem d14_1 : decode jdk_52_method_21_code 1 = .ok (.istore 5, 2) := by decide +kernel
theorem d14_3 : decode jdk_52_method_21_code 3 = .ok (.iload 5, 2) := by decide +kernel
theorem d14_5 : decode jdk_52_method_21_code 5 = .ok (.iload 4, 2) := by decide +kernel
theorem d14_7 : decode jdk_52_method_21_code 7 = .ok (.if_icmp .ge 37, 3) := by decide +kernel
theorem d14_10 : decode jdk_52_method_21_code 10 = .ok (.aload_n 0, 1) := by decide +kernel
theorem d14_11 : decode jdk_52_method_21_code 11 = .ok (.iload_n 1, 1) := by decide +kernel
theorem d14_12 : decode jdk_52_method_21_code 12 = .ok (.caload, 1) := by decide +kernel
theorem d14_13 : decode jdk_52_method_21_code 13 = .ok (.istore 6, 2) := by decide +kernel
theorem d14_15 : decode jdk_52_method_21_code 15 = .ok (.iload 6, 2) := by decide +kernel
theorem d14_17 : decode jdk_52_method_21_code 17 = .ok (.sipush 255, 3) := by decide +kernel
theorem d14_20 : decode jdk_52_method_21_code 20 = .ok (.if_icmp .le 6, 3) := by decide +kernel
theorem d14_26 : decode jdk_52_method_21_code 26 = .ok (.aload_n 2, 1) := by decide +kernel
theorem d14_27 : decode jdk_52_method_21_code 27 = .ok (.iload_n 3, 1) := by decide +kernel
theorem d14_28 : decode jdk_52_method_21_code 28 = .ok (.iload 6, 2) := by decide +kernel
theorem d14_30 : decode jdk_52_method_21_code 30 = .ok (.i2b, 1) := by decide +kernel
theorem d14_31 : decode jdk_52_method_21_code 31 = .ok (.bastore, 1) := by decide +kernel
theorem d14_32 : decode jdk_52_method_21_code 32 = .ok (.iinc 1 1, 3) := by decide +kernel
theorem d14_35 : decode jdk_52_method_21_code 35 = .ok (.iinc 3 1, 3) := by decide +kernel
theorem d14_38 : decode jdk_52_method_21_code 38 = .ok (.iinc 5 1, 3) := by decide +kernel
theorem d14_41 : decode jdk_52_method_21_code 41 = .ok (.goto (-38), 3) := by decide +kernel
theorem d14_44 : decode jdk_52_method_21_code 44 = .ok (.iload 4, 2) := by decide +kernel
theorem d14_46 : decode jdk_52_method_21_code 46 = .ok (.ireturn, 1) := by decide +kernel
theorem ef_rmcmL (m : MethodId) (x0 : Addr) (x2 : Addr) (x4 : Int32) : entryFrame m #[(.ref x0), (.int (0 : Int32)), (.ref x2), (.int (0 : Int32)), (.int x4)] 7 = mkF m 0 #[.val (.ref x0), .val (.int (0 : Int32)), .val (.ref x2), .val (.int (0 : Int32)), .val (.int x4), .unset, .unset] [] := by first | (simp [entryFrame, mkF, argsToLocals, Value.category]; done) | rfl
abbrev R_rmcmL : Room := ({ frames := 0, cells := 0, slots := 0, locals := 0 } : Room)
def QcmL (Z : State) (a1 a3 : Addr) (pn : Int32) (kc : ClassId) (xs : List Value) (kb : ClassId) (vs : List Value) (h0 : Heap) (n0 : Nat) (v : Option Value) (h : Heap) (L : List Loc) : Prop := v = some (.int pn) ∧ Fr n0 L ∧ Keep h0 h [a3] ∧ Arv Z h a3 kb .byte pn (own_app vs xs 0 pn.toNatClampNeg) (.int 0)
set_option maxRecDepth 65536 in
set_option maxHeartbeats 40000000 in
theorem rmcmL (l : Launch) (Z : State) (a0 : Array Value) (hw : ∀ d ∈ tables_1, d.before a0 Z = true) (ws : List Jvm.Cond) (a1 a3 : Addr) (pn : Int32) (kc : ClassId) (xs : List Value) (kb : ClassId) (vs : List Value) (h0 : Heap) (n0 : Nat) (Z0 : n0 ≤ h0.size) (HV_a1 : Arv Z h0 a1 kc .char pn xs (.int 0)) (HV_a3 : Arv Z h0 a3 kb .byte pn vs (.int 0)) (g_a3 : n0 ≤ a3) (hn : 0 ≤ pn.toInt ∧ pn.toInt ≤ 8) (hc : own_chs xs) (hl : vs.length = pn.toNatClampNeg) (hlat : ∀ i, i < pn.toNatClampNeg → ¬ (255 : Int32) < own_gt xs i) (hn_a1_a3 : a1 ≠ a3) :
    Met1 l n14 jdk_52_method_21_code 7 (some .int) ws R_rmcmL #[(.ref a1), (.int 0), (.ref a3), (.int 0), (.int pn)] Z h0 (QcmL Z a1 a3 pn kc xs kb vs h0 n0) := by
  refine Met1.enter (plainFor_of_name pn_14) (fun m => ef_rmcmL m a1 a3 pn) fun p e s m below meth c s₁ hx hby hlk hret hml hown hnm hZ X0 e0 => ?_
  have N0 := Fr.nil n0
  have K0 := Keep.refl h0 [a3]
  show Fin p e below s _ _ _ (s₁.setTop (mkF m 0 #[rv a1, iv 0, rv a3, iv 0, iv pn, u_, u_] []))
  refine Fin.step (fun _ k => Yo.iconst X0.here hx (hb hby d14_0) (Yo.istore X0.here hx (hb hby d14_1) rfl (l' := #[rv a1, iv 0, rv a3, iv 0, iv pn, iv 0, u_]) rfl k)) ?_
  have loop : ∀ (r : Nat) (Ty1 : State) (hy1 : Heap) (Ly1 : List Loc) (iq : Int32) (cq : Slot) (mry1 : pn.toNatClampNeg - iq.toNatClampNeg = r) (Xy1 : Stand p l e R_rmcmL s m #[(.ref a1), (.int 0), (.ref a3), (.int 0), (.int pn)] below meth c Ty1 Ly1 0 0) (ey1 : Ty1.heap = hy1) (Ny1 : Fr n0 Ly1) (Zy1 : n0 ≤ hy1.size) (Ky1 : Keep h0 hy1 [a3]) (fy1_0 : Arv Z hy1 a1 kc .char pn xs (.int 0)) (fy1_1 : Arv Z hy1 a3 kb .byte pn (own_app vs xs 0 iq.toNatClampNeg) (.int 0)) (hi0 : 0 ≤ iq.toInt) (hi1 : iq.toInt ≤ pn.toInt) (hcq : cq = u_ ∨ ∃ z : Int32, cq = iv z), Fin p e below s (QcmL Z a1 a3 pn kc xs kb vs h0 n0) R_rmcmL.cells R_rmcmL.slots (Ty1.setTop (mkF m 3 #[rv a1, iv iq, rv a3, iv iq, iv pn, iv iq, cq] [])) := by
    intro r
    induction r using Nat.strongRecOn with
    | _ r ih =>
      intro Ty1 hy1 Ly1 iq cq mry1 Xy1 ey1 Ny1 Zy1 Ky1 fy1_0 fy1_1 hi0 hi1 hcq
      refine Fin.step (fun _ k => Yo.iload Xy1.here hx (hb hby d14_3) rfl (Yo.iload Xy1.here hx (hb hby d14_5) rfl k)) ?_
      by_cases hcy2 : iq < pn
      · refine Fin.step (fun _ k => Yo.icmpNo Xy1.here hx (hb hby d14_7) rfl (tlt (hcy2 : (iq < pn))).2.1 k) ?_
        rcases hcq with rfl | ⟨cz, rfl⟩
        · show Fin p e below s _ _ _ (Ty1.setTop (mkF m 10 #[rv a1, iv iq, rv a3, iv iq, iv pn, iv iq, u_] []))
          have G := own_nx hi0 hn.2 hcy2
          refine Fin.step (fun _ k => Yo.aloadN Xy1.here hx (hb hby d14_10) rfl rfl (Yo.iloadN Xy1.here hx (hb hby d14_11) rfl (cld3 Xy1 hx hZ ey1 (j := iq) (v := (.int (own_gt xs iq.toNatClampNeg))) fy1_0 G.1 (own_lg hc _) (hb hby d14_12) (Yo.istore Xy1.here hx (hb hby d14_13) rfl (l' := #[rv a1, iv iq, rv a3, iv iq, iv pn, iv iq, .val (.int (own_gt xs iq.toNatClampNeg))]) rfl (Yo.iload Xy1.here hx (hb hby d14_15) rfl (Yo.sipush Xy1.here hx (hb hby d14_17) (Yo.icmpYes Xy1.here hx (pc0 := 20) (pc' := 26) rfl (hb hby d14_20) rfl (flt ((hlat _ (by have := G.2.2.2.2.2; omega)) : ¬ ((255 : Int32) < (own_gt xs iq.toNatClampNeg)))).2.2.2 (by decide) (by decide) (Yo.aloadN Xy1.here hx (hb hby d14_26) rfl rfl k)))))))) ?_
          refine Fin.step (fun _ k => Yo.iloadN Xy1.here hx (hb hby d14_27) rfl (Yo.iload Xy1.here hx (hb hby d14_28) rfl (Yo.i2b Xy1.here hx (hb hby d14_30) rfl k))) ?_
          show Fin p e below s _ _ _ (Ty1.setTop (mkF m 31 #[rv a1, iv iq, rv a3, iv iq, iv pn, iv iq, .val (.int (own_gt xs iq.toNatClampNeg))] [(.int ((own_gt xs iq.toNatClampNeg).toInt8.toInt32)), (.int iq), (.ref a3)]))
          have voy4 := fy1_1
          obtain ⟨cly4, Ary4, qay4, say4, nay4, hay4, gay4⟩ := voy4
          obtain ⟨Ty4, hy4, Xy4, ey4, Wy4, sty4⟩ := stB Xy1 hx hZ ey1 Ary4 (j := iq) (inb_of say4 G.1) (g := (mkF m 31 #[rv a1, iv iq, rv a3, iv iq, iv pn, iv iq, .val (.int (own_gt xs iq.toNatClampNeg))] [(.int ((own_gt xs iq.toNatClampNeg).toInt8.toInt32)), (.int iq), (.ref a3)])) rfl rfl (hb hby d14_31)
          have Vy4 : Arv Z hy4 a3 kb .byte pn (own_app vs xs 0 (iq.toNatClampNeg + 1)) (.int 0) := Arv.set Ary4 qay4 say4 nay4 hay4 gay4 (fits_nar_byte _) Wy4 (0 + iq.toNatClampNeg) (Nat.zero_add _).symm (by rw [own_applen, hl]; exact G.2.2.2.2.2)
          have Zy4 : n0 ≤ hy4.size := Nat.le_trans Zy1 (Keep.of_wr Wy4).1
          have Ky4 : Keep h0 hy4 [a3] := Ky1.wr Wy4 m0
          have Ny4 := Fr.snoc Xy4 Ny1 g_a3
          refine Fin.step (sty4) ?_
          show Fin p e below s _ _ _ (Ty4.setTop (mkF m 32 #[rv a1, iv iq, rv a3, iv iq, iv pn, iv iq, .val (.int (own_gt xs iq.toNatClampNeg))] []))
          refine Fin.step (fun _ k => Yo.iinc Xy4.here hx (hb hby d14_32) rfl (l' := #[rv a1, .val (.int (iq + (1 : Int32))), rv a3, iv iq, iv pn, iv iq, .val (.int (own_gt xs iq.toNatClampNeg))]) rfl k) ?_
          show Fin p e below s _ _ _ (Ty4.setTop (mkF m 35 #[rv a1, .val (.int (iq + (1 : Int32))), rv a3, iv iq, iv pn, iv iq, .val (.int (own_gt xs iq.toNatClampNeg))] []))
          refine Fin.step (fun _ k => Yo.iinc Xy4.here hx (hb hby d14_35) rfl (l' := #[rv a1, .val (.int (iq + (1 : Int32))), rv a3, .val (.int (iq + (1 : Int32))), iv pn, iv iq, .val (.int (own_gt xs iq.toNatClampNeg))]) rfl k) ?_
          show Fin p e below s _ _ _ (Ty4.setTop (mkF m 38 #[rv a1, .val (.int (iq + (1 : Int32))), rv a3, .val (.int (iq + (1 : Int32))), iv pn, iv iq, .val (.int (own_gt xs iq.toNatClampNeg))] []))
          refine Fin.step (fun _ k => Yo.iinc Xy4.here hx (hb hby d14_38) rfl (l' := #[rv a1, .val (.int (iq + (1 : Int32))), rv a3, .val (.int (iq + (1 : Int32))), iv pn, .val (.int (iq + (1 : Int32))), .val (.int (own_gt xs iq.toNatClampNeg))]) rfl k) ?_
          show Fin p e below s _ _ _ (Ty4.setTop (mkF m 41 #[rv a1, .val (.int (iq + (1 : Int32))), rv a3, .val (.int (iq + (1 : Int32))), iv pn, .val (.int (iq + (1 : Int32))), .val (.int (own_gt xs iq.toNatClampNeg))] []))
          refine Fin.step (fun _ k => Yo.goto Xy4.here hx (pc0 := 41) (pc' := 3) rfl (hb hby d14_41) (by decide) (by decide) k) ?_
          exact ih _ (by rw [← mry1]; exact G.2.2.2.2.1) _ _ _ (iq + (1 : Int32)) _ rfl Xy4 ey4 Ny4 Zy4 Ky4 (fy1_0.other Wy4 hn_a1_a3) (castL Vy4 (congrArg (own_app vs xs 0) G.2.2.2.1.symm)) G.2.1 G.2.2.1 (Or.inr ⟨_, rfl⟩)
        · show Fin p e below s _ _ _ (Ty1.setTop (mkF m 10 #[rv a1, iv iq, rv a3, iv iq, iv pn, iv iq, iv cz] []))
          have G := own_nx hi0 hn.2 hcy2
          refine Fin.step (fun _ k => Yo.aloadN Xy1.here hx (hb hby d14_10) rfl rfl (Yo.iloadN Xy1.here hx (hb hby d14_11) rfl (cld3 Xy1 hx hZ ey1 (j := iq) (v := (.int (own_gt xs iq.toNatClampNeg))) fy1_0 G.1 (own_lg hc _) (hb hby d14_12) (Yo.istore Xy1.here hx (hb hby d14_13) rfl (l' := #[rv a1, iv iq, rv a3, iv iq, iv pn, iv iq, .val (.int (own_gt xs iq.toNatClampNeg))]) rfl (Yo.iload Xy1.here hx (hb hby d14_15) rfl (Yo.sipush Xy1.here hx (hb hby d14_17) (Yo.icmpYes Xy1.here hx (pc0 := 20) (pc' := 26) rfl (hb hby d14_20) rfl (flt ((hlat _ (by have := G.2.2.2.2.2; omega)) : ¬ ((255 : Int32) < (own_gt xs iq.toNatClampNeg)))).2.2.2 (by decide) (by decide) (Yo.aloadN Xy1.here hx (hb hby d14_26) rfl rfl k)))))))) ?_
          refine Fin.step (fun _ k => Yo.iloadN Xy1.here hx (hb hby d14_27) rfl (Yo.iload Xy1.here hx (hb hby d14_28) rfl (Yo.i2b Xy1.here hx (hb hby d14_30) rfl k))) ?_
          show Fin p e below s _ _ _ (Ty1.setTop (mkF m 31 #[rv a1, iv iq, rv a3, iv iq, iv pn, iv iq, .val (.int (own_gt xs iq.toNatClampNeg))] [(.int ((own_gt xs iq.toNatClampNeg).toInt8.toInt32)), (.int iq), (.ref a3)]))
          have voy6 := fy1_1
          obtain ⟨cly6, Ary6, qay6, say6, nay6, hay6, gay6⟩ := voy6
          obtain ⟨Ty6, hy6, Xy6, ey6, Wy6, sty6⟩ := stB Xy1 hx hZ ey1 Ary6 (j := iq) (inb_of say6 G.1) (g := (mkF m 31 #[rv a1, iv iq, rv a3, iv iq, iv pn, iv iq, .val (.int (own_gt xs iq.toNatClampNeg))] [(.int ((own_gt xs iq.toNatClampNeg).toInt8.toInt32)), (.int iq), (.ref a3)])) rfl rfl (hb hby d14_31)
          have Vy6 : Arv Z hy6 a3 kb .byte pn (own_app vs xs 0 (iq.toNatClampNeg + 1)) (.int 0) := Arv.set Ary6 qay6 say6 nay6 hay6 gay6 (fits_nar_byte _) Wy6 (0 + iq.toNatClampNeg) (Nat.zero_add _).symm (by rw [own_applen, hl]; exact G.2.2.2.2.2)
          have Zy6 : n0 ≤ hy6.size := Nat.le_trans Zy1 (Keep.of_wr Wy6).1
          have Ky6 : Keep h0 hy6 [a3] := Ky1.wr Wy6 m0
          have Ny6 := Fr.snoc Xy6 Ny1 g_a3
          refine Fin.step (sty6) ?_
          show Fin p e below s _ _ _ (Ty6.setTop (mkF m 32 #[rv a1, iv iq, rv a3, iv iq, iv pn, iv iq, .val (.int (own_gt xs iq.toNatClampNeg))] []))
          refine Fin.step (fun _ k => Yo.iinc Xy6.here hx (hb hby d14_32) rfl (l' := #[rv a1, .val (.int (iq + (1 : Int32))), rv a3, iv iq, iv pn, iv iq, .val (.int (own_gt xs iq.toNatClampNeg))]) rfl k) ?_
          show Fin p e below s _ _ _ (Ty6.setTop (mkF m 35 #[rv a1, .val (.int (iq + (1 : Int32))), rv a3, iv iq, iv pn, iv iq, .val (.int (own_gt xs iq.toNatClampNeg))] []))
          refine Fin.step (fun _ k => Yo.iinc Xy6.here hx (hb hby d14_35) rfl (l' := #[rv a1, .val (.int (iq + (1 : Int32))), rv a3, .val (.int (iq + (1 : Int32))), iv pn, iv iq, .val (.int (own_gt xs iq.toNatClampNeg))]) rfl k) ?_
          show Fin p e below s _ _ _ (Ty6.setTop (mkF m 38 #[rv a1, .val (.int (iq + (1 : Int32))), rv a3, .val (.int (iq + (1 : Int32))), iv pn, iv iq, .val (.int (own_gt xs iq.toNatClampNeg))] []))
          refine Fin.step (fun _ k => Yo.iinc Xy6.here hx (hb hby d14_38) rfl (l' := #[rv a1, .val (.int (iq + (1 : Int32))), rv a3, .val (.int (iq + (1 : Int32))), iv pn, .val (.int (iq + (1 : Int32))), .val (.int (own_gt xs iq.toNatClampNeg))]) rfl k) ?_
          show Fin p e below s _ _ _ (Ty6.setTop (mkF m 41 #[rv a1, .val (.int (iq + (1 : Int32))), rv a3, .val (.int (iq + (1 : Int32))), iv pn, .val (.int (iq + (1 : Int32))), .val (.int (own_gt xs iq.toNatClampNeg))] []))
          refine Fin.step (fun _ k => Yo.goto Xy6.here hx (pc0 := 41) (pc' := 3) rfl (hb hby d14_41) (by decide) (by decide) k) ?_
          exact ih _ (by rw [← mry1]; exact G.2.2.2.2.1) _ _ _ (iq + (1 : Int32)) _ rfl Xy6 ey6 Ny6 Zy6 Ky6 (fy1_0.other Wy6 hn_a1_a3) (castL Vy6 (congrArg (own_app vs xs 0) G.2.2.2.1.symm)) G.2.1 G.2.2.1 (Or.inr ⟨_, rfl⟩)
      · refine Fin.step (fun _ k => Yo.icmpYes Xy1.here hx (pc0 := 7) (pc' := 44) rfl (hb hby d14_7) rfl (flt (hcy2 : ¬ (iq < pn))).2.1 (by decide) (by decide) (Yo.iload Xy1.here hx (hb hby d14_44) rfl k)) ?_
        refine Fin.retI Xy1 hx hret hlk (hb hby d14_46) (by decide) (by decide) ?_
        show QcmL Z a1 a3 pn kc xs kb vs h0 n0 _ Ty1.heap _
        rw [ey1]
        exact ⟨rfl, Ny1, Ky1, (castL fy1_1 (congrArg (fun z : Int32 => own_app vs xs 0 z.toNatClampNeg) (own_end hcy2 hi1)))⟩
  exact loop _ _ _ _ (0 : Int32) _ rfl X0 e0 N0 Z0 K0 HV_a1 HV_a3 (by decide) hn.1 (Or.inl rfl)
theorem d14_23 : decode jdk_52_method_21_code 23 = .ok (.iload 5, 2) := by decide +kernel
theorem d14_25 : decode jdk_52_method_21_code 25 = .ok (.ireturn, 1) := by decide +kernel
theorem ef_rmcmU (m : MethodId) (x0 : Addr) (x2 : Addr) (x4 : Int32) : entryFrame m #[(.ref x0), (.int (0 : Int32)), (.ref x2), (.int (0 : Int32)), (.int x4)] 7 = mkF m 0 #[.val (.ref x0), .val (.int (0 : Int32)), .val (.ref x2), .val (.int (0 : Int32)), .val (.int x4), .unset, .unset] [] := by first | (simp [entryFrame, mkF, argsToLocals, Value.category]; done) | rfl
abbrev R_rmcmU : Room := ({ frames := 0, cells := 0, slots := 0, locals := 0 } : Room)
def QcmU (Z : State) (a1 a3 : Addr) (pn : Int32) (kc : ClassId) (xs : List Value) (kb : ClassId) (vs : List Value) (pj : Int32) (h0 : Heap) (n0 : Nat) (v : Option Value) (h : Heap) (L : List Loc) : Prop := v = some (.int pj) ∧ Fr n0 L ∧ Keep h0 h [a3]
set_option maxRecDepth 65536 in
set_option maxHeartbeats 40000000 in
theorem rmcmU (l : Launch) (Z : State) (a0 : Array Value) (hw : ∀ d ∈ tables_1, d.before a0 Z = true) (ws : List Jvm.Cond) (a1 a3 : Addr) (pn : Int32) (kc : ClassId) (xs : List Value) (kb : ClassId) (vs : List Value) (pj : Int32) (h0 : Heap) (n0 : Nat) (Z0 : n0 ≤ h0.size) (HV_a1 : Arv Z h0 a1 kc .char pn xs (.int 0)) (HV_a3 : Arv Z h0 a3 kb .byte pn vs (.int 0)) (g_a3 : n0 ≤ a3) (hn : 0 ≤ pn.toInt ∧ pn.toInt ≤ 8) (hc : own_chs xs) (hl : vs.length = pn.toNatClampNeg) (hj : 0 ≤ pj.toInt ∧ pj < pn) (hlat : ∀ i, i < pj.toNatClampNeg → ¬ (255 : Int32) < own_gt xs i) (hbig : (255 : Int32) < own_gt xs pj.toNatClampNeg) (hn_a1_a3 : a1 ≠ a3) :
    Met1 l n14 jdk_52_method_21_code 7 (some .int) ws R_rmcmU #[(.ref a1), (.int 0), (.ref a3), (.int 0), (.int pn)] Z h0 (QcmU Z a1 a3 pn kc xs kb vs pj h0 n0) := by
  refine Met1.enter (plainFor_of_name pn_14) (fun m => ef_rmcmU m a1 a3 pn) fun p e s m below meth c s₁ hx hby hlk hret hml hown hnm hZ X0 e0 => ?_
  have N0 := Fr.nil n0
  have K0 := Keep.refl h0 [a3]
  show Fin p e below s _ _ _ (s₁.setTop (mkF m 0 #[rv a1, iv 0, rv a3, iv 0, iv pn, u_, u_] []))
  refine Fin.step (fun _ k => Yo.iconst X0.here hx (hb hby d14_0) (Yo.istore X0.here hx (hb hby d14_1) rfl (l' := #[rv a1, iv 0, rv a3, iv 0, iv pn, iv 0, u_]) rfl k)) ?_
  have loop : ∀ (r : Nat) (Ty1 : State) (hy1 : Heap) (Ly1 : List Loc) (iq : Int32) (cq : Slot) (mry1 : pn.toNatClampNeg - iq.toNatClampNeg = r) (Xy1 : Stand p l e R_rmcmU s m #[(.ref a1), (.int 0), (.ref a3), (.int 0), (.int pn)] below meth c Ty1 Ly1 0 0) (ey1 : Ty1.heap = hy1) (Ny1 : Fr n0 Ly1) (Zy1 : n0 ≤ hy1.size) (Ky1 : Keep h0 hy1 [a3]) (fy1_0 : Arv Z hy1 a1 kc .char pn xs (.int 0)) (fy1_1 : Arv Z hy1 a3 kb .byte pn (own_app vs xs 0 iq.toNatClampNeg) (.int 0)) (hi0 : 0 ≤ iq.toInt) (hi1 : iq.toInt ≤ pj.toInt) (hcq : cq = u_ ∨ ∃ z : Int32, cq = iv z), Fin p e below s (QcmU Z a1 a3 pn kc xs kb vs pj h0 n0) R_rmcmU.cells R_rmcmU.slots (Ty1.setTop (mkF m 3 #[rv a1, iv iq, rv a3, iv iq, iv pn, iv iq, cq] [])) := by
    intro r
    induction r using Nat.strongRecOn with
    | _ r ih =>
      intro Ty1 hy1 Ly1 iq cq mry1 Xy1 ey1 Ny1 Zy1 Ky1 fy1_0 fy1_1 hi0 hi1 hcq
      refine Fin.step (fun _ k => Yo.iload Xy1.here hx (hb hby d14_3) rfl (Yo.iload Xy1.here hx (hb hby d14_5) rfl (Yo.icmpNo Xy1.here hx (hb hby d14_7) rfl (tlt ((own_lt hi1 hj.2) : (iq < pn))).2.1 k))) ?_
      rcases hcq with rfl | ⟨cz, rfl⟩
      · show Fin p e below s _ _ _ (Ty1.setTop (mkF m 10 #[rv a1, iv iq, rv a3, iv iq, iv pn, iv iq, u_] []))
        have hin := own_lt hi1 hj.2
        have G0 := own_nx hi0 hn.2 hin
        refine Fin.step (fun _ k => Yo.aloadN Xy1.here hx (hb hby d14_10) rfl rfl (Yo.iloadN Xy1.here hx (hb hby d14_11) rfl (cld3 Xy1 hx hZ ey1 (j := iq) (v := (.int (own_gt xs iq.toNatClampNeg))) fy1_0 G0.1 (own_lg hc _) (hb hby d14_12) (Yo.istore Xy1.here hx (hb hby d14_13) rfl (l' := #[rv a1, iv iq, rv a3, iv iq, iv pn, iv iq, .val (.int (own_gt xs iq.toNatClampNeg))]) rfl (Yo.iload Xy1.here hx (hb hby d14_15) rfl (Yo.sipush Xy1.here hx (hb hby d14_17) k)))))) ?_
        by_cases hcy3 : (255 : Int32) < (own_gt xs iq.toNatClampNeg)
        · refine Fin.step (fun _ k => Yo.icmpNo Xy1.here hx (hb hby d14_20) rfl (tlt (hcy3 : ((255 : Int32) < (own_gt xs iq.toNatClampNeg)))).2.2.2 (Yo.iload Xy1.here hx (hb hby d14_23) rfl k)) ?_
          refine Fin.retI Xy1 hx hret hlk (hb hby d14_25) (by decide) (by decide) ?_
          show QcmU Z a1 a3 pn kc xs kb vs pj h0 n0 _ Ty1.heap _
          rw [ey1]
          exact ⟨(congrArg (fun z => some (Value.int z)) (own_atj hi0 hi1 hlat hcy3)), Ny1, Ky1⟩
        · refine Fin.step (fun _ k => Yo.icmpYes Xy1.here hx (pc0 := 20) (pc' := 26) rfl (hb hby d14_20) rfl (flt (hcy3 : ¬ ((255 : Int32) < (own_gt xs iq.toNatClampNeg)))).2.2.2 (by decide) (by decide) k) ?_
          have hne_ := own_nej hi0 hbig hcy3
          have G := own_nx hi0 (own_le8 hn hj.2) (own_ltj hi1 hne_)
          have GL : 0 + iq.toNatClampNeg < (own_app vs xs 0 iq.toNatClampNeg).length := by rw [own_applen, hl]; exact G0.2.2.2.2.2
          refine Fin.step (fun _ k => Yo.aloadN Xy1.here hx (hb hby d14_26) rfl rfl (Yo.iloadN Xy1.here hx (hb hby d14_27) rfl (Yo.iload Xy1.here hx (hb hby d14_28) rfl (Yo.i2b Xy1.here hx (hb hby d14_30) rfl k)))) ?_
          show Fin p e below s _ _ _ (Ty1.setTop (mkF m 31 #[rv a1, iv iq, rv a3, iv iq, iv pn, iv iq, .val (.int (own_gt xs iq.toNatClampNeg))] [(.int ((own_gt xs iq.toNatClampNeg).toInt8.toInt32)), (.int iq), (.ref a3)]))
          have voy4 := fy1_1
          obtain ⟨cly4, Ary4, qay4, say4, nay4, hay4, gay4⟩ := voy4
          obtain ⟨Ty4, hy4, Xy4, ey4, Wy4, sty4⟩ := stB Xy1 hx hZ ey1 Ary4 (j := iq) (inb_of say4 G0.1) (g := (mkF m 31 #[rv a1, iv iq, rv a3, iv iq, iv pn, iv iq, .val (.int (own_gt xs iq.toNatClampNeg))] [(.int ((own_gt xs iq.toNatClampNeg).toInt8.toInt32)), (.int iq), (.ref a3)])) rfl rfl (hb hby d14_31)
          have Vy4 : Arv Z hy4 a3 kb .byte pn (own_app vs xs 0 (iq.toNatClampNeg + 1)) (.int 0) := Arv.set Ary4 qay4 say4 nay4 hay4 gay4 (fits_nar_byte _) Wy4 (0 + iq.toNatClampNeg) (Nat.zero_add _).symm GL
          have Zy4 : n0 ≤ hy4.size := Nat.le_trans Zy1 (Keep.of_wr Wy4).1
          have Ky4 : Keep h0 hy4 [a3] := Ky1.wr Wy4 m0
          have Ny4 := Fr.snoc Xy4 Ny1 g_a3
          refine Fin.step (sty4) ?_
          show Fin p e below s _ _ _ (Ty4.setTop (mkF m 32 #[rv a1, iv iq, rv a3, iv iq, iv pn, iv iq, .val (.int (own_gt xs iq.toNatClampNeg))] []))
          refine Fin.step (fun _ k => Yo.iinc Xy4.here hx (hb hby d14_32) rfl (l' := #[rv a1, .val (.int (iq + (1 : Int32))), rv a3, iv iq, iv pn, iv iq, .val (.int (own_gt xs iq.toNatClampNeg))]) rfl k) ?_
          show Fin p e below s _ _ _ (Ty4.setTop (mkF m 35 #[rv a1, .val (.int (iq + (1 : Int32))), rv a3, iv iq, iv pn, iv iq, .val (.int (own_gt xs iq.toNatClampNeg))] []))
          refine Fin.step (fun _ k => Yo.iinc Xy4.here hx (hb hby d14_35) rfl (l' := #[rv a1, .val (.int (iq + (1 : Int32))), rv a3, .val (.int (iq + (1 : Int32))), iv pn, iv iq, .val (.int (own_gt xs iq.toNatClampNeg))]) rfl k) ?_
          show Fin p e below s _ _ _ (Ty4.setTop (mkF m 38 #[rv a1, .val (.int (iq + (1 : Int32))), rv a3, .val (.int (iq + (1 : Int32))), iv pn, iv iq, .val (.int (own_gt xs iq.toNatClampNeg))] []))
          refine Fin.step (fun _ k => Yo.iinc Xy4.here hx (hb hby d14_38) rfl (l' := #[rv a1, .val (.int (iq + (1 : Int32))), rv a3, .val (.int (iq + (1 : Int32))), iv pn, .val (.int (iq + (1 : Int32))), .val (.int (own_gt xs iq.toNatClampNeg))]) rfl k) ?_
          show Fin p e below s _ _ _ (Ty4.setTop (mkF m 41 #[rv a1, .val (.int (iq + (1 : Int32))), rv a3, .val (.int (iq + (1 : Int32))), iv pn, .val (.int (iq + (1 : Int32))), .val (.int (own_gt xs iq.toNatClampNeg))] []))
          refine Fin.step (fun _ k => Yo.goto Xy4.here hx (pc0 := 41) (pc' := 3) rfl (hb hby d14_41) (by decide) (by decide) k) ?_
          exact ih _ (by rw [← mry1]; exact (own_nx hi0 hn.2 hin).2.2.2.2.1) _ _ _ (iq + (1 : Int32)) _ rfl Xy4 ey4 Ny4 Zy4 Ky4 (fy1_0.other Wy4 hn_a1_a3) (castL Vy4 (congrArg (own_app vs xs 0) G.2.2.2.1.symm)) G.2.1 G.2.2.1 (Or.inr ⟨_, rfl⟩)
      · show Fin p e below s _ _ _ (Ty1.setTop (mkF m 10 #[rv a1, iv iq, rv a3, iv iq, iv pn, iv iq, iv cz] []))
        have hin := own_lt hi1 hj.2
        have G0 := own_nx hi0 hn.2 hin
        refine Fin.step (fun _ k => Yo.aloadN Xy1.here hx (hb hby d14_10) rfl rfl (Yo.iloadN Xy1.here hx (hb hby d14_11) rfl (cld3 Xy1 hx hZ ey1 (j := iq) (v := (.int (own_gt xs iq.toNatClampNeg))) fy1_0 G0.1 (own_lg hc _) (hb hby d14_12) (Yo.istore Xy1.here hx (hb hby d14_13) rfl (l' := #[rv a1, iv iq, rv a3, iv iq, iv pn, iv iq, .val (.int (own_gt xs iq.toNatClampNeg))]) rfl (Yo.iload Xy1.here hx (hb hby d14_15) rfl (Yo.sipush Xy1.here hx (hb hby d14_17) k)))))) ?_
        by_cases hcy6 : (255 : Int32) < (own_gt xs iq.toNatClampNeg)
        · refine Fin.step (fun _ k => Yo.icmpNo Xy1.here hx (hb hby d14_20) rfl (tlt (hcy6 : ((255 : Int32) < (own_gt xs iq.toNatClampNeg)))).2.2.2 (Yo.iload Xy1.here hx (hb hby d14_23) rfl k)) ?_
          refine Fin.retI Xy1 hx hret hlk (hb hby d14_25) (by decide) (by decide) ?_
          show QcmU Z a1 a3 pn kc xs kb vs pj h0 n0 _ Ty1.heap _
          rw [ey1]
          exact ⟨(congrArg (fun z => some (Value.int z)) (own_atj hi0 hi1 hlat hcy6)), Ny1, Ky1⟩
        · refine Fin.step (fun _ k => Yo.icmpYes Xy1.here hx (pc0 := 20) (pc' := 26) rfl (hb hby d14_20) rfl (flt (hcy6 : ¬ ((255 : Int32) < (own_gt xs iq.toNatClampNeg)))).2.2.2 (by decide) (by decide) k) ?_
          have hne_ := own_nej hi0 hbig hcy6
          have G := own_nx hi0 (own_le8 hn hj.2) (own_ltj hi1 hne_)
          have GL : 0 + iq.toNatClampNeg < (own_app vs xs 0 iq.toNatClampNeg).length := by rw [own_applen, hl]; exact G0.2.2.2.2.2
          refine Fin.step (fun _ k => Yo.aloadN Xy1.here hx (hb hby d14_26) rfl rfl (Yo.iloadN Xy1.here hx (hb hby d14_27) rfl (Yo.iload Xy1.here hx (hb hby d14_28) rfl (Yo.i2b Xy1.here hx (hb hby d14_30) rfl k)))) ?_
          show Fin p e below s _ _ _ (Ty1.setTop (mkF m 31 #[rv a1, iv iq, rv a3, iv iq, iv pn, iv iq, .val (.int (own_gt xs iq.toNatClampNeg))] [(.int ((own_gt xs iq.toNatClampNeg).toInt8.toInt32)), (.int iq), (.ref a3)]))
          have voy7 := fy1_1
          obtain ⟨cly7, Ary7, qay7, say7, nay7, hay7, gay7⟩ := voy7
          obtain ⟨Ty7, hy7, Xy7, ey7, Wy7, sty7⟩ := stB Xy1 hx hZ ey1 Ary7 (j := iq) (inb_of say7 G0.1) (g := (mkF m 31 #[rv a1, iv iq, rv a3, iv iq, iv pn, iv iq, .val (.int (own_gt xs iq.toNatClampNeg))] [(.int ((own_gt xs iq.toNatClampNeg).toInt8.toInt32)), (.int iq), (.ref a3)])) rfl rfl (hb hby d14_31)
          have Vy7 : Arv Z hy7 a3 kb .byte pn (own_app vs xs 0 (iq.toNatClampNeg + 1)) (.int 0) := Arv.set Ary7 qay7 say7 nay7 hay7 gay7 (fits_nar_byte _) Wy7 (0 + iq.toNatClampNeg) (Nat.zero_add _).symm GL
          have Zy7 : n0 ≤ hy7.size := Nat.le_trans Zy1 (Keep.of_wr Wy7).1
          have Ky7 : Keep h0 hy7 [a3] := Ky1.wr Wy7 m0
          have Ny7 := Fr.snoc Xy7 Ny1 g_a3
          refine Fin.step (sty7) ?_
          show Fin p e below s _ _ _ (Ty7.setTop (mkF m 32 #[rv a1, iv iq, rv a3, iv iq, iv pn, iv iq, .val (.int (own_gt xs iq.toNatClampNeg))] []))
          refine Fin.step (fun _ k => Yo.iinc Xy7.here hx (hb hby d14_32) rfl (l' := #[rv a1, .val (.int (iq + (1 : Int32))), rv a3, iv iq, iv pn, iv iq, .val (.int (own_gt xs iq.toNatClampNeg))]) rfl k) ?_
          show Fin p e below s _ _ _ (Ty7.setTop (mkF m 35 #[rv a1, .val (.int (iq + (1 : Int32))), rv a3, iv iq, iv pn, iv iq, .val (.int (own_gt xs iq.toNatClampNeg))] []))
          refine Fin.step (fun _ k => Yo.iinc Xy7.here hx (hb hby d14_35) rfl (l' := #[rv a1, .val (.int (iq + (1 : Int32))), rv a3, .val (.int (iq + (1 : Int32))), iv pn, iv iq, .val (.int (own_gt xs iq.toNatClampNeg))]) rfl k) ?_
          show Fin p e below s _ _ _ (Ty7.setTop (mkF m 38 #[rv a1, .val (.int (iq + (1 : Int32))), rv a3, .val (.int (iq + (1 : Int32))), iv pn, iv iq, .val (.int (own_gt xs iq.toNatClampNeg))] []))
          refine Fin.step (fun _ k => Yo.iinc Xy7.here hx (hb hby d14_38) rfl (l' := #[rv a1, .val (.int (iq + (1 : Int32))), rv a3, .val (.int (iq + (1 : Int32))), iv pn, .val (.int (iq + (1 : Int32))), .val (.int (own_gt xs iq.toNatClampNeg))]) rfl k) ?_
          show Fin p e below s _ _ _ (Ty7.setTop (mkF m 41 #[rv a1, .val (.int (iq + (1 : Int32))), rv a3, .val (.int (iq + (1 : Int32))), iv pn, .val (.int (iq + (1 : Int32))), .val (.int (own_gt xs iq.toNatClampNeg))] []))
          refine Fin.step (fun _ k => Yo.goto Xy7.here hx (pc0 := 41) (pc' := 3) rfl (hb hby d14_41) (by decide) (by decide) k) ?_
          exact ih _ (by rw [← mry1]; exact (own_nx hi0 hn.2 hin).2.2.2.2.1) _ _ _ (iq + (1 : Int32)) _ rfl Xy7 ey7 Ny7 Zy7 Ky7 (fy1_0.other Wy7 hn_a1_a3) (castL Vy7 (congrArg (own_app vs xs 0) G.2.2.2.1.symm)) G.2.1 G.2.2.1 (Or.inr ⟨_, rfl⟩)
  exact loop _ _ _ _ (0 : Int32) _ rfl X0 e0 N0 Z0 K0 HV_a1 HV_a3 (by decide) hj.1 (Or.inl rfl)
theorem pn_29 : plainName "java/lang/StringUTF16" = true := by first | (simp [plainName, overriddenIn]; done) | decide +kernel
theorem d29_0 : decode jdk_52_method_4_code 0 = .ok (.getstatic 44, 3) := by decide +kernel
theorem d29_3 : decode jdk_52_method_4_code 3 = .ok (.ifCond .ne 25, 3) := by decide +kernel
theorem d29_28 : decode jdk_52_method_4_code 28 = .ok (.iload_n 1, 1) := by decide +kernel
theorem d29_29 : decode jdk_52_method_4_code 29 = .ok (.iconst 1, 1) := by decide +kernel
theorem d29_30 : decode jdk_52_method_4_code 30 = .ok (.ishl, 1) := by decide +kernel
theorem d29_31 : decode jdk_52_method_4_code 31 = .ok (.istore_n 1, 1) := by decide +kernel
theorem d29_32 : decode jdk_52_method_4_code 32 = .ok (.aload_n 0, 1) := by decide +kernel
theorem d29_33 : decode jdk_52_method_4_code 33 = .ok (.iload_n 1, 1) := by decide +kernel
theorem d29_34 : decode jdk_52_method_4_code 34 = .ok (.iinc 1 1, 3) := by decide +kernel
theorem d29_37 : decode jdk_52_method_4_code 37 = .ok (.iload_n 2, 1) := by decide +kernel
theorem d29_38 : decode jdk_52_method_4_code 38 = .ok (.getstatic 59, 3) := by decide +kernel
theorem d29_41 : decode jdk_52_method_4_code 41 = .ok (.ishr, 1) := by decide +kernel
theorem d29_42 : decode jdk_52_method_4_code 42 = .ok (.i2b, 1) := by decide +kernel
theorem d29_43 : decode jdk_52_method_4_code 43 = .ok (.bastore, 1) := by decide +kernel
theorem d29_44 : decode jdk_52_method_4_code 44 = .ok (.aload_n 0, 1) := by decide +kernel
theorem d29_45 : decode jdk_52_method_4_code 45 = .ok (.iload_n 1, 1) := by decide +kernel
theorem d29_46 : decode jdk_52_method_4_code 46 = .ok (.iload_n 2, 1) := by decide +kernel
theorem d29_47 : decode jdk_52_method_4_code 47 = .ok (.getstatic 63, 3) := by decide +kernel
theorem d29_50 : decode jdk_52_method_4_code 50 = .ok (.ishr, 1) := by decide +kernel
theorem d29_51 : decode jdk_52_method_4_code 51 = .ok (.i2b, 1) := by decide +kernel
theorem d29_52 : decode jdk_52_method_4_code 52 = .ok (.bastore, 1) := by decide +kernel
theorem d29_53 : decode jdk_52_method_4_code 53 = .ok (.return_, 1) := by decide +kernel
theorem ef_rmpc (m : MethodId) (x0 : Addr) (x1 : Int32) (x2 : Int32) : entryFrame m #[(.ref x0), (.int x1), (.int x2)] 3 = mkF m 0 #[.val (.ref x0), .val (.int x1), .val (.int x2)] [] := by first | (simp [entryFrame, mkF, argsToLocals, Value.category]; done) | rfl
abbrev R_rmpc : Room := ({ frames := 0, cells := 0, slots := 0, locals := 0 } : Room)
def Qpc (Z : State) (a1 : Addr) (pj pz : Int32) (kb : ClassId) (vs : List Value) (pm pn : Int32) (h0 : Heap) (n0 : Nat) (v : Option Value) (h : Heap) (L : List Loc) : Prop := v = none ∧ Fr n0 L ∧ Keep h0 h [a1] ∧ Arv Z h a1 kb .byte pm (List.set (List.set vs (2 * pj.toNatClampNeg) (own_lo pz)) (2 * pj.toNatClampNeg + 1) (own_hi pz)) (.int 0)
set_option maxRecDepth 65536 in
set_option maxHeartbeats 40000000 in
theorem rmpc (l : Launch) (Z : State) (a0 : Array Value) (hw : ∀ d ∈ tables_1, d.before a0 Z = true) (ws : List Jvm.Cond) (a1 : Addr) (pj pz : Int32) (kb : ClassId) (vs : List Value) (pm pn : Int32) (h0 : Heap) (n0 : Nat) (Z0 : n0 ≤ h0.size) (HV_a1 : Arv Z h0 a1 kb .byte pm vs (.int 0)) (HS_java_lang_StringUTF16__assertionsDisabled : Sta Z h0 q6 "$assertionsDisabled" "Z" (.int 1)) (HS_java_lang_StringUTF16_HI_BYTE_SHIFT : Sta Z h0 q6 "HI_BYTE_SHIFT" "I" (.int 0)) (HS_java_lang_StringUTF16_LO_BYTE_SHIFT : Sta Z h0 q6 "LO_BYTE_SHIFT" "I" (.int 8)) (g_a1 : n0 ≤ a1) (hn : 0 ≤ pn.toInt ∧ pn.toInt ≤ 8) (hj : 0 ≤ pj.toInt ∧ pj < pn) (hm : pm.toInt = 2 * pn.toInt) (hl : vs.length = pm.toNatClampNeg) :
    Met1 l n29 jdk_52_method_4_code 3 none ws R_rmpc #[(.ref a1), (.int pj), (.int pz)] Z h0 (Qpc Z a1 pj pz kb vs pm pn h0 n0) := by
  refine Met1.enter (plainFor_of_name pn_29) (fun m => ef_rmpc m a1 pj pz) fun p e s m below meth c s₁ hx hby hlk hret hml hown hnm hZ X0 e0 => ?_
  have N0 := Fr.nil n0
  have K0 := Keep.refl h0 [a1]
  show Fin p e below s _ _ _ (s₁.setTop (mkF m 0 #[rv a1, iv pj, iv pz] []))
  obtain ⟨Ty1, Xy1, ey1, sty1⟩ := getS2 X0 hx hZ hown (host := "") (Or.inl (W_ hw 156)) Via.refl e0 HS_java_lang_StringUTF16__assertionsDisabled (g := (mkF m 0 #[rv a1, iv pj, iv pz] [])) rfl (hb hby d29_0)
  refine Fin.step (sty1) ?_
  show Fin p e below s _ _ _ (Ty1.setTop (mkF m 3 #[rv a1, iv pj, iv pz] [(.int 1)]))
  refine Fin.step (fun _ k => Yo.ifYes Xy1.here hx (pc0 := 3) (pc' := 28) rfl (hb hby d29_3) rfl ((if0 _ _).trans (feq ((by decide) : ¬ ((1 : Int32) = (0 : Int32)))).2) (by decide) (by decide) (Yo.iloadN Xy1.here hx (hb hby d29_28) rfl (Yo.iconst Xy1.here hx (hb hby d29_29) (Yo.ishl Xy1.here hx (hb hby d29_30) rfl k)))) ?_
  show Fin p e below s _ _ _ (Ty1.setTop (mkF m 31 #[rv a1, iv pj, iv pz] [(.int (pj <<< ((1 : Int32) &&& 31)))]))
  refine Fin.step (fun _ k => Yo.istoreN Xy1.here hx (hb hby d29_31) rfl (l' := #[rv a1, .val (.int (pj <<< ((1 : Int32) &&& 31))), iv pz]) rfl k) ?_
  obtain ⟨dj, h_dj⟩ : ∃ z : Int32, z = (pj <<< ((1 : Int32) &&& 31)) := ⟨_, rfl⟩
  rw [← h_dj]
  show Fin p e below s _ _ _ (Ty1.setTop (mkF m 32 #[rv a1, iv dj, iv pz] []))
  have G := own_two hj.1 hn.2 hj.2 hm h_dj
  refine Fin.step (fun _ k => Yo.aloadN Xy1.here hx (hb hby d29_32) rfl rfl (Yo.iloadN Xy1.here hx (hb hby d29_33) rfl (Yo.iinc Xy1.here hx (hb hby d29_34) rfl (l' := #[rv a1, .val (.int (dj + (1 : Int32))), iv pz]) rfl k))) ?_
  show Fin p e below s _ _ _ (Ty1.setTop (mkF m 37 #[rv a1, .val (.int (dj + (1 : Int32))), iv pz] [(.int dj), (.ref a1)]))
  refine Fin.step (fun _ k => Yo.iloadN Xy1.here hx (hb hby d29_37) rfl k) ?_
  obtain ⟨Ty2, Xy2, ey2, sty2⟩ := getS2 Xy1 hx hZ hown (host := "") (Or.inl (W_ hw 157)) Via.refl ey1 HS_java_lang_StringUTF16_HI_BYTE_SHIFT (g := (mkF m 38 #[rv a1, .val (.int (dj + (1 : Int32))), iv pz] [(.int pz), (.int dj), (.ref a1)])) rfl (hb hby d29_38)
  refine Fin.step (sty2) ?_
  show Fin p e below s _ _ _ (Ty2.setTop (mkF m 41 #[rv a1, .val (.int (dj + (1 : Int32))), iv pz] [(.int 0), (.int pz), (.int dj), (.ref a1)]))
  refine Fin.step (fun _ k => Yo.ishr Xy2.here hx (hb hby d29_41) rfl k) ?_
  show Fin p e below s _ _ _ (Ty2.setTop (mkF m 42 #[rv a1, .val (.int (dj + (1 : Int32))), iv pz] [(.int (pz >>> ((0 : Int32) &&& 31))), (.int dj), (.ref a1)]))
  refine Fin.step (fun _ k => Yo.i2b Xy2.here hx (hb hby d29_42) rfl k) ?_
  show Fin p e below s _ _ _ (Ty2.setTop (mkF m 43 #[rv a1, .val (.int (dj + (1 : Int32))), iv pz] [(.int ((pz >>> ((0 : Int32) &&& 31)).toInt8.toInt32)), (.int dj), (.ref a1)]))
  have voy3 := HV_a1
  obtain ⟨cly3, Ary3, qay3, say3, nay3, hay3, gay3⟩ := voy3
  obtain ⟨Ty3, hy3, Xy3, ey3, Wy3, sty3⟩ := stB Xy2 hx hZ ey2 Ary3 (j := dj) (inb_of say3 G.1) (g := (mkF m 43 #[rv a1, .val (.int (dj + (1 : Int32))), iv pz] [(.int ((pz >>> ((0 : Int32) &&& 31)).toInt8.toInt32)), (.int dj), (.ref a1)])) rfl rfl (hb hby d29_43)
  have Vy3 : Arv Z hy3 a1 kb .byte pm (List.set vs (2 * pj.toNatClampNeg) (own_lo pz)) (.int 0) := Arv.set Ary3 qay3 say3 nay3 hay3 gay3 (fits_nar_byte _) Wy3 (2 * pj.toNatClampNeg) G.2.2.1 (by rw [hl]; have := G.2.2.2.2; omega)
  have Zy3 : n0 ≤ hy3.size := Nat.le_trans Z0 (Keep.of_wr Wy3).1
  have Ky3 : Keep h0 hy3 [a1] := K0.wr Wy3 m0
  have Ny3 := Fr.snoc Xy3 N0 g_a1
  refine Fin.step (sty3) ?_
  show Fin p e below s _ _ _ (Ty3.setTop (mkF m 44 #[rv a1, .val (.int (dj + (1 : Int32))), iv pz] []))
  refine Fin.step (fun _ k => Yo.aloadN Xy3.here hx (hb hby d29_44) rfl rfl (Yo.iloadN Xy3.here hx (hb hby d29_45) rfl (Yo.iloadN Xy3.here hx (hb hby d29_46) rfl k))) ?_
  obtain ⟨Ty4, Xy4, ey4, sty4⟩ := getS2 Xy3 hx hZ hown (host := "") (Or.inl (W_ hw 158)) Via.refl ey3 (HS_java_lang_StringUTF16_LO_BYTE_SHIFT.wr Wy3) (g := (mkF m 47 #[rv a1, .val (.int (dj + (1 : Int32))), iv pz] [(.int pz), (.int (dj + (1 : Int32))), (.ref a1)])) rfl (hb hby d29_47)
  refine Fin.step (sty4) ?_
  show Fin p e below s _ _ _ (Ty4.setTop (mkF m 50 #[rv a1, .val (.int (dj + (1 : Int32))), iv pz] [(.int 8), (.int pz), (.int (dj + (1 : Int32))), (.ref a1)]))
  refine Fin.step (fun _ k => Yo.ishr Xy4.here hx (hb hby d29_50) rfl k) ?_
  show Fin p e below s _ _ _ (Ty4.setTop (mkF m 51 #[rv a1, .val (.int (dj + (1 : Int32))), iv pz] [(.int (pz >>> ((8 : Int32) &&& 31))), (.int (dj + (1 : Int32))), (.ref a1)]))
  refine Fin.step (fun _ k => Yo.i2b Xy4.here hx (hb hby d29_51) rfl k) ?_
  show Fin p e below s _ _ _ (Ty4.setTop (mkF m 52 #[rv a1, .val (.int (dj + (1 : Int32))), iv pz] [(.int ((pz >>> ((8 : Int32) &&& 31)).toInt8.toInt32)), (.int (dj + (1 : Int32))), (.ref a1)]))
  have voy5 := Vy3
  obtain ⟨cly5, Ary5, qay5, say5, nay5, hay5, gay5⟩ := voy5
  obtain ⟨Ty5, hy5, Xy5, ey5, Wy5, sty5⟩ := stB Xy4 hx hZ ey4 Ary5 (j := (dj + (1 : Int32))) (inb_of say5 G.2.1) (g := (mkF m 52 #[rv a1, .val (.int (dj + (1 : Int32))), iv pz] [(.int ((pz >>> ((8 : Int32) &&& 31)).toInt8.toInt32)), (.int (dj + (1 : Int32))), (.ref a1)])) rfl rfl (hb hby d29_52)
  have Vy5 : Arv Z hy5 a1 kb .byte pm (List.set (List.set vs (2 * pj.toNatClampNeg) (own_lo pz)) (2 * pj.toNatClampNeg + 1) (own_hi pz)) (.int 0) := Arv.set Ary5 qay5 say5 nay5 hay5 gay5 (fits_nar_byte _) Wy5 (2 * pj.toNatClampNeg + 1) G.2.2.2.1 (by rw [List.length_set, hl]; exact G.2.2.2.2)
  have Zy5 : n0 ≤ hy5.size := Nat.le_trans Zy3 (Keep.of_wr Wy5).1
  have Ky5 : Keep h0 hy5 [a1] := Ky3.wr Wy5 m0
  have Ny5 := Fr.snoc Xy5 Ny3 g_a1
  refine Fin.step (sty5) ?_
  show Fin p e below s _ _ _ (Ty5.setTop (mkF m 53 #[rv a1, .val (.int (dj + (1 : Int32))), iv pz] []))
  refine Fin.retV Xy5 hx hret hlk (hb hby d29_53) (by decide) (by decide) ?_
  show Qpc Z a1 pj pz kb vs pm pn h0 n0 _ Ty5.heap _
  rw [ey5]
  exact ⟨rfl, Ny5, Ky5, Vy5⟩
theorem pn_28 : plainName "java/lang/StringUTF16" = true := by first | (simp [plainName, overriddenIn]; done) | decide +kernel
theorem d28_0 : decode jdk_52_method_3_code 0 = .ok (.iload_n 0, 1) := by decide +kernel
theorem d28_1 : decode jdk_52_method_3_code 1 = .ok (.ifCond .ge 11, 3) := by decide +kernel
theorem d28_12 : decode jdk_52_method_3_code 12 = .ok (.iload_n 0, 1) := by decide +kernel
theorem d28_13 : decode jdk_52_method_3_code 13 = .ok (.ldc 20, 2) := by decide +kernel
theorem d28_15 : decode jdk_52_method_3_code 15 = .ok (.if_icmp .lt 40, 3) := by decide +kernel
theorem d28_55 : decode jdk_52_method_3_code 55 = .ok (.iload_n 0, 1) := by decide +kernel
theorem d28_56 : decode jdk_52_method_3_code 56 = .ok (.iconst 1, 1) := by decide +kernel
theorem d28_57 : decode jdk_52_method_3_code 57 = .ok (.ishl, 1) := by decide +kernel
theorem d28_58 : decode jdk_52_method_3_code 58 = .ok (.ireturn, 1) := by decide +kernel
theorem ef_rmnl (m : MethodId) (x0 : Int32) : entryFrame m #[(.int x0)] 1 = mkF m 0 #[.val (.int x0)] [] := by first | (simp [entryFrame, mkF, argsToLocals, Value.category]; done) | rfl
abbrev R_rmnl : Room := ({ frames := 0, cells := 0, slots := 0, locals := 0 } : Room)
def Qnl (Z : State) (pn pm : Int32) (h0 : Heap) (n0 : Nat) (v : Option Value) (h : Heap) (L : List Loc) : Prop := v = some (.int pm) ∧ Fr n0 L ∧ h = h0
set_option maxRecDepth 65536 in
set_option maxHeartbeats 40000000 in
theorem rmnl (l : Launch) (Z : State) (a0 : Array Value) (hw : ∀ d ∈ tables_1, d.before a0 Z = true) (ws : List Jvm.Cond) (pn pm : Int32) (h0 : Heap) (n0 : Nat) (Z0 : n0 ≤ h0.size) (hn : 0 ≤ pn.toInt ∧ pn.toInt ≤ 8) (hm : pm = pn <<< ((1 : Int32) &&& 31)) :
    Met1 l n28 jdk_52_method_3_code 1 (some .int) ws R_rmnl #[(.int pn)] Z h0 (Qnl Z pn pm h0 n0) := by
  refine Met1.enter (plainFor_of_name pn_28) (fun m => ef_rmnl m pn) fun p e s m below meth c s₁ hx hby hlk hret hml hown hnm hZ X0 e0 => ?_
  have N0 := Fr.nil n0
  have K0 : Keep h0 h0 [] := Keep.refl h0 _
  show Fin p e below s _ _ _ (s₁.setTop (mkF m 0 #[iv pn] []))
  refine Fin.step (fun _ k => Yo.iloadN X0.here hx (hb hby d28_0) rfl (Yo.ifYes X0.here hx (pc0 := 1) (pc' := 12) rfl (hb hby d28_1) rfl ((if0 _ _).trans (flt ((own_len2 hn hm).2.1 : ¬ (pn < (0 : Int32)))).2.1) (by decide) (by decide) (Yo.iloadN X0.here hx (hb hby d28_12) rfl k))) ?_
  refine Fin.step (X0.ldcInt hx hown (mvT hZ (W_ hw 152)) (g := (mkF m 13 #[iv pn] [(.int pn)])) rfl (hb hby d28_13)) ?_
  show Fin p e below s _ _ _ (s₁.setTop (mkF m 15 #[iv pn] [(.int 1073741823), (.int pn)]))
  refine Fin.step (fun _ k => Yo.icmpYes X0.here hx (pc0 := 15) (pc' := 55) rfl (hb hby d28_15) rfl (tlt ((own_len2 hn hm).2.2.1 : (pn < (1073741823 : Int32)))).1 (by decide) (by decide) (Yo.iloadN X0.here hx (hb hby d28_55) rfl (Yo.iconst X0.here hx (hb hby d28_56) (Yo.ishl X0.here hx (hb hby d28_57) rfl k)))) ?_
  show Fin p e below s _ _ _ (s₁.setTop (mkF m 58 #[iv pn] [(.int (pn <<< ((1 : Int32) &&& 31)))]))
  refine Fin.retI X0 hx hret hlk (hb hby d28_58) (by decide) (by decide) ?_
  show Qnl Z pn pm h0 n0 _ s₁.heap _
  rw [e0]
  exact ⟨(congrArg (fun z => some (Value.int z)) hm.symm), N0, rfl⟩
theorem pn_27 : plainName "java/lang/StringUTF16" = true := by first | (simp [plainName, overriddenIn]; done) | decide +kernel
theorem d27_0 : decode jdk_52_method_2_code 0 = .ok (.iload_n 0, 1) := by decide +kernel
theorem d27_1 : decode jdk_52_method_2_code 1 = .ok (.invokestatic 11, 3) := by decide +kernel
theorem pd_0 : parseMethodDescriptor "(I)I" = some ⟨[.int], some .int⟩ := by decide +kernel
theorem d27_4 : decode jdk_52_method_2_code 4 = .ok (.newarray .byte, 2) := by decide +kernel
theorem d27_6 : decode jdk_52_method_2_code 6 = .ok (.areturn, 1) := by decide +kernel
theorem ef_rmnb (m : MethodId) (x0 : Int32) : entryFrame m #[(.int x0)] 1 = mkF m 0 #[.val (.int x0)] [] := by first | (simp [entryFrame, mkF, argsToLocals, Value.category]; done) | rfl
abbrev R_rmnb : Room := ({ frames := 1, cells := 1, slots := 16, locals := 12 } : Room)
def Qnb (Z : State) (pn pm : Int32) (h0 : Heap) (n0 : Nat) (v : Option Value) (h : Heap) (L : List Loc) : Prop := ∃ kn : ClassId, ∃ nb : Addr, v = some (.ref nb) ∧ h0.size ≤ nb ∧ Fr n0 L ∧ Keep h0 h [] ∧ Arv Z h nb kn .byte pm (List.replicate pm.toNatClampNeg (.int 0)) (.int 0)
set_option maxRecDepth 65536 in
set_option maxHeartbeats 40000000 in
theorem rmnb (l : Launch) (Z : State) (a0 : Array Value) (hw : ∀ d ∈ tables_1, d.before a0 Z = true) (ws : List Jvm.Cond) (pn pm : Int32) (h0 : Heap) (n0 : Nat) (Z0 : n0 ≤ h0.size) (hn : 0 ≤ pn.toInt ∧ pn.toInt ≤ 8) (hm : pm = pn <<< ((1 : Int32) &&& 31)) :
    Met1 l n27 jdk_52_method_2_code 1 (some (.array .byte)) ws R_rmnb #[(.int pn)] Z h0 (Qnb Z pn pm h0 n0) := by
  refine Met1.enter (plainFor_of_name pn_27) (fun m => ef_rmnb m pn) fun p e s m below meth c s₁ hx hby hlk hret hml hown hnm hZ X0 e0 => ?_
  have N0 := Fr.nil n0
  have K0 : Keep h0 h0 [] := Keep.refl h0 _
  show Fin p e below s _ _ _ (s₁.setTop (mkF m 0 #[iv pn] []))
  refine Fin.step (fun _ k => Yo.iloadN X0.here hx (hb hby d27_0) rfl k) ?_
  obtain ⟨_, Ty1, Lcy1, Xy1, hQy1, sty1⟩ := packS (Jvm.LawKit.callS X0 hx (y := n28) hown (mvT hZ (W_ hw 149)) (mvT hZ (W_ hw 150)) (mvT hZ (W_ hw 68)) (mvT hZ (W_ hw 151)) (by decide) (backOf (W := 0) (rmnl l Z a0 hw [] pn pm h0 n0 Z0 hn hm) hZ (W_ hw 151) (W_ hw 68) (by decide) (by decide)) (g := (mkF m 1 #[iv pn] [(.int pn)])) rfl (by rw [hml]; rfl) (argsL := [(.int pn)]) (rest := []) (lenOf pd_0 rfl) rfl (lb rfl) (hb hby d27_1) (fun _ _ => ⟨rfl, e0, (by decide : 0 + 0 ≤ _), (by decide : 0 + 0 ≤ _)⟩))
  obtain ⟨rfl, Nqy1, eqy1⟩ := hQy1
  have Ny1 := Fr.app N0 Nqy1
  refine Fin.step (sty1) ?_
  show Fin p e below s _ _ _ (Ty1.setTop (mkF m 4 #[iv pn] [(.int pm)]))
  obtain ⟨Ty2, hy2, ky2, Xy2, ey2, Ey2, Ay2, sty2⟩ := newP Xy1 hx hZ (W_ hw 5) eqy1 (g := (mkF m 4 #[iv pn] [(.int pm)])) rfl (hb hby d27_4) rfl (own_len2 hn hm).2.2.2.1 (cap := 16) (own_len2 hn hm).2.2.2.2.1 (by decide) (by decide) (by decide)
  obtain ⟨by2, gy2⟩ : ∃ z, z = h0.size := ⟨_, rfl⟩
  rw [← gy2] at Ay2 sty2
  have gzy2 : n0 ≤ by2 := Nat.le_trans Z0 (Nat.le_of_eq gy2.symm)
  have szy2 : h0.size ≤ by2 := Nat.le_trans K0.1 (Nat.le_of_eq gy2.symm)
  have Zy2 := Nat.le_trans Z0 Ey2.1
  have Ky2 := K0.ext Ey2
  have Vy2 : Arv Z hy2 by2 ky2 .byte pm (List.replicate (pm).toNatClampNeg (.int 0)) (.int 0) := (Arv.new Ay2 (own_len2 hn hm).2.2.2.1).pad (pad_rep [] (.int 0) _)
  refine Fin.step (sty2) ?_
  show Fin p e below s _ _ _ (Ty2.setTop (mkF m 6 #[iv pn] [(.ref by2)]))
  refine Fin.retR Xy2 hx hret rfl rfl hlk (hb hby d27_6) (by decide) (by decide) ?_
  show Qnb Z pn pm h0 n0 _ Ty2.heap _
  rw [ey2]
  exact ⟨ky2, by2, rfl, szy2, Ny1, Ky2, Vy2⟩
theorem pn_26 : plainName "java/lang/StringUTF16" = true := by first | (simp [plainName, overriddenIn]; done) | decide +kernel
theorem d26_0 : decode jdk_52_method_14_code 0 = .ok (.iload_n 2, 1) := by decide +kernel
theorem d26_1 : decode jdk_52_method_14_code 1 = .ok (.invokestatic 107, 3) := by decide +kernel
theorem pd_1 : parseMethodDescriptor "(I)[B" = some ⟨[.int], some (.array .byte)⟩ := by decide +kernel
theorem d26_4 : decode jdk_52_method_14_code 4 = .ok (.astore_n 3, 1) := by decide +kernel
theorem d26_5 : decode jdk_52_method_14_code 5 = .ok (.iconst 0, 1) := by decide +kernel
theorem d26_6 : decode jdk_52_method_14_code 6 = .ok (.istore 4, 2) := by decide +kernel
theorem d26_8 : decode jdk_52_method_14_code 8 = .ok (.iload 4, 2) := by decide +kernel
theorem d26_10 : decode jdk_52_method_14_code 10 = .ok (.iload_n 2, 1) := by decide +kernel
theorem d26_11 : decode jdk_52_method_14_code 11 = .ok (.if_icmp .ge 21, 3) := by decide +kernel
theorem d26_14 : decode jdk_52_method_14_code 14 = .ok (.aload_n 3, 1) := by decide +kernel
theorem d26_15 : decode jdk_52_method_14_code 15 = .ok (.iload 4, 2) := by decide +kernel
theorem d26_17 : decode jdk_52_method_14_code 17 = .ok (.aload_n 0, 1) := by decide +kernel
theorem d26_18 : decode jdk_52_method_14_code 18 = .ok (.iload_n 1, 1) := by decide +kernel
theorem d26_19 : decode jdk_52_method_14_code 19 = .ok (.caload, 1) := by decide +kernel
theorem d26_20 : decode jdk_52_method_14_code 20 = .ok (.invokestatic 111, 3) := by decide +kernel
theorem pd_2 : parseMethodDescriptor "([BII)V" = some ⟨[(.array .byte), .int, .int], none⟩ := by decide +kernel
theorem d26_23 : decode jdk_52_method_14_code 23 = .ok (.iinc 1 1, 3) := by decide +kernel
theorem d26_26 : decode jdk_52_method_14_code 26 = .ok (.iinc 4 1, 3) := by decide +kernel
theorem d26_29 : decode jdk_52_method_14_code 29 = .ok (.goto (-21), 3) := by decide +kernel
theorem d26_32 : decode jdk_52_method_14_code 32 = .ok (.aload_n 3, 1) := by decide +kernel
theorem d26_33 : decode jdk_52_method_14_code 33 = .ok (.areturn, 1) := by decide +kernel
theorem ef_rmtb (m : MethodId) (x0 : Addr) (x2 : Int32) : entryFrame m #[(.ref x0), (.int (0 : Int32)), (.int x2)] 5 = mkF m 0 #[.val (.ref x0), .val (.int (0 : Int32)), .val (.int x2), .unset, .unset] [] := by first | (simp [entryFrame, mkF, argsToLocals, Value.category]; done) | rfl
abbrev R_rmtb : Room := ({ frames := 2, cells := 1, slots := 16, locals := 24 } : Room)
def Qtb (Z : State) (a1 : Addr) (pn : Int32) (kc : ClassId) (xs : List Value) (pm : Int32) (h0 : Heap) (n0 : Nat) (v : Option Value) (h : Heap) (L : List Loc) : Prop := ∃ kn : ClassId, ∃ nb : Addr, v = some (.ref nb) ∧ h0.size ≤ nb ∧ Fr n0 L ∧ Keep h0 h [] ∧ Arv Z h nb kn .byte pm (own_utf (List.replicate pm.toNatClampNeg (.int 0)) xs pn.toNatClampNeg) (.int 0)
set_option maxRecDepth 65536 in
set_option maxHeartbeats 40000000 in
theorem rmtb (l : Launch) (Z : State) (a0 : Array Value) (hw : ∀ d ∈ tables_1, d.before a0 Z = true) (ws : List Jvm.Cond) (a1 : Addr) (pn : Int32) (kc : ClassId) (xs : List Value) (pm : Int32) (h0 : Heap) (n0 : Nat) (Z0 : n0 ≤ h0.size) (HV_a1 : Arv Z h0 a1 kc .char pn xs (.int 0)) (HS_java_lang_StringUTF16__assertionsDisabled : Sta Z h0 q6 "$assertionsDisabled" "Z" (.int 1)) (HS_java_lang_StringUTF16_HI_BYTE_SHIFT : Sta Z h0 q6 "HI_BYTE_SHIFT" "I" (.int 0)) (HS_java_lang_StringUTF16_LO_BYTE_SHIFT : Sta Z h0 q6 "LO_BYTE_SHIFT" "I" (.int 8)) (hn : 0 ≤ pn.toInt ∧ pn.toInt ≤ 8) (hm : pm = pn <<< ((1 : Int32) &&& 31)) (hc : own_chs xs) :
    Met1 l n26 jdk_52_method_14_code 5 (some (.array .byte)) ws R_rmtb #[(.ref a1), (.int 0), (.int pn)] Z h0 (Qtb Z a1 pn kc xs pm h0 n0) := by
  refine Met1.enter (plainFor_of_name pn_26) (fun m => ef_rmtb m a1 pn) fun p e s m below meth c s₁ hx hby hlk hret hml hown hnm hZ X0 e0 => ?_
  have N0 := Fr.nil n0
  have K0 : Keep h0 h0 [] := Keep.refl h0 _
  show Fin p e below s _ _ _ (s₁.setTop (mkF m 0 #[rv a1, iv 0, iv pn, u_, u_] []))
  refine Fin.step (fun _ k => Yo.iloadN X0.here hx (hb hby d26_0) rfl k) ?_
  obtain ⟨_, Ty1, Lcy1, Xy1, hQy1, sty1⟩ := packS (Jvm.LawKit.callS X0 hx (y := n27) hown (mvT hZ (W_ hw 146)) (mvT hZ (W_ hw 147)) (mvT hZ (W_ hw 68)) (mvT hZ (W_ hw 148)) (by decide) (backOf (W := 0) (rmnb l Z a0 hw [] pn pm h0 n0 Z0 hn hm) hZ (W_ hw 148) (W_ hw 68) (by decide) (by decide)) (g := (mkF m 1 #[rv a1, iv 0, iv pn, u_, u_] [(.int pn)])) rfl (by rw [hml]; rfl) (argsL := [(.int pn)]) (rest := []) (lenOf pd_1 rfl) rfl (lb rfl) (hb hby d26_1) (fun _ _ => ⟨rfl, e0, (by decide : 0 + 1 ≤ _), (by decide : 0 + 16 ≤ _)⟩))
  obtain ⟨kn_y1, by1, rfl, bzy1, Nqy1, Kcy1, fy1_0⟩ := hQy1
  have Ny1 := Fr.app N0 Nqy1
  have gzy1 : n0 ≤ by1 := Nat.le_trans Z0 bzy1
  have szy1 : h0.size ≤ by1 := Nat.le_trans K0.1 bzy1
  have Zy1 := Nat.le_trans Z0 Kcy1.1
  have Ky1 := K0.trans Kcy1 all0
  refine Fin.step (sty1) ?_
  show Fin p e below s _ _ _ (Ty1.setTop (mkF m 4 #[rv a1, iv 0, iv pn, u_, u_] [(.ref by1)]))
  refine Fin.step (fun _ k => Yo.astoreN Xy1.here hx (hb hby d26_4) rfl rfl (l' := #[rv a1, iv 0, iv pn, rv by1, u_]) rfl (Yo.iconst Xy1.here hx (hb hby d26_5) (Yo.istore Xy1.here hx (hb hby d26_6) rfl (l' := #[rv a1, iv 0, iv pn, rv by1, iv 0]) rfl k))) ?_
  have ney2 := nlt (nsV HV_a1).lt szy1
  have loop : ∀ (r : Nat) (Ty3 : State) (hy3 : Heap) (Ly3 : List Loc) (iq : Int32) (mry3 : pn.toNatClampNeg - iq.toNatClampNeg = r) (Xy3 : Stand p l e R_rmtb s m #[(.ref a1), (.int 0), (.int pn)] below meth c Ty3 Ly3 1 16) (ey3 : Ty3.heap = hy3) (Ny3 : Fr n0 Ly3) (Zy3 : n0 ≤ hy3.size) (Ky3 : Keep h0 hy3 []) (fy3_0 : Arv Z hy3 a1 kc .char pn xs (.int 0)) (fy3_1 : Arv Z hy3 by1 kn_y1 .byte pm (own_utf (List.replicate pm.toNatClampNeg (.int 0)) xs iq.toNatClampNeg) (.int 0)) (fy3_2 : Sta Z hy3 q6 "$assertionsDisabled" "Z" (.int 1)) (fy3_3 : Sta Z hy3 q6 "HI_BYTE_SHIFT" "I" (.int 0)) (fy3_4 : Sta Z hy3 q6 "LO_BYTE_SHIFT" "I" (.int 8)) (hi0 : 0 ≤ iq.toInt) (hi1 : iq.toInt ≤ pn.toInt), Fin p e below s (Qtb Z a1 pn kc xs pm h0 n0) R_rmtb.cells R_rmtb.slots (Ty3.setTop (mkF m 8 #[rv a1, iv iq, iv pn, rv by1, iv iq] [])) := by
    intro r
    induction r using Nat.strongRecOn with
    | _ r ih =>
      intro Ty3 hy3 Ly3 iq mry3 Xy3 ey3 Ny3 Zy3 Ky3 fy3_0 fy3_1 fy3_2 fy3_3 fy3_4 hi0 hi1
      refine Fin.step (fun _ k => Yo.iload Xy3.here hx (hb hby d26_8) rfl (Yo.iloadN Xy3.here hx (hb hby d26_10) rfl k)) ?_
      by_cases hcy4 : iq < pn
      · refine Fin.step (fun _ k => Yo.icmpNo Xy3.here hx (hb hby d26_11) rfl (tlt (hcy4 : (iq < pn))).2.1 k) ?_
        have G := own_nx hi0 hn.2 hcy4
        refine Fin.step (fun _ k => Yo.aloadN Xy3.here hx (hb hby d26_14) rfl rfl (Yo.iload Xy3.here hx (hb hby d26_15) rfl (Yo.aloadN Xy3.here hx (hb hby d26_17) rfl rfl (Yo.iloadN Xy3.here hx (hb hby d26_18) rfl (cld3 Xy3 hx hZ ey3 (j := iq) (v := (.int (own_gt xs iq.toNatClampNeg))) fy3_0 G.1 (own_lg hc _) (hb hby d26_19) k))))) ?_
        obtain ⟨_, Ty6, Lcy6, Xy6, hQy6, sty6⟩ := packS (Jvm.LawKit.callS Xy3 hx (y := n29) hown (mvT hZ (W_ hw 153)) (mvT hZ (W_ hw 154)) (mvT hZ (W_ hw 68)) (mvT hZ (W_ hw 155)) (by decide) (backOf (W := 0) (rmpc l Z a0 hw [] by1 iq (own_gt xs iq.toNatClampNeg) kn_y1 _ pm pn hy3 n0 Zy3 fy3_1 fy3_2 fy3_3 fy3_4 gzy1 hn ⟨hi0, hcy4⟩ (own_len2 hn hm).1 (by rw [own_utflen, List.length_replicate])) hZ (W_ hw 155) (W_ hw 68) (by decide) (by decide)) (g := (mkF m 20 #[rv a1, iv iq, iv pn, rv by1, iv iq] [(.int (own_gt xs iq.toNatClampNeg)), (.int iq), (.ref by1)])) rfl (by rw [hml]; rfl) (argsL := [(.ref by1), (.int iq), (.int (own_gt xs iq.toNatClampNeg))]) (rest := []) (lenOf pd_2 rfl) rfl (lb rfl) (hb hby d26_20) (fun _ _ => ⟨rfl, ey3, (by decide : 1 + 0 ≤ _), (by decide : 16 + 0 ≤ _)⟩))
        obtain ⟨rfl, Nqy6, Kcy6, fy6_0⟩ := hQy6
        have Ny6 := Fr.app Ny3 Nqy6
        have Zy6 := Nat.le_trans Zy3 Kcy6.1
        have Ky6 := Ky3.trans Kcy6 (allS (Or.inr szy1) all0)
        refine Fin.step (sty6) ?_
        show Fin p e below s _ _ _ (Ty6.setTop (mkF m 23 #[rv a1, iv iq, iv pn, rv by1, iv iq] []))
        refine Fin.step (fun _ k => Yo.iinc Xy6.here hx (hb hby d26_23) rfl (l' := #[rv a1, .val (.int (iq + (1 : Int32))), iv pn, rv by1, iv iq]) rfl k) ?_
        show Fin p e below s _ _ _ (Ty6.setTop (mkF m 26 #[rv a1, .val (.int (iq + (1 : Int32))), iv pn, rv by1, iv iq] []))
        refine Fin.step (fun _ k => Yo.iinc Xy6.here hx (hb hby d26_26) rfl (l' := #[rv a1, .val (.int (iq + (1 : Int32))), iv pn, rv by1, .val (.int (iq + (1 : Int32)))]) rfl k) ?_
        show Fin p e below s _ _ _ (Ty6.setTop (mkF m 29 #[rv a1, .val (.int (iq + (1 : Int32))), iv pn, rv by1, .val (.int (iq + (1 : Int32)))] []))
        refine Fin.step (fun _ k => Yo.goto Xy6.here hx (pc0 := 29) (pc' := 8) rfl (hb hby d26_29) (by decide) (by decide) k) ?_
        have ry7 := (fy3_0.keep Kcy6 (ninS ney2 nin0))
        have ry8 := (Sta_keepW fy3_2 Kcy6 (allS (nsV fy3_1) all0))
        have ry9 := (Sta_keepW fy3_3 Kcy6 (allS (nsV fy3_1) all0))
        have ry10 := (Sta_keepW fy3_4 Kcy6 (allS (nsV fy3_1) all0))
        exact ih _ (by rw [← mry3]; exact G.2.2.2.2.1) _ _ _ (iq + (1 : Int32)) rfl Xy6 rfl Ny6 Zy6 Ky6 ry7 (castL fy6_0 (congrArg (own_utf (List.replicate pm.toNatClampNeg (.int 0)) xs) G.2.2.2.1.symm)) ry8 ry9 ry10 G.2.1 G.2.2.1
      · refine Fin.step (fun _ k => Yo.icmpYes Xy3.here hx (pc0 := 11) (pc' := 32) rfl (hb hby d26_11) rfl (flt (hcy4 : ¬ (iq < pn))).2.1 (by decide) (by decide) (Yo.aloadN Xy3.here hx (hb hby d26_32) rfl rfl k)) ?_
        refine Fin.retR Xy3 hx hret rfl rfl hlk (hb hby d26_33) (by decide) (by decide) ?_
        show Qtb Z a1 pn kc xs pm h0 n0 _ Ty3.heap _
        rw [ey3]
        exact ⟨kn_y1, by1, rfl, szy1, Ny3, Ky3, (castL fy3_1 (congrArg (fun z : Int32 => own_utf (List.replicate pm.toNatClampNeg (.int 0)) xs z.toNatClampNeg) (own_end hcy4 hi1)))⟩
  have ry11 := (Sta_keep HS_java_lang_StringUTF16__assertionsDisabled Ky1)
  have ry12 := (Sta_keep HS_java_lang_StringUTF16_HI_BYTE_SHIFT Ky1)
  have ry13 := (Sta_keep HS_java_lang_StringUTF16_LO_BYTE_SHIFT Ky1)
  exact loop _ _ _ _ (0 : Int32) rfl Xy1 rfl Ny1 Zy1 Ky1 (HV_a1.keep Kcy1 nin0) fy1_0 ry11 ry12 ry13 (by decide) hn.1
theorem pn_30 : plainName "java/lang/StringUTF16" = true := by first | (simp [plainName, overriddenIn]; done) | decide +kernel
theorem d30_0 : decode jdk_52_method_5_code 0 = .ok (.getstatic 44, 3) := by decide +kernel
theorem d30_3 : decode jdk_52_method_5_code 3 = .ok (.ifCond .ne 25, 3) := by decide +kernel
theorem d30_28 : decode jdk_52_method_5_code 28 = .ok (.iload_n 1, 1) := by decide +kernel
theorem d30_29 : decode jdk_52_method_5_code 29 = .ok (.iconst 1, 1) := by decide +kernel
theorem d30_30 : decode jdk_52_method_5_code 30 = .ok (.ishl, 1) := by decide +kernel
theorem d30_31 : decode jdk_52_method_5_code 31 = .ok (.istore_n 1, 1) := by decide +kernel
theorem d30_32 : decode jdk_52_method_5_code 32 = .ok (.aload_n 0, 1) := by decide +kernel
theorem d30_33 : decode jdk_52_method_5_code 33 = .ok (.iload_n 1, 1) := by decide +kernel
theorem d30_34 : decode jdk_52_method_5_code 34 = .ok (.iinc 1 1, 3) := by decide +kernel
theorem d30_37 : decode jdk_52_method_5_code 37 = .ok (.baload, 1) := by decide +kernel
theorem d30_38 : decode jdk_52_method_5_code 38 = .ok (.sipush 255, 3) := by decide +kernel
theorem d30_41 : decode jdk_52_method_5_code 41 = .ok (.iand, 1) := by decide +kernel
theorem d30_42 : decode jdk_52_method_5_code 42 = .ok (.getstatic 59, 3) := by decide +kernel
theorem d30_45 : decode jdk_52_method_5_code 45 = .ok (.ishl, 1) := by decide +kernel
theorem d30_46 : decode jdk_52_method_5_code 46 = .ok (.aload_n 0, 1) := by decide +kernel
theorem d30_47 : decode jdk_52_method_5_code 47 = .ok (.iload_n 1, 1) := by decide +kernel
theorem d30_48 : decode jdk_52_method_5_code 48 = .ok (.baload, 1) := by decide +kernel
theorem d30_49 : decode jdk_52_method_5_code 49 = .ok (.sipush 255, 3) := by decide +kernel
theorem d30_52 : decode jdk_52_method_5_code 52 = .ok (.iand, 1) := by decide +kernel
theorem d30_53 : decode jdk_52_method_5_code 53 = .ok (.getstatic 63, 3) := by decide +kernel
theorem d30_56 : decode jdk_52_method_5_code 56 = .ok (.ishl, 1) := by decide +kernel
theorem d30_57 : decode jdk_52_method_5_code 57 = .ok (.ior, 1) := by decide +kernel
theorem d30_58 : decode jdk_52_method_5_code 58 = .ok (.i2c, 1) := by decide +kernel
theorem d30_59 : decode jdk_52_method_5_code 59 = .ok (.ireturn, 1) := by decide +kernel
theorem ef_rmgc (m : MethodId) (x0 : Addr) (x1 : Int32) : entryFrame m #[(.ref x0), (.int x1)] 2 = mkF m 0 #[.val (.ref x0), .val (.int x1)] [] := by first | (simp [entryFrame, mkF, argsToLocals, Value.category]; done) | rfl
abbrev R_rmgc : Room := ({ frames := 0, cells := 0, slots := 0, locals := 0 } : Room)
def Qgc (Z : State) (ab : Addr) (pj : Int32) (kb : ClassId) (vs : List Value) (pm pn px py : Int32) (h0 : Heap) (n0 : Nat) (v : Option Value) (h : Heap) (L : List Loc) : Prop := v = some (.int (own_gc px py)) ∧ Fr n0 L ∧ h = h0
set_option maxRecDepth 65536 in
set_option maxHeartbeats 40000000 in
theorem rmgc (l : Launch) (Z : State) (a0 : Array Value) (hw : ∀ d ∈ tables_1, d.before a0 Z = true) (ws : List Jvm.Cond) (ab : Addr) (pj : Int32) (kb : ClassId) (vs : List Value) (pm pn px py : Int32) (h0 : Heap) (n0 : Nat) (Z0 : n0 ≤ h0.size) (HV_ab : Arv Z h0 ab kb .byte pm vs (.int 0)) (HS_java_lang_StringUTF16__assertionsDisabled : Sta Z h0 q6 "$assertionsDisabled" "Z" (.int 1)) (HS_java_lang_StringUTF16_HI_BYTE_SHIFT : Sta Z h0 q6 "HI_BYTE_SHIFT" "I" (.int 0)) (HS_java_lang_StringUTF16_LO_BYTE_SHIFT : Sta Z h0 q6 "LO_BYTE_SHIFT" "I" (.int 8)) (hn : 0 ≤ pn.toInt ∧ pn.toInt ≤ 8) (hj : 0 ≤ pj.toInt ∧ pj < pn) (hm : pm.toInt = 2 * pn.toInt) (hx0 : vs.getD (2 * pj.toNatClampNeg) (.int 0) = .int px) (hx1 : vs.getD (2 * pj.toNatClampNeg + 1) (.int 0) = .int py) :
    Met1 l n30 jdk_52_method_5_code 2 (some .char) ws R_rmgc #[(.ref ab), (.int pj)] Z h0 (Qgc Z ab pj kb vs pm pn px py h0 n0) := by
  refine Met1.enter (plainFor_of_name pn_30) (fun m => ef_rmgc m ab pj) fun p e s m below meth c s₁ hx hby hlk hret hml hown hnm hZ X0 e0 => ?_
  have N0 := Fr.nil n0
  have K0 : Keep h0 h0 [] := Keep.refl h0 _
  show Fin p e below s _ _ _ (s₁.setTop (mkF m 0 #[rv ab, iv pj] []))
  obtain ⟨Ty1, Xy1, ey1, sty1⟩ := getS2 X0 hx hZ hown (host := "") (Or.inl (W_ hw 156)) Via.refl e0 HS_java_lang_StringUTF16__assertionsDisabled (g := (mkF m 0 #[rv ab, iv pj] [])) rfl (hb hby d30_0)
  refine Fin.step (sty1) ?_
  show Fin p e below s _ _ _ (Ty1.setTop (mkF m 3 #[rv ab, iv pj] [(.int 1)]))
  refine Fin.step (fun _ k => Yo.ifYes Xy1.here hx (pc0 := 3) (pc' := 28) rfl (hb hby d30_3) rfl ((if0 _ _).trans (feq ((by decide) : ¬ ((1 : Int32) = (0 : Int32)))).2) (by decide) (by decide) (Yo.iloadN Xy1.here hx (hb hby d30_28) rfl (Yo.iconst Xy1.here hx (hb hby d30_29) (Yo.ishl Xy1.here hx (hb hby d30_30) rfl k)))) ?_
  show Fin p e below s _ _ _ (Ty1.setTop (mkF m 31 #[rv ab, iv pj] [(.int (pj <<< ((1 : Int32) &&& 31)))]))
  refine Fin.step (fun _ k => Yo.istoreN Xy1.here hx (hb hby d30_31) rfl (l' := #[rv ab, .val (.int (pj <<< ((1 : Int32) &&& 31)))]) rfl k) ?_
  obtain ⟨dj, h_dj⟩ : ∃ z : Int32, z = (pj <<< ((1 : Int32) &&& 31)) := ⟨_, rfl⟩
  rw [← h_dj]
  show Fin p e below s _ _ _ (Ty1.setTop (mkF m 32 #[rv ab, iv dj] []))
  have G := own_two hj.1 hn.2 hj.2 hm h_dj
  refine Fin.step (fun _ k => Yo.aloadN Xy1.here hx (hb hby d30_32) rfl rfl (Yo.iloadN Xy1.here hx (hb hby d30_33) rfl (Yo.iinc Xy1.here hx (hb hby d30_34) rfl (l' := #[rv ab, .val (.int (dj + (1 : Int32)))]) rfl k))) ?_
  show Fin p e below s _ _ _ (Ty1.setTop (mkF m 37 #[rv ab, .val (.int (dj + (1 : Int32)))] [(.int dj), (.ref ab)]))
  refine Fin.step (fun _ k => bld3 Xy1 hx hZ ey1 (j := dj) (v := (.int px)) HV_ab G.1 (by rw [G.2.2.1]; exact hx0) (hb hby d30_37) (Yo.sipush Xy1.here hx (hb hby d30_38) (Yo.iand Xy1.here hx (hb hby d30_41) rfl k))) ?_
  show Fin p e below s _ _ _ (Ty1.setTop (mkF m 42 #[rv ab, .val (.int (dj + (1 : Int32)))] [(.int (px &&& (255 : Int32)))]))
  obtain ⟨Ty3, Xy3, ey3, sty3⟩ := getS2 Xy1 hx hZ hown (host := "") (Or.inl (W_ hw 157)) Via.refl ey1 HS_java_lang_StringUTF16_HI_BYTE_SHIFT (g := (mkF m 42 #[rv ab, .val (.int (dj + (1 : Int32)))] [(.int (px &&& (255 : Int32)))])) rfl (hb hby d30_42)
  refine Fin.step (sty3) ?_
  show Fin p e below s _ _ _ (Ty3.setTop (mkF m 45 #[rv ab, .val (.int (dj + (1 : Int32)))] [(.int 0), (.int (px &&& (255 : Int32)))]))
  refine Fin.step (fun _ k => Yo.ishl Xy3.here hx (hb hby d30_45) rfl k) ?_
  show Fin p e below s _ _ _ (Ty3.setTop (mkF m 46 #[rv ab, .val (.int (dj + (1 : Int32)))] [(.int ((px &&& (255 : Int32)) <<< ((0 : Int32) &&& 31)))]))
  refine Fin.step (fun _ k => Yo.aloadN Xy3.here hx (hb hby d30_46) rfl rfl (Yo.iloadN Xy3.here hx (hb hby d30_47) rfl (bld3 Xy3 hx hZ ey3 (j := (dj + (1 : Int32))) (v := (.int py)) HV_ab G.2.1 (by rw [G.2.2.2.1]; exact hx1) (hb hby d30_48) (Yo.sipush Xy3.here hx (hb hby d30_49) (Yo.iand Xy3.here hx (hb hby d30_52) rfl k))))) ?_
  show Fin p e below s _ _ _ (Ty3.setTop (mkF m 53 #[rv ab, .val (.int (dj + (1 : Int32)))] [(.int (py &&& (255 : Int32))), (.int ((px &&& (255 : Int32)) <<< ((0 : Int32) &&& 31)))]))
  obtain ⟨Ty5, Xy5, ey5, sty5⟩ := getS2 Xy3 hx hZ hown (host := "") (Or.inl (W_ hw 158)) Via.refl ey3 HS_java_lang_StringUTF16_LO_BYTE_SHIFT (g := (mkF m 53 #[rv ab, .val (.int (dj + (1 : Int32)))] [(.int (py &&& (255 : Int32))), (.int ((px &&& (255 : Int32)) <<< ((0 : Int32) &&& 31)))])) rfl (hb hby d30_53)
  refine Fin.step (sty5) ?_
  show Fin p e below s _ _ _ (Ty5.setTop (mkF m 56 #[rv ab, .val (.int (dj + (1 : Int32)))] [(.int 8), (.int (py &&& (255 : Int32))), (.int ((px &&& (255 : Int32)) <<< ((0 : Int32) &&& 31)))]))
  refine Fin.step (fun _ k => Yo.ishl Xy5.here hx (hb hby d30_56) rfl k) ?_
  show Fin p e below s _ _ _ (Ty5.setTop (mkF m 57 #[rv ab, .val (.int (dj + (1 : Int32)))] [(.int ((py &&& (255 : Int32)) <<< ((8 : Int32) &&& 31))), (.int ((px &&& (255 : Int32)) <<< ((0 : Int32) &&& 31)))]))
  refine Fin.step (fun _ k => Yo.ior Xy5.here hx (hb hby d30_57) rfl k) ?_
  show Fin p e below s _ _ _ (Ty5.setTop (mkF m 58 #[rv ab, .val (.int (dj + (1 : Int32)))] [(.int (((px &&& (255 : Int32)) <<< ((0 : Int32) &&& 31)) ||| ((py &&& (255 : Int32)) <<< ((8 : Int32) &&& 31))))]))
  refine Fin.step (fun _ k => Yo.i2c Xy5.here hx (hb hby d30_58) rfl k) ?_
  show Fin p e below s _ _ _ (Ty5.setTop (mkF m 59 #[rv ab, .val (.int (dj + (1 : Int32)))] [(.int ((((px &&& (255 : Int32)) <<< ((0 : Int32) &&& 31)) ||| ((py &&& (255 : Int32)) <<< ((8 : Int32) &&& 31))).toUInt32.toUInt16.toUInt32.toInt32))]))
  refine Fin.retN Xy5 hx (t := .char) hret (by simp) hlk (hb hby d30_59) (by decide) (by decide) ?_
  show Qgc Z ab pj kb vs pm pn px py h0 n0 _ Ty5.heap _
  rw [ey5]
  exact ⟨(congrArg (fun z => some (Value.int z)) (own_gcn px py)), N0, rfl⟩
theorem pn_15 : plainName "java/lang/StringUTF16" = true := by first | (simp [plainName, overriddenIn]; done) | decide +kernel
theorem d15_0 : decode jdk_52_method_15_code 0 = .ok (.iload_n 1, 1) := by decide +kernel
theorem d15_1 : decode jdk_52_method_15_code 1 = .ok (.aload_n 0, 1) := by decide +kernel
theorem d15_2 : decode jdk_52_method_15_code 2 = .ok (.arraylength, 1) := by decide +kernel
theorem d15_3 : decode jdk_52_method_15_code 3 = .ok (.isub, 1) := by decide +kernel
theorem d15_4 : decode jdk_52_method_15_code 4 = .ok (.bipush 31, 2) := by decide +kernel
theorem d15_6 : decode jdk_52_method_15_code 6 = .ok (.iushr, 1) := by decide +kernel
theorem d15_7 : decode jdk_52_method_15_code 7 = .ok (.i2b, 1) := by decide +kernel
theorem d15_8 : decode jdk_52_method_15_code 8 = .ok (.ireturn, 1) := by decide +kernel
theorem ef_rmcd0 (m : MethodId) (x0 : Addr) (x1 : Int32) : entryFrame m #[(.ref x0), (.int x1)] 2 = mkF m 0 #[.val (.ref x0), .val (.int x1)] [] := by first | (simp [entryFrame, mkF, argsToLocals, Value.category]; done) | rfl
abbrev R_rmcd0 : Room := ({ frames := 0, cells := 0, slots := 0, locals := 0 } : Room)
def Qcd0 (Z : State) (ab : Addr) (pn : Int32) (kb : ClassId) (vs : List Value) (h0 : Heap) (n0 : Nat) (v : Option Value) (h : Heap) (L : List Loc) : Prop := v = some (.int 0) ∧ Fr n0 L ∧ h = h0
set_option maxRecDepth 65536 in
set_option maxHeartbeats 40000000 in
theorem rmcd0 (l : Launch) (Z : State) (a0 : Array Value) (hw : ∀ d ∈ tables_1, d.before a0 Z = true) (ws : List Jvm.Cond) (ab : Addr) (pn : Int32) (kb : ClassId) (vs : List Value) (h0 : Heap) (n0 : Nat) (Z0 : n0 ≤ h0.size) (HV_ab : Arv Z h0 ab kb .byte pn vs (.int 0)) :
    Met1 l n15 jdk_52_method_15_code 2 (some .byte) ws R_rmcd0 #[(.ref ab), (.int pn)] Z h0 (Qcd0 Z ab pn kb vs h0 n0) := by
  refine Met1.enter (plainFor_of_name pn_15) (fun m => ef_rmcd0 m ab pn) fun p e s m below meth c s₁ hx hby hlk hret hml hown hnm hZ X0 e0 => ?_
  have N0 := Fr.nil n0
  have K0 : Keep h0 h0 [] := Keep.refl h0 _
  show Fin p e below s _ _ _ (s₁.setTop (mkF m 0 #[rv ab, iv pn] []))
  refine Fin.step (fun _ k => Yo.iloadN X0.here hx (hb hby d15_0) rfl (Yo.aloadN X0.here hx (hb hby d15_1) rfl rfl k)) ?_
  have voy1 := HV_ab
  obtain ⟨cly1, Ary1, qay1, say1, nay1, hay1, gay1⟩ := voy1
  refine Fin.step (X0.arraylength hx (by rw [e0]; exact Ary1.1) (State.isArrayOf_alike hZ.alike Ary1.2.1) (g := (mkF m 2 #[rv ab, iv pn] [(.ref ab), (.int pn)])) rfl rfl (hb hby d15_2)) ?_
  rw [len_of say1 nay1]
  show Fin p e below s _ _ _ (s₁.setTop (mkF m 3 #[rv ab, iv pn] [(.int pn), (.int pn)]))
  refine Fin.step (fun _ k => Yo.isub X0.here hx (hb hby d15_3) rfl k) ?_
  show Fin p e below s _ _ _ (s₁.setTop (mkF m 4 #[rv ab, iv pn] [(.int (pn - pn))]))
  refine Fin.step (fun _ k => Yo.bipush X0.here hx (hb hby d15_4) (Yo.iushr X0.here hx (hb hby d15_6) rfl k)) ?_
  show Fin p e below s _ _ _ (s₁.setTop (mkF m 7 #[rv ab, iv pn] [(.int (ushI (pn - pn) (31 : Int32)))]))
  refine Fin.step (fun _ k => Yo.i2b X0.here hx (hb hby d15_7) rfl k) ?_
  show Fin p e below s _ _ _ (s₁.setTop (mkF m 8 #[rv ab, iv pn] [(.int ((ushI (pn - pn) (31 : Int32)).toInt8.toInt32))]))
  refine Fin.retN X0 hx (t := .byte) hret (by simp) hlk (hb hby d15_8) (by decide) (by decide) ?_
  show Qcd0 Z ab pn kb vs h0 n0 _ s₁.heap _
  rw [e0]
  exact ⟨(congrArg (fun z => some (Value.int z)) (own_c0 pn)), N0, rfl⟩
theorem ef_rmcd1 (m : MethodId) (x0 : Addr) (x1 : Int32) : entryFrame m #[(.ref x0), (.int x1)] 2 = mkF m 0 #[.val (.ref x0), .val (.int x1)] [] := by first | (simp [entryFrame, mkF, argsToLocals, Value.category]; done) | rfl
abbrev R_rmcd1 : Room := ({ frames := 0, cells := 0, slots := 0, locals := 0 } : Room)
def Qcd1 (Z : State) (ab : Addr) (pn : Int32) (kb : ClassId) (vs : List Value) (pm : Int32) (h0 : Heap) (n0 : Nat) (v : Option Value) (h : Heap) (L : List Loc) : Prop := v = some (.int 1) ∧ Fr n0 L ∧ h = h0
set_option maxRecDepth 65536 in
set_option maxHeartbeats 40000000 in
theorem rmcd1 (l : Launch) (Z : State) (a0 : Array Value) (hw : ∀ d ∈ tables_1, d.before a0 Z = true) (ws : List Jvm.Cond) (ab : Addr) (pn : Int32) (kb : ClassId) (vs : List Value) (pm : Int32) (h0 : Heap) (n0 : Nat) (Z0 : n0 ≤ h0.size) (HV_ab : Arv Z h0 ab kb .byte pm vs (.int 0)) (h1 : 1 ≤ pn.toInt ∧ pn.toInt ≤ 8) (hm : pm.toInt = 2 * pn.toInt) :
    Met1 l n15 jdk_52_method_15_code 2 (some .byte) ws R_rmcd1 #[(.ref ab), (.int pn)] Z h0 (Qcd1 Z ab pn kb vs pm h0 n0) := by
  refine Met1.enter (plainFor_of_name pn_15) (fun m => ef_rmcd1 m ab pn) fun p e s m below meth c s₁ hx hby hlk hret hml hown hnm hZ X0 e0 => ?_
  have N0 := Fr.nil n0
  have K0 : Keep h0 h0 [] := Keep.refl h0 _
  show Fin p e below s _ _ _ (s₁.setTop (mkF m 0 #[rv ab, iv pn] []))
  refine Fin.step (fun _ k => Yo.iloadN X0.here hx (hb hby d15_0) rfl (Yo.aloadN X0.here hx (hb hby d15_1) rfl rfl k)) ?_
  have voy1 := HV_ab
  obtain ⟨cly1, Ary1, qay1, say1, nay1, hay1, gay1⟩ := voy1
  refine Fin.step (X0.arraylength hx (by rw [e0]; exact Ary1.1) (State.isArrayOf_alike hZ.alike Ary1.2.1) (g := (mkF m 2 #[rv ab, iv pn] [(.ref ab), (.int pn)])) rfl rfl (hb hby d15_2)) ?_
  rw [len_of say1 nay1]
  show Fin p e below s _ _ _ (s₁.setTop (mkF m 3 #[rv ab, iv pn] [(.int pm), (.int pn)]))
  refine Fin.step (fun _ k => Yo.isub X0.here hx (hb hby d15_3) rfl k) ?_
  show Fin p e below s _ _ _ (s₁.setTop (mkF m 4 #[rv ab, iv pn] [(.int (pn - pm))]))
  refine Fin.step (fun _ k => Yo.bipush X0.here hx (hb hby d15_4) (Yo.iushr X0.here hx (hb hby d15_6) rfl k)) ?_
  show Fin p e below s _ _ _ (s₁.setTop (mkF m 7 #[rv ab, iv pn] [(.int (ushI (pn - pm) (31 : Int32)))]))
  refine Fin.step (fun _ k => Yo.i2b X0.here hx (hb hby d15_7) rfl k) ?_
  show Fin p e below s _ _ _ (s₁.setTop (mkF m 8 #[rv ab, iv pn] [(.int ((ushI (pn - pm) (31 : Int32)).toInt8.toInt32))]))
  refine Fin.retN X0 hx (t := .byte) hret (by simp) hlk (hb hby d15_8) (by decide) (by decide) ?_
  show Qcd1 Z ab pn kb vs pm h0 n0 _ s₁.heap _
  rw [e0]
  exact ⟨(congrArg (fun z => some (Value.int z)) (own_neg h1 hm)), N0, rfl⟩
theorem pn_13 : plainName "java/lang/StringUTF16" = true := by first | (simp [plainName, overriddenIn]; done) | decide +kernel
theorem d13_0 : decode jdk_52_method_16_code 0 = .ok (.iload_n 2, 1) := by decide +kernel
theorem d13_1 : decode jdk_52_method_16_code 1 = .ok (.newarray .byte, 2) := by decide +kernel
theorem d13_3 : decode jdk_52_method_16_code 3 = .ok (.astore_n 3, 1) := by decide +kernel
theorem d13_4 : decode jdk_52_method_16_code 4 = .ok (.aload_n 0, 1) := by decide +kernel
theorem d13_5 : decode jdk_52_method_16_code 5 = .ok (.iload_n 1, 1) := by decide +kernel
theorem d13_6 : decode jdk_52_method_16_code 6 = .ok (.aload_n 3, 1) := by decide +kernel
theorem d13_7 : decode jdk_52_method_16_code 7 = .ok (.iconst 0, 1) := by decide +kernel
theorem d13_8 : decode jdk_52_method_16_code 8 = .ok (.iload_n 2, 1) := by decide +kernel
theorem d13_9 : decode jdk_52_method_16_code 9 = .ok (.invokestatic 115, 3) := by decide +kernel
theorem pd_3 : parseMethodDescriptor "([CI[BII)I" = some ⟨[(.array .char), .int, (.array .byte), .int, .int], some .int⟩ := by decide +kernel
theorem d13_12 : decode jdk_52_method_16_code 12 = .ok (.istore 4, 2) := by decide +kernel
theorem d13_14 : decode jdk_52_method_16_code 14 = .ok (.iload 4, 2) := by decide +kernel
theorem d13_16 : decode jdk_52_method_16_code 16 = .ok (.iload_n 2, 1) := by decide +kernel
theorem d13_17 : decode jdk_52_method_16_code 17 = .ok (.if_icmp .eq 40, 3) := by decide +kernel
theorem d13_57 : decode jdk_52_method_16_code 57 = .ok (.aload_n 3, 1) := by decide +kernel
theorem d13_58 : decode jdk_52_method_16_code 58 = .ok (.areturn, 1) := by decide +kernel
theorem ef_rmcpL (m : MethodId) (x0 : Addr) (x2 : Int32) : entryFrame m #[(.ref x0), (.int (0 : Int32)), (.int x2)] 6 = mkF m 0 #[.val (.ref x0), .val (.int (0 : Int32)), .val (.int x2), .unset, .unset, .unset] [] := by first | (simp [entryFrame, mkF, argsToLocals, Value.category]; done) | rfl
abbrev R_rmcpL : Room := ({ frames := 1, cells := 1, slots := 8, locals := 18 } : Room)
def QcpL (Z : State) (a1 : Addr) (pn : Int32) (kc : ClassId) (xs : List Value) (h0 : Heap) (n0 : Nat) (v : Option Value) (h : Heap) (L : List Loc) : Prop := ∃ kn : ClassId, ∃ nb : Addr, v = some (.ref nb) ∧ h0.size ≤ nb ∧ Fr n0 L ∧ Keep h0 h [] ∧ Arv Z h nb kn .byte pn (own_app (List.replicate pn.toNatClampNeg (.int 0)) xs 0 pn.toNatClampNeg) (.int 0)
set_option maxRecDepth 65536 in
set_option maxHeartbeats 40000000 in
theorem rmcpL (l : Launch) (Z : State) (a0 : Array Value) (hw : ∀ d ∈ tables_1, d.before a0 Z = true) (ws : List Jvm.Cond) (a1 : Addr) (pn : Int32) (kc : ClassId) (xs : List Value) (h0 : Heap) (n0 : Nat) (Z0 : n0 ≤ h0.size) (HV_a1 : Arv Z h0 a1 kc .char pn xs (.int 0)) (hn : 0 ≤ pn.toInt ∧ pn.toInt ≤ 8) (hc : own_chs xs) (hlat : ∀ i, i < pn.toNatClampNeg → ¬ (255 : Int32) < own_gt xs i) :
    Met1 l n13 jdk_52_method_16_code 6 (some (.array .byte)) ws R_rmcpL #[(.ref a1), (.int 0), (.int pn)] Z h0 (QcpL Z a1 pn kc xs h0 n0) := by
  refine Met1.enter (plainFor_of_name pn_13) (fun m => ef_rmcpL m a1 pn) fun p e s m below meth c s₁ hx hby hlk hret hml hown hnm hZ X0 e0 => ?_
  have N0 := Fr.nil n0
  have K0 : Keep h0 h0 [] := Keep.refl h0 _
  show Fin p e below s _ _ _ (s₁.setTop (mkF m 0 #[rv a1, iv 0, iv pn, u_, u_, u_] []))
  refine Fin.step (fun _ k => Yo.iloadN X0.here hx (hb hby d13_0) rfl k) ?_
  obtain ⟨Ty1, hy1, ky1, Xy1, ey1, Ey1, Ay1, sty1⟩ := newP X0 hx hZ (W_ hw 5) e0 (g := (mkF m 1 #[rv a1, iv 0, iv pn, u_, u_, u_] [(.int pn)])) rfl (hb hby d13_1) rfl (own_pn hn).1 (cap := 8) (own_pn hn).2 (by decide) (by decide) (by decide)
  obtain ⟨by1, gy1⟩ : ∃ z, z = h0.size := ⟨_, rfl⟩
  rw [← gy1] at Ay1 sty1
  have gzy1 : n0 ≤ by1 := Nat.le_trans Z0 (Nat.le_of_eq gy1.symm)
  have szy1 : h0.size ≤ by1 := Nat.le_trans K0.1 (Nat.le_of_eq gy1.symm)
  have Zy1 := Nat.le_trans Z0 Ey1.1
  have Ky1 := K0.ext Ey1
  have Vy1 : Arv Z hy1 by1 ky1 .byte pn (List.replicate (pn).toNatClampNeg (.int 0)) (.int 0) := (Arv.new Ay1 (own_pn hn).1).pad (pad_rep [] (.int 0) _)
  refine Fin.step (sty1) ?_
  show Fin p e below s _ _ _ (Ty1.setTop (mkF m 3 #[rv a1, iv 0, iv pn, u_, u_, u_] [(.ref by1)]))
  refine Fin.step (fun _ k => Yo.astoreN Xy1.here hx (hb hby d13_3) rfl rfl (l' := #[rv a1, iv 0, iv pn, rv by1, u_, u_]) rfl (Yo.aloadN Xy1.here hx (hb hby d13_4) rfl rfl (Yo.iloadN Xy1.here hx (hb hby d13_5) rfl (Yo.aloadN Xy1.here hx (hb hby d13_6) rfl rfl (Yo.iconst Xy1.here hx (hb hby d13_7) (Yo.iloadN Xy1.here hx (hb hby d13_8) rfl k)))))) ?_
  have ney2 := nlt (nsV HV_a1).lt szy1
  obtain ⟨_, Ty3, Lcy3, Xy3, hQy3, sty3⟩ := packS (Jvm.LawKit.callS Xy1 hx (y := n14) hown (mvT hZ (W_ hw 70)) (mvT hZ (W_ hw 71)) (mvT hZ (W_ hw 68)) (mvT hZ (W_ hw 72)) (by decide) (backOf (W := 0) (rmcmL l Z a0 hw [] a1 by1 pn kc xs ky1 _ hy1 n0 Zy1 (HV_a1.ext Ey1) Vy1 gzy1 hn hc (by rw [List.length_replicate]) hlat ney2) hZ (W_ hw 72) (W_ hw 68) (by decide) (by decide)) (g := (mkF m 9 #[rv a1, iv 0, iv pn, rv by1, u_, u_] [(.int pn), (.int 0), (.ref by1), (.int 0), (.ref a1)])) rfl (by rw [hml]; rfl) (argsL := [(.ref a1), (.int 0), (.ref by1), (.int 0), (.int pn)]) (rest := []) (lenOf pd_3 rfl) rfl (lb rfl) (hb hby d13_9) (fun _ _ => ⟨rfl, ey1, (by decide : 1 + 0 ≤ _), (by decide : 8 + 0 ≤ _)⟩))
  obtain ⟨rfl, Nqy3, Kcy3, fy3_0⟩ := hQy3
  have Ny3 := Fr.app N0 Nqy3
  have Zy3 := Nat.le_trans Zy1 Kcy3.1
  have Ky3 := Ky1.trans Kcy3 (allS (Or.inr szy1) all0)
  refine Fin.step (sty3) ?_
  show Fin p e below s _ _ _ (Ty3.setTop (mkF m 12 #[rv a1, iv 0, iv pn, rv by1, u_, u_] [(.int pn)]))
  refine Fin.step (fun _ k => Yo.istore Xy3.here hx (hb hby d13_12) rfl (l' := #[rv a1, iv 0, iv pn, rv by1, iv pn, u_]) rfl (Yo.iload Xy3.here hx (hb hby d13_14) rfl (Yo.iloadN Xy3.here hx (hb hby d13_16) rfl (Yo.icmpYes Xy3.here hx (pc0 := 17) (pc' := 57) rfl (hb hby d13_17) rfl (teq (rfl : (pn = pn))).1 (by decide) (by decide) (Yo.aloadN Xy3.here hx (hb hby d13_57) rfl rfl k))))) ?_
  refine Fin.retR Xy3 hx hret rfl rfl hlk (hb hby d13_58) (by decide) (by decide) ?_
  show QcpL Z a1 pn kc xs h0 n0 _ Ty3.heap _
  exact ⟨ky1, by1, rfl, szy1, Ny3, Ky3, fy3_0⟩
theorem d13_20 : decode jdk_52_method_16_code 20 = .ok (.aload_n 0, 1) := by decide +kernel
theorem d13_21 : decode jdk_52_method_16_code 21 = .ok (.iload_n 1, 1) := by decide +kernel
theorem d13_22 : decode jdk_52_method_16_code 22 = .ok (.iload_n 2, 1) := by decide +kernel
theorem d13_23 : decode jdk_52_method_16_code 23 = .ok (.invokestatic 119, 3) := by decide +kernel
theorem pd_4 : parseMethodDescriptor "([CII)[B" = some ⟨[(.array .char), .int, .int], some (.array .byte)⟩ := by decide +kernel
theorem d13_26 : decode jdk_52_method_16_code 26 = .ok (.astore 5, 2) := by decide +kernel
theorem d13_28 : decode jdk_52_method_16_code 28 = .ok (.aload 5, 2) := by decide +kernel
theorem d13_30 : decode jdk_52_method_16_code 30 = .ok (.iload 4, 2) := by decide +kernel
theorem d13_32 : decode jdk_52_method_16_code 32 = .ok (.invokestatic 71, 3) := by decide +kernel
theorem pd_5 : parseMethodDescriptor "([BI)C" = some ⟨[(.array .byte), .int], some .char⟩ := by decide +kernel
theorem d13_35 : decode jdk_52_method_16_code 35 = .ok (.sipush 255, 3) := by decide +kernel
theorem d13_38 : decode jdk_52_method_16_code 38 = .ok (.if_icmp .gt 16, 3) := by decide +kernel
theorem d13_54 : decode jdk_52_method_16_code 54 = .ok (.aload 5, 2) := by decide +kernel
theorem d13_56 : decode jdk_52_method_16_code 56 = .ok (.areturn, 1) := by decide +kernel
theorem ef_rmcpU (m : MethodId) (x0 : Addr) (x2 : Int32) : entryFrame m #[(.ref x0), (.int (0 : Int32)), (.int x2)] 6 = mkF m 0 #[.val (.ref x0), .val (.int (0 : Int32)), .val (.int x2), .unset, .unset, .unset] [] := by first | (simp [entryFrame, mkF, argsToLocals, Value.category]; done) | rfl
abbrev R_rmcpU : Room := ({ frames := 3, cells := 2, slots := 24, locals := 40 } : Room)
def QcpU (Z : State) (a1 : Addr) (pn : Int32) (kc : ClassId) (xs : List Value) (pj pm : Int32) (h0 : Heap) (n0 : Nat) (v : Option Value) (h : Heap) (L : List Loc) : Prop := ∃ kn : ClassId, ∃ lz : List Value, ∃ nb : Addr, v = some (.ref nb) ∧ h0.size ≤ nb ∧ Fr n0 L ∧ Keep h0 h [] ∧ Arv Z h nb kn .byte pm lz (.int 0)
set_option maxRecDepth 65536 in
set_option maxHeartbeats 40000000 in
theorem rmcpU (l : Launch) (Z : State) (a0 : Array Value) (hw : ∀ d ∈ tables_1, d.before a0 Z = true) (ws : List Jvm.Cond) (a1 : Addr) (pn : Int32) (kc : ClassId) (xs : List Value) (pj pm : Int32) (h0 : Heap) (n0 : Nat) (Z0 : n0 ≤ h0.size) (HV_a1 : Arv Z h0 a1 kc .char pn xs (.int 0)) (HS_java_lang_StringUTF16__assertionsDisabled : Sta Z h0 q6 "$assertionsDisabled" "Z" (.int 1)) (HS_java_lang_StringUTF16_HI_BYTE_SHIFT : Sta Z h0 q6 "HI_BYTE_SHIFT" "I" (.int 0)) (HS_java_lang_StringUTF16_LO_BYTE_SHIFT : Sta Z h0 q6 "LO_BYTE_SHIFT" "I" (.int 8)) (hn : 0 ≤ pn.toInt ∧ pn.toInt ≤ 8) (hc : own_chs xs) (hm : pm = pn <<< ((1 : Int32) &&& 31)) (hj : 0 ≤ pj.toInt ∧ pj < pn) (hlat : ∀ i, i < pj.toNatClampNeg → ¬ (255 : Int32) < own_gt xs i) (hbig : (255 : Int32) < own_gt xs pj.toNatClampNeg) (hz : 0 ≤ (own_gt xs pj.toNatClampNeg).toInt ∧ (own_gt xs pj.toNatClampNeg).toInt ≤ 65535) :
    Met1 l n13 jdk_52_method_16_code 6 (some (.array .byte)) ws R_rmcpU #[(.ref a1), (.int 0), (.int pn)] Z h0 (QcpU Z a1 pn kc xs pj pm h0 n0) := by
  refine Met1.enter (plainFor_of_name pn_13) (fun m => ef_rmcpU m a1 pn) fun p e s m below meth c s₁ hx hby hlk hret hml hown hnm hZ X0 e0 => ?_
  have N0 := Fr.nil n0
  have K0 : Keep h0 h0 [] := Keep.refl h0 _
  show Fin p e below s _ _ _ (s₁.setTop (mkF m 0 #[rv a1, iv 0, iv pn, u_, u_, u_] []))
  refine Fin.step (fun _ k => Yo.iloadN X0.here hx (hb hby d13_0) rfl k) ?_
  obtain ⟨Ty1, hy1, ky1, Xy1, ey1, Ey1, Ay1, sty1⟩ := newP X0 hx hZ (W_ hw 5) e0 (g := (mkF m 1 #[rv a1, iv 0, iv pn, u_, u_, u_] [(.int pn)])) rfl (hb hby d13_1) rfl (own_pn hn).1 (cap := 8) (own_pn hn).2 (by decide) (by decide) (by decide)
  obtain ⟨by1, gy1⟩ : ∃ z, z = h0.size := ⟨_, rfl⟩
  rw [← gy1] at Ay1 sty1
  have gzy1 : n0 ≤ by1 := Nat.le_trans Z0 (Nat.le_of_eq gy1.symm)
  have szy1 : h0.size ≤ by1 := Nat.le_trans K0.1 (Nat.le_of_eq gy1.symm)
  have Zy1 := Nat.le_trans Z0 Ey1.1
  have Ky1 := K0.ext Ey1
  have Vy1 : Arv Z hy1 by1 ky1 .byte pn (List.replicate (pn).toNatClampNeg (.int 0)) (.int 0) := (Arv.new Ay1 (own_pn hn).1).pad (pad_rep [] (.int 0) _)
  refine Fin.step (sty1) ?_
  show Fin p e below s _ _ _ (Ty1.setTop (mkF m 3 #[rv a1, iv 0, iv pn, u_, u_, u_] [(.ref by1)]))
  refine Fin.step (fun _ k => Yo.astoreN Xy1.here hx (hb hby d13_3) rfl rfl (l' := #[rv a1, iv 0, iv pn, rv by1, u_, u_]) rfl (Yo.aloadN Xy1.here hx (hb hby d13_4) rfl rfl (Yo.iloadN Xy1.here hx (hb hby d13_5) rfl (Yo.aloadN Xy1.here hx (hb hby d13_6) rfl rfl (Yo.iconst Xy1.here hx (hb hby d13_7) (Yo.iloadN Xy1.here hx (hb hby d13_8) rfl k)))))) ?_
  have ney2 := nlt (nsV HV_a1).lt szy1
  obtain ⟨_, Ty3, Lcy3, Xy3, hQy3, sty3⟩ := packS (Jvm.LawKit.callS Xy1 hx (y := n14) hown (mvT hZ (W_ hw 70)) (mvT hZ (W_ hw 71)) (mvT hZ (W_ hw 68)) (mvT hZ (W_ hw 72)) (by decide) (backOf (W := 0) (rmcmU l Z a0 hw [] a1 by1 pn kc xs ky1 _ pj hy1 n0 Zy1 (HV_a1.ext Ey1) Vy1 gzy1 hn hc (by rw [List.length_replicate]) hj hlat hbig ney2) hZ (W_ hw 72) (W_ hw 68) (by decide) (by decide)) (g := (mkF m 9 #[rv a1, iv 0, iv pn, rv by1, u_, u_] [(.int pn), (.int 0), (.ref by1), (.int 0), (.ref a1)])) rfl (by rw [hml]; rfl) (argsL := [(.ref a1), (.int 0), (.ref by1), (.int 0), (.int pn)]) (rest := []) (lenOf pd_3 rfl) rfl (lb rfl) (hb hby d13_9) (fun _ _ => ⟨rfl, ey1, (by decide : 1 + 0 ≤ _), (by decide : 8 + 0 ≤ _)⟩))
  obtain ⟨rfl, Nqy3, Kcy3⟩ := hQy3
  have Ny3 := Fr.app N0 Nqy3
  have Zy3 := Nat.le_trans Zy1 Kcy3.1
  have Ky3 := Ky1.trans Kcy3 (allS (Or.inr szy1) all0)
  refine Fin.step (sty3) ?_
  show Fin p e below s _ _ _ (Ty3.setTop (mkF m 12 #[rv a1, iv 0, iv pn, rv by1, u_, u_] [(.int pj)]))
  refine Fin.step (fun _ k => Yo.istore Xy3.here hx (hb hby d13_12) rfl (l' := #[rv a1, iv 0, iv pn, rv by1, iv pj, u_]) rfl (Yo.iload Xy3.here hx (hb hby d13_14) rfl (Yo.iloadN Xy3.here hx (hb hby d13_16) rfl (Yo.icmpNo Xy3.here hx (hb hby d13_17) rfl (feq ((own_ltne hj.2) : ¬ (pj = pn))).1 (Yo.aloadN Xy3.here hx (hb hby d13_20) rfl rfl (Yo.iloadN Xy3.here hx (hb hby d13_21) rfl (Yo.iloadN Xy3.here hx (hb hby d13_22) rfl k))))))) ?_
  have ry4 := (Sta_keep HS_java_lang_StringUTF16__assertionsDisabled Ky3)
  have ry5 := (Sta_keep HS_java_lang_StringUTF16_HI_BYTE_SHIFT Ky3)
  have ry6 := (Sta_keep HS_java_lang_StringUTF16_LO_BYTE_SHIFT Ky3)
  obtain ⟨_, Ty7, Lcy7, Xy7, hQy7, sty7⟩ := packS (Jvm.LawKit.callS Xy3 hx (y := n26) hown (mvT hZ (W_ hw 143)) (mvT hZ (W_ hw 144)) (mvT hZ (W_ hw 68)) (mvT hZ (W_ hw 145)) (by decide) (backOf (W := 0) (rmtb l Z a0 hw [] a1 pn kc xs pm Ty3.heap n0 Zy3 (HV_a1.keep Ky3 nin0) ry4 ry5 ry6 hn hm hc) hZ (W_ hw 145) (W_ hw 68) (by decide) (by decide)) (g := (mkF m 23 #[rv a1, iv 0, iv pn, rv by1, iv pj, u_] [(.int pn), (.int 0), (.ref a1)])) rfl (by rw [hml]; rfl) (argsL := [(.ref a1), (.int 0), (.int pn)]) (rest := []) (lenOf pd_4 rfl) rfl (lb rfl) (hb hby d13_23) (fun _ _ => ⟨rfl, rfl, (by decide : 1 + 1 ≤ _), (by decide : 8 + 16 ≤ _)⟩))
  obtain ⟨kn_y7, by7, rfl, bzy7, Nqy7, Kcy7, fy7_0⟩ := hQy7
  have Ny7 := Fr.app Ny3 Nqy7
  have gzy7 : n0 ≤ by7 := Nat.le_trans Zy3 bzy7
  have szy7 : h0.size ≤ by7 := Nat.le_trans Ky3.1 bzy7
  have Zy7 := Nat.le_trans Zy3 Kcy7.1
  have Ky7 := Ky3.trans Kcy7 all0
  refine Fin.step (sty7) ?_
  show Fin p e below s _ _ _ (Ty7.setTop (mkF m 26 #[rv a1, iv 0, iv pn, rv by1, iv pj, u_] [(.ref by7)]))
  refine Fin.step (fun _ k => Yo.astore Xy7.here hx (hb hby d13_26) rfl rfl (l' := #[rv a1, iv 0, iv pn, rv by1, iv pj, rv by7]) rfl (Yo.aload Xy7.here hx (hb hby d13_28) rfl rfl (Yo.iload Xy7.here hx (hb hby d13_30) rfl k))) ?_
  obtain ⟨_, Ty8, Lcy8, Xy8, hQy8, sty8⟩ := packS (Jvm.LawKit.callS Xy7 hx (y := n30) hown (mvT hZ (W_ hw 159)) (mvT hZ (W_ hw 160)) (mvT hZ (W_ hw 68)) (mvT hZ (W_ hw 161)) (by decide) (backOf (W := 0) (rmgc l Z a0 hw [] by7 pj kn_y7 _ pm pn (nar .byte ((own_gt xs pj.toNatClampNeg >>> ((0 : Int32) &&& 31)).toInt8.toInt32)) (nar .byte ((own_gt xs pj.toNatClampNeg >>> ((8 : Int32) &&& 31)).toInt8.toInt32)) Ty7.heap n0 Zy7 fy7_0 (Sta_keepW ry4 Kcy7 all0) (Sta_keepW ry5 Kcy7 all0) (Sta_keepW ry6 Kcy7 all0) hn hj (own_len2 hn hm).1 (own_utfget _ _ _ _ (own_jn hj.1 hj.2) (by rw [List.length_replicate, (own_len2 hn hm).2.2.2.2.2]; exact Nat.le_refl _)).1 (own_utfget _ _ _ _ (own_jn hj.1 hj.2) (by rw [List.length_replicate, (own_len2 hn hm).2.2.2.2.2]; exact Nat.le_refl _)).2) hZ (W_ hw 161) (W_ hw 68) (by decide) (by decide)) (g := (mkF m 32 #[rv a1, iv 0, iv pn, rv by1, iv pj, rv by7] [(.int pj), (.ref by7)])) rfl (by rw [hml]; rfl) (argsL := [(.ref by7), (.int pj)]) (rest := []) (lenOf pd_5 rfl) rfl (lb rfl) (hb hby d13_32) (fun _ _ => ⟨rfl, rfl, (by decide : 2 + 0 ≤ _), (by decide : 24 + 0 ≤ _)⟩))
  obtain ⟨rfl, Nqy8, eqy8⟩ := hQy8
  have Ny8 := Fr.app Ny7 Nqy8
  refine Fin.step (sty8) ?_
  show Fin p e below s _ _ _ (Ty8.setTop (mkF m 35 #[rv a1, iv 0, iv pn, rv by1, iv pj, rv by7] [(.int (own_gc (nar .byte ((own_gt xs pj.toNatClampNeg >>> ((0 : Int32) &&& 31)).toInt8.toInt32)) (nar .byte ((own_gt xs pj.toNatClampNeg >>> ((8 : Int32) &&& 31)).toInt8.toInt32))))]))
  refine Fin.step (fun _ k => Yo.sipush Xy8.here hx (hb hby d13_35) (Yo.icmpYes Xy8.here hx (pc0 := 38) (pc' := 54) rfl (hb hby d13_38) rfl (tlt ((by rw [own_gcz hz]; exact hbig) : ((255 : Int32) < (own_gc (nar .byte ((own_gt xs pj.toNatClampNeg >>> ((0 : Int32) &&& 31)).toInt8.toInt32)) (nar .byte ((own_gt xs pj.toNatClampNeg >>> ((8 : Int32) &&& 31)).toInt8.toInt32)))))).2.2.1 (by decide) (by decide) (Yo.aload Xy8.here hx (hb hby d13_54) rfl rfl k))) ?_
  refine Fin.retR Xy8 hx hret rfl rfl hlk (hb hby d13_56) (by decide) (by decide) ?_
  show QcpU Z a1 pn kc xs pj pm h0 n0 _ Ty8.heap _
  rw [eqy8]
  exact ⟨kn_y7, (own_utf (List.replicate pm.toNatClampNeg (.int 0)) xs pn.toNatClampNeg), by7, rfl, szy7, Ny8, Ky7, fy7_0⟩
theorem pn_11 : plainName "java/lang/String" = true := by first | (simp [plainName, overriddenIn]; done) | decide +kernel
theorem d11_0 : decode jdk_42_method_149_code 0 = .ok (.aload_n 0, 1) := by decide +kernel
theorem d11_1 : decode jdk_42_method_149_code 1 = .ok (.invokespecial 1, 3) := by decide +kernel
theorem d11_4 : decode jdk_42_method_149_code 4 = .ok (.iload_n 3, 1) := by decide +kernel
theorem d11_5 : decode jdk_42_method_149_code 5 = .ok (.ifCond .ne 22, 3) := by decide +kernel
theorem d11_27 : decode jdk_42_method_149_code 27 = .ok (.getstatic 38, 3) := by decide +kernel
theorem d11_30 : decode jdk_42_method_149_code 30 = .ok (.ifCond .eq 28, 3) := by decide +kernel
theorem d11_33 : decode jdk_42_method_149_code 33 = .ok (.aload_n 1, 1) := by decide +kernel
theorem d11_34 : decode jdk_42_method_149_code 34 = .ok (.iload_n 2, 1) := by decide +kernel
theorem d11_35 : decode jdk_42_method_149_code 35 = .ok (.iload_n 3, 1) := by decide +kernel
theorem d11_36 : decode jdk_42_method_149_code 36 = .ok (.invokestatic 177, 3) := by decide +kernel
theorem d11_39 : decode jdk_42_method_149_code 39 = .ok (.astore 5, 2) := by decide +kernel
theorem d11_41 : decode jdk_42_method_149_code 41 = .ok (.aload_n 0, 1) := by decide +kernel
theorem d11_42 : decode jdk_42_method_149_code 42 = .ok (.aload 5, 2) := by decide +kernel
theorem d11_44 : decode jdk_42_method_149_code 44 = .ok (.iload_n 3, 1) := by decide +kernel
theorem d11_45 : decode jdk_42_method_149_code 45 = .ok (.invokestatic 47, 3) := by decide +kernel
theorem pd_6 : parseMethodDescriptor "([BI)B" = some ⟨[(.array .byte), .int], some .byte⟩ := by decide +kernel
theorem d11_48 : decode jdk_42_method_149_code 48 = .ok (.putfield 15, 3) := by decide +kernel
theorem d11_51 : decode jdk_42_method_149_code 51 = .ok (.aload_n 0, 1) := by decide +kernel
theorem d11_52 : decode jdk_42_method_149_code 52 = .ok (.aload 5, 2) := by decide +kernel
theorem d11_54 : decode jdk_42_method_149_code 54 = .ok (.putfield 9, 3) := by decide +kernel
theorem d11_57 : decode jdk_42_method_149_code 57 = .ok (.return_, 1) := by decide +kernel
theorem ef_rmsi2L (m : MethodId) (x0 : Addr) (x1 : Addr) (x3 : Int32) : entryFrame m #[(.ref x0), (.ref x1), (.int (0 : Int32)), (.int x3), .null] 6 = mkF m 0 #[.val (.ref x0), .val (.ref x1), .val (.int (0 : Int32)), .val (.int x3), .val .null, .unset] [] := by first | (simp [entryFrame, mkF, argsToLocals, Value.category]; done) | rfl
abbrev R_rmsi2L : Room := ({ frames := 2, cells := 1, slots := 8, locals := 35 } : Room)
def Qsi2L (Z : State) (a1 a2 : Addr) (pn : Int32) (kc : ClassId) (xs : List Value) (wc : Int32) (h0 : Heap) (n0 : Nat) (v : Option Value) (h : Heap) (L : List Loc) : Prop := ∃ nb : Addr, ∃ kn : ClassId, v = none ∧ h0.size ≤ nb ∧ Fr n0 L ∧ Keep h0 h [a1] ∧ Fld Z h a1 q3 "coder" "B" (.int 0) ∧ Fld Z h a1 q3 "value" "[B" (.ref nb) ∧ Arv Z h nb kn .byte pn (own_app (List.replicate pn.toNatClampNeg (.int 0)) xs 0 pn.toNatClampNeg) (.int 0) ∧ a1 ≠ nb
set_option maxRecDepth 65536 in
set_option maxHeartbeats 40000000 in
theorem rmsi2L (l : Launch) (Z : State) (a0 : Array Value) (hw : ∀ d ∈ tables_1, d.before a0 Z = true) (ws : List Jvm.Cond) (a1 a2 : Addr) (pn : Int32) (kc : ClassId) (xs : List Value) (wc : Int32) (h0 : Heap) (n0 : Nat) (Z0 : n0 ≤ h0.size) (HE_a1 : Exa Z h0 a1 q3) (HF_a1_coder : Fld Z h0 a1 q3 "coder" "B" (.int 0)) (HF_a1_value : Fld Z h0 a1 q3 "value" "[B" .null) (HV_a2 : Arv Z h0 a2 kc .char pn xs (.int 0)) (HS_java_lang_String_COMPACT_STRINGS : Sta Z h0 q3 q7 "Z" (.int wc)) (g_a1 : n0 ≤ a1) (hn : 0 ≤ pn.toInt ∧ pn.toInt ≤ 8) (hc : own_chs xs) (hwc : ¬ wc = 0) (hn0 : ¬ pn = 0) (hlat : ∀ i, i < pn.toNatClampNeg → ¬ (255 : Int32) < own_gt xs i) (hn_a1_a2 : a1 ≠ a2) :
    Met1 l n11 jdk_42_method_149_code 6 none ws R_rmsi2L #[(.ref a1), (.ref a2), (.int 0), (.int pn), .null] Z h0 (Qsi2L Z a1 a2 pn kc xs wc h0 n0) := by
  refine Met1.enter (plainFor_of_name pn_11) (fun m => ef_rmsi2L m a1 a2 pn) fun p e s m below meth c s₁ hx hby hlk hret hml hown hnm hZ X0 e0 => ?_
  have N0 := Fr.nil n0
  have K0 := Keep.refl h0 [a1]
  show Fin p e below s _ _ _ (s₁.setTop (mkF m 0 #[rv a1, rv a2, iv 0, iv pn, .val .null, u_] []))
  refine Fin.step (fun _ k => Yo.aloadN X0.here hx (hb hby d11_0) rfl rfl k) ?_
  obtain ⟨Ty1, Xy1, ey1, sty1⟩ := initO X0 hx hZ hown (W_ hw 63) (W_ hw 64) (W_ hw 65) e0 (g := (mkF m 1 #[rv a1, rv a2, iv 0, iv pn, .val .null, u_] [(.ref a1)])) rfl (by rw [hml]; rfl) rfl (hb hby d11_1) (by decide) (W := 0) (by show 2 * 0 + _ ≤ _; exact Nat.le_of_eq rfl) (by decide)
  refine Fin.step (sty1) ?_
  show Fin p e below s _ _ _ (Ty1.setTop (mkF m 4 #[rv a1, rv a2, iv 0, iv pn, .val .null, u_] []))
  refine Fin.step (fun _ k => Yo.iloadN Xy1.here hx (hb hby d11_4) rfl (Yo.ifYes Xy1.here hx (pc0 := 5) (pc' := 27) rfl (hb hby d11_5) rfl ((if0 _ _).trans (feq (hn0 : ¬ (pn = (0 : Int32)))).2) (by decide) (by decide) k)) ?_
  obtain ⟨Ty2, Xy2, ey2, sty2⟩ := getS2 Xy1 hx hZ hown (host := "") (Or.inl (W_ hw 24)) Via.refl ey1 HS_java_lang_String_COMPACT_STRINGS (g := (mkF m 27 #[rv a1, rv a2, iv 0, iv pn, .val .null, u_] [])) rfl (hb hby d11_27)
  refine Fin.step (sty2) ?_
  show Fin p e below s _ _ _ (Ty2.setTop (mkF m 30 #[rv a1, rv a2, iv 0, iv pn, .val .null, u_] [(.int wc)]))
  refine Fin.step (fun _ k => Yo.ifNo Xy2.here hx (hb hby d11_30) rfl ((if0 _ _).trans (feq (hwc : ¬ (wc = (0 : Int32)))).1) (Yo.aloadN Xy2.here hx (hb hby d11_33) rfl rfl (Yo.iloadN Xy2.here hx (hb hby d11_34) rfl (Yo.iloadN Xy2.here hx (hb hby d11_35) rfl k)))) ?_
  obtain ⟨_, Ty3, Lcy3, Xy3, hQy3, sty3⟩ := packS (Jvm.LawKit.callS Xy2 hx (y := n13) hown (mvT hZ (W_ hw 66)) (mvT hZ (W_ hw 67)) (mvT hZ (W_ hw 68)) (mvT hZ (W_ hw 69)) (by decide) (backOf (W := 0) (rmcpL l Z a0 hw [] a2 pn kc xs h0 n0 Z0 HV_a2 hn hc hlat) hZ (W_ hw 69) (W_ hw 68) (by decide) (by decide)) (g := (mkF m 36 #[rv a1, rv a2, iv 0, iv pn, .val .null, u_] [(.int pn), (.int 0), (.ref a2)])) rfl (by rw [hml]; rfl) (argsL := [(.ref a2), (.int 0), (.int pn)]) (rest := []) (lenOf pd_4 rfl) rfl (lb rfl) (hb hby d11_36) (fun _ _ => ⟨rfl, ey2, (by decide : 0 + 1 ≤ _), (by decide : 0 + 8 ≤ _)⟩))
  obtain ⟨kn_y3, by3, rfl, bzy3, Nqy3, Kcy3, fy3_0⟩ := hQy3
  have Ny3 := Fr.app N0 Nqy3
  have gzy3 : n0 ≤ by3 := Nat.le_trans Z0 bzy3
  have szy3 : h0.size ≤ by3 := Nat.le_trans K0.1 bzy3
  have Zy3 := Nat.le_trans Z0 Kcy3.1
  have Ky3 := K0.trans Kcy3 all0
  refine Fin.step (sty3) ?_
  show Fin p e below s _ _ _ (Ty3.setTop (mkF m 39 #[rv a1, rv a2, iv 0, iv pn, .val .null, u_] [(.ref by3)]))
  refine Fin.step (fun _ k => Yo.astore Xy3.here hx (hb hby d11_39) rfl rfl (l' := #[rv a1, rv a2, iv 0, iv pn, .val .null, rv by3]) rfl (Yo.aloadN Xy3.here hx (hb hby d11_41) rfl rfl (Yo.aload Xy3.here hx (hb hby d11_42) rfl rfl (Yo.iloadN Xy3.here hx (hb hby d11_44) rfl k)))) ?_
  obtain ⟨_, Ty4, Lcy4, Xy4, hQy4, sty4⟩ := packS (Jvm.LawKit.callS Xy3 hx (y := n15) hown (mvT hZ (W_ hw 73)) (mvT hZ (W_ hw 74)) (mvT hZ (W_ hw 68)) (mvT hZ (W_ hw 75)) (by decide) (backOf (W := 1) (rmcd0 l Z a0 hw [] by3 pn kn_y3 _ Ty3.heap n0 Zy3 fy3_0) hZ (W_ hw 75) (W_ hw 68) (by decide) (by decide)) (g := (mkF m 45 #[rv a1, rv a2, iv 0, iv pn, .val .null, rv by3] [(.int pn), (.ref by3), (.ref a1)])) rfl (by rw [hml]; rfl) (argsL := [(.ref by3), (.int pn)]) (rest := [(.ref a1)]) (lenOf pd_6 rfl) rfl (lb rfl) (hb hby d11_45) (fun _ _ => ⟨rfl, rfl, (by decide : 1 + 0 ≤ _), (by decide : 8 + 0 ≤ _)⟩))
  obtain ⟨rfl, Nqy4, eqy4⟩ := hQy4
  have Ny4 := Fr.app Ny3 Nqy4
  refine Fin.step (sty4) ?_
  show Fin p e below s _ _ _ (Ty4.setTop (mkF m 48 #[rv a1, rv a2, iv 0, iv pn, .val .null, rv by3] [(.int 0), (.ref a1)]))
  obtain ⟨Ty5, hy5, Xy5, ey5, Wy5, sty5⟩ := putFN Xy4 hx hZ hown (W_ hw 25) Via.refl eqy4 (HF_a1_coder.keep Kcy3 nin0) (HE_a1.keep Kcy3) (Or.inr ⟨(W_ hw 7), rfl, hnm⟩) (W_ hw 4) (ty := .byte) (v' := (.int 0)) (by decide) rfl rfl (g := (mkF m 48 #[rv a1, rv a2, iv 0, iv pn, .val .null, rv by3] [(.int 0), (.ref a1)])) rfl rfl (hb hby d11_48)
  have Fwy5 : Fld Z hy5 a1 q3 "coder" "B" (.int 0) := (HF_a1_coder.keep Kcy3 nin0).same Wy5
  have Zy5 : n0 ≤ hy5.size := Nat.le_trans Zy3 (Keep.of_wr Wy5).1
  have Ky5 : Keep h0 hy5 [a1] := Ky3.wr Wy5 m0
  have Ny5 := Fr.snoc Xy5 Ny4 g_a1
  refine Fin.step (sty5) ?_
  show Fin p e below s _ _ _ (Ty5.setTop (mkF m 51 #[rv a1, rv a2, iv 0, iv pn, .val .null, rv by3] []))
  refine Fin.step (fun _ k => Yo.aloadN Xy5.here hx (hb hby d11_51) rfl rfl (Yo.aload Xy5.here hx (hb hby d11_52) rfl rfl k)) ?_
  obtain ⟨Ty6, hy6, Xy6, ey6, Wy6, sty6⟩ := putF Xy5 hx hZ hown (host := "") (Or.inl (W_ hw 18)) Via.refl ey5 ((HF_a1_value.keep Kcy3 nin0).other Wy5 (Or.inr (slot_ne (Or.inr (W_ hw 6)) (Or.inr (W_ hw 7)) (by decide) (t := (.array .byte)) (t' := .byte) (by decide) (by decide)))) ((HE_a1.keep Kcy3).wr Wy5) (Or.inr ⟨(W_ hw 6), rfl, hnm⟩) (W_ hw 4) (ty := (.array .byte)) (by decide) rfl rfl (g := (mkF m 54 #[rv a1, rv a2, iv 0, iv pn, .val .null, rv by3] [(.ref by3), (.ref a1)])) rfl rfl (hb hby d11_54)
  have Fwy6 : Fld Z hy6 a1 q3 "value" "[B" (.ref by3) := ((HF_a1_value.keep Kcy3 nin0).other Wy5 (Or.inr (slot_ne (Or.inr (W_ hw 6)) (Or.inr (W_ hw 7)) (by decide) (t := (.array .byte)) (t' := .byte) (by decide) (by decide)))).same Wy6
  have Zy6 : n0 ≤ hy6.size := Nat.le_trans Zy5 (Keep.of_wr Wy6).1
  have Ky6 : Keep h0 hy6 [a1] := Ky5.wr Wy6 m0
  have Ny6 := Fr.snoc Xy6 Ny5 g_a1
  refine Fin.step (sty6) ?_
  show Fin p e below s _ _ _ (Ty6.setTop (mkF m 57 #[rv a1, rv a2, iv 0, iv pn, .val .null, rv by3] []))
  refine Fin.retV Xy6 hx hret hlk (hb hby d11_57) (by decide) (by decide) ?_
  show Qsi2L Z a1 a2 pn kc xs wc h0 n0 _ Ty6.heap _
  rw [ey6]
  have ney7 := nlt HE_a1.lt szy3
  exact ⟨by3, kn_y3, rfl, szy3, Ny6, Ky6, (Fwy5.other Wy6 (Or.inr (slot_ne (Or.inr (W_ hw 7)) (Or.inr (W_ hw 6)) (by decide) (t := .byte) (t' := (.array .byte)) (by decide) (by decide)))), Fwy6, ((fy3_0.other Wy5 (Ne.symm ney7)).other Wy6 (Ne.symm ney7)), ney7⟩
theorem pn_10 : plainName "java/lang/String" = true := by first | (simp [plainName, overriddenIn]; done) | decide +kernel
theorem d10_0 : decode jdk_42_method_3_code 0 = .ok (.aload_n 0, 1) := by decide +kernel
theorem d10_1 : decode jdk_42_method_3_code 1 = .ok (.aload_n 1, 1) := by decide +kernel
theorem d10_2 : decode jdk_42_method_3_code 2 = .ok (.iconst 0, 1) := by decide +kernel
theorem d10_3 : decode jdk_42_method_3_code 3 = .ok (.aload_n 1, 1) := by decide +kernel
theorem d10_4 : decode jdk_42_method_3_code 4 = .ok (.arraylength, 1) := by decide +kernel
theorem d10_5 : decode jdk_42_method_3_code 5 = .ok (.aconst_null, 1) := by decide +kernel
theorem d10_6 : decode jdk_42_method_3_code 6 = .ok (.invokespecial 27, 3) := by decide +kernel
theorem pd_7 : parseMethodDescriptor "([CIILjava/lang/Void;)V" = some ⟨[(.array .char), .int, .int, (.object "java/lang/Void")], none⟩ := by decide +kernel
theorem d10_9 : decode jdk_42_method_3_code 9 = .ok (.return_, 1) := by decide +kernel
theorem ef_rmsi1L (m : MethodId) (x0 : Addr) (x1 : Addr) : entryFrame m #[(.ref x0), (.ref x1)] 2 = mkF m 0 #[.val (.ref x0), .val (.ref x1)] [] := by first | (simp [entryFrame, mkF, argsToLocals, Value.category]; done) | rfl
abbrev R_rmsi1L : Room := ({ frames := 3, cells := 1, slots := 8, locals := 52 } : Room)
def Qsi1L (Z : State) (a1 a2 : Addr) (pn : Int32) (kc : ClassId) (xs : List Value) (wc : Int32) (h0 : Heap) (n0 : Nat) (v : Option Value) (h : Heap) (L : List Loc) : Prop := ∃ nb : Addr, ∃ kn : ClassId, v = none ∧ h0.size ≤ nb ∧ Fr n0 L ∧ Keep h0 h [a1] ∧ Fld Z h a1 q3 "coder" "B" (.int 0) ∧ Fld Z h a1 q3 "value" "[B" (.ref nb) ∧ Arv Z h nb kn .byte pn (own_app (List.replicate pn.toNatClampNeg (.int 0)) xs 0 pn.toNatClampNeg) (.int 0) ∧ a1 ≠ nb
set_option maxRecDepth 65536 in
set_option maxHeartbeats 40000000 in
theorem rmsi1L (l : Launch) (Z : State) (a0 : Array Value) (hw : ∀ d ∈ tables_1, d.before a0 Z = true) (ws : List Jvm.Cond) (a1 a2 : Addr) (pn : Int32) (kc : ClassId) (xs : List Value) (wc : Int32) (h0 : Heap) (n0 : Nat) (Z0 : n0 ≤ h0.size) (HE_a1 : Exa Z h0 a1 q3) (HF_a1_coder : Fld Z h0 a1 q3 "coder" "B" (.int 0)) (HF_a1_value : Fld Z h0 a1 q3 "value" "[B" .null) (HV_a2 : Arv Z h0 a2 kc .char pn xs (.int 0)) (HS_java_lang_String_COMPACT_STRINGS : Sta Z h0 q3 q7 "Z" (.int wc)) (g_a1 : n0 ≤ a1) (hn : 0 ≤ pn.toInt ∧ pn.toInt ≤ 8) (hc : own_chs xs) (hwc : ¬ wc = 0) (hn0 : ¬ pn = 0) (hlat : ∀ i, i < pn.toNatClampNeg → ¬ (255 : Int32) < own_gt xs i) (hn_a1_a2 : a1 ≠ a2) :
    Met1 l n10 jdk_42_method_3_code 2 none ws R_rmsi1L #[(.ref a1), (.ref a2)] Z h0 (Qsi1L Z a1 a2 pn kc xs wc h0 n0) := by
  refine Met1.enter (plainFor_of_name pn_10) (fun m => ef_rmsi1L m a1 a2) fun p e s m below meth c s₁ hx hby hlk hret hml hown hnm hZ X0 e0 => ?_
  have N0 := Fr.nil n0
  have K0 := Keep.refl h0 [a1]
  show Fin p e below s _ _ _ (s₁.setTop (mkF m 0 #[rv a1, rv a2] []))
  refine Fin.step (fun _ k => Yo.aloadN X0.here hx (hb hby d10_0) rfl rfl (Yo.aloadN X0.here hx (hb hby d10_1) rfl rfl (Yo.iconst X0.here hx (hb hby d10_2) (Yo.aloadN X0.here hx (hb hby d10_3) rfl rfl k)))) ?_
  have voy1 := HV_a2
  obtain ⟨cly1, Ary1, qay1, say1, nay1, hay1, gay1⟩ := voy1
  refine Fin.step (X0.arraylength hx (by rw [e0]; exact Ary1.1) (State.isArrayOf_alike hZ.alike Ary1.2.1) (g := (mkF m 4 #[rv a1, rv a2] [(.ref a2), (.int 0), (.ref a2), (.ref a1)])) rfl rfl (hb hby d10_4)) ?_
  rw [len_of say1 nay1]
  show Fin p e below s _ _ _ (s₁.setTop (mkF m 5 #[rv a1, rv a2] [(.int pn), (.int 0), (.ref a2), (.ref a1)]))
  refine Fin.step (fun _ k => Yo.aconstNull X0.here hx (hb hby d10_5) k) ?_
  obtain ⟨_, Ty2, Lcy2, Xy2, hQy2, sty2⟩ := pack (X0.specialBack hx (y := n11) rfl hown (mvT hZ (W_ hw 59)) (mvT hZ (W_ hw 60)) (mvT hZ (W_ hw 62)) (by decide) (backOf (W := 0) (rmsi2L l Z a0 hw [] a1 a2 pn kc xs wc h0 n0 Z0 HE_a1 HF_a1_coder HF_a1_value HV_a2 HS_java_lang_String_COMPACT_STRINGS g_a1 hn hc hwc hn0 hlat hn_a1_a2) hZ (W_ hw 62) (W_ hw 3) (by decide) (by decide)) (g := (mkF m 6 #[rv a1, rv a2] [.null, (.int pn), (.int 0), (.ref a2), (.ref a1)])) rfl (by rw [hml]; rfl) (Steps.refl _) (a := a1) (argsL := [(.ref a2), (.int 0), (.int pn), .null]) (rest := []) (lenOf pd_7 rfl) rfl (lb rfl) (hb hby d10_6) (fun _ _ => ⟨rfl, e0, (by decide : 0 + 1 ≤ _), (by decide : 0 + 8 ≤ _)⟩))
  obtain ⟨nb_y2, kn_y2, rfl, bfy2_0, Nqy2, Kcy2, fy2_0, fy2_1, fy2_2, ney2_0⟩ := hQy2
  have Ny2 := Fr.app N0 Nqy2
  have gzy2_0 : n0 ≤ nb_y2 := Nat.le_trans Z0 bfy2_0
  have szy2_0 : h0.size ≤ nb_y2 := Nat.le_trans K0.1 bfy2_0
  have Zy2 := Nat.le_trans Z0 Kcy2.1
  have Ky2 := K0.trans Kcy2 (allS m0 all0)
  refine Fin.step (sty2) ?_
  show Fin p e below s _ _ _ (Ty2.setTop (mkF m 9 #[rv a1, rv a2] []))
  refine Fin.retV Xy2 hx hret hlk (hb hby d10_9) (by decide) (by decide) ?_
  show Qsi1L Z a1 a2 pn kc xs wc h0 n0 _ Ty2.heap _
  exact ⟨nb_y2, kn_y2, rfl, szy2_0, Ny2, Ky2, fy2_0, fy2_1, fy2_2, ney2_0⟩
theorem ef_rmsi2U (m : MethodId) (x0 : Addr) (x1 : Addr) (x3 : Int32) : entryFrame m #[(.ref x0), (.ref x1), (.int (0 : Int32)), (.int x3), .null] 6 = mkF m 0 #[.val (.ref x0), .val (.ref x1), .val (.int (0 : Int32)), .val (.int x3), .val .null, .unset] [] := by first | (simp [entryFrame, mkF, argsToLocals, Value.category]; done) | rfl
abbrev R_rmsi2U : Room := ({ frames := 4, cells := 2, slots := 24, locals := 57 } : Room)
def Qsi2U (Z : State) (a1 a2 : Addr) (pn : Int32) (kc : ClassId) (xs : List Value) (wc pj pm : Int32) (h0 : Heap) (n0 : Nat) (v : Option Value) (h : Heap) (L : List Loc) : Prop := ∃ nb : Addr, ∃ kn : ClassId, ∃ lz : List Value, v = none ∧ h0.size ≤ nb ∧ Fr n0 L ∧ Keep h0 h [a1] ∧ Fld Z h a1 q3 "coder" "B" (.int 1) ∧ Fld Z h a1 q3 "value" "[B" (.ref nb) ∧ Arv Z h nb kn .byte pm lz (.int 0) ∧ a1 ≠ nb
set_option maxRecDepth 65536 in
set_option maxHeartbeats 40000000 in
theorem rmsi2U (l : Launch) (Z : State) (a0 : Array Value) (hw : ∀ d ∈ tables_1, d.before a0 Z = true) (ws : List Jvm.Cond) (a1 a2 : Addr) (pn : Int32) (kc : ClassId) (xs : List Value) (wc pj pm : Int32) (h0 : Heap) (n0 : Nat) (Z0 : n0 ≤ h0.size) (HE_a1 : Exa Z h0 a1 q3) (HF_a1_coder : Fld Z h0 a1 q3 "coder" "B" (.int 0)) (HF_a1_value : Fld Z h0 a1 q3 "value" "[B" .null) (HV_a2 : Arv Z h0 a2 kc .char pn xs (.int 0)) (HS_java_lang_String_COMPACT_STRINGS : Sta Z h0 q3 q7 "Z" (.int wc)) (HS_java_lang_StringUTF16__assertionsDisabled : Sta Z h0 q6 "$assertionsDisabled" "Z" (.int 1)) (HS_java_lang_StringUTF16_HI_BYTE_SHIFT : Sta Z h0 q6 "HI_BYTE_SHIFT" "I" (.int 0)) (HS_java_lang_StringUTF16_LO_BYTE_SHIFT : Sta Z h0 q6 "LO_BYTE_SHIFT" "I" (.int 8)) (g_a1 : n0 ≤ a1) (hn : 0 ≤ pn.toInt ∧ pn.toInt ≤ 8) (hc : own_chs xs) (hwc : ¬ wc = 0) (hn0 : ¬ pn = 0) (hm : pm = pn <<< ((1 : Int32) &&& 31)) (hj : 0 ≤ pj.toInt ∧ pj < pn) (hlat : ∀ i, i < pj.toNatClampNeg → ¬ (255 : Int32) < own_gt xs i) (hbig : (255 : Int32) < own_gt xs pj.toNatClampNeg) (hz : 0 ≤ (own_gt xs pj.toNatClampNeg).toInt ∧ (own_gt xs pj.toNatClampNeg).toInt ≤ 65535) (hn_a1_a2 : a1 ≠ a2) :
    Met1 l n11 jdk_42_method_149_code 6 none ws R_rmsi2U #[(.ref a1), (.ref a2), (.int 0), (.int pn), .null] Z h0 (Qsi2U Z a1 a2 pn kc xs wc pj pm h0 n0) := by
  refine Met1.enter (plainFor_of_name pn_11) (fun m => ef_rmsi2U m a1 a2 pn) fun p e s m below meth c s₁ hx hby hlk hret hml hown hnm hZ X0 e0 => ?_
  have N0 := Fr.nil n0
  have K0 := Keep.refl h0 [a1]
  show Fin p e below s _ _ _ (s₁.setTop (mkF m 0 #[rv a1, rv a2, iv 0, iv pn, .val .null, u_] []))
  refine Fin.step (fun _ k => Yo.aloadN X0.here hx (hb hby d11_0) rfl rfl k) ?_
  obtain ⟨Ty1, Xy1, ey1, sty1⟩ := initO X0 hx hZ hown (W_ hw 63) (W_ hw 64) (W_ hw 65) e0 (g := (mkF m 1 #[rv a1, rv a2, iv 0, iv pn, .val .null, u_] [(.ref a1)])) rfl (by rw [hml]; rfl) rfl (hb hby d11_1) (by decide) (W := 0) (by show 2 * 0 + _ ≤ _; exact Nat.le_of_eq rfl) (by decide)
  refine Fin.step (sty1) ?_
  show Fin p e below s _ _ _ (Ty1.setTop (mkF m 4 #[rv a1, rv a2, iv 0, iv pn, .val .null, u_] []))
  refine Fin.step (fun _ k => Yo.iloadN Xy1.here hx (hb hby d11_4) rfl (Yo.ifYes Xy1.here hx (pc0 := 5) (pc' := 27) rfl (hb hby d11_5) rfl ((if0 _ _).trans (feq (hn0 : ¬ (pn = (0 : Int32)))).2) (by decide) (by decide) k)) ?_
  obtain ⟨Ty2, Xy2, ey2, sty2⟩ := getS2 Xy1 hx hZ hown (host := "") (Or.inl (W_ hw 24)) Via.refl ey1 HS_java_lang_String_COMPACT_STRINGS (g := (mkF m 27 #[rv a1, rv a2, iv 0, iv pn, .val .null, u_] [])) rfl (hb hby d11_27)
  refine Fin.step (sty2) ?_
  show Fin p e below s _ _ _ (Ty2.setTop (mkF m 30 #[rv a1, rv a2, iv 0, iv pn, .val .null, u_] [(.int wc)]))
  refine Fin.step (fun _ k => Yo.ifNo Xy2.here hx (hb hby d11_30) rfl ((if0 _ _).trans (feq (hwc : ¬ (wc = (0 : Int32)))).1) (Yo.aloadN Xy2.here hx (hb hby d11_33) rfl rfl (Yo.iloadN Xy2.here hx (hb hby d11_34) rfl (Yo.iloadN Xy2.here hx (hb hby d11_35) rfl k)))) ?_
  obtain ⟨_, Ty3, Lcy3, Xy3, hQy3, sty3⟩ := packS (Jvm.LawKit.callS Xy2 hx (y := n13) hown (mvT hZ (W_ hw 66)) (mvT hZ (W_ hw 67)) (mvT hZ (W_ hw 68)) (mvT hZ (W_ hw 69)) (by decide) (backOf (W := 0) (rmcpU l Z a0 hw [] a2 pn kc xs pj pm h0 n0 Z0 HV_a2 HS_java_lang_StringUTF16__assertionsDisabled HS_java_lang_StringUTF16_HI_BYTE_SHIFT HS_java_lang_StringUTF16_LO_BYTE_SHIFT hn hc hm hj hlat hbig hz) hZ (W_ hw 69) (W_ hw 68) (by decide) (by decide)) (g := (mkF m 36 #[rv a1, rv a2, iv 0, iv pn, .val .null, u_] [(.int pn), (.int 0), (.ref a2)])) rfl (by rw [hml]; rfl) (argsL := [(.ref a2), (.int 0), (.int pn)]) (rest := []) (lenOf pd_4 rfl) rfl (lb rfl) (hb hby d11_36) (fun _ _ => ⟨rfl, ey2, (by decide : 0 + 2 ≤ _), (by decide : 0 + 24 ≤ _)⟩))
  obtain ⟨kn_y3, lz_y3, by3, rfl, bzy3, Nqy3, Kcy3, fy3_0⟩ := hQy3
  have Ny3 := Fr.app N0 Nqy3
  have gzy3 : n0 ≤ by3 := Nat.le_trans Z0 bzy3
  have szy3 : h0.size ≤ by3 := Nat.le_trans K0.1 bzy3
  have Zy3 := Nat.le_trans Z0 Kcy3.1
  have Ky3 := K0.trans Kcy3 all0
  refine Fin.step (sty3) ?_
  show Fin p e below s _ _ _ (Ty3.setTop (mkF m 39 #[rv a1, rv a2, iv 0, iv pn, .val .null, u_] [(.ref by3)]))
  refine Fin.step (fun _ k => Yo.astore Xy3.here hx (hb hby d11_39) rfl rfl (l' := #[rv a1, rv a2, iv 0, iv pn, .val .null, rv by3]) rfl (Yo.aloadN Xy3.here hx (hb hby d11_41) rfl rfl (Yo.aload Xy3.here hx (hb hby d11_42) rfl rfl (Yo.iloadN Xy3.here hx (hb hby d11_44) rfl k)))) ?_
  obtain ⟨_, Ty4, Lcy4, Xy4, hQy4, sty4⟩ := packS (Jvm.LawKit.callS Xy3 hx (y := n15) hown (mvT hZ (W_ hw 73)) (mvT hZ (W_ hw 74)) (mvT hZ (W_ hw 68)) (mvT hZ (W_ hw 75)) (by decide) (backOf (W := 1) (rmcd1 l Z a0 hw [] by3 pn kn_y3 lz_y3 pm Ty3.heap n0 Zy3 fy3_0 (own_1n hn hn0) (own_len2 hn hm).1) hZ (W_ hw 75) (W_ hw 68) (by decide) (by decide)) (g := (mkF m 45 #[rv a1, rv a2, iv 0, iv pn, .val .null, rv by3] [(.int pn), (.ref by3), (.ref a1)])) rfl (by rw [hml]; rfl) (argsL := [(.ref by3), (.int pn)]) (rest := [(.ref a1)]) (lenOf pd_6 rfl) rfl (lb rfl) (hb hby d11_45) (fun _ _ => ⟨rfl, rfl, (by decide : 2 + 0 ≤ _), (by decide : 24 + 0 ≤ _)⟩))
  obtain ⟨rfl, Nqy4, eqy4⟩ := hQy4
  have Ny4 := Fr.app Ny3 Nqy4
  refine Fin.step (sty4) ?_
  show Fin p e below s _ _ _ (Ty4.setTop (mkF m 48 #[rv a1, rv a2, iv 0, iv pn, .val .null, rv by3] [(.int 1), (.ref a1)]))
  obtain ⟨Ty5, hy5, Xy5, ey5, Wy5, sty5⟩ := putFN Xy4 hx hZ hown (W_ hw 25) Via.refl eqy4 (HF_a1_coder.keep Kcy3 nin0) (HE_a1.keep Kcy3) (Or.inr ⟨(W_ hw 7), rfl, hnm⟩) (W_ hw 4) (ty := .byte) (v' := (.int 1)) (by decide) rfl rfl (g := (mkF m 48 #[rv a1, rv a2, iv 0, iv pn, .val .null, rv by3] [(.int 1), (.ref a1)])) rfl rfl (hb hby d11_48)
  have Fwy5 : Fld Z hy5 a1 q3 "coder" "B" (.int 1) := (HF_a1_coder.keep Kcy3 nin0).same Wy5
  have Zy5 : n0 ≤ hy5.size := Nat.le_trans Zy3 (Keep.of_wr Wy5).1
  have Ky5 : Keep h0 hy5 [a1] := Ky3.wr Wy5 m0
  have Ny5 := Fr.snoc Xy5 Ny4 g_a1
  refine Fin.step (sty5) ?_
  show Fin p e below s _ _ _ (Ty5.setTop (mkF m 51 #[rv a1, rv a2, iv 0, iv pn, .val .null, rv by3] []))
  refine Fin.step (fun _ k => Yo.aloadN Xy5.here hx (hb hby d11_51) rfl rfl (Yo.aload Xy5.here hx (hb hby d11_52) rfl rfl k)) ?_
  obtain ⟨Ty6, hy6, Xy6, ey6, Wy6, sty6⟩ := putF Xy5 hx hZ hown (host := "") (Or.inl (W_ hw 18)) Via.refl ey5 ((HF_a1_value.keep Kcy3 nin0).other Wy5 (Or.inr (slot_ne (Or.inr (W_ hw 6)) (Or.inr (W_ hw 7)) (by decide) (t := (.array .byte)) (t' := .byte) (by decide) (by decide)))) ((HE_a1.keep Kcy3).wr Wy5) (Or.inr ⟨(W_ hw 6), rfl, hnm⟩) (W_ hw 4) (ty := (.array .byte)) (by decide) rfl rfl (g := (mkF m 54 #[rv a1, rv a2, iv 0, iv pn, .val .null, rv by3] [(.ref by3), (.ref a1)])) rfl rfl (hb hby d11_54)
  have Fwy6 : Fld Z hy6 a1 q3 "value" "[B" (.ref by3) := ((HF_a1_value.keep Kcy3 nin0).other Wy5 (Or.inr (slot_ne (Or.inr (W_ hw 6)) (Or.inr (W_ hw 7)) (by decide) (t := (.array .byte)) (t' := .byte) (by decide) (by decide)))).same Wy6
  have Zy6 : n0 ≤ hy6.size := Nat.le_trans Zy5 (Keep.of_wr Wy6).1
  have Ky6 : Keep h0 hy6 [a1] := Ky5.wr Wy6 m0
  have Ny6 := Fr.snoc Xy6 Ny5 g_a1
  refine Fin.step (sty6) ?_
  show Fin p e below s _ _ _ (Ty6.setTop (mkF m 57 #[rv a1, rv a2, iv 0, iv pn, .val .null, rv by3] []))
  refine Fin.retV Xy6 hx hret hlk (hb hby d11_57) (by decide) (by decide) ?_
  show Qsi2U Z a1 a2 pn kc xs wc pj pm h0 n0 _ Ty6.heap _
  rw [ey6]
  have ney7 := nlt HE_a1.lt szy3
  exact ⟨by3, kn_y3, lz_y3, rfl, szy3, Ny6, Ky6, (Fwy5.other Wy6 (Or.inr (slot_ne (Or.inr (W_ hw 7)) (Or.inr (W_ hw 6)) (by decide) (t := .byte) (t' := (.array .byte)) (by decide) (by decide)))), Fwy6, ((fy3_0.other Wy5 (Ne.symm ney7)).other Wy6 (Ne.symm ney7)), ney7⟩
theorem ef_rmsi1U (m : MethodId) (x0 : Addr) (x1 : Addr) : entryFrame m #[(.ref x0), (.ref x1)] 2 = mkF m 0 #[.val (.ref x0), .val (.ref x1)] [] := by first | (simp [entryFrame, mkF, argsToLocals, Value.category]; done) | rfl
abbrev R_rmsi1U : Room := ({ frames := 5, cells := 2, slots := 24, locals := 74 } : Room)
def Qsi1U (Z : State) (a1 a2 : Addr) (pn : Int32) (kc : ClassId) (xs : List Value) (wc pj pm : Int32) (h0 : Heap) (n0 : Nat) (v : Option Value) (h : Heap) (L : List Loc) : Prop := ∃ nb : Addr, ∃ kn : ClassId, ∃ lz : List Value, v = none ∧ h0.size ≤ nb ∧ Fr n0 L ∧ Keep h0 h [a1] ∧ Fld Z h a1 q3 "coder" "B" (.int 1) ∧ Fld Z h a1 q3 "value" "[B" (.ref nb) ∧ Arv Z h nb kn .byte pm lz (.int 0) ∧ a1 ≠ nb
set_option maxRecDepth 65536 in
set_option maxHeartbeats 40000000 in
theorem rmsi1U (l : Launch) (Z : State) (a0 : Array Value) (hw : ∀ d ∈ tables_1, d.before a0 Z = true) (ws : List Jvm.Cond) (a1 a2 : Addr) (pn : Int32) (kc : ClassId) (xs : List Value) (wc pj pm : Int32) (h0 : Heap) (n0 : Nat) (Z0 : n0 ≤ h0.size) (HE_a1 : Exa Z h0 a1 q3) (HF_a1_coder : Fld Z h0 a1 q3 "coder" "B" (.int 0)) (HF_a1_value : Fld Z h0 a1 q3 "value" "[B" .null) (HV_a2 : Arv Z h0 a2 kc .char pn xs (.int 0)) (HS_java_lang_String_COMPACT_STRINGS : Sta Z h0 q3 q7 "Z" (.int wc)) (HS_java_lang_StringUTF16__assertionsDisabled : Sta Z h0 q6 "$assertionsDisabled" "Z" (.int 1)) (HS_java_lang_StringUTF16_HI_BYTE_SHIFT : Sta Z h0 q6 "HI_BYTE_SHIFT" "I" (.int 0)) (HS_java_lang_StringUTF16_LO_BYTE_SHIFT : Sta Z h0 q6 "LO_BYTE_SHIFT" "I" (.int 8)) (g_a1 : n0 ≤ a1) (hn : 0 ≤ pn.toInt ∧ pn.toInt ≤ 8) (hc : own_chs xs) (hwc : ¬ wc = 0) (hn0 : ¬ pn = 0) (hm : pm = pn <<< ((1 : Int32) &&& 31)) (hj : 0 ≤ pj.toInt ∧ pj < pn) (hlat : ∀ i, i < pj.toNatClampNeg → ¬ (255 : Int32) < own_gt xs i) (hbig : (255 : Int32) < own_gt xs pj.toNatClampNeg) (hz : 0 ≤ (own_gt xs pj.toNatClampNeg).toInt ∧ (own_gt xs pj.toNatClampNeg).toInt ≤ 65535) (hn_a1_a2 : a1 ≠ a2) :
    Met1 l n10 jdk_42_method_3_code 2 none ws R_rmsi1U #[(.ref a1), (.ref a2)] Z h0 (Qsi1U Z a1 a2 pn kc xs wc pj pm h0 n0) := by
  refine Met1.enter (plainFor_of_name pn_10) (fun m => ef_rmsi1U m a1 a2) fun p e s m below meth c s₁ hx hby hlk hret hml hown hnm hZ X0 e0 => ?_
  have N0 := Fr.nil n0
  have K0 := Keep.refl h0 [a1]
  show Fin p e below s _ _ _ (s₁.setTop (mkF m 0 #[rv a1, rv a2] []))
  refine Fin.step (fun _ k => Yo.aloadN X0.here hx (hb hby d10_0) rfl rfl (Yo.aloadN X0.here hx (hb hby d10_1) rfl rfl (Yo.iconst X0.here hx (hb hby d10_2) (Yo.aloadN X0.here hx (hb hby d10_3) rfl rfl k)))) ?_
  have voy1 := HV_a2
  obtain ⟨cly1, Ary1, qay1, say1, nay1, hay1, gay1⟩ := voy1
  refine Fin.step (X0.arraylength hx (by rw [e0]; exact Ary1.1) (State.isArrayOf_alike hZ.alike Ary1.2.1) (g := (mkF m 4 #[rv a1, rv a2] [(.ref a2), (.int 0), (.ref a2), (.ref a1)])) rfl rfl (hb hby d10_4)) ?_
  rw [len_of say1 nay1]
  show Fin p e below s _ _ _ (s₁.setTop (mkF m 5 #[rv a1, rv a2] [(.int pn), (.int 0), (.ref a2), (.ref a1)]))
  refine Fin.step (fun _ k => Yo.aconstNull X0.here hx (hb hby d10_5) k) ?_
  obtain ⟨_, Ty2, Lcy2, Xy2, hQy2, sty2⟩ := pack (X0.specialBack hx (y := n11) rfl hown (mvT hZ (W_ hw 59)) (mvT hZ (W_ hw 60)) (mvT hZ (W_ hw 62)) (by decide) (backOf (W := 0) (rmsi2U l Z a0 hw [] a1 a2 pn kc xs wc pj pm h0 n0 Z0 HE_a1 HF_a1_coder HF_a1_value HV_a2 HS_java_lang_String_COMPACT_STRINGS HS_java_lang_StringUTF16__assertionsDisabled HS_java_lang_StringUTF16_HI_BYTE_SHIFT HS_java_lang_StringUTF16_LO_BYTE_SHIFT g_a1 hn hc hwc hn0 hm hj hlat hbig hz hn_a1_a2) hZ (W_ hw 62) (W_ hw 3) (by decide) (by decide)) (g := (mkF m 6 #[rv a1, rv a2] [.null, (.int pn), (.int 0), (.ref a2), (.ref a1)])) rfl (by rw [hml]; rfl) (Steps.refl _) (a := a1) (argsL := [(.ref a2), (.int 0), (.int pn), .null]) (rest := []) (lenOf pd_7 rfl) rfl (lb rfl) (hb hby d10_6) (fun _ _ => ⟨rfl, e0, (by decide : 0 + 2 ≤ _), (by decide : 0 + 24 ≤ _)⟩))
  obtain ⟨nb_y2, kn_y2, lz_y2, rfl, bfy2_0, Nqy2, Kcy2, fy2_0, fy2_1, fy2_2, ney2_0⟩ := hQy2
  have Ny2 := Fr.app N0 Nqy2
  have gzy2_0 : n0 ≤ nb_y2 := Nat.le_trans Z0 bfy2_0
  have szy2_0 : h0.size ≤ nb_y2 := Nat.le_trans K0.1 bfy2_0
  have Zy2 := Nat.le_trans Z0 Kcy2.1
  have Ky2 := K0.trans Kcy2 (allS m0 all0)
  refine Fin.step (sty2) ?_
  show Fin p e below s _ _ _ (Ty2.setTop (mkF m 9 #[rv a1, rv a2] []))
  refine Fin.retV Xy2 hx hret hlk (hb hby d10_9) (by decide) (by decide) ?_
  show Qsi1U Z a1 a2 pn kc xs wc pj pm h0 n0 _ Ty2.heap _
  exact ⟨nb_y2, kn_y2, lz_y2, rfl, szy2_0, Ny2, Ky2, fy2_0, fy2_1, fy2_2, ney2_0⟩
theorem pn_9 : plainName "com/example/model_for_reads/modelforreads/model/FieldTypeFromModelNamePinLaw" = true := by first | (simp [plainName, overriddenIn]; done) | decide +kernel
theorem d9_0 : decode method_4_code 0 = .ok (.iload_n 1, 1) := by decide +kernel
theorem d9_1 : decode method_4_code 1 = .ok (.ifCond .ne 14, 3) := by decide +kernel
theorem d9_15 : decode method_4_code 15 = .ok (.iload_n 1, 1) := by decide +kernel
theorem d9_16 : decode method_4_code 16 = .ok (.iconst 1, 1) := by decide +kernel
theorem d9_17 : decode method_4_code 17 = .ok (.if_icmp .ne 20, 3) := by decide +kernel
theorem d9_20 : decode method_4_code 20 = .ok (.new 8, 3) := by decide +kernel
theorem d9_23 : decode method_4_code 23 = .ok (.dup, 1) := by decide +kernel
theorem d9_24 : decode method_4_code 24 = .ok (.iconst 1, 1) := by decide +kernel
theorem d9_25 : decode method_4_code 25 = .ok (.newarray .char, 2) := by decide +kernel
theorem d9_27 : decode method_4_code 27 = .ok (.dup, 1) := by decide +kernel
theorem d9_28 : decode method_4_code 28 = .ok (.iconst 0, 1) := by decide +kernel
theorem d9_29 : decode method_4_code 29 = .ok (.aload_n 0, 1) := by decide +kernel
theorem d9_30 : decode method_4_code 30 = .ok (.iconst 0, 1) := by decide +kernel
theorem d9_31 : decode method_4_code 31 = .ok (.caload, 1) := by decide +kernel
theorem d9_32 : decode method_4_code 32 = .ok (.castore, 1) := by decide +kernel
theorem d9_33 : decode method_4_code 33 = .ok (.invokespecial 19, 3) := by decide +kernel
theorem pd_8 : parseMethodDescriptor "([C)V" = some ⟨[(.array .char)], none⟩ := by decide +kernel
theorem d9_36 : decode method_4_code 36 = .ok (.areturn, 1) := by decide +kernel
theorem ef_rmstL1 (m : MethodId) (x0 : Addr) : entryFrame m #[(.ref x0), (.int (1 : Int32))] 2 = mkF m 0 #[.val (.ref x0), .val (.int (1 : Int32))] [] := by first | (simp [entryFrame, mkF, argsToLocals, Value.category]; done) | rfl
abbrev R_rmstL1 : Room := ({ frames := 6, cells := 8, slots := 64, locals := 120 } : Room)
def QstL1 (Z : State) (a1 : Addr) (ka : ClassId) (asl : List Value) (wc : Int32) (h0 : Heap) (n0 : Nat) (v : Option Value) (h : Heap) (L : List Loc) : Prop := ∃ nb : Addr, ∃ kn : ClassId, ∃ so : Addr, v = some (.ref so) ∧ h0.size ≤ so ∧ h0.size ≤ nb ∧ Fr n0 L ∧ Keep h0 h [] ∧ Exa Z h so q3 ∧ Fld Z h so q3 "coder" "B" (.int 0) ∧ Fld Z h so q3 "value" "[B" (.ref nb) ∧ Arv Z h nb kn .byte (1 : Int32) (own_app (List.replicate (1 : Int32).toNatClampNeg (.int 0)) (own_tk asl 1) 0 ((1 : Int32)).toNatClampNeg) (.int 0) ∧ so ≠ nb
set_option maxRecDepth 65536 in
set_option maxHeartbeats 40000000 in
theorem rmstL1 (l : Launch) (Z : State) (a0 : Array Value) (hw : ∀ d ∈ tables_1, d.before a0 Z = true) (ws : List Jvm.Cond) (a1 : Addr) (ka : ClassId) (asl : List Value) (wc : Int32) (h0 : Heap) (n0 : Nat) (Z0 : n0 ≤ h0.size) (HV_a1 : Arv Z h0 a1 ka .char (8 : Int32) asl (.int 0)) (HS_java_lang_String_COMPACT_STRINGS : Sta Z h0 q3 q7 "Z" (.int wc)) (hca : own_chs asl) (hwc : ¬ wc = 0) (hlat : ∀ i, i < (1 : Int32).toNatClampNeg → ¬ (255 : Int32) < own_gt (own_tk asl 1) i) :
    Met1 l n9 method_4_code 2 (some (.object "java/lang/String")) ws R_rmstL1 #[(.ref a1), (.int 1)] Z h0 (QstL1 Z a1 ka asl wc h0 n0) := by
  refine Met1.enter (plainFor_of_name pn_9) (fun m => ef_rmstL1 m a1) fun p e s m below meth c s₁ hx hby hlk hret hml hown hnm hZ X0 e0 => ?_
  have N0 := Fr.nil n0
  have K0 : Keep h0 h0 [] := Keep.refl h0 _
  show Fin p e below s _ _ _ (s₁.setTop (mkF m 0 #[rv a1, iv 1] []))
  refine Fin.step (fun _ k => Yo.iloadN X0.here hx (hb hby d9_0) rfl (Yo.ifYes X0.here hx (pc0 := 1) (pc' := 15) rfl (hb hby d9_1) rfl ((if0 _ _).trans (feq ((by decide) : ¬ ((1 : Int32) = (0 : Int32)))).2) (by decide) (by decide) (Yo.iloadN X0.here hx (hb hby d9_15) rfl (Yo.iconst X0.here hx (hb hby d9_16) (Yo.icmpNo X0.here hx (hb hby d9_17) rfl (teq ((by decide) : ((1 : Int32) = (1 : Int32)))).2 k))))) ?_
  obtain ⟨Ty1, hy1, Xy1, ey1, Ey1, Ay1, Dy1, -, sty1⟩ := newO X0 hx hZ hown (W_ hw 55) (W_ hw 4) (W_ hw 3) e0 (g := (mkF m 20 #[rv a1, iv 1] [])) rfl (hb hby d9_20) (by decide) (by decide)
  obtain ⟨by1, gy1⟩ : ∃ z, z = h0.size := ⟨_, rfl⟩
  rw [← gy1] at Ay1 Dy1 sty1
  have gzy1 : n0 ≤ by1 := Nat.le_trans Z0 (Nat.le_of_eq gy1.symm)
  have szy1 : h0.size ≤ by1 := Nat.le_trans K0.1 (Nat.le_of_eq gy1.symm)
  have Zy1 := Nat.le_trans Z0 Ey1.1
  have Ky1 := K0.ext Ey1
  have F_value_by1 : Fld Z hy1 by1 q3 "value" "[B" .null := Dy1 (Or.inr (W_ hw 6)) (ty := (.array .byte)) (by decide)
  have F_coder_by1 : Fld Z hy1 by1 q3 "coder" "B" (.int 0) := Dy1 (Or.inr (W_ hw 7)) (ty := .byte) (by decide)
  refine Fin.step (sty1) ?_
  show Fin p e below s _ _ _ (Ty1.setTop (mkF m 23 #[rv a1, iv 1] [(.ref by1)]))
  refine Fin.step (fun _ k => Yo.dup Xy1.here hx (hb hby d9_23) rfl rfl (Yo.iconst Xy1.here hx (hb hby d9_24) k)) ?_
  obtain ⟨Ty2, hy2, ky2, Xy2, ey2, Ey2, Ay2, sty2⟩ := newP Xy1 hx hZ (W_ hw 1) ey1 (g := (mkF m 25 #[rv a1, iv 1] [(.int 1), (.ref by1), (.ref by1)])) rfl (hb hby d9_25) rfl (by decide) (cap := 1) (by decide) (by decide) (by decide) (by decide)
  obtain ⟨by2, gy2⟩ : ∃ z, z = hy1.size := ⟨_, rfl⟩
  rw [← gy2] at Ay2 sty2
  have gzy2 : n0 ≤ by2 := Nat.le_trans Zy1 (Nat.le_of_eq gy2.symm)
  have szy2 : h0.size ≤ by2 := Nat.le_trans Ky1.1 (Nat.le_of_eq gy2.symm)
  have Zy2 := Nat.le_trans Zy1 Ey2.1
  have Ky2 := Ky1.ext Ey2
  have Vy2 : Arv Z hy2 by2 ky2 .char (1 : Int32) [(.int 0)] (.int 0) := (Arv.new Ay2 (by decide)).pad (pad_rep [] (.int 0) 1)
  refine Fin.step (sty2) ?_
  show Fin p e below s _ _ _ (Ty2.setTop (mkF m 27 #[rv a1, iv 1] [(.ref by2), (.ref by1), (.ref by1)]))
  refine Fin.step (fun _ k => Yo.dup Xy2.here hx (hb hby d9_27) rfl rfl (Yo.iconst Xy2.here hx (hb hby d9_28) (Yo.aloadN Xy2.here hx (hb hby d9_29) rfl rfl (Yo.iconst Xy2.here hx (hb hby d9_30) (cld3 Xy2 hx hZ ey2 (j := 0) (v := (.int (own_gt asl 0))) (HV_a1.keep Ky2 nin0) ⟨by decide, by decide⟩ (own_lg hca 0) (hb hby d9_31) k))))) ?_
  obtain ⟨Ty4, hy4, Xy4, ey4, Wy4, Vy4, Ny4, Zy4, Ky4, sty4⟩ := cst3 Xy2 hx hZ ey2 (j := 0) (x := (own_gt asl 0)) (ix := 0) Vy2 ⟨by decide, by decide⟩ rfl (lb rfl) N0 Zy2 Ky2 gzy2 (Or.inr szy2) (hb hby d9_32)
  refine Fin.step (sty4) ?_
  have ney5 := nlt Ay1.lt (Nat.le_of_eq gy2.symm)
  have ry6 := ((F_coder_by1.ext Ey2).other Wy4 (Or.inl ney5))
  have ry7 := ((F_value_by1.ext Ey2).other Wy4 (Or.inl ney5))
  have ry8 := (Sta_keep HS_java_lang_String_COMPACT_STRINGS Ky4)
  obtain ⟨_, Ty9, Lcy9, Xy9, hQy9, sty9⟩ := pack (Xy4.specialBack hx (y := n10) rfl hown (mvT hZ (W_ hw 56)) (mvT hZ (W_ hw 57)) (mvT hZ (W_ hw 58)) (by decide) (backOf (W := 1) (rmsi1L l Z a0 hw [] by1 by2 1 ky2 _ wc hy4 n0 Zy4 ((Ay1.ext Ey2).wr Wy4) ry6 ry7 Vy4 ry8 gzy1 (by decide) (own_tkc asl 1) hwc (by decide) hlat ney5) hZ (W_ hw 58) (W_ hw 3) (by decide) (by decide)) (g := (mkF m 33 #[rv a1, iv 1] [(.ref by2), (.ref by1), (.ref by1)])) rfl (by rw [hml]; rfl) (Steps.refl _) (a := by1) (argsL := [(.ref by2)]) (rest := [(.ref by1)]) (lenOf pd_8 rfl) rfl (lb rfl) (hb hby d9_33) (fun _ _ => ⟨rfl, ey4, (by decide : 2 + 1 ≤ _), (by decide : 5 + 8 ≤ _)⟩))
  obtain ⟨nb_y9, kn_y9, rfl, bfy9_0, Nqy9, Kcy9, fy9_0, fy9_1, fy9_2, ney9_0⟩ := hQy9
  have Ny9 := Fr.app Ny4 Nqy9
  have gzy9_0 : n0 ≤ nb_y9 := Nat.le_trans Zy4 bfy9_0
  have szy9_0 : h0.size ≤ nb_y9 := Nat.le_trans Ky4.1 bfy9_0
  have Zy9 := Nat.le_trans Zy4 Kcy9.1
  have Ky9 := Ky4.trans Kcy9 (allS (Or.inr szy1) all0)
  refine Fin.step (sty9) ?_
  show Fin p e below s _ _ _ (Ty9.setTop (mkF m 36 #[rv a1, iv 1] [(.ref by1)]))
  refine Fin.retR Xy9 hx hret rfl rfl hlk (hb hby d9_36) (by decide) (by decide) ?_
  show QstL1 Z a1 ka asl wc h0 n0 _ Ty9.heap _
  exact ⟨nb_y9, kn_y9, by1, rfl, szy1, szy9_0, Ny9, Ky9, (((Ay1.ext Ey2).wr Wy4).keep Kcy9), fy9_0, fy9_1, fy9_2, ney9_0⟩
theorem d9_37 : decode method_4_code 37 = .ok (.iload_n 1, 1) := by decide +kernel
theorem d9_38 : decode method_4_code 38 = .ok (.iconst 2, 1) := by decide +kernel
theorem d9_39 : decode method_4_code 39 = .ok (.if_icmp .ne 26, 3) := by decide +kernel
theorem d9_42 : decode method_4_code 42 = .ok (.new 8, 3) := by decide +kernel
theorem d9_45 : decode method_4_code 45 = .ok (.dup, 1) := by decide +kernel
theorem d9_46 : decode method_4_code 46 = .ok (.iconst 2, 1) := by decide +kernel
theorem d9_47 : decode method_4_code 47 = .ok (.newarray .char, 2) := by decide +kernel
theorem d9_49 : decode method_4_code 49 = .ok (.dup, 1) := by decide +kernel
theorem d9_50 : decode method_4_code 50 = .ok (.iconst 0, 1) := by decide +kernel
theorem d9_51 : decode method_4_code 51 = .ok (.aload_n 0, 1) := by decide +kernel
theorem d9_52 : decode method_4_code 52 = .ok (.iconst 0, 1) := by decide +kernel
theorem d9_53 : decode method_4_code 53 = .ok (.caload, 1) := by decide +kernel
theorem d9_54 : decode method_4_code 54 = .ok (.castore, 1) := by decide +kernel
theorem d9_55 : decode method_4_code 55 = .ok (.dup, 1) := by decide +kernel
theorem d9_56 : decode method_4_code 56 = .ok (.iconst 1, 1) := by decide +kernel
theorem d9_57 : decode method_4_code 57 = .ok (.aload_n 0, 1) := by decide +kernel
theorem d9_58 : decode method_4_code 58 = .ok (.iconst 1, 1) := by decide +kernel
theorem d9_59 : decode method_4_code 59 = .ok (.caload, 1) := by decide +kernel
theorem d9_60 : decode method_4_code 60 = .ok (.castore, 1) := by decide +kernel
theorem d9_61 : decode method_4_code 61 = .ok (.invokespecial 19, 3) := by decide +kernel
theorem d9_64 : decode method_4_code 64 = .ok (.areturn, 1) := by decide +kernel
theorem ef_rmstL2 (m : MethodId) (x0 : Addr) : entryFrame m #[(.ref x0), (.int (2 : Int32))] 2 = mkF m 0 #[.val (.ref x0), .val (.int (2 : Int32))] [] := by first | (simp [entryFrame, mkF, argsToLocals, Value.category]; done) | rfl
abbrev R_rmstL2 : Room := ({ frames := 6, cells := 8, slots := 64, locals := 120 } : Room)
def QstL2 (Z : State) (a1 : Addr) (ka : ClassId) (asl : List Value) (wc : Int32) (h0 : Heap) (n0 : Nat) (v : Option Value) (h : Heap) (L : List Loc) : Prop := ∃ nb : Addr, ∃ kn : ClassId, ∃ so : Addr, v = some (.ref so) ∧ h0.size ≤ so ∧ h0.size ≤ nb ∧ Fr n0 L ∧ Keep h0 h [] ∧ Exa Z h so q3 ∧ Fld Z h so q3 "coder" "B" (.int 0) ∧ Fld Z h so q3 "value" "[B" (.ref nb) ∧ Arv Z h nb kn .byte (2 : Int32) (own_app (List.replicate (2 : Int32).toNatClampNeg (.int 0)) (own_tk asl 2) 0 ((2 : Int32)).toNatClampNeg) (.int 0) ∧ so ≠ nb
set_option maxRecDepth 65536 in
set_option maxHeartbeats 40000000 in
theorem rmstL2 (l : Launch) (Z : State) (a0 : Array Value) (hw : ∀ d ∈ tables_1, d.before a0 Z = true) (ws : List Jvm.Cond) (a1 : Addr) (ka : ClassId) (asl : List Value) (wc : Int32) (h0 : Heap) (n0 : Nat) (Z0 : n0 ≤ h0.size) (HV_a1 : Arv Z h0 a1 ka .char (8 : Int32) asl (.int 0)) (HS_java_lang_String_COMPACT_STRINGS : Sta Z h0 q3 q7 "Z" (.int wc)) (hca : own_chs asl) (hwc : ¬ wc = 0) (hlat : ∀ i, i < (2 : Int32).toNatClampNeg → ¬ (255 : Int32) < own_gt (own_tk asl 2) i) :
    Met1 l n9 method_4_code 2 (some (.object "java/lang/String")) ws R_rmstL2 #[(.ref a1), (.int 2)] Z h0 (QstL2 Z a1 ka asl wc h0 n0) := by
  refine Met1.enter (plainFor_of_name pn_9) (fun m => ef_rmstL2 m a1) fun p e s m below meth c s₁ hx hby hlk hret hml hown hnm hZ X0 e0 => ?_
  have N0 := Fr.nil n0
  have K0 : Keep h0 h0 [] := Keep.refl h0 _
  show Fin p e below s _ _ _ (s₁.setTop (mkF m 0 #[rv a1, iv 2] []))
  refine Fin.step (fun _ k => Yo.iloadN X0.here hx (hb hby d9_0) rfl (Yo.ifYes X0.here hx (pc0 := 1) (pc' := 15) rfl (hb hby d9_1) rfl ((if0 _ _).trans (feq ((by decide) : ¬ ((2 : Int32) = (0 : Int32)))).2) (by decide) (by decide) (Yo.iloadN X0.here hx (hb hby d9_15) rfl (Yo.iconst X0.here hx (hb hby d9_16) (Yo.icmpYes X0.here hx (pc0 := 17) (pc' := 37) rfl (hb hby d9_17) rfl (feq ((by decide) : ¬ ((2 : Int32) = (1 : Int32)))).2 (by decide) (by decide) (Yo.iloadN X0.here hx (hb hby d9_37) rfl (Yo.iconst X0.here hx (hb hby d9_38) (Yo.icmpNo X0.here hx (hb hby d9_39) rfl (teq ((by decide) : ((2 : Int32) = (2 : Int32)))).2 k)))))))) ?_
  obtain ⟨Ty1, hy1, Xy1, ey1, Ey1, Ay1, Dy1, -, sty1⟩ := newO X0 hx hZ hown (W_ hw 55) (W_ hw 4) (W_ hw 3) e0 (g := (mkF m 42 #[rv a1, iv 2] [])) rfl (hb hby d9_42) (by decide) (by decide)
  obtain ⟨by1, gy1⟩ : ∃ z, z = h0.size := ⟨_, rfl⟩
  rw [← gy1] at Ay1 Dy1 sty1
  have gzy1 : n0 ≤ by1 := Nat.le_trans Z0 (Nat.le_of_eq gy1.symm)
  have szy1 : h0.size ≤ by1 := Nat.le_trans K0.1 (Nat.le_of_eq gy1.symm)
  have Zy1 := Nat.le_trans Z0 Ey1.1
  have Ky1 := K0.ext Ey1
  have F_value_by1 : Fld Z hy1 by1 q3 "value" "[B" .null := Dy1 (Or.inr (W_ hw 6)) (ty := (.array .byte)) (by decide)
  have F_coder_by1 : Fld Z hy1 by1 q3 "coder" "B" (.int 0) := Dy1 (Or.inr (W_ hw 7)) (ty := .byte) (by decide)
  refine Fin.step (sty1) ?_
  show Fin p e below s _ _ _ (Ty1.setTop (mkF m 45 #[rv a1, iv 2] [(.ref by1)]))
  refine Fin.step (fun _ k => Yo.dup Xy1.here hx (hb hby d9_45) rfl rfl (Yo.iconst Xy1.here hx (hb hby d9_46) k)) ?_
  obtain ⟨Ty2, hy2, ky2, Xy2, ey2, Ey2, Ay2, sty2⟩ := newP Xy1 hx hZ (W_ hw 1) ey1 (g := (mkF m 47 #[rv a1, iv 2] [(.int 2), (.ref by1), (.ref by1)])) rfl (hb hby d9_47) rfl (by decide) (cap := 2) (by decide) (by decide) (by decide) (by decide)
  obtain ⟨by2, gy2⟩ : ∃ z, z = hy1.size := ⟨_, rfl⟩
  rw [← gy2] at Ay2 sty2
  have gzy2 : n0 ≤ by2 := Nat.le_trans Zy1 (Nat.le_of_eq gy2.symm)
  have szy2 : h0.size ≤ by2 := Nat.le_trans Ky1.1 (Nat.le_of_eq gy2.symm)
  have Zy2 := Nat.le_trans Zy1 Ey2.1
  have Ky2 := Ky1.ext Ey2
  have Vy2 : Arv Z hy2 by2 ky2 .char (2 : Int32) [(.int 0), (.int 0)] (.int 0) := (Arv.new Ay2 (by decide)).pad (pad_rep [] (.int 0) 2)
  refine Fin.step (sty2) ?_
  show Fin p e below s _ _ _ (Ty2.setTop (mkF m 49 #[rv a1, iv 2] [(.ref by2), (.ref by1), (.ref by1)]))
  refine Fin.step (fun _ k => Yo.dup Xy2.here hx (hb hby d9_49) rfl rfl (Yo.iconst Xy2.here hx (hb hby d9_50) (Yo.aloadN Xy2.here hx (hb hby d9_51) rfl rfl (Yo.iconst Xy2.here hx (hb hby d9_52) (cld3 Xy2 hx hZ ey2 (j := 0) (v := (.int (own_gt asl 0))) (HV_a1.keep Ky2 nin0) ⟨by decide, by decide⟩ (own_lg hca 0) (hb hby d9_53) k))))) ?_
  obtain ⟨Ty4, hy4, Xy4, ey4, Wy4, Vy4, Ny4, Zy4, Ky4, sty4⟩ := cst3 Xy2 hx hZ ey2 (j := 0) (x := (own_gt asl 0)) (ix := 0) Vy2 ⟨by decide, by decide⟩ rfl (lb rfl) N0 Zy2 Ky2 gzy2 (Or.inr szy2) (hb hby d9_54)
  refine Fin.step (sty4) ?_
  refine Fin.step (fun _ k => Yo.dup Xy4.here hx (hb hby d9_55) rfl rfl (Yo.iconst Xy4.here hx (hb hby d9_56) (Yo.aloadN Xy4.here hx (hb hby d9_57) rfl rfl (Yo.iconst Xy4.here hx (hb hby d9_58) (cld3 Xy4 hx hZ ey4 (j := 1) (v := (.int (own_gt asl 1))) (HV_a1.keep Ky4 nin0) ⟨by decide, by decide⟩ (own_lg hca 1) (hb hby d9_59) k))))) ?_
  obtain ⟨Ty6, hy6, Xy6, ey6, Wy6, Vy6, Ny6, Zy6, Ky6, sty6⟩ := cst3 Xy4 hx hZ ey4 (j := 1) (x := (own_gt asl 1)) (ix := 1) Vy4 ⟨by decide, by decide⟩ rfl (lb rfl) Ny4 Zy4 Ky4 gzy2 (Or.inr szy2) (hb hby d9_60)
  refine Fin.step (sty6) ?_
  have ry7 := (((Ay1.ext Ey2).wr Wy4).wr Wy6)
  have ney8 := nlt Ay1.lt (Nat.le_of_eq gy2.symm)
  have ry9 := (((F_coder_by1.ext Ey2).other Wy4 (Or.inl ney8)).other Wy6 (Or.inl ney8))
  have ry10 := (((F_value_by1.ext Ey2).other Wy4 (Or.inl ney8)).other Wy6 (Or.inl ney8))
  have ry11 := (Sta_keep HS_java_lang_String_COMPACT_STRINGS Ky6)
  obtain ⟨_, Ty12, Lcy12, Xy12, hQy12, sty12⟩ := pack (Xy6.specialBack hx (y := n10) rfl hown (mvT hZ (W_ hw 56)) (mvT hZ (W_ hw 57)) (mvT hZ (W_ hw 58)) (by decide) (backOf (W := 1) (rmsi1L l Z a0 hw [] by1 by2 2 ky2 _ wc hy6 n0 Zy6 ry7 ry9 ry10 Vy6 ry11 gzy1 (by decide) (own_tkc asl 2) hwc (by decide) hlat ney8) hZ (W_ hw 58) (W_ hw 3) (by decide) (by decide)) (g := (mkF m 61 #[rv a1, iv 2] [(.ref by2), (.ref by1), (.ref by1)])) rfl (by rw [hml]; rfl) (Steps.refl _) (a := by1) (argsL := [(.ref by2)]) (rest := [(.ref by1)]) (lenOf pd_8 rfl) rfl (lb rfl) (hb hby d9_61) (fun _ _ => ⟨rfl, ey6, (by decide : 2 + 1 ≤ _), (by decide : 6 + 8 ≤ _)⟩))
  obtain ⟨nb_y12, kn_y12, rfl, bfy12_0, Nqy12, Kcy12, fy12_0, fy12_1, fy12_2, ney12_0⟩ := hQy12
  have Ny12 := Fr.app Ny6 Nqy12
  have gzy12_0 : n0 ≤ nb_y12 := Nat.le_trans Zy6 bfy12_0
  have szy12_0 : h0.size ≤ nb_y12 := Nat.le_trans Ky6.1 bfy12_0
  have Zy12 := Nat.le_trans Zy6 Kcy12.1
  have Ky12 := Ky6.trans Kcy12 (allS (Or.inr szy1) all0)
  refine Fin.step (sty12) ?_
  show Fin p e below s _ _ _ (Ty12.setTop (mkF m 64 #[rv a1, iv 2] [(.ref by1)]))
  refine Fin.retR Xy12 hx hret rfl rfl hlk (hb hby d9_64) (by decide) (by decide) ?_
  show QstL2 Z a1 ka asl wc h0 n0 _ Ty12.heap _
  exact ⟨nb_y12, kn_y12, by1, rfl, szy1, szy12_0, Ny12, Ky12, (ry7.keep Kcy12), fy12_0, fy12_1, fy12_2, ney12_0⟩
theorem d9_65 : decode method_4_code 65 = .ok (.iload_n 1, 1) := by decide +kernel
theorem d9_66 : decode method_4_code 66 = .ok (.iconst 3, 1) := by decide +kernel
theorem d9_67 : decode method_4_code 67 = .ok (.if_icmp .ne 32, 3) := by decide +kernel
theorem d9_70 : decode method_4_code 70 = .ok (.new 8, 3) := by decide +kernel
theorem d9_73 : decode method_4_code 73 = .ok (.dup, 1) := by decide +kernel
theorem d9_74 : decode method_4_code 74 = .ok (.iconst 3, 1) := by decide +kernel
theorem d9_75 : decode method_4_code 75 = .ok (.newarray .char, 2) := by decide +kernel
theorem d9_77 : decode method_4_code 77 = .ok (.dup, 1) := by decide +kernel
theorem d9_78 : decode method_4_code 78 = .ok (.iconst 0, 1) := by decide +kernel
theorem d9_79 : decode method_4_code 79 = .ok (.aload_n 0, 1) := by decide +kernel
theorem d9_80 : decode method_4_code 80 = .ok (.iconst 0, 1) := by decide +kernel
theorem d9_81 : decode method_4_code 81 = .ok (.caload, 1) := by decide +kernel
theorem d9_82 : decode method_4_code 82 = .ok (.castore, 1) := by decide +kernel
theorem d9_83 : decode method_4_code 83 = .ok (.dup, 1) := by decide +kernel
theorem d9_84 : decode method_4_code 84 = .ok (.iconst 1, 1) := by decide +kernel
theorem d9_85 : decode method_4_code 85 = .ok (.aload_n 0, 1) := by decide +kernel
theorem d9_86 : decode method_4_code 86 = .ok (.iconst 1, 1) := by decide +kernel
theorem d9_87 : decode method_4_code 87 = .ok (.caload, 1) := by decide +kernel
theorem d9_88 : decode method_4_code 88 = .ok (.castore, 1) := by decide +kernel
theorem d9_89 : decode method_4_code 89 = .ok (.dup, 1) := by decide +kernel
theorem d9_90 : decode method_4_code 90 = .ok (.iconst 2, 1) := by decide +kernel
theorem d9_91 : decode method_4_code 91 = .ok (.aload_n 0, 1) := by decide +kernel
theorem d9_92 : decode method_4_code 92 = .ok (.iconst 2, 1) := by decide +kernel
theorem d9_93 : decode method_4_code 93 = .ok (.caload, 1) := by decide +kernel
theorem d9_94 : decode method_4_code 94 = .ok (.castore, 1) := by decide +kernel
theorem d9_95 : decode method_4_code 95 = .ok (.invokespecial 19, 3) := by decide +kernel
theorem d9_98 : decode method_4_code 98 = .ok (.areturn, 1) := by decide +kernel
theorem ef_rmstL3 (m : MethodId) (x0 : Addr) : entryFrame m #[(.ref x0), (.int (3 : Int32))] 2 = mkF m 0 #[.val (.ref x0), .val (.int (3 : Int32))] [] := by first | (simp [entryFrame, mkF, argsToLocals, Value.category]; done) | rfl
abbrev R_rmstL3 : Room := ({ frames := 6, cells := 8, slots := 64, locals := 120 } : Room)
def QstL3 (Z : State) (a1 : Addr) (ka : ClassId) (asl : List Value) (wc : Int32) (h0 : Heap) (n0 : Nat) (v : Option Value) (h : Heap) (L : List Loc) : Prop := ∃ nb : Addr, ∃ kn : ClassId, ∃ so : Addr, v = some (.ref so) ∧ h0.size ≤ so ∧ h0.size ≤ nb ∧ Fr n0 L ∧ Keep h0 h [] ∧ Exa Z h so q3 ∧ Fld Z h so q3 "coder" "B" (.int 0) ∧ Fld Z h so q3 "value" "[B" (.ref nb) ∧ Arv Z h nb kn .byte (3 : Int32) (own_app (List.replicate (3 : Int32).toNatClampNeg (.int 0)) (own_tk asl 3) 0 ((3 : Int32)).toNatClampNeg) (.int 0) ∧ so ≠ nb
set_option maxRecDepth 65536 in
set_option maxHeartbeats 40000000 in
theorem rmstL3 (l : Launch) (Z : State) (a0 : Array Value) (hw : ∀ d ∈ tables_1, d.before a0 Z = true) (ws : List Jvm.Cond) (a1 : Addr) (ka : ClassId) (asl : List Value) (wc : Int32) (h0 : Heap) (n0 : Nat) (Z0 : n0 ≤ h0.size) (HV_a1 : Arv Z h0 a1 ka .char (8 : Int32) asl (.int 0)) (HS_java_lang_String_COMPACT_STRINGS : Sta Z h0 q3 q7 "Z" (.int wc)) (hca : own_chs asl) (hwc : ¬ wc = 0) (hlat : ∀ i, i < (3 : Int32).toNatClampNeg → ¬ (255 : Int32) < own_gt (own_tk asl 3) i) :
    Met1 l n9 method_4_code 2 (some (.object "java/lang/String")) ws R_rmstL3 #[(.ref a1), (.int 3)] Z h0 (QstL3 Z a1 ka asl wc h0 n0) := by
  refine Met1.enter (plainFor_of_name pn_9) (fun m => ef_rmstL3 m a1) fun p e s m below meth c s₁ hx hby hlk hret hml hown hnm hZ X0 e0 => ?_
  have N0 := Fr.nil n0
  have K0 : Keep h0 h0 [] := Keep.refl h0 _
  show Fin p e below s _ _ _ (s₁.setTop (mkF m 0 #[rv a1, iv 3] []))
  refine Fin.step (fun _ k => Yo.iloadN X0.here hx (hb hby d9_0) rfl (Yo.ifYes X0.here hx (pc0 := 1) (pc' := 15) rfl (hb hby d9_1) rfl ((if0 _ _).trans (feq ((by decide) : ¬ ((3 : Int32) = (0 : Int32)))).2) (by decide) (by decide) (Yo.iloadN X0.here hx (hb hby d9_15) rfl (Yo.iconst X0.here hx (hb hby d9_16) (Yo.icmpYes X0.here hx (pc0 := 17) (pc' := 37) rfl (hb hby d9_17) rfl (feq ((by decide) : ¬ ((3 : Int32) = (1 : Int32)))).2 (by decide) (by decide) (Yo.iloadN X0.here hx (hb hby d9_37) rfl (Yo.iconst X0.here hx (hb hby d9_38) (Yo.icmpYes X0.here hx (pc0 := 39) (pc' := 65) rfl (hb hby d9_39) rfl (feq ((by decide) : ¬ ((3 : Int32) = (2 : Int32)))).2 (by decide) (by decide) k)))))))) ?_
  refine Fin.step (fun _ k => Yo.iloadN X0.here hx (hb hby d9_65) rfl (Yo.iconst X0.here hx (hb hby d9_66) (Yo.icmpNo X0.here hx (hb hby d9_67) rfl (teq ((by decide) : ((3 : Int32) = (3 : Int32)))).2 k))) ?_
  obtain ⟨Ty1, hy1, Xy1, ey1, Ey1, Ay1, Dy1, -, sty1⟩ := newO X0 hx hZ hown (W_ hw 55) (W_ hw 4) (W_ hw 3) e0 (g := (mkF m 70 #[rv a1, iv 3] [])) rfl (hb hby d9_70) (by decide) (by decide)
  obtain ⟨by1, gy1⟩ : ∃ z, z = h0.size := ⟨_, rfl⟩
  rw [← gy1] at Ay1 Dy1 sty1
  have gzy1 : n0 ≤ by1 := Nat.le_trans Z0 (Nat.le_of_eq gy1.symm)
  have szy1 : h0.size ≤ by1 := Nat.le_trans K0.1 (Nat.le_of_eq gy1.symm)
  have Zy1 := Nat.le_trans Z0 Ey1.1
  have Ky1 := K0.ext Ey1
  have F_value_by1 : Fld Z hy1 by1 q3 "value" "[B" .null := Dy1 (Or.inr (W_ hw 6)) (ty := (.array .byte)) (by decide)
  have F_coder_by1 : Fld Z hy1 by1 q3 "coder" "B" (.int 0) := Dy1 (Or.inr (W_ hw 7)) (ty := .byte) (by decide)
  refine Fin.step (sty1) ?_
  show Fin p e below s _ _ _ (Ty1.setTop (mkF m 73 #[rv a1, iv 3] [(.ref by1)]))
  refine Fin.step (fun _ k => Yo.dup Xy1.here hx (hb hby d9_73) rfl rfl (Yo.iconst Xy1.here hx (hb hby d9_74) k)) ?_
  obtain ⟨Ty2, hy2, ky2, Xy2, ey2, Ey2, Ay2, sty2⟩ := newP Xy1 hx hZ (W_ hw 1) ey1 (g := (mkF m 75 #[rv a1, iv 3] [(.int 3), (.ref by1), (.ref by1)])) rfl (hb hby d9_75) rfl (by decide) (cap := 3) (by decide) (by decide) (by decide) (by decide)
  obtain ⟨by2, gy2⟩ : ∃ z, z = hy1.size := ⟨_, rfl⟩
  rw [← gy2] at Ay2 sty2
  have gzy2 : n0 ≤ by2 := Nat.le_trans Zy1 (Nat.le_of_eq gy2.symm)
  have szy2 : h0.size ≤ by2 := Nat.le_trans Ky1.1 (Nat.le_of_eq gy2.symm)
  have Zy2 := Nat.le_trans Zy1 Ey2.1
  have Ky2 := Ky1.ext Ey2
  have Vy2 : Arv Z hy2 by2 ky2 .char (3 : Int32) [(.int 0), (.int 0), (.int 0)] (.int 0) := (Arv.new Ay2 (by decide)).pad (pad_rep [] (.int 0) 3)
  refine Fin.step (sty2) ?_
  show Fin p e below s _ _ _ (Ty2.setTop (mkF m 77 #[rv a1, iv 3] [(.ref by2), (.ref by1), (.ref by1)]))
  refine Fin.step (fun _ k => Yo.dup Xy2.here hx (hb hby d9_77) rfl rfl (Yo.iconst Xy2.here hx (hb hby d9_78) (Yo.aloadN Xy2.here hx (hb hby d9_79) rfl rfl (Yo.iconst Xy2.here hx (hb hby d9_80) (cld3 Xy2 hx hZ ey2 (j := 0) (v := (.int (own_gt asl 0))) (HV_a1.keep Ky2 nin0) ⟨by decide, by decide⟩ (own_lg hca 0) (hb hby d9_81) k))))) ?_
  obtain ⟨Ty4, hy4, Xy4, ey4, Wy4, Vy4, Ny4, Zy4, Ky4, sty4⟩ := cst3 Xy2 hx hZ ey2 (j := 0) (x := (own_gt asl 0)) (ix := 0) Vy2 ⟨by decide, by decide⟩ rfl (lb rfl) N0 Zy2 Ky2 gzy2 (Or.inr szy2) (hb hby d9_82)
  refine Fin.step (sty4) ?_
  refine Fin.step (fun _ k => Yo.dup Xy4.here hx (hb hby d9_83) rfl rfl (Yo.iconst Xy4.here hx (hb hby d9_84) (Yo.aloadN Xy4.here hx (hb hby d9_85) rfl rfl (Yo.iconst Xy4.here hx (hb hby d9_86) (cld3 Xy4 hx hZ ey4 (j := 1) (v := (.int (own_gt asl 1))) (HV_a1.keep Ky4 nin0) ⟨by decide, by decide⟩ (own_lg hca 1) (hb hby d9_87) k))))) ?_
  obtain ⟨Ty6, hy6, Xy6, ey6, Wy6, Vy6, Ny6, Zy6, Ky6, sty6⟩ := cst3 Xy4 hx hZ ey4 (j := 1) (x := (own_gt asl 1)) (ix := 1) Vy4 ⟨by decide, by decide⟩ rfl (lb rfl) Ny4 Zy4 Ky4 gzy2 (Or.inr szy2) (hb hby d9_88)
  refine Fin.step (sty6) ?_
  refine Fin.step (fun _ k => Yo.dup Xy6.here hx (hb hby d9_89) rfl rfl (Yo.iconst Xy6.here hx (hb hby d9_90) (Yo.aloadN Xy6.here hx (hb hby d9_91) rfl rfl (Yo.iconst Xy6.here hx (hb hby d9_92) (cld3 Xy6 hx hZ ey6 (j := 2) (v := (.int (own_gt asl 2))) (HV_a1.keep Ky6 nin0) ⟨by decide, by decide⟩ (own_lg hca 2) (hb hby d9_93) k))))) ?_
  obtain ⟨Ty8, hy8, Xy8, ey8, Wy8, Vy8, Ny8, Zy8, Ky8, sty8⟩ := cst3 Xy6 hx hZ ey6 (j := 2) (x := (own_gt asl 2)) (ix := 2) Vy6 ⟨by decide, by decide⟩ rfl (lb rfl) Ny6 Zy6 Ky6 gzy2 (Or.inr szy2) (hb hby d9_94)
  refine Fin.step (sty8) ?_
  have ry9 := ((((Ay1.ext Ey2).wr Wy4).wr Wy6).wr Wy8)
  have ney10 := nlt Ay1.lt (Nat.le_of_eq gy2.symm)
  have ry11 := ((((F_coder_by1.ext Ey2).other Wy4 (Or.inl ney10)).other Wy6 (Or.inl ney10)).other Wy8 (Or.inl ney10))
  have ry12 := ((((F_value_by1.ext Ey2).other Wy4 (Or.inl ney10)).other Wy6 (Or.inl ney10)).other Wy8 (Or.inl ney10))
  have ry13 := (Sta_keep HS_java_lang_String_COMPACT_STRINGS Ky8)
  obtain ⟨_, Ty14, Lcy14, Xy14, hQy14, sty14⟩ := pack (Xy8.specialBack hx (y := n10) rfl hown (mvT hZ (W_ hw 56)) (mvT hZ (W_ hw 57)) (mvT hZ (W_ hw 58)) (by decide) (backOf (W := 1) (rmsi1L l Z a0 hw [] by1 by2 3 ky2 _ wc hy8 n0 Zy8 ry9 ry11 ry12 Vy8 ry13 gzy1 (by decide) (own_tkc asl 3) hwc (by decide) hlat ney10) hZ (W_ hw 58) (W_ hw 3) (by decide) (by decide)) (g := (mkF m 95 #[rv a1, iv 3] [(.ref by2), (.ref by1), (.ref by1)])) rfl (by rw [hml]; rfl) (Steps.refl _) (a := by1) (argsL := [(.ref by2)]) (rest := [(.ref by1)]) (lenOf pd_8 rfl) rfl (lb rfl) (hb hby d9_95) (fun _ _ => ⟨rfl, ey8, (by decide : 2 + 1 ≤ _), (by decide : 7 + 8 ≤ _)⟩))
  obtain ⟨nb_y14, kn_y14, rfl, bfy14_0, Nqy14, Kcy14, fy14_0, fy14_1, fy14_2, ney14_0⟩ := hQy14
  have Ny14 := Fr.app Ny8 Nqy14
  have gzy14_0 : n0 ≤ nb_y14 := Nat.le_trans Zy8 bfy14_0
  have szy14_0 : h0.size ≤ nb_y14 := Nat.le_trans Ky8.1 bfy14_0
  have Zy14 := Nat.le_trans Zy8 Kcy14.1
  have Ky14 := Ky8.trans Kcy14 (allS (Or.inr szy1) all0)
  refine Fin.step (sty14) ?_
  show Fin p e below s _ _ _ (Ty14.setTop (mkF m 98 #[rv a1, iv 3] [(.ref by1)]))
  refine Fin.retR Xy14 hx hret rfl rfl hlk (hb hby d9_98) (by decide) (by decide) ?_
  show QstL3 Z a1 ka asl wc h0 n0 _ Ty14.heap _
  exact ⟨nb_y14, kn_y14, by1, rfl, szy1, szy14_0, Ny14, Ky14, (ry9.keep Kcy14), fy14_0, fy14_1, fy14_2, ney14_0⟩
theorem d9_99 : decode method_4_code 99 = .ok (.iload_n 1, 1) := by decide +kernel
theorem d9_100 : decode method_4_code 100 = .ok (.iconst 4, 1) := by decide +kernel
theorem d9_101 : decode method_4_code 101 = .ok (.if_icmp .ne 38, 3) := by decide +kernel
theorem d9_104 : decode method_4_code 104 = .ok (.new 8, 3) := by decide +kernel
theorem d9_107 : decode method_4_code 107 = .ok (.dup, 1) := by decide +kernel
theorem d9_108 : decode method_4_code 108 = .ok (.iconst 4, 1) := by decide +kernel
theorem d9_109 : decode method_4_code 109 = .ok (.newarray .char, 2) := by decide +kernel
theorem d9_111 : decode method_4_code 111 = .ok (.dup, 1) := by decide +kernel
theorem d9_112 : decode method_4_code 112 = .ok (.iconst 0, 1) := by decide +kernel
theorem d9_113 : decode method_4_code 113 = .ok (.aload_n 0, 1) := by decide +kernel
theorem d9_114 : decode method_4_code 114 = .ok (.iconst 0, 1) := by decide +kernel
theorem d9_115 : decode method_4_code 115 = .ok (.caload, 1) := by decide +kernel
theorem d9_116 : decode method_4_code 116 = .ok (.castore, 1) := by decide +kernel
theorem d9_117 : decode method_4_code 117 = .ok (.dup, 1) := by decide +kernel
theorem d9_118 : decode method_4_code 118 = .ok (.iconst 1, 1) := by decide +kernel
theorem d9_119 : decode method_4_code 119 = .ok (.aload_n 0, 1) := by decide +kernel
theorem d9_120 : decode method_4_code 120 = .ok (.iconst 1, 1) := by decide +kernel
theorem d9_121 : decode method_4_code 121 = .ok (.caload, 1) := by decide +kernel
theorem d9_122 : decode method_4_code 122 = .ok (.castore, 1) := by decide +kernel
theorem d9_123 : decode method_4_code 123 = .ok (.dup, 1) := by decide +kernel
theorem d9_124 : decode method_4_code 124 = .ok (.iconst 2, 1) := by decide +kernel
theorem d9_125 : decode method_4_code 125 = .ok (.aload_n 0, 1) := by decide +kernel
theorem d9_126 : decode method_4_code 126 = .ok (.iconst 2, 1) := by decide +kernel
theorem d9_127 : decode method_4_code 127 = .ok (.caload, 1) := by decide +kernel
theorem d9_128 : decode method_4_code 128 = .ok (.castore, 1) := by decide +kernel
theorem d9_129 : decode method_4_code 129 = .ok (.dup, 1) := by decide +kernel
theorem d9_130 : decode method_4_code 130 = .ok (.iconst 3, 1) := by decide +kernel
theorem d9_131 : decode method_4_code 131 = .ok (.aload_n 0, 1) := by decide +kernel
theorem d9_132 : decode method_4_code 132 = .ok (.iconst 3, 1) := by decide +kernel
theorem d9_133 : decode method_4_code 133 = .ok (.caload, 1) := by decide +kernel
theorem d9_134 : decode method_4_code 134 = .ok (.castore, 1) := by decide +kernel
theorem d9_135 : decode method_4_code 135 = .ok (.invokespecial 19, 3) := by decide +kernel
theorem d9_138 : decode method_4_code 138 = .ok (.areturn, 1) := by decide +kernel
theorem ef_rmstL4 (m : MethodId) (x0 : Addr) : entryFrame m #[(.ref x0), (.int (4 : Int32))] 2 = mkF m 0 #[.val (.ref x0), .val (.int (4 : Int32))] [] := by first | (simp [entryFrame, mkF, argsToLocals, Value.category]; done) | rfl
abbrev R_rmstL4 : Room := ({ frames := 6, cells := 8, slots := 64, locals := 120 } : Room)
def QstL4 (Z : State) (a1 : Addr) (ka : ClassId) (asl : List Value) (wc : Int32) (h0 : Heap) (n0 : Nat) (v : Option Value) (h : Heap) (L : List Loc) : Prop := ∃ nb : Addr, ∃ kn : ClassId, ∃ so : Addr, v = some (.ref so) ∧ h0.size ≤ so ∧ h0.size ≤ nb ∧ Fr n0 L ∧ Keep h0 h [] ∧ Exa Z h so q3 ∧ Fld Z h so q3 "coder" "B" (.int 0) ∧ Fld Z h so q3 "value" "[B" (.ref nb) ∧ Arv Z h nb kn .byte (4 : Int32) (own_app (List.replicate (4 : Int32).toNatClampNeg (.int 0)) (own_tk asl 4) 0 ((4 : Int32)).toNatClampNeg) (.int 0) ∧ so ≠ nb
set_option maxRecDepth 65536 in
set_option maxHeartbeats 40000000 in
theorem rmstL4 (l : Launch) (Z : State) (a0 : Array Value) (hw : ∀ d ∈ tables_1, d.before a0 Z = true) (ws : List Jvm.Cond) (a1 : Addr) (ka : ClassId) (asl : List Value) (wc : Int32) (h0 : Heap) (n0 : Nat) (Z0 : n0 ≤ h0.size) (HV_a1 : Arv Z h0 a1 ka .char (8 : Int32) asl (.int 0)) (HS_java_lang_String_COMPACT_STRINGS : Sta Z h0 q3 q7 "Z" (.int wc)) (hca : own_chs asl) (hwc : ¬ wc = 0) (hlat : ∀ i, i < (4 : Int32).toNatClampNeg → ¬ (255 : Int32) < own_gt (own_tk asl 4) i) :
    Met1 l n9 method_4_code 2 (some (.object "java/lang/String")) ws R_rmstL4 #[(.ref a1), (.int 4)] Z h0 (QstL4 Z a1 ka asl wc h0 n0) := by
  refine Met1.enter (plainFor_of_name pn_9) (fun m => ef_rmstL4 m a1) fun p e s m below meth c s₁ hx hby hlk hret hml hown hnm hZ X0 e0 => ?_
  have N0 := Fr.nil n0
  have K0 : Keep h0 h0 [] := Keep.refl h0 _
  show Fin p e below s _ _ _ (s₁.setTop (mkF m 0 #[rv a1, iv 4] []))
  refine Fin.step (fun _ k => Yo.iloadN X0.here hx (hb hby d9_0) rfl (Yo.ifYes X0.here hx (pc0 := 1) (pc' := 15) rfl (hb hby d9_1) rfl ((if0 _ _).trans (feq ((by decide) : ¬ ((4 : Int32) = (0 : Int32)))).2) (by decide) (by decide) (Yo.iloadN X0.here hx (hb hby d9_15) rfl (Yo.iconst X0.here hx (hb hby d9_16) (Yo.icmpYes X0.here hx (pc0 := 17) (pc' := 37) rfl (hb hby d9_17) rfl (feq ((by decide) : ¬ ((4 : Int32) = (1 : Int32)))).2 (by decide) (by decide) (Yo.iloadN X0.here hx (hb hby d9_37) rfl (Yo.iconst X0.here hx (hb hby d9_38) (Yo.icmpYes X0.here hx (pc0 := 39) (pc' := 65) rfl (hb hby d9_39) rfl (feq ((by decide) : ¬ ((4 : Int32) = (2 : Int32)))).2 (by decide) (by decide) k)))))))) ?_
  refine Fin.step (fun _ k => Yo.iloadN X0.here hx (hb hby d9_65) rfl (Yo.iconst X0.here hx (hb hby d9_66) (Yo.icmpYes X0.here hx (pc0 := 67) (pc' := 99) rfl (hb hby d9_67) rfl (feq ((by decide) : ¬ ((4 : Int32) = (3 : Int32)))).2 (by decide) (by decide) (Yo.iloadN X0.here hx (hb hby d9_99) rfl (Yo.iconst X0.here hx (hb hby d9_100) (Yo.icmpNo X0.here hx (hb hby d9_101) rfl (teq ((by decide) : ((4 : Int32) = (4 : Int32)))).2 k)))))) ?_
  obtain ⟨Ty1, hy1, Xy1, ey1, Ey1, Ay1, Dy1, -, sty1⟩ := newO X0 hx hZ hown (W_ hw 55) (W_ hw 4) (W_ hw 3) e0 (g := (mkF m 104 #[rv a1, iv 4] [])) rfl (hb hby d9_104) (by decide) (by decide)
  obtain ⟨by1, gy1⟩ : ∃ z, z = h0.size := ⟨_, rfl⟩
  rw [← gy1] at Ay1 Dy1 sty1
  have gzy1 : n0 ≤ by1 := Nat.le_trans Z0 (Nat.le_of_eq gy1.symm)
  have szy1 : h0.size ≤ by1 := Nat.le_trans K0.1 (Nat.le_of_eq gy1.symm)
  have Zy1 := Nat.le_trans Z0 Ey1.1
  have Ky1 := K0.ext Ey1
  have F_value_by1 : Fld Z hy1 by1 q3 "value" "[B" .null := Dy1 (Or.inr (W_ hw 6)) (ty := (.array .byte)) (by decide)
  have F_coder_by1 : Fld Z hy1 by1 q3 "coder" "B" (.int 0) := Dy1 (Or.inr (W_ hw 7)) (ty := .byte) (by decide)
  refine Fin.step (sty1) ?_
  show Fin p e below s _ _ _ (Ty1.setTop (mkF m 107 #[rv a1, iv 4] [(.ref by1)]))
  refine Fin.step (fun _ k => Yo.dup Xy1.here hx (hb hby d9_107) rfl rfl (Yo.iconst Xy1.here hx (hb hby d9_108) k)) ?_
  obtain ⟨Ty2, hy2, ky2, Xy2, ey2, Ey2, Ay2, sty2⟩ := newP Xy1 hx hZ (W_ hw 1) ey1 (g := (mkF m 109 #[rv a1, iv 4] [(.int 4), (.ref by1), (.ref by1)])) rfl (hb hby d9_109) rfl (by decide) (cap := 4) (by decide) (by decide) (by decide) (by decide)
  obtain ⟨by2, gy2⟩ : ∃ z, z = hy1.size := ⟨_, rfl⟩
  rw [← gy2] at Ay2 sty2
  have gzy2 : n0 ≤ by2 := Nat.le_trans Zy1 (Nat.le_of_eq gy2.symm)
  have szy2 : h0.size ≤ by2 := Nat.le_trans Ky1.1 (Nat.le_of_eq gy2.symm)
  have Zy2 := Nat.le_trans Zy1 Ey2.1
  have Ky2 := Ky1.ext Ey2
  have Vy2 : Arv Z hy2 by2 ky2 .char (4 : Int32) [(.int 0), (.int 0), (.int 0), (.int 0)] (.int 0) := (Arv.new Ay2 (by decide)).pad (pad_rep [] (.int 0) 4)
  refine Fin.step (sty2) ?_
  show Fin p e below s _ _ _ (Ty2.setTop (mkF m 111 #[rv a1, iv 4] [(.ref by2), (.ref by1), (.ref by1)]))
  refine Fin.step (fun _ k => Yo.dup Xy2.here hx (hb hby d9_111) rfl rfl (Yo.iconst Xy2.here hx (hb hby d9_112) (Yo.aloadN Xy2.here hx (hb hby d9_113) rfl rfl (Yo.iconst Xy2.here hx (hb hby d9_114) (cld3 Xy2 hx hZ ey2 (j := 0) (v := (.int (own_gt asl 0))) (HV_a1.keep Ky2 nin0) ⟨by decide, by decide⟩ (own_lg hca 0) (hb hby d9_115) k))))) ?_
  obtain ⟨Ty4, hy4, Xy4, ey4, Wy4, Vy4, Ny4, Zy4, Ky4, sty4⟩ := cst3 Xy2 hx hZ ey2 (j := 0) (x := (own_gt asl 0)) (ix := 0) Vy2 ⟨by decide, by decide⟩ rfl (lb rfl) N0 Zy2 Ky2 gzy2 (Or.inr szy2) (hb hby d9_116)
  refine Fin.step (sty4) ?_
  refine Fin.step (fun _ k => Yo.dup Xy4.here hx (hb hby d9_117) rfl rfl (Yo.iconst Xy4.here hx (hb hby d9_118) (Yo.aloadN Xy4.here hx (hb hby d9_119) rfl rfl (Yo.iconst Xy4.here hx (hb hby d9_120) (cld3 Xy4 hx hZ ey4 (j := 1) (v := (.int (own_gt asl 1))) (HV_a1.keep Ky4 nin0) ⟨by decide, by decide⟩ (own_lg hca 1) (hb hby d9_121) k))))) ?_
  obtain ⟨Ty6, hy6, Xy6, ey6, Wy6, Vy6, Ny6, Zy6, Ky6, sty6⟩ := cst3 Xy4 hx hZ ey4 (j := 1) (x := (own_gt asl 1)) (ix := 1) Vy4 ⟨by decide, by decide⟩ rfl (lb rfl) Ny4 Zy4 Ky4 gzy2 (Or.inr szy2) (hb hby d9_122)
  refine Fin.step (sty6) ?_
  refine Fin.step (fun _ k => Yo.dup Xy6.here hx (hb hby d9_123) rfl rfl (Yo.iconst Xy6.here hx (hb hby d9_124) (Yo.aloadN Xy6.here hx (hb hby d9_125) rfl rfl (Yo.iconst Xy6.here hx (hb hby d9_126) (cld3 Xy6 hx hZ ey6 (j := 2) (v := (.int (own_gt asl 2))) (HV_a1.keep Ky6 nin0) ⟨by decide, by decide⟩ (own_lg hca 2) (hb hby d9_127) k))))) ?_
  obtain ⟨Ty8, hy8, Xy8, ey8, Wy8, Vy8, Ny8, Zy8, Ky8, sty8⟩ := cst3 Xy6 hx hZ ey6 (j := 2) (x := (own_gt asl 2)) (ix := 2) Vy6 ⟨by decide, by decide⟩ rfl (lb rfl) Ny6 Zy6 Ky6 gzy2 (Or.inr szy2) (hb hby d9_128)
  refine Fin.step (sty8) ?_
  refine Fin.step (fun _ k => Yo.dup Xy8.here hx (hb hby d9_129) rfl rfl (Yo.iconst Xy8.here hx (hb hby d9_130) (Yo.aloadN Xy8.here hx (hb hby d9_131) rfl rfl (Yo.iconst Xy8.here hx (hb hby d9_132) (cld3 Xy8 hx hZ ey8 (j := 3) (v := (.int (own_gt asl 3))) (HV_a1.keep Ky8 nin0) ⟨by decide, by decide⟩ (own_lg hca 3) (hb hby d9_133) k))))) ?_
  obtain ⟨Ty10, hy10, Xy10, ey10, Wy10, Vy10, Ny10, Zy10, Ky10, sty10⟩ := cst3 Xy8 hx hZ ey8 (j := 3) (x := (own_gt asl 3)) (ix := 3) Vy8 ⟨by decide, by decide⟩ rfl (lb rfl) Ny8 Zy8 Ky8 gzy2 (Or.inr szy2) (hb hby d9_134)
  refine Fin.step (sty10) ?_
  have ry11 := (((((Ay1.ext Ey2).wr Wy4).wr Wy6).wr Wy8).wr Wy10)
  have ney12 := nlt Ay1.lt (Nat.le_of_eq gy2.symm)
  have ry13 := (((((F_coder_by1.ext Ey2).other Wy4 (Or.inl ney12)).other Wy6 (Or.inl ney12)).other Wy8 (Or.inl ney12)).other Wy10 (Or.inl ney12))
  have ry14 := (((((F_value_by1.ext Ey2).other Wy4 (Or.inl ney12)).other Wy6 (Or.inl ney12)).other Wy8 (Or.inl ney12)).other Wy10 (Or.inl ney12))
  have ry15 := (Sta_keep HS_java_lang_String_COMPACT_STRINGS Ky10)
  obtain ⟨_, Ty16, Lcy16, Xy16, hQy16, sty16⟩ := pack (Xy10.specialBack hx (y := n10) rfl hown (mvT hZ (W_ hw 56)) (mvT hZ (W_ hw 57)) (mvT hZ (W_ hw 58)) (by decide) (backOf (W := 1) (rmsi1L l Z a0 hw [] by1 by2 4 ky2 _ wc hy10 n0 Zy10 ry11 ry13 ry14 Vy10 ry15 gzy1 (by decide) (own_tkc asl 4) hwc (by decide) hlat ney12) hZ (W_ hw 58) (W_ hw 3) (by decide) (by decide)) (g := (mkF m 135 #[rv a1, iv 4] [(.ref by2), (.ref by1), (.ref by1)])) rfl (by rw [hml]; rfl) (Steps.refl _) (a := by1) (argsL := [(.ref by2)]) (rest := [(.ref by1)]) (lenOf pd_8 rfl) rfl (lb rfl) (hb hby d9_135) (fun _ _ => ⟨rfl, ey10, (by decide : 2 + 1 ≤ _), (by decide : 8 + 8 ≤ _)⟩))
  obtain ⟨nb_y16, kn_y16, rfl, bfy16_0, Nqy16, Kcy16, fy16_0, fy16_1, fy16_2, ney16_0⟩ := hQy16
  have Ny16 := Fr.app Ny10 Nqy16
  have gzy16_0 : n0 ≤ nb_y16 := Nat.le_trans Zy10 bfy16_0
  have szy16_0 : h0.size ≤ nb_y16 := Nat.le_trans Ky10.1 bfy16_0
  have Zy16 := Nat.le_trans Zy10 Kcy16.1
  have Ky16 := Ky10.trans Kcy16 (allS (Or.inr szy1) all0)
  refine Fin.step (sty16) ?_
  show Fin p e below s _ _ _ (Ty16.setTop (mkF m 138 #[rv a1, iv 4] [(.ref by1)]))
  refine Fin.retR Xy16 hx hret rfl rfl hlk (hb hby d9_138) (by decide) (by decide) ?_
  show QstL4 Z a1 ka asl wc h0 n0 _ Ty16.heap _
  exact ⟨nb_y16, kn_y16, by1, rfl, szy1, szy16_0, Ny16, Ky16, (ry11.keep Kcy16), fy16_0, fy16_1, fy16_2, ney16_0⟩
theorem d9_139 : decode method_4_code 139 = .ok (.iload_n 1, 1) := by decide +kernel
theorem d9_140 : decode method_4_code 140 = .ok (.iconst 5, 1) := by decide +kernel
theorem d9_141 : decode method_4_code 141 = .ok (.if_icmp .ne 44, 3) := by decide +kernel
theorem d9_144 : decode method_4_code 144 = .ok (.new 8, 3) := by decide +kernel
theorem d9_147 : decode method_4_code 147 = .ok (.dup, 1) := by decide +kernel
theorem d9_148 : decode method_4_code 148 = .ok (.iconst 5, 1) := by decide +kernel
theorem d9_149 : decode method_4_code 149 = .ok (.newarray .char, 2) := by decide +kernel
theorem d9_151 : decode method_4_code 151 = .ok (.dup, 1) := by decide +kernel
theorem d9_152 : decode method_4_code 152 = .ok (.iconst 0, 1) := by decide +kernel
theorem d9_153 : decode method_4_code 153 = .ok (.aload_n 0, 1) := by decide +kernel
theorem d9_154 : decode method_4_code 154 = .ok (.iconst 0, 1) := by decide +kernel
theorem d9_155 : decode method_4_code 155 = .ok (.caload, 1) := by decide +kernel
theorem d9_156 : decode method_4_code 156 = .ok (.castore, 1) := by decide +kernel
theorem d9_157 : decode method_4_code 157 = .ok (.dup, 1) := by decide +kernel
theorem d9_158 : decode method_4_code 158 = .ok (.iconst 1, 1) := by decide +kernel
theorem d9_159 : decode method_4_code 159 = .ok (.aload_n 0, 1) := by decide +kernel
theorem d9_160 : decode method_4_code 160 = .ok (.iconst 1, 1) := by decide +kernel
theorem d9_161 : decode method_4_code 161 = .ok (.caload, 1) := by decide +kernel
theorem d9_162 : decode method_4_code 162 = .ok (.castore, 1) := by decide +kernel
theorem d9_163 : decode method_4_code 163 = .ok (.dup, 1) := by decide +kernel
theorem d9_164 : decode method_4_code 164 = .ok (.iconst 2, 1) := by decide +kernel
theorem d9_165 : decode method_4_code 165 = .ok (.aload_n 0, 1) := by decide +kernel
theorem d9_166 : decode method_4_code 166 = .ok (.iconst 2, 1) := by decide +kernel
theorem d9_167 : decode method_4_code 167 = .ok (.caload, 1) := by decide +kernel
theorem d9_168 : decode method_4_code 168 = .ok (.castore, 1) := by decide +kernel
theorem d9_169 : decode method_4_code 169 = .ok (.dup, 1) := by decide +kernel
theorem d9_170 : decode method_4_code 170 = .ok (.iconst 3, 1) := by decide +kernel
theorem d9_171 : decode method_4_code 171 = .ok (.aload_n 0, 1) := by decide +kernel
theorem d9_172 : decode method_4_code 172 = .ok (.iconst 3, 1) := by decide +kernel
theorem d9_173 : decode method_4_code 173 = .ok (.caload, 1) := by decide +kernel
theorem d9_174 : decode method_4_code 174 = .ok (.castore, 1) := by decide +kernel
theorem d9_175 : decode method_4_code 175 = .ok (.dup, 1) := by decide +kernel
theorem d9_176 : decode method_4_code 176 = .ok (.iconst 4, 1) := by decide +kernel
theorem d9_177 : decode method_4_code 177 = .ok (.aload_n 0, 1) := by decide +kernel
theorem d9_178 : decode method_4_code 178 = .ok (.iconst 4, 1) := by decide +kernel
theorem d9_179 : decode method_4_code 179 = .ok (.caload, 1) := by decide +kernel
theorem d9_180 : decode method_4_code 180 = .ok (.castore, 1) := by decide +kernel
theorem d9_181 : decode method_4_code 181 = .ok (.invokespecial 19, 3) := by decide +kernel
theorem d9_184 : decode method_4_code 184 = .ok (.areturn, 1) := by decide +kernel
theorem ef_rmstL5 (m : MethodId) (x0 : Addr) : entryFrame m #[(.ref x0), (.int (5 : Int32))] 2 = mkF m 0 #[.val (.ref x0), .val (.int (5 : Int32))] [] := by first | (simp [entryFrame, mkF, argsToLocals, Value.category]; done) | rfl
abbrev R_rmstL5 : Room := ({ frames := 6, cells := 8, slots := 64, locals := 120 } : Room)
def QstL5 (Z : State) (a1 : Addr) (ka : ClassId) (asl : List Value) (wc : Int32) (h0 : Heap) (n0 : Nat) (v : Option Value) (h : Heap) (L : List Loc) : Prop := ∃ nb : Addr, ∃ kn : ClassId, ∃ so : Addr, v = some (.ref so) ∧ h0.size ≤ so ∧ h0.size ≤ nb ∧ Fr n0 L ∧ Keep h0 h [] ∧ Exa Z h so q3 ∧ Fld Z h so q3 "coder" "B" (.int 0) ∧ Fld Z h so q3 "value" "[B" (.ref nb) ∧ Arv Z h nb kn .byte (5 : Int32) (own_app (List.replicate (5 : Int32).toNatClampNeg (.int 0)) (own_tk asl 5) 0 ((5 : Int32)).toNatClampNeg) (.int 0) ∧ so ≠ nb
set_option maxRecDepth 65536 in
set_option maxHeartbeats 40000000 in
theorem rmstL5 (l : Launch) (Z : State) (a0 : Array Value) (hw : ∀ d ∈ tables_1, d.before a0 Z = true) (ws : List Jvm.Cond) (a1 : Addr) (ka : ClassId) (asl : List Value) (wc : Int32) (h0 : Heap) (n0 : Nat) (Z0 : n0 ≤ h0.size) (HV_a1 : Arv Z h0 a1 ka .char (8 : Int32) asl (.int 0)) (HS_java_lang_String_COMPACT_STRINGS : Sta Z h0 q3 q7 "Z" (.int wc)) (hca : own_chs asl) (hwc : ¬ wc = 0) (hlat : ∀ i, i < (5 : Int32).toNatClampNeg → ¬ (255 : Int32) < own_gt (own_tk asl 5) i) :
    Met1 l n9 method_4_code 2 (some (.object "java/lang/String")) ws R_rmstL5 #[(.ref a1), (.int 5)] Z h0 (QstL5 Z a1 ka asl wc h0 n0) := by
  refine Met1.enter (plainFor_of_name pn_9) (fun m => ef_rmstL5 m a1) fun p e s m below meth c s₁ hx hby hlk hret hml hown hnm hZ X0 e0 => ?_
  have N0 := Fr.nil n0
  have K0 : Keep h0 h0 [] := Keep.refl h0 _
  show Fin p e below s _ _ _ (s₁.setTop (mkF m 0 #[rv a1, iv 5] []))
  refine Fin.step (fun _ k => Yo.iloadN X0.here hx (hb hby d9_0) rfl (Yo.ifYes X0.here hx (pc0 := 1) (pc' := 15) rfl (hb hby d9_1) rfl ((if0 _ _).trans (feq ((by decide) : ¬ ((5 : Int32) = (0 : Int32)))).2) (by decide) (by decide) (Yo.iloadN X0.here hx (hb hby d9_15) rfl (Yo.iconst X0.here hx (hb hby d9_16) (Yo.icmpYes X0.here hx (pc0 := 17) (pc' := 37) rfl (hb hby d9_17) rfl (feq ((by decide) : ¬ ((5 : Int32) = (1 : Int32)))).2 (by decide) (by decide) (Yo.iloadN X0.here hx (hb hby d9_37) rfl (Yo.iconst X0.here hx (hb hby d9_38) (Yo.icmpYes X0.here hx (pc0 := 39) (pc' := 65) rfl (hb hby d9_39) rfl (feq ((by decide) : ¬ ((5 : Int32) = (2 : Int32)))).2 (by decide) (by decide) k)))))))) ?_
  refine Fin.step (fun _ k => Yo.iloadN X0.here hx (hb hby d9_65) rfl (Yo.iconst X0.here hx (hb hby d9_66) (Yo.icmpYes X0.here hx (pc0 := 67) (pc' := 99) rfl (hb hby d9_67) rfl (feq ((by decide) : ¬ ((5 : Int32) = (3 : Int32)))).2 (by decide) (by decide) (Yo.iloadN X0.here hx (hb hby d9_99) rfl (Yo.iconst X0.here hx (hb hby d9_100) (Yo.icmpYes X0.here hx (pc0 := 101) (pc' := 139) rfl (hb hby d9_101) rfl (feq ((by decide) : ¬ ((5 : Int32) = (4 : Int32)))).2 (by decide) (by decide) (Yo.iloadN X0.here hx (hb hby d9_139) rfl (Yo.iconst X0.here hx (hb hby d9_140) k)))))))) ?_
  refine Fin.step (fun _ k => Yo.icmpNo X0.here hx (hb hby d9_141) rfl (teq ((by decide) : ((5 : Int32) = (5 : Int32)))).2 k) ?_
  obtain ⟨Ty1, hy1, Xy1, ey1, Ey1, Ay1, Dy1, -, sty1⟩ := newO X0 hx hZ hown (W_ hw 55) (W_ hw 4) (W_ hw 3) e0 (g := (mkF m 144 #[rv a1, iv 5] [])) rfl (hb hby d9_144) (by decide) (by decide)
  obtain ⟨by1, gy1⟩ : ∃ z, z = h0.size := ⟨_, rfl⟩
  rw [← gy1] at Ay1 Dy1 sty1
  have gzy1 : n0 ≤ by1 := Nat.le_trans Z0 (Nat.le_of_eq gy1.symm)
  have szy1 : h0.size ≤ by1 := Nat.le_trans K0.1 (Nat.le_of_eq gy1.symm)
  have Zy1 := Nat.le_trans Z0 Ey1.1
  have Ky1 := K0.ext Ey1
  have F_value_by1 : Fld Z hy1 by1 q3 "value" "[B" .null := Dy1 (Or.inr (W_ hw 6)) (ty := (.array .byte)) (by decide)
  have F_coder_by1 : Fld Z hy1 by1 q3 "coder" "B" (.int 0) := Dy1 (Or.inr (W_ hw 7)) (ty := .byte) (by decide)
  refine Fin.step (sty1) ?_
  show Fin p e below s _ _ _ (Ty1.setTop (mkF m 147 #[rv a1, iv 5] [(.ref by1)]))
  refine Fin.step (fun _ k => Yo.dup Xy1.here hx (hb hby d9_147) rfl rfl (Yo.iconst Xy1.here hx (hb hby d9_148) k)) ?_
  obtain ⟨Ty2, hy2, ky2, Xy2, ey2, Ey2, Ay2, sty2⟩ := newP Xy1 hx hZ (W_ hw 1) ey1 (g := (mkF m 149 #[rv a1, iv 5] [(.int 5), (.ref by1), (.ref by1)])) rfl (hb hby d9_149) rfl (by decide) (cap := 5) (by decide) (by decide) (by decide) (by decide)
  obtain ⟨by2, gy2⟩ : ∃ z, z = hy1.size := ⟨_, rfl⟩
  rw [← gy2] at Ay2 sty2
  have gzy2 : n0 ≤ by2 := Nat.le_trans Zy1 (Nat.le_of_eq gy2.symm)
  have szy2 : h0.size ≤ by2 := Nat.le_trans Ky1.1 (Nat.le_of_eq gy2.symm)
  have Zy2 := Nat.le_trans Zy1 Ey2.1
  have Ky2 := Ky1.ext Ey2
  have Vy2 : Arv Z hy2 by2 ky2 .char (5 : Int32) [(.int 0), (.int 0), (.int 0), (.int 0), (.int 0)] (.int 0) := (Arv.new Ay2 (by decide)).pad (pad_rep [] (.int 0) 5)
  refine Fin.step (sty2) ?_
  show Fin p e below s _ _ _ (Ty2.setTop (mkF m 151 #[rv a1, iv 5] [(.ref by2), (.ref by1), (.ref by1)]))
  refine Fin.step (fun _ k => Yo.dup Xy2.here hx (hb hby d9_151) rfl rfl (Yo.iconst Xy2.here hx (hb hby d9_152) (Yo.aloadN Xy2.here hx (hb hby d9_153) rfl rfl (Yo.iconst Xy2.here hx (hb hby d9_154) (cld3 Xy2 hx hZ ey2 (j := 0) (v := (.int (own_gt asl 0))) (HV_a1.keep Ky2 nin0) ⟨by decide, by decide⟩ (own_lg hca 0) (hb hby d9_155) k))))) ?_
  obtain ⟨Ty4, hy4, Xy4, ey4, Wy4, Vy4, Ny4, Zy4, Ky4, sty4⟩ := cst3 Xy2 hx hZ ey2 (j := 0) (x := (own_gt asl 0)) (ix := 0) Vy2 ⟨by decide, by decide⟩ rfl (lb rfl) N0 Zy2 Ky2 gzy2 (Or.inr szy2) (hb hby d9_156)
  refine Fin.step (sty4) ?_
  refine Fin.step (fun _ k => Yo.dup Xy4.here hx (hb hby d9_157) rfl rfl (Yo.iconst Xy4.here hx (hb hby d9_158) (Yo.aloadN Xy4.here hx (hb hby d9_159) rfl rfl (Yo.iconst Xy4.here hx (hb hby d9_160) (cld3 Xy4 hx hZ ey4 (j := 1) (v := (.int (own_gt asl 1))) (HV_a1.keep Ky4 nin0) ⟨by decide, by decide⟩ (own_lg hca 1) (hb hby d9_161) k))))) ?_
  obtain ⟨Ty6, hy6, Xy6, ey6, Wy6, Vy6, Ny6, Zy6, Ky6, sty6⟩ := cst3 Xy4 hx hZ ey4 (j := 1) (x := (own_gt asl 1)) (ix := 1) Vy4 ⟨by decide, by decide⟩ rfl (lb rfl) Ny4 Zy4 Ky4 gzy2 (Or.inr szy2) (hb hby d9_162)
  refine Fin.step (sty6) ?_
  refine Fin.step (fun _ k => Yo.dup Xy6.here hx (hb hby d9_163) rfl rfl (Yo.iconst Xy6.here hx (hb hby d9_164) (Yo.aloadN Xy6.here hx (hb hby d9_165) rfl rfl (Yo.iconst Xy6.here hx (hb hby d9_166) (cld3 Xy6 hx hZ ey6 (j := 2) (v := (.int (own_gt asl 2))) (HV_a1.keep Ky6 nin0) ⟨by decide, by decide⟩ (own_lg hca 2) (hb hby d9_167) k))))) ?_
  obtain ⟨Ty8, hy8, Xy8, ey8, Wy8, Vy8, Ny8, Zy8, Ky8, sty8⟩ := cst3 Xy6 hx hZ ey6 (j := 2) (x := (own_gt asl 2)) (ix := 2) Vy6 ⟨by decide, by decide⟩ rfl (lb rfl) Ny6 Zy6 Ky6 gzy2 (Or.inr szy2) (hb hby d9_168)
  refine Fin.step (sty8) ?_
  refine Fin.step (fun _ k => Yo.dup Xy8.here hx (hb hby d9_169) rfl rfl (Yo.iconst Xy8.here hx (hb hby d9_170) (Yo.aloadN Xy8.here hx (hb hby d9_171) rfl rfl (Yo.iconst Xy8.here hx (hb hby d9_172) (cld3 Xy8 hx hZ ey8 (j := 3) (v := (.int (own_gt asl 3))) (HV_a1.keep Ky8 nin0) ⟨by decide, by decide⟩ (own_lg hca 3) (hb hby d9_173) k))))) ?_
  obtain ⟨Ty10, hy10, Xy10, ey10, Wy10, Vy10, Ny10, Zy10, Ky10, sty10⟩ := cst3 Xy8 hx hZ ey8 (j := 3) (x := (own_gt asl 3)) (ix := 3) Vy8 ⟨by decide, by decide⟩ rfl (lb rfl) Ny8 Zy8 Ky8 gzy2 (Or.inr szy2) (hb hby d9_174)
  refine Fin.step (sty10) ?_
  refine Fin.step (fun _ k => Yo.dup Xy10.here hx (hb hby d9_175) rfl rfl (Yo.iconst Xy10.here hx (hb hby d9_176) (Yo.aloadN Xy10.here hx (hb hby d9_177) rfl rfl (Yo.iconst Xy10.here hx (hb hby d9_178) (cld3 Xy10 hx hZ ey10 (j := 4) (v := (.int (own_gt asl 4))) (HV_a1.keep Ky10 nin0) ⟨by decide, by decide⟩ (own_lg hca 4) (hb hby d9_179) k))))) ?_
  obtain ⟨Ty12, hy12, Xy12, ey12, Wy12, Vy12, Ny12, Zy12, Ky12, sty12⟩ := cst3 Xy10 hx hZ ey10 (j := 4) (x := (own_gt asl 4)) (ix := 4) Vy10 ⟨by decide, by decide⟩ rfl (lb rfl) Ny10 Zy10 Ky10 gzy2 (Or.inr szy2) (hb hby d9_180)
  refine Fin.step (sty12) ?_
  have ry13 := ((((((Ay1.ext Ey2).wr Wy4).wr Wy6).wr Wy8).wr Wy10).wr Wy12)
  have ney14 := nlt Ay1.lt (Nat.le_of_eq gy2.symm)
  have ry15 := ((((((F_coder_by1.ext Ey2).other Wy4 (Or.inl ney14)).other Wy6 (Or.inl ney14)).other Wy8 (Or.inl ney14)).other Wy10 (Or.inl ney14)).other Wy12 (Or.inl ney14))
  have ry16 := ((((((F_value_by1.ext Ey2).other Wy4 (Or.inl ney14)).other Wy6 (Or.inl ney14)).other Wy8 (Or.inl ney14)).other Wy10 (Or.inl ney14)).other Wy12 (Or.inl ney14))
  have ry17 := (Sta_keep HS_java_lang_String_COMPACT_STRINGS Ky12)
  obtain ⟨_, Ty18, Lcy18, Xy18, hQy18, sty18⟩ := pack (Xy12.specialBack hx (y := n10) rfl hown (mvT hZ (W_ hw 56)) (mvT hZ (W_ hw 57)) (mvT hZ (W_ hw 58)) (by decide) (backOf (W := 1) (rmsi1L l Z a0 hw [] by1 by2 5 ky2 _ wc hy12 n0 Zy12 ry13 ry15 ry16 Vy12 ry17 gzy1 (by decide) (own_tkc asl 5) hwc (by decide) hlat ney14) hZ (W_ hw 58) (W_ hw 3) (by decide) (by decide)) (g := (mkF m 181 #[rv a1, iv 5] [(.ref by2), (.ref by1), (.ref by1)])) rfl (by rw [hml]; rfl) (Steps.refl _) (a := by1) (argsL := [(.ref by2)]) (rest := [(.ref by1)]) (lenOf pd_8 rfl) rfl (lb rfl) (hb hby d9_181) (fun _ _ => ⟨rfl, ey12, (by decide : 2 + 1 ≤ _), (by decide : 9 + 8 ≤ _)⟩))
  obtain ⟨nb_y18, kn_y18, rfl, bfy18_0, Nqy18, Kcy18, fy18_0, fy18_1, fy18_2, ney18_0⟩ := hQy18
  have Ny18 := Fr.app Ny12 Nqy18
  have gzy18_0 : n0 ≤ nb_y18 := Nat.le_trans Zy12 bfy18_0
  have szy18_0 : h0.size ≤ nb_y18 := Nat.le_trans Ky12.1 bfy18_0
  have Zy18 := Nat.le_trans Zy12 Kcy18.1
  have Ky18 := Ky12.trans Kcy18 (allS (Or.inr szy1) all0)
  refine Fin.step (sty18) ?_
  show Fin p e below s _ _ _ (Ty18.setTop (mkF m 184 #[rv a1, iv 5] [(.ref by1)]))
  refine Fin.retR Xy18 hx hret rfl rfl hlk (hb hby d9_184) (by decide) (by decide) ?_
  show QstL5 Z a1 ka asl wc h0 n0 _ Ty18.heap _
  exact ⟨nb_y18, kn_y18, by1, rfl, szy1, szy18_0, Ny18, Ky18, (ry13.keep Kcy18), fy18_0, fy18_1, fy18_2, ney18_0⟩
theorem d9_185 : decode method_4_code 185 = .ok (.iload_n 1, 1) := by decide +kernel
theorem d9_186 : decode method_4_code 186 = .ok (.bipush 6, 2) := by decide +kernel
theorem d9_188 : decode method_4_code 188 = .ok (.if_icmp .ne 51, 3) := by decide +kernel
theorem d9_191 : decode method_4_code 191 = .ok (.new 8, 3) := by decide +kernel
theorem d9_194 : decode method_4_code 194 = .ok (.dup, 1) := by decide +kernel
theorem d9_195 : decode method_4_code 195 = .ok (.bipush 6, 2) := by decide +kernel
theorem d9_197 : decode method_4_code 197 = .ok (.newarray .char, 2) := by decide +kernel
theorem d9_199 : decode method_4_code 199 = .ok (.dup, 1) := by decide +kernel
theorem d9_200 : decode method_4_code 200 = .ok (.iconst 0, 1) := by decide +kernel
theorem d9_201 : decode method_4_code 201 = .ok (.aload_n 0, 1) := by decide +kernel
theorem d9_202 : decode method_4_code 202 = .ok (.iconst 0, 1) := by decide +kernel
theorem d9_203 : decode method_4_code 203 = .ok (.caload, 1) := by decide +kernel
theorem d9_204 : decode method_4_code 204 = .ok (.castore, 1) := by decide +kernel
theorem d9_205 : decode method_4_code 205 = .ok (.dup, 1) := by decide +kernel
theorem d9_206 : decode method_4_code 206 = .ok (.iconst 1, 1) := by decide +kernel
theorem d9_207 : decode method_4_code 207 = .ok (.aload_n 0, 1) := by decide +kernel
theorem d9_208 : decode method_4_code 208 = .ok (.iconst 1, 1) := by decide +kernel
theorem d9_209 : decode method_4_code 209 = .ok (.caload, 1) := by decide +kernel
theorem d9_210 : decode method_4_code 210 = .ok (.castore, 1) := by decide +kernel
theorem d9_211 : decode method_4_code 211 = .ok (.dup, 1) := by decide +kernel
theorem d9_212 : decode method_4_code 212 = .ok (.iconst 2, 1) := by decide +kernel
theorem d9_213 : decode method_4_code 213 = .ok (.aload_n 0, 1) := by decide +kernel
theorem d9_214 : decode method_4_code 214 = .ok (.iconst 2, 1) := by decide +kernel
theorem d9_215 : decode method_4_code 215 = .ok (.caload, 1) := by decide +kernel
theorem d9_216 : decode method_4_code 216 = .ok (.castore, 1) := by decide +kernel
theorem d9_217 : decode method_4_code 217 = .ok (.dup, 1) := by decide +kernel
theorem d9_218 : decode method_4_code 218 = .ok (.iconst 3, 1) := by decide +kernel
theorem d9_219 : decode method_4_code 219 = .ok (.aload_n 0, 1) := by decide +kernel
theorem d9_220 : decode method_4_code 220 = .ok (.iconst 3, 1) := by decide +kernel
theorem d9_221 : decode method_4_code 221 = .ok (.caload, 1) := by decide +kernel
theorem d9_222 : decode method_4_code 222 = .ok (.castore, 1) := by decide +kernel
theorem d9_223 : decode method_4_code 223 = .ok (.dup, 1) := by decide +kernel
theorem d9_224 : decode method_4_code 224 = .ok (.iconst 4, 1) := by decide +kernel
theorem d9_225 : decode method_4_code 225 = .ok (.aload_n 0, 1) := by decide +kernel
theorem d9_226 : decode method_4_code 226 = .ok (.iconst 4, 1) := by decide +kernel
theorem d9_227 : decode method_4_code 227 = .ok (.caload, 1) := by decide +kernel
theorem d9_228 : decode method_4_code 228 = .ok (.castore, 1) := by decide +kernel
theorem d9_229 : decode method_4_code 229 = .ok (.dup, 1) := by decide +kernel
theorem d9_230 : decode method_4_code 230 = .ok (.iconst 5, 1) := by decide +kernel
theorem d9_231 : decode method_4_code 231 = .ok (.aload_n 0, 1) := by decide +kernel
theorem d9_232 : decode method_4_code 232 = .ok (.iconst 5, 1) := by decide +kernel
theorem d9_233 : decode method_4_code 233 = .ok (.caload, 1) := by decide +kernel
theorem d9_234 : decode method_4_code 234 = .ok (.castore, 1) := by decide +kernel
theorem d9_235 : decode method_4_code 235 = .ok (.invokespecial 19, 3) := by decide +kernel
theorem d9_238 : decode method_4_code 238 = .ok (.areturn, 1) := by decide +kernel
theorem ef_rmstL6 (m : MethodId) (x0 : Addr) : entryFrame m #[(.ref x0), (.int (6 : Int32))] 2 = mkF m 0 #[.val (.ref x0), .val (.int (6 : Int32))] [] := by first | (simp [entryFrame, mkF, argsToLocals, Value.category]; done) | rfl
abbrev R_rmstL6 : Room := ({ frames := 6, cells := 8, slots := 64, locals := 120 } : Room)
def QstL6 (Z : State) (a1 : Addr) (ka : ClassId) (asl : List Value) (wc : Int32) (h0 : Heap) (n0 : Nat) (v : Option Value) (h : Heap) (L : List Loc) : Prop := ∃ nb : Addr, ∃ kn : ClassId, ∃ so : Addr, v = some (.ref so) ∧ h0.size ≤ so ∧ h0.size ≤ nb ∧ Fr n0 L ∧ Keep h0 h [] ∧ Exa Z h so q3 ∧ Fld Z h so q3 "coder" "B" (.int 0) ∧ Fld Z h so q3 "value" "[B" (.ref nb) ∧ Arv Z h nb kn .byte (6 : Int32) (own_app (List.replicate (6 : Int32).toNatClampNeg (.int 0)) (own_tk asl 6) 0 ((6 : Int32)).toNatClampNeg) (.int 0) ∧ so ≠ nb
set_option maxRecDepth 65536 in
set_option maxHeartbeats 40000000 in
theorem rmstL6 (l : Launch) (Z : State) (a0 : Array Value) (hw : ∀ d ∈ tables_1, d.before a0 Z = true) (ws : List Jvm.Cond) (a1 : Addr) (ka : ClassId) (asl : List Value) (wc : Int32) (h0 : Heap) (n0 : Nat) (Z0 : n0 ≤ h0.size) (HV_a1 : Arv Z h0 a1 ka .char (8 : Int32) asl (.int 0)) (HS_java_lang_String_COMPACT_STRINGS : Sta Z h0 q3 q7 "Z" (.int wc)) (hca : own_chs asl) (hwc : ¬ wc = 0) (hlat : ∀ i, i < (6 : Int32).toNatClampNeg → ¬ (255 : Int32) < own_gt (own_tk asl 6) i) :
    Met1 l n9 method_4_code 2 (some (.object "java/lang/String")) ws R_rmstL6 #[(.ref a1), (.int 6)] Z h0 (QstL6 Z a1 ka asl wc h0 n0) := by
  refine Met1.enter (plainFor_of_name pn_9) (fun m => ef_rmstL6 m a1) fun p e s m below meth c s₁ hx hby hlk hret hml hown hnm hZ X0 e0 => ?_
  have N0 := Fr.nil n0
  have K0 : Keep h0 h0 [] := Keep.refl h0 _
  show Fin p e below s _ _ _ (s₁.setTop (mkF m 0 #[rv a1, iv 6] []))
  refine Fin.step (fun _ k => Yo.iloadN X0.here hx (hb hby d9_0) rfl (Yo.ifYes X0.here hx (pc0 := 1) (pc' := 15) rfl (hb hby d9_1) rfl ((if0 _ _).trans (feq ((by decide) : ¬ ((6 : Int32) = (0 : Int32)))).2) (by decide) (by decide) (Yo.iloadN X0.here hx (hb hby d9_15) rfl (Yo.iconst X0.here hx (hb hby d9_16) (Yo.icmpYes X0.here hx (pc0 := 17) (pc' := 37) rfl (hb hby d9_17) rfl (feq ((by decide) : ¬ ((6 : Int32) = (1 : Int32)))).2 (by decide) (by decide) (Yo.iloadN X0.here hx (hb hby d9_37) rfl (Yo.iconst X0.here hx (hb hby d9_38) (Yo.icmpYes X0.here hx (pc0 := 39) (pc' := 65) rfl (hb hby d9_39) rfl (feq ((by decide) : ¬ ((6 : Int32) = (2 : Int32)))).2 (by decide) (by decide) k)))))))) ?_
  refine Fin.step (fun _ k => Yo.iloadN X0.here hx (hb hby d9_65) rfl (Yo.iconst X0.here hx (hb hby d9_66) (Yo.icmpYes X0.here hx (pc0 := 67) (pc' := 99) rfl (hb hby d9_67) rfl (feq ((by decide) : ¬ ((6 : Int32) = (3 : Int32)))).2 (by decide) (by decide) (Yo.iloadN X0.here hx (hb hby d9_99) rfl (Yo.iconst X0.here hx (hb hby d9_100) (Yo.icmpYes X0.here hx (pc0 := 101) (pc' := 139) rfl (hb hby d9_101) rfl (feq ((by decide) : ¬ ((6 : Int32) = (4 : Int32)))).2 (by decide) (by decide) (Yo.iloadN X0.here hx (hb hby d9_139) rfl (Yo.iconst X0.here hx (hb hby d9_140) k)))))))) ?_
  refine Fin.step (fun _ k => Yo.icmpYes X0.here hx (pc0 := 141) (pc' := 185) rfl (hb hby d9_141) rfl (feq ((by decide) : ¬ ((6 : Int32) = (5 : Int32)))).2 (by decide) (by decide) (Yo.iloadN X0.here hx (hb hby d9_185) rfl (Yo.bipush X0.here hx (hb hby d9_186) (Yo.icmpNo X0.here hx (hb hby d9_188) rfl (teq ((by decide) : ((6 : Int32) = (6 : Int32)))).2 k)))) ?_
  obtain ⟨Ty1, hy1, Xy1, ey1, Ey1, Ay1, Dy1, -, sty1⟩ := newO X0 hx hZ hown (W_ hw 55) (W_ hw 4) (W_ hw 3) e0 (g := (mkF m 191 #[rv a1, iv 6] [])) rfl (hb hby d9_191) (by decide) (by decide)
  obtain ⟨by1, gy1⟩ : ∃ z, z = h0.size := ⟨_, rfl⟩
  rw [← gy1] at Ay1 Dy1 sty1
  have gzy1 : n0 ≤ by1 := Nat.le_trans Z0 (Nat.le_of_eq gy1.symm)
  have szy1 : h0.size ≤ by1 := Nat.le_trans K0.1 (Nat.le_of_eq gy1.symm)
  have Zy1 := Nat.le_trans Z0 Ey1.1
  have Ky1 := K0.ext Ey1
  have F_value_by1 : Fld Z hy1 by1 q3 "value" "[B" .null := Dy1 (Or.inr (W_ hw 6)) (ty := (.array .byte)) (by decide)
  have F_coder_by1 : Fld Z hy1 by1 q3 "coder" "B" (.int 0) := Dy1 (Or.inr (W_ hw 7)) (ty := .byte) (by decide)
  refine Fin.step (sty1) ?_
  show Fin p e below s _ _ _ (Ty1.setTop (mkF m 194 #[rv a1, iv 6] [(.ref by1)]))
  refine Fin.step (fun _ k => Yo.dup Xy1.here hx (hb hby d9_194) rfl rfl (Yo.bipush Xy1.here hx (hb hby d9_195) k)) ?_
  obtain ⟨Ty2, hy2, ky2, Xy2, ey2, Ey2, Ay2, sty2⟩ := newP Xy1 hx hZ (W_ hw 1) ey1 (g := (mkF m 197 #[rv a1, iv 6] [(.int 6), (.ref by1), (.ref by1)])) rfl (hb hby d9_197) rfl (by decide) (cap := 6) (by decide) (by decide) (by decide) (by decide)
  obtain ⟨by2, gy2⟩ : ∃ z, z = hy1.size := ⟨_, rfl⟩
  rw [← gy2] at Ay2 sty2
  have gzy2 : n0 ≤ by2 := Nat.le_trans Zy1 (Nat.le_of_eq gy2.symm)
  have szy2 : h0.size ≤ by2 := Nat.le_trans Ky1.1 (Nat.le_of_eq gy2.symm)
  have Zy2 := Nat.le_trans Zy1 Ey2.1
  have Ky2 := Ky1.ext Ey2
  have Vy2 : Arv Z hy2 by2 ky2 .char (6 : Int32) [(.int 0), (.int 0), (.int 0), (.int 0), (.int 0), (.int 0)] (.int 0) := (Arv.new Ay2 (by decide)).pad (pad_rep [] (.int 0) 6)
  refine Fin.step (sty2) ?_
  show Fin p e below s _ _ _ (Ty2.setTop (mkF m 199 #[rv a1, iv 6] [(.ref by2), (.ref by1), (.ref by1)]))
  refine Fin.step (fun _ k => Yo.dup Xy2.here hx (hb hby d9_199) rfl rfl (Yo.iconst Xy2.here hx (hb hby d9_200) (Yo.aloadN Xy2.here hx (hb hby d9_201) rfl rfl (Yo.iconst Xy2.here hx (hb hby d9_202) (cld3 Xy2 hx hZ ey2 (j := 0) (v := (.int (own_gt asl 0))) (HV_a1.keep Ky2 nin0) ⟨by decide, by decide⟩ (own_lg hca 0) (hb hby d9_203) k))))) ?_
  obtain ⟨Ty4, hy4, Xy4, ey4, Wy4, Vy4, Ny4, Zy4, Ky4, sty4⟩ := cst3 Xy2 hx hZ ey2 (j := 0) (x := (own_gt asl 0)) (ix := 0) Vy2 ⟨by decide, by decide⟩ rfl (lb rfl) N0 Zy2 Ky2 gzy2 (Or.inr szy2) (hb hby d9_204)
  refine Fin.step (sty4) ?_
  refine Fin.step (fun _ k => Yo.dup Xy4.here hx (hb hby d9_205) rfl rfl (Yo.iconst Xy4.here hx (hb hby d9_206) (Yo.aloadN Xy4.here hx (hb hby d9_207) rfl rfl (Yo.iconst Xy4.here hx (hb hby d9_208) (cld3 Xy4 hx hZ ey4 (j := 1) (v := (.int (own_gt asl 1))) (HV_a1.keep Ky4 nin0) ⟨by decide, by decide⟩ (own_lg hca 1) (hb hby d9_209) k))))) ?_
  obtain ⟨Ty6, hy6, Xy6, ey6, Wy6, Vy6, Ny6, Zy6, Ky6, sty6⟩ := cst3 Xy4 hx hZ ey4 (j := 1) (x := (own_gt asl 1)) (ix := 1) Vy4 ⟨by decide, by decide⟩ rfl (lb rfl) Ny4 Zy4 Ky4 gzy2 (Or.inr szy2) (hb hby d9_210)
  refine Fin.step (sty6) ?_
  refine Fin.step (fun _ k => Yo.dup Xy6.here hx (hb hby d9_211) rfl rfl (Yo.iconst Xy6.here hx (hb hby d9_212) (Yo.aloadN Xy6.here hx (hb hby d9_213) rfl rfl (Yo.iconst Xy6.here hx (hb hby d9_214) (cld3 Xy6 hx hZ ey6 (j := 2) (v := (.int (own_gt asl 2))) (HV_a1.keep Ky6 nin0) ⟨by decide, by decide⟩ (own_lg hca 2) (hb hby d9_215) k))))) ?_
  obtain ⟨Ty8, hy8, Xy8, ey8, Wy8, Vy8, Ny8, Zy8, Ky8, sty8⟩ := cst3 Xy6 hx hZ ey6 (j := 2) (x := (own_gt asl 2)) (ix := 2) Vy6 ⟨by decide, by decide⟩ rfl (lb rfl) Ny6 Zy6 Ky6 gzy2 (Or.inr szy2) (hb hby d9_216)
  refine Fin.step (sty8) ?_
  refine Fin.step (fun _ k => Yo.dup Xy8.here hx (hb hby d9_217) rfl rfl (Yo.iconst Xy8.here hx (hb hby d9_218) (Yo.aloadN Xy8.here hx (hb hby d9_219) rfl rfl (Yo.iconst Xy8.here hx (hb hby d9_220) (cld3 Xy8 hx hZ ey8 (j := 3) (v := (.int (own_gt asl 3))) (HV_a1.keep Ky8 nin0) ⟨by decide, by decide⟩ (own_lg hca 3) (hb hby d9_221) k))))) ?_
  obtain ⟨Ty10, hy10, Xy10, ey10, Wy10, Vy10, Ny10, Zy10, Ky10, sty10⟩ := cst3 Xy8 hx hZ ey8 (j := 3) (x := (own_gt asl 3)) (ix := 3) Vy8 ⟨by decide, by decide⟩ rfl (lb rfl) Ny8 Zy8 Ky8 gzy2 (Or.inr szy2) (hb hby d9_222)
  refine Fin.step (sty10) ?_
  refine Fin.step (fun _ k => Yo.dup Xy10.here hx (hb hby d9_223) rfl rfl (Yo.iconst Xy10.here hx (hb hby d9_224) (Yo.aloadN Xy10.here hx (hb hby d9_225) rfl rfl (Yo.iconst Xy10.here hx (hb hby d9_226) (cld3 Xy10 hx hZ ey10 (j := 4) (v := (.int (own_gt asl 4))) (HV_a1.keep Ky10 nin0) ⟨by decide, by decide⟩ (own_lg hca 4) (hb hby d9_227) k))))) ?_
  obtain ⟨Ty12, hy12, Xy12, ey12, Wy12, Vy12, Ny12, Zy12, Ky12, sty12⟩ := cst3 Xy10 hx hZ ey10 (j := 4) (x := (own_gt asl 4)) (ix := 4) Vy10 ⟨by decide, by decide⟩ rfl (lb rfl) Ny10 Zy10 Ky10 gzy2 (Or.inr szy2) (hb hby d9_228)
  refine Fin.step (sty12) ?_
  refine Fin.step (fun _ k => Yo.dup Xy12.here hx (hb hby d9_229) rfl rfl (Yo.iconst Xy12.here hx (hb hby d9_230) (Yo.aloadN Xy12.here hx (hb hby d9_231) rfl rfl (Yo.iconst Xy12.here hx (hb hby d9_232) (cld3 Xy12 hx hZ ey12 (j := 5) (v := (.int (own_gt asl 5))) (HV_a1.keep Ky12 nin0) ⟨by decide, by decide⟩ (own_lg hca 5) (hb hby d9_233) k))))) ?_
  obtain ⟨Ty14, hy14, Xy14, ey14, Wy14, Vy14, Ny14, Zy14, Ky14, sty14⟩ := cst3 Xy12 hx hZ ey12 (j := 5) (x := (own_gt asl 5)) (ix := 5) Vy12 ⟨by decide, by decide⟩ rfl (lb rfl) Ny12 Zy12 Ky12 gzy2 (Or.inr szy2) (hb hby d9_234)
  refine Fin.step (sty14) ?_
  have ry15 := (((((((Ay1.ext Ey2).wr Wy4).wr Wy6).wr Wy8).wr Wy10).wr Wy12).wr Wy14)
  have ney16 := nlt Ay1.lt (Nat.le_of_eq gy2.symm)
  have ry17 := (((((((F_coder_by1.ext Ey2).other Wy4 (Or.inl ney16)).other Wy6 (Or.inl ney16)).other Wy8 (Or.inl ney16)).other Wy10 (Or.inl ney16)).other Wy12 (Or.inl ney16)).other Wy14 (Or.inl ney16))
  have ry18 := (((((((F_value_by1.ext Ey2).other Wy4 (Or.inl ney16)).other Wy6 (Or.inl ney16)).other Wy8 (Or.inl ney16)).other Wy10 (Or.inl ney16)).other Wy12 (Or.inl ney16)).other Wy14 (Or.inl ney16))
  have ry19 := (Sta_keep HS_java_lang_String_COMPACT_STRINGS Ky14)
  obtain ⟨_, Ty20, Lcy20, Xy20, hQy20, sty20⟩ := pack (Xy14.specialBack hx (y := n10) rfl hown (mvT hZ (W_ hw 56)) (mvT hZ (W_ hw 57)) (mvT hZ (W_ hw 58)) (by decide) (backOf (W := 1) (rmsi1L l Z a0 hw [] by1 by2 6 ky2 _ wc hy14 n0 Zy14 ry15 ry17 ry18 Vy14 ry19 gzy1 (by decide) (own_tkc asl 6) hwc (by decide) hlat ney16) hZ (W_ hw 58) (W_ hw 3) (by decide) (by decide)) (g := (mkF m 235 #[rv a1, iv 6] [(.ref by2), (.ref by1), (.ref by1)])) rfl (by rw [hml]; rfl) (Steps.refl _) (a := by1) (argsL := [(.ref by2)]) (rest := [(.ref by1)]) (lenOf pd_8 rfl) rfl (lb rfl) (hb hby d9_235) (fun _ _ => ⟨rfl, ey14, (by decide : 2 + 1 ≤ _), (by decide : 10 + 8 ≤ _)⟩))
  obtain ⟨nb_y20, kn_y20, rfl, bfy20_0, Nqy20, Kcy20, fy20_0, fy20_1, fy20_2, ney20_0⟩ := hQy20
  have Ny20 := Fr.app Ny14 Nqy20
  have gzy20_0 : n0 ≤ nb_y20 := Nat.le_trans Zy14 bfy20_0
  have szy20_0 : h0.size ≤ nb_y20 := Nat.le_trans Ky14.1 bfy20_0
  have Zy20 := Nat.le_trans Zy14 Kcy20.1
  have Ky20 := Ky14.trans Kcy20 (allS (Or.inr szy1) all0)
  refine Fin.step (sty20) ?_
  show Fin p e below s _ _ _ (Ty20.setTop (mkF m 238 #[rv a1, iv 6] [(.ref by1)]))
  refine Fin.retR Xy20 hx hret rfl rfl hlk (hb hby d9_238) (by decide) (by decide) ?_
  show QstL6 Z a1 ka asl wc h0 n0 _ Ty20.heap _
  exact ⟨nb_y20, kn_y20, by1, rfl, szy1, szy20_0, Ny20, Ky20, (ry15.keep Kcy20), fy20_0, fy20_1, fy20_2, ney20_0⟩
theorem d9_239 : decode method_4_code 239 = .ok (.iload_n 1, 1) := by decide +kernel
theorem d9_240 : decode method_4_code 240 = .ok (.bipush 7, 2) := by decide +kernel
theorem d9_242 : decode method_4_code 242 = .ok (.if_icmp .ne 59, 3) := by decide +kernel
theorem d9_245 : decode method_4_code 245 = .ok (.new 8, 3) := by decide +kernel
theorem d9_248 : decode method_4_code 248 = .ok (.dup, 1) := by decide +kernel
theorem d9_249 : decode method_4_code 249 = .ok (.bipush 7, 2) := by decide +kernel
theorem d9_251 : decode method_4_code 251 = .ok (.newarray .char, 2) := by decide +kernel
theorem d9_253 : decode method_4_code 253 = .ok (.dup, 1) := by decide +kernel
theorem d9_254 : decode method_4_code 254 = .ok (.iconst 0, 1) := by decide +kernel
theorem d9_255 : decode method_4_code 255 = .ok (.aload_n 0, 1) := by decide +kernel
theorem d9_256 : decode method_4_code 256 = .ok (.iconst 0, 1) := by decide +kernel
theorem d9_257 : decode method_4_code 257 = .ok (.caload, 1) := by decide +kernel
theorem d9_258 : decode method_4_code 258 = .ok (.castore, 1) := by decide +kernel
theorem d9_259 : decode method_4_code 259 = .ok (.dup, 1) := by decide +kernel
theorem d9_260 : decode method_4_code 260 = .ok (.iconst 1, 1) := by decide +kernel
theorem d9_261 : decode method_4_code 261 = .ok (.aload_n 0, 1) := by decide +kernel
theorem d9_262 : decode method_4_code 262 = .ok (.iconst 1, 1) := by decide +kernel
theorem d9_263 : decode method_4_code 263 = .ok (.caload, 1) := by decide +kernel
theorem d9_264 : decode method_4_code 264 = .ok (.castore, 1) := by decide +kernel
theorem d9_265 : decode method_4_code 265 = .ok (.dup, 1) := by decide +kernel
theorem d9_266 : decode method_4_code 266 = .ok (.iconst 2, 1) := by decide +kernel
theorem d9_267 : decode method_4_code 267 = .ok (.aload_n 0, 1) := by decide +kernel
theorem d9_268 : decode method_4_code 268 = .ok (.iconst 2, 1) := by decide +kernel
theorem d9_269 : decode method_4_code 269 = .ok (.caload, 1) := by decide +kernel
theorem d9_270 : decode method_4_code 270 = .ok (.castore, 1) := by decide +kernel
theorem d9_271 : decode method_4_code 271 = .ok (.dup, 1) := by decide +kernel
theorem d9_272 : decode method_4_code 272 = .ok (.iconst 3, 1) := by decide +kernel
theorem d9_273 : decode method_4_code 273 = .ok (.aload_n 0, 1) := by decide +kernel
theorem d9_274 : decode method_4_code 274 = .ok (.iconst 3, 1) := by decide +kernel
theorem d9_275 : decode method_4_code 275 = .ok (.caload, 1) := by decide +kernel
theorem d9_276 : decode method_4_code 276 = .ok (.castore, 1) := by decide +kernel
theorem d9_277 : decode method_4_code 277 = .ok (.dup, 1) := by decide +kernel
theorem d9_278 : decode method_4_code 278 = .ok (.iconst 4, 1) := by decide +kernel
theorem d9_279 : decode method_4_code 279 = .ok (.aload_n 0, 1) := by decide +kernel
theorem d9_280 : decode method_4_code 280 = .ok (.iconst 4, 1) := by decide +kernel
theorem d9_281 : decode method_4_code 281 = .ok (.caload, 1) := by decide +kernel
theorem d9_282 : decode method_4_code 282 = .ok (.castore, 1) := by decide +kernel
theorem d9_283 : decode method_4_code 283 = .ok (.dup, 1) := by decide +kernel
theorem d9_284 : decode method_4_code 284 = .ok (.iconst 5, 1) := by decide +kernel
theorem d9_285 : decode method_4_code 285 = .ok (.aload_n 0, 1) := by decide +kernel
theorem d9_286 : decode method_4_code 286 = .ok (.iconst 5, 1) := by decide +kernel
theorem d9_287 : decode method_4_code 287 = .ok (.caload, 1) := by decide +kernel
theorem d9_288 : decode method_4_code 288 = .ok (.castore, 1) := by decide +kernel
theorem d9_289 : decode method_4_code 289 = .ok (.dup, 1) := by decide +kernel
theorem d9_290 : decode method_4_code 290 = .ok (.bipush 6, 2) := by decide +kernel
theorem d9_292 : decode method_4_code 292 = .ok (.aload_n 0, 1) := by decide +kernel
theorem d9_293 : decode method_4_code 293 = .ok (.bipush 6, 2) := by decide +kernel
theorem d9_295 : decode method_4_code 295 = .ok (.caload, 1) := by decide +kernel
theorem d9_296 : decode method_4_code 296 = .ok (.castore, 1) := by decide +kernel
theorem d9_297 : decode method_4_code 297 = .ok (.invokespecial 19, 3) := by decide +kernel
theorem d9_300 : decode method_4_code 300 = .ok (.areturn, 1) := by decide +kernel
theorem ef_rmstL7 (m : MethodId) (x0 : Addr) : entryFrame m #[(.ref x0), (.int (7 : Int32))] 2 = mkF m 0 #[.val (.ref x0), .val (.int (7 : Int32))] [] := by first | (simp [entryFrame, mkF, argsToLocals, Value.category]; done) | rfl
abbrev R_rmstL7 : Room := ({ frames := 6, cells := 8, slots := 64, locals := 120 } : Room)
def QstL7 (Z : State) (a1 : Addr) (ka : ClassId) (asl : List Value) (wc : Int32) (h0 : Heap) (n0 : Nat) (v : Option Value) (h : Heap) (L : List Loc) : Prop := ∃ nb : Addr, ∃ kn : ClassId, ∃ so : Addr, v = some (.ref so) ∧ h0.size ≤ so ∧ h0.size ≤ nb ∧ Fr n0 L ∧ Keep h0 h [] ∧ Exa Z h so q3 ∧ Fld Z h so q3 "coder" "B" (.int 0) ∧ Fld Z h so q3 "value" "[B" (.ref nb) ∧ Arv Z h nb kn .byte (7 : Int32) (own_app (List.replicate (7 : Int32).toNatClampNeg (.int 0)) (own_tk asl 7) 0 ((7 : Int32)).toNatClampNeg) (.int 0) ∧ so ≠ nb
set_option maxRecDepth 65536 in
set_option maxHeartbeats 40000000 in
theorem rmstL7 (l : Launch) (Z : State) (a0 : Array Value) (hw : ∀ d ∈ tables_1, d.before a0 Z = true) (ws : List Jvm.Cond) (a1 : Addr) (ka : ClassId) (asl : List Value) (wc : Int32) (h0 : Heap) (n0 : Nat) (Z0 : n0 ≤ h0.size) (HV_a1 : Arv Z h0 a1 ka .char (8 : Int32) asl (.int 0)) (HS_java_lang_String_COMPACT_STRINGS : Sta Z h0 q3 q7 "Z" (.int wc)) (hca : own_chs asl) (hwc : ¬ wc = 0) (hlat : ∀ i, i < (7 : Int32).toNatClampNeg → ¬ (255 : Int32) < own_gt (own_tk asl 7) i) :
    Met1 l n9 method_4_code 2 (some (.object "java/lang/String")) ws R_rmstL7 #[(.ref a1), (.int 7)] Z h0 (QstL7 Z a1 ka asl wc h0 n0) := by
  refine Met1.enter (plainFor_of_name pn_9) (fun m => ef_rmstL7 m a1) fun p e s m below meth c s₁ hx hby hlk hret hml hown hnm hZ X0 e0 => ?_
  have N0 := Fr.nil n0
  have K0 : Keep h0 h0 [] := Keep.refl h0 _
  show Fin p e below s _ _ _ (s₁.setTop (mkF m 0 #[rv a1, iv 7] []))
  refine Fin.step (fun _ k => Yo.iloadN X0.here hx (hb hby d9_0) rfl (Yo.ifYes X0.here hx (pc0 := 1) (pc' := 15) rfl (hb hby d9_1) rfl ((if0 _ _).trans (feq ((by decide) : ¬ ((7 : Int32) = (0 : Int32)))).2) (by decide) (by decide) (Yo.iloadN X0.here hx (hb hby d9_15) rfl (Yo.iconst X0.here hx (hb hby d9_16) (Yo.icmpYes X0.here hx (pc0 := 17) (pc' := 37) rfl (hb hby d9_17) rfl (feq ((by decide) : ¬ ((7 : Int32) = (1 : Int32)))).2 (by decide) (by decide) (Yo.iloadN X0.here hx (hb hby d9_37) rfl (Yo.iconst X0.here hx (hb hby d9_38) (Yo.icmpYes X0.here hx (pc0 := 39) (pc' := 65) rfl (hb hby d9_39) rfl (feq ((by decide) : ¬ ((7 : Int32) = (2 : Int32)))).2 (by decide) (by decide) k)))))))) ?_
  refine Fin.step (fun _ k => Yo.iloadN X0.here hx (hb hby d9_65) rfl (Yo.iconst X0.here hx (hb hby d9_66) (Yo.icmpYes X0.here hx (pc0 := 67) (pc' := 99) rfl (hb hby d9_67) rfl (feq ((by decide) : ¬ ((7 : Int32) = (3 : Int32)))).2 (by decide) (by decide) (Yo.iloadN X0.here hx (hb hby d9_99) rfl (Yo.iconst X0.here hx (hb hby d9_100) (Yo.icmpYes X0.here hx (pc0 := 101) (pc' := 139) rfl (hb hby d9_101) rfl (feq ((by decide) : ¬ ((7 : Int32) = (4 : Int32)))).2 (by decide) (by decide) (Yo.iloadN X0.here hx (hb hby d9_139) rfl (Yo.iconst X0.here hx (hb hby d9_140) k)))))))) ?_
  refine Fin.step (fun _ k => Yo.icmpYes X0.here hx (pc0 := 141) (pc' := 185) rfl (hb hby d9_141) rfl (feq ((by decide) : ¬ ((7 : Int32) = (5 : Int32)))).2 (by decide) (by decide) (Yo.iloadN X0.here hx (hb hby d9_185) rfl (Yo.bipush X0.here hx (hb hby d9_186) (Yo.icmpYes X0.here hx (pc0 := 188) (pc' := 239) rfl (hb hby d9_188) rfl (feq ((by decide) : ¬ ((7 : Int32) = (6 : Int32)))).2 (by decide) (by decide) (Yo.iloadN X0.here hx (hb hby d9_239) rfl (Yo.bipush X0.here hx (hb hby d9_240) (Yo.icmpNo X0.here hx (hb hby d9_242) rfl (teq ((by decide) : ((7 : Int32) = (7 : Int32)))).2 k))))))) ?_
  obtain ⟨Ty1, hy1, Xy1, ey1, Ey1, Ay1, Dy1, -, sty1⟩ := newO X0 hx hZ hown (W_ hw 55) (W_ hw 4) (W_ hw 3) e0 (g := (mkF m 245 #[rv a1, iv 7] [])) rfl (hb hby d9_245) (by decide) (by decide)
  obtain ⟨by1, gy1⟩ : ∃ z, z = h0.size := ⟨_, rfl⟩
  rw [← gy1] at Ay1 Dy1 sty1
  have gzy1 : n0 ≤ by1 := Nat.le_trans Z0 (Nat.le_of_eq gy1.symm)
  have szy1 : h0.size ≤ by1 := Nat.le_trans K0.1 (Nat.le_of_eq gy1.symm)
  have Zy1 := Nat.le_trans Z0 Ey1.1
  have Ky1 := K0.ext Ey1
  have F_value_by1 : Fld Z hy1 by1 q3 "value" "[B" .null := Dy1 (Or.inr (W_ hw 6)) (ty := (.array .byte)) (by decide)
  have F_coder_by1 : Fld Z hy1 by1 q3 "coder" "B" (.int 0) := Dy1 (Or.inr (W_ hw 7)) (ty := .byte) (by decide)
  refine Fin.step (sty1) ?_
  show Fin p e below s _ _ _ (Ty1.setTop (mkF m 248 #[rv a1, iv 7] [(.ref by1)]))
  refine Fin.step (fun _ k => Yo.dup Xy1.here hx (hb hby d9_248) rfl rfl (Yo.bipush Xy1.here hx (hb hby d9_249) k)) ?_
  obtain ⟨Ty2, hy2, ky2, Xy2, ey2, Ey2, Ay2, sty2⟩ := newP Xy1 hx hZ (W_ hw 1) ey1 (g := (mkF m 251 #[rv a1, iv 7] [(.int 7), (.ref by1), (.ref by1)])) rfl (hb hby d9_251) rfl (by decide) (cap := 7) (by decide) (by decide) (by decide) (by decide)
  obtain ⟨by2, gy2⟩ : ∃ z, z = hy1.size := ⟨_, rfl⟩
  rw [← gy2] at Ay2 sty2
  have gzy2 : n0 ≤ by2 := Nat.le_trans Zy1 (Nat.le_of_eq gy2.symm)
  have szy2 : h0.size ≤ by2 := Nat.le_trans Ky1.1 (Nat.le_of_eq gy2.symm)
  have Zy2 := Nat.le_trans Zy1 Ey2.1
  have Ky2 := Ky1.ext Ey2
  have Vy2 : Arv Z hy2 by2 ky2 .char (7 : Int32) [(.int 0), (.int 0), (.int 0), (.int 0), (.int 0), (.int 0), (.int 0)] (.int 0) := (Arv.new Ay2 (by decide)).pad (pad_rep [] (.int 0) 7)
  refine Fin.step (sty2) ?_
  show Fin p e below s _ _ _ (Ty2.setTop (mkF m 253 #[rv a1, iv 7] [(.ref by2), (.ref by1), (.ref by1)]))
  refine Fin.step (fun _ k => Yo.dup Xy2.here hx (hb hby d9_253) rfl rfl (Yo.iconst Xy2.here hx (hb hby d9_254) (Yo.aloadN Xy2.here hx (hb hby d9_255) rfl rfl (Yo.iconst Xy2.here hx (hb hby d9_256) (cld3 Xy2 hx hZ ey2 (j := 0) (v := (.int (own_gt asl 0))) (HV_a1.keep Ky2 nin0) ⟨by decide, by decide⟩ (own_lg hca 0) (hb hby d9_257) k))))) ?_
  obtain ⟨Ty4, hy4, Xy4, ey4, Wy4, Vy4, Ny4, Zy4, Ky4, sty4⟩ := cst3 Xy2 hx hZ ey2 (j := 0) (x := (own_gt asl 0)) (ix := 0) Vy2 ⟨by decide, by decide⟩ rfl (lb rfl) N0 Zy2 Ky2 gzy2 (Or.inr szy2) (hb hby d9_258)
  refine Fin.step (sty4) ?_
  refine Fin.step (fun _ k => Yo.dup Xy4.here hx (hb hby d9_259) rfl rfl (Yo.iconst Xy4.here hx (hb hby d9_260) (Yo.aloadN Xy4.here hx (hb hby d9_261) rfl rfl (Yo.iconst Xy4.here hx (hb hby d9_262) (cld3 Xy4 hx hZ ey4 (j := 1) (v := (.int (own_gt asl 1))) (HV_a1.keep Ky4 nin0) ⟨by decide, by decide⟩ (own_lg hca 1) (hb hby d9_263) k))))) ?_
  obtain ⟨Ty6, hy6, Xy6, ey6, Wy6, Vy6, Ny6, Zy6, Ky6, sty6⟩ := cst3 Xy4 hx hZ ey4 (j := 1) (x := (own_gt asl 1)) (ix := 1) Vy4 ⟨by decide, by decide⟩ rfl (lb rfl) Ny4 Zy4 Ky4 gzy2 (Or.inr szy2) (hb hby d9_264)
  refine Fin.step (sty6) ?_
  refine Fin.step (fun _ k => Yo.dup Xy6.here hx (hb hby d9_265) rfl rfl (Yo.iconst Xy6.here hx (hb hby d9_266) (Yo.aloadN Xy6.here hx (hb hby d9_267) rfl rfl (Yo.iconst Xy6.here hx (hb hby d9_268) (cld3 Xy6 hx hZ ey6 (j := 2) (v := (.int (own_gt asl 2))) (HV_a1.keep Ky6 nin0) ⟨by decide, by decide⟩ (own_lg hca 2) (hb hby d9_269) k))))) ?_
  obtain ⟨Ty8, hy8, Xy8, ey8, Wy8, Vy8, Ny8, Zy8, Ky8, sty8⟩ := cst3 Xy6 hx hZ ey6 (j := 2) (x := (own_gt asl 2)) (ix := 2) Vy6 ⟨by decide, by decide⟩ rfl (lb rfl) Ny6 Zy6 Ky6 gzy2 (Or.inr szy2) (hb hby d9_270)
  refine Fin.step (sty8) ?_
  refine Fin.step (fun _ k => Yo.dup Xy8.here hx (hb hby d9_271) rfl rfl (Yo.iconst Xy8.here hx (hb hby d9_272) (Yo.aloadN Xy8.here hx (hb hby d9_273) rfl rfl (Yo.iconst Xy8.here hx (hb hby d9_274) (cld3 Xy8 hx hZ ey8 (j := 3) (v := (.int (own_gt asl 3))) (HV_a1.keep Ky8 nin0) ⟨by decide, by decide⟩ (own_lg hca 3) (hb hby d9_275) k))))) ?_
  obtain ⟨Ty10, hy10, Xy10, ey10, Wy10, Vy10, Ny10, Zy10, Ky10, sty10⟩ := cst3 Xy8 hx hZ ey8 (j := 3) (x := (own_gt asl 3)) (ix := 3) Vy8 ⟨by decide, by decide⟩ rfl (lb rfl) Ny8 Zy8 Ky8 gzy2 (Or.inr szy2) (hb hby d9_276)
  refine Fin.step (sty10) ?_
  refine Fin.step (fun _ k => Yo.dup Xy10.here hx (hb hby d9_277) rfl rfl (Yo.iconst Xy10.here hx (hb hby d9_278) (Yo.aloadN Xy10.here hx (hb hby d9_279) rfl rfl (Yo.iconst Xy10.here hx (hb hby d9_280) (cld3 Xy10 hx hZ ey10 (j := 4) (v := (.int (own_gt asl 4))) (HV_a1.keep Ky10 nin0) ⟨by decide, by decide⟩ (own_lg hca 4) (hb hby d9_281) k))))) ?_
  obtain ⟨Ty12, hy12, Xy12, ey12, Wy12, Vy12, Ny12, Zy12, Ky12, sty12⟩ := cst3 Xy10 hx hZ ey10 (j := 4) (x := (own_gt asl 4)) (ix := 4) Vy10 ⟨by decide, by decide⟩ rfl (lb rfl) Ny10 Zy10 Ky10 gzy2 (Or.inr szy2) (hb hby d9_282)
  refine Fin.step (sty12) ?_
  refine Fin.step (fun _ k => Yo.dup Xy12.here hx (hb hby d9_283) rfl rfl (Yo.iconst Xy12.here hx (hb hby d9_284) (Yo.aloadN Xy12.here hx (hb hby d9_285) rfl rfl (Yo.iconst Xy12.here hx (hb hby d9_286) (cld3 Xy12 hx hZ ey12 (j := 5) (v := (.int (own_gt asl 5))) (HV_a1.keep Ky12 nin0) ⟨by decide, by decide⟩ (own_lg hca 5) (hb hby d9_287) k))))) ?_
  obtain ⟨Ty14, hy14, Xy14, ey14, Wy14, Vy14, Ny14, Zy14, Ky14, sty14⟩ := cst3 Xy12 hx hZ ey12 (j := 5) (x := (own_gt asl 5)) (ix := 5) Vy12 ⟨by decide, by decide⟩ rfl (lb rfl) Ny12 Zy12 Ky12 gzy2 (Or.inr szy2) (hb hby d9_288)
  refine Fin.step (sty14) ?_
  refine Fin.step (fun _ k => Yo.dup Xy14.here hx (hb hby d9_289) rfl rfl (Yo.bipush Xy14.here hx (hb hby d9_290) (Yo.aloadN Xy14.here hx (hb hby d9_292) rfl rfl (Yo.bipush Xy14.here hx (hb hby d9_293) (cld3 Xy14 hx hZ ey14 (j := 6) (v := (.int (own_gt asl 6))) (HV_a1.keep Ky14 nin0) ⟨by decide, by decide⟩ (own_lg hca 6) (hb hby d9_295) k))))) ?_
  obtain ⟨Ty16, hy16, Xy16, ey16, Wy16, Vy16, Ny16, Zy16, Ky16, sty16⟩ := cst3 Xy14 hx hZ ey14 (j := 6) (x := (own_gt asl 6)) (ix := 6) Vy14 ⟨by decide, by decide⟩ rfl (lb rfl) Ny14 Zy14 Ky14 gzy2 (Or.inr szy2) (hb hby d9_296)
  refine Fin.step (sty16) ?_
  have ry17 := ((((((((Ay1.ext Ey2).wr Wy4).wr Wy6).wr Wy8).wr Wy10).wr Wy12).wr Wy14).wr Wy16)
  have ney18 := nlt Ay1.lt (Nat.le_of_eq gy2.symm)
  have ry19 := ((((((((F_coder_by1.ext Ey2).other Wy4 (Or.inl ney18)).other Wy6 (Or.inl ney18)).other Wy8 (Or.inl ney18)).other Wy10 (Or.inl ney18)).other Wy12 (Or.inl ney18)).other Wy14 (Or.inl ney18)).other Wy16 (Or.inl ney18))
  have ry20 := ((((((((F_value_by1.ext Ey2).other Wy4 (Or.inl ney18)).other Wy6 (Or.inl ney18)).other Wy8 (Or.inl ney18)).other Wy10 (Or.inl ney18)).other Wy12 (Or.inl ney18)).other Wy14 (Or.inl ney18)).other Wy16 (Or.inl ney18))
  have ry21 := (Sta_keep HS_java_lang_String_COMPACT_STRINGS Ky16)
  obtain ⟨_, Ty22, Lcy22, Xy22, hQy22, sty22⟩ := pack (Xy16.specialBack hx (y := n10) rfl hown (mvT hZ (W_ hw 56)) (mvT hZ (W_ hw 57)) (mvT hZ (W_ hw 58)) (by decide) (backOf (W := 1) (rmsi1L l Z a0 hw [] by1 by2 7 ky2 _ wc hy16 n0 Zy16 ry17 ry19 ry20 Vy16 ry21 gzy1 (by decide) (own_tkc asl 7) hwc (by decide) hlat ney18) hZ (W_ hw 58) (W_ hw 3) (by decide) (by decide)) (g := (mkF m 297 #[rv a1, iv 7] [(.ref by2), (.ref by1), (.ref by1)])) rfl (by rw [hml]; rfl) (Steps.refl _) (a := by1) (argsL := [(.ref by2)]) (rest := [(.ref by1)]) (lenOf pd_8 rfl) rfl (lb rfl) (hb hby d9_297) (fun _ _ => ⟨rfl, ey16, (by decide : 2 + 1 ≤ _), (by decide : 11 + 8 ≤ _)⟩))
  obtain ⟨nb_y22, kn_y22, rfl, bfy22_0, Nqy22, Kcy22, fy22_0, fy22_1, fy22_2, ney22_0⟩ := hQy22
  have Ny22 := Fr.app Ny16 Nqy22
  have gzy22_0 : n0 ≤ nb_y22 := Nat.le_trans Zy16 bfy22_0
  have szy22_0 : h0.size ≤ nb_y22 := Nat.le_trans Ky16.1 bfy22_0
  have Zy22 := Nat.le_trans Zy16 Kcy22.1
  have Ky22 := Ky16.trans Kcy22 (allS (Or.inr szy1) all0)
  refine Fin.step (sty22) ?_
  show Fin p e below s _ _ _ (Ty22.setTop (mkF m 300 #[rv a1, iv 7] [(.ref by1)]))
  refine Fin.retR Xy22 hx hret rfl rfl hlk (hb hby d9_300) (by decide) (by decide) ?_
  show QstL7 Z a1 ka asl wc h0 n0 _ Ty22.heap _
  exact ⟨nb_y22, kn_y22, by1, rfl, szy1, szy22_0, Ny22, Ky22, (ry17.keep Kcy22), fy22_0, fy22_1, fy22_2, ney22_0⟩
theorem d9_301 : decode method_4_code 301 = .ok (.new 8, 3) := by decide +kernel
theorem d9_304 : decode method_4_code 304 = .ok (.dup, 1) := by decide +kernel
theorem d9_305 : decode method_4_code 305 = .ok (.bipush 8, 2) := by decide +kernel
theorem d9_307 : decode method_4_code 307 = .ok (.newarray .char, 2) := by decide +kernel
theorem d9_309 : decode method_4_code 309 = .ok (.dup, 1) := by decide +kernel
theorem d9_310 : decode method_4_code 310 = .ok (.iconst 0, 1) := by decide +kernel
theorem d9_311 : decode method_4_code 311 = .ok (.aload_n 0, 1) := by decide +kernel
theorem d9_312 : decode method_4_code 312 = .ok (.iconst 0, 1) := by decide +kernel
theorem d9_313 : decode method_4_code 313 = .ok (.caload, 1) := by decide +kernel
theorem d9_314 : decode method_4_code 314 = .ok (.castore, 1) := by decide +kernel
theorem d9_315 : decode method_4_code 315 = .ok (.dup, 1) := by decide +kernel
theorem d9_316 : decode method_4_code 316 = .ok (.iconst 1, 1) := by decide +kernel
theorem d9_317 : decode method_4_code 317 = .ok (.aload_n 0, 1) := by decide +kernel
theorem d9_318 : decode method_4_code 318 = .ok (.iconst 1, 1) := by decide +kernel
theorem d9_319 : decode method_4_code 319 = .ok (.caload, 1) := by decide +kernel
theorem d9_320 : decode method_4_code 320 = .ok (.castore, 1) := by decide +kernel
theorem d9_321 : decode method_4_code 321 = .ok (.dup, 1) := by decide +kernel
theorem d9_322 : decode method_4_code 322 = .ok (.iconst 2, 1) := by decide +kernel
theorem d9_323 : decode method_4_code 323 = .ok (.aload_n 0, 1) := by decide +kernel
theorem d9_324 : decode method_4_code 324 = .ok (.iconst 2, 1) := by decide +kernel
theorem d9_325 : decode method_4_code 325 = .ok (.caload, 1) := by decide +kernel
theorem d9_326 : decode method_4_code 326 = .ok (.castore, 1) := by decide +kernel
theorem d9_327 : decode method_4_code 327 = .ok (.dup, 1) := by decide +kernel
theorem d9_328 : decode method_4_code 328 = .ok (.iconst 3, 1) := by decide +kernel
theorem d9_329 : decode method_4_code 329 = .ok (.aload_n 0, 1) := by decide +kernel
theorem d9_330 : decode method_4_code 330 = .ok (.iconst 3, 1) := by decide +kernel
theorem d9_331 : decode method_4_code 331 = .ok (.caload, 1) := by decide +kernel
theorem d9_332 : decode method_4_code 332 = .ok (.castore, 1) := by decide +kernel
theorem d9_333 : decode method_4_code 333 = .ok (.dup, 1) := by decide +kernel
theorem d9_334 : decode method_4_code 334 = .ok (.iconst 4, 1) := by decide +kernel
theorem d9_335 : decode method_4_code 335 = .ok (.aload_n 0, 1) := by decide +kernel
theorem d9_336 : decode method_4_code 336 = .ok (.iconst 4, 1) := by decide +kernel
theorem d9_337 : decode method_4_code 337 = .ok (.caload, 1) := by decide +kernel
theorem d9_338 : decode method_4_code 338 = .ok (.castore, 1) := by decide +kernel
theorem d9_339 : decode method_4_code 339 = .ok (.dup, 1) := by decide +kernel
theorem d9_340 : decode method_4_code 340 = .ok (.iconst 5, 1) := by decide +kernel
theorem d9_341 : decode method_4_code 341 = .ok (.aload_n 0, 1) := by decide +kernel
theorem d9_342 : decode method_4_code 342 = .ok (.iconst 5, 1) := by decide +kernel
theorem d9_343 : decode method_4_code 343 = .ok (.caload, 1) := by decide +kernel
theorem d9_344 : decode method_4_code 344 = .ok (.castore, 1) := by decide +kernel
theorem d9_345 : decode method_4_code 345 = .ok (.dup, 1) := by decide +kernel
theorem d9_346 : decode method_4_code 346 = .ok (.bipush 6, 2) := by decide +kernel
theorem d9_348 : decode method_4_code 348 = .ok (.aload_n 0, 1) := by decide +kernel
theorem d9_349 : decode method_4_code 349 = .ok (.bipush 6, 2) := by decide +kernel
theorem d9_351 : decode method_4_code 351 = .ok (.caload, 1) := by decide +kernel
theorem d9_352 : decode method_4_code 352 = .ok (.castore, 1) := by decide +kernel
theorem d9_353 : decode method_4_code 353 = .ok (.dup, 1) := by decide +kernel
theorem d9_354 : decode method_4_code 354 = .ok (.bipush 7, 2) := by decide +kernel
theorem d9_356 : decode method_4_code 356 = .ok (.aload_n 0, 1) := by decide +kernel
theorem d9_357 : decode method_4_code 357 = .ok (.bipush 7, 2) := by decide +kernel
theorem d9_359 : decode method_4_code 359 = .ok (.caload, 1) := by decide +kernel
theorem d9_360 : decode method_4_code 360 = .ok (.castore, 1) := by decide +kernel
theorem d9_361 : decode method_4_code 361 = .ok (.invokespecial 19, 3) := by decide +kernel
theorem d9_364 : decode method_4_code 364 = .ok (.areturn, 1) := by decide +kernel
theorem ef_rmstL8 (m : MethodId) (x0 : Addr) : entryFrame m #[(.ref x0), (.int (8 : Int32))] 2 = mkF m 0 #[.val (.ref x0), .val (.int (8 : Int32))] [] := by first | (simp [entryFrame, mkF, argsToLocals, Value.category]; done) | rfl
abbrev R_rmstL8 : Room := ({ frames := 4, cells := 3, slots := 20, locals := 66 } : Room)
def QstL8 (Z : State) (a1 : Addr) (ka : ClassId) (asl : List Value) (wc : Int32) (h0 : Heap) (n0 : Nat) (v : Option Value) (h : Heap) (L : List Loc) : Prop := ∃ nb : Addr, ∃ kn : ClassId, ∃ so : Addr, v = some (.ref so) ∧ h0.size ≤ so ∧ h0.size ≤ nb ∧ Fr n0 L ∧ Keep h0 h [] ∧ Exa Z h so q3 ∧ Fld Z h so q3 "coder" "B" (.int 0) ∧ Fld Z h so q3 "value" "[B" (.ref nb) ∧ Arv Z h nb kn .byte (8 : Int32) (own_app (List.replicate (8 : Int32).toNatClampNeg (.int 0)) (own_tk asl 8) 0 ((8 : Int32)).toNatClampNeg) (.int 0) ∧ so ≠ nb
set_option maxRecDepth 65536 in
set_option maxHeartbeats 40000000 in
theorem rmstL8 (l : Launch) (Z : State) (a0 : Array Value) (hw : ∀ d ∈ tables_1, d.before a0 Z = true) (ws : List Jvm.Cond) (a1 : Addr) (ka : ClassId) (asl : List Value) (wc : Int32) (h0 : Heap) (n0 : Nat) (Z0 : n0 ≤ h0.size) (HV_a1 : Arv Z h0 a1 ka .char (8 : Int32) asl (.int 0)) (HS_java_lang_String_COMPACT_STRINGS : Sta Z h0 q3 q7 "Z" (.int wc)) (hca : own_chs asl) (hwc : ¬ wc = 0) (hlat : ∀ i, i < (8 : Int32).toNatClampNeg → ¬ (255 : Int32) < own_gt (own_tk asl 8) i) :
    Met1 l n9 method_4_code 2 (some (.object "java/lang/String")) ws R_rmstL8 #[(.ref a1), (.int 8)] Z h0 (QstL8 Z a1 ka asl wc h0 n0) := by
  refine Met1.enter (plainFor_of_name pn_9) (fun m => ef_rmstL8 m a1) fun p e s m below meth c s₁ hx hby hlk hret hml hown hnm hZ X0 e0 => ?_
  have N0 := Fr.nil n0
  have K0 : Keep h0 h0 [] := Keep.refl h0 _
  show Fin p e below s _ _ _ (s₁.setTop (mkF m 0 #[rv a1, iv 8] []))
  refine Fin.step (fun _ k => Yo.iloadN X0.here hx (hb hby d9_0) rfl (Yo.ifYes X0.here hx (pc0 := 1) (pc' := 15) rfl (hb hby d9_1) rfl ((if0 _ _).trans (feq ((by decide) : ¬ ((8 : Int32) = (0 : Int32)))).2) (by decide) (by decide) (Yo.iloadN X0.here hx (hb hby d9_15) rfl (Yo.iconst X0.here hx (hb hby d9_16) (Yo.icmpYes X0.here hx (pc0 := 17) (pc' := 37) rfl (hb hby d9_17) rfl (feq ((by decide) : ¬ ((8 : Int32) = (1 : Int32)))).2 (by decide) (by decide) (Yo.iloadN X0.here hx (hb hby d9_37) rfl (Yo.iconst X0.here hx (hb hby d9_38) (Yo.icmpYes X0.here hx (pc0 := 39) (pc' := 65) rfl (hb hby d9_39) rfl (feq ((by decide) : ¬ ((8 : Int32) = (2 : Int32)))).2 (by decide) (by decide) k)))))))) ?_
  refine Fin.step (fun _ k => Yo.iloadN X0.here hx (hb hby d9_65) rfl (Yo.iconst X0.here hx (hb hby d9_66) (Yo.icmpYes X0.here hx (pc0 := 67) (pc' := 99) rfl (hb hby d9_67) rfl (feq ((by decide) : ¬ ((8 : Int32) = (3 : Int32)))).2 (by decide) (by decide) (Yo.iloadN X0.here hx (hb hby d9_99) rfl (Yo.iconst X0.here hx (hb hby d9_100) (Yo.icmpYes X0.here hx (pc0 := 101) (pc' := 139) rfl (hb hby d9_101) rfl (feq ((by decide) : ¬ ((8 : Int32) = (4 : Int32)))).2 (by decide) (by decide) (Yo.iloadN X0.here hx (hb hby d9_139) rfl (Yo.iconst X0.here hx (hb hby d9_140) k)))))))) ?_
  refine Fin.step (fun _ k => Yo.icmpYes X0.here hx (pc0 := 141) (pc' := 185) rfl (hb hby d9_141) rfl (feq ((by decide) : ¬ ((8 : Int32) = (5 : Int32)))).2 (by decide) (by decide) (Yo.iloadN X0.here hx (hb hby d9_185) rfl (Yo.bipush X0.here hx (hb hby d9_186) (Yo.icmpYes X0.here hx (pc0 := 188) (pc' := 239) rfl (hb hby d9_188) rfl (feq ((by decide) : ¬ ((8 : Int32) = (6 : Int32)))).2 (by decide) (by decide) (Yo.iloadN X0.here hx (hb hby d9_239) rfl (Yo.bipush X0.here hx (hb hby d9_240) (Yo.icmpYes X0.here hx (pc0 := 242) (pc' := 301) rfl (hb hby d9_242) rfl (feq ((by decide) : ¬ ((8 : Int32) = (7 : Int32)))).2 (by decide) (by decide) k))))))) ?_
  obtain ⟨Ty1, hy1, Xy1, ey1, Ey1, Ay1, Dy1, -, sty1⟩ := newO X0 hx hZ hown (W_ hw 55) (W_ hw 4) (W_ hw 3) e0 (g := (mkF m 301 #[rv a1, iv 8] [])) rfl (hb hby d9_301) (by decide) (by decide)
  obtain ⟨by1, gy1⟩ : ∃ z, z = h0.size := ⟨_, rfl⟩
  rw [← gy1] at Ay1 Dy1 sty1
  have gzy1 : n0 ≤ by1 := Nat.le_trans Z0 (Nat.le_of_eq gy1.symm)
  have szy1 : h0.size ≤ by1 := Nat.le_trans K0.1 (Nat.le_of_eq gy1.symm)
  have Zy1 := Nat.le_trans Z0 Ey1.1
  have Ky1 := K0.ext Ey1
  have F_value_by1 : Fld Z hy1 by1 q3 "value" "[B" .null := Dy1 (Or.inr (W_ hw 6)) (ty := (.array .byte)) (by decide)
  have F_coder_by1 : Fld Z hy1 by1 q3 "coder" "B" (.int 0) := Dy1 (Or.inr (W_ hw 7)) (ty := .byte) (by decide)
  refine Fin.step (sty1) ?_
  show Fin p e below s _ _ _ (Ty1.setTop (mkF m 304 #[rv a1, iv 8] [(.ref by1)]))
  refine Fin.step (fun _ k => Yo.dup Xy1.here hx (hb hby d9_304) rfl rfl (Yo.bipush Xy1.here hx (hb hby d9_305) k)) ?_
  obtain ⟨Ty2, hy2, ky2, Xy2, ey2, Ey2, Ay2, sty2⟩ := newP Xy1 hx hZ (W_ hw 1) ey1 (g := (mkF m 307 #[rv a1, iv 8] [(.int 8), (.ref by1), (.ref by1)])) rfl (hb hby d9_307) rfl (by decide) (cap := 8) (by decide) (by decide) (by decide) (by decide)
  obtain ⟨by2, gy2⟩ : ∃ z, z = hy1.size := ⟨_, rfl⟩
  rw [← gy2] at Ay2 sty2
  have gzy2 : n0 ≤ by2 := Nat.le_trans Zy1 (Nat.le_of_eq gy2.symm)
  have szy2 : h0.size ≤ by2 := Nat.le_trans Ky1.1 (Nat.le_of_eq gy2.symm)
  have Zy2 := Nat.le_trans Zy1 Ey2.1
  have Ky2 := Ky1.ext Ey2
  have Vy2 : Arv Z hy2 by2 ky2 .char (8 : Int32) [(.int 0), (.int 0), (.int 0), (.int 0), (.int 0), (.int 0), (.int 0), (.int 0)] (.int 0) := (Arv.new Ay2 (by decide)).pad (pad_rep [] (.int 0) 8)
  refine Fin.step (sty2) ?_
  show Fin p e below s _ _ _ (Ty2.setTop (mkF m 309 #[rv a1, iv 8] [(.ref by2), (.ref by1), (.ref by1)]))
  refine Fin.step (fun _ k => Yo.dup Xy2.here hx (hb hby d9_309) rfl rfl (Yo.iconst Xy2.here hx (hb hby d9_310) (Yo.aloadN Xy2.here hx (hb hby d9_311) rfl rfl (Yo.iconst Xy2.here hx (hb hby d9_312) (cld3 Xy2 hx hZ ey2 (j := 0) (v := (.int (own_gt asl 0))) (HV_a1.keep Ky2 nin0) ⟨by decide, by decide⟩ (own_lg hca 0) (hb hby d9_313) k))))) ?_
  obtain ⟨Ty4, hy4, Xy4, ey4, Wy4, Vy4, Ny4, Zy4, Ky4, sty4⟩ := cst3 Xy2 hx hZ ey2 (j := 0) (x := (own_gt asl 0)) (ix := 0) Vy2 ⟨by decide, by decide⟩ rfl (lb rfl) N0 Zy2 Ky2 gzy2 (Or.inr szy2) (hb hby d9_314)
  refine Fin.step (sty4) ?_
  refine Fin.step (fun _ k => Yo.dup Xy4.here hx (hb hby d9_315) rfl rfl (Yo.iconst Xy4.here hx (hb hby d9_316) (Yo.aloadN Xy4.here hx (hb hby d9_317) rfl rfl (Yo.iconst Xy4.here hx (hb hby d9_318) (cld3 Xy4 hx hZ ey4 (j := 1) (v := (.int (own_gt asl 1))) (HV_a1.keep Ky4 nin0) ⟨by decide, by decide⟩ (own_lg hca 1) (hb hby d9_319) k))))) ?_
  obtain ⟨Ty6, hy6, Xy6, ey6, Wy6, Vy6, Ny6, Zy6, Ky6, sty6⟩ := cst3 Xy4 hx hZ ey4 (j := 1) (x := (own_gt asl 1)) (ix := 1) Vy4 ⟨by decide, by decide⟩ rfl (lb rfl) Ny4 Zy4 Ky4 gzy2 (Or.inr szy2) (hb hby d9_320)
  refine Fin.step (sty6) ?_
  refine Fin.step (fun _ k => Yo.dup Xy6.here hx (hb hby d9_321) rfl rfl (Yo.iconst Xy6.here hx (hb hby d9_322) (Yo.aloadN Xy6.here hx (hb hby d9_323) rfl rfl (Yo.iconst Xy6.here hx (hb hby d9_324) (cld3 Xy6 hx hZ ey6 (j := 2) (v := (.int (own_gt asl 2))) (HV_a1.keep Ky6 nin0) ⟨by decide, by decide⟩ (own_lg hca 2) (hb hby d9_325) k))))) ?_
  obtain ⟨Ty8, hy8, Xy8, ey8, Wy8, Vy8, Ny8, Zy8, Ky8, sty8⟩ := cst3 Xy6 hx hZ ey6 (j := 2) (x := (own_gt asl 2)) (ix := 2) Vy6 ⟨by decide, by decide⟩ rfl (lb rfl) Ny6 Zy6 Ky6 gzy2 (Or.inr szy2) (hb hby d9_326)
  refine Fin.step (sty8) ?_
  refine Fin.step (fun _ k => Yo.dup Xy8.here hx (hb hby d9_327) rfl rfl (Yo.iconst Xy8.here hx (hb hby d9_328) (Yo.aloadN Xy8.here hx (hb hby d9_329) rfl rfl (Yo.iconst Xy8.here hx (hb hby d9_330) (cld3 Xy8 hx hZ ey8 (j := 3) (v := (.int (own_gt asl 3))) (HV_a1.keep Ky8 nin0) ⟨by decide, by decide⟩ (own_lg hca 3) (hb hby d9_331) k))))) ?_
  obtain ⟨Ty10, hy10, Xy10, ey10, Wy10, Vy10, Ny10, Zy10, Ky10, sty10⟩ := cst3 Xy8 hx hZ ey8 (j := 3) (x := (own_gt asl 3)) (ix := 3) Vy8 ⟨by decide, by decide⟩ rfl (lb rfl) Ny8 Zy8 Ky8 gzy2 (Or.inr szy2) (hb hby d9_332)
  refine Fin.step (sty10) ?_
  refine Fin.step (fun _ k => Yo.dup Xy10.here hx (hb hby d9_333) rfl rfl (Yo.iconst Xy10.here hx (hb hby d9_334) (Yo.aloadN Xy10.here hx (hb hby d9_335) rfl rfl (Yo.iconst Xy10.here hx (hb hby d9_336) (cld3 Xy10 hx hZ ey10 (j := 4) (v := (.int (own_gt asl 4))) (HV_a1.keep Ky10 nin0) ⟨by decide, by decide⟩ (own_lg hca 4) (hb hby d9_337) k))))) ?_
  obtain ⟨Ty12, hy12, Xy12, ey12, Wy12, Vy12, Ny12, Zy12, Ky12, sty12⟩ := cst3 Xy10 hx hZ ey10 (j := 4) (x := (own_gt asl 4)) (ix := 4) Vy10 ⟨by decide, by decide⟩ rfl (lb rfl) Ny10 Zy10 Ky10 gzy2 (Or.inr szy2) (hb hby d9_338)
  refine Fin.step (sty12) ?_
  refine Fin.step (fun _ k => Yo.dup Xy12.here hx (hb hby d9_339) rfl rfl (Yo.iconst Xy12.here hx (hb hby d9_340) (Yo.aloadN Xy12.here hx (hb hby d9_341) rfl rfl (Yo.iconst Xy12.here hx (hb hby d9_342) (cld3 Xy12 hx hZ ey12 (j := 5) (v := (.int (own_gt asl 5))) (HV_a1.keep Ky12 nin0) ⟨by decide, by decide⟩ (own_lg hca 5) (hb hby d9_343) k))))) ?_
  obtain ⟨Ty14, hy14, Xy14, ey14, Wy14, Vy14, Ny14, Zy14, Ky14, sty14⟩ := cst3 Xy12 hx hZ ey12 (j := 5) (x := (own_gt asl 5)) (ix := 5) Vy12 ⟨by decide, by decide⟩ rfl (lb rfl) Ny12 Zy12 Ky12 gzy2 (Or.inr szy2) (hb hby d9_344)
  refine Fin.step (sty14) ?_
  refine Fin.step (fun _ k => Yo.dup Xy14.here hx (hb hby d9_345) rfl rfl (Yo.bipush Xy14.here hx (hb hby d9_346) (Yo.aloadN Xy14.here hx (hb hby d9_348) rfl rfl (Yo.bipush Xy14.here hx (hb hby d9_349) (cld3 Xy14 hx hZ ey14 (j := 6) (v := (.int (own_gt asl 6))) (HV_a1.keep Ky14 nin0) ⟨by decide, by decide⟩ (own_lg hca 6) (hb hby d9_351) k))))) ?_
  obtain ⟨Ty16, hy16, Xy16, ey16, Wy16, Vy16, Ny16, Zy16, Ky16, sty16⟩ := cst3 Xy14 hx hZ ey14 (j := 6) (x := (own_gt asl 6)) (ix := 6) Vy14 ⟨by decide, by decide⟩ rfl (lb rfl) Ny14 Zy14 Ky14 gzy2 (Or.inr szy2) (hb hby d9_352)
  refine Fin.step (sty16) ?_
  refine Fin.step (fun _ k => Yo.dup Xy16.here hx (hb hby d9_353) rfl rfl (Yo.bipush Xy16.here hx (hb hby d9_354) (Yo.aloadN Xy16.here hx (hb hby d9_356) rfl rfl (Yo.bipush Xy16.here hx (hb hby d9_357) (cld3 Xy16 hx hZ ey16 (j := 7) (v := (.int (own_gt asl 7))) (HV_a1.keep Ky16 nin0) ⟨by decide, by decide⟩ (own_lg hca 7) (hb hby d9_359) k))))) ?_
  obtain ⟨Ty18, hy18, Xy18, ey18, Wy18, Vy18, Ny18, Zy18, Ky18, sty18⟩ := cst3 Xy16 hx hZ ey16 (j := 7) (x := (own_gt asl 7)) (ix := 7) Vy16 ⟨by decide, by decide⟩ rfl (lb rfl) Ny16 Zy16 Ky16 gzy2 (Or.inr szy2) (hb hby d9_360)
  refine Fin.step (sty18) ?_
  have ry19 := (((((((((Ay1.ext Ey2).wr Wy4).wr Wy6).wr Wy8).wr Wy10).wr Wy12).wr Wy14).wr Wy16).wr Wy18)
  have ney20 := nlt Ay1.lt (Nat.le_of_eq gy2.symm)
  have ry21 := (((((((((F_coder_by1.ext Ey2).other Wy4 (Or.inl ney20)).other Wy6 (Or.inl ney20)).other Wy8 (Or.inl ney20)).other Wy10 (Or.inl ney20)).other Wy12 (Or.inl ney20)).other Wy14 (Or.inl ney20)).other Wy16 (Or.inl ney20)).other Wy18 (Or.inl ney20))
  have ry22 := (((((((((F_value_by1.ext Ey2).other Wy4 (Or.inl ney20)).other Wy6 (Or.inl ney20)).other Wy8 (Or.inl ney20)).other Wy10 (Or.inl ney20)).other Wy12 (Or.inl ney20)).other Wy14 (Or.inl ney20)).other Wy16 (Or.inl ney20)).other Wy18 (Or.inl ney20))
  have ry23 := (Sta_keep HS_java_lang_String_COMPACT_STRINGS Ky18)
  obtain ⟨_, Ty24, Lcy24, Xy24, hQy24, sty24⟩ := pack (Xy18.specialBack hx (y := n10) rfl hown (mvT hZ (W_ hw 56)) (mvT hZ (W_ hw 57)) (mvT hZ (W_ hw 58)) (by decide) (backOf (W := 1) (rmsi1L l Z a0 hw [] by1 by2 8 ky2 _ wc hy18 n0 Zy18 ry19 ry21 ry22 Vy18 ry23 gzy1 (by decide) (own_tkc asl 8) hwc (by decide) hlat ney20) hZ (W_ hw 58) (W_ hw 3) (by decide) (by decide)) (g := (mkF m 361 #[rv a1, iv 8] [(.ref by2), (.ref by1), (.ref by1)])) rfl (by rw [hml]; rfl) (Steps.refl _) (a := by1) (argsL := [(.ref by2)]) (rest := [(.ref by1)]) (lenOf pd_8 rfl) rfl (lb rfl) (hb hby d9_361) (fun _ _ => ⟨rfl, ey18, (by decide : 2 + 1 ≤ _), (by decide : 12 + 8 ≤ _)⟩))
  obtain ⟨nb_y24, kn_y24, rfl, bfy24_0, Nqy24, Kcy24, fy24_0, fy24_1, fy24_2, ney24_0⟩ := hQy24
  have Ny24 := Fr.app Ny18 Nqy24
  have gzy24_0 : n0 ≤ nb_y24 := Nat.le_trans Zy18 bfy24_0
  have szy24_0 : h0.size ≤ nb_y24 := Nat.le_trans Ky18.1 bfy24_0
  have Zy24 := Nat.le_trans Zy18 Kcy24.1
  have Ky24 := Ky18.trans Kcy24 (allS (Or.inr szy1) all0)
  refine Fin.step (sty24) ?_
  show Fin p e below s _ _ _ (Ty24.setTop (mkF m 364 #[rv a1, iv 8] [(.ref by1)]))
  refine Fin.retR Xy24 hx hret rfl rfl hlk (hb hby d9_364) (by decide) (by decide) ?_
  show QstL8 Z a1 ka asl wc h0 n0 _ Ty24.heap _
  exact ⟨nb_y24, kn_y24, by1, rfl, szy1, szy24_0, Ny24, Ky24, (ry19.keep Kcy24), fy24_0, fy24_1, fy24_2, ney24_0⟩
theorem ef_rmstU3 (m : MethodId) (x0 : Addr) : entryFrame m #[(.ref x0), (.int (3 : Int32))] 2 = mkF m 0 #[.val (.ref x0), .val (.int (3 : Int32))] [] := by first | (simp [entryFrame, mkF, argsToLocals, Value.category]; done) | rfl
abbrev R_rmstU3 : Room := ({ frames := 6, cells := 4, slots := 31, locals := 88 } : Room)
def QstU3 (Z : State) (a1 : Addr) (ka : ClassId) (asl : List Value) (wc pj : Int32) (h0 : Heap) (n0 : Nat) (v : Option Value) (h : Heap) (L : List Loc) : Prop := ∃ nb : Addr, ∃ kn : ClassId, ∃ lz : List Value, ∃ so : Addr, v = some (.ref so) ∧ h0.size ≤ so ∧ h0.size ≤ nb ∧ Fr n0 L ∧ Keep h0 h [] ∧ Exa Z h so q3 ∧ Fld Z h so q3 "coder" "B" (.int 1) ∧ Fld Z h so q3 "value" "[B" (.ref nb) ∧ Arv Z h nb kn .byte (6 : Int32) lz (.int 0) ∧ so ≠ nb
set_option maxRecDepth 65536 in
set_option maxHeartbeats 40000000 in
theorem rmstU3 (l : Launch) (Z : State) (a0 : Array Value) (hw : ∀ d ∈ tables_1, d.before a0 Z = true) (ws : List Jvm.Cond) (a1 : Addr) (ka : ClassId) (asl : List Value) (wc pj : Int32) (h0 : Heap) (n0 : Nat) (Z0 : n0 ≤ h0.size) (HV_a1 : Arv Z h0 a1 ka .char (8 : Int32) asl (.int 0)) (HS_java_lang_String_COMPACT_STRINGS : Sta Z h0 q3 q7 "Z" (.int wc)) (HS_java_lang_StringUTF16__assertionsDisabled : Sta Z h0 q6 "$assertionsDisabled" "Z" (.int 1)) (HS_java_lang_StringUTF16_HI_BYTE_SHIFT : Sta Z h0 q6 "HI_BYTE_SHIFT" "I" (.int 0)) (HS_java_lang_StringUTF16_LO_BYTE_SHIFT : Sta Z h0 q6 "LO_BYTE_SHIFT" "I" (.int 8)) (hca : own_chs asl) (hwc : ¬ wc = 0) (hj : 0 ≤ pj.toInt ∧ pj < (3 : Int32)) (hlat : ∀ i, i < pj.toNatClampNeg → ¬ (255 : Int32) < own_gt (own_tk asl 3) i) (hbig : (255 : Int32) < own_gt (own_tk asl 3) pj.toNatClampNeg) (hz : 0 ≤ (own_gt (own_tk asl 3) pj.toNatClampNeg).toInt ∧ (own_gt (own_tk asl 3) pj.toNatClampNeg).toInt ≤ 65535) :
    Met1 l n9 method_4_code 2 (some (.object "java/lang/String")) ws R_rmstU3 #[(.ref a1), (.int 3)] Z h0 (QstU3 Z a1 ka asl wc pj h0 n0) := by
  refine Met1.enter (plainFor_of_name pn_9) (fun m => ef_rmstU3 m a1) fun p e s m below meth c s₁ hx hby hlk hret hml hown hnm hZ X0 e0 => ?_
  have N0 := Fr.nil n0
  have K0 : Keep h0 h0 [] := Keep.refl h0 _
  show Fin p e below s _ _ _ (s₁.setTop (mkF m 0 #[rv a1, iv 3] []))
  refine Fin.step (fun _ k => Yo.iloadN X0.here hx (hb hby d9_0) rfl (Yo.ifYes X0.here hx (pc0 := 1) (pc' := 15) rfl (hb hby d9_1) rfl ((if0 _ _).trans (feq ((by decide) : ¬ ((3 : Int32) = (0 : Int32)))).2) (by decide) (by decide) (Yo.iloadN X0.here hx (hb hby d9_15) rfl (Yo.iconst X0.here hx (hb hby d9_16) (Yo.icmpYes X0.here hx (pc0 := 17) (pc' := 37) rfl (hb hby d9_17) rfl (feq ((by decide) : ¬ ((3 : Int32) = (1 : Int32)))).2 (by decide) (by decide) (Yo.iloadN X0.here hx (hb hby d9_37) rfl (Yo.iconst X0.here hx (hb hby d9_38) (Yo.icmpYes X0.here hx (pc0 := 39) (pc' := 65) rfl (hb hby d9_39) rfl (feq ((by decide) : ¬ ((3 : Int32) = (2 : Int32)))).2 (by decide) (by decide) k)))))))) ?_
  refine Fin.step (fun _ k => Yo.iloadN X0.here hx (hb hby d9_65) rfl (Yo.iconst X0.here hx (hb hby d9_66) (Yo.icmpNo X0.here hx (hb hby d9_67) rfl (teq ((by decide) : ((3 : Int32) = (3 : Int32)))).2 k))) ?_
  obtain ⟨Ty1, hy1, Xy1, ey1, Ey1, Ay1, Dy1, -, sty1⟩ := newO X0 hx hZ hown (W_ hw 55) (W_ hw 4) (W_ hw 3) e0 (g := (mkF m 70 #[rv a1, iv 3] [])) rfl (hb hby d9_70) (by decide) (by decide)
  obtain ⟨by1, gy1⟩ : ∃ z, z = h0.size := ⟨_, rfl⟩
  rw [← gy1] at Ay1 Dy1 sty1
  have gzy1 : n0 ≤ by1 := Nat.le_trans Z0 (Nat.le_of_eq gy1.symm)
  have szy1 : h0.size ≤ by1 := Nat.le_trans K0.1 (Nat.le_of_eq gy1.symm)
  have Zy1 := Nat.le_trans Z0 Ey1.1
  have Ky1 := K0.ext Ey1
  have F_value_by1 : Fld Z hy1 by1 q3 "value" "[B" .null := Dy1 (Or.inr (W_ hw 6)) (ty := (.array .byte)) (by decide)
  have F_coder_by1 : Fld Z hy1 by1 q3 "coder" "B" (.int 0) := Dy1 (Or.inr (W_ hw 7)) (ty := .byte) (by decide)
  refine Fin.step (sty1) ?_
  show Fin p e below s _ _ _ (Ty1.setTop (mkF m 73 #[rv a1, iv 3] [(.ref by1)]))
  refine Fin.step (fun _ k => Yo.dup Xy1.here hx (hb hby d9_73) rfl rfl (Yo.iconst Xy1.here hx (hb hby d9_74) k)) ?_
  obtain ⟨Ty2, hy2, ky2, Xy2, ey2, Ey2, Ay2, sty2⟩ := newP Xy1 hx hZ (W_ hw 1) ey1 (g := (mkF m 75 #[rv a1, iv 3] [(.int 3), (.ref by1), (.ref by1)])) rfl (hb hby d9_75) rfl (by decide) (cap := 3) (by decide) (by decide) (by decide) (by decide)
  obtain ⟨by2, gy2⟩ : ∃ z, z = hy1.size := ⟨_, rfl⟩
  rw [← gy2] at Ay2 sty2
  have gzy2 : n0 ≤ by2 := Nat.le_trans Zy1 (Nat.le_of_eq gy2.symm)
  have szy2 : h0.size ≤ by2 := Nat.le_trans Ky1.1 (Nat.le_of_eq gy2.symm)
  have Zy2 := Nat.le_trans Zy1 Ey2.1
  have Ky2 := Ky1.ext Ey2
  have Vy2 : Arv Z hy2 by2 ky2 .char (3 : Int32) [(.int 0), (.int 0), (.int 0)] (.int 0) := (Arv.new Ay2 (by decide)).pad (pad_rep [] (.int 0) 3)
  refine Fin.step (sty2) ?_
  show Fin p e below s _ _ _ (Ty2.setTop (mkF m 77 #[rv a1, iv 3] [(.ref by2), (.ref by1), (.ref by1)]))
  refine Fin.step (fun _ k => Yo.dup Xy2.here hx (hb hby d9_77) rfl rfl (Yo.iconst Xy2.here hx (hb hby d9_78) (Yo.aloadN Xy2.here hx (hb hby d9_79) rfl rfl (Yo.iconst Xy2.here hx (hb hby d9_80) (cld3 Xy2 hx hZ ey2 (j := 0) (v := (.int (own_gt asl 0))) (HV_a1.keep Ky2 nin0) ⟨by decide, by decide⟩ (own_lg hca 0) (hb hby d9_81) k))))) ?_
  obtain ⟨Ty4, hy4, Xy4, ey4, Wy4, Vy4, Ny4, Zy4, Ky4, sty4⟩ := cst3 Xy2 hx hZ ey2 (j := 0) (x := (own_gt asl 0)) (ix := 0) Vy2 ⟨by decide, by decide⟩ rfl (lb rfl) N0 Zy2 Ky2 gzy2 (Or.inr szy2) (hb hby d9_82)
  refine Fin.step (sty4) ?_
  refine Fin.step (fun _ k => Yo.dup Xy4.here hx (hb hby d9_83) rfl rfl (Yo.iconst Xy4.here hx (hb hby d9_84) (Yo.aloadN Xy4.here hx (hb hby d9_85) rfl rfl (Yo.iconst Xy4.here hx (hb hby d9_86) (cld3 Xy4 hx hZ ey4 (j := 1) (v := (.int (own_gt asl 1))) (HV_a1.keep Ky4 nin0) ⟨by decide, by decide⟩ (own_lg hca 1) (hb hby d9_87) k))))) ?_
  obtain ⟨Ty6, hy6, Xy6, ey6, Wy6, Vy6, Ny6, Zy6, Ky6, sty6⟩ := cst3 Xy4 hx hZ ey4 (j := 1) (x := (own_gt asl 1)) (ix := 1) Vy4 ⟨by decide, by decide⟩ rfl (lb rfl) Ny4 Zy4 Ky4 gzy2 (Or.inr szy2) (hb hby d9_88)
  refine Fin.step (sty6) ?_
  refine Fin.step (fun _ k => Yo.dup Xy6.here hx (hb hby d9_89) rfl rfl (Yo.iconst Xy6.here hx (hb hby d9_90) (Yo.aloadN Xy6.here hx (hb hby d9_91) rfl rfl (Yo.iconst Xy6.here hx (hb hby d9_92) (cld3 Xy6 hx hZ ey6 (j := 2) (v := (.int (own_gt asl 2))) (HV_a1.keep Ky6 nin0) ⟨by decide, by decide⟩ (own_lg hca 2) (hb hby d9_93) k))))) ?_
  obtain ⟨Ty8, hy8, Xy8, ey8, Wy8, Vy8, Ny8, Zy8, Ky8, sty8⟩ := cst3 Xy6 hx hZ ey6 (j := 2) (x := (own_gt asl 2)) (ix := 2) Vy6 ⟨by decide, by decide⟩ rfl (lb rfl) Ny6 Zy6 Ky6 gzy2 (Or.inr szy2) (hb hby d9_94)
  refine Fin.step (sty8) ?_
  have ry9 := ((((Ay1.ext Ey2).wr Wy4).wr Wy6).wr Wy8)
  have ney10 := nlt Ay1.lt (Nat.le_of_eq gy2.symm)
  have ry11 := ((((F_coder_by1.ext Ey2).other Wy4 (Or.inl ney10)).other Wy6 (Or.inl ney10)).other Wy8 (Or.inl ney10))
  have ry12 := ((((F_value_by1.ext Ey2).other Wy4 (Or.inl ney10)).other Wy6 (Or.inl ney10)).other Wy8 (Or.inl ney10))
  have ry13 := (Sta_keep HS_java_lang_String_COMPACT_STRINGS Ky8)
  have ry14 := (Sta_keep HS_java_lang_StringUTF16__assertionsDisabled Ky8)
  have ry15 := (Sta_keep HS_java_lang_StringUTF16_HI_BYTE_SHIFT Ky8)
  have ry16 := (Sta_keep HS_java_lang_StringUTF16_LO_BYTE_SHIFT Ky8)
  obtain ⟨_, Ty17, Lcy17, Xy17, hQy17, sty17⟩ := pack (Xy8.specialBack hx (y := n10) rfl hown (mvT hZ (W_ hw 56)) (mvT hZ (W_ hw 57)) (mvT hZ (W_ hw 58)) (by decide) (backOf (W := 1) (rmsi1U l Z a0 hw [] by1 by2 3 ky2 _ wc pj 6 hy8 n0 Zy8 ry9 ry11 ry12 Vy8 ry13 ry14 ry15 ry16 gzy1 (by decide) (own_tkc asl 3) hwc (by decide) (by decide) hj hlat hbig hz ney10) hZ (W_ hw 58) (W_ hw 3) (by decide) (by decide)) (g := (mkF m 95 #[rv a1, iv 3] [(.ref by2), (.ref by1), (.ref by1)])) rfl (by rw [hml]; rfl) (Steps.refl _) (a := by1) (argsL := [(.ref by2)]) (rest := [(.ref by1)]) (lenOf pd_8 rfl) rfl (lb rfl) (hb hby d9_95) (fun _ _ => ⟨rfl, ey8, (by decide : 2 + 2 ≤ _), (by decide : 7 + 24 ≤ _)⟩))
  obtain ⟨nb_y17, kn_y17, lz_y17, rfl, bfy17_0, Nqy17, Kcy17, fy17_0, fy17_1, fy17_2, ney17_0⟩ := hQy17
  have Ny17 := Fr.app Ny8 Nqy17
  have gzy17_0 : n0 ≤ nb_y17 := Nat.le_trans Zy8 bfy17_0
  have szy17_0 : h0.size ≤ nb_y17 := Nat.le_trans Ky8.1 bfy17_0
  have Zy17 := Nat.le_trans Zy8 Kcy17.1
  have Ky17 := Ky8.trans Kcy17 (allS (Or.inr szy1) all0)
  refine Fin.step (sty17) ?_
  show Fin p e below s _ _ _ (Ty17.setTop (mkF m 98 #[rv a1, iv 3] [(.ref by1)]))
  refine Fin.retR Xy17 hx hret rfl rfl hlk (hb hby d9_98) (by decide) (by decide) ?_
  show QstU3 Z a1 ka asl wc pj h0 n0 _ Ty17.heap _
  exact ⟨nb_y17, kn_y17, lz_y17, by1, rfl, szy1, szy17_0, Ny17, Ky17, (ry9.keep Kcy17), fy17_0, fy17_1, fy17_2, ney17_0⟩
theorem ef_rmstU4 (m : MethodId) (x0 : Addr) : entryFrame m #[(.ref x0), (.int (4 : Int32))] 2 = mkF m 0 #[.val (.ref x0), .val (.int (4 : Int32))] [] := by first | (simp [entryFrame, mkF, argsToLocals, Value.category]; done) | rfl
abbrev R_rmstU4 : Room := ({ frames := 6, cells := 4, slots := 32, locals := 88 } : Room)
def QstU4 (Z : State) (a1 : Addr) (ka : ClassId) (asl : List Value) (wc pj : Int32) (h0 : Heap) (n0 : Nat) (v : Option Value) (h : Heap) (L : List Loc) : Prop := ∃ nb : Addr, ∃ kn : ClassId, ∃ lz : List Value, ∃ so : Addr, v = some (.ref so) ∧ h0.size ≤ so ∧ h0.size ≤ nb ∧ Fr n0 L ∧ Keep h0 h [] ∧ Exa Z h so q3 ∧ Fld Z h so q3 "coder" "B" (.int 1) ∧ Fld Z h so q3 "value" "[B" (.ref nb) ∧ Arv Z h nb kn .byte (8 : Int32) lz (.int 0) ∧ so ≠ nb
set_option maxRecDepth 65536 in
set_option maxHeartbeats 40000000 in
theorem rmstU4 (l : Launch) (Z : State) (a0 : Array Value) (hw : ∀ d ∈ tables_1, d.before a0 Z = true) (ws : List Jvm.Cond) (a1 : Addr) (ka : ClassId) (asl : List Value) (wc pj : Int32) (h0 : Heap) (n0 : Nat) (Z0 : n0 ≤ h0.size) (HV_a1 : Arv Z h0 a1 ka .char (8 : Int32) asl (.int 0)) (HS_java_lang_String_COMPACT_STRINGS : Sta Z h0 q3 q7 "Z" (.int wc)) (HS_java_lang_StringUTF16__assertionsDisabled : Sta Z h0 q6 "$assertionsDisabled" "Z" (.int 1)) (HS_java_lang_StringUTF16_HI_BYTE_SHIFT : Sta Z h0 q6 "HI_BYTE_SHIFT" "I" (.int 0)) (HS_java_lang_StringUTF16_LO_BYTE_SHIFT : Sta Z h0 q6 "LO_BYTE_SHIFT" "I" (.int 8)) (hca : own_chs asl) (hwc : ¬ wc = 0) (hj : 0 ≤ pj.toInt ∧ pj < (4 : Int32)) (hlat : ∀ i, i < pj.toNatClampNeg → ¬ (255 : Int32) < own_gt (own_tk asl 4) i) (hbig : (255 : Int32) < own_gt (own_tk asl 4) pj.toNatClampNeg) (hz : 0 ≤ (own_gt (own_tk asl 4) pj.toNatClampNeg).toInt ∧ (own_gt (own_tk asl 4) pj.toNatClampNeg).toInt ≤ 65535) :
    Met1 l n9 method_4_code 2 (some (.object "java/lang/String")) ws R_rmstU4 #[(.ref a1), (.int 4)] Z h0 (QstU4 Z a1 ka asl wc pj h0 n0) := by
  refine Met1.enter (plainFor_of_name pn_9) (fun m => ef_rmstU4 m a1) fun p e s m below meth c s₁ hx hby hlk hret hml hown hnm hZ X0 e0 => ?_
  have N0 := Fr.nil n0
  have K0 : Keep h0 h0 [] := Keep.refl h0 _
  show Fin p e below s _ _ _ (s₁.setTop (mkF m 0 #[rv a1, iv 4] []))
  refine Fin.step (fun _ k => Yo.iloadN X0.here hx (hb hby d9_0) rfl (Yo.ifYes X0.here hx (pc0 := 1) (pc' := 15) rfl (hb hby d9_1) rfl ((if0 _ _).trans (feq ((by decide) : ¬ ((4 : Int32) = (0 : Int32)))).2) (by decide) (by decide) (Yo.iloadN X0.here hx (hb hby d9_15) rfl (Yo.iconst X0.here hx (hb hby d9_16) (Yo.icmpYes X0.here hx (pc0 := 17) (pc' := 37) rfl (hb hby d9_17) rfl (feq ((by decide) : ¬ ((4 : Int32) = (1 : Int32)))).2 (by decide) (by decide) (Yo.iloadN X0.here hx (hb hby d9_37) rfl (Yo.iconst X0.here hx (hb hby d9_38) (Yo.icmpYes X0.here hx (pc0 := 39) (pc' := 65) rfl (hb hby d9_39) rfl (feq ((by decide) : ¬ ((4 : Int32) = (2 : Int32)))).2 (by decide) (by decide) k)))))))) ?_
  refine Fin.step (fun _ k => Yo.iloadN X0.here hx (hb hby d9_65) rfl (Yo.iconst X0.here hx (hb hby d9_66) (Yo.icmpYes X0.here hx (pc0 := 67) (pc' := 99) rfl (hb hby d9_67) rfl (feq ((by decide) : ¬ ((4 : Int32) = (3 : Int32)))).2 (by decide) (by decide) (Yo.iloadN X0.here hx (hb hby d9_99) rfl (Yo.iconst X0.here hx (hb hby d9_100) (Yo.icmpNo X0.here hx (hb hby d9_101) rfl (teq ((by decide) : ((4 : Int32) = (4 : Int32)))).2 k)))))) ?_
  obtain ⟨Ty1, hy1, Xy1, ey1, Ey1, Ay1, Dy1, -, sty1⟩ := newO X0 hx hZ hown (W_ hw 55) (W_ hw 4) (W_ hw 3) e0 (g := (mkF m 104 #[rv a1, iv 4] [])) rfl (hb hby d9_104) (by decide) (by decide)
  obtain ⟨by1, gy1⟩ : ∃ z, z = h0.size := ⟨_, rfl⟩
  rw [← gy1] at Ay1 Dy1 sty1
  have gzy1 : n0 ≤ by1 := Nat.le_trans Z0 (Nat.le_of_eq gy1.symm)
  have szy1 : h0.size ≤ by1 := Nat.le_trans K0.1 (Nat.le_of_eq gy1.symm)
  have Zy1 := Nat.le_trans Z0 Ey1.1
  have Ky1 := K0.ext Ey1
  have F_value_by1 : Fld Z hy1 by1 q3 "value" "[B" .null := Dy1 (Or.inr (W_ hw 6)) (ty := (.array .byte)) (by decide)
  have F_coder_by1 : Fld Z hy1 by1 q3 "coder" "B" (.int 0) := Dy1 (Or.inr (W_ hw 7)) (ty := .byte) (by decide)
  refine Fin.step (sty1) ?_
  show Fin p e below s _ _ _ (Ty1.setTop (mkF m 107 #[rv a1, iv 4] [(.ref by1)]))
  refine Fin.step (fun _ k => Yo.dup Xy1.here hx (hb hby d9_107) rfl rfl (Yo.iconst Xy1.here hx (hb hby d9_108) k)) ?_
  obtain ⟨Ty2, hy2, ky2, Xy2, ey2, Ey2, Ay2, sty2⟩ := newP Xy1 hx hZ (W_ hw 1) ey1 (g := (mkF m 109 #[rv a1, iv 4] [(.int 4), (.ref by1), (.ref by1)])) rfl (hb hby d9_109) rfl (by decide) (cap := 4) (by decide) (by decide) (by decide) (by decide)
  obtain ⟨by2, gy2⟩ : ∃ z, z = hy1.size := ⟨_, rfl⟩
  rw [← gy2] at Ay2 sty2
  have gzy2 : n0 ≤ by2 := Nat.le_trans Zy1 (Nat.le_of_eq gy2.symm)
  have szy2 : h0.size ≤ by2 := Nat.le_trans Ky1.1 (Nat.le_of_eq gy2.symm)
  have Zy2 := Nat.le_trans Zy1 Ey2.1
  have Ky2 := Ky1.ext Ey2
  have Vy2 : Arv Z hy2 by2 ky2 .char (4 : Int32) [(.int 0), (.int 0), (.int 0), (.int 0)] (.int 0) := (Arv.new Ay2 (by decide)).pad (pad_rep [] (.int 0) 4)
  refine Fin.step (sty2) ?_
  show Fin p e below s _ _ _ (Ty2.setTop (mkF m 111 #[rv a1, iv 4] [(.ref by2), (.ref by1), (.ref by1)]))
  refine Fin.step (fun _ k => Yo.dup Xy2.here hx (hb hby d9_111) rfl rfl (Yo.iconst Xy2.here hx (hb hby d9_112) (Yo.aloadN Xy2.here hx (hb hby d9_113) rfl rfl (Yo.iconst Xy2.here hx (hb hby d9_114) (cld3 Xy2 hx hZ ey2 (j := 0) (v := (.int (own_gt asl 0))) (HV_a1.keep Ky2 nin0) ⟨by decide, by decide⟩ (own_lg hca 0) (hb hby d9_115) k))))) ?_
  obtain ⟨Ty4, hy4, Xy4, ey4, Wy4, Vy4, Ny4, Zy4, Ky4, sty4⟩ := cst3 Xy2 hx hZ ey2 (j := 0) (x := (own_gt asl 0)) (ix := 0) Vy2 ⟨by decide, by decide⟩ rfl (lb rfl) N0 Zy2 Ky2 gzy2 (Or.inr szy2) (hb hby d9_116)
  refine Fin.step (sty4) ?_
  refine Fin.step (fun _ k => Yo.dup Xy4.here hx (hb hby d9_117) rfl rfl (Yo.iconst Xy4.here hx (hb hby d9_118) (Yo.aloadN Xy4.here hx (hb hby d9_119) rfl rfl (Yo.iconst Xy4.here hx (hb hby d9_120) (cld3 Xy4 hx hZ ey4 (j := 1) (v := (.int (own_gt asl 1))) (HV_a1.keep Ky4 nin0) ⟨by decide, by decide⟩ (own_lg hca 1) (hb hby d9_121) k))))) ?_
  obtain ⟨Ty6, hy6, Xy6, ey6, Wy6, Vy6, Ny6, Zy6, Ky6, sty6⟩ := cst3 Xy4 hx hZ ey4 (j := 1) (x := (own_gt asl 1)) (ix := 1) Vy4 ⟨by decide, by decide⟩ rfl (lb rfl) Ny4 Zy4 Ky4 gzy2 (Or.inr szy2) (hb hby d9_122)
  refine Fin.step (sty6) ?_
  refine Fin.step (fun _ k => Yo.dup Xy6.here hx (hb hby d9_123) rfl rfl (Yo.iconst Xy6.here hx (hb hby d9_124) (Yo.aloadN Xy6.here hx (hb hby d9_125) rfl rfl (Yo.iconst Xy6.here hx (hb hby d9_126) (cld3 Xy6 hx hZ ey6 (j := 2) (v := (.int (own_gt asl 2))) (HV_a1.keep Ky6 nin0) ⟨by decide, by decide⟩ (own_lg hca 2) (hb hby d9_127) k))))) ?_
  obtain ⟨Ty8, hy8, Xy8, ey8, Wy8, Vy8, Ny8, Zy8, Ky8, sty8⟩ := cst3 Xy6 hx hZ ey6 (j := 2) (x := (own_gt asl 2)) (ix := 2) Vy6 ⟨by decide, by decide⟩ rfl (lb rfl) Ny6 Zy6 Ky6 gzy2 (Or.inr szy2) (hb hby d9_128)
  refine Fin.step (sty8) ?_
  refine Fin.step (fun _ k => Yo.dup Xy8.here hx (hb hby d9_129) rfl rfl (Yo.iconst Xy8.here hx (hb hby d9_130) (Yo.aloadN Xy8.here hx (hb hby d9_131) rfl rfl (Yo.iconst Xy8.here hx (hb hby d9_132) (cld3 Xy8 hx hZ ey8 (j := 3) (v := (.int (own_gt asl 3))) (HV_a1.keep Ky8 nin0) ⟨by decide, by decide⟩ (own_lg hca 3) (hb hby d9_133) k))))) ?_
  obtain ⟨Ty10, hy10, Xy10, ey10, Wy10, Vy10, Ny10, Zy10, Ky10, sty10⟩ := cst3 Xy8 hx hZ ey8 (j := 3) (x := (own_gt asl 3)) (ix := 3) Vy8 ⟨by decide, by decide⟩ rfl (lb rfl) Ny8 Zy8 Ky8 gzy2 (Or.inr szy2) (hb hby d9_134)
  refine Fin.step (sty10) ?_
  have ry11 := (((((Ay1.ext Ey2).wr Wy4).wr Wy6).wr Wy8).wr Wy10)
  have ney12 := nlt Ay1.lt (Nat.le_of_eq gy2.symm)
  have ry13 := (((((F_coder_by1.ext Ey2).other Wy4 (Or.inl ney12)).other Wy6 (Or.inl ney12)).other Wy8 (Or.inl ney12)).other Wy10 (Or.inl ney12))
  have ry14 := (((((F_value_by1.ext Ey2).other Wy4 (Or.inl ney12)).other Wy6 (Or.inl ney12)).other Wy8 (Or.inl ney12)).other Wy10 (Or.inl ney12))
  have ry15 := (Sta_keep HS_java_lang_String_COMPACT_STRINGS Ky10)
  have ry16 := (Sta_keep HS_java_lang_StringUTF16__assertionsDisabled Ky10)
  have ry17 := (Sta_keep HS_java_lang_StringUTF16_HI_BYTE_SHIFT Ky10)
  have ry18 := (Sta_keep HS_java_lang_StringUTF16_LO_BYTE_SHIFT Ky10)
  obtain ⟨_, Ty19, Lcy19, Xy19, hQy19, sty19⟩ := pack (Xy10.specialBack hx (y := n10) rfl hown (mvT hZ (W_ hw 56)) (mvT hZ (W_ hw 57)) (mvT hZ (W_ hw 58)) (by decide) (backOf (W := 1) (rmsi1U l Z a0 hw [] by1 by2 4 ky2 _ wc pj 8 hy10 n0 Zy10 ry11 ry13 ry14 Vy10 ry15 ry16 ry17 ry18 gzy1 (by decide) (own_tkc asl 4) hwc (by decide) (by decide) hj hlat hbig hz ney12) hZ (W_ hw 58) (W_ hw 3) (by decide) (by decide)) (g := (mkF m 135 #[rv a1, iv 4] [(.ref by2), (.ref by1), (.ref by1)])) rfl (by rw [hml]; rfl) (Steps.refl _) (a := by1) (argsL := [(.ref by2)]) (rest := [(.ref by1)]) (lenOf pd_8 rfl) rfl (lb rfl) (hb hby d9_135) (fun _ _ => ⟨rfl, ey10, (by decide : 2 + 2 ≤ _), (by decide : 8 + 24 ≤ _)⟩))
  obtain ⟨nb_y19, kn_y19, lz_y19, rfl, bfy19_0, Nqy19, Kcy19, fy19_0, fy19_1, fy19_2, ney19_0⟩ := hQy19
  have Ny19 := Fr.app Ny10 Nqy19
  have gzy19_0 : n0 ≤ nb_y19 := Nat.le_trans Zy10 bfy19_0
  have szy19_0 : h0.size ≤ nb_y19 := Nat.le_trans Ky10.1 bfy19_0
  have Zy19 := Nat.le_trans Zy10 Kcy19.1
  have Ky19 := Ky10.trans Kcy19 (allS (Or.inr szy1) all0)
  refine Fin.step (sty19) ?_
  show Fin p e below s _ _ _ (Ty19.setTop (mkF m 138 #[rv a1, iv 4] [(.ref by1)]))
  refine Fin.retR Xy19 hx hret rfl rfl hlk (hb hby d9_138) (by decide) (by decide) ?_
  show QstU4 Z a1 ka asl wc pj h0 n0 _ Ty19.heap _
  exact ⟨nb_y19, kn_y19, lz_y19, by1, rfl, szy1, szy19_0, Ny19, Ky19, (ry11.keep Kcy19), fy19_0, fy19_1, fy19_2, ney19_0⟩
theorem ef_rmstU6 (m : MethodId) (x0 : Addr) : entryFrame m #[(.ref x0), (.int (6 : Int32))] 2 = mkF m 0 #[.val (.ref x0), .val (.int (6 : Int32))] [] := by first | (simp [entryFrame, mkF, argsToLocals, Value.category]; done) | rfl
abbrev R_rmstU6 : Room := ({ frames := 6, cells := 4, slots := 34, locals := 88 } : Room)
def QstU6 (Z : State) (a1 : Addr) (ka : ClassId) (asl : List Value) (wc pj : Int32) (h0 : Heap) (n0 : Nat) (v : Option Value) (h : Heap) (L : List Loc) : Prop := ∃ nb : Addr, ∃ kn : ClassId, ∃ lz : List Value, ∃ so : Addr, v = some (.ref so) ∧ h0.size ≤ so ∧ h0.size ≤ nb ∧ Fr n0 L ∧ Keep h0 h [] ∧ Exa Z h so q3 ∧ Fld Z h so q3 "coder" "B" (.int 1) ∧ Fld Z h so q3 "value" "[B" (.ref nb) ∧ Arv Z h nb kn .byte (12 : Int32) lz (.int 0) ∧ so ≠ nb
set_option maxRecDepth 65536 in
set_option maxHeartbeats 40000000 in
theorem rmstU6 (l : Launch) (Z : State) (a0 : Array Value) (hw : ∀ d ∈ tables_1, d.before a0 Z = true) (ws : List Jvm.Cond) (a1 : Addr) (ka : ClassId) (asl : List Value) (wc pj : Int32) (h0 : Heap) (n0 : Nat) (Z0 : n0 ≤ h0.size) (HV_a1 : Arv Z h0 a1 ka .char (8 : Int32) asl (.int 0)) (HS_java_lang_String_COMPACT_STRINGS : Sta Z h0 q3 q7 "Z" (.int wc)) (HS_java_lang_StringUTF16__assertionsDisabled : Sta Z h0 q6 "$assertionsDisabled" "Z" (.int 1)) (HS_java_lang_StringUTF16_HI_BYTE_SHIFT : Sta Z h0 q6 "HI_BYTE_SHIFT" "I" (.int 0)) (HS_java_lang_StringUTF16_LO_BYTE_SHIFT : Sta Z h0 q6 "LO_BYTE_SHIFT" "I" (.int 8)) (hca : own_chs asl) (hwc : ¬ wc = 0) (hj : 0 ≤ pj.toInt ∧ pj < (6 : Int32)) (hlat : ∀ i, i < pj.toNatClampNeg → ¬ (255 : Int32) < own_gt (own_tk asl 6) i) (hbig : (255 : Int32) < own_gt (own_tk asl 6) pj.toNatClampNeg) (hz : 0 ≤ (own_gt (own_tk asl 6) pj.toNatClampNeg).toInt ∧ (own_gt (own_tk asl 6) pj.toNatClampNeg).toInt ≤ 65535) :
    Met1 l n9 method_4_code 2 (some (.object "java/lang/String")) ws R_rmstU6 #[(.ref a1), (.int 6)] Z h0 (QstU6 Z a1 ka asl wc pj h0 n0) := by
  refine Met1.enter (plainFor_of_name pn_9) (fun m => ef_rmstU6 m a1) fun p e s m below meth c s₁ hx hby hlk hret hml hown hnm hZ X0 e0 => ?_
  have N0 := Fr.nil n0
  have K0 : Keep h0 h0 [] := Keep.refl h0 _
  show Fin p e below s _ _ _ (s₁.setTop (mkF m 0 #[rv a1, iv 6] []))
  refine Fin.step (fun _ k => Yo.iloadN X0.here hx (hb hby d9_0) rfl (Yo.ifYes X0.here hx (pc0 := 1) (pc' := 15) rfl (hb hby d9_1) rfl ((if0 _ _).trans (feq ((by decide) : ¬ ((6 : Int32) = (0 : Int32)))).2) (by decide) (by decide) (Yo.iloadN X0.here hx (hb hby d9_15) rfl (Yo.iconst X0.here hx (hb hby d9_16) (Yo.icmpYes X0.here hx (pc0 := 17) (pc' := 37) rfl (hb hby d9_17) rfl (feq ((by decide) : ¬ ((6 : Int32) = (1 : Int32)))).2 (by decide) (by decide) (Yo.iloadN X0.here hx (hb hby d9_37) rfl (Yo.iconst X0.here hx (hb hby d9_38) (Yo.icmpYes X0.here hx (pc0 := 39) (pc' := 65) rfl (hb hby d9_39) rfl (feq ((by decide) : ¬ ((6 : Int32) = (2 : Int32)))).2 (by decide) (by decide) k)))))))) ?_
  refine Fin.step (fun _ k => Yo.iloadN X0.here hx (hb hby d9_65) rfl (Yo.iconst X0.here hx (hb hby d9_66) (Yo.icmpYes X0.here hx (pc0 := 67) (pc' := 99) rfl (hb hby d9_67) rfl (feq ((by decide) : ¬ ((6 : Int32) = (3 : Int32)))).2 (by decide) (by decide) (Yo.iloadN X0.here hx (hb hby d9_99) rfl (Yo.iconst X0.here hx (hb hby d9_100) (Yo.icmpYes X0.here hx (pc0 := 101) (pc' := 139) rfl (hb hby d9_101) rfl (feq ((by decide) : ¬ ((6 : Int32) = (4 : Int32)))).2 (by decide) (by decide) (Yo.iloadN X0.here hx (hb hby d9_139) rfl (Yo.iconst X0.here hx (hb hby d9_140) k)))))))) ?_
  refine Fin.step (fun _ k => Yo.icmpYes X0.here hx (pc0 := 141) (pc' := 185) rfl (hb hby d9_141) rfl (feq ((by decide) : ¬ ((6 : Int32) = (5 : Int32)))).2 (by decide) (by decide) (Yo.iloadN X0.here hx (hb hby d9_185) rfl (Yo.bipush X0.here hx (hb hby d9_186) (Yo.icmpNo X0.here hx (hb hby d9_188) rfl (teq ((by decide) : ((6 : Int32) = (6 : Int32)))).2 k)))) ?_
  obtain ⟨Ty1, hy1, Xy1, ey1, Ey1, Ay1, Dy1, -, sty1⟩ := newO X0 hx hZ hown (W_ hw 55) (W_ hw 4) (W_ hw 3) e0 (g := (mkF m 191 #[rv a1, iv 6] [])) rfl (hb hby d9_191) (by decide) (by decide)
  obtain ⟨by1, gy1⟩ : ∃ z, z = h0.size := ⟨_, rfl⟩
  rw [← gy1] at Ay1 Dy1 sty1
  have gzy1 : n0 ≤ by1 := Nat.le_trans Z0 (Nat.le_of_eq gy1.symm)
  have szy1 : h0.size ≤ by1 := Nat.le_trans K0.1 (Nat.le_of_eq gy1.symm)
  have Zy1 := Nat.le_trans Z0 Ey1.1
  have Ky1 := K0.ext Ey1
  have F_value_by1 : Fld Z hy1 by1 q3 "value" "[B" .null := Dy1 (Or.inr (W_ hw 6)) (ty := (.array .byte)) (by decide)
  have F_coder_by1 : Fld Z hy1 by1 q3 "coder" "B" (.int 0) := Dy1 (Or.inr (W_ hw 7)) (ty := .byte) (by decide)
  refine Fin.step (sty1) ?_
  show Fin p e below s _ _ _ (Ty1.setTop (mkF m 194 #[rv a1, iv 6] [(.ref by1)]))
  refine Fin.step (fun _ k => Yo.dup Xy1.here hx (hb hby d9_194) rfl rfl (Yo.bipush Xy1.here hx (hb hby d9_195) k)) ?_
  obtain ⟨Ty2, hy2, ky2, Xy2, ey2, Ey2, Ay2, sty2⟩ := newP Xy1 hx hZ (W_ hw 1) ey1 (g := (mkF m 197 #[rv a1, iv 6] [(.int 6), (.ref by1), (.ref by1)])) rfl (hb hby d9_197) rfl (by decide) (cap := 6) (by decide) (by decide) (by decide) (by decide)
  obtain ⟨by2, gy2⟩ : ∃ z, z = hy1.size := ⟨_, rfl⟩
  rw [← gy2] at Ay2 sty2
  have gzy2 : n0 ≤ by2 := Nat.le_trans Zy1 (Nat.le_of_eq gy2.symm)
  have szy2 : h0.size ≤ by2 := Nat.le_trans Ky1.1 (Nat.le_of_eq gy2.symm)
  have Zy2 := Nat.le_trans Zy1 Ey2.1
  have Ky2 := Ky1.ext Ey2
  have Vy2 : Arv Z hy2 by2 ky2 .char (6 : Int32) [(.int 0), (.int 0), (.int 0), (.int 0), (.int 0), (.int 0)] (.int 0) := (Arv.new Ay2 (by decide)).pad (pad_rep [] (.int 0) 6)
  refine Fin.step (sty2) ?_
  show Fin p e below s _ _ _ (Ty2.setTop (mkF m 199 #[rv a1, iv 6] [(.ref by2), (.ref by1), (.ref by1)]))
  refine Fin.step (fun _ k => Yo.dup Xy2.here hx (hb hby d9_199) rfl rfl (Yo.iconst Xy2.here hx (hb hby d9_200) (Yo.aloadN Xy2.here hx (hb hby d9_201) rfl rfl (Yo.iconst Xy2.here hx (hb hby d9_202) (cld3 Xy2 hx hZ ey2 (j := 0) (v := (.int (own_gt asl 0))) (HV_a1.keep Ky2 nin0) ⟨by decide, by decide⟩ (own_lg hca 0) (hb hby d9_203) k))))) ?_
  obtain ⟨Ty4, hy4, Xy4, ey4, Wy4, Vy4, Ny4, Zy4, Ky4, sty4⟩ := cst3 Xy2 hx hZ ey2 (j := 0) (x := (own_gt asl 0)) (ix := 0) Vy2 ⟨by decide, by decide⟩ rfl (lb rfl) N0 Zy2 Ky2 gzy2 (Or.inr szy2) (hb hby d9_204)
  refine Fin.step (sty4) ?_
  refine Fin.step (fun _ k => Yo.dup Xy4.here hx (hb hby d9_205) rfl rfl (Yo.iconst Xy4.here hx (hb hby d9_206) (Yo.aloadN Xy4.here hx (hb hby d9_207) rfl rfl (Yo.iconst Xy4.here hx (hb hby d9_208) (cld3 Xy4 hx hZ ey4 (j := 1) (v := (.int (own_gt asl 1))) (HV_a1.keep Ky4 nin0) ⟨by decide, by decide⟩ (own_lg hca 1) (hb hby d9_209) k))))) ?_
  obtain ⟨Ty6, hy6, Xy6, ey6, Wy6, Vy6, Ny6, Zy6, Ky6, sty6⟩ := cst3 Xy4 hx hZ ey4 (j := 1) (x := (own_gt asl 1)) (ix := 1) Vy4 ⟨by decide, by decide⟩ rfl (lb rfl) Ny4 Zy4 Ky4 gzy2 (Or.inr szy2) (hb hby d9_210)
  refine Fin.step (sty6) ?_
  refine Fin.step (fun _ k => Yo.dup Xy6.here hx (hb hby d9_211) rfl rfl (Yo.iconst Xy6.here hx (hb hby d9_212) (Yo.aloadN Xy6.here hx (hb hby d9_213) rfl rfl (Yo.iconst Xy6.here hx (hb hby d9_214) (cld3 Xy6 hx hZ ey6 (j := 2) (v := (.int (own_gt asl 2))) (HV_a1.keep Ky6 nin0) ⟨by decide, by decide⟩ (own_lg hca 2) (hb hby d9_215) k))))) ?_
  obtain ⟨Ty8, hy8, Xy8, ey8, Wy8, Vy8, Ny8, Zy8, Ky8, sty8⟩ := cst3 Xy6 hx hZ ey6 (j := 2) (x := (own_gt asl 2)) (ix := 2) Vy6 ⟨by decide, by decide⟩ rfl (lb rfl) Ny6 Zy6 Ky6 gzy2 (Or.inr szy2) (hb hby d9_216)
  refine Fin.step (sty8) ?_
  refine Fin.step (fun _ k => Yo.dup Xy8.here hx (hb hby d9_217) rfl rfl (Yo.iconst Xy8.here hx (hb hby d9_218) (Yo.aloadN Xy8.here hx (hb hby d9_219) rfl rfl (Yo.iconst Xy8.here hx (hb hby d9_220) (cld3 Xy8 hx hZ ey8 (j := 3) (v := (.int (own_gt asl 3))) (HV_a1.keep Ky8 nin0) ⟨by decide, by decide⟩ (own_lg hca 3) (hb hby d9_221) k))))) ?_
  obtain ⟨Ty10, hy10, Xy10, ey10, Wy10, Vy10, Ny10, Zy10, Ky10, sty10⟩ := cst3 Xy8 hx hZ ey8 (j := 3) (x := (own_gt asl 3)) (ix := 3) Vy8 ⟨by decide, by decide⟩ rfl (lb rfl) Ny8 Zy8 Ky8 gzy2 (Or.inr szy2) (hb hby d9_222)
  refine Fin.step (sty10) ?_
  refine Fin.step (fun _ k => Yo.dup Xy10.here hx (hb hby d9_223) rfl rfl (Yo.iconst Xy10.here hx (hb hby d9_224) (Yo.aloadN Xy10.here hx (hb hby d9_225) rfl rfl (Yo.iconst Xy10.here hx (hb hby d9_226) (cld3 Xy10 hx hZ ey10 (j := 4) (v := (.int (own_gt asl 4))) (HV_a1.keep Ky10 nin0) ⟨by decide, by decide⟩ (own_lg hca 4) (hb hby d9_227) k))))) ?_
  obtain ⟨Ty12, hy12, Xy12, ey12, Wy12, Vy12, Ny12, Zy12, Ky12, sty12⟩ := cst3 Xy10 hx hZ ey10 (j := 4) (x := (own_gt asl 4)) (ix := 4) Vy10 ⟨by decide, by decide⟩ rfl (lb rfl) Ny10 Zy10 Ky10 gzy2 (Or.inr szy2) (hb hby d9_228)
  refine Fin.step (sty12) ?_
  refine Fin.step (fun _ k => Yo.dup Xy12.here hx (hb hby d9_229) rfl rfl (Yo.iconst Xy12.here hx (hb hby d9_230) (Yo.aloadN Xy12.here hx (hb hby d9_231) rfl rfl (Yo.iconst Xy12.here hx (hb hby d9_232) (cld3 Xy12 hx hZ ey12 (j := 5) (v := (.int (own_gt asl 5))) (HV_a1.keep Ky12 nin0) ⟨by decide, by decide⟩ (own_lg hca 5) (hb hby d9_233) k))))) ?_
  obtain ⟨Ty14, hy14, Xy14, ey14, Wy14, Vy14, Ny14, Zy14, Ky14, sty14⟩ := cst3 Xy12 hx hZ ey12 (j := 5) (x := (own_gt asl 5)) (ix := 5) Vy12 ⟨by decide, by decide⟩ rfl (lb rfl) Ny12 Zy12 Ky12 gzy2 (Or.inr szy2) (hb hby d9_234)
  refine Fin.step (sty14) ?_
  have ry15 := (((((((Ay1.ext Ey2).wr Wy4).wr Wy6).wr Wy8).wr Wy10).wr Wy12).wr Wy14)
  have ney16 := nlt Ay1.lt (Nat.le_of_eq gy2.symm)
  have ry17 := (((((((F_coder_by1.ext Ey2).other Wy4 (Or.inl ney16)).other Wy6 (Or.inl ney16)).other Wy8 (Or.inl ney16)).other Wy10 (Or.inl ney16)).other Wy12 (Or.inl ney16)).other Wy14 (Or.inl ney16))
  have ry18 := (((((((F_value_by1.ext Ey2).other Wy4 (Or.inl ney16)).other Wy6 (Or.inl ney16)).other Wy8 (Or.inl ney16)).other Wy10 (Or.inl ney16)).other Wy12 (Or.inl ney16)).other Wy14 (Or.inl ney16))
  have ry19 := (Sta_keep HS_java_lang_String_COMPACT_STRINGS Ky14)
  have ry20 := (Sta_keep HS_java_lang_StringUTF16__assertionsDisabled Ky14)
  have ry21 := (Sta_keep HS_java_lang_StringUTF16_HI_BYTE_SHIFT Ky14)
  have ry22 := (Sta_keep HS_java_lang_StringUTF16_LO_BYTE_SHIFT Ky14)
  obtain ⟨_, Ty23, Lcy23, Xy23, hQy23, sty23⟩ := pack (Xy14.specialBack hx (y := n10) rfl hown (mvT hZ (W_ hw 56)) (mvT hZ (W_ hw 57)) (mvT hZ (W_ hw 58)) (by decide) (backOf (W := 1) (rmsi1U l Z a0 hw [] by1 by2 6 ky2 _ wc pj 12 hy14 n0 Zy14 ry15 ry17 ry18 Vy14 ry19 ry20 ry21 ry22 gzy1 (by decide) (own_tkc asl 6) hwc (by decide) (by decide) hj hlat hbig hz ney16) hZ (W_ hw 58) (W_ hw 3) (by decide) (by decide)) (g := (mkF m 235 #[rv a1, iv 6] [(.ref by2), (.ref by1), (.ref by1)])) rfl (by rw [hml]; rfl) (Steps.refl _) (a := by1) (argsL := [(.ref by2)]) (rest := [(.ref by1)]) (lenOf pd_8 rfl) rfl (lb rfl) (hb hby d9_235) (fun _ _ => ⟨rfl, ey14, (by decide : 2 + 2 ≤ _), (by decide : 10 + 24 ≤ _)⟩))
  obtain ⟨nb_y23, kn_y23, lz_y23, rfl, bfy23_0, Nqy23, Kcy23, fy23_0, fy23_1, fy23_2, ney23_0⟩ := hQy23
  have Ny23 := Fr.app Ny14 Nqy23
  have gzy23_0 : n0 ≤ nb_y23 := Nat.le_trans Zy14 bfy23_0
  have szy23_0 : h0.size ≤ nb_y23 := Nat.le_trans Ky14.1 bfy23_0
  have Zy23 := Nat.le_trans Zy14 Kcy23.1
  have Ky23 := Ky14.trans Kcy23 (allS (Or.inr szy1) all0)
  refine Fin.step (sty23) ?_
  show Fin p e below s _ _ _ (Ty23.setTop (mkF m 238 #[rv a1, iv 6] [(.ref by1)]))
  refine Fin.retR Xy23 hx hret rfl rfl hlk (hb hby d9_238) (by decide) (by decide) ?_
  show QstU6 Z a1 ka asl wc pj h0 n0 _ Ty23.heap _
  exact ⟨nb_y23, kn_y23, lz_y23, by1, rfl, szy1, szy23_0, Ny23, Ky23, (ry15.keep Kcy23), fy23_0, fy23_1, fy23_2, ney23_0⟩
theorem ef_rmstU7 (m : MethodId) (x0 : Addr) : entryFrame m #[(.ref x0), (.int (7 : Int32))] 2 = mkF m 0 #[.val (.ref x0), .val (.int (7 : Int32))] [] := by first | (simp [entryFrame, mkF, argsToLocals, Value.category]; done) | rfl
abbrev R_rmstU7 : Room := ({ frames := 6, cells := 4, slots := 35, locals := 88 } : Room)
def QstU7 (Z : State) (a1 : Addr) (ka : ClassId) (asl : List Value) (wc pj : Int32) (h0 : Heap) (n0 : Nat) (v : Option Value) (h : Heap) (L : List Loc) : Prop := ∃ nb : Addr, ∃ kn : ClassId, ∃ lz : List Value, ∃ so : Addr, v = some (.ref so) ∧ h0.size ≤ so ∧ h0.size ≤ nb ∧ Fr n0 L ∧ Keep h0 h [] ∧ Exa Z h so q3 ∧ Fld Z h so q3 "coder" "B" (.int 1) ∧ Fld Z h so q3 "value" "[B" (.ref nb) ∧ Arv Z h nb kn .byte (14 : Int32) lz (.int 0) ∧ so ≠ nb
set_option maxRecDepth 65536 in
set_option maxHeartbeats 40000000 in
theorem rmstU7 (l : Launch) (Z : State) (a0 : Array Value) (hw : ∀ d ∈ tables_1, d.before a0 Z = true) (ws : List Jvm.Cond) (a1 : Addr) (ka : ClassId) (asl : List Value) (wc pj : Int32) (h0 : Heap) (n0 : Nat) (Z0 : n0 ≤ h0.size) (HV_a1 : Arv Z h0 a1 ka .char (8 : Int32) asl (.int 0)) (HS_java_lang_String_COMPACT_STRINGS : Sta Z h0 q3 q7 "Z" (.int wc)) (HS_java_lang_StringUTF16__assertionsDisabled : Sta Z h0 q6 "$assertionsDisabled" "Z" (.int 1)) (HS_java_lang_StringUTF16_HI_BYTE_SHIFT : Sta Z h0 q6 "HI_BYTE_SHIFT" "I" (.int 0)) (HS_java_lang_StringUTF16_LO_BYTE_SHIFT : Sta Z h0 q6 "LO_BYTE_SHIFT" "I" (.int 8)) (hca : own_chs asl) (hwc : ¬ wc = 0) (hj : 0 ≤ pj.toInt ∧ pj < (7 : Int32)) (hlat : ∀ i, i < pj.toNatClampNeg → ¬ (255 : Int32) < own_gt (own_tk asl 7) i) (hbig : (255 : Int32) < own_gt (own_tk asl 7) pj.toNatClampNeg) (hz : 0 ≤ (own_gt (own_tk asl 7) pj.toNatClampNeg).toInt ∧ (own_gt (own_tk asl 7) pj.toNatClampNeg).toInt ≤ 65535) :
    Met1 l n9 method_4_code 2 (some (.object "java/lang/String")) ws R_rmstU7 #[(.ref a1), (.int 7)] Z h0 (QstU7 Z a1 ka asl wc pj h0 n0) := by
  refine Met1.enter (plainFor_of_name pn_9) (fun m => ef_rmstU7 m a1) fun p e s m below meth c s₁ hx hby hlk hret hml hown hnm hZ X0 e0 => ?_
  have N0 := Fr.nil n0
  have K0 : Keep h0 h0 [] := Keep.refl h0 _
  show Fin p e below s _ _ _ (s₁.setTop (mkF m 0 #[rv a1, iv 7] []))
  refine Fin.step (fun _ k => Yo.iloadN X0.here hx (hb hby d9_0) rfl (Yo.ifYes X0.here hx (pc0 := 1) (pc' := 15) rfl (hb hby d9_1) rfl ((if0 _ _).trans (feq ((by decide) : ¬ ((7 : Int32) = (0 : Int32)))).2) (by decide) (by decide) (Yo.iloadN X0.here hx (hb hby d9_15) rfl (Yo.iconst X0.here hx (hb hby d9_16) (Yo.icmpYes X0.here hx (pc0 := 17) (pc' := 37) rfl (hb hby d9_17) rfl (feq ((by decide) : ¬ ((7 : Int32) = (1 : Int32)))).2 (by decide) (by decide) (Yo.iloadN X0.here hx (hb hby d9_37) rfl (Yo.iconst X0.here hx (hb hby d9_38) (Yo.icmpYes X0.here hx (pc0 := 39) (pc' := 65) rfl (hb hby d9_39) rfl (feq ((by decide) : ¬ ((7 : Int32) = (2 : Int32)))).2 (by decide) (by decide) k)))))))) ?_
  refine Fin.step (fun _ k => Yo.iloadN X0.here hx (hb hby d9_65) rfl (Yo.iconst X0.here hx (hb hby d9_66) (Yo.icmpYes X0.here hx (pc0 := 67) (pc' := 99) rfl (hb hby d9_67) rfl (feq ((by decide) : ¬ ((7 : Int32) = (3 : Int32)))).2 (by decide) (by decide) (Yo.iloadN X0.here hx (hb hby d9_99) rfl (Yo.iconst X0.here hx (hb hby d9_100) (Yo.icmpYes X0.here hx (pc0 := 101) (pc' := 139) rfl (hb hby d9_101) rfl (feq ((by decide) : ¬ ((7 : Int32) = (4 : Int32)))).2 (by decide) (by decide) (Yo.iloadN X0.here hx (hb hby d9_139) rfl (Yo.iconst X0.here hx (hb hby d9_140) k)))))))) ?_
  refine Fin.step (fun _ k => Yo.icmpYes X0.here hx (pc0 := 141) (pc' := 185) rfl (hb hby d9_141) rfl (feq ((by decide) : ¬ ((7 : Int32) = (5 : Int32)))).2 (by decide) (by decide) (Yo.iloadN X0.here hx (hb hby d9_185) rfl (Yo.bipush X0.here hx (hb hby d9_186) (Yo.icmpYes X0.here hx (pc0 := 188) (pc' := 239) rfl (hb hby d9_188) rfl (feq ((by decide) : ¬ ((7 : Int32) = (6 : Int32)))).2 (by decide) (by decide) (Yo.iloadN X0.here hx (hb hby d9_239) rfl (Yo.bipush X0.here hx (hb hby d9_240) (Yo.icmpNo X0.here hx (hb hby d9_242) rfl (teq ((by decide) : ((7 : Int32) = (7 : Int32)))).2 k))))))) ?_
  obtain ⟨Ty1, hy1, Xy1, ey1, Ey1, Ay1, Dy1, -, sty1⟩ := newO X0 hx hZ hown (W_ hw 55) (W_ hw 4) (W_ hw 3) e0 (g := (mkF m 245 #[rv a1, iv 7] [])) rfl (hb hby d9_245) (by decide) (by decide)
  obtain ⟨by1, gy1⟩ : ∃ z, z = h0.size := ⟨_, rfl⟩
  rw [← gy1] at Ay1 Dy1 sty1
  have gzy1 : n0 ≤ by1 := Nat.le_trans Z0 (Nat.le_of_eq gy1.symm)
  have szy1 : h0.size ≤ by1 := Nat.le_trans K0.1 (Nat.le_of_eq gy1.symm)
  have Zy1 := Nat.le_trans Z0 Ey1.1
  have Ky1 := K0.ext Ey1
  have F_value_by1 : Fld Z hy1 by1 q3 "value" "[B" .null := Dy1 (Or.inr (W_ hw 6)) (ty := (.array .byte)) (by decide)
  have F_coder_by1 : Fld Z hy1 by1 q3 "coder" "B" (.int 0) := Dy1 (Or.inr (W_ hw 7)) (ty := .byte) (by decide)
  refine Fin.step (sty1) ?_
  show Fin p e below s _ _ _ (Ty1.setTop (mkF m 248 #[rv a1, iv 7] [(.ref by1)]))
  refine Fin.step (fun _ k => Yo.dup Xy1.here hx (hb hby d9_248) rfl rfl (Yo.bipush Xy1.here hx (hb hby d9_249) k)) ?_
  obtain ⟨Ty2, hy2, ky2, Xy2, ey2, Ey2, Ay2, sty2⟩ := newP Xy1 hx hZ (W_ hw 1) ey1 (g := (mkF m 251 #[rv a1, iv 7] [(.int 7), (.ref by1), (.ref by1)])) rfl (hb hby d9_251) rfl (by decide) (cap := 7) (by decide) (by decide) (by decide) (by decide)
  obtain ⟨by2, gy2⟩ : ∃ z, z = hy1.size := ⟨_, rfl⟩
  rw [← gy2] at Ay2 sty2
  have gzy2 : n0 ≤ by2 := Nat.le_trans Zy1 (Nat.le_of_eq gy2.symm)
  have szy2 : h0.size ≤ by2 := Nat.le_trans Ky1.1 (Nat.le_of_eq gy2.symm)
  have Zy2 := Nat.le_trans Zy1 Ey2.1
  have Ky2 := Ky1.ext Ey2
  have Vy2 : Arv Z hy2 by2 ky2 .char (7 : Int32) [(.int 0), (.int 0), (.int 0), (.int 0), (.int 0), (.int 0), (.int 0)] (.int 0) := (Arv.new Ay2 (by decide)).pad (pad_rep [] (.int 0) 7)
  refine Fin.step (sty2) ?_
  show Fin p e below s _ _ _ (Ty2.setTop (mkF m 253 #[rv a1, iv 7] [(.ref by2), (.ref by1), (.ref by1)]))
  refine Fin.step (fun _ k => Yo.dup Xy2.here hx (hb hby d9_253) rfl rfl (Yo.iconst Xy2.here hx (hb hby d9_254) (Yo.aloadN Xy2.here hx (hb hby d9_255) rfl rfl (Yo.iconst Xy2.here hx (hb hby d9_256) (cld3 Xy2 hx hZ ey2 (j := 0) (v := (.int (own_gt asl 0))) (HV_a1.keep Ky2 nin0) ⟨by decide, by decide⟩ (own_lg hca 0) (hb hby d9_257) k))))) ?_
  obtain ⟨Ty4, hy4, Xy4, ey4, Wy4, Vy4, Ny4, Zy4, Ky4, sty4⟩ := cst3 Xy2 hx hZ ey2 (j := 0) (x := (own_gt asl 0)) (ix := 0) Vy2 ⟨by decide, by decide⟩ rfl (lb rfl) N0 Zy2 Ky2 gzy2 (Or.inr szy2) (hb hby d9_258)
  refine Fin.step (sty4) ?_
  refine Fin.step (fun _ k => Yo.dup Xy4.here hx (hb hby d9_259) rfl rfl (Yo.iconst Xy4.here hx (hb hby d9_260) (Yo.aloadN Xy4.here hx (hb hby d9_261) rfl rfl (Yo.iconst Xy4.here hx (hb hby d9_262) (cld3 Xy4 hx hZ ey4 (j := 1) (v := (.int (own_gt asl 1))) (HV_a1.keep Ky4 nin0) ⟨by decide, by decide⟩ (own_lg hca 1) (hb hby d9_263) k))))) ?_
  obtain ⟨Ty6, hy6, Xy6, ey6, Wy6, Vy6, Ny6, Zy6, Ky6, sty6⟩ := cst3 Xy4 hx hZ ey4 (j := 1) (x := (own_gt asl 1)) (ix := 1) Vy4 ⟨by decide, by decide⟩ rfl (lb rfl) Ny4 Zy4 Ky4 gzy2 (Or.inr szy2) (hb hby d9_264)
  refine Fin.step (sty6) ?_
  refine Fin.step (fun _ k => Yo.dup Xy6.here hx (hb hby d9_265) rfl rfl (Yo.iconst Xy6.here hx (hb hby d9_266) (Yo.aloadN Xy6.here hx (hb hby d9_267) rfl rfl (Yo.iconst Xy6.here hx (hb hby d9_268) (cld3 Xy6 hx hZ ey6 (j := 2) (v := (.int (own_gt asl 2))) (HV_a1.keep Ky6 nin0) ⟨by decide, by decide⟩ (own_lg hca 2) (hb hby d9_269) k))))) ?_
  obtain ⟨Ty8, hy8, Xy8, ey8, Wy8, Vy8, Ny8, Zy8, Ky8, sty8⟩ := cst3 Xy6 hx hZ ey6 (j := 2) (x := (own_gt asl 2)) (ix := 2) Vy6 ⟨by decide, by decide⟩ rfl (lb rfl) Ny6 Zy6 Ky6 gzy2 (Or.inr szy2) (hb hby d9_270)
  refine Fin.step (sty8) ?_
  refine Fin.step (fun _ k => Yo.dup Xy8.here hx (hb hby d9_271) rfl rfl (Yo.iconst Xy8.here hx (hb hby d9_272) (Yo.aloadN Xy8.here hx (hb hby d9_273) rfl rfl (Yo.iconst Xy8.here hx (hb hby d9_274) (cld3 Xy8 hx hZ ey8 (j := 3) (v := (.int (own_gt asl 3))) (HV_a1.keep Ky8 nin0) ⟨by decide, by decide⟩ (own_lg hca 3) (hb hby d9_275) k))))) ?_
  obtain ⟨Ty10, hy10, Xy10, ey10, Wy10, Vy10, Ny10, Zy10, Ky10, sty10⟩ := cst3 Xy8 hx hZ ey8 (j := 3) (x := (own_gt asl 3)) (ix := 3) Vy8 ⟨by decide, by decide⟩ rfl (lb rfl) Ny8 Zy8 Ky8 gzy2 (Or.inr szy2) (hb hby d9_276)
  refine Fin.step (sty10) ?_
  refine Fin.step (fun _ k => Yo.dup Xy10.here hx (hb hby d9_277) rfl rfl (Yo.iconst Xy10.here hx (hb hby d9_278) (Yo.aloadN Xy10.here hx (hb hby d9_279) rfl rfl (Yo.iconst Xy10.here hx (hb hby d9_280) (cld3 Xy10 hx hZ ey10 (j := 4) (v := (.int (own_gt asl 4))) (HV_a1.keep Ky10 nin0) ⟨by decide, by decide⟩ (own_lg hca 4) (hb hby d9_281) k))))) ?_
  obtain ⟨Ty12, hy12, Xy12, ey12, Wy12, Vy12, Ny12, Zy12, Ky12, sty12⟩ := cst3 Xy10 hx hZ ey10 (j := 4) (x := (own_gt asl 4)) (ix := 4) Vy10 ⟨by decide, by decide⟩ rfl (lb rfl) Ny10 Zy10 Ky10 gzy2 (Or.inr szy2) (hb hby d9_282)
  refine Fin.step (sty12) ?_
  refine Fin.step (fun _ k => Yo.dup Xy12.here hx (hb hby d9_283) rfl rfl (Yo.iconst Xy12.here hx (hb hby d9_284) (Yo.aloadN Xy12.here hx (hb hby d9_285) rfl rfl (Yo.iconst Xy12.here hx (hb hby d9_286) (cld3 Xy12 hx hZ ey12 (j := 5) (v := (.int (own_gt asl 5))) (HV_a1.keep Ky12 nin0) ⟨by decide, by decide⟩ (own_lg hca 5) (hb hby d9_287) k))))) ?_
  obtain ⟨Ty14, hy14, Xy14, ey14, Wy14, Vy14, Ny14, Zy14, Ky14, sty14⟩ := cst3 Xy12 hx hZ ey12 (j := 5) (x := (own_gt asl 5)) (ix := 5) Vy12 ⟨by decide, by decide⟩ rfl (lb rfl) Ny12 Zy12 Ky12 gzy2 (Or.inr szy2) (hb hby d9_288)
  refine Fin.step (sty14) ?_
  refine Fin.step (fun _ k => Yo.dup Xy14.here hx (hb hby d9_289) rfl rfl (Yo.bipush Xy14.here hx (hb hby d9_290) (Yo.aloadN Xy14.here hx (hb hby d9_292) rfl rfl (Yo.bipush Xy14.here hx (hb hby d9_293) (cld3 Xy14 hx hZ ey14 (j := 6) (v := (.int (own_gt asl 6))) (HV_a1.keep Ky14 nin0) ⟨by decide, by decide⟩ (own_lg hca 6) (hb hby d9_295) k))))) ?_
  obtain ⟨Ty16, hy16, Xy16, ey16, Wy16, Vy16, Ny16, Zy16, Ky16, sty16⟩ := cst3 Xy14 hx hZ ey14 (j := 6) (x := (own_gt asl 6)) (ix := 6) Vy14 ⟨by decide, by decide⟩ rfl (lb rfl) Ny14 Zy14 Ky14 gzy2 (Or.inr szy2) (hb hby d9_296)
  refine Fin.step (sty16) ?_
  have ry17 := ((((((((Ay1.ext Ey2).wr Wy4).wr Wy6).wr Wy8).wr Wy10).wr Wy12).wr Wy14).wr Wy16)
  have ney18 := nlt Ay1.lt (Nat.le_of_eq gy2.symm)
  have ry19 := ((((((((F_coder_by1.ext Ey2).other Wy4 (Or.inl ney18)).other Wy6 (Or.inl ney18)).other Wy8 (Or.inl ney18)).other Wy10 (Or.inl ney18)).other Wy12 (Or.inl ney18)).other Wy14 (Or.inl ney18)).other Wy16 (Or.inl ney18))
  have ry20 := ((((((((F_value_by1.ext Ey2).other Wy4 (Or.inl ney18)).other Wy6 (Or.inl ney18)).other Wy8 (Or.inl ney18)).other Wy10 (Or.inl ney18)).other Wy12 (Or.inl ney18)).other Wy14 (Or.inl ney18)).other Wy16 (Or.inl ney18))
  have ry21 := (Sta_keep HS_java_lang_String_COMPACT_STRINGS Ky16)
  have ry22 := (Sta_keep HS_java_lang_StringUTF16__assertionsDisabled Ky16)
  have ry23 := (Sta_keep HS_java_lang_StringUTF16_HI_BYTE_SHIFT Ky16)
  have ry24 := (Sta_keep HS_java_lang_StringUTF16_LO_BYTE_SHIFT Ky16)
  obtain ⟨_, Ty25, Lcy25, Xy25, hQy25, sty25⟩ := pack (Xy16.specialBack hx (y := n10) rfl hown (mvT hZ (W_ hw 56)) (mvT hZ (W_ hw 57)) (mvT hZ (W_ hw 58)) (by decide) (backOf (W := 1) (rmsi1U l Z a0 hw [] by1 by2 7 ky2 _ wc pj 14 hy16 n0 Zy16 ry17 ry19 ry20 Vy16 ry21 ry22 ry23 ry24 gzy1 (by decide) (own_tkc asl 7) hwc (by decide) (by decide) hj hlat hbig hz ney18) hZ (W_ hw 58) (W_ hw 3) (by decide) (by decide)) (g := (mkF m 297 #[rv a1, iv 7] [(.ref by2), (.ref by1), (.ref by1)])) rfl (by rw [hml]; rfl) (Steps.refl _) (a := by1) (argsL := [(.ref by2)]) (rest := [(.ref by1)]) (lenOf pd_8 rfl) rfl (lb rfl) (hb hby d9_297) (fun _ _ => ⟨rfl, ey16, (by decide : 2 + 2 ≤ _), (by decide : 11 + 24 ≤ _)⟩))
  obtain ⟨nb_y25, kn_y25, lz_y25, rfl, bfy25_0, Nqy25, Kcy25, fy25_0, fy25_1, fy25_2, ney25_0⟩ := hQy25
  have Ny25 := Fr.app Ny16 Nqy25
  have gzy25_0 : n0 ≤ nb_y25 := Nat.le_trans Zy16 bfy25_0
  have szy25_0 : h0.size ≤ nb_y25 := Nat.le_trans Ky16.1 bfy25_0
  have Zy25 := Nat.le_trans Zy16 Kcy25.1
  have Ky25 := Ky16.trans Kcy25 (allS (Or.inr szy1) all0)
  refine Fin.step (sty25) ?_
  show Fin p e below s _ _ _ (Ty25.setTop (mkF m 300 #[rv a1, iv 7] [(.ref by1)]))
  refine Fin.retR Xy25 hx hret rfl rfl hlk (hb hby d9_300) (by decide) (by decide) ?_
  show QstU7 Z a1 ka asl wc pj h0 n0 _ Ty25.heap _
  exact ⟨nb_y25, kn_y25, lz_y25, by1, rfl, szy1, szy25_0, Ny25, Ky25, (ry17.keep Kcy25), fy25_0, fy25_1, fy25_2, ney25_0⟩
theorem ef_rmstU8 (m : MethodId) (x0 : Addr) : entryFrame m #[(.ref x0), (.int (8 : Int32))] 2 = mkF m 0 #[.val (.ref x0), .val (.int (8 : Int32))] [] := by first | (simp [entryFrame, mkF, argsToLocals, Value.category]; done) | rfl
abbrev R_rmstU8 : Room := ({ frames := 6, cells := 4, slots := 36, locals := 88 } : Room)
def QstU8 (Z : State) (a1 : Addr) (ka : ClassId) (asl : List Value) (wc pj : Int32) (h0 : Heap) (n0 : Nat) (v : Option Value) (h : Heap) (L : List Loc) : Prop := ∃ nb : Addr, ∃ kn : ClassId, ∃ lz : List Value, ∃ so : Addr, v = some (.ref so) ∧ h0.size ≤ so ∧ h0.size ≤ nb ∧ Fr n0 L ∧ Keep h0 h [] ∧ Exa Z h so q3 ∧ Fld Z h so q3 "coder" "B" (.int 1) ∧ Fld Z h so q3 "value" "[B" (.ref nb) ∧ Arv Z h nb kn .byte (16 : Int32) lz (.int 0) ∧ so ≠ nb
set_option maxRecDepth 65536 in
set_option maxHeartbeats 40000000 in
theorem rmstU8 (l : Launch) (Z : State) (a0 : Array Value) (hw : ∀ d ∈ tables_1, d.before a0 Z = true) (ws : List Jvm.Cond) (a1 : Addr) (ka : ClassId) (asl : List Value) (wc pj : Int32) (h0 : Heap) (n0 : Nat) (Z0 : n0 ≤ h0.size) (HV_a1 : Arv Z h0 a1 ka .char (8 : Int32) asl (.int 0)) (HS_java_lang_String_COMPACT_STRINGS : Sta Z h0 q3 q7 "Z" (.int wc)) (HS_java_lang_StringUTF16__assertionsDisabled : Sta Z h0 q6 "$assertionsDisabled" "Z" (.int 1)) (HS_java_lang_StringUTF16_HI_BYTE_SHIFT : Sta Z h0 q6 "HI_BYTE_SHIFT" "I" (.int 0)) (HS_java_lang_StringUTF16_LO_BYTE_SHIFT : Sta Z h0 q6 "LO_BYTE_SHIFT" "I" (.int 8)) (hca : own_chs asl) (hwc : ¬ wc = 0) (hj : 0 ≤ pj.toInt ∧ pj < (8 : Int32)) (hlat : ∀ i, i < pj.toNatClampNeg → ¬ (255 : Int32) < own_gt (own_tk asl 8) i) (hbig : (255 : Int32) < own_gt (own_tk asl 8) pj.toNatClampNeg) (hz : 0 ≤ (own_gt (own_tk asl 8) pj.toNatClampNeg).toInt ∧ (own_gt (own_tk asl 8) pj.toNatClampNeg).toInt ≤ 65535) :
    Met1 l n9 method_4_code 2 (some (.object "java/lang/String")) ws R_rmstU8 #[(.ref a1), (.int 8)] Z h0 (QstU8 Z a1 ka asl wc pj h0 n0) := by
  refine Met1.enter (plainFor_of_name pn_9) (fun m => ef_rmstU8 m a1) fun p e s m below meth c s₁ hx hby hlk hret hml hown hnm hZ X0 e0 => ?_
  have N0 := Fr.nil n0
  have K0 : Keep h0 h0 [] := Keep.refl h0 _
  show Fin p e below s _ _ _ (s₁.setTop (mkF m 0 #[rv a1, iv 8] []))
  refine Fin.step (fun _ k => Yo.iloadN X0.here hx (hb hby d9_0) rfl (Yo.ifYes X0.here hx (pc0 := 1) (pc' := 15) rfl (hb hby d9_1) rfl ((if0 _ _).trans (feq ((by decide) : ¬ ((8 : Int32) = (0 : Int32)))).2) (by decide) (by decide) (Yo.iloadN X0.here hx (hb hby d9_15) rfl (Yo.iconst X0.here hx (hb hby d9_16) (Yo.icmpYes X0.here hx (pc0 := 17) (pc' := 37) rfl (hb hby d9_17) rfl (feq ((by decide) : ¬ ((8 : Int32) = (1 : Int32)))).2 (by decide) (by decide) (Yo.iloadN X0.here hx (hb hby d9_37) rfl (Yo.iconst X0.here hx (hb hby d9_38) (Yo.icmpYes X0.here hx (pc0 := 39) (pc' := 65) rfl (hb hby d9_39) rfl (feq ((by decide) : ¬ ((8 : Int32) = (2 : Int32)))).2 (by decide) (by decide) k)))))))) ?_
  refine Fin.step (fun _ k => Yo.iloadN X0.here hx (hb hby d9_65) rfl (Yo.iconst X0.here hx (hb hby d9_66) (Yo.icmpYes X0.here hx (pc0 := 67) (pc' := 99) rfl (hb hby d9_67) rfl (feq ((by decide) : ¬ ((8 : Int32) = (3 : Int32)))).2 (by decide) (by decide) (Yo.iloadN X0.here hx (hb hby d9_99) rfl (Yo.iconst X0.here hx (hb hby d9_100) (Yo.icmpYes X0.here hx (pc0 := 101) (pc' := 139) rfl (hb hby d9_101) rfl (feq ((by decide) : ¬ ((8 : Int32) = (4 : Int32)))).2 (by decide) (by decide) (Yo.iloadN X0.here hx (hb hby d9_139) rfl (Yo.iconst X0.here hx (hb hby d9_140) k)))))))) ?_
  refine Fin.step (fun _ k => Yo.icmpYes X0.here hx (pc0 := 141) (pc' := 185) rfl (hb hby d9_141) rfl (feq ((by decide) : ¬ ((8 : Int32) = (5 : Int32)))).2 (by decide) (by decide) (Yo.iloadN X0.here hx (hb hby d9_185) rfl (Yo.bipush X0.here hx (hb hby d9_186) (Yo.icmpYes X0.here hx (pc0 := 188) (pc' := 239) rfl (hb hby d9_188) rfl (feq ((by decide) : ¬ ((8 : Int32) = (6 : Int32)))).2 (by decide) (by decide) (Yo.iloadN X0.here hx (hb hby d9_239) rfl (Yo.bipush X0.here hx (hb hby d9_240) (Yo.icmpYes X0.here hx (pc0 := 242) (pc' := 301) rfl (hb hby d9_242) rfl (feq ((by decide) : ¬ ((8 : Int32) = (7 : Int32)))).2 (by decide) (by decide) k))))))) ?_
  obtain ⟨Ty1, hy1, Xy1, ey1, Ey1, Ay1, Dy1, -, sty1⟩ := newO X0 hx hZ hown (W_ hw 55) (W_ hw 4) (W_ hw 3) e0 (g := (mkF m 301 #[rv a1, iv 8] [])) rfl (hb hby d9_301) (by decide) (by decide)
  obtain ⟨by1, gy1⟩ : ∃ z, z = h0.size := ⟨_, rfl⟩
  rw [← gy1] at Ay1 Dy1 sty1
  have gzy1 : n0 ≤ by1 := Nat.le_trans Z0 (Nat.le_of_eq gy1.symm)
  have szy1 : h0.size ≤ by1 := Nat.le_trans K0.1 (Nat.le_of_eq gy1.symm)
  have Zy1 := Nat.le_trans Z0 Ey1.1
  have Ky1 := K0.ext Ey1
  have F_value_by1 : Fld Z hy1 by1 q3 "value" "[B" .null := Dy1 (Or.inr (W_ hw 6)) (ty := (.array .byte)) (by decide)
  have F_coder_by1 : Fld Z hy1 by1 q3 "coder" "B" (.int 0) := Dy1 (Or.inr (W_ hw 7)) (ty := .byte) (by decide)
  refine Fin.step (sty1) ?_
  show Fin p e below s _ _ _ (Ty1.setTop (mkF m 304 #[rv a1, iv 8] [(.ref by1)]))
  refine Fin.step (fun _ k => Yo.dup Xy1.here hx (hb hby d9_304) rfl rfl (Yo.bipush Xy1.here hx (hb hby d9_305) k)) ?_
  obtain ⟨Ty2, hy2, ky2, Xy2, ey2, Ey2, Ay2, sty2⟩ := newP Xy1 hx hZ (W_ hw 1) ey1 (g := (mkF m 307 #[rv a1, iv 8] [(.int 8), (.ref by1), (.ref by1)])) rfl (hb hby d9_307) rfl (by decide) (cap := 8) (by decide) (by decide) (by decide) (by decide)
  obtain ⟨by2, gy2⟩ : ∃ z, z = hy1.size := ⟨_, rfl⟩
  rw [← gy2] at Ay2 sty2
  have gzy2 : n0 ≤ by2 := Nat.le_trans Zy1 (Nat.le_of_eq gy2.symm)
  have szy2 : h0.size ≤ by2 := Nat.le_trans Ky1.1 (Nat.le_of_eq gy2.symm)
  have Zy2 := Nat.le_trans Zy1 Ey2.1
  have Ky2 := Ky1.ext Ey2
  have Vy2 : Arv Z hy2 by2 ky2 .char (8 : Int32) [(.int 0), (.int 0), (.int 0), (.int 0), (.int 0), (.int 0), (.int 0), (.int 0)] (.int 0) := (Arv.new Ay2 (by decide)).pad (pad_rep [] (.int 0) 8)
  refine Fin.step (sty2) ?_
  show Fin p e below s _ _ _ (Ty2.setTop (mkF m 309 #[rv a1, iv 8] [(.ref by2), (.ref by1), (.ref by1)]))
  refine Fin.step (fun _ k => Yo.dup Xy2.here hx (hb hby d9_309) rfl rfl (Yo.iconst Xy2.here hx (hb hby d9_310) (Yo.aloadN Xy2.here hx (hb hby d9_311) rfl rfl (Yo.iconst Xy2.here hx (hb hby d9_312) (cld3 Xy2 hx hZ ey2 (j := 0) (v := (.int (own_gt asl 0))) (HV_a1.keep Ky2 nin0) ⟨by decide, by decide⟩ (own_lg hca 0) (hb hby d9_313) k))))) ?_
  obtain ⟨Ty4, hy4, Xy4, ey4, Wy4, Vy4, Ny4, Zy4, Ky4, sty4⟩ := cst3 Xy2 hx hZ ey2 (j := 0) (x := (own_gt asl 0)) (ix := 0) Vy2 ⟨by decide, by decide⟩ rfl (lb rfl) N0 Zy2 Ky2 gzy2 (Or.inr szy2) (hb hby d9_314)
  refine Fin.step (sty4) ?_
  refine Fin.step (fun _ k => Yo.dup Xy4.here hx (hb hby d9_315) rfl rfl (Yo.iconst Xy4.here hx (hb hby d9_316) (Yo.aloadN Xy4.here hx (hb hby d9_317) rfl rfl (Yo.iconst Xy4.here hx (hb hby d9_318) (cld3 Xy4 hx hZ ey4 (j := 1) (v := (.int (own_gt asl 1))) (HV_a1.keep Ky4 nin0) ⟨by decide, by decide⟩ (own_lg hca 1) (hb hby d9_319) k))))) ?_
  obtain ⟨Ty6, hy6, Xy6, ey6, Wy6, Vy6, Ny6, Zy6, Ky6, sty6⟩ := cst3 Xy4 hx hZ ey4 (j := 1) (x := (own_gt asl 1)) (ix := 1) Vy4 ⟨by decide, by decide⟩ rfl (lb rfl) Ny4 Zy4 Ky4 gzy2 (Or.inr szy2) (hb hby d9_320)
  refine Fin.step (sty6) ?_
  refine Fin.step (fun _ k => Yo.dup Xy6.here hx (hb hby d9_321) rfl rfl (Yo.iconst Xy6.here hx (hb hby d9_322) (Yo.aloadN Xy6.here hx (hb hby d9_323) rfl rfl (Yo.iconst Xy6.here hx (hb hby d9_324) (cld3 Xy6 hx hZ ey6 (j := 2) (v := (.int (own_gt asl 2))) (HV_a1.keep Ky6 nin0) ⟨by decide, by decide⟩ (own_lg hca 2) (hb hby d9_325) k))))) ?_
  obtain ⟨Ty8, hy8, Xy8, ey8, Wy8, Vy8, Ny8, Zy8, Ky8, sty8⟩ := cst3 Xy6 hx hZ ey6 (j := 2) (x := (own_gt asl 2)) (ix := 2) Vy6 ⟨by decide, by decide⟩ rfl (lb rfl) Ny6 Zy6 Ky6 gzy2 (Or.inr szy2) (hb hby d9_326)
  refine Fin.step (sty8) ?_
  refine Fin.step (fun _ k => Yo.dup Xy8.here hx (hb hby d9_327) rfl rfl (Yo.iconst Xy8.here hx (hb hby d9_328) (Yo.aloadN Xy8.here hx (hb hby d9_329) rfl rfl (Yo.iconst Xy8.here hx (hb hby d9_330) (cld3 Xy8 hx hZ ey8 (j := 3) (v := (.int (own_gt asl 3))) (HV_a1.keep Ky8 nin0) ⟨by decide, by decide⟩ (own_lg hca 3) (hb hby d9_331) k))))) ?_
  obtain ⟨Ty10, hy10, Xy10, ey10, Wy10, Vy10, Ny10, Zy10, Ky10, sty10⟩ := cst3 Xy8 hx hZ ey8 (j := 3) (x := (own_gt asl 3)) (ix := 3) Vy8 ⟨by decide, by decide⟩ rfl (lb rfl) Ny8 Zy8 Ky8 gzy2 (Or.inr szy2) (hb hby d9_332)
  refine Fin.step (sty10) ?_
  refine Fin.step (fun _ k => Yo.dup Xy10.here hx (hb hby d9_333) rfl rfl (Yo.iconst Xy10.here hx (hb hby d9_334) (Yo.aloadN Xy10.here hx (hb hby d9_335) rfl rfl (Yo.iconst Xy10.here hx (hb hby d9_336) (cld3 Xy10 hx hZ ey10 (j := 4) (v := (.int (own_gt asl 4))) (HV_a1.keep Ky10 nin0) ⟨by decide, by decide⟩ (own_lg hca 4) (hb hby d9_337) k))))) ?_
  obtain ⟨Ty12, hy12, Xy12, ey12, Wy12, Vy12, Ny12, Zy12, Ky12, sty12⟩ := cst3 Xy10 hx hZ ey10 (j := 4) (x := (own_gt asl 4)) (ix := 4) Vy10 ⟨by decide, by decide⟩ rfl (lb rfl) Ny10 Zy10 Ky10 gzy2 (Or.inr szy2) (hb hby d9_338)
  refine Fin.step (sty12) ?_
  refine Fin.step (fun _ k => Yo.dup Xy12.here hx (hb hby d9_339) rfl rfl (Yo.iconst Xy12.here hx (hb hby d9_340) (Yo.aloadN Xy12.here hx (hb hby d9_341) rfl rfl (Yo.iconst Xy12.here hx (hb hby d9_342) (cld3 Xy12 hx hZ ey12 (j := 5) (v := (.int (own_gt asl 5))) (HV_a1.keep Ky12 nin0) ⟨by decide, by decide⟩ (own_lg hca 5) (hb hby d9_343) k))))) ?_
  obtain ⟨Ty14, hy14, Xy14, ey14, Wy14, Vy14, Ny14, Zy14, Ky14, sty14⟩ := cst3 Xy12 hx hZ ey12 (j := 5) (x := (own_gt asl 5)) (ix := 5) Vy12 ⟨by decide, by decide⟩ rfl (lb rfl) Ny12 Zy12 Ky12 gzy2 (Or.inr szy2) (hb hby d9_344)
  refine Fin.step (sty14) ?_
  refine Fin.step (fun _ k => Yo.dup Xy14.here hx (hb hby d9_345) rfl rfl (Yo.bipush Xy14.here hx (hb hby d9_346) (Yo.aloadN Xy14.here hx (hb hby d9_348) rfl rfl (Yo.bipush Xy14.here hx (hb hby d9_349) (cld3 Xy14 hx hZ ey14 (j := 6) (v := (.int (own_gt asl 6))) (HV_a1.keep Ky14 nin0) ⟨by decide, by decide⟩ (own_lg hca 6) (hb hby d9_351) k))))) ?_
  obtain ⟨Ty16, hy16, Xy16, ey16, Wy16, Vy16, Ny16, Zy16, Ky16, sty16⟩ := cst3 Xy14 hx hZ ey14 (j := 6) (x := (own_gt asl 6)) (ix := 6) Vy14 ⟨by decide, by decide⟩ rfl (lb rfl) Ny14 Zy14 Ky14 gzy2 (Or.inr szy2) (hb hby d9_352)
  refine Fin.step (sty16) ?_
  refine Fin.step (fun _ k => Yo.dup Xy16.here hx (hb hby d9_353) rfl rfl (Yo.bipush Xy16.here hx (hb hby d9_354) (Yo.aloadN Xy16.here hx (hb hby d9_356) rfl rfl (Yo.bipush Xy16.here hx (hb hby d9_357) (cld3 Xy16 hx hZ ey16 (j := 7) (v := (.int (own_gt asl 7))) (HV_a1.keep Ky16 nin0) ⟨by decide, by decide⟩ (own_lg hca 7) (hb hby d9_359) k))))) ?_
  obtain ⟨Ty18, hy18, Xy18, ey18, Wy18, Vy18, Ny18, Zy18, Ky18, sty18⟩ := cst3 Xy16 hx hZ ey16 (j := 7) (x := (own_gt asl 7)) (ix := 7) Vy16 ⟨by decide, by decide⟩ rfl (lb rfl) Ny16 Zy16 Ky16 gzy2 (Or.inr szy2) (hb hby d9_360)
  refine Fin.step (sty18) ?_
  have ry19 := (((((((((Ay1.ext Ey2).wr Wy4).wr Wy6).wr Wy8).wr Wy10).wr Wy12).wr Wy14).wr Wy16).wr Wy18)
  have ney20 := nlt Ay1.lt (Nat.le_of_eq gy2.symm)
  have ry21 := (((((((((F_coder_by1.ext Ey2).other Wy4 (Or.inl ney20)).other Wy6 (Or.inl ney20)).other Wy8 (Or.inl ney20)).other Wy10 (Or.inl ney20)).other Wy12 (Or.inl ney20)).other Wy14 (Or.inl ney20)).other Wy16 (Or.inl ney20)).other Wy18 (Or.inl ney20))
  have ry22 := (((((((((F_value_by1.ext Ey2).other Wy4 (Or.inl ney20)).other Wy6 (Or.inl ney20)).other Wy8 (Or.inl ney20)).other Wy10 (Or.inl ney20)).other Wy12 (Or.inl ney20)).other Wy14 (Or.inl ney20)).other Wy16 (Or.inl ney20)).other Wy18 (Or.inl ney20))
  have ry23 := (Sta_keep HS_java_lang_String_COMPACT_STRINGS Ky18)
  have ry24 := (Sta_keep HS_java_lang_StringUTF16__assertionsDisabled Ky18)
  have ry25 := (Sta_keep HS_java_lang_StringUTF16_HI_BYTE_SHIFT Ky18)
  have ry26 := (Sta_keep HS_java_lang_StringUTF16_LO_BYTE_SHIFT Ky18)
  obtain ⟨_, Ty27, Lcy27, Xy27, hQy27, sty27⟩ := pack (Xy18.specialBack hx (y := n10) rfl hown (mvT hZ (W_ hw 56)) (mvT hZ (W_ hw 57)) (mvT hZ (W_ hw 58)) (by decide) (backOf (W := 1) (rmsi1U l Z a0 hw [] by1 by2 8 ky2 _ wc pj 16 hy18 n0 Zy18 ry19 ry21 ry22 Vy18 ry23 ry24 ry25 ry26 gzy1 (by decide) (own_tkc asl 8) hwc (by decide) (by decide) hj hlat hbig hz ney20) hZ (W_ hw 58) (W_ hw 3) (by decide) (by decide)) (g := (mkF m 361 #[rv a1, iv 8] [(.ref by2), (.ref by1), (.ref by1)])) rfl (by rw [hml]; rfl) (Steps.refl _) (a := by1) (argsL := [(.ref by2)]) (rest := [(.ref by1)]) (lenOf pd_8 rfl) rfl (lb rfl) (hb hby d9_361) (fun _ _ => ⟨rfl, ey18, (by decide : 2 + 2 ≤ _), (by decide : 12 + 24 ≤ _)⟩))
  obtain ⟨nb_y27, kn_y27, lz_y27, rfl, bfy27_0, Nqy27, Kcy27, fy27_0, fy27_1, fy27_2, ney27_0⟩ := hQy27
  have Ny27 := Fr.app Ny18 Nqy27
  have gzy27_0 : n0 ≤ nb_y27 := Nat.le_trans Zy18 bfy27_0
  have szy27_0 : h0.size ≤ nb_y27 := Nat.le_trans Ky18.1 bfy27_0
  have Zy27 := Nat.le_trans Zy18 Kcy27.1
  have Ky27 := Ky18.trans Kcy27 (allS (Or.inr szy1) all0)
  refine Fin.step (sty27) ?_
  show Fin p e below s _ _ _ (Ty27.setTop (mkF m 364 #[rv a1, iv 8] [(.ref by1)]))
  refine Fin.retR Xy27 hx hret rfl rfl hlk (hb hby d9_364) (by decide) (by decide) ?_
  show QstU8 Z a1 ka asl wc pj h0 n0 _ Ty27.heap _
  exact ⟨nb_y27, kn_y27, lz_y27, by1, rfl, szy1, szy27_0, Ny27, Ky27, (ry19.keep Kcy27), fy27_0, fy27_1, fy27_2, ney27_0⟩
theorem d11_8 : decode jdk_42_method_149_code 8 = .ok (.aload_n 0, 1) := by decide +kernel
theorem d11_9 : decode jdk_42_method_149_code 9 = .ok (.ldc 7, 2) := by decide +kernel
theorem d11_11 : decode jdk_42_method_149_code 11 = .ok (.getfield 9, 3) := by decide +kernel
theorem d11_14 : decode jdk_42_method_149_code 14 = .ok (.putfield 9, 3) := by decide +kernel
theorem d11_17 : decode jdk_42_method_149_code 17 = .ok (.aload_n 0, 1) := by decide +kernel
theorem d11_18 : decode jdk_42_method_149_code 18 = .ok (.ldc 7, 2) := by decide +kernel
theorem d11_20 : decode jdk_42_method_149_code 20 = .ok (.getfield 15, 3) := by decide +kernel
theorem d11_23 : decode jdk_42_method_149_code 23 = .ok (.putfield 15, 3) := by decide +kernel
theorem d11_26 : decode jdk_42_method_149_code 26 = .ok (.return_, 1) := by decide +kernel
theorem ef_rmsi2H (m : MethodId) (x0 : Addr) (x1 : Addr) : entryFrame m #[(.ref x0), (.ref x1), (.int (0 : Int32)), (.int (0 : Int32)), .null] 6 = mkF m 0 #[.val (.ref x0), .val (.ref x1), .val (.int (0 : Int32)), .val (.int (0 : Int32)), .val .null, .unset] [] := by first | (simp [entryFrame, mkF, argsToLocals, Value.category]; done) | rfl
abbrev R_rmsi2H : Room := ({ frames := 1, cells := 4, slots := 8, locals := 12 } : Room)
def Qsi2H (Z : State) (a1 a2 : Addr) (h0 : Heap) (n0 : Nat) (v : Option Value) (h : Heap) (L : List Loc) : Prop := ∃ nb : Addr, ∃ kn : ClassId, v = none ∧ Fr n0 L ∧ Keep h0 h [a1] ∧ Fld Z h a1 q3 "coder" "B" (.int 0) ∧ Fld Z h a1 q3 "value" "[B" (.ref nb) ∧ Arv Z h nb kn .byte (0 : Int32) ([] : List Value) (.int 0)
set_option maxRecDepth 65536 in
set_option maxHeartbeats 40000000 in
theorem rmsi2H (l : Launch) (Z : State) (a0 : Array Value) (hw : ∀ d ∈ tables_1, d.before a0 Z = true) (ws : List Jvm.Cond) (a1 a2 : Addr) (h0 : Heap) (n0 : Nat) (Z0 : n0 ≤ h0.size) (HE_a1 : Exa Z h0 a1 q3) (HF_a1_coder : Fld Z h0 a1 q3 "coder" "B" (.int 0)) (HF_a1_value : Fld Z h0 a1 q3 "value" "[B" .null) (g_a1 : n0 ≤ a1) :
    Met1H l n11 jdk_42_method_149_code 6 none ws R_rmsi2H #[(.ref a1), (.ref a2), (.int 0), (.int 0), .null] Z h0 own_EL (Qsi2H Z a1 a2 h0 n0) := by
  refine Met1H.enter (plainFor_of_name pn_11) (fun m => ef_rmsi2H m a1 a2) fun p e s m below meth c s₁ hx hby hlk hret hml hown hnm hZ X0 e0 hsh hch => ?_
  have N0 := Fr.nil n0
  have K0 := Keep.refl h0 [a1]
  have hEL := own_EW hw
  have wS := own_wS hw
  have CH0 := CHr.refl hch
  show FinH p e below s Z own_EL _ _ _ (s₁.setTop (mkF m 0 #[rv a1, rv a2, iv 0, iv 0, .val .null, u_] []))
  refine FinH.step (fun _ k => Yo.aloadN X0.here hx (hb hby d11_0) rfl rfl k) ?_
  obtain ⟨Ty1, Xy1, ey1, sty1⟩ := initO X0 hx hZ hown (W_ hw 63) (W_ hw 64) (W_ hw 65) e0 (g := (mkF m 1 #[rv a1, rv a2, iv 0, iv 0, .val .null, u_] [(.ref a1)])) rfl (by rw [hml]; rfl) rfl (hb hby d11_1) (by decide) (W := 0) (by show 2 * 0 + _ ≤ _; exact Nat.le_of_eq rfl) (by decide)
  refine FinH.step (sty1) ?_
  show FinH p e below s Z own_EL _ _ _ (Ty1.setTop (mkF m 4 #[rv a1, rv a2, iv 0, iv 0, .val .null, u_] []))
  refine FinH.step (fun _ k => Yo.iloadN Xy1.here hx (hb hby d11_4) rfl (Yo.ifNo Xy1.here hx (hb hby d11_5) rfl ((if0 _ _).trans (teq ((by decide) : ((0 : Int32) = (0 : Int32)))).2) (Yo.aloadN Xy1.here hx (hb hby d11_8) rfl rfl k))) ?_
  have sfa1_y2 : Safe Z own_EL _ _ _ := safeNull hZ.alike HE_a1 HF_a1_value
  obtain ⟨ay3, Ty3, hy3, k1y3, by3, kby3, Xy3, ey3, Ey3, hSy3, hky3, hZ, hown, Ay3, Fcy3, Fvy3, Vy3, -, -, CHcy3, -, nly3, sty3⟩ := ldcCH (s := s) (vm0 := s.vm) Xy1 hx hZ hown (W_ hw 163) wS ey1 ((State.WarmedH.refl s).since 0) (Nat.zero_le _) hEL (List.mem_of_getElem? (i := 4) rfl) CH0.1 (vs := ([] : List Value)) (z := (0 : Int32)) ⟨by decide, by rfl⟩ (by decide) (by decide) (g := (mkF m 9 #[rv a1, rv a2, iv 0, iv 0, .val .null, u_] [(.ref a1)])) rfl (hb hby d11_9) (n := 0) (by decide) (by decide) (by decide) (by decide)
  have sfa1_y3 := CHcy3.safe HE_a1.lt sfa1_y2
  have nla1_y3 := nly3 a1 sfa1_y3
  have CHy3 := CH0.trans CHcy3
  have Zy3 := Nat.le_trans Z0 Ey3.1
  have Ky3 := K0.ext Ey3
  refine FinH.step (sty3) ?_
  show FinH p e below s Z own_EL _ _ _ (Ty3.setTop (mkF m 11 #[rv a1, rv a2, iv 0, iv 0, .val .null, u_] [(.ref ay3), (.ref a1)]))
  obtain ⟨Ty4, Xy4, ey4, sty4⟩ := getF Xy3 hx hZ hown (host := "") (Or.inl (W_ hw 18)) Via.refl ey3 Fvy3 (g := (mkF m 11 #[rv a1, rv a2, iv 0, iv 0, .val .null, u_] [(.ref ay3), (.ref a1)])) rfl rfl (hb hby d11_11)
  refine FinH.step (sty4) ?_
  show FinH p e below s Z own_EL _ _ _ (Ty4.setTop (mkF m 14 #[rv a1, rv a2, iv 0, iv 0, .val .null, u_] [(.ref by3), (.ref a1)]))
  obtain ⟨Ty5, hy5, Xy5, ey5, Wy5, sty5⟩ := putF Xy4 hx hZ hown (host := "") (Or.inl (W_ hw 18)) Via.refl ey4 (HF_a1_value.ext Ey3) (HE_a1.ext Ey3) (Or.inr ⟨(W_ hw 6), rfl, hnm⟩) (W_ hw 4) (ty := (.array .byte)) (by decide) rfl rfl (g := (mkF m 14 #[rv a1, rv a2, iv 0, iv 0, .val .null, u_] [(.ref by3), (.ref a1)])) rfl rfl (hb hby d11_14)
  have Fwy5 : Fld Z hy5 a1 q3 "value" "[B" (.ref by3) := (HF_a1_value.ext Ey3).same Wy5
  have CHy5 := CHy3.trans (CHr.wr Wy5 sfa1_y3 CHy3.1)
  have sfa1_y5 := Safe.wr Wy5 sfa1_y3 CHy3.1 sfa1_y3
  have Zy5 : n0 ≤ hy5.size := Nat.le_trans Zy3 (Keep.of_wr Wy5).1
  have Ky5 : Keep h0 hy5 [a1] := Ky3.wr Wy5 m0
  have Ny5 := Fr.snoc Xy5 N0 g_a1
  refine FinH.step (sty5) ?_
  show FinH p e below s Z own_EL _ _ _ (Ty5.setTop (mkF m 17 #[rv a1, rv a2, iv 0, iv 0, .val .null, u_] []))
  refine FinH.step (fun _ k => Yo.aloadN Xy5.here hx (hb hby d11_17) rfl rfl k) ?_
  have hky6 := (Nat.le_trans hky3 (Keep.of_wr Wy5).1)
  obtain ⟨ay7, Ty7, hy7, k1y7, by7, kby7, Xy7, ey7, Ey7, hSy7, hky7, hZ, hown, Ay7, Fcy7, Fvy7, Vy7, -, -, CHcy7, -, nly7, sty7⟩ := ldcCH (s := s) (vm0 := Ty3.vm) Xy5 hx hZ hown (W_ hw 163) wS ey5 hSy3 hky6 hEL (List.mem_of_getElem? (i := 4) rfl) CHy5.1 (vs := ([] : List Value)) (z := (0 : Int32)) ⟨by decide, by rfl⟩ (by decide) (by decide) (g := (mkF m 18 #[rv a1, rv a2, iv 0, iv 0, .val .null, u_] [(.ref a1)])) rfl (hb hby d11_18) (n := 0) (by decide) (by decide) (by decide) (by decide)
  have sfa1_y7 := CHcy7.safe ((HE_a1.ext Ey3).wr Wy5).lt sfa1_y5
  have nla1_y7 := nly7 a1 sfa1_y7
  have CHy7 := CHy5.trans CHcy7
  have Zy7 := Nat.le_trans Zy5 Ey7.1
  have Ky7 := Ky5.ext Ey7
  refine FinH.step (sty7) ?_
  show FinH p e below s Z own_EL _ _ _ (Ty7.setTop (mkF m 20 #[rv a1, rv a2, iv 0, iv 0, .val .null, u_] [(.ref ay7), (.ref a1)]))
  obtain ⟨Ty8, Xy8, ey8, sty8⟩ := getF Xy7 hx hZ hown (host := "") (Or.inl (W_ hw 25)) Via.refl ey7 Fcy7 (g := (mkF m 20 #[rv a1, rv a2, iv 0, iv 0, .val .null, u_] [(.ref ay7), (.ref a1)])) rfl rfl (hb hby d11_20)
  refine FinH.step (sty8) ?_
  show FinH p e below s Z own_EL _ _ _ (Ty8.setTop (mkF m 23 #[rv a1, rv a2, iv 0, iv 0, .val .null, u_] [(.int 0), (.ref a1)]))
  obtain ⟨Ty9, hy9, Xy9, ey9, Wy9, sty9⟩ := putFN Xy8 hx hZ hown (W_ hw 25) Via.refl ey8 (((HF_a1_coder.ext Ey3).other Wy5 (Or.inr (slot_ne (Or.inr (W_ hw 7)) (Or.inr (W_ hw 6)) (by decide) (t := .byte) (t' := (.array .byte)) (by decide) (by decide)))).ext Ey7) (((HE_a1.ext Ey3).wr Wy5).ext Ey7) (Or.inr ⟨(W_ hw 7), rfl, hnm⟩) (W_ hw 4) (ty := .byte) (v' := (.int 0)) (by decide) rfl rfl (g := (mkF m 23 #[rv a1, rv a2, iv 0, iv 0, .val .null, u_] [(.int 0), (.ref a1)])) rfl rfl (hb hby d11_23)
  have Fwy9 : Fld Z hy9 a1 q3 "coder" "B" (.int 0) := (((HF_a1_coder.ext Ey3).other Wy5 (Or.inr (slot_ne (Or.inr (W_ hw 7)) (Or.inr (W_ hw 6)) (by decide) (t := .byte) (t' := (.array .byte)) (by decide) (by decide)))).ext Ey7).same Wy9
  have CHy9 := CHy7.trans (CHr.wr Wy9 sfa1_y7 CHy7.1)
  have sfa1_y9 := Safe.wr Wy9 sfa1_y7 CHy7.1 sfa1_y7
  have Zy9 : n0 ≤ hy9.size := Nat.le_trans Zy7 (Keep.of_wr Wy9).1
  have Ky9 : Keep h0 hy9 [a1] := Ky7.wr Wy9 m0
  have Ny9 := Fr.snoc Xy9 Ny5 g_a1
  refine FinH.step (sty9) ?_
  show FinH p e below s Z own_EL _ _ _ (Ty9.setTop (mkF m 26 #[rv a1, rv a2, iv 0, iv 0, .val .null, u_] []))
  have hky10 := (Nat.le_trans hky7 (Keep.of_wr Wy9).1)
  refine FinH.retV Xy9 hSy7 (by rw [ey9]; exact hky10) hZ hEL (by rw [hsh, ey9]; exact CHy9) hx hret hlk (hb hby d11_26) (by decide) (by decide) ?_
  show Qsi2H Z a1 a2 h0 n0 _ Ty9.heap _
  rw [ey9]
  exact ⟨by3, kby3, rfl, Ny9, Ky9, Fwy9, ((Fwy5.ext Ey7).other Wy9 (Or.inr (slot_ne (Or.inr (W_ hw 6)) (Or.inr (W_ hw 7)) (by decide) (t := (.array .byte)) (t' := .byte) (by decide) (by decide)))), (((Vy3.other Wy5 (Ne.symm nla1_y3.2)).ext Ey7).other Wy9 (Ne.symm nla1_y3.2))⟩
theorem ef_rmsi1H (m : MethodId) (x0 : Addr) (x1 : Addr) : entryFrame m #[(.ref x0), (.ref x1)] 2 = mkF m 0 #[.val (.ref x0), .val (.ref x1)] [] := by first | (simp [entryFrame, mkF, argsToLocals, Value.category]; done) | rfl
abbrev R_rmsi1H : Room := ({ frames := 2, cells := 4, slots := 8, locals := 29 } : Room)
def Qsi1H (Z : State) (a1 a2 : Addr) (kc : ClassId) (xs : List Value) (h0 : Heap) (n0 : Nat) (v : Option Value) (h : Heap) (L : List Loc) : Prop := ∃ nb : Addr, ∃ kn : ClassId, v = none ∧ Fr n0 L ∧ Keep h0 h [a1] ∧ Fld Z h a1 q3 "coder" "B" (.int 0) ∧ Fld Z h a1 q3 "value" "[B" (.ref nb) ∧ Arv Z h nb kn .byte (0 : Int32) ([] : List Value) (.int 0)
set_option maxRecDepth 65536 in
set_option maxHeartbeats 40000000 in
theorem rmsi1H (l : Launch) (Z : State) (a0 : Array Value) (hw : ∀ d ∈ tables_1, d.before a0 Z = true) (ws : List Jvm.Cond) (a1 a2 : Addr) (kc : ClassId) (xs : List Value) (h0 : Heap) (n0 : Nat) (Z0 : n0 ≤ h0.size) (HE_a1 : Exa Z h0 a1 q3) (HF_a1_coder : Fld Z h0 a1 q3 "coder" "B" (.int 0)) (HF_a1_value : Fld Z h0 a1 q3 "value" "[B" .null) (HV_a2 : Arv Z h0 a2 kc .char (0 : Int32) xs (.int 0)) (g_a1 : n0 ≤ a1) :
    Met1H l n10 jdk_42_method_3_code 2 none ws R_rmsi1H #[(.ref a1), (.ref a2)] Z h0 own_EL (Qsi1H Z a1 a2 kc xs h0 n0) := by
  refine Met1H.enter (plainFor_of_name pn_10) (fun m => ef_rmsi1H m a1 a2) fun p e s m below meth c s₁ hx hby hlk hret hml hown hnm hZ X0 e0 hsh hch => ?_
  have N0 := Fr.nil n0
  have K0 := Keep.refl h0 [a1]
  have hEL := own_EW hw
  have wS := own_wS hw
  have CH0 := CHr.refl hch
  show FinH p e below s Z own_EL _ _ _ (s₁.setTop (mkF m 0 #[rv a1, rv a2] []))
  refine FinH.step (fun _ k => Yo.aloadN X0.here hx (hb hby d10_0) rfl rfl (Yo.aloadN X0.here hx (hb hby d10_1) rfl rfl (Yo.iconst X0.here hx (hb hby d10_2) (Yo.aloadN X0.here hx (hb hby d10_3) rfl rfl k)))) ?_
  have voy1 := HV_a2
  obtain ⟨cly1, Ary1, qay1, say1, nay1, hay1, gay1⟩ := voy1
  refine FinH.step (X0.arraylength hx (by rw [e0]; exact Ary1.1) (State.isArrayOf_alike hZ.alike Ary1.2.1) (g := (mkF m 4 #[rv a1, rv a2] [(.ref a2), (.int 0), (.ref a2), (.ref a1)])) rfl rfl (hb hby d10_4)) ?_
  rw [len_of say1 nay1]
  show FinH p e below s Z own_EL _ _ _ (s₁.setTop (mkF m 5 #[rv a1, rv a2] [(.int 0), (.int 0), (.ref a2), (.ref a1)]))
  refine FinH.step (fun _ k => Yo.aconstNull X0.here hx (hb hby d10_5) k) ?_
  obtain ⟨_, Ty2, Lcy2, Xy2, hSy2, hZ, hown, hQy2, CHcy2, sty2⟩ := packH (s := s) (vm0 := s.vm) ((State.WarmedH.refl s).since 0) (by rw [e0]; exact (Nat.zero_le _)) hZ hown (Jvm.Stand.specialBackS X0 hx (y := n11) rfl hown (mvT hZ (W_ hw 59)) (mvT hZ (W_ hw 60)) (mvT hZ (W_ hw 62)) (by decide) (backOfSH (s := s) (vm0 := s.vm) (W := 0) (rmsi2H l Z a0 hw [] a1 a2 h0 n0 Z0 HE_a1 HF_a1_coder HF_a1_value g_a1) hZ (W_ hw 62) (W_ hw 3) (by decide) (by decide) hEL CH0.1) (g := (mkF m 6 #[rv a1, rv a2] [.null, (.int 0), (.int 0), (.ref a2), (.ref a1)])) rfl (by rw [hml]; rfl) (Steps.refl _) (a := a1) (argsL := [(.ref a2), (.int 0), (.int 0), .null]) (rest := []) (lenOf pd_7 rfl) rfl (lb rfl) (hb hby d10_6) (fun _ _ => ⟨rfl, e0, (by decide : 0 + 4 ≤ _), (by decide : 0 + 8 ≤ _)⟩))
  replace hZ : Z.Warmed39 (s.setVm Ty2.vm).vm := hZ
  replace hown : (s.setVm Ty2.vm).vm.findClass q3 = some m.cls := hown
  obtain ⟨nb_y2, kn_y2, rfl, Nqy2, Kcy2, fy2_0, fy2_1, fy2_2⟩ := hQy2
  have Ny2 := Fr.app N0 Nqy2
  have CHy2 := CH0.trans CHcy2
  have Zy2 := Nat.le_trans Z0 Kcy2.1
  have Ky2 := K0.trans Kcy2 (allS m0 all0)
  refine FinH.step (sty2) ?_
  show FinH p e below s Z own_EL _ _ _ (Ty2.setTop (mkF m 9 #[rv a1, rv a2] []))
  refine FinH.retV Xy2 hSy2 (Nat.le_refl _) hZ hEL (by rw [hsh]; exact CHy2) hx hret hlk (hb hby d10_9) (by decide) (by decide) ?_
  show Qsi1H Z a1 a2 kc xs h0 n0 _ Ty2.heap _
  exact ⟨nb_y2, kn_y2, rfl, Ny2, Ky2, fy2_0, fy2_1, fy2_2⟩
theorem d9_4 : decode method_4_code 4 = .ok (.new 8, 3) := by decide +kernel
theorem d9_7 : decode method_4_code 7 = .ok (.dup, 1) := by decide +kernel
theorem d9_8 : decode method_4_code 8 = .ok (.iconst 0, 1) := by decide +kernel
theorem d9_9 : decode method_4_code 9 = .ok (.newarray .char, 2) := by decide +kernel
theorem d9_11 : decode method_4_code 11 = .ok (.invokespecial 19, 3) := by decide +kernel
theorem d9_14 : decode method_4_code 14 = .ok (.areturn, 1) := by decide +kernel
theorem ef_rmstH0 (m : MethodId) (x0 : Addr) : entryFrame m #[(.ref x0), (.int (0 : Int32))] 2 = mkF m 0 #[.val (.ref x0), .val (.int (0 : Int32))] [] := by first | (simp [entryFrame, mkF, argsToLocals, Value.category]; done) | rfl
abbrev R_rmstH0 : Room := ({ frames := 6, cells := 8, slots := 64, locals := 120 } : Room)
def QstH0 (Z : State) (a1 : Addr) (h0 : Heap) (n0 : Nat) (v : Option Value) (h : Heap) (L : List Loc) : Prop := ∃ nb : Addr, ∃ kn : ClassId, ∃ so : Addr, v = some (.ref so) ∧ h0.size ≤ so ∧ Fr n0 L ∧ Keep h0 h [] ∧ Exa Z h so q3 ∧ Fld Z h so q3 "coder" "B" (.int 0) ∧ Fld Z h so q3 "value" "[B" (.ref nb) ∧ Arv Z h nb kn .byte (0 : Int32) ([] : List Value) (.int 0)
set_option maxRecDepth 65536 in
set_option maxHeartbeats 40000000 in
theorem rmstH0 (l : Launch) (Z : State) (a0 : Array Value) (hw : ∀ d ∈ tables_1, d.before a0 Z = true) (ws : List Jvm.Cond) (a1 : Addr) (h0 : Heap) (n0 : Nat) (Z0 : n0 ≤ h0.size) :
    Met1H l n9 method_4_code 2 (some (.object "java/lang/String")) ws R_rmstH0 #[(.ref a1), (.int 0)] Z h0 own_EL (QstH0 Z a1 h0 n0) := by
  refine Met1H.enter (plainFor_of_name pn_9) (fun m => ef_rmstH0 m a1) fun p e s m below meth c s₁ hx hby hlk hret hml hown hnm hZ X0 e0 hsh hch => ?_
  have N0 := Fr.nil n0
  have K0 : Keep h0 h0 [] := Keep.refl h0 _
  have hEL := own_EW hw
  have wS := own_wS hw
  have CH0 := CHr.refl hch
  show FinH p e below s Z own_EL _ _ _ (s₁.setTop (mkF m 0 #[rv a1, iv 0] []))
  refine FinH.step (fun _ k => Yo.iloadN X0.here hx (hb hby d9_0) rfl (Yo.ifNo X0.here hx (hb hby d9_1) rfl ((if0 _ _).trans (teq ((by decide) : ((0 : Int32) = (0 : Int32)))).2) k)) ?_
  obtain ⟨Ty1, hy1, Xy1, ey1, Ey1, Ay1, Dy1, -, sty1⟩ := newO X0 hx hZ hown (W_ hw 55) (W_ hw 4) (W_ hw 3) e0 (g := (mkF m 4 #[rv a1, iv 0] [])) rfl (hb hby d9_4) (by decide) (by decide)
  obtain ⟨by1, gy1⟩ : ∃ z, z = h0.size := ⟨_, rfl⟩
  rw [← gy1] at Ay1 Dy1 sty1
  have gzy1 : n0 ≤ by1 := Nat.le_trans Z0 (Nat.le_of_eq gy1.symm)
  have szy1 : h0.size ≤ by1 := Nat.le_trans K0.1 (Nat.le_of_eq gy1.symm)
  have CHy1 := CH0.trans (CHr.ext Ey1 CH0.1)
  have Zy1 := Nat.le_trans Z0 Ey1.1
  have Ky1 := K0.ext Ey1
  have F_value_by1 : Fld Z hy1 by1 q3 "value" "[B" .null := Dy1 (Or.inr (W_ hw 6)) (ty := (.array .byte)) (by decide)
  have F_coder_by1 : Fld Z hy1 by1 q3 "coder" "B" (.int 0) := Dy1 (Or.inr (W_ hw 7)) (ty := .byte) (by decide)
  refine FinH.step (sty1) ?_
  show FinH p e below s Z own_EL _ _ _ (Ty1.setTop (mkF m 7 #[rv a1, iv 0] [(.ref by1)]))
  refine FinH.step (fun _ k => Yo.dup Xy1.here hx (hb hby d9_7) rfl rfl (Yo.iconst Xy1.here hx (hb hby d9_8) k)) ?_
  obtain ⟨Ty2, hy2, ky2, Xy2, ey2, Ey2, Ay2, sty2⟩ := newP Xy1 hx hZ (W_ hw 1) ey1 (g := (mkF m 9 #[rv a1, iv 0] [(.int 0), (.ref by1), (.ref by1)])) rfl (hb hby d9_9) rfl (by decide) (cap := 0) (by decide) (by decide) (by decide) (by decide)
  obtain ⟨by2, gy2⟩ : ∃ z, z = hy1.size := ⟨_, rfl⟩
  rw [← gy2] at Ay2 sty2
  have gzy2 : n0 ≤ by2 := Nat.le_trans Zy1 (Nat.le_of_eq gy2.symm)
  have szy2 : h0.size ≤ by2 := Nat.le_trans Ky1.1 (Nat.le_of_eq gy2.symm)
  have CHy2 := CHy1.trans (CHr.ext Ey2 CHy1.1)
  have Zy2 := Nat.le_trans Zy1 Ey2.1
  have Ky2 := Ky1.ext Ey2
  have Vy2 : Arv Z hy2 by2 ky2 .char (0 : Int32) [] (.int 0) := (Arv.new Ay2 (by decide)).pad (pad_rep [] (.int 0) 0)
  refine FinH.step (sty2) ?_
  show FinH p e below s Z own_EL _ _ _ (Ty2.setTop (mkF m 11 #[rv a1, iv 0] [(.ref by2), (.ref by1), (.ref by1)]))
  have hky4 := (Nat.le_trans (Nat.le_trans (Nat.zero_le _) Ey1.1) Ey2.1)
  obtain ⟨_, Ty3, Lcy3, Xy3, hSy3, hZ, hown, hQy3, CHcy3, sty3⟩ := packH (s := s) (vm0 := s.vm) ((State.WarmedH.refl s).since 0) (by rw [ey2]; exact hky4) hZ hown (Jvm.Stand.specialBackS Xy2 hx (y := n10) rfl hown (mvT hZ (W_ hw 56)) (mvT hZ (W_ hw 57)) (mvT hZ (W_ hw 58)) (by decide) (backOfSH (s := s) (vm0 := s.vm) (W := 1) (rmsi1H l Z a0 hw [] by1 by2 ky2 [] hy2 n0 Zy2 (Ay1.ext Ey2) (F_coder_by1.ext Ey2) (F_value_by1.ext Ey2) Vy2 gzy1) hZ (W_ hw 58) (W_ hw 3) (by decide) (by decide) hEL CHy2.1) (g := (mkF m 11 #[rv a1, iv 0] [(.ref by2), (.ref by1), (.ref by1)])) rfl (by rw [hml]; rfl) (Steps.refl _) (a := by1) (argsL := [(.ref by2)]) (rest := [(.ref by1)]) (lenOf pd_8 rfl) rfl (lb rfl) (hb hby d9_11) (fun _ _ => ⟨rfl, ey2, (by decide : 2 + 4 ≤ _), (by decide : 4 + 8 ≤ _)⟩))
  replace hZ : Z.Warmed39 (s.setVm Ty3.vm).vm := hZ
  replace hown : (s.setVm Ty3.vm).vm.findClass "com/example/model_for_reads/modelforreads/model/FieldTypeFromModelNamePinLaw" = some m.cls := hown
  obtain ⟨nb_y3, kn_y3, rfl, Nqy3, Kcy3, fy3_0, fy3_1, fy3_2⟩ := hQy3
  have Ny3 := Fr.app N0 Nqy3
  have CHy3 := CHy2.trans CHcy3
  have Zy3 := Nat.le_trans Zy2 Kcy3.1
  have Ky3 := Ky2.trans Kcy3 (allS (Or.inr szy1) all0)
  refine FinH.step (sty3) ?_
  show FinH p e below s Z own_EL _ _ _ (Ty3.setTop (mkF m 14 #[rv a1, iv 0] [(.ref by1)]))
  refine FinH.retR Xy3 hSy3 (Nat.le_refl _) hZ hEL (by rw [hsh]; exact CHy3) hx hret rfl rfl hlk (hb hby d9_14) (by decide) (by decide) ?_
  show QstH0 Z a1 h0 n0 _ Ty3.heap _
  exact ⟨nb_y3, kn_y3, by1, rfl, szy1, Ny3, Ky3, ((Ay1.ext Ey2).keep Kcy3), fy3_0, fy3_1, fy3_2⟩
def QstA (Z : State) (a1 : Addr) (p2 : Int32) (ka : ClassId) (asl : List Value) (wc : Int32) (h0 : Heap) (n0 : Nat) (v : Option Value) (h : Heap) (L : List Loc) : Prop := ∃ nb : Addr, ∃ kn : ClassId, ∃ pm : Int32, ∃ wl : List Value, ∃ so : Addr, v = some (.ref so) ∧ h0.size ≤ so ∧ Fr n0 L ∧ Keep h0 h [] ∧ Exa Z h so q3 ∧ Fld Z h so q3 "coder" "B" (.int 0) ∧ Fld Z h so q3 "value" "[B" (.ref nb) ∧ Arv Z h nb kn .byte pm wl (.int 0) ∧ own_chs wl
abbrev R_rmstA : Room := { frames := 6, cells := 8, slots := 64, locals := 120 }
theorem rmstA (l : Launch) (Z : State) (a0 : Array Value) (hw : ∀ d ∈ tables_1, d.before a0 Z = true) (ws : List Jvm.Cond) (a1 : Addr) (p2 : Int32) (ka : ClassId) (asl : List Value) (wc : Int32) (h0 : Heap) (n0 : Nat) (Z0 : n0 ≤ h0.size) (HV_a1 : Arv Z h0 a1 ka .char (8 : Int32) asl (.int 0)) (HS_java_lang_String_COMPACT_STRINGS : Sta Z h0 q3 q7 "Z" (.int wc)) (hca : own_chs asl) (hwc : ¬ wc = 0) (hp : 0 ≤ p2.toInt ∧ p2.toInt ≤ 7) (hla : ∀ i, ¬ (255 : Int32) < nar .char (own_gt asl i)) :
    Met1H l n9 method_4_code 2 (some (.object "java/lang/String")) ws R_rmstA #[(.ref a1), (.int p2)] Z h0 own_EL (QstA Z a1 p2 ka asl wc h0 n0) := by
  rcases own_c8 hp with rfl | rfl | rfl | rfl | rfl | rfl | rfl | rfl
  · exact (rmstH0 l Z a0 hw ws a1 h0 n0 Z0).imp fun v h L ⟨nb, kn, so, q1, q2, q3, q4, q5, q6, q7, q8⟩ => ⟨nb, kn, 0, [], so, q1, q2, q3, q4, q5, q6, q7, q8, own_repc 0⟩
  · exact (rmstL1 l Z a0 hw ws a1 ka asl wc h0 n0 Z0 HV_a1 HS_java_lang_String_COMPACT_STRINGS hca hwc (own_latk hla 1)).toH (own_EW hw) fun v h L ⟨nb, kn, so, q1, q2, q2', q3, q4, q5, q6, q7, q8, _⟩ => ⟨q4, nb, kn, 1, _, so, q1, q2, q3, q4, q5, q6, q7, q8, own_wlc _ _ _⟩
  · exact (rmstL2 l Z a0 hw ws a1 ka asl wc h0 n0 Z0 HV_a1 HS_java_lang_String_COMPACT_STRINGS hca hwc (own_latk hla 2)).toH (own_EW hw) fun v h L ⟨nb, kn, so, q1, q2, q2', q3, q4, q5, q6, q7, q8, _⟩ => ⟨q4, nb, kn, 2, _, so, q1, q2, q3, q4, q5, q6, q7, q8, own_wlc _ _ _⟩
  · exact (rmstL3 l Z a0 hw ws a1 ka asl wc h0 n0 Z0 HV_a1 HS_java_lang_String_COMPACT_STRINGS hca hwc (own_latk hla 3)).toH (own_EW hw) fun v h L ⟨nb, kn, so, q1, q2, q2', q3, q4, q5, q6, q7, q8, _⟩ => ⟨q4, nb, kn, 3, _, so, q1, q2, q3, q4, q5, q6, q7, q8, own_wlc _ _ _⟩
  · exact (rmstL4 l Z a0 hw ws a1 ka asl wc h0 n0 Z0 HV_a1 HS_java_lang_String_COMPACT_STRINGS hca hwc (own_latk hla 4)).toH (own_EW hw) fun v h L ⟨nb, kn, so, q1, q2, q2', q3, q4, q5, q6, q7, q8, _⟩ => ⟨q4, nb, kn, 4, _, so, q1, q2, q3, q4, q5, q6, q7, q8, own_wlc _ _ _⟩
  · exact (rmstL5 l Z a0 hw ws a1 ka asl wc h0 n0 Z0 HV_a1 HS_java_lang_String_COMPACT_STRINGS hca hwc (own_latk hla 5)).toH (own_EW hw) fun v h L ⟨nb, kn, so, q1, q2, q2', q3, q4, q5, q6, q7, q8, _⟩ => ⟨q4, nb, kn, 5, _, so, q1, q2, q3, q4, q5, q6, q7, q8, own_wlc _ _ _⟩
  · exact (rmstL6 l Z a0 hw ws a1 ka asl wc h0 n0 Z0 HV_a1 HS_java_lang_String_COMPACT_STRINGS hca hwc (own_latk hla 6)).toH (own_EW hw) fun v h L ⟨nb, kn, so, q1, q2, q2', q3, q4, q5, q6, q7, q8, _⟩ => ⟨q4, nb, kn, 6, _, so, q1, q2, q3, q4, q5, q6, q7, q8, own_wlc _ _ _⟩
  · exact (rmstL7 l Z a0 hw ws a1 ka asl wc h0 n0 Z0 HV_a1 HS_java_lang_String_COMPACT_STRINGS hca hwc (own_latk hla 7)).toH (own_EW hw) fun v h L ⟨nb, kn, so, q1, q2, q2', q3, q4, q5, q6, q7, q8, _⟩ => ⟨q4, nb, kn, 7, _, so, q1, q2, q3, q4, q5, q6, q7, q8, own_wlc _ _ _⟩
theorem pn_19 : plainName "java/lang/StringLatin1" = true := by first | (simp [plainName, overriddenIn]; done) | decide +kernel
theorem d19_0 : decode jdk_43_method_13_code 0 = .ok (.aload_n 0, 1) := by decide +kernel
theorem d19_1 : decode jdk_43_method_13_code 1 = .ok (.arraylength, 1) := by decide +kernel
theorem d19_2 : decode jdk_43_method_13_code 2 = .ok (.aload_n 1, 1) := by decide +kernel
theorem d19_3 : decode jdk_43_method_13_code 3 = .ok (.arraylength, 1) := by decide +kernel
theorem d19_4 : decode jdk_43_method_13_code 4 = .ok (.if_icmp .ne 30, 3) := by decide +kernel
theorem d19_34 : decode jdk_43_method_13_code 34 = .ok (.iconst 0, 1) := by decide +kernel
theorem d19_35 : decode jdk_43_method_13_code 35 = .ok (.ireturn, 1) := by decide +kernel
theorem ef_rmleN (m : MethodId) (x0 : Addr) (x1 : Addr) : entryFrame m #[(.ref x0), (.ref x1)] 3 = mkF m 0 #[.val (.ref x0), .val (.ref x1), .unset] [] := by first | (simp [entryFrame, mkF, argsToLocals, Value.category]; done) | rfl
abbrev R_rmleN : Room := ({ frames := 0, cells := 0, slots := 0, locals := 0 } : Room)
def QleN (Z : State) (a1 a2 : Addr) (k1 : ClassId) (pn : Int32) (vs : List Value) (k2 : ClassId) (pm : Int32) (ws_ : List Value) (h0 : Heap) (n0 : Nat) (v : Option Value) (h : Heap) (L : List Loc) : Prop := v = some (.int (own_eqb pn pm vs ws_)) ∧ Fr n0 L ∧ h = h0
set_option maxRecDepth 65536 in
set_option maxHeartbeats 40000000 in
theorem rmleN (l : Launch) (Z : State) (a0 : Array Value) (hw : ∀ d ∈ tables_1, d.before a0 Z = true) (ws : List Jvm.Cond) (a1 a2 : Addr) (k1 : ClassId) (pn : Int32) (vs : List Value) (k2 : ClassId) (pm : Int32) (ws_ : List Value) (h0 : Heap) (n0 : Nat) (Z0 : n0 ≤ h0.size) (HV_a1 : Arv Z h0 a1 k1 .byte pn vs (.int 0)) (HV_a2 : Arv Z h0 a2 k2 .byte pm ws_ (.int 0)) (hdf : ¬ pn = pm) :
    Met1 l n19 jdk_43_method_13_code 3 (some .boolean) ws R_rmleN #[(.ref a1), (.ref a2)] Z h0 (QleN Z a1 a2 k1 pn vs k2 pm ws_ h0 n0) := by
  refine Met1.enter (plainFor_of_name pn_19) (fun m => ef_rmleN m a1 a2) fun p e s m below meth c s₁ hx hby hlk hret hml hown hnm hZ X0 e0 => ?_
  have N0 := Fr.nil n0
  have K0 : Keep h0 h0 [] := Keep.refl h0 _
  show Fin p e below s _ _ _ (s₁.setTop (mkF m 0 #[rv a1, rv a2, u_] []))
  refine Fin.step (fun _ k => Yo.aloadN X0.here hx (hb hby d19_0) rfl rfl k) ?_
  have voy1 := HV_a1
  obtain ⟨cly1, Ary1, qay1, say1, nay1, hay1, gay1⟩ := voy1
  refine Fin.step (X0.arraylength hx (by rw [e0]; exact Ary1.1) (State.isArrayOf_alike hZ.alike Ary1.2.1) (g := (mkF m 1 #[rv a1, rv a2, u_] [(.ref a1)])) rfl rfl (hb hby d19_1)) ?_
  rw [len_of say1 nay1]
  show Fin p e below s _ _ _ (s₁.setTop (mkF m 2 #[rv a1, rv a2, u_] [(.int pn)]))
  refine Fin.step (fun _ k => Yo.aloadN X0.here hx (hb hby d19_2) rfl rfl k) ?_
  have voy2 := HV_a2
  obtain ⟨cly2, Ary2, qay2, say2, nay2, hay2, gay2⟩ := voy2
  refine Fin.step (X0.arraylength hx (by rw [e0]; exact Ary2.1) (State.isArrayOf_alike hZ.alike Ary2.2.1) (g := (mkF m 3 #[rv a1, rv a2, u_] [(.ref a2), (.int pn)])) rfl rfl (hb hby d19_3)) ?_
  rw [len_of say2 nay2]
  show Fin p e below s _ _ _ (s₁.setTop (mkF m 4 #[rv a1, rv a2, u_] [(.int pm), (.int pn)]))
  refine Fin.step (fun _ k => Yo.icmpYes X0.here hx (pc0 := 4) (pc' := 34) rfl (hb hby d19_4) rfl (feq (hdf : ¬ (pn = pm))).2 (by decide) (by decide) (Yo.iconst X0.here hx (hb hby d19_34) k)) ?_
  refine Fin.retN X0 hx (t := .boolean) hret (by simp) hlk (hb hby d19_35) (by decide) (by decide) ?_
  show QleN Z a1 a2 k1 pn vs k2 pm ws_ h0 n0 _ s₁.heap _
  rw [e0]
  exact ⟨(congrArg (fun z => some (Value.int z)) (own_eqb0 hdf).symm), N0, rfl⟩
theorem d19_7 : decode jdk_43_method_13_code 7 = .ok (.iconst 0, 1) := by decide +kernel
theorem d19_8 : decode jdk_43_method_13_code 8 = .ok (.istore_n 2, 1) := by decide +kernel
theorem d19_9 : decode jdk_43_method_13_code 9 = .ok (.iload_n 2, 1) := by decide +kernel
theorem d19_10 : decode jdk_43_method_13_code 10 = .ok (.aload_n 0, 1) := by decide +kernel
theorem d19_11 : decode jdk_43_method_13_code 11 = .ok (.arraylength, 1) := by decide +kernel
theorem d19_12 : decode jdk_43_method_13_code 12 = .ok (.if_icmp .ge 20, 3) := by decide +kernel
theorem d19_15 : decode jdk_43_method_13_code 15 = .ok (.aload_n 0, 1) := by decide +kernel
theorem d19_16 : decode jdk_43_method_13_code 16 = .ok (.iload_n 2, 1) := by decide +kernel
theorem d19_17 : decode jdk_43_method_13_code 17 = .ok (.baload, 1) := by decide +kernel
theorem d19_18 : decode jdk_43_method_13_code 18 = .ok (.aload_n 1, 1) := by decide +kernel
theorem d19_19 : decode jdk_43_method_13_code 19 = .ok (.iload_n 2, 1) := by decide +kernel
theorem d19_20 : decode jdk_43_method_13_code 20 = .ok (.baload, 1) := by decide +kernel
theorem d19_21 : decode jdk_43_method_13_code 21 = .ok (.if_icmp .eq 5, 3) := by decide +kernel
theorem d19_26 : decode jdk_43_method_13_code 26 = .ok (.iinc 2 1, 3) := by decide +kernel
theorem d19_29 : decode jdk_43_method_13_code 29 = .ok (.goto (-20), 3) := by decide +kernel
theorem d19_24 : decode jdk_43_method_13_code 24 = .ok (.iconst 0, 1) := by decide +kernel
theorem d19_25 : decode jdk_43_method_13_code 25 = .ok (.ireturn, 1) := by decide +kernel
theorem d19_32 : decode jdk_43_method_13_code 32 = .ok (.iconst 1, 1) := by decide +kernel
theorem d19_33 : decode jdk_43_method_13_code 33 = .ok (.ireturn, 1) := by decide +kernel
theorem ef_rmleY (m : MethodId) (x0 : Addr) (x1 : Addr) : entryFrame m #[(.ref x0), (.ref x1)] 3 = mkF m 0 #[.val (.ref x0), .val (.ref x1), .unset] [] := by first | (simp [entryFrame, mkF, argsToLocals, Value.category]; done) | rfl
abbrev R_rmleY : Room := ({ frames := 0, cells := 0, slots := 0, locals := 0 } : Room)
def QleY (Z : State) (a1 a2 : Addr) (k1 : ClassId) (pn : Int32) (vs : List Value) (k2 : ClassId) (ws_ : List Value) (h0 : Heap) (n0 : Nat) (v : Option Value) (h : Heap) (L : List Loc) : Prop := v = some (.int (own_eqb pn pn vs ws_)) ∧ Fr n0 L ∧ h = h0
set_option maxRecDepth 65536 in
set_option maxHeartbeats 40000000 in
theorem rmleY (l : Launch) (Z : State) (a0 : Array Value) (hw : ∀ d ∈ tables_1, d.before a0 Z = true) (ws : List Jvm.Cond) (a1 a2 : Addr) (k1 : ClassId) (pn : Int32) (vs : List Value) (k2 : ClassId) (ws_ : List Value) (h0 : Heap) (n0 : Nat) (Z0 : n0 ≤ h0.size) (HV_a1 : Arv Z h0 a1 k1 .byte pn vs (.int 0)) (HV_a2 : Arv Z h0 a2 k2 .byte pn ws_ (.int 0)) (hn : 0 ≤ pn.toInt ∧ pn.toInt ≤ 8) (hcv : own_chs vs) (hcw : own_chs ws_) :
    Met1 l n19 jdk_43_method_13_code 3 (some .boolean) ws R_rmleY #[(.ref a1), (.ref a2)] Z h0 (QleY Z a1 a2 k1 pn vs k2 ws_ h0 n0) := by
  refine Met1.enter (plainFor_of_name pn_19) (fun m => ef_rmleY m a1 a2) fun p e s m below meth c s₁ hx hby hlk hret hml hown hnm hZ X0 e0 => ?_
  have N0 := Fr.nil n0
  have K0 : Keep h0 h0 [] := Keep.refl h0 _
  show Fin p e below s _ _ _ (s₁.setTop (mkF m 0 #[rv a1, rv a2, u_] []))
  refine Fin.step (fun _ k => Yo.aloadN X0.here hx (hb hby d19_0) rfl rfl k) ?_
  have voy1 := HV_a1
  obtain ⟨cly1, Ary1, qay1, say1, nay1, hay1, gay1⟩ := voy1
  refine Fin.step (X0.arraylength hx (by rw [e0]; exact Ary1.1) (State.isArrayOf_alike hZ.alike Ary1.2.1) (g := (mkF m 1 #[rv a1, rv a2, u_] [(.ref a1)])) rfl rfl (hb hby d19_1)) ?_
  rw [len_of say1 nay1]
  show Fin p e below s _ _ _ (s₁.setTop (mkF m 2 #[rv a1, rv a2, u_] [(.int pn)]))
  refine Fin.step (fun _ k => Yo.aloadN X0.here hx (hb hby d19_2) rfl rfl k) ?_
  have voy2 := HV_a2
  obtain ⟨cly2, Ary2, qay2, say2, nay2, hay2, gay2⟩ := voy2
  refine Fin.step (X0.arraylength hx (by rw [e0]; exact Ary2.1) (State.isArrayOf_alike hZ.alike Ary2.2.1) (g := (mkF m 3 #[rv a1, rv a2, u_] [(.ref a2), (.int pn)])) rfl rfl (hb hby d19_3)) ?_
  rw [len_of say2 nay2]
  show Fin p e below s _ _ _ (s₁.setTop (mkF m 4 #[rv a1, rv a2, u_] [(.int pn), (.int pn)]))
  refine Fin.step (fun _ k => Yo.icmpNo X0.here hx (hb hby d19_4) rfl (teq (rfl : (pn = pn))).2 (Yo.iconst X0.here hx (hb hby d19_7) (Yo.istoreN X0.here hx (hb hby d19_8) rfl (l' := #[rv a1, rv a2, iv 0]) rfl k))) ?_
  have loop : ∀ (r : Nat) (Ty3 : State) (hy3 : Heap) (Ly3 : List Loc) (iq : Int32) (mry3 : pn.toNatClampNeg - iq.toNatClampNeg = r) (Xy3 : Stand p l e R_rmleY s m #[(.ref a1), (.ref a2)] below meth c Ty3 Ly3 0 0) (ey3 : Ty3.heap = hy3) (Ny3 : Fr n0 Ly3) (Zy3 : n0 ≤ hy3.size) (Ky3 : Keep h0 hy3 []) (fy3_0 : Arv Z hy3 a1 k1 .byte pn vs (.int 0)) (fy3_1 : Arv Z hy3 a2 k2 .byte pn ws_ (.int 0)) (hi0 : 0 ≤ iq.toInt) (hi1 : iq.toInt ≤ pn.toInt) (hall : ∀ k, k < iq.toNatClampNeg → own_gt vs k = own_gt ws_ k) (pqy3 : hy3 = h0), Fin p e below s (QleY Z a1 a2 k1 pn vs k2 ws_ h0 n0) R_rmleY.cells R_rmleY.slots (Ty3.setTop (mkF m 9 #[rv a1, rv a2, iv iq] [])) := by
    intro r
    induction r using Nat.strongRecOn with
    | _ r ih =>
      intro Ty3 hy3 Ly3 iq mry3 Xy3 ey3 Ny3 Zy3 Ky3 fy3_0 fy3_1 hi0 hi1 hall pqy3
      refine Fin.step (fun _ k => Yo.iloadN Xy3.here hx (hb hby d19_9) rfl (Yo.aloadN Xy3.here hx (hb hby d19_10) rfl rfl k)) ?_
      have voy4 := fy3_0
      obtain ⟨cly4, Ary4, qay4, say4, nay4, hay4, gay4⟩ := voy4
      refine Fin.step (Xy3.arraylength hx (by rw [ey3]; exact Ary4.1) (State.isArrayOf_alike hZ.alike Ary4.2.1) (g := (mkF m 11 #[rv a1, rv a2, iv iq] [(.ref a1), (.int iq)])) rfl rfl (hb hby d19_11)) ?_
      rw [len_of say4 nay4]
      show Fin p e below s _ _ _ (Ty3.setTop (mkF m 12 #[rv a1, rv a2, iv iq] [(.int pn), (.int iq)]))
      by_cases hcy5 : iq < pn
      · refine Fin.step (fun _ k => Yo.icmpNo Xy3.here hx (hb hby d19_12) rfl (tlt (hcy5 : (iq < pn))).2.1 k) ?_
        have G := own_nx hi0 hn.2 hcy5
        refine Fin.step (fun _ k => Yo.aloadN Xy3.here hx (hb hby d19_15) rfl rfl (Yo.iloadN Xy3.here hx (hb hby d19_16) rfl (bld3 Xy3 hx hZ ey3 (j := iq) (v := (.int (own_gt vs iq.toNatClampNeg))) fy3_0 G.1 (own_lg hcv _) (hb hby d19_17) (Yo.aloadN Xy3.here hx (hb hby d19_18) rfl rfl (Yo.iloadN Xy3.here hx (hb hby d19_19) rfl (bld3 Xy3 hx hZ ey3 (j := iq) (v := (.int (own_gt ws_ iq.toNatClampNeg))) fy3_1 G.1 (own_lg hcw _) (hb hby d19_20) k)))))) ?_
        by_cases hcy8 : (own_gt vs iq.toNatClampNeg) = (own_gt ws_ iq.toNatClampNeg)
        · refine Fin.step (fun _ k => Yo.icmpYes Xy3.here hx (pc0 := 21) (pc' := 26) rfl (hb hby d19_21) rfl (teq (hcy8 : ((own_gt vs iq.toNatClampNeg) = (own_gt ws_ iq.toNatClampNeg)))).1 (by decide) (by decide) (Yo.iinc Xy3.here hx (hb hby d19_26) rfl (l' := #[rv a1, rv a2, .val (.int (iq + (1 : Int32)))]) rfl k)) ?_
          show Fin p e below s _ _ _ (Ty3.setTop (mkF m 29 #[rv a1, rv a2, .val (.int (iq + (1 : Int32)))] []))
          refine Fin.step (fun _ k => Yo.goto Xy3.here hx (pc0 := 29) (pc' := 9) rfl (hb hby d19_29) (by decide) (by decide) k) ?_
          exact ih _ (by rw [← mry3]; exact G.2.2.2.2.1) _ _ _ (iq + (1 : Int32)) rfl Xy3 ey3 Ny3 Zy3 Ky3 fy3_0 fy3_1 G.2.1 G.2.2.1 (by rw [G.2.2.2.1]; exact own_more hall hcy8) pqy3
        · refine Fin.step (fun _ k => Yo.icmpNo Xy3.here hx (hb hby d19_21) rfl (feq (hcy8 : ¬ ((own_gt vs iq.toNatClampNeg) = (own_gt ws_ iq.toNatClampNeg)))).1 (Yo.iconst Xy3.here hx (hb hby d19_24) k)) ?_
          refine Fin.retN Xy3 hx (t := .boolean) hret (by simp) hlk (hb hby d19_25) (by decide) (by decide) ?_
          show QleY Z a1 a2 k1 pn vs k2 ws_ h0 n0 _ Ty3.heap _
          rw [ey3]
          exact ⟨(congrArg (fun z => some (Value.int z)) (own_eqbd (by have := G.2.2.2.2.2; omega) hcy8).symm), Ny3, pqy3⟩
      · refine Fin.step (fun _ k => Yo.icmpYes Xy3.here hx (pc0 := 12) (pc' := 32) rfl (hb hby d19_12) rfl (flt (hcy5 : ¬ (iq < pn))).2.1 (by decide) (by decide) (Yo.iconst Xy3.here hx (hb hby d19_32) k)) ?_
        refine Fin.retN Xy3 hx (t := .boolean) hret (by simp) hlk (hb hby d19_33) (by decide) (by decide) ?_
        show QleY Z a1 a2 k1 pn vs k2 ws_ h0 n0 _ Ty3.heap _
        rw [ey3]
        exact ⟨(congrArg (fun z => some (Value.int z)) (own_eqb1 (by rw [← own_end hcy5 hi1]; exact hall)).symm), Ny3, pqy3⟩
  exact loop _ _ _ _ (0 : Int32) rfl X0 e0 N0 Z0 K0 HV_a1 HV_a2 (by decide) hn.1 (fun k hk => absurd hk (Nat.not_lt_zero k)) rfl
theorem pn_18 : plainName "java/lang/String" = true := by first | (simp [plainName, overriddenIn]; done) | decide +kernel
theorem d18_0 : decode jdk_42_method_66_code 0 = .ok (.aload_n 0, 1) := by decide +kernel
theorem d18_1 : decode jdk_42_method_66_code 1 = .ok (.aload_n 1, 1) := by decide +kernel
theorem d18_2 : decode jdk_42_method_66_code 2 = .ok (.if_acmp .ne 5, 3) := by decide +kernel
theorem d18_7 : decode jdk_42_method_66_code 7 = .ok (.aload_n 1, 1) := by decide +kernel
theorem d18_8 : decode jdk_42_method_66_code 8 = .ok (.instanceof 10, 3) := by decide +kernel
theorem d18_11 : decode jdk_42_method_66_code 11 = .ok (.ifCond .eq 43, 3) := by decide +kernel
theorem d18_54 : decode jdk_42_method_66_code 54 = .ok (.iconst 0, 1) := by decide +kernel
theorem d18_55 : decode jdk_42_method_66_code 55 = .ok (.ireturn, 1) := by decide +kernel
theorem ef_rmeq0 (m : MethodId) (x0 : Addr) : entryFrame m #[(.ref x0), .null] 3 = mkF m 0 #[.val (.ref x0), .val .null, .unset] [] := by first | (simp [entryFrame, mkF, argsToLocals, Value.category]; done) | rfl
abbrev R_rmeq0 : Room := ({ frames := 0, cells := 0, slots := 0, locals := 0 } : Room)
def Qeq0 (Z : State) (a1 : Addr) (h0 : Heap) (n0 : Nat) (v : Option Value) (h : Heap) (L : List Loc) : Prop := v = some (.int 0) ∧ Fr n0 L ∧ h = h0
set_option maxRecDepth 65536 in
set_option maxHeartbeats 40000000 in
theorem rmeq0 (l : Launch) (Z : State) (a0 : Array Value) (hw : ∀ d ∈ tables_1, d.before a0 Z = true) (ws : List Jvm.Cond) (a1 : Addr) (h0 : Heap) (n0 : Nat) (Z0 : n0 ≤ h0.size) :
    Met1 l n18 jdk_42_method_66_code 3 (some .boolean) ws R_rmeq0 #[(.ref a1), .null] Z h0 (Qeq0 Z a1 h0 n0) := by
  refine Met1.enter (plainFor_of_name pn_18) (fun m => ef_rmeq0 m a1) fun p e s m below meth c s₁ hx hby hlk hret hml hown hnm hZ X0 e0 => ?_
  have N0 := Fr.nil n0
  have K0 : Keep h0 h0 [] := Keep.refl h0 _
  show Fin p e below s _ _ _ (s₁.setTop (mkF m 0 #[rv a1, .val .null, u_] []))
  refine Fin.step (fun _ k => Yo.aloadN X0.here hx (hb hby d18_0) rfl rfl (Yo.aloadN X0.here hx (hb hby d18_1) rfl rfl k)) ?_
  refine Fin.step (fun _ => Jvm.RoadKit.acmp (g := (mkF m 2 #[rv a1, .val .null, u_] [.null, (.ref a1)])) X0 hx rfl rfl rfl (pc0 := 2) (pc' := 7) (same := false) rfl (hb hby d18_2) rfl (decide_eq_false nofun) (by decide) (by decide)) ?_
  show Fin p e below s _ _ _ (s₁.setTop (mkF m 7 #[rv a1, .val .null, u_] []))
  refine Fin.step (fun _ k => Yo.aloadN X0.here hx (hb hby d18_7) rfl rfl k) ?_
  refine Fin.step (X0.instanceofNull hx (g := (mkF m 8 #[rv a1, .val .null, u_] [.null])) rfl rfl (hb hby d18_8)) ?_
  show Fin p e below s _ _ _ (s₁.setTop (mkF m 11 #[rv a1, .val .null, u_] [(.int 0)]))
  refine Fin.step (fun _ k => Yo.ifYes X0.here hx (pc0 := 11) (pc' := 54) rfl (hb hby d18_11) rfl ((if0 _ _).trans (teq ((by decide) : ((0 : Int32) = (0 : Int32)))).1) (by decide) (by decide) (Yo.iconst X0.here hx (hb hby d18_54) k)) ?_
  refine Fin.retN X0 hx (t := .boolean) hret (by simp) hlk (hb hby d18_55) (by decide) (by decide) ?_
  show Qeq0 Z a1 h0 n0 _ s₁.heap _
  rw [e0]
  exact ⟨rfl, N0, rfl⟩
theorem d18_14 : decode jdk_42_method_66_code 14 = .ok (.aload_n 1, 1) := by decide +kernel
theorem d18_15 : decode jdk_42_method_66_code 15 = .ok (.checkcast 10, 3) := by decide +kernel
theorem d18_18 : decode jdk_42_method_66_code 18 = .ok (.astore_n 2, 1) := by decide +kernel
theorem d18_19 : decode jdk_42_method_66_code 19 = .ok (.getstatic 38, 3) := by decide +kernel
theorem d18_22 : decode jdk_42_method_66_code 22 = .ok (.ifCond .eq 14, 3) := by decide +kernel
theorem d18_25 : decode jdk_42_method_66_code 25 = .ok (.aload_n 0, 1) := by decide +kernel
theorem d18_26 : decode jdk_42_method_66_code 26 = .ok (.getfield 15, 3) := by decide +kernel
theorem d18_29 : decode jdk_42_method_66_code 29 = .ok (.aload_n 2, 1) := by decide +kernel
theorem d18_30 : decode jdk_42_method_66_code 30 = .ok (.getfield 15, 3) := by decide +kernel
theorem d18_33 : decode jdk_42_method_66_code 33 = .ok (.if_icmp .ne 21, 3) := by decide +kernel
theorem ef_rmeqU (m : MethodId) (x0 : Addr) (x1 : Addr) : entryFrame m #[(.ref x0), (.ref x1)] 3 = mkF m 0 #[.val (.ref x0), .val (.ref x1), .unset] [] := by first | (simp [entryFrame, mkF, argsToLocals, Value.category]; done) | rfl
abbrev R_rmeqU : Room := ({ frames := 0, cells := 0, slots := 0, locals := 0 } : Room)
def QeqU (Z : State) (a1 a2 : Addr) (wc : Int32) (h0 : Heap) (n0 : Nat) (v : Option Value) (h : Heap) (L : List Loc) : Prop := v = some (.int 0) ∧ Fr n0 L ∧ h = h0
set_option maxRecDepth 65536 in
set_option maxHeartbeats 40000000 in
theorem rmeqU (l : Launch) (Z : State) (a0 : Array Value) (hw : ∀ d ∈ tables_1, d.before a0 Z = true) (ws : List Jvm.Cond) (a1 a2 : Addr) (wc : Int32) (h0 : Heap) (n0 : Nat) (Z0 : n0 ≤ h0.size) (HF_a1_coder : Fld Z h0 a1 q3 "coder" "B" (.int 0)) (HE_a2 : Exa Z h0 a2 q3) (HF_a2_coder : Fld Z h0 a2 q3 "coder" "B" (.int 1)) (HS_java_lang_String_COMPACT_STRINGS : Sta Z h0 q3 q7 "Z" (.int wc)) (hwc : ¬ wc = 0) (hn_a1_a2 : a1 ≠ a2) :
    Met1 l n18 jdk_42_method_66_code 3 (some .boolean) ws R_rmeqU #[(.ref a1), (.ref a2)] Z h0 (QeqU Z a1 a2 wc h0 n0) := by
  refine Met1.enter (plainFor_of_name pn_18) (fun m => ef_rmeqU m a1 a2) fun p e s m below meth c s₁ hx hby hlk hret hml hown hnm hZ X0 e0 => ?_
  have N0 := Fr.nil n0
  have K0 : Keep h0 h0 [] := Keep.refl h0 _
  show Fin p e below s _ _ _ (s₁.setTop (mkF m 0 #[rv a1, rv a2, u_] []))
  refine Fin.step (fun _ k => Yo.aloadN X0.here hx (hb hby d18_0) rfl rfl (Yo.aloadN X0.here hx (hb hby d18_1) rfl rfl k)) ?_
  refine Fin.step (fun _ => Jvm.RoadKit.acmp (g := (mkF m 2 #[rv a1, rv a2, u_] [(.ref a2), (.ref a1)])) X0 hx rfl rfl rfl (pc0 := 2) (pc' := 7) (same := false) rfl (hb hby d18_2) rfl (decide_eq_false fun q => hn_a1_a2 (Value.ref.inj q)) (by decide) (by decide)) ?_
  show Fin p e below s _ _ _ (s₁.setTop (mkF m 7 #[rv a1, rv a2, u_] []))
  refine Fin.step (fun _ k => Yo.aloadN X0.here hx (hb hby d18_7) rfl rfl k) ?_
  obtain ⟨Ty1, Xy1, ey1, sty1⟩ := instY X0 hx hZ hown (W_ hw 103) e0 (Ins.self HE_a2) (g := (mkF m 8 #[rv a1, rv a2, u_] [(.ref a2)])) rfl rfl (hb hby d18_8)
  refine Fin.step (sty1) ?_
  show Fin p e below s _ _ _ (Ty1.setTop (mkF m 11 #[rv a1, rv a2, u_] [(.int 1)]))
  refine Fin.step (fun _ k => Yo.ifNo Xy1.here hx (hb hby d18_11) rfl ((if0 _ _).trans (feq ((by decide) : ¬ ((1 : Int32) = (0 : Int32)))).1) (Yo.aloadN Xy1.here hx (hb hby d18_14) rfl rfl k)) ?_
  obtain ⟨Ty2, Xy2, ey2, sty2⟩ := castY Xy1 hx hZ hown (W_ hw 103) ey1 (Ins.self HE_a2) (g := (mkF m 15 #[rv a1, rv a2, u_] [(.ref a2)])) rfl rfl (hb hby d18_15)
  refine Fin.step (sty2) ?_
  show Fin p e below s _ _ _ (Ty2.setTop (mkF m 18 #[rv a1, rv a2, u_] [(.ref a2)]))
  refine Fin.step (fun _ k => Yo.astoreN Xy2.here hx (hb hby d18_18) rfl rfl (l' := #[rv a1, rv a2, rv a2]) rfl k) ?_
  obtain ⟨Ty3, Xy3, ey3, sty3⟩ := getS2 Xy2 hx hZ hown (host := "") (Or.inl (W_ hw 24)) Via.refl ey2 HS_java_lang_String_COMPACT_STRINGS (g := (mkF m 19 #[rv a1, rv a2, rv a2] [])) rfl (hb hby d18_19)
  refine Fin.step (sty3) ?_
  show Fin p e below s _ _ _ (Ty3.setTop (mkF m 22 #[rv a1, rv a2, rv a2] [(.int wc)]))
  refine Fin.step (fun _ k => Yo.ifNo Xy3.here hx (hb hby d18_22) rfl ((if0 _ _).trans (feq (hwc : ¬ (wc = (0 : Int32)))).1) (Yo.aloadN Xy3.here hx (hb hby d18_25) rfl rfl k)) ?_
  refine fget Xy3 hx hZ hown (W_ hw 25) ey3 HF_a1_coder (hb hby d18_26) fun Ty4 Xy4 ey4 => ?_
  refine Fin.step (fun _ k => Yo.aloadN Xy4.here hx (hb hby d18_29) rfl rfl k) ?_
  refine fget Xy4 hx hZ hown (W_ hw 25) ey4 HF_a2_coder (hb hby d18_30) fun Ty5 Xy5 ey5 => ?_
  refine Fin.step (fun _ k => Yo.icmpYes Xy5.here hx (pc0 := 33) (pc' := 54) rfl (hb hby d18_33) rfl (feq ((by decide) : ¬ ((0 : Int32) = (1 : Int32)))).2 (by decide) (by decide) (Yo.iconst Xy5.here hx (hb hby d18_54) k)) ?_
  refine Fin.retN Xy5 hx (t := .boolean) hret (by simp) hlk (hb hby d18_55) (by decide) (by decide) ?_
  show QeqU Z a1 a2 wc h0 n0 _ Ty5.heap _
  rw [ey5]
  exact ⟨rfl, N0, rfl⟩
theorem d18_36 : decode jdk_42_method_66_code 36 = .ok (.aload_n 0, 1) := by decide +kernel
theorem d18_37 : decode jdk_42_method_66_code 37 = .ok (.getfield 9, 3) := by decide +kernel
theorem d18_40 : decode jdk_42_method_66_code 40 = .ok (.aload_n 2, 1) := by decide +kernel
theorem d18_41 : decode jdk_42_method_66_code 41 = .ok (.getfield 9, 3) := by decide +kernel
theorem d18_44 : decode jdk_42_method_66_code 44 = .ok (.invokestatic 541, 3) := by decide +kernel
theorem pd_9 : parseMethodDescriptor "([B[B)Z" = some ⟨[(.array .byte), (.array .byte)], some .boolean⟩ := by decide +kernel
theorem d18_47 : decode jdk_42_method_66_code 47 = .ok (.ifCond .eq 7, 3) := by decide +kernel
theorem d18_50 : decode jdk_42_method_66_code 50 = .ok (.iconst 1, 1) := by decide +kernel
theorem d18_51 : decode jdk_42_method_66_code 51 = .ok (.goto 4, 3) := by decide +kernel
theorem ef_rmeqL (m : MethodId) (x0 : Addr) (x1 : Addr) : entryFrame m #[(.ref x0), (.ref x1)] 3 = mkF m 0 #[.val (.ref x0), .val (.ref x1), .unset] [] := by first | (simp [entryFrame, mkF, argsToLocals, Value.category]; done) | rfl
abbrev R_rmeqL : Room := ({ frames := 1, cells := 0, slots := 0, locals := 14 } : Room)
def QeqL (Z : State) (a1 a2 va : Addr) (k1 : ClassId) (pn : Int32) (vs : List Value) (vb : Addr) (k2 : ClassId) (pm : Int32) (ws_ : List Value) (wc : Int32) (h0 : Heap) (n0 : Nat) (v : Option Value) (h : Heap) (L : List Loc) : Prop := v = some (.int (own_eqb pn pm vs ws_)) ∧ Fr n0 L ∧ h = h0
set_option maxRecDepth 65536 in
set_option maxHeartbeats 40000000 in
theorem rmeqL (l : Launch) (Z : State) (a0 : Array Value) (hw : ∀ d ∈ tables_1, d.before a0 Z = true) (ws : List Jvm.Cond) (a1 a2 va : Addr) (k1 : ClassId) (pn : Int32) (vs : List Value) (vb : Addr) (k2 : ClassId) (pm : Int32) (ws_ : List Value) (wc : Int32) (h0 : Heap) (n0 : Nat) (Z0 : n0 ≤ h0.size) (HE_a1 : Exa Z h0 a1 q3) (HF_a1_coder : Fld Z h0 a1 q3 "coder" "B" (.int 0)) (HF_a1_value : Fld Z h0 a1 q3 "value" "[B" (.ref va)) (HV_va : Arv Z h0 va k1 .byte pn vs (.int 0)) (HE_a2 : Exa Z h0 a2 q3) (HF_a2_coder : Fld Z h0 a2 q3 "coder" "B" (.int 0)) (HF_a2_value : Fld Z h0 a2 q3 "value" "[B" (.ref vb)) (HV_vb : Arv Z h0 vb k2 .byte pm ws_ (.int 0)) (HS_java_lang_String_COMPACT_STRINGS : Sta Z h0 q3 q7 "Z" (.int wc)) (hwc : ¬ wc = 0) (hn : 0 ≤ pn.toInt ∧ pn.toInt ≤ 8) (hcv : own_chs vs) (hcw : own_chs ws_) (hn_a1_a2 : a1 ≠ a2) :
    Met1 l n18 jdk_42_method_66_code 3 (some .boolean) ws R_rmeqL #[(.ref a1), (.ref a2)] Z h0 (QeqL Z a1 a2 va k1 pn vs vb k2 pm ws_ wc h0 n0) := by
  refine Met1.enter (plainFor_of_name pn_18) (fun m => ef_rmeqL m a1 a2) fun p e s m below meth c s₁ hx hby hlk hret hml hown hnm hZ X0 e0 => ?_
  have N0 := Fr.nil n0
  have K0 : Keep h0 h0 [] := Keep.refl h0 _
  show Fin p e below s _ _ _ (s₁.setTop (mkF m 0 #[rv a1, rv a2, u_] []))
  refine Fin.step (fun _ k => Yo.aloadN X0.here hx (hb hby d18_0) rfl rfl (Yo.aloadN X0.here hx (hb hby d18_1) rfl rfl k)) ?_
  refine Fin.step (fun _ => Jvm.RoadKit.acmp (g := (mkF m 2 #[rv a1, rv a2, u_] [(.ref a2), (.ref a1)])) X0 hx rfl rfl rfl (pc0 := 2) (pc' := 7) (same := false) rfl (hb hby d18_2) rfl (decide_eq_false fun q => hn_a1_a2 (Value.ref.inj q)) (by decide) (by decide)) ?_
  show Fin p e below s _ _ _ (s₁.setTop (mkF m 7 #[rv a1, rv a2, u_] []))
  refine Fin.step (fun _ k => Yo.aloadN X0.here hx (hb hby d18_7) rfl rfl k) ?_
  obtain ⟨Ty1, Xy1, ey1, sty1⟩ := instY X0 hx hZ hown (W_ hw 103) e0 (Ins.self HE_a2) (g := (mkF m 8 #[rv a1, rv a2, u_] [(.ref a2)])) rfl rfl (hb hby d18_8)
  refine Fin.step (sty1) ?_
  show Fin p e below s _ _ _ (Ty1.setTop (mkF m 11 #[rv a1, rv a2, u_] [(.int 1)]))
  refine Fin.step (fun _ k => Yo.ifNo Xy1.here hx (hb hby d18_11) rfl ((if0 _ _).trans (feq ((by decide) : ¬ ((1 : Int32) = (0 : Int32)))).1) (Yo.aloadN Xy1.here hx (hb hby d18_14) rfl rfl k)) ?_
  obtain ⟨Ty2, Xy2, ey2, sty2⟩ := castY Xy1 hx hZ hown (W_ hw 103) ey1 (Ins.self HE_a2) (g := (mkF m 15 #[rv a1, rv a2, u_] [(.ref a2)])) rfl rfl (hb hby d18_15)
  refine Fin.step (sty2) ?_
  show Fin p e below s _ _ _ (Ty2.setTop (mkF m 18 #[rv a1, rv a2, u_] [(.ref a2)]))
  refine Fin.step (fun _ k => Yo.astoreN Xy2.here hx (hb hby d18_18) rfl rfl (l' := #[rv a1, rv a2, rv a2]) rfl k) ?_
  obtain ⟨Ty3, Xy3, ey3, sty3⟩ := getS2 Xy2 hx hZ hown (host := "") (Or.inl (W_ hw 24)) Via.refl ey2 HS_java_lang_String_COMPACT_STRINGS (g := (mkF m 19 #[rv a1, rv a2, rv a2] [])) rfl (hb hby d18_19)
  refine Fin.step (sty3) ?_
  show Fin p e below s _ _ _ (Ty3.setTop (mkF m 22 #[rv a1, rv a2, rv a2] [(.int wc)]))
  refine Fin.step (fun _ k => Yo.ifNo Xy3.here hx (hb hby d18_22) rfl ((if0 _ _).trans (feq (hwc : ¬ (wc = (0 : Int32)))).1) (Yo.aloadN Xy3.here hx (hb hby d18_25) rfl rfl k)) ?_
  refine fget Xy3 hx hZ hown (W_ hw 25) ey3 HF_a1_coder (hb hby d18_26) fun Ty4 Xy4 ey4 => ?_
  refine Fin.step (fun _ k => Yo.aloadN Xy4.here hx (hb hby d18_29) rfl rfl k) ?_
  refine fget Xy4 hx hZ hown (W_ hw 25) ey4 HF_a2_coder (hb hby d18_30) fun Ty5 Xy5 ey5 => ?_
  refine Fin.step (fun _ k => Yo.icmpNo Xy5.here hx (hb hby d18_33) rfl (teq ((by decide) : ((0 : Int32) = (0 : Int32)))).2 k) ?_
  rcases Classical.em (pn = pm) with rfl | hdf
  · show Fin p e below s _ _ _ (Ty5.setTop (mkF m 36 #[rv a1, rv a2, rv a2] []))
    refine Fin.step (fun _ k => Yo.aloadN Xy5.here hx (hb hby d18_36) rfl rfl k) ?_
    refine fget Xy5 hx hZ hown (W_ hw 18) ey5 HF_a1_value (hb hby d18_37) fun Ty6 Xy6 ey6 => ?_
    refine Fin.step (fun _ k => Yo.aloadN Xy6.here hx (hb hby d18_40) rfl rfl k) ?_
    refine fget Xy6 hx hZ hown (W_ hw 18) ey6 HF_a2_value (hb hby d18_41) fun Ty7 Xy7 ey7 => ?_
    obtain ⟨_, Ty8, Lcy8, Xy8, hQy8, sty8⟩ := packS (Jvm.LawKit.callS Xy7 hx (y := n19) hown (mvT hZ (W_ hw 104)) (mvT hZ (W_ hw 105)) (mvT hZ (W_ hw 42)) (mvT hZ (W_ hw 106)) (by decide) (backOf (W := 0) (rmleY l Z a0 hw [] va vb k1 pn vs k2 ws_ h0 n0 Z0 HV_va HV_vb hn hcv hcw) hZ (W_ hw 106) (W_ hw 42) (by decide) (by decide)) (g := (mkF m 44 #[rv a1, rv a2, rv a2] [(.ref vb), (.ref va)])) rfl (by rw [hml]; rfl) (argsL := [(.ref va), (.ref vb)]) (rest := []) (lenOf pd_9 rfl) rfl (lb rfl) (hb hby d18_44) (fun _ _ => ⟨rfl, ey7, (by decide : 0 + 0 ≤ _), (by decide : 0 + 0 ≤ _)⟩))
    obtain ⟨rfl, Nqy8, eqy8⟩ := hQy8
    have Ny8 := Fr.app N0 Nqy8
    refine Fin.step (sty8) ?_
    show Fin p e below s _ _ _ (Ty8.setTop (mkF m 47 #[rv a1, rv a2, rv a2] [(.int (own_eqb pn pn vs ws_))]))
    by_cases hcy9 : (own_eqb pn pn vs ws_) = (0 : Int32)
    · refine Fin.step (fun _ k => Yo.ifYes Xy8.here hx (pc0 := 47) (pc' := 54) rfl (hb hby d18_47) rfl ((if0 _ _).trans (teq (hcy9 : ((own_eqb pn pn vs ws_) = (0 : Int32)))).1) (by decide) (by decide) (Yo.iconst Xy8.here hx (hb hby d18_54) k)) ?_
      refine Fin.retN Xy8 hx (t := .boolean) hret (by simp) hlk (hb hby d18_55) (by decide) (by decide) ?_
      show QeqL Z _ _ _ _ _ _ _ _ _ _ _ h0 n0 _ Ty8.heap _
      rw [eqy8]
      exact ⟨(congrArg (fun z => some (Value.int z)) (own_e0 hcy9)), Ny8, rfl⟩
    · refine Fin.step (fun _ k => Yo.ifNo Xy8.here hx (hb hby d18_47) rfl ((if0 _ _).trans (feq (hcy9 : ¬ ((own_eqb pn pn vs ws_) = (0 : Int32)))).1) (Yo.iconst Xy8.here hx (hb hby d18_50) (Yo.goto Xy8.here hx (pc0 := 51) (pc' := 55) rfl (hb hby d18_51) (by decide) (by decide) k))) ?_
      refine Fin.retN Xy8 hx (t := .boolean) hret (by simp) hlk (hb hby d18_55) (by decide) (by decide) ?_
      show QeqL Z _ _ _ _ _ _ _ _ _ _ _ h0 n0 _ Ty8.heap _
      rw [eqy8]
      exact ⟨(congrArg (fun z => some (Value.int z)) (own_e1 hcy9)), Ny8, rfl⟩
  · show Fin p e below s _ _ _ (Ty5.setTop (mkF m 36 #[rv a1, rv a2, rv a2] []))
    refine Fin.step (fun _ k => Yo.aloadN Xy5.here hx (hb hby d18_36) rfl rfl k) ?_
    refine fget Xy5 hx hZ hown (W_ hw 18) ey5 HF_a1_value (hb hby d18_37) fun Ty10 Xy10 ey10 => ?_
    refine Fin.step (fun _ k => Yo.aloadN Xy10.here hx (hb hby d18_40) rfl rfl k) ?_
    refine fget Xy10 hx hZ hown (W_ hw 18) ey10 HF_a2_value (hb hby d18_41) fun Ty11 Xy11 ey11 => ?_
    obtain ⟨_, Ty12, Lcy12, Xy12, hQy12, sty12⟩ := packS (Jvm.LawKit.callS Xy11 hx (y := n19) hown (mvT hZ (W_ hw 104)) (mvT hZ (W_ hw 105)) (mvT hZ (W_ hw 42)) (mvT hZ (W_ hw 106)) (by decide) (backOf (W := 0) (rmleN l Z a0 hw [] va vb k1 pn vs k2 pm ws_ h0 n0 Z0 HV_va HV_vb hdf) hZ (W_ hw 106) (W_ hw 42) (by decide) (by decide)) (g := (mkF m 44 #[rv a1, rv a2, rv a2] [(.ref vb), (.ref va)])) rfl (by rw [hml]; rfl) (argsL := [(.ref va), (.ref vb)]) (rest := []) (lenOf pd_9 rfl) rfl (lb rfl) (hb hby d18_44) (fun _ _ => ⟨rfl, ey11, (by decide : 0 + 0 ≤ _), (by decide : 0 + 0 ≤ _)⟩))
    obtain ⟨rfl, Nqy12, eqy12⟩ := hQy12
    have Ny12 := Fr.app N0 Nqy12
    refine Fin.step (sty12) ?_
    show Fin p e below s _ _ _ (Ty12.setTop (mkF m 47 #[rv a1, rv a2, rv a2] [(.int (own_eqb pn pm vs ws_))]))
    by_cases hcy13 : (own_eqb pn pm vs ws_) = (0 : Int32)
    · refine Fin.step (fun _ k => Yo.ifYes Xy12.here hx (pc0 := 47) (pc' := 54) rfl (hb hby d18_47) rfl ((if0 _ _).trans (teq (hcy13 : ((own_eqb pn pm vs ws_) = (0 : Int32)))).1) (by decide) (by decide) (Yo.iconst Xy12.here hx (hb hby d18_54) k)) ?_
      refine Fin.retN Xy12 hx (t := .boolean) hret (by simp) hlk (hb hby d18_55) (by decide) (by decide) ?_
      show QeqL Z a1 a2 va k1 pn vs vb k2 pm ws_ wc h0 n0 _ Ty12.heap _
      rw [eqy12]
      exact ⟨(congrArg (fun z => some (Value.int z)) (own_e0 hcy13)), Ny12, rfl⟩
    · refine Fin.step (fun _ k => Yo.ifNo Xy12.here hx (hb hby d18_47) rfl ((if0 _ _).trans (feq (hcy13 : ¬ ((own_eqb pn pm vs ws_) = (0 : Int32)))).1) (Yo.iconst Xy12.here hx (hb hby d18_50) (Yo.goto Xy12.here hx (pc0 := 51) (pc' := 55) rfl (hb hby d18_51) (by decide) (by decide) k))) ?_
      refine Fin.retN Xy12 hx (t := .boolean) hret (by simp) hlk (hb hby d18_55) (by decide) (by decide) ?_
      show QeqL Z a1 a2 va k1 pn vs vb k2 pm ws_ wc h0 n0 _ Ty12.heap _
      rw [eqy12]
      exact ⟨(congrArg (fun z => some (Value.int z)) (own_e1 hcy13)), Ny12, rfl⟩
theorem d18_5 : decode jdk_42_method_66_code 5 = .ok (.iconst 1, 1) := by decide +kernel
theorem d18_6 : decode jdk_42_method_66_code 6 = .ok (.ireturn, 1) := by decide +kernel
theorem ef_rmeqG (m : MethodId) (x0 : Addr) (x1 : Addr) : entryFrame m #[(.ref x0), (.ref x1)] 3 = mkF m 0 #[.val (.ref x0), .val (.ref x1), .unset] [] := by first | (simp [entryFrame, mkF, argsToLocals, Value.category]; done) | rfl
abbrev R_rmeqG : Room := ({ frames := 1, cells := 0, slots := 0, locals := 14 } : Room)
def QeqG (Z : State) (a1 a2 va : Addr) (k1 : ClassId) (pn : Int32) (vs : List Value) (vb : Addr) (k2 : ClassId) (pm : Int32) (ws_ : List Value) (wc : Int32) (h0 : Heap) (n0 : Nat) (v : Option Value) (h : Heap) (L : List Loc) : Prop := v = some (.int (own_eqb pn pm vs ws_)) ∧ Fr n0 L ∧ h = h0
set_option maxRecDepth 65536 in
set_option maxHeartbeats 40000000 in
theorem rmeqG (l : Launch) (Z : State) (a0 : Array Value) (hw : ∀ d ∈ tables_1, d.before a0 Z = true) (ws : List Jvm.Cond) (a1 a2 va : Addr) (k1 : ClassId) (pn : Int32) (vs : List Value) (vb : Addr) (k2 : ClassId) (pm : Int32) (ws_ : List Value) (wc : Int32) (h0 : Heap) (n0 : Nat) (Z0 : n0 ≤ h0.size) (HE_a1 : Exa Z h0 a1 q3) (HF_a1_coder : Fld Z h0 a1 q3 "coder" "B" (.int 0)) (HF_a1_value : Fld Z h0 a1 q3 "value" "[B" (.ref va)) (HV_va : Arv Z h0 va k1 .byte pn vs (.int 0)) (HE_a2 : Exa Z h0 a2 q3) (HF_a2_coder : Fld Z h0 a2 q3 "coder" "B" (.int 0)) (HF_a2_value : Fld Z h0 a2 q3 "value" "[B" (.ref vb)) (HV_vb : Arv Z h0 vb k2 .byte pm ws_ (.int 0)) (HS_java_lang_String_COMPACT_STRINGS : Sta Z h0 q3 q7 "Z" (.int wc)) (hwc : ¬ wc = 0) (hn : 0 ≤ pn.toInt ∧ pn.toInt ≤ 8) (hcv : own_chs vs) (hcw : own_chs ws_) :
    Met1 l n18 jdk_42_method_66_code 3 (some .boolean) ws R_rmeqG #[(.ref a1), (.ref a2)] Z h0 (QeqG Z a1 a2 va k1 pn vs vb k2 pm ws_ wc h0 n0) := by
  refine Met1.enter (plainFor_of_name pn_18) (fun m => ef_rmeqG m a1 a2) fun p e s m below meth c s₁ hx hby hlk hret hml hown hnm hZ X0 e0 => ?_
  have N0 := Fr.nil n0
  have K0 : Keep h0 h0 [] := Keep.refl h0 _
  show Fin p e below s _ _ _ (s₁.setTop (mkF m 0 #[rv a1, rv a2, u_] []))
  refine Fin.step (fun _ k => Yo.aloadN X0.here hx (hb hby d18_0) rfl rfl (Yo.aloadN X0.here hx (hb hby d18_1) rfl rfl k)) ?_
  rcases Classical.em (a1 = a2) with hsm | hnq
  · show Fin p e below s _ _ _ (s₁.setTop (mkF m 2 #[rv a1, rv a2, u_] [(.ref a2), (.ref a1)]))
    refine Fin.step (fun _ => Jvm.RoadKit.acmp (g := (mkF m 2 #[rv a1, rv a2, u_] [(.ref a2), (.ref a1)])) X0 hx rfl rfl rfl (pc0 := 2) (pc' := 5) (same := true) rfl (hb hby d18_2) rfl (decide_eq_true (congrArg Value.ref hsm)) (by decide) (by decide)) ?_
    show Fin p e below s _ _ _ (s₁.setTop (mkF m 5 #[rv a1, rv a2, u_] []))
    refine Fin.step (fun _ k => Yo.iconst X0.here hx (hb hby d18_5) k) ?_
    refine Fin.retN X0 hx (t := .boolean) hret (by simp) hlk (hb hby d18_6) (by decide) (by decide) ?_
    show QeqG Z a1 a2 va k1 pn vs vb k2 pm ws_ wc h0 n0 _ s₁.heap _
    rw [e0]
    exact ⟨(congrArg (fun z => some (Value.int z)) (own_sm hsm HF_a1_value HF_a2_value HV_va HV_vb)), N0, rfl⟩
  · show Fin p e below s _ _ _ (s₁.setTop (mkF m 2 #[rv a1, rv a2, u_] [(.ref a2), (.ref a1)]))
    refine Fin.step (fun _ => Jvm.RoadKit.acmp (g := (mkF m 2 #[rv a1, rv a2, u_] [(.ref a2), (.ref a1)])) X0 hx rfl rfl rfl (pc0 := 2) (pc' := 7) (same := false) rfl (hb hby d18_2) rfl (decide_eq_false fun q => hnq (Value.ref.inj q)) (by decide) (by decide)) ?_
    show Fin p e below s _ _ _ (s₁.setTop (mkF m 7 #[rv a1, rv a2, u_] []))
    refine Fin.step (fun _ k => Yo.aloadN X0.here hx (hb hby d18_7) rfl rfl k) ?_
    obtain ⟨Ty1, Xy1, ey1, sty1⟩ := instY X0 hx hZ hown (W_ hw 103) e0 (Ins.self HE_a2) (g := (mkF m 8 #[rv a1, rv a2, u_] [(.ref a2)])) rfl rfl (hb hby d18_8)
    refine Fin.step (sty1) ?_
    show Fin p e below s _ _ _ (Ty1.setTop (mkF m 11 #[rv a1, rv a2, u_] [(.int 1)]))
    refine Fin.step (fun _ k => Yo.ifNo Xy1.here hx (hb hby d18_11) rfl ((if0 _ _).trans (feq ((by decide) : ¬ ((1 : Int32) = (0 : Int32)))).1) (Yo.aloadN Xy1.here hx (hb hby d18_14) rfl rfl k)) ?_
    obtain ⟨Ty2, Xy2, ey2, sty2⟩ := castY Xy1 hx hZ hown (W_ hw 103) ey1 (Ins.self HE_a2) (g := (mkF m 15 #[rv a1, rv a2, u_] [(.ref a2)])) rfl rfl (hb hby d18_15)
    refine Fin.step (sty2) ?_
    show Fin p e below s _ _ _ (Ty2.setTop (mkF m 18 #[rv a1, rv a2, u_] [(.ref a2)]))
    refine Fin.step (fun _ k => Yo.astoreN Xy2.here hx (hb hby d18_18) rfl rfl (l' := #[rv a1, rv a2, rv a2]) rfl k) ?_
    obtain ⟨Ty3, Xy3, ey3, sty3⟩ := getS2 Xy2 hx hZ hown (host := "") (Or.inl (W_ hw 24)) Via.refl ey2 HS_java_lang_String_COMPACT_STRINGS (g := (mkF m 19 #[rv a1, rv a2, rv a2] [])) rfl (hb hby d18_19)
    refine Fin.step (sty3) ?_
    show Fin p e below s _ _ _ (Ty3.setTop (mkF m 22 #[rv a1, rv a2, rv a2] [(.int wc)]))
    refine Fin.step (fun _ k => Yo.ifNo Xy3.here hx (hb hby d18_22) rfl ((if0 _ _).trans (feq (hwc : ¬ (wc = (0 : Int32)))).1) (Yo.aloadN Xy3.here hx (hb hby d18_25) rfl rfl k)) ?_
    refine fget Xy3 hx hZ hown (W_ hw 25) ey3 HF_a1_coder (hb hby d18_26) fun Ty4 Xy4 ey4 => ?_
    refine Fin.step (fun _ k => Yo.aloadN Xy4.here hx (hb hby d18_29) rfl rfl k) ?_
    refine fget Xy4 hx hZ hown (W_ hw 25) ey4 HF_a2_coder (hb hby d18_30) fun Ty5 Xy5 ey5 => ?_
    refine Fin.step (fun _ k => Yo.icmpNo Xy5.here hx (hb hby d18_33) rfl (teq ((by decide) : ((0 : Int32) = (0 : Int32)))).2 k) ?_
    rcases Classical.em (pn = pm) with rfl | hdf
    · show Fin p e below s _ _ _ (Ty5.setTop (mkF m 36 #[rv a1, rv a2, rv a2] []))
      refine Fin.step (fun _ k => Yo.aloadN Xy5.here hx (hb hby d18_36) rfl rfl k) ?_
      refine fget Xy5 hx hZ hown (W_ hw 18) ey5 HF_a1_value (hb hby d18_37) fun Ty6 Xy6 ey6 => ?_
      refine Fin.step (fun _ k => Yo.aloadN Xy6.here hx (hb hby d18_40) rfl rfl k) ?_
      refine fget Xy6 hx hZ hown (W_ hw 18) ey6 HF_a2_value (hb hby d18_41) fun Ty7 Xy7 ey7 => ?_
      obtain ⟨_, Ty8, Lcy8, Xy8, hQy8, sty8⟩ := packS (Jvm.LawKit.callS Xy7 hx (y := n19) hown (mvT hZ (W_ hw 104)) (mvT hZ (W_ hw 105)) (mvT hZ (W_ hw 42)) (mvT hZ (W_ hw 106)) (by decide) (backOf (W := 0) (rmleY l Z a0 hw [] va vb k1 pn vs k2 ws_ h0 n0 Z0 HV_va HV_vb hn hcv hcw) hZ (W_ hw 106) (W_ hw 42) (by decide) (by decide)) (g := (mkF m 44 #[rv a1, rv a2, rv a2] [(.ref vb), (.ref va)])) rfl (by rw [hml]; rfl) (argsL := [(.ref va), (.ref vb)]) (rest := []) (lenOf pd_9 rfl) rfl (lb rfl) (hb hby d18_44) (fun _ _ => ⟨rfl, ey7, (by decide : 0 + 0 ≤ _), (by decide : 0 + 0 ≤ _)⟩))
      obtain ⟨rfl, Nqy8, eqy8⟩ := hQy8
      have Ny8 := Fr.app N0 Nqy8
      refine Fin.step (sty8) ?_
      show Fin p e below s _ _ _ (Ty8.setTop (mkF m 47 #[rv a1, rv a2, rv a2] [(.int (own_eqb pn pn vs ws_))]))
      by_cases hcy9 : (own_eqb pn pn vs ws_) = (0 : Int32)
      · refine Fin.step (fun _ k => Yo.ifYes Xy8.here hx (pc0 := 47) (pc' := 54) rfl (hb hby d18_47) rfl ((if0 _ _).trans (teq (hcy9 : ((own_eqb pn pn vs ws_) = (0 : Int32)))).1) (by decide) (by decide) (Yo.iconst Xy8.here hx (hb hby d18_54) k)) ?_
        refine Fin.retN Xy8 hx (t := .boolean) hret (by simp) hlk (hb hby d18_55) (by decide) (by decide) ?_
        show QeqG Z _ _ _ _ _ _ _ _ _ _ _ h0 n0 _ Ty8.heap _
        rw [eqy8]
        exact ⟨(congrArg (fun z => some (Value.int z)) (own_e0 hcy9)), Ny8, rfl⟩
      · refine Fin.step (fun _ k => Yo.ifNo Xy8.here hx (hb hby d18_47) rfl ((if0 _ _).trans (feq (hcy9 : ¬ ((own_eqb pn pn vs ws_) = (0 : Int32)))).1) (Yo.iconst Xy8.here hx (hb hby d18_50) (Yo.goto Xy8.here hx (pc0 := 51) (pc' := 55) rfl (hb hby d18_51) (by decide) (by decide) k))) ?_
        refine Fin.retN Xy8 hx (t := .boolean) hret (by simp) hlk (hb hby d18_55) (by decide) (by decide) ?_
        show QeqG Z _ _ _ _ _ _ _ _ _ _ _ h0 n0 _ Ty8.heap _
        rw [eqy8]
        exact ⟨(congrArg (fun z => some (Value.int z)) (own_e1 hcy9)), Ny8, rfl⟩
    · show Fin p e below s _ _ _ (Ty5.setTop (mkF m 36 #[rv a1, rv a2, rv a2] []))
      refine Fin.step (fun _ k => Yo.aloadN Xy5.here hx (hb hby d18_36) rfl rfl k) ?_
      refine fget Xy5 hx hZ hown (W_ hw 18) ey5 HF_a1_value (hb hby d18_37) fun Ty10 Xy10 ey10 => ?_
      refine Fin.step (fun _ k => Yo.aloadN Xy10.here hx (hb hby d18_40) rfl rfl k) ?_
      refine fget Xy10 hx hZ hown (W_ hw 18) ey10 HF_a2_value (hb hby d18_41) fun Ty11 Xy11 ey11 => ?_
      obtain ⟨_, Ty12, Lcy12, Xy12, hQy12, sty12⟩ := packS (Jvm.LawKit.callS Xy11 hx (y := n19) hown (mvT hZ (W_ hw 104)) (mvT hZ (W_ hw 105)) (mvT hZ (W_ hw 42)) (mvT hZ (W_ hw 106)) (by decide) (backOf (W := 0) (rmleN l Z a0 hw [] va vb k1 pn vs k2 pm ws_ h0 n0 Z0 HV_va HV_vb hdf) hZ (W_ hw 106) (W_ hw 42) (by decide) (by decide)) (g := (mkF m 44 #[rv a1, rv a2, rv a2] [(.ref vb), (.ref va)])) rfl (by rw [hml]; rfl) (argsL := [(.ref va), (.ref vb)]) (rest := []) (lenOf pd_9 rfl) rfl (lb rfl) (hb hby d18_44) (fun _ _ => ⟨rfl, ey11, (by decide : 0 + 0 ≤ _), (by decide : 0 + 0 ≤ _)⟩))
      obtain ⟨rfl, Nqy12, eqy12⟩ := hQy12
      have Ny12 := Fr.app N0 Nqy12
      refine Fin.step (sty12) ?_
      show Fin p e below s _ _ _ (Ty12.setTop (mkF m 47 #[rv a1, rv a2, rv a2] [(.int (own_eqb pn pm vs ws_))]))
      by_cases hcy13 : (own_eqb pn pm vs ws_) = (0 : Int32)
      · refine Fin.step (fun _ k => Yo.ifYes Xy12.here hx (pc0 := 47) (pc' := 54) rfl (hb hby d18_47) rfl ((if0 _ _).trans (teq (hcy13 : ((own_eqb pn pm vs ws_) = (0 : Int32)))).1) (by decide) (by decide) (Yo.iconst Xy12.here hx (hb hby d18_54) k)) ?_
        refine Fin.retN Xy12 hx (t := .boolean) hret (by simp) hlk (hb hby d18_55) (by decide) (by decide) ?_
        show QeqG Z a1 a2 va k1 pn vs vb k2 pm ws_ wc h0 n0 _ Ty12.heap _
        rw [eqy12]
        exact ⟨(congrArg (fun z => some (Value.int z)) (own_e0 hcy13)), Ny12, rfl⟩
      · refine Fin.step (fun _ k => Yo.ifNo Xy12.here hx (hb hby d18_47) rfl ((if0 _ _).trans (feq (hcy13 : ¬ ((own_eqb pn pm vs ws_) = (0 : Int32)))).1) (Yo.iconst Xy12.here hx (hb hby d18_50) (Yo.goto Xy12.here hx (pc0 := 51) (pc' := 55) rfl (hb hby d18_51) (by decide) (by decide) k))) ?_
        refine Fin.retN Xy12 hx (t := .boolean) hret (by simp) hlk (hb hby d18_55) (by decide) (by decide) ?_
        show QeqG Z a1 a2 va k1 pn vs vb k2 pm ws_ wc h0 n0 _ Ty12.heap _
        rw [eqy12]
        exact ⟨(congrArg (fun z => some (Value.int z)) (own_e1 hcy13)), Ny12, rfl⟩
theorem pn_8 : plainName "jdk/internal/util/Preconditions" = true := by first | (simp [plainName, overriddenIn]; done) | decide +kernel
theorem d8_0 : decode jdk_41_method_11_code 0 = .ok (.iload_n 0, 1) := by decide +kernel
theorem d8_1 : decode jdk_41_method_11_code 1 = .ok (.ifCond .lt 8, 3) := by decide +kernel
theorem d8_4 : decode jdk_41_method_11_code 4 = .ok (.iload_n 0, 1) := by decide +kernel
theorem d8_5 : decode jdk_41_method_11_code 5 = .ok (.iload_n 1, 1) := by decide +kernel
theorem d8_6 : decode jdk_41_method_11_code 6 = .ok (.if_icmp .lt 10, 3) := by decide +kernel
theorem d8_16 : decode jdk_41_method_11_code 16 = .ok (.iload_n 0, 1) := by decide +kernel
theorem d8_17 : decode jdk_41_method_11_code 17 = .ok (.ireturn, 1) := by decide +kernel
theorem ef_rmk0 (m : MethodId) (x0 : Int32) (x1 : Int32) : entryFrame m #[(.int x0), (.int x1), .null] 3 = mkF m 0 #[.val (.int x0), .val (.int x1), .val .null] [] := by first | (simp [entryFrame, mkF, argsToLocals, Value.category]; done) | rfl
abbrev R_rmk0 : Room := ({ frames := 0, cells := 0, slots := 0, locals := 0 } : Room)
def Qk0 (Z : State) (pj pn : Int32) (h0 : Heap) (n0 : Nat) (v : Option Value) (h : Heap) (L : List Loc) : Prop := v = some (.int pj) ∧ Fr n0 L ∧ h = h0
set_option maxRecDepth 65536 in
set_option maxHeartbeats 40000000 in
theorem rmk0 (l : Launch) (Z : State) (a0 : Array Value) (hw : ∀ d ∈ tables_1, d.before a0 Z = true) (ws : List Jvm.Cond) (pj pn : Int32) (h0 : Heap) (n0 : Nat) (Z0 : n0 ≤ h0.size) (hj : ¬ pj < 0 ∧ pj < pn) :
    Met1 l n8 jdk_41_method_11_code 3 (some .int) ws R_rmk0 #[(.int pj), (.int pn), .null] Z h0 (Qk0 Z pj pn h0 n0) := by
  refine Met1.enter (plainFor_of_name pn_8) (fun m => ef_rmk0 m pj pn) fun p e s m below meth c s₁ hx hby hlk hret hml hown hnm hZ X0 e0 => ?_
  have N0 := Fr.nil n0
  have K0 : Keep h0 h0 [] := Keep.refl h0 _
  show Fin p e below s _ _ _ (s₁.setTop (mkF m 0 #[iv pj, iv pn, .val .null] []))
  refine Fin.step (fun _ k => Yo.iloadN X0.here hx (hb hby d8_0) rfl (Yo.ifNo X0.here hx (hb hby d8_1) rfl ((if0 _ _).trans (flt (hj.1 : ¬ (pj < (0 : Int32)))).1) (Yo.iloadN X0.here hx (hb hby d8_4) rfl (Yo.iloadN X0.here hx (hb hby d8_5) rfl (Yo.icmpYes X0.here hx (pc0 := 6) (pc' := 16) rfl (hb hby d8_6) rfl (tlt (hj.2 : (pj < pn))).1 (by decide) (by decide) (Yo.iloadN X0.here hx (hb hby d8_16) rfl k)))))) ?_
  refine Fin.retI X0 hx hret hlk (hb hby d8_17) (by decide) (by decide) ?_
  show Qk0 Z pj pn h0 n0 _ s₁.heap _
  rw [e0]
  exact ⟨rfl, N0, rfl⟩
theorem ef_rmk1 (m : MethodId) (x0 : Int32) (x1 : Int32) (x2 : Addr) : entryFrame m #[(.int x0), (.int x1), (.ref x2)] 3 = mkF m 0 #[.val (.int x0), .val (.int x1), .val (.ref x2)] [] := by first | (simp [entryFrame, mkF, argsToLocals, Value.category]; done) | rfl
abbrev R_rmk1 : Room := ({ frames := 0, cells := 0, slots := 0, locals := 0 } : Room)
def Qk1 (Z : State) (pj pn : Int32) (a3 : Addr) (h0 : Heap) (n0 : Nat) (v : Option Value) (h : Heap) (L : List Loc) : Prop := v = some (.int pj) ∧ Fr n0 L ∧ h = h0
set_option maxRecDepth 65536 in
set_option maxHeartbeats 40000000 in
theorem rmk1 (l : Launch) (Z : State) (a0 : Array Value) (hw : ∀ d ∈ tables_1, d.before a0 Z = true) (ws : List Jvm.Cond) (pj pn : Int32) (a3 : Addr) (h0 : Heap) (n0 : Nat) (Z0 : n0 ≤ h0.size) (hj : ¬ pj < 0 ∧ pj < pn) :
    Met1 l n8 jdk_41_method_11_code 3 (some .int) ws R_rmk1 #[(.int pj), (.int pn), (.ref a3)] Z h0 (Qk1 Z pj pn a3 h0 n0) := by
  refine Met1.enter (plainFor_of_name pn_8) (fun m => ef_rmk1 m pj pn a3) fun p e s m below meth c s₁ hx hby hlk hret hml hown hnm hZ X0 e0 => ?_
  have N0 := Fr.nil n0
  have K0 : Keep h0 h0 [] := Keep.refl h0 _
  show Fin p e below s _ _ _ (s₁.setTop (mkF m 0 #[iv pj, iv pn, rv a3] []))
  refine Fin.step (fun _ k => Yo.iloadN X0.here hx (hb hby d8_0) rfl (Yo.ifNo X0.here hx (hb hby d8_1) rfl ((if0 _ _).trans (flt (hj.1 : ¬ (pj < (0 : Int32)))).1) (Yo.iloadN X0.here hx (hb hby d8_4) rfl (Yo.iloadN X0.here hx (hb hby d8_5) rfl (Yo.icmpYes X0.here hx (pc0 := 6) (pc' := 16) rfl (hb hby d8_6) rfl (tlt (hj.2 : (pj < pn))).1 (by decide) (by decide) (Yo.iloadN X0.here hx (hb hby d8_16) rfl k)))))) ?_
  refine Fin.retI X0 hx hret hlk (hb hby d8_17) (by decide) (by decide) ?_
  show Qk1 Z pj pn a3 h0 n0 _ s₁.heap _
  rw [e0]
  exact ⟨rfl, N0, rfl⟩
theorem pn_7 : plainName "java/lang/String" = true := by first | (simp [plainName, overriddenIn]; done) | decide +kernel
theorem d7_0 : decode jdk_42_method_155_code 0 = .ok (.iload_n 0, 1) := by decide +kernel
theorem d7_1 : decode jdk_42_method_155_code 1 = .ok (.iload_n 1, 1) := by decide +kernel
theorem d7_2 : decode jdk_42_method_155_code 2 = .ok (.getstatic 1053, 3) := by decide +kernel
theorem d7_5 : decode jdk_42_method_155_code 5 = .ok (.invokestatic 1059, 3) := by decide +kernel
theorem pd_10 : parseMethodDescriptor "(IILjava/util/function/BiFunction;)I" = some ⟨[.int, .int, (.object "java/util/function/BiFunction")], some .int⟩ := by decide +kernel
theorem d7_8 : decode jdk_42_method_155_code 8 = .ok (.pop, 1) := by decide +kernel
theorem d7_9 : decode jdk_42_method_155_code 9 = .ok (.return_, 1) := by decide +kernel
theorem ef_rmck (m : MethodId) (x0 : Int32) (x1 : Int32) : entryFrame m #[(.int x0), (.int x1)] 2 = mkF m 0 #[.val (.int x0), .val (.int x1)] [] := by first | (simp [entryFrame, mkF, argsToLocals, Value.category]; done) | rfl
abbrev R_rmck : Room := ({ frames := 1, cells := 0, slots := 0, locals := 14 } : Room)
def Qck (Z : State) (pj pn : Int32) (fv : Value) (h0 : Heap) (n0 : Nat) (v : Option Value) (h : Heap) (L : List Loc) : Prop := v = none ∧ Fr n0 L ∧ h = h0
set_option maxRecDepth 65536 in
set_option maxHeartbeats 40000000 in
theorem rmck (l : Launch) (Z : State) (a0 : Array Value) (hw : ∀ d ∈ tables_1, d.before a0 Z = true) (ws : List Jvm.Cond) (pj pn : Int32) (fv : Value) (h0 : Heap) (n0 : Nat) (Z0 : n0 ≤ h0.size) (HS_jdk_internal_util_Preconditions_SIOOBE_FORMATTER : Sta Z h0 q4 q8 q5 fv) (hfv : fv.isRef = true) (hj : ¬ pj < 0 ∧ pj < pn) :
    Met1 l n7 jdk_42_method_155_code 2 none ws R_rmck #[(.int pj), (.int pn)] Z h0 (Qck Z pj pn fv h0 n0) := by
  refine Met1.enter (plainFor_of_name pn_7) (fun m => ef_rmck m pj pn) fun p e s m below meth c s₁ hx hby hlk hret hml hown hnm hZ X0 e0 => ?_
  have N0 := Fr.nil n0
  have K0 : Keep h0 h0 [] := Keep.refl h0 _
  show Fin p e below s _ _ _ (s₁.setTop (mkF m 0 #[iv pj, iv pn] []))
  refine Fin.step (fun _ k => Yo.iloadN X0.here hx (hb hby d7_0) rfl (Yo.iloadN X0.here hx (hb hby d7_1) rfl k)) ?_
  rcases ref_cases hfv with rfl | ⟨fr, rfl⟩
  · show Fin p e below s _ _ _ (s₁.setTop (mkF m 2 #[iv pj, iv pn] [(.int pn), (.int pj)]))
    obtain ⟨Ty1, Xy1, ey1, sty1⟩ := getS2 X0 hx hZ hown (host := "") (Or.inl (W_ hw 47)) Via.refl e0 HS_jdk_internal_util_Preconditions_SIOOBE_FORMATTER (g := (mkF m 2 #[iv pj, iv pn] [(.int pn), (.int pj)])) rfl (hb hby d7_2)
    refine Fin.step (sty1) ?_
    show Fin p e below s _ _ _ (Ty1.setTop (mkF m 5 #[iv pj, iv pn] [.null, (.int pn), (.int pj)]))
    obtain ⟨_, Ty2, Lcy2, Xy2, hQy2, sty2⟩ := packS (Jvm.LawKit.callS Xy1 hx (y := n8) hown (mvT hZ (W_ hw 49)) (mvT hZ (W_ hw 50)) (mvT hZ (W_ hw 48)) (mvT hZ (W_ hw 51)) (by decide) (backOf (W := 0) (rmk0 l Z a0 hw [] pj pn h0 n0 Z0 hj) hZ (W_ hw 51) (W_ hw 48) (by decide) (by decide)) (g := (mkF m 5 #[iv pj, iv pn] [.null, (.int pn), (.int pj)])) rfl (by rw [hml]; rfl) (argsL := [(.int pj), (.int pn), .null]) (rest := []) (lenOf pd_10 rfl) rfl (lb rfl) (hb hby d7_5) (fun _ _ => ⟨rfl, ey1, (by decide : 0 + 0 ≤ _), (by decide : 0 + 0 ≤ _)⟩))
    obtain ⟨rfl, Nqy2, eqy2⟩ := hQy2
    have Ny2 := Fr.app N0 Nqy2
    refine Fin.step (sty2) ?_
    show Fin p e below s _ _ _ (Ty2.setTop (mkF m 8 #[iv pj, iv pn] [(.int pj)]))
    refine Fin.step (fun _ k => Yo.pop Xy2.here hx (hb hby d7_8) rfl rfl k) ?_
    refine Fin.retV Xy2 hx hret hlk (hb hby d7_9) (by decide) (by decide) ?_
    show Qck Z _ _ _ h0 n0 _ Ty2.heap _
    rw [eqy2]
    exact ⟨rfl, Ny2, rfl⟩
  · show Fin p e below s _ _ _ (s₁.setTop (mkF m 2 #[iv pj, iv pn] [(.int pn), (.int pj)]))
    obtain ⟨Ty3, Xy3, ey3, sty3⟩ := getS2 X0 hx hZ hown (host := "") (Or.inl (W_ hw 47)) Via.refl e0 HS_jdk_internal_util_Preconditions_SIOOBE_FORMATTER (g := (mkF m 2 #[iv pj, iv pn] [(.int pn), (.int pj)])) rfl (hb hby d7_2)
    refine Fin.step (sty3) ?_
    show Fin p e below s _ _ _ (Ty3.setTop (mkF m 5 #[iv pj, iv pn] [(.ref fr), (.int pn), (.int pj)]))
    obtain ⟨_, Ty4, Lcy4, Xy4, hQy4, sty4⟩ := packS (Jvm.LawKit.callS Xy3 hx (y := n8) hown (mvT hZ (W_ hw 49)) (mvT hZ (W_ hw 50)) (mvT hZ (W_ hw 48)) (mvT hZ (W_ hw 51)) (by decide) (backOf (W := 0) (rmk1 l Z a0 hw [] pj pn fr h0 n0 Z0 hj) hZ (W_ hw 51) (W_ hw 48) (by decide) (by decide)) (g := (mkF m 5 #[iv pj, iv pn] [(.ref fr), (.int pn), (.int pj)])) rfl (by rw [hml]; rfl) (argsL := [(.int pj), (.int pn), (.ref fr)]) (rest := []) (lenOf pd_10 rfl) rfl (lb rfl) (hb hby d7_5) (fun _ _ => ⟨rfl, ey3, (by decide : 0 + 0 ≤ _), (by decide : 0 + 0 ≤ _)⟩))
    obtain ⟨rfl, Nqy4, eqy4⟩ := hQy4
    have Ny4 := Fr.app N0 Nqy4
    refine Fin.step (sty4) ?_
    show Fin p e below s _ _ _ (Ty4.setTop (mkF m 8 #[iv pj, iv pn] [(.int pj)]))
    refine Fin.step (fun _ k => Yo.pop Xy4.here hx (hb hby d7_8) rfl rfl k) ?_
    refine Fin.retV Xy4 hx hret hlk (hb hby d7_9) (by decide) (by decide) ?_
    show Qck Z _ _ _ h0 n0 _ Ty4.heap _
    rw [eqy4]
    exact ⟨rfl, Ny4, rfl⟩
theorem pn_6 : plainName "java/lang/StringLatin1" = true := by first | (simp [plainName, overriddenIn]; done) | decide +kernel
theorem d6_0 : decode jdk_43_method_2_code 0 = .ok (.iload_n 1, 1) := by decide +kernel
theorem d6_1 : decode jdk_43_method_2_code 1 = .ok (.aload_n 0, 1) := by decide +kernel
theorem d6_2 : decode jdk_43_method_2_code 2 = .ok (.arraylength, 1) := by decide +kernel
theorem d6_3 : decode jdk_43_method_2_code 3 = .ok (.invokestatic 9, 3) := by decide +kernel
theorem pd_11 : parseMethodDescriptor "(II)V" = some ⟨[.int, .int], none⟩ := by decide +kernel
theorem d6_6 : decode jdk_43_method_2_code 6 = .ok (.aload_n 0, 1) := by decide +kernel
theorem d6_7 : decode jdk_43_method_2_code 7 = .ok (.iload_n 1, 1) := by decide +kernel
theorem d6_8 : decode jdk_43_method_2_code 8 = .ok (.baload, 1) := by decide +kernel
theorem d6_9 : decode jdk_43_method_2_code 9 = .ok (.sipush 255, 3) := by decide +kernel
theorem d6_12 : decode jdk_43_method_2_code 12 = .ok (.iand, 1) := by decide +kernel
theorem d6_13 : decode jdk_43_method_2_code 13 = .ok (.i2c, 1) := by decide +kernel
theorem d6_14 : decode jdk_43_method_2_code 14 = .ok (.ireturn, 1) := by decide +kernel
theorem ef_rmlc (m : MethodId) (x0 : Addr) (x1 : Int32) : entryFrame m #[(.ref x0), (.int x1)] 2 = mkF m 0 #[.val (.ref x0), .val (.int x1)] [] := by first | (simp [entryFrame, mkF, argsToLocals, Value.category]; done) | rfl
abbrev R_rmlc : Room := ({ frames := 2, cells := 0, slots := 0, locals := 27 } : Room)
def Qlc (Z : State) (ab : Addr) (pj : Int32) (kb : ClassId) (pn : Int32) (vs : List Value) (fv : Value) (px : Int32) (h0 : Heap) (n0 : Nat) (v : Option Value) (h : Heap) (L : List Loc) : Prop := v = some (.int (own_ch px)) ∧ Fr n0 L ∧ h = h0
set_option maxRecDepth 65536 in
set_option maxHeartbeats 40000000 in
theorem rmlc (l : Launch) (Z : State) (a0 : Array Value) (hw : ∀ d ∈ tables_1, d.before a0 Z = true) (ws : List Jvm.Cond) (ab : Addr) (pj : Int32) (kb : ClassId) (pn : Int32) (vs : List Value) (fv : Value) (px : Int32) (h0 : Heap) (n0 : Nat) (Z0 : n0 ≤ h0.size) (HV_ab : Arv Z h0 ab kb .byte pn vs (.int 0)) (HS_jdk_internal_util_Preconditions_SIOOBE_FORMATTER : Sta Z h0 q4 q8 q5 fv) (hfv : fv.isRef = true) (hj : ¬ pj < 0 ∧ pj < pn) (hg : vs.getD pj.toNatClampNeg (.int 0) = .int px) :
    Met1 l n6 jdk_43_method_2_code 2 (some .char) ws R_rmlc #[(.ref ab), (.int pj)] Z h0 (Qlc Z ab pj kb pn vs fv px h0 n0) := by
  refine Met1.enter (plainFor_of_name pn_6) (fun m => ef_rmlc m ab pj) fun p e s m below meth c s₁ hx hby hlk hret hml hown hnm hZ X0 e0 => ?_
  have N0 := Fr.nil n0
  have K0 : Keep h0 h0 [] := Keep.refl h0 _
  show Fin p e below s _ _ _ (s₁.setTop (mkF m 0 #[rv ab, iv pj] []))
  refine Fin.step (fun _ k => Yo.iloadN X0.here hx (hb hby d6_0) rfl (Yo.aloadN X0.here hx (hb hby d6_1) rfl rfl k)) ?_
  have voy1 := HV_ab
  obtain ⟨cly1, Ary1, qay1, say1, nay1, hay1, gay1⟩ := voy1
  refine Fin.step (X0.arraylength hx (by rw [e0]; exact Ary1.1) (State.isArrayOf_alike hZ.alike Ary1.2.1) (g := (mkF m 2 #[rv ab, iv pj] [(.ref ab), (.int pj)])) rfl rfl (hb hby d6_2)) ?_
  rw [len_of say1 nay1]
  show Fin p e below s _ _ _ (s₁.setTop (mkF m 3 #[rv ab, iv pj] [(.int pn), (.int pj)]))
  obtain ⟨_, Ty2, Lcy2, Xy2, hQy2, sty2⟩ := packS (Jvm.LawKit.callS X0 hx (y := n7) hown (mvT hZ (W_ hw 44)) (mvT hZ (W_ hw 45)) (mvT hZ (W_ hw 3)) (mvT hZ (W_ hw 46)) (by decide) (backOf (W := 0) (rmck l Z a0 hw [] pj pn fv h0 n0 Z0 HS_jdk_internal_util_Preconditions_SIOOBE_FORMATTER hfv hj) hZ (W_ hw 46) (W_ hw 3) (by decide) (by decide)) (g := (mkF m 3 #[rv ab, iv pj] [(.int pn), (.int pj)])) rfl (by rw [hml]; rfl) (argsL := [(.int pj), (.int pn)]) (rest := []) (lenOf pd_11 rfl) rfl (lb rfl) (hb hby d6_3) (fun _ _ => ⟨rfl, e0, (by decide : 0 + 0 ≤ _), (by decide : 0 + 0 ≤ _)⟩))
  obtain ⟨rfl, Nqy2, eqy2⟩ := hQy2
  have Ny2 := Fr.app N0 Nqy2
  refine Fin.step (sty2) ?_
  show Fin p e below s _ _ _ (Ty2.setTop (mkF m 6 #[rv ab, iv pj] []))
  refine Fin.step (fun _ k => Yo.aloadN Xy2.here hx (hb hby d6_6) rfl rfl (Yo.iloadN Xy2.here hx (hb hby d6_7) rfl (bld3 Xy2 hx hZ eqy2 (j := pj) (v := (.int px)) HV_ab hj hg (hb hby d6_8) (Yo.sipush Xy2.here hx (hb hby d6_9) (Yo.iand Xy2.here hx (hb hby d6_12) rfl k))))) ?_
  show Fin p e below s _ _ _ (Ty2.setTop (mkF m 13 #[rv ab, iv pj] [(.int (px &&& (255 : Int32)))]))
  refine Fin.step (fun _ k => Yo.i2c Xy2.here hx (hb hby d6_13) rfl k) ?_
  show Fin p e below s _ _ _ (Ty2.setTop (mkF m 14 #[rv ab, iv pj] [(.int ((px &&& (255 : Int32)).toUInt32.toUInt16.toUInt32.toInt32))]))
  refine Fin.retN Xy2 hx (t := .char) hret (by simp) hlk (hb hby d6_14) (by decide) (by decide) ?_
  show Qlc Z ab pj kb pn vs fv px h0 n0 _ Ty2.heap _
  rw [eqy2]
  exact ⟨(congrArg (fun z => some (Value.int z)) (own_chn px)), Ny2, rfl⟩
theorem pn_5 : plainName "java/lang/String" = true := by first | (simp [plainName, overriddenIn]; done) | decide +kernel
theorem d5_0 : decode jdk_42_method_154_code 0 = .ok (.getstatic 38, 3) := by decide +kernel
theorem d5_3 : decode jdk_42_method_154_code 3 = .ok (.ifCond .eq 14, 3) := by decide +kernel
theorem d5_6 : decode jdk_42_method_154_code 6 = .ok (.aload_n 0, 1) := by decide +kernel
theorem d5_7 : decode jdk_42_method_154_code 7 = .ok (.getfield 15, 3) := by decide +kernel
theorem d5_10 : decode jdk_42_method_154_code 10 = .ok (.ifCond .ne 7, 3) := by decide +kernel
theorem d5_13 : decode jdk_42_method_154_code 13 = .ok (.iconst 1, 1) := by decide +kernel
theorem d5_14 : decode jdk_42_method_154_code 14 = .ok (.goto 4, 3) := by decide +kernel
theorem d5_18 : decode jdk_42_method_154_code 18 = .ok (.ireturn, 1) := by decide +kernel
theorem ef_rms1 (m : MethodId) (x0 : Addr) : entryFrame m #[(.ref x0)] 1 = mkF m 0 #[.val (.ref x0)] [] := by first | (simp [entryFrame, mkF, argsToLocals, Value.category]; done) | rfl
abbrev R_rms1 : Room := ({ frames := 0, cells := 0, slots := 0, locals := 0 } : Room)
def Qs1 (Z : State) (a1 : Addr) (wc : Int32) (h0 : Heap) (n0 : Nat) (v : Option Value) (h : Heap) (L : List Loc) : Prop := v = some (.int 1) ∧ Fr n0 L ∧ h = h0
set_option maxRecDepth 65536 in
set_option maxHeartbeats 40000000 in
theorem rms1 (l : Launch) (Z : State) (a0 : Array Value) (hw : ∀ d ∈ tables_1, d.before a0 Z = true) (ws : List Jvm.Cond) (a1 : Addr) (wc : Int32) (h0 : Heap) (n0 : Nat) (Z0 : n0 ≤ h0.size) (HS_java_lang_String_COMPACT_STRINGS : Sta Z h0 q3 q7 "Z" (.int wc)) (HF_a1_coder : Fld Z h0 a1 q3 "coder" "B" (.int 0)) (hwc : ¬ wc = 0) :
    Met1 l n5 jdk_42_method_154_code 1 (some .boolean) ws R_rms1 #[(.ref a1)] Z h0 (Qs1 Z a1 wc h0 n0) := by
  refine Met1.enter (plainFor_of_name pn_5) (fun m => ef_rms1 m a1) fun p e s m below meth c s₁ hx hby hlk hret hml hown hnm hZ X0 e0 => ?_
  have N0 := Fr.nil n0
  have K0 : Keep h0 h0 [] := Keep.refl h0 _
  show Fin p e below s _ _ _ (s₁.setTop (mkF m 0 #[rv a1] []))
  obtain ⟨Ty1, Xy1, ey1, sty1⟩ := getS2 X0 hx hZ hown (host := "") (Or.inl (W_ hw 24)) Via.refl e0 HS_java_lang_String_COMPACT_STRINGS (g := (mkF m 0 #[rv a1] [])) rfl (hb hby d5_0)
  refine Fin.step (sty1) ?_
  show Fin p e below s _ _ _ (Ty1.setTop (mkF m 3 #[rv a1] [(.int wc)]))
  refine Fin.step (fun _ k => Yo.ifNo Xy1.here hx (hb hby d5_3) rfl ((if0 _ _).trans (feq (hwc : ¬ (wc = (0 : Int32)))).1) (Yo.aloadN Xy1.here hx (hb hby d5_6) rfl rfl k)) ?_
  refine fget Xy1 hx hZ hown (W_ hw 25) ey1 HF_a1_coder (hb hby d5_7) fun Ty2 Xy2 ey2 => ?_
  refine Fin.step (fun _ k => Yo.ifNo Xy2.here hx (hb hby d5_10) rfl ((if0 _ _).trans (teq ((by decide) : ((0 : Int32) = (0 : Int32)))).2) (Yo.iconst Xy2.here hx (hb hby d5_13) (Yo.goto Xy2.here hx (pc0 := 14) (pc' := 18) rfl (hb hby d5_14) (by decide) (by decide) k))) ?_
  refine Fin.retN Xy2 hx (t := .boolean) hret (by simp) hlk (hb hby d5_18) (by decide) (by decide) ?_
  show Qs1 Z a1 wc h0 n0 _ Ty2.heap _
  rw [ey2]
  exact ⟨rfl, N0, rfl⟩
theorem pn_2 : plainName "java/lang/String" = true := by first | (simp [plainName, overriddenIn]; done) | decide +kernel
theorem d2_0 : decode jdk_42_method_152_code 0 = .ok (.getstatic 38, 3) := by decide +kernel
theorem d2_3 : decode jdk_42_method_152_code 3 = .ok (.ifCond .eq 10, 3) := by decide +kernel
theorem d2_6 : decode jdk_42_method_152_code 6 = .ok (.aload_n 0, 1) := by decide +kernel
theorem d2_7 : decode jdk_42_method_152_code 7 = .ok (.getfield 15, 3) := by decide +kernel
theorem d2_10 : decode jdk_42_method_152_code 10 = .ok (.goto 4, 3) := by decide +kernel
theorem d2_14 : decode jdk_42_method_152_code 14 = .ok (.ireturn, 1) := by decide +kernel
theorem ef_rmsc (m : MethodId) (x0 : Addr) : entryFrame m #[(.ref x0)] 1 = mkF m 0 #[.val (.ref x0)] [] := by first | (simp [entryFrame, mkF, argsToLocals, Value.category]; done) | rfl
abbrev R_rmsc : Room := ({ frames := 0, cells := 0, slots := 0, locals := 0 } : Room)
def Qsc (Z : State) (a1 : Addr) (wc : Int32) (h0 : Heap) (n0 : Nat) (v : Option Value) (h : Heap) (L : List Loc) : Prop := v = some (.int 0) ∧ Fr n0 L ∧ h = h0
set_option maxRecDepth 65536 in
set_option maxHeartbeats 40000000 in
theorem rmsc (l : Launch) (Z : State) (a0 : Array Value) (hw : ∀ d ∈ tables_1, d.before a0 Z = true) (ws : List Jvm.Cond) (a1 : Addr) (wc : Int32) (h0 : Heap) (n0 : Nat) (Z0 : n0 ≤ h0.size) (HS_java_lang_String_COMPACT_STRINGS : Sta Z h0 q3 q7 "Z" (.int wc)) (HF_a1_coder : Fld Z h0 a1 q3 "coder" "B" (.int 0)) (hwc : ¬ wc = 0) :
    Met1 l n2 jdk_42_method_152_code 1 (some .byte) ws R_rmsc #[(.ref a1)] Z h0 (Qsc Z a1 wc h0 n0) := by
  refine Met1.enter (plainFor_of_name pn_2) (fun m => ef_rmsc m a1) fun p e s m below meth c s₁ hx hby hlk hret hml hown hnm hZ X0 e0 => ?_
  have N0 := Fr.nil n0
  have K0 : Keep h0 h0 [] := Keep.refl h0 _
  show Fin p e below s _ _ _ (s₁.setTop (mkF m 0 #[rv a1] []))
  obtain ⟨Ty1, Xy1, ey1, sty1⟩ := getS2 X0 hx hZ hown (host := "") (Or.inl (W_ hw 24)) Via.refl e0 HS_java_lang_String_COMPACT_STRINGS (g := (mkF m 0 #[rv a1] [])) rfl (hb hby d2_0)
  refine Fin.step (sty1) ?_
  show Fin p e below s _ _ _ (Ty1.setTop (mkF m 3 #[rv a1] [(.int wc)]))
  refine Fin.step (fun _ k => Yo.ifNo Xy1.here hx (hb hby d2_3) rfl ((if0 _ _).trans (feq (hwc : ¬ (wc = (0 : Int32)))).1) (Yo.aloadN Xy1.here hx (hb hby d2_6) rfl rfl k)) ?_
  refine fget Xy1 hx hZ hown (W_ hw 25) ey1 HF_a1_coder (hb hby d2_7) fun Ty2 Xy2 ey2 => ?_
  refine Fin.step (fun _ k => Yo.goto Xy2.here hx (pc0 := 10) (pc' := 14) rfl (hb hby d2_10) (by decide) (by decide) k) ?_
  refine Fin.retN Xy2 hx (t := .byte) hret (by simp) hlk (hb hby d2_14) (by decide) (by decide) ?_
  show Qsc Z a1 wc h0 n0 _ Ty2.heap _
  rw [ey2]
  exact ⟨rfl, N0, rfl⟩
theorem pn_1 : plainName "java/lang/String" = true := by first | (simp [plainName, overriddenIn]; done) | decide +kernel
theorem d1_0 : decode jdk_42_method_54_code 0 = .ok (.aload_n 0, 1) := by decide +kernel
theorem d1_1 : decode jdk_42_method_54_code 1 = .ok (.getfield 9, 3) := by decide +kernel
theorem d1_4 : decode jdk_42_method_54_code 4 = .ok (.arraylength, 1) := by decide +kernel
theorem d1_5 : decode jdk_42_method_54_code 5 = .ok (.aload_n 0, 1) := by decide +kernel
theorem d1_6 : decode jdk_42_method_54_code 6 = .ok (.invokevirtual 335, 3) := by decide +kernel
theorem pd_12 : parseMethodDescriptor "()B" = some ⟨[], some .byte⟩ := by decide +kernel
theorem d1_9 : decode jdk_42_method_54_code 9 = .ok (.ishr, 1) := by decide +kernel
theorem d1_10 : decode jdk_42_method_54_code 10 = .ok (.ireturn, 1) := by decide +kernel
theorem ef_rmsl (m : MethodId) (x0 : Addr) : entryFrame m #[(.ref x0)] 1 = mkF m 0 #[.val (.ref x0)] [] := by first | (simp [entryFrame, mkF, argsToLocals, Value.category]; done) | rfl
abbrev R_rmsl : Room := ({ frames := 1, cells := 0, slots := 0, locals := 13 } : Room)
def Qsl (Z : State) (a1 ab : Addr) (kb : ClassId) (pn : Int32) (vs : List Value) (wc : Int32) (h0 : Heap) (n0 : Nat) (v : Option Value) (h : Heap) (L : List Loc) : Prop := v = some (.int pn) ∧ Fr n0 L ∧ h = h0
set_option maxRecDepth 65536 in
set_option maxHeartbeats 40000000 in
theorem rmsl (l : Launch) (Z : State) (a0 : Array Value) (hw : ∀ d ∈ tables_1, d.before a0 Z = true) (ws : List Jvm.Cond) (a1 ab : Addr) (kb : ClassId) (pn : Int32) (vs : List Value) (wc : Int32) (h0 : Heap) (n0 : Nat) (Z0 : n0 ≤ h0.size) (HE_a1 : Exa Z h0 a1 q3) (HF_a1_coder : Fld Z h0 a1 q3 "coder" "B" (.int 0)) (HF_a1_value : Fld Z h0 a1 q3 "value" "[B" (.ref ab)) (HV_ab : Arv Z h0 ab kb .byte pn vs (.int 0)) (HS_java_lang_String_COMPACT_STRINGS : Sta Z h0 q3 q7 "Z" (.int wc)) (hwc : ¬ wc = 0) :
    Met1 l n1 jdk_42_method_54_code 1 (some .int) ws R_rmsl #[(.ref a1)] Z h0 (Qsl Z a1 ab kb pn vs wc h0 n0) := by
  refine Met1.enter (plainFor_of_name pn_1) (fun m => ef_rmsl m a1) fun p e s m below meth c s₁ hx hby hlk hret hml hown hnm hZ X0 e0 => ?_
  have N0 := Fr.nil n0
  have K0 : Keep h0 h0 [] := Keep.refl h0 _
  show Fin p e below s _ _ _ (s₁.setTop (mkF m 0 #[rv a1] []))
  refine Fin.step (fun _ k => Yo.aloadN X0.here hx (hb hby d1_0) rfl rfl k) ?_
  refine fget X0 hx hZ hown (W_ hw 18) e0 HF_a1_value (hb hby d1_1) fun Ty1 Xy1 ey1 => ?_
  have voy2 := HV_ab
  obtain ⟨cly2, Ary2, qay2, say2, nay2, hay2, gay2⟩ := voy2
  refine Fin.step (Xy1.arraylength hx (by rw [ey1]; exact Ary2.1) (State.isArrayOf_alike hZ.alike Ary2.2.1) (g := (mkF m 4 #[rv a1] [(.ref ab)])) rfl rfl (hb hby d1_4)) ?_
  rw [len_of say2 nay2]
  show Fin p e below s _ _ _ (Ty1.setTop (mkF m 5 #[rv a1] [(.int pn)]))
  refine Fin.step (fun _ k => Yo.aloadN Xy1.here hx (hb hby d1_5) rfl rfl k) ?_
  obtain ⟨cqy3, kqy3, qy3a, qy3b, qy3c⟩ := isOf hZ ey1 HE_a1
  obtain ⟨_, Ty3, Lcy3, Xy3, hQy3, sty3⟩ := pack (Xy1.virtualBack hx (y := n2) (z := n2) hown (mvT hZ (W_ hw 19)) (mvT hZ (W_ hw 20)) (notFace_of_selects (args := #[]) (mvT hZ (W_ hw 22))) (mvT hZ (W_ hw 22)) (mvT hZ (W_ hw 21)) (by decide) (backOf (W := 1) (rmsc l Z a0 hw [] a1 wc h0 n0 Z0 HS_java_lang_String_COMPACT_STRINGS HF_a1_coder hwc) hZ (W_ hw 23) (W_ hw 3) (by decide) (by decide)) qy3a qy3c (g := (mkF m 6 #[rv a1] [(.ref a1), (.int pn)])) rfl (by rw [hml]; rfl) (Steps.refl _) (argsL := []) (rest := [(.int pn)]) (lenOf pd_12 rfl) rfl (lb rfl) (hb hby d1_6) (fun _ _ => ⟨rfl, ey1, (by decide : 0 + 0 ≤ _), (by decide : 0 + 0 ≤ _)⟩))
  obtain ⟨rfl, Nqy3, eqy3⟩ := hQy3
  have Ny3 := Fr.app N0 Nqy3
  refine Fin.step (sty3) ?_
  show Fin p e below s _ _ _ (Ty3.setTop (mkF m 9 #[rv a1] [(.int 0), (.int pn)]))
  refine Fin.step (fun _ k => Yo.ishr Xy3.here hx (hb hby d1_9) rfl k) ?_
  show Fin p e below s _ _ _ (Ty3.setTop (mkF m 10 #[rv a1] [(.int (pn >>> ((0 : Int32) &&& 31)))]))
  refine Fin.retI Xy3 hx hret hlk (hb hby d1_10) (by decide) (by decide) ?_
  show Qsl Z a1 ab kb pn vs wc h0 n0 _ Ty3.heap _
  rw [eqy3]
  exact ⟨(congrArg (fun z => some (Value.int z)) (own_sh0 pn)), Ny3, rfl⟩
theorem pn_4 : plainName "java/lang/String" = true := by first | (simp [plainName, overriddenIn]; done) | decide +kernel
theorem d4_0 : decode jdk_42_method_56_code 0 = .ok (.aload_n 0, 1) := by decide +kernel
theorem d4_1 : decode jdk_42_method_56_code 1 = .ok (.invokevirtual 492, 3) := by decide +kernel
theorem pd_13 : parseMethodDescriptor "()Z" = some ⟨[], some .boolean⟩ := by decide +kernel
theorem d4_4 : decode jdk_42_method_56_code 4 = .ok (.ifCond .eq 12, 3) := by decide +kernel
theorem d4_7 : decode jdk_42_method_56_code 7 = .ok (.aload_n 0, 1) := by decide +kernel
theorem d4_8 : decode jdk_42_method_56_code 8 = .ok (.getfield 9, 3) := by decide +kernel
theorem d4_11 : decode jdk_42_method_56_code 11 = .ok (.iload_n 1, 1) := by decide +kernel
theorem d4_12 : decode jdk_42_method_56_code 12 = .ok (.invokestatic 495, 3) := by decide +kernel
theorem d4_15 : decode jdk_42_method_56_code 15 = .ok (.ireturn, 1) := by decide +kernel
theorem ef_rmsca (m : MethodId) (x0 : Addr) (x1 : Int32) : entryFrame m #[(.ref x0), (.int x1)] 2 = mkF m 0 #[.val (.ref x0), .val (.int x1)] [] := by first | (simp [entryFrame, mkF, argsToLocals, Value.category]; done) | rfl
abbrev R_rmsca : Room := ({ frames := 3, cells := 0, slots := 0, locals := 40 } : Room)
def Qsca (Z : State) (a1 : Addr) (pj : Int32) (ab : Addr) (kb : ClassId) (pn : Int32) (vs : List Value) (fv : Value) (wc px : Int32) (h0 : Heap) (n0 : Nat) (v : Option Value) (h : Heap) (L : List Loc) : Prop := v = some (.int (own_ch px)) ∧ Fr n0 L ∧ h = h0
set_option maxRecDepth 65536 in
set_option maxHeartbeats 40000000 in
theorem rmsca (l : Launch) (Z : State) (a0 : Array Value) (hw : ∀ d ∈ tables_1, d.before a0 Z = true) (ws : List Jvm.Cond) (a1 : Addr) (pj : Int32) (ab : Addr) (kb : ClassId) (pn : Int32) (vs : List Value) (fv : Value) (wc px : Int32) (h0 : Heap) (n0 : Nat) (Z0 : n0 ≤ h0.size) (HE_a1 : Exa Z h0 a1 q3) (HF_a1_coder : Fld Z h0 a1 q3 "coder" "B" (.int 0)) (HF_a1_value : Fld Z h0 a1 q3 "value" "[B" (.ref ab)) (HV_ab : Arv Z h0 ab kb .byte pn vs (.int 0)) (HS_jdk_internal_util_Preconditions_SIOOBE_FORMATTER : Sta Z h0 q4 q8 q5 fv) (HS_java_lang_String_COMPACT_STRINGS : Sta Z h0 q3 q7 "Z" (.int wc)) (hfv : fv.isRef = true) (hwc : ¬ wc = 0) (hj : ¬ pj < 0 ∧ pj < pn) (hg : vs.getD pj.toNatClampNeg (.int 0) = .int px) :
    Met1 l n4 jdk_42_method_56_code 2 (some .char) ws R_rmsca #[(.ref a1), (.int pj)] Z h0 (Qsca Z a1 pj ab kb pn vs fv wc px h0 n0) := by
  refine Met1.enter (plainFor_of_name pn_4) (fun m => ef_rmsca m a1 pj) fun p e s m below meth c s₁ hx hby hlk hret hml hown hnm hZ X0 e0 => ?_
  have N0 := Fr.nil n0
  have K0 : Keep h0 h0 [] := Keep.refl h0 _
  show Fin p e below s _ _ _ (s₁.setTop (mkF m 0 #[rv a1, iv pj] []))
  refine Fin.step (fun _ k => Yo.aloadN X0.here hx (hb hby d4_0) rfl rfl k) ?_
  obtain ⟨cqy1, kqy1, qy1a, qy1b, qy1c⟩ := isOf hZ e0 HE_a1
  obtain ⟨_, Ty1, Lcy1, Xy1, hQy1, sty1⟩ := pack (X0.virtualBack hx (y := n5) (z := n5) hown (mvT hZ (W_ hw 35)) (mvT hZ (W_ hw 36)) (notFace_of_selects (args := #[]) (mvT hZ (W_ hw 38))) (mvT hZ (W_ hw 38)) (mvT hZ (W_ hw 37)) (by decide) (backOf (W := 0) (rms1 l Z a0 hw [] a1 wc h0 n0 Z0 HS_java_lang_String_COMPACT_STRINGS HF_a1_coder hwc) hZ (W_ hw 39) (W_ hw 3) (by decide) (by decide)) qy1a qy1c (g := (mkF m 1 #[rv a1, iv pj] [(.ref a1)])) rfl (by rw [hml]; rfl) (Steps.refl _) (argsL := []) (rest := []) (lenOf pd_13 rfl) rfl (lb rfl) (hb hby d4_1) (fun _ _ => ⟨rfl, e0, (by decide : 0 + 0 ≤ _), (by decide : 0 + 0 ≤ _)⟩))
  obtain ⟨rfl, Nqy1, eqy1⟩ := hQy1
  have Ny1 := Fr.app N0 Nqy1
  refine Fin.step (sty1) ?_
  show Fin p e below s _ _ _ (Ty1.setTop (mkF m 4 #[rv a1, iv pj] [(.int 1)]))
  refine Fin.step (fun _ k => Yo.ifNo Xy1.here hx (hb hby d4_4) rfl ((if0 _ _).trans (feq ((by decide) : ¬ ((1 : Int32) = (0 : Int32)))).1) (Yo.aloadN Xy1.here hx (hb hby d4_7) rfl rfl k)) ?_
  refine fget Xy1 hx hZ hown (W_ hw 18) eqy1 HF_a1_value (hb hby d4_8) fun Ty2 Xy2 ey2 => ?_
  refine Fin.step (fun _ k => Yo.iloadN Xy2.here hx (hb hby d4_11) rfl k) ?_
  obtain ⟨_, Ty3, Lcy3, Xy3, hQy3, sty3⟩ := packS (Jvm.LawKit.callS Xy2 hx (y := n6) hown (mvT hZ (W_ hw 40)) (mvT hZ (W_ hw 41)) (mvT hZ (W_ hw 42)) (mvT hZ (W_ hw 43)) (by decide) (backOf (W := 0) (rmlc l Z a0 hw [] ab pj kb pn vs fv px h0 n0 Z0 HV_ab HS_jdk_internal_util_Preconditions_SIOOBE_FORMATTER hfv hj hg) hZ (W_ hw 43) (W_ hw 42) (by decide) (by decide)) (g := (mkF m 12 #[rv a1, iv pj] [(.int pj), (.ref ab)])) rfl (by rw [hml]; rfl) (argsL := [(.ref ab), (.int pj)]) (rest := []) (lenOf pd_5 rfl) rfl (lb rfl) (hb hby d4_12) (fun _ _ => ⟨rfl, ey2, (by decide : 0 + 0 ≤ _), (by decide : 0 + 0 ≤ _)⟩))
  obtain ⟨rfl, Nqy3, eqy3⟩ := hQy3
  have Ny3 := Fr.app Ny1 Nqy3
  refine Fin.step (sty3) ?_
  show Fin p e below s _ _ _ (Ty3.setTop (mkF m 15 #[rv a1, iv pj] [(.int (own_ch px))]))
  refine Fin.retN Xy3 hx (t := .char) hret (by simp) hlk (hb hby d4_15) (by decide) (by decide) ?_
  show Qsca Z a1 pj ab kb pn vs fv wc px h0 n0 _ Ty3.heap _
  rw [eqy3]
  exact ⟨(congrArg (fun z => some (Value.int z)) (own_chm px)), Ny3, rfl⟩
theorem pn_3 : plainName "com/example/model_for_reads/modelforreads/model/FieldTypeFromModelNamePinLaw" = true := by first | (simp [plainName, overriddenIn]; done) | decide +kernel
theorem d3_0 : decode method_2_code 0 = .ok (.iload_n 1, 1) := by decide +kernel
theorem d3_1 : decode method_2_code 1 = .ok (.aload_n 0, 1) := by decide +kernel
theorem d3_2 : decode method_2_code 2 = .ok (.invokevirtual 7, 3) := by decide +kernel
theorem pd_14 : parseMethodDescriptor "()I" = some ⟨[], some .int⟩ := by decide +kernel
theorem d3_5 : decode method_2_code 5 = .ok (.if_icmp .ge 11, 3) := by decide +kernel
theorem d3_8 : decode method_2_code 8 = .ok (.aload_n 0, 1) := by decide +kernel
theorem d3_9 : decode method_2_code 9 = .ok (.iload_n 1, 1) := by decide +kernel
theorem d3_10 : decode method_2_code 10 = .ok (.invokevirtual 13, 3) := by decide +kernel
theorem pd_15 : parseMethodDescriptor "(I)C" = some ⟨[.int], some .char⟩ := by decide +kernel
theorem d3_13 : decode method_2_code 13 = .ok (.goto 5, 3) := by decide +kernel
theorem d3_18 : decode method_2_code 18 = .ok (.ireturn, 1) := by decide +kernel
theorem ef_rmat1 (m : MethodId) (x0 : Addr) (x1 : Int32) : entryFrame m #[(.ref x0), (.int x1)] 2 = mkF m 0 #[.val (.ref x0), .val (.int x1)] [] := by first | (simp [entryFrame, mkF, argsToLocals, Value.category]; done) | rfl
abbrev R_rmat1 : Room := ({ frames := 4, cells := 0, slots := 0, locals := 53 } : Room)
def Qat1 (Z : State) (a1 : Addr) (pj : Int32) (ab : Addr) (kb : ClassId) (pn : Int32) (vs : List Value) (fv : Value) (wc px py : Int32) (h0 : Heap) (n0 : Nat) (v : Option Value) (h : Heap) (L : List Loc) : Prop := v = some (.int py) ∧ Fr n0 L ∧ h = h0
set_option maxRecDepth 65536 in
set_option maxHeartbeats 40000000 in
theorem rmat1 (l : Launch) (Z : State) (a0 : Array Value) (hw : ∀ d ∈ tables_1, d.before a0 Z = true) (ws : List Jvm.Cond) (a1 : Addr) (pj : Int32) (ab : Addr) (kb : ClassId) (pn : Int32) (vs : List Value) (fv : Value) (wc px py : Int32) (h0 : Heap) (n0 : Nat) (Z0 : n0 ≤ h0.size) (HE_a1 : Exa Z h0 a1 q3) (HF_a1_coder : Fld Z h0 a1 q3 "coder" "B" (.int 0)) (HF_a1_value : Fld Z h0 a1 q3 "value" "[B" (.ref ab)) (HV_ab : Arv Z h0 ab kb .byte pn vs (.int 0)) (HS_jdk_internal_util_Preconditions_SIOOBE_FORMATTER : Sta Z h0 q4 q8 q5 fv) (HS_java_lang_String_COMPACT_STRINGS : Sta Z h0 q3 q7 "Z" (.int wc)) (hfv : fv.isRef = true) (hwc : ¬ wc = 0) (hj : ¬ pj < 0 ∧ pj < pn) (hg : vs.getD pj.toNatClampNeg (.int 0) = .int px) (hxy : own_ch px = py) :
    Met1 l n3 method_2_code 2 (some .char) ws R_rmat1 #[(.ref a1), (.int pj)] Z h0 (Qat1 Z a1 pj ab kb pn vs fv wc px py h0 n0) := by
  refine Met1.enter (plainFor_of_name pn_3) (fun m => ef_rmat1 m a1 pj) fun p e s m below meth c s₁ hx hby hlk hret hml hown hnm hZ X0 e0 => ?_
  have N0 := Fr.nil n0
  have K0 : Keep h0 h0 [] := Keep.refl h0 _
  show Fin p e below s _ _ _ (s₁.setTop (mkF m 0 #[rv a1, iv pj] []))
  refine Fin.step (fun _ k => Yo.iloadN X0.here hx (hb hby d3_0) rfl (Yo.aloadN X0.here hx (hb hby d3_1) rfl rfl k)) ?_
  obtain ⟨cqy1, kqy1, qy1a, qy1b, qy1c⟩ := isOf hZ e0 HE_a1
  obtain ⟨_, Ty1, Lcy1, Xy1, hQy1, sty1⟩ := pack (X0.virtualBack hx (y := n1) (z := n1) hown (mvT hZ (W_ hw 13)) (mvT hZ (W_ hw 14)) (notFace_of_selects (args := #[]) (mvT hZ (W_ hw 16))) (mvT hZ (W_ hw 16)) (mvT hZ (W_ hw 15)) (by decide) (backOf (W := 1) (rmsl l Z a0 hw [] a1 ab kb pn vs wc h0 n0 Z0 HE_a1 HF_a1_coder HF_a1_value HV_ab HS_java_lang_String_COMPACT_STRINGS hwc) hZ (W_ hw 17) (W_ hw 3) (by decide) (by decide)) qy1a qy1c (g := (mkF m 2 #[rv a1, iv pj] [(.ref a1), (.int pj)])) rfl (by rw [hml]; rfl) (Steps.refl _) (argsL := []) (rest := [(.int pj)]) (lenOf pd_14 rfl) rfl (lb rfl) (hb hby d3_2) (fun _ _ => ⟨rfl, e0, (by decide : 0 + 0 ≤ _), (by decide : 0 + 0 ≤ _)⟩))
  obtain ⟨rfl, Nqy1, eqy1⟩ := hQy1
  have Ny1 := Fr.app N0 Nqy1
  refine Fin.step (sty1) ?_
  show Fin p e below s _ _ _ (Ty1.setTop (mkF m 5 #[rv a1, iv pj] [(.int pn), (.int pj)]))
  refine Fin.step (fun _ k => Yo.icmpNo Xy1.here hx (hb hby d3_5) rfl (tlt (hj.2 : (pj < pn))).2.1 (Yo.aloadN Xy1.here hx (hb hby d3_8) rfl rfl (Yo.iloadN Xy1.here hx (hb hby d3_9) rfl k))) ?_
  obtain ⟨cqy2, kqy2, qy2a, qy2b, qy2c⟩ := isOf hZ eqy1 HE_a1
  obtain ⟨_, Ty2, Lcy2, Xy2, hQy2, sty2⟩ := pack (Xy1.virtualBack hx (y := n4) (z := n4) hown (mvT hZ (W_ hw 30)) (mvT hZ (W_ hw 31)) (notFace_of_selects (args := #[]) (mvT hZ (W_ hw 33))) (mvT hZ (W_ hw 33)) (mvT hZ (W_ hw 32)) (by decide) (backOf (W := 0) (rmsca l Z a0 hw [] a1 pj ab kb pn vs fv wc px h0 n0 Z0 HE_a1 HF_a1_coder HF_a1_value HV_ab HS_jdk_internal_util_Preconditions_SIOOBE_FORMATTER HS_java_lang_String_COMPACT_STRINGS hfv hwc hj hg) hZ (W_ hw 34) (W_ hw 3) (by decide) (by decide)) qy2a qy2c (g := (mkF m 10 #[rv a1, iv pj] [(.int pj), (.ref a1)])) rfl (by rw [hml]; rfl) (Steps.refl _) (argsL := [(.int pj)]) (rest := []) (lenOf pd_15 rfl) rfl (lb rfl) (hb hby d3_10) (fun _ _ => ⟨rfl, eqy1, (by decide : 0 + 0 ≤ _), (by decide : 0 + 0 ≤ _)⟩))
  obtain ⟨rfl, Nqy2, eqy2⟩ := hQy2
  have Ny2 := Fr.app Ny1 Nqy2
  refine Fin.step (sty2) ?_
  show Fin p e below s _ _ _ (Ty2.setTop (mkF m 13 #[rv a1, iv pj] [(.int (own_ch px))]))
  refine Fin.step (fun _ k => Yo.goto Xy2.here hx (pc0 := 13) (pc' := 18) rfl (hb hby d3_13) (by decide) (by decide) k) ?_
  refine Fin.retN Xy2 hx (t := .char) hret (by simp) hlk (hb hby d3_18) (by decide) (by decide) ?_
  show Qat1 Z a1 pj ab kb pn vs fv wc px py h0 n0 _ Ty2.heap _
  rw [eqy2]
  exact ⟨(congrArg (fun z => some (Value.int z)) ((own_chm px).trans hxy)), Ny2, rfl⟩
theorem d3_16 : decode method_2_code 16 = .ok (.bipush 120, 2) := by decide +kernel
theorem ef_rmat0 (m : MethodId) (x0 : Addr) (x1 : Int32) : entryFrame m #[(.ref x0), (.int x1)] 2 = mkF m 0 #[.val (.ref x0), .val (.int x1)] [] := by first | (simp [entryFrame, mkF, argsToLocals, Value.category]; done) | rfl
abbrev R_rmat0 : Room := ({ frames := 2, cells := 0, slots := 0, locals := 26 } : Room)
def Qat0 (Z : State) (a1 : Addr) (pj : Int32) (ab : Addr) (kb : ClassId) (pn : Int32) (vs : List Value) (wc : Int32) (h0 : Heap) (n0 : Nat) (v : Option Value) (h : Heap) (L : List Loc) : Prop := v = some (.int 120) ∧ Fr n0 L ∧ h = h0
set_option maxRecDepth 65536 in
set_option maxHeartbeats 40000000 in
theorem rmat0 (l : Launch) (Z : State) (a0 : Array Value) (hw : ∀ d ∈ tables_1, d.before a0 Z = true) (ws : List Jvm.Cond) (a1 : Addr) (pj : Int32) (ab : Addr) (kb : ClassId) (pn : Int32) (vs : List Value) (wc : Int32) (h0 : Heap) (n0 : Nat) (Z0 : n0 ≤ h0.size) (HE_a1 : Exa Z h0 a1 q3) (HF_a1_coder : Fld Z h0 a1 q3 "coder" "B" (.int 0)) (HF_a1_value : Fld Z h0 a1 q3 "value" "[B" (.ref ab)) (HV_ab : Arv Z h0 ab kb .byte pn vs (.int 0)) (HS_java_lang_String_COMPACT_STRINGS : Sta Z h0 q3 q7 "Z" (.int wc)) (hwc : ¬ wc = 0) (hj : ¬ pj < pn) :
    Met1 l n3 method_2_code 2 (some .char) ws R_rmat0 #[(.ref a1), (.int pj)] Z h0 (Qat0 Z a1 pj ab kb pn vs wc h0 n0) := by
  refine Met1.enter (plainFor_of_name pn_3) (fun m => ef_rmat0 m a1 pj) fun p e s m below meth c s₁ hx hby hlk hret hml hown hnm hZ X0 e0 => ?_
  have N0 := Fr.nil n0
  have K0 : Keep h0 h0 [] := Keep.refl h0 _
  show Fin p e below s _ _ _ (s₁.setTop (mkF m 0 #[rv a1, iv pj] []))
  refine Fin.step (fun _ k => Yo.iloadN X0.here hx (hb hby d3_0) rfl (Yo.aloadN X0.here hx (hb hby d3_1) rfl rfl k)) ?_
  obtain ⟨cqy1, kqy1, qy1a, qy1b, qy1c⟩ := isOf hZ e0 HE_a1
  obtain ⟨_, Ty1, Lcy1, Xy1, hQy1, sty1⟩ := pack (X0.virtualBack hx (y := n1) (z := n1) hown (mvT hZ (W_ hw 13)) (mvT hZ (W_ hw 14)) (notFace_of_selects (args := #[]) (mvT hZ (W_ hw 16))) (mvT hZ (W_ hw 16)) (mvT hZ (W_ hw 15)) (by decide) (backOf (W := 1) (rmsl l Z a0 hw [] a1 ab kb pn vs wc h0 n0 Z0 HE_a1 HF_a1_coder HF_a1_value HV_ab HS_java_lang_String_COMPACT_STRINGS hwc) hZ (W_ hw 17) (W_ hw 3) (by decide) (by decide)) qy1a qy1c (g := (mkF m 2 #[rv a1, iv pj] [(.ref a1), (.int pj)])) rfl (by rw [hml]; rfl) (Steps.refl _) (argsL := []) (rest := [(.int pj)]) (lenOf pd_14 rfl) rfl (lb rfl) (hb hby d3_2) (fun _ _ => ⟨rfl, e0, (by decide : 0 + 0 ≤ _), (by decide : 0 + 0 ≤ _)⟩))
  obtain ⟨rfl, Nqy1, eqy1⟩ := hQy1
  have Ny1 := Fr.app N0 Nqy1
  refine Fin.step (sty1) ?_
  show Fin p e below s _ _ _ (Ty1.setTop (mkF m 5 #[rv a1, iv pj] [(.int pn), (.int pj)]))
  refine Fin.step (fun _ k => Yo.icmpYes Xy1.here hx (pc0 := 5) (pc' := 16) rfl (hb hby d3_5) rfl (flt (hj : ¬ (pj < pn))).2.1 (by decide) (by decide) (Yo.bipush Xy1.here hx (hb hby d3_16) k)) ?_
  refine Fin.retN Xy1 hx (t := .char) hret (by simp) hlk (hb hby d3_18) (by decide) (by decide) ?_
  show Qat0 Z a1 pj ab kb pn vs wc h0 n0 _ Ty1.heap _
  rw [eqy1]
  exact ⟨rfl, Ny1, rfl⟩
theorem pn_25 : plainName "com/example/model_for_reads/modelforreads/model/FieldTypeFromModelNamePinLaw" = true := by first | (simp [plainName, overriddenIn]; done) | decide +kernel
theorem d25_0 : decode method_3_code 0 = .ok (.lload_n 0, 1) := by decide +kernel
theorem d25_1 : decode method_3_code 1 = .ok (.bipush 8, 2) := by decide +kernel
theorem d25_3 : decode method_3_code 3 = .ok (.iload_n 2, 1) := by decide +kernel
theorem d25_4 : decode method_3_code 4 = .ok (.imul, 1) := by decide +kernel
theorem d25_5 : decode method_3_code 5 = .ok (.lushr, 1) := by decide +kernel
theorem d25_6 : decode method_3_code 6 = .ok (.ldc2_w 17, 3) := by decide +kernel
theorem d25_9 : decode method_3_code 9 = .ok (.land, 1) := by decide +kernel
theorem d25_10 : decode method_3_code 10 = .ok (.l2i, 1) := by decide +kernel
theorem d25_11 : decode method_3_code 11 = .ok (.i2c, 1) := by decide +kernel
theorem d25_12 : decode method_3_code 12 = .ok (.ireturn, 1) := by decide +kernel
theorem ef_rmba (m : MethodId) (x0 : Int64) (x1 : Int32) : entryFrame m #[(.long x0), (.int x1)] 3 = mkF m 0 #[.val (.long x0), .second, .val (.int x1)] [] := by first | (simp [entryFrame, mkF, argsToLocals, Value.category]; done) | rfl
abbrev R_rmba : Room := ({ frames := 0, cells := 0, slots := 0, locals := 0 } : Room)
def Qba (Z : State) (pd : Int64) (pj : Int32) (h0 : Heap) (n0 : Nat) (v : Option Value) (h : Heap) (L : List Loc) : Prop := v = some (.int (own_ba pd pj)) ∧ Fr n0 L ∧ h = h0
set_option maxRecDepth 65536 in
set_option maxHeartbeats 40000000 in
theorem rmba (l : Launch) (Z : State) (a0 : Array Value) (hw : ∀ d ∈ tables_1, d.before a0 Z = true) (ws : List Jvm.Cond) (pd : Int64) (pj : Int32) (h0 : Heap) (n0 : Nat) (Z0 : n0 ≤ h0.size) :
    Met1 l n25 method_3_code 3 (some .char) ws R_rmba #[(.long pd), (.int pj)] Z h0 (Qba Z pd pj h0 n0) := by
  refine Met1.enter (plainFor_of_name pn_25) (fun m => ef_rmba m pd pj) fun p e s m below meth c s₁ hx hby hlk hret hml hown hnm hZ X0 e0 => ?_
  have N0 := Fr.nil n0
  have K0 : Keep h0 h0 [] := Keep.refl h0 _
  show Fin p e below s _ _ _ (s₁.setTop (mkF m 0 #[.val (.long pd), .second, iv pj] []))
  refine Fin.step (fun _ => XS.lloadN X0.here hx rfl (hb hby d25_0) rfl) ?_
  show Fin p e below s _ _ _ (s₁.setTop (mkF m 1 #[.val (.long pd), .second, iv pj] [(.long pd)]))
  refine Fin.step (fun _ k => Yo.bipush X0.here hx (hb hby d25_1) (Yo.iloadN X0.here hx (hb hby d25_3) rfl k)) ?_
  refine Fin.step (fun _ => XS.imul X0.here hx rfl (hb hby d25_4) rfl) ?_
  show Fin p e below s _ _ _ (s₁.setTop (mkF m 5 #[.val (.long pd), .second, iv pj] [(.int ((8 : Int32) * pj)), (.long pd)]))
  refine Fin.step (fun _ => XS.lushr X0.here hx rfl (hb hby d25_5) rfl) ?_
  show Fin p e below s _ _ _ (s₁.setTop (mkF m 6 #[.val (.long pd), .second, iv pj] [(.long (ushL pd ((8 : Int32) * pj)))]))
  refine Fin.step (X0.ldc2Long hx hown (mvT hZ (W_ hw 140)) (g := (mkF m 6 #[.val (.long pd), .second, iv pj] [(.long (ushL pd ((8 : Int32) * pj)))])) rfl (hb hby d25_6)) ?_
  show Fin p e below s _ _ _ (s₁.setTop (mkF m 9 #[.val (.long pd), .second, iv pj] [(.long (255 : Int64)), (.long (ushL pd ((8 : Int32) * pj)))]))
  refine Fin.step (fun _ => XS.land X0.here hx rfl (hb hby d25_9) rfl) ?_
  show Fin p e below s _ _ _ (s₁.setTop (mkF m 10 #[.val (.long pd), .second, iv pj] [(.long ((ushL pd ((8 : Int32) * pj)) &&& (255 : Int64)))]))
  refine Fin.step (fun _ => XS.l2i X0.here hx rfl (hb hby d25_10) rfl) ?_
  show Fin p e below s _ _ _ (s₁.setTop (mkF m 11 #[.val (.long pd), .second, iv pj] [(.int ((ushL pd ((8 : Int32) * pj)) &&& (255 : Int64)).toInt32)]))
  refine Fin.step (fun _ k => Yo.i2c X0.here hx (hb hby d25_11) rfl k) ?_
  show Fin p e below s _ _ _ (s₁.setTop (mkF m 12 #[.val (.long pd), .second, iv pj] [(.int (((ushL pd ((8 : Int32) * pj)) &&& (255 : Int64)).toInt32.toUInt32.toUInt16.toUInt32.toInt32))]))
  refine Fin.retN X0 hx (t := .char) hret (by simp) hlk (hb hby d25_12) (by decide) (by decide) ?_
  show Qba Z pd pj h0 n0 _ s₁.heap _
  rw [e0]
  exact ⟨(congrArg (fun z => some (Value.int z)) (own_ban pd pj)), N0, rfl⟩
theorem pn_21 : plainName "java/util/Objects" = true := by first | (simp [plainName, overriddenIn]; done) | decide +kernel
theorem d21_0 : decode jdk_31_method_10_code 0 = .ok (.aload_n 0, 1) := by decide +kernel
theorem d21_1 : decode jdk_31_method_10_code 1 = .ok (.ifnonnull 11, 3) := by decide +kernel
theorem d21_12 : decode jdk_31_method_10_code 12 = .ok (.aload_n 0, 1) := by decide +kernel
theorem d21_13 : decode jdk_31_method_10_code 13 = .ok (.areturn, 1) := by decide +kernel
theorem ef_rmrn (m : MethodId) (x0 : Addr) : entryFrame m #[(.ref x0)] 1 = mkF m 0 #[.val (.ref x0)] [] := by first | (simp [entryFrame, mkF, argsToLocals, Value.category]; done) | rfl
abbrev R_rmrn : Room := ({ frames := 0, cells := 0, slots := 0, locals := 0 } : Room)
def Qrn (Z : State) (a1 : Addr) (h0 : Heap) (n0 : Nat) (v : Option Value) (h : Heap) (L : List Loc) : Prop := v = some (.ref a1) ∧ Fr n0 L ∧ h = h0
set_option maxRecDepth 65536 in
set_option maxHeartbeats 40000000 in
theorem rmrn (l : Launch) (Z : State) (a0 : Array Value) (hw : ∀ d ∈ tables_1, d.before a0 Z = true) (ws : List Jvm.Cond) (a1 : Addr) (h0 : Heap) (n0 : Nat) (Z0 : n0 ≤ h0.size) :
    Met1 l n21 jdk_31_method_10_code 1 (some (.object "java/lang/Object")) ws R_rmrn #[(.ref a1)] Z h0 (Qrn Z a1 h0 n0) := by
  refine Met1.enter (plainFor_of_name pn_21) (fun m => ef_rmrn m a1) fun p e s m below meth c s₁ hx hby hlk hret hml hown hnm hZ X0 e0 => ?_
  have N0 := Fr.nil n0
  have K0 : Keep h0 h0 [] := Keep.refl h0 _
  show Fin p e below s _ _ _ (s₁.setTop (mkF m 0 #[rv a1] []))
  refine Fin.step (fun _ k => Yo.aloadN X0.here hx (hb hby d21_0) rfl rfl (Yo.ifnonnullYes X0.here hx (pc0 := 1) (pc' := 12) rfl (hb hby d21_1) rfl (by decide) (by decide) (Yo.aloadN X0.here hx (hb hby d21_12) rfl rfl k))) ?_
  refine Fin.retR X0 hx hret rfl rfl hlk (hb hby d21_13) (by decide) (by decide) ?_
  show Qrn Z a1 h0 n0 _ s₁.heap _
  rw [e0]
  exact ⟨rfl, N0, rfl⟩
theorem pn_22 : plainName "java/util/Optional" = true := by first | (simp [plainName, overriddenIn]; done) | decide +kernel
theorem d22_0 : decode jdk_32_method_2_code 0 = .ok (.aload_n 0, 1) := by decide +kernel
theorem d22_1 : decode jdk_32_method_2_code 1 = .ok (.invokespecial 7, 3) := by decide +kernel
theorem d22_4 : decode jdk_32_method_2_code 4 = .ok (.aload_n 0, 1) := by decide +kernel
theorem d22_5 : decode jdk_32_method_2_code 5 = .ok (.aload_n 1, 1) := by decide +kernel
theorem d22_6 : decode jdk_32_method_2_code 6 = .ok (.putfield 13, 3) := by decide +kernel
theorem d22_9 : decode jdk_32_method_2_code 9 = .ok (.return_, 1) := by decide +kernel
theorem ef_rmoi (m : MethodId) (x0 : Addr) (x1 : Addr) : entryFrame m #[(.ref x0), (.ref x1)] 2 = mkF m 0 #[.val (.ref x0), .val (.ref x1)] [] := by first | (simp [entryFrame, mkF, argsToLocals, Value.category]; done) | rfl
abbrev R_rmoi : Room := ({ frames := 1, cells := 0, slots := 0, locals := 12 } : Room)
def Qoi (Z : State) (a1 a2 : Addr) (h0 : Heap) (n0 : Nat) (v : Option Value) (h : Heap) (L : List Loc) : Prop := v = none ∧ Fr n0 L ∧ Keep h0 h [a1] ∧ Fld Z h a1 "java/util/Optional" "value" "Ljava/lang/Object;" (.ref a2)
set_option maxRecDepth 65536 in
set_option maxHeartbeats 40000000 in
theorem rmoi (l : Launch) (Z : State) (a0 : Array Value) (hw : ∀ d ∈ tables_1, d.before a0 Z = true) (ws : List Jvm.Cond) (a1 a2 : Addr) (h0 : Heap) (n0 : Nat) (Z0 : n0 ≤ h0.size) (HE_a1 : Exa Z h0 a1 "java/util/Optional") (HF_a1_value : Fld Z h0 a1 "java/util/Optional" "value" "Ljava/lang/Object;" .null) (g_a1 : n0 ≤ a1) :
    Met1 l n22 jdk_32_method_2_code 2 none ws R_rmoi #[(.ref a1), (.ref a2)] Z h0 (Qoi Z a1 a2 h0 n0) := by
  refine Met1.enter (plainFor_of_name pn_22) (fun m => ef_rmoi m a1 a2) fun p e s m below meth c s₁ hx hby hlk hret hml hown hnm hZ X0 e0 => ?_
  have N0 := Fr.nil n0
  have K0 := Keep.refl h0 [a1]
  show Fin p e below s _ _ _ (s₁.setTop (mkF m 0 #[rv a1, rv a2] []))
  refine Fin.step (fun _ k => Yo.aloadN X0.here hx (hb hby d22_0) rfl rfl k) ?_
  obtain ⟨Ty1, Xy1, ey1, sty1⟩ := initO X0 hx hZ hown (W_ hw 121) (W_ hw 64) (W_ hw 65) e0 (g := (mkF m 1 #[rv a1, rv a2] [(.ref a1)])) rfl (by rw [hml]; rfl) rfl (hb hby d22_1) (by decide) (W := 0) (by show 2 * 0 + _ ≤ _; exact Nat.le_of_eq rfl) (by decide)
  refine Fin.step (sty1) ?_
  show Fin p e below s _ _ _ (Ty1.setTop (mkF m 4 #[rv a1, rv a2] []))
  refine Fin.step (fun _ k => Yo.aloadN Xy1.here hx (hb hby d22_4) rfl rfl (Yo.aloadN Xy1.here hx (hb hby d22_5) rfl rfl k)) ?_
  obtain ⟨Ty2, hy2, Xy2, ey2, Wy2, sty2⟩ := putF Xy1 hx hZ hown (host := "") (Or.inl (W_ hw 122)) Via.refl ey1 HF_a1_value HE_a1 (Or.inr ⟨(W_ hw 123), rfl, hnm⟩) (W_ hw 112) (ty := (.object "java/lang/Object")) (by decide) rfl rfl (g := (mkF m 6 #[rv a1, rv a2] [(.ref a2), (.ref a1)])) rfl rfl (hb hby d22_6)
  have Fwy2 : Fld Z hy2 a1 "java/util/Optional" "value" "Ljava/lang/Object;" (.ref a2) := HF_a1_value.same Wy2
  have Zy2 : n0 ≤ hy2.size := Nat.le_trans Z0 (Keep.of_wr Wy2).1
  have Ky2 : Keep h0 hy2 [a1] := K0.wr Wy2 m0
  have Ny2 := Fr.snoc Xy2 N0 g_a1
  refine Fin.step (sty2) ?_
  show Fin p e below s _ _ _ (Ty2.setTop (mkF m 9 #[rv a1, rv a2] []))
  refine Fin.retV Xy2 hx hret hlk (hb hby d22_9) (by decide) (by decide) ?_
  show Qoi Z a1 a2 h0 n0 _ Ty2.heap _
  rw [ey2]
  exact ⟨rfl, Ny2, Ky2, Fwy2⟩
theorem pn_20 : plainName "java/util/Optional" = true := by first | (simp [plainName, overriddenIn]; done) | decide +kernel
theorem d20_0 : decode jdk_32_method_3_code 0 = .ok (.new 2, 3) := by decide +kernel
theorem d20_3 : decode jdk_32_method_3_code 3 = .ok (.dup, 1) := by decide +kernel
theorem d20_4 : decode jdk_32_method_3_code 4 = .ok (.aload_n 0, 1) := by decide +kernel
theorem d20_5 : decode jdk_32_method_3_code 5 = .ok (.invokestatic 17, 3) := by decide +kernel
theorem pd_16 : parseMethodDescriptor "(Ljava/lang/Object;)Ljava/lang/Object;" = some ⟨[(.object "java/lang/Object")], some (.object "java/lang/Object")⟩ := by decide +kernel
theorem d20_8 : decode jdk_32_method_3_code 8 = .ok (.invokespecial 23, 3) := by decide +kernel
theorem pd_17 : parseMethodDescriptor "(Ljava/lang/Object;)V" = some ⟨[(.object "java/lang/Object")], none⟩ := by decide +kernel
theorem d20_11 : decode jdk_32_method_3_code 11 = .ok (.areturn, 1) := by decide +kernel
theorem ef_rmoo (m : MethodId) (x0 : Addr) : entryFrame m #[(.ref x0)] 1 = mkF m 0 #[.val (.ref x0)] [] := by first | (simp [entryFrame, mkF, argsToLocals, Value.category]; done) | rfl
abbrev R_rmoo : Room := ({ frames := 2, cells := 1, slots := 1, locals := 26 } : Room)
def Qoo (Z : State) (a1 : Addr) (h0 : Heap) (n0 : Nat) (v : Option Value) (h : Heap) (L : List Loc) : Prop := ∃ op : Addr, v = some (.ref op) ∧ h0.size ≤ op ∧ Fr n0 L ∧ Keep h0 h [] ∧ Exa Z h op "java/util/Optional" ∧ Fld Z h op "java/util/Optional" "value" "Ljava/lang/Object;" (.ref a1)
set_option maxRecDepth 65536 in
set_option maxHeartbeats 40000000 in
theorem rmoo (l : Launch) (Z : State) (a0 : Array Value) (hw : ∀ d ∈ tables_1, d.before a0 Z = true) (ws : List Jvm.Cond) (a1 : Addr) (h0 : Heap) (n0 : Nat) (Z0 : n0 ≤ h0.size) :
    Met1 l n20 jdk_32_method_3_code 1 (some (.object "java/util/Optional")) ws R_rmoo #[(.ref a1)] Z h0 (Qoo Z a1 h0 n0) := by
  refine Met1.enter (plainFor_of_name pn_20) (fun m => ef_rmoo m a1) fun p e s m below meth c s₁ hx hby hlk hret hml hown hnm hZ X0 e0 => ?_
  have N0 := Fr.nil n0
  have K0 : Keep h0 h0 [] := Keep.refl h0 _
  show Fin p e below s _ _ _ (s₁.setTop (mkF m 0 #[rv a1] []))
  obtain ⟨Ty1, hy1, Xy1, ey1, Ey1, Ay1, Dy1, -, sty1⟩ := newO X0 hx hZ hown (W_ hw 111) (W_ hw 112) (W_ hw 109) e0 (g := (mkF m 0 #[rv a1] [])) rfl (hb hby d20_0) (by decide) (by decide)
  obtain ⟨by1, gy1⟩ : ∃ z, z = h0.size := ⟨_, rfl⟩
  rw [← gy1] at Ay1 Dy1 sty1
  have gzy1 : n0 ≤ by1 := Nat.le_trans Z0 (Nat.le_of_eq gy1.symm)
  have szy1 : h0.size ≤ by1 := Nat.le_trans K0.1 (Nat.le_of_eq gy1.symm)
  have Zy1 := Nat.le_trans Z0 Ey1.1
  have Ky1 := K0.ext Ey1
  have F_value_by1 : Fld Z hy1 by1 "java/util/Optional" "value" "Ljava/lang/Object;" .null := Dy1 (Or.inr (W_ hw 123)) (ty := (.object "java/lang/Object")) (by decide)
  refine Fin.step (sty1) ?_
  show Fin p e below s _ _ _ (Ty1.setTop (mkF m 3 #[rv a1] [(.ref by1)]))
  refine Fin.step (fun _ k => Yo.dup Xy1.here hx (hb hby d20_3) rfl rfl (Yo.aloadN Xy1.here hx (hb hby d20_4) rfl rfl k)) ?_
  obtain ⟨_, Ty2, Lcy2, Xy2, hQy2, sty2⟩ := packS (Jvm.LawKit.callS Xy1 hx (y := n21) hown (mvT hZ (W_ hw 113)) (mvT hZ (W_ hw 114)) (mvT hZ (W_ hw 115)) (mvT hZ (W_ hw 116)) (by decide) (backOf (W := 2) (rmrn l Z a0 hw [] a1 hy1 n0 Zy1 ) hZ (W_ hw 116) (W_ hw 115) (by decide) (by decide)) (g := (mkF m 5 #[rv a1] [(.ref a1), (.ref by1), (.ref by1)])) rfl (by rw [hml]; rfl) (argsL := [(.ref a1)]) (rest := [(.ref by1), (.ref by1)]) (lenOf pd_16 rfl) rfl (lb rfl) (hb hby d20_5) (fun _ _ => ⟨rfl, ey1, (by decide : 1 + 0 ≤ _), (by decide : 1 + 0 ≤ _)⟩))
  obtain ⟨rfl, Nqy2, eqy2⟩ := hQy2
  have Ny2 := Fr.app N0 Nqy2
  refine Fin.step (sty2) ?_
  show Fin p e below s _ _ _ (Ty2.setTop (mkF m 8 #[rv a1] [(.ref a1), (.ref by1), (.ref by1)]))
  obtain ⟨_, Ty3, Lcy3, Xy3, hQy3, sty3⟩ := pack (Xy2.specialBack hx (y := n22) rfl hown (mvT hZ (W_ hw 117)) (mvT hZ (W_ hw 118)) (mvT hZ (W_ hw 120)) (by decide) (backOf (W := 1) (rmoi l Z a0 hw [] by1 a1 hy1 n0 Zy1 Ay1 F_value_by1 gzy1) hZ (W_ hw 120) (W_ hw 109) (by decide) (by decide)) (g := (mkF m 8 #[rv a1] [(.ref a1), (.ref by1), (.ref by1)])) rfl (by rw [hml]; rfl) (Steps.refl _) (a := by1) (argsL := [(.ref a1)]) (rest := [(.ref by1)]) (lenOf pd_17 rfl) rfl (lb rfl) (hb hby d20_8) (fun _ _ => ⟨rfl, eqy2, (by decide : 1 + 0 ≤ _), (by decide : 1 + 0 ≤ _)⟩))
  obtain ⟨rfl, Nqy3, Kcy3, fy3_0⟩ := hQy3
  have Ny3 := Fr.app Ny2 Nqy3
  have Zy3 := Nat.le_trans Zy1 Kcy3.1
  have Ky3 := Ky1.trans Kcy3 (allS (Or.inr szy1) all0)
  refine Fin.step (sty3) ?_
  show Fin p e below s _ _ _ (Ty3.setTop (mkF m 11 #[rv a1] [(.ref by1)]))
  refine Fin.retR Xy3 hx hret rfl rfl hlk (hb hby d20_11) (by decide) (by decide) ?_
  show Qoo Z a1 h0 n0 _ Ty3.heap _
  exact ⟨by1, rfl, szy1, Ny3, Ky3, (Ay1.keep Kcy3), fy3_0⟩
theorem pn_24 : plainName "java/util/Optional" = true := by first | (simp [plainName, overriddenIn]; done) | decide +kernel
theorem d24_0 : decode jdk_32_method_1_code 0 = .ok (.getstatic 1, 3) := by decide +kernel
theorem d24_3 : decode jdk_32_method_1_code 3 = .ok (.astore_n 0, 1) := by decide +kernel
theorem d24_4 : decode jdk_32_method_1_code 4 = .ok (.aload_n 0, 1) := by decide +kernel
theorem d24_5 : decode jdk_32_method_1_code 5 = .ok (.areturn, 1) := by decide +kernel
theorem ef_rmoe (m : MethodId)  : entryFrame m #[] 1 = mkF m 0 #[.unset] [] := by first | (simp [entryFrame, mkF, argsToLocals, Value.category]; done) | rfl
abbrev R_rmoe : Room := ({ frames := 0, cells := 0, slots := 0, locals := 0 } : Room)
def Qoe (Z : State) (eo : Addr) (h0 : Heap) (n0 : Nat) (v : Option Value) (h : Heap) (L : List Loc) : Prop := v = some (.ref eo) ∧ Fr n0 L ∧ h = h0
set_option maxRecDepth 65536 in
set_option maxHeartbeats 40000000 in
theorem rmoe (l : Launch) (Z : State) (a0 : Array Value) (hw : ∀ d ∈ tables_1, d.before a0 Z = true) (ws : List Jvm.Cond) (eo : Addr) (h0 : Heap) (n0 : Nat) (Z0 : n0 ≤ h0.size) (HS_java_util_Optional_EMPTY : Sta Z h0 "java/util/Optional" "EMPTY" "Ljava/util/Optional;" (.ref eo)) :
    Met1 l n24 jdk_32_method_1_code 1 (some (.object "java/util/Optional")) ws R_rmoe #[] Z h0 (Qoe Z eo h0 n0) := by
  refine Met1.enter (plainFor_of_name pn_24) (fun m => ef_rmoe m ) fun p e s m below meth c s₁ hx hby hlk hret hml hown hnm hZ X0 e0 => ?_
  have N0 := Fr.nil n0
  have K0 : Keep h0 h0 [] := Keep.refl h0 _
  show Fin p e below s _ _ _ (s₁.setTop (mkF m 0 #[u_] []))
  obtain ⟨Ty1, Xy1, ey1, sty1⟩ := getS2 X0 hx hZ hown (host := "") (Or.inl (W_ hw 133)) Via.refl e0 HS_java_util_Optional_EMPTY (g := (mkF m 0 #[u_] [])) rfl (hb hby d24_0)
  refine Fin.step (sty1) ?_
  show Fin p e below s _ _ _ (Ty1.setTop (mkF m 3 #[u_] [(.ref eo)]))
  refine Fin.step (fun _ k => Yo.astoreN Xy1.here hx (hb hby d24_3) rfl rfl (l' := #[rv eo]) rfl (Yo.aloadN Xy1.here hx (hb hby d24_4) rfl rfl k)) ?_
  refine Fin.retR Xy1 hx hret rfl rfl hlk (hb hby d24_5) (by decide) (by decide) ?_
  show Qoe Z eo h0 n0 _ Ty1.heap _
  rw [ey1]
  exact ⟨rfl, N0, rfl⟩
theorem pn_23 : plainName "java/util/Optional" = true := by first | (simp [plainName, overriddenIn]; done) | decide +kernel
theorem d23_0 : decode jdk_32_method_15_code 0 = .ok (.aload_n 0, 1) := by decide +kernel
theorem d23_1 : decode jdk_32_method_15_code 1 = .ok (.getfield 13, 3) := by decide +kernel
theorem d23_4 : decode jdk_32_method_15_code 4 = .ok (.ifnull 10, 3) := by decide +kernel
theorem d23_7 : decode jdk_32_method_15_code 7 = .ok (.aload_n 0, 1) := by decide +kernel
theorem d23_8 : decode jdk_32_method_15_code 8 = .ok (.getfield 13, 3) := by decide +kernel
theorem d23_11 : decode jdk_32_method_15_code 11 = .ok (.goto 4, 3) := by decide +kernel
theorem d23_15 : decode jdk_32_method_15_code 15 = .ok (.areturn, 1) := by decide +kernel
theorem ef_rmor1 (m : MethodId) (x0 : Addr) : entryFrame m #[(.ref x0), .null] 2 = mkF m 0 #[.val (.ref x0), .val .null] [] := by first | (simp [entryFrame, mkF, argsToLocals, Value.category]; done) | rfl
abbrev R_rmor1 : Room := ({ frames := 0, cells := 0, slots := 0, locals := 0 } : Room)
def Qor1 (Z : State) (a1 vr : Addr) (h0 : Heap) (n0 : Nat) (v : Option Value) (h : Heap) (L : List Loc) : Prop := v = some (.ref vr) ∧ Fr n0 L ∧ h = h0
set_option maxRecDepth 65536 in
set_option maxHeartbeats 40000000 in
theorem rmor1 (l : Launch) (Z : State) (a0 : Array Value) (hw : ∀ d ∈ tables_1, d.before a0 Z = true) (ws : List Jvm.Cond) (a1 vr : Addr) (h0 : Heap) (n0 : Nat) (Z0 : n0 ≤ h0.size) (HF_a1_value : Fld Z h0 a1 "java/util/Optional" "value" "Ljava/lang/Object;" (.ref vr)) :
    Met1 l n23 jdk_32_method_15_code 2 (some (.object "java/lang/Object")) ws R_rmor1 #[(.ref a1), .null] Z h0 (Qor1 Z a1 vr h0 n0) := by
  refine Met1.enter (plainFor_of_name pn_23) (fun m => ef_rmor1 m a1) fun p e s m below meth c s₁ hx hby hlk hret hml hown hnm hZ X0 e0 => ?_
  have N0 := Fr.nil n0
  have K0 : Keep h0 h0 [] := Keep.refl h0 _
  show Fin p e below s _ _ _ (s₁.setTop (mkF m 0 #[rv a1, .val .null] []))
  refine Fin.step (fun _ k => Yo.aloadN X0.here hx (hb hby d23_0) rfl rfl k) ?_
  refine fget X0 hx hZ hown (W_ hw 122) e0 HF_a1_value (hb hby d23_1) fun Ty1 Xy1 ey1 => ?_
  refine Fin.step (fun _ k => Yo.ifnullNo Xy1.here hx (hb hby d23_4) rfl (Yo.aloadN Xy1.here hx (hb hby d23_7) rfl rfl k)) ?_
  refine fget Xy1 hx hZ hown (W_ hw 122) ey1 HF_a1_value (hb hby d23_8) fun Ty2 Xy2 ey2 => ?_
  refine Fin.step (fun _ k => Yo.goto Xy2.here hx (pc0 := 11) (pc' := 15) rfl (hb hby d23_11) (by decide) (by decide) k) ?_
  refine Fin.retR Xy2 hx hret rfl rfl hlk (hb hby d23_15) (by decide) (by decide) ?_
  show Qor1 Z a1 vr h0 n0 _ Ty2.heap _
  rw [ey2]
  exact ⟨rfl, N0, rfl⟩
theorem d23_14 : decode jdk_32_method_15_code 14 = .ok (.aload_n 1, 1) := by decide +kernel
theorem ef_rmor0 (m : MethodId) (x0 : Addr) : entryFrame m #[(.ref x0), .null] 2 = mkF m 0 #[.val (.ref x0), .val .null] [] := by first | (simp [entryFrame, mkF, argsToLocals, Value.category]; done) | rfl
abbrev R_rmor0 : Room := ({ frames := 0, cells := 0, slots := 0, locals := 0 } : Room)
def Qor0 (Z : State) (a1 : Addr) (h0 : Heap) (n0 : Nat) (v : Option Value) (h : Heap) (L : List Loc) : Prop := v = some .null ∧ Fr n0 L ∧ h = h0
set_option maxRecDepth 65536 in
set_option maxHeartbeats 40000000 in
theorem rmor0 (l : Launch) (Z : State) (a0 : Array Value) (hw : ∀ d ∈ tables_1, d.before a0 Z = true) (ws : List Jvm.Cond) (a1 : Addr) (h0 : Heap) (n0 : Nat) (Z0 : n0 ≤ h0.size) (HF_a1_value : Fld Z h0 a1 "java/util/Optional" "value" "Ljava/lang/Object;" .null) :
    Met1 l n23 jdk_32_method_15_code 2 (some (.object "java/lang/Object")) ws R_rmor0 #[(.ref a1), .null] Z h0 (Qor0 Z a1 h0 n0) := by
  refine Met1.enter (plainFor_of_name pn_23) (fun m => ef_rmor0 m a1) fun p e s m below meth c s₁ hx hby hlk hret hml hown hnm hZ X0 e0 => ?_
  have N0 := Fr.nil n0
  have K0 : Keep h0 h0 [] := Keep.refl h0 _
  show Fin p e below s _ _ _ (s₁.setTop (mkF m 0 #[rv a1, .val .null] []))
  refine Fin.step (fun _ k => Yo.aloadN X0.here hx (hb hby d23_0) rfl rfl k) ?_
  refine fget X0 hx hZ hown (W_ hw 122) e0 HF_a1_value (hb hby d23_1) fun Ty1 Xy1 ey1 => ?_
  refine Fin.step (fun _ k => Yo.ifnullYes Xy1.here hx (pc0 := 4) (pc' := 14) rfl (hb hby d23_4) rfl (by decide) (by decide) (Yo.aloadN Xy1.here hx (hb hby d23_14) rfl rfl k)) ?_
  refine Fin.retR Xy1 hx hret rfl rfl hlk (hb hby d23_15) (by decide) (by decide) ?_
  show Qor0 Z a1 h0 n0 _ Ty1.heap _
  rw [ey1]
  exact ⟨rfl, N0, rfl⟩
theorem pn_17 : plainName "com/example/model_for_reads/modelforreads/model/FieldType" = true := by first | (simp [plainName, overriddenIn]; done) | decide +kernel
theorem d17_0 : decode prog_7_method_1_code 0 = .ok (.getstatic 13, 3) := by decide +kernel
theorem d17_3 : decode prog_7_method_1_code 3 = .ok (.invokevirtual 17, 3) := by decide +kernel
theorem d17_6 : decode prog_7_method_1_code 6 = .ok (.checkcast 18, 3) := by decide +kernel
theorem d17_9 : decode prog_7_method_1_code 9 = .ok (.areturn, 1) := by decide +kernel
theorem ef_rmva (m : MethodId)  : entryFrame m #[] 0 = mkF m 0 #[] [] := by first | (simp [entryFrame, mkF, argsToLocals, Value.category]; done) | rfl
abbrev R_rmva : Room := ({ frames := 1, cells := 1, slots := 3, locals := 14 } : Room)
def Qva (Z : State) (av : Addr) (cv : Cell) (t1 t2 t3 : Addr) (h0 : Heap) (n0 : Nat) (v : Option Value) (h : Heap) (L : List Loc) : Prop := ∃ kv : ClassId, ∃ nv : Addr, v = some (.ref nv) ∧ h0.size ≤ nv ∧ Fr n0 L ∧ Keep h0 h [] ∧ Arv Z h nv kv (.object "com/example/model_for_reads/modelforreads/model/FieldType") (3 : Int32) [(.ref t1), (.ref t2), (.ref t3)] .null
set_option maxRecDepth 65536 in
set_option maxHeartbeats 40000000 in
theorem rmva (l : Launch) (Z : State) (a0 : Array Value) (hw : ∀ d ∈ tables_1, d.before a0 Z = true) (ws : List Jvm.Cond) (av : Addr) (cv : Cell) (t1 t2 t3 : Addr) (h0 : Heap) (n0 : Nat) (Z0 : n0 ≤ h0.size) (HS_com_example_model_for_reads_modelforreads_model_FieldType__VALUES : Sta Z h0 q0 "$VALUES" q2 (.ref av)) (hcv : Arr Z h0 av cv (.object "com/example/model_for_reads/modelforreads/model/FieldType") ∧ Exa Z h0 av "[Lcom/example/model_for_reads/modelforreads/model/FieldType;" ∧ FitC Z cv ∧ cv.slots = ([(.ref t1), (.ref t2), (.ref t3)] : List Value).toArray) :
    Met1 l n17 prog_7_method_1_code 0 (some (.array (.object "com/example/model_for_reads/modelforreads/model/FieldType"))) ws R_rmva #[] Z h0 (Qva Z av cv t1 t2 t3 h0 n0) := by
  refine Met1.enter (plainFor_of_name pn_17) (fun m => ef_rmva m ) fun p e s m below meth c s₁ hx hby hlk hret hml hown hnm hZ X0 e0 => ?_
  have N0 := Fr.nil n0
  have K0 : Keep h0 h0 [] := Keep.refl h0 _
  show Fin p e below s _ _ _ (s₁.setTop (mkF m 0 #[] []))
  obtain ⟨Ty1, Xy1, ey1, sty1⟩ := getS2 X0 hx hZ hown (host := "") (Or.inl (W_ hw 82)) Via.refl e0 HS_com_example_model_for_reads_modelforreads_model_FieldType__VALUES (g := (mkF m 0 #[] [])) rfl (hb hby d17_0)
  refine Fin.step (sty1) ?_
  show Fin p e below s _ _ _ (Ty1.setTop (mkF m 3 #[] [(.ref av)]))
  obtain ⟨Ty2, hy2, Xy2, ey2, Ey2, Ay2, Exy2, sty2⟩ := cloneA Xy1 hx hZ (ad := "[Lcom/example/model_for_reads/modelforreads/model/FieldType;") hown (W_ hw 84) (W_ hw 85) (W_ hw 89) (W_ hw 87) (W_ hw 88) (W_ hw 90) ey1 hcv.1 hcv.2.1 hcv.2.2.1 (g := (mkF m 3 #[] [(.ref av)])) rfl (by rw [hml]; rfl) rfl (hb hby d17_3) (by decide) (W := 0) (lb rfl) (by decide) (cap := 3) (by rw [hcv.2.2.2]; exact Nat.le_refl _) (by decide) (by decide)
  obtain ⟨by2, gy2⟩ : ∃ z, z = h0.size := ⟨_, rfl⟩
  rw [← gy2] at Ay2 Exy2 sty2
  have gzy2 : n0 ≤ by2 := Nat.le_trans Z0 (Nat.le_of_eq gy2.symm)
  have szy2 : h0.size ≤ by2 := Nat.le_trans K0.1 (Nat.le_of_eq gy2.symm)
  have Zy2 := Nat.le_trans Z0 Ey2.1
  have Ky2 := K0.ext Ey2
  have Vy2 : Arv Z hy2 by2 cv.cls (.object "com/example/model_for_reads/modelforreads/model/FieldType") (3 : Int32) [(.ref t1), (.ref t2), (.ref t3)] .null := ofArr (cl := cloneOf cv) Ay2 hcv.2.2.2 (by decide) rfl (by intro v hv; simp only [List.mem_cons, List.not_mem_nil, or_false] at hv; rcases hv with rfl | rfl | rfl <;> rfl)
  refine Fin.step (sty2) ?_
  show Fin p e below s _ _ _ (Ty2.setTop (mkF m 6 #[] [(.ref by2)]))
  obtain ⟨Ty3, Xy3, ey3, sty3⟩ := castY Xy2 hx hZ hown (W_ hw 94) ey2 (Ins.self Exy2) (g := (mkF m 6 #[] [(.ref by2)])) rfl rfl (hb hby d17_6)
  refine Fin.step (sty3) ?_
  show Fin p e below s _ _ _ (Ty3.setTop (mkF m 9 #[] [(.ref by2)]))
  refine Fin.retR Xy3 hx hret rfl rfl hlk (hb hby d17_9) (by decide) (by decide) ?_
  show Qva Z av cv t1 t2 t3 h0 n0 _ Ty3.heap _
  rw [ey3]
  exact ⟨cv.cls, by2, rfl, szy2, N0, Ky2, Vy2⟩
theorem pn_16 : plainName "com/example/model_for_reads/modelforreads/model/FieldType" = true := by first | (simp [plainName, overriddenIn]; done) | decide +kernel
theorem d16_0 : decode prog_7_method_5_code 0 = .ok (.invokestatic 40, 3) := by decide +kernel
theorem pd_18 : parseMethodDescriptor "()[Lcom/example/model_for_reads/modelforreads/model/FieldType;" = some ⟨[], some (.array (.object "com/example/model_for_reads/modelforreads/model/FieldType"))⟩ := by decide +kernel
theorem d16_3 : decode prog_7_method_5_code 3 = .ok (.astore_n 1, 1) := by decide +kernel
theorem d16_4 : decode prog_7_method_5_code 4 = .ok (.aload_n 1, 1) := by decide +kernel
theorem d16_5 : decode prog_7_method_5_code 5 = .ok (.arraylength, 1) := by decide +kernel
theorem d16_6 : decode prog_7_method_5_code 6 = .ok (.istore_n 2, 1) := by decide +kernel
theorem d16_7 : decode prog_7_method_5_code 7 = .ok (.iconst 0, 1) := by decide +kernel
theorem d16_8 : decode prog_7_method_5_code 8 = .ok (.istore_n 3, 1) := by decide +kernel
theorem d16_9 : decode prog_7_method_5_code 9 = .ok (.iload_n 3, 1) := by decide +kernel
theorem d16_10 : decode prog_7_method_5_code 10 = .ok (.iload_n 2, 1) := by decide +kernel
theorem d16_11 : decode prog_7_method_5_code 11 = .ok (.if_icmp .ge 32, 3) := by decide +kernel
theorem d16_14 : decode prog_7_method_5_code 14 = .ok (.aload_n 1, 1) := by decide +kernel
theorem d16_15 : decode prog_7_method_5_code 15 = .ok (.iload_n 3, 1) := by decide +kernel
theorem d16_16 : decode prog_7_method_5_code 16 = .ok (.aaload, 1) := by decide +kernel
theorem d16_17 : decode prog_7_method_5_code 17 = .ok (.astore 4, 2) := by decide +kernel
theorem d16_19 : decode prog_7_method_5_code 19 = .ok (.aload 4, 2) := by decide +kernel
theorem d16_21 : decode prog_7_method_5_code 21 = .ok (.getfield 32, 3) := by decide +kernel
theorem d16_24 : decode prog_7_method_5_code 24 = .ok (.aload_n 0, 1) := by decide +kernel
theorem d16_25 : decode prog_7_method_5_code 25 = .ok (.invokevirtual 44, 3) := by decide +kernel
theorem pd_19 : parseMethodDescriptor "(Ljava/lang/Object;)Z" = some ⟨[(.object "java/lang/Object")], some .boolean⟩ := by decide +kernel
theorem d16_28 : decode prog_7_method_5_code 28 = .ok (.ifCond .eq 9, 3) := by decide +kernel
theorem d16_37 : decode prog_7_method_5_code 37 = .ok (.iinc 3 1, 3) := by decide +kernel
theorem d16_40 : decode prog_7_method_5_code 40 = .ok (.goto (-31), 3) := by decide +kernel
theorem d16_43 : decode prog_7_method_5_code 43 = .ok (.invokestatic 56, 3) := by decide +kernel
theorem pd_20 : parseMethodDescriptor "()Ljava/util/Optional;" = some ⟨[], some (.object "java/util/Optional")⟩ := by decide +kernel
theorem d16_46 : decode prog_7_method_5_code 46 = .ok (.areturn, 1) := by decide +kernel
theorem ef_rmfm00 (m : MethodId)  : entryFrame m #[.null] 5 = mkF m 0 #[.val .null, .unset, .unset, .unset, .unset] [] := by first | (simp [entryFrame, mkF, argsToLocals, Value.category]; done) | rfl
abbrev R_rmfm00 : Room := ({ frames := 2, cells := 1, slots := 3, locals := 25 } : Room)
def Qfm00 (Z : State) (av : Addr) (cv : Cell) (t1 t2 t3 eo : Addr) (wc : Int32) (s1 v1 : Addr) (k1 : ClassId) (pn1 : Int32) (ls1 : List Value) (s2 v2 : Addr) (k2 : ClassId) (pn2 : Int32) (ls2 : List Value) (s3 v3 : Addr) (k3 : ClassId) (pn3 : Int32) (ls3 : List Value) (h0 : Heap) (n0 : Nat) (v : Option Value) (h : Heap) (L : List Loc) : Prop := v = some (.ref eo) ∧ Fr n0 L ∧ Keep h0 h []
set_option maxRecDepth 65536 in
set_option maxHeartbeats 40000000 in
theorem rmfm00 (l : Launch) (Z : State) (a0 : Array Value) (hw : ∀ d ∈ tables_1, d.before a0 Z = true) (ws : List Jvm.Cond) (av : Addr) (cv : Cell) (t1 t2 t3 eo : Addr) (wc : Int32) (s1 v1 : Addr) (k1 : ClassId) (pn1 : Int32) (ls1 : List Value) (s2 v2 : Addr) (k2 : ClassId) (pn2 : Int32) (ls2 : List Value) (s3 v3 : Addr) (k3 : ClassId) (pn3 : Int32) (ls3 : List Value) (h0 : Heap) (n0 : Nat) (Z0 : n0 ≤ h0.size) (HS_com_example_model_for_reads_modelforreads_model_FieldType__VALUES : Sta Z h0 q0 "$VALUES" q2 (.ref av)) (HS_java_util_Optional_EMPTY : Sta Z h0 "java/util/Optional" "EMPTY" "Ljava/util/Optional;" (.ref eo)) (HS_java_lang_String_COMPACT_STRINGS : Sta Z h0 q3 q7 "Z" (.int wc)) (HF_t1_modelName : Fld Z h0 t1 q0 "modelName" "Ljava/lang/String;" (.ref s1)) (HE_s1 : Exa Z h0 s1 q3) (HF_s1_coder : Fld Z h0 s1 q3 "coder" "B" (.int 0)) (HF_s1_value : Fld Z h0 s1 q3 "value" "[B" (.ref v1)) (HV_v1 : Arv Z h0 v1 k1 .byte pn1 ls1 (.int 0)) (HF_t2_modelName : Fld Z h0 t2 q0 "modelName" "Ljava/lang/String;" (.ref s2)) (HE_s2 : Exa Z h0 s2 q3) (HF_s2_coder : Fld Z h0 s2 q3 "coder" "B" (.int 0)) (HF_s2_value : Fld Z h0 s2 q3 "value" "[B" (.ref v2)) (HV_v2 : Arv Z h0 v2 k2 .byte pn2 ls2 (.int 0)) (HF_t3_modelName : Fld Z h0 t3 q0 "modelName" "Ljava/lang/String;" (.ref s3)) (HE_s3 : Exa Z h0 s3 q3) (HF_s3_coder : Fld Z h0 s3 q3 "coder" "B" (.int 0)) (HF_s3_value : Fld Z h0 s3 q3 "value" "[B" (.ref v3)) (HV_v3 : Arv Z h0 v3 k3 .byte pn3 ls3 (.int 0)) (hcv : Arr Z h0 av cv (.object "com/example/model_for_reads/modelforreads/model/FieldType") ∧ Exa Z h0 av "[Lcom/example/model_for_reads/modelforreads/model/FieldType;" ∧ FitC Z cv ∧ cv.slots = ([(.ref t1), (.ref t2), (.ref t3)] : List Value).toArray) (hwc : ¬ wc = 0) :
    Met1 l n16 prog_7_method_5_code 5 (some (.object "java/util/Optional")) ws R_rmfm00 #[.null] Z h0 (Qfm00 Z av cv t1 t2 t3 eo wc s1 v1 k1 pn1 ls1 s2 v2 k2 pn2 ls2 s3 v3 k3 pn3 ls3 h0 n0) := by
  refine Met1.enter (plainFor_of_name pn_16) (fun m => ef_rmfm00 m ) fun p e s m below meth c s₁ hx hby hlk hret hml hown hnm hZ X0 e0 => ?_
  have N0 := Fr.nil n0
  have K0 : Keep h0 h0 [] := Keep.refl h0 _
  show Fin p e below s _ _ _ (s₁.setTop (mkF m 0 #[.val .null, u_, u_, u_, u_] []))
  obtain ⟨_, Ty1, Lcy1, Xy1, hQy1, sty1⟩ := packS (Jvm.LawKit.callS X0 hx (y := n17) hown (mvT hZ (W_ hw 79)) (mvT hZ (W_ hw 80)) (mvT hZ (W_ hw 11)) (mvT hZ (W_ hw 81)) (by decide) (backOf (W := 0) (rmva l Z a0 hw [] av cv t1 t2 t3 h0 n0 Z0 HS_com_example_model_for_reads_modelforreads_model_FieldType__VALUES hcv) hZ (W_ hw 81) (W_ hw 11) (by decide) (by decide)) (g := (mkF m 0 #[.val .null, u_, u_, u_, u_] [])) rfl (by rw [hml]; rfl) (argsL := []) (rest := []) (lenOf pd_18 rfl) rfl (lb rfl) (hb hby d16_0) (fun _ _ => ⟨rfl, e0, (by decide : 0 + 1 ≤ _), (by decide : 0 + 3 ≤ _)⟩))
  obtain ⟨kv_y1, by1, rfl, bzy1, Nqy1, Kcy1, fy1_0⟩ := hQy1
  have Ny1 := Fr.app N0 Nqy1
  have gzy1 : n0 ≤ by1 := Nat.le_trans Z0 bzy1
  have szy1 : h0.size ≤ by1 := Nat.le_trans K0.1 bzy1
  have Zy1 := Nat.le_trans Z0 Kcy1.1
  have Ky1 := K0.trans Kcy1 all0
  refine Fin.step (sty1) ?_
  show Fin p e below s _ _ _ (Ty1.setTop (mkF m 3 #[.val .null, u_, u_, u_, u_] [(.ref by1)]))
  refine Fin.step (fun _ k => Yo.astoreN Xy1.here hx (hb hby d16_3) rfl rfl (l' := #[.val .null, rv by1, u_, u_, u_]) rfl (Yo.aloadN Xy1.here hx (hb hby d16_4) rfl rfl k)) ?_
  have voy2 := fy1_0
  obtain ⟨cly2, Ary2, qay2, say2, nay2, hay2, gay2⟩ := voy2
  refine Fin.step (Xy1.arraylength hx Ary2.1 (State.isArrayOf_alike hZ.alike Ary2.2.1) (g := (mkF m 5 #[.val .null, rv by1, u_, u_, u_] [(.ref by1)])) rfl rfl (hb hby d16_5)) ?_
  rw [len_of say2 nay2]
  show Fin p e below s _ _ _ (Ty1.setTop (mkF m 6 #[.val .null, rv by1, u_, u_, u_] [(.int 3)]))
  refine Fin.step (fun _ k => Yo.istoreN Xy1.here hx (hb hby d16_6) rfl (l' := #[.val .null, rv by1, iv 3, u_, u_]) rfl (Yo.iconst Xy1.here hx (hb hby d16_7) (Yo.istoreN Xy1.here hx (hb hby d16_8) rfl (l' := #[.val .null, rv by1, iv 3, iv 0, u_]) rfl (Yo.iloadN Xy1.here hx (hb hby d16_9) rfl (Yo.iloadN Xy1.here hx (hb hby d16_10) rfl (Yo.icmpNo Xy1.here hx (hb hby d16_11) rfl (tlt ((by decide) : ((0 : Int32) < (3 : Int32)))).2.1 (Yo.aloadN Xy1.here hx (hb hby d16_14) rfl rfl (Yo.iloadN Xy1.here hx (hb hby d16_15) rfl k)))))))) ?_
  refine fald Xy1 hx hZ rfl fy1_0 rfl (j := 0) (v := (.ref t1)) ⟨by decide, by decide⟩ rfl (hb hby d16_16) ?_
  refine Fin.step (fun _ k => Yo.astore Xy1.here hx (hb hby d16_17) rfl rfl (l' := #[.val .null, rv by1, iv 3, iv 0, rv t1]) rfl (Yo.aload Xy1.here hx (hb hby d16_19) rfl rfl k)) ?_
  have ry5 := (HF_t1_modelName.keep Kcy1 nin0)
  refine fget Xy1 hx hZ hown (W_ hw 96) rfl ry5 (hb hby d16_21) fun Ty4 Xy4 ey4 => ?_
  refine Fin.step (fun _ k => Yo.aloadN Xy4.here hx (hb hby d16_24) rfl rfl k) ?_
  obtain ⟨cqy6, kqy6, qy6a, qy6b, qy6c⟩ := isOf hZ ey4 (HE_s1.keep Kcy1)
  obtain ⟨_, Ty6, Lcy6, Xy6, hQy6, sty6⟩ := pack (Xy4.virtualBack hx (y := n18) (z := n18) hown (mvT hZ (W_ hw 98)) (mvT hZ (W_ hw 99)) (notFace_of_selects (args := #[]) (mvT hZ (W_ hw 101))) (mvT hZ (W_ hw 101)) (mvT hZ (W_ hw 100)) (by decide) (backOf (W := 0) (rmeq0 l Z a0 hw [] s1 Ty1.heap n0 Zy1 ) hZ (W_ hw 102) (W_ hw 3) (by decide) (by decide)) qy6a qy6c (g := (mkF m 25 #[.val .null, rv by1, iv 3, iv 0, rv t1] [.null, (.ref s1)])) rfl (by rw [hml]; rfl) (Steps.refl _) (argsL := [.null]) (rest := []) (lenOf pd_19 rfl) rfl (lb rfl) (hb hby d16_25) (fun _ _ => ⟨rfl, ey4, (by decide : 1 + 0 ≤ _), (by decide : 3 + 0 ≤ _)⟩))
  obtain ⟨rfl, Nqy6, eqy6⟩ := hQy6
  have Ny6 := Fr.app Ny1 Nqy6
  refine Fin.step (sty6) ?_
  show Fin p e below s _ _ _ (Ty6.setTop (mkF m 28 #[.val .null, rv by1, iv 3, iv 0, rv t1] [(.int 0)]))
  refine Fin.step (fun _ k => Yo.ifYes Xy6.here hx (pc0 := 28) (pc' := 37) rfl (hb hby d16_28) rfl ((if0 _ _).trans (teq ((by decide) : ((0 : Int32) = (0 : Int32)))).1) (by decide) (by decide) (Yo.iinc Xy6.here hx (hb hby d16_37) rfl (l' := #[.val .null, rv by1, iv 3, iv 1, rv t1]) rfl k)) ?_
  show Fin p e below s _ _ _ (Ty6.setTop (mkF m 40 #[.val .null, rv by1, iv 3, iv 1, rv t1] []))
  refine Fin.step (fun _ k => Yo.goto Xy6.here hx (pc0 := 40) (pc' := 9) rfl (hb hby d16_40) (by decide) (by decide) (Yo.iloadN Xy6.here hx (hb hby d16_9) rfl (Yo.iloadN Xy6.here hx (hb hby d16_10) rfl (Yo.icmpNo Xy6.here hx (hb hby d16_11) rfl (tlt ((by decide) : ((1 : Int32) < (3 : Int32)))).2.1 (Yo.aloadN Xy6.here hx (hb hby d16_14) rfl rfl (Yo.iloadN Xy6.here hx (hb hby d16_15) rfl k)))))) ?_
  refine fald Xy6 hx hZ eqy6 fy1_0 rfl (j := 1) (v := (.ref t2)) ⟨by decide, by decide⟩ rfl (hb hby d16_16) ?_
  refine Fin.step (fun _ k => Yo.astore Xy6.here hx (hb hby d16_17) rfl rfl (l' := #[.val .null, rv by1, iv 3, iv 1, rv t2]) rfl (Yo.aload Xy6.here hx (hb hby d16_19) rfl rfl k)) ?_
  have ry9 := (HF_t2_modelName.keep Kcy1 nin0)
  refine fget Xy6 hx hZ hown (W_ hw 96) eqy6 ry9 (hb hby d16_21) fun Ty8 Xy8 ey8 => ?_
  refine Fin.step (fun _ k => Yo.aloadN Xy8.here hx (hb hby d16_24) rfl rfl k) ?_
  obtain ⟨cqy10, kqy10, qy10a, qy10b, qy10c⟩ := isOf hZ ey8 (HE_s2.keep Kcy1)
  obtain ⟨_, Ty10, Lcy10, Xy10, hQy10, sty10⟩ := pack (Xy8.virtualBack hx (y := n18) (z := n18) hown (mvT hZ (W_ hw 98)) (mvT hZ (W_ hw 99)) (notFace_of_selects (args := #[]) (mvT hZ (W_ hw 101))) (mvT hZ (W_ hw 101)) (mvT hZ (W_ hw 100)) (by decide) (backOf (W := 0) (rmeq0 l Z a0 hw [] s2 Ty1.heap n0 Zy1 ) hZ (W_ hw 102) (W_ hw 3) (by decide) (by decide)) qy10a qy10c (g := (mkF m 25 #[.val .null, rv by1, iv 3, iv 1, rv t2] [.null, (.ref s2)])) rfl (by rw [hml]; rfl) (Steps.refl _) (argsL := [.null]) (rest := []) (lenOf pd_19 rfl) rfl (lb rfl) (hb hby d16_25) (fun _ _ => ⟨rfl, ey8, (by decide : 1 + 0 ≤ _), (by decide : 3 + 0 ≤ _)⟩))
  obtain ⟨rfl, Nqy10, eqy10⟩ := hQy10
  have Ny10 := Fr.app Ny6 Nqy10
  refine Fin.step (sty10) ?_
  show Fin p e below s _ _ _ (Ty10.setTop (mkF m 28 #[.val .null, rv by1, iv 3, iv 1, rv t2] [(.int 0)]))
  refine Fin.step (fun _ k => Yo.ifYes Xy10.here hx (pc0 := 28) (pc' := 37) rfl (hb hby d16_28) rfl ((if0 _ _).trans (teq ((by decide) : ((0 : Int32) = (0 : Int32)))).1) (by decide) (by decide) (Yo.iinc Xy10.here hx (hb hby d16_37) rfl (l' := #[.val .null, rv by1, iv 3, iv 2, rv t2]) rfl k)) ?_
  show Fin p e below s _ _ _ (Ty10.setTop (mkF m 40 #[.val .null, rv by1, iv 3, iv 2, rv t2] []))
  refine Fin.step (fun _ k => Yo.goto Xy10.here hx (pc0 := 40) (pc' := 9) rfl (hb hby d16_40) (by decide) (by decide) (Yo.iloadN Xy10.here hx (hb hby d16_9) rfl (Yo.iloadN Xy10.here hx (hb hby d16_10) rfl (Yo.icmpNo Xy10.here hx (hb hby d16_11) rfl (tlt ((by decide) : ((2 : Int32) < (3 : Int32)))).2.1 (Yo.aloadN Xy10.here hx (hb hby d16_14) rfl rfl (Yo.iloadN Xy10.here hx (hb hby d16_15) rfl k)))))) ?_
  refine fald Xy10 hx hZ eqy10 fy1_0 rfl (j := 2) (v := (.ref t3)) ⟨by decide, by decide⟩ rfl (hb hby d16_16) ?_
  refine Fin.step (fun _ k => Yo.astore Xy10.here hx (hb hby d16_17) rfl rfl (l' := #[.val .null, rv by1, iv 3, iv 2, rv t3]) rfl (Yo.aload Xy10.here hx (hb hby d16_19) rfl rfl k)) ?_
  have ry13 := (HF_t3_modelName.keep Kcy1 nin0)
  refine fget Xy10 hx hZ hown (W_ hw 96) eqy10 ry13 (hb hby d16_21) fun Ty12 Xy12 ey12 => ?_
  refine Fin.step (fun _ k => Yo.aloadN Xy12.here hx (hb hby d16_24) rfl rfl k) ?_
  obtain ⟨cqy14, kqy14, qy14a, qy14b, qy14c⟩ := isOf hZ ey12 (HE_s3.keep Kcy1)
  obtain ⟨_, Ty14, Lcy14, Xy14, hQy14, sty14⟩ := pack (Xy12.virtualBack hx (y := n18) (z := n18) hown (mvT hZ (W_ hw 98)) (mvT hZ (W_ hw 99)) (notFace_of_selects (args := #[]) (mvT hZ (W_ hw 101))) (mvT hZ (W_ hw 101)) (mvT hZ (W_ hw 100)) (by decide) (backOf (W := 0) (rmeq0 l Z a0 hw [] s3 Ty1.heap n0 Zy1 ) hZ (W_ hw 102) (W_ hw 3) (by decide) (by decide)) qy14a qy14c (g := (mkF m 25 #[.val .null, rv by1, iv 3, iv 2, rv t3] [.null, (.ref s3)])) rfl (by rw [hml]; rfl) (Steps.refl _) (argsL := [.null]) (rest := []) (lenOf pd_19 rfl) rfl (lb rfl) (hb hby d16_25) (fun _ _ => ⟨rfl, ey12, (by decide : 1 + 0 ≤ _), (by decide : 3 + 0 ≤ _)⟩))
  obtain ⟨rfl, Nqy14, eqy14⟩ := hQy14
  have Ny14 := Fr.app Ny10 Nqy14
  refine Fin.step (sty14) ?_
  show Fin p e below s _ _ _ (Ty14.setTop (mkF m 28 #[.val .null, rv by1, iv 3, iv 2, rv t3] [(.int 0)]))
  refine Fin.step (fun _ k => Yo.ifYes Xy14.here hx (pc0 := 28) (pc' := 37) rfl (hb hby d16_28) rfl ((if0 _ _).trans (teq ((by decide) : ((0 : Int32) = (0 : Int32)))).1) (by decide) (by decide) (Yo.iinc Xy14.here hx (hb hby d16_37) rfl (l' := #[.val .null, rv by1, iv 3, iv 3, rv t3]) rfl k)) ?_
  show Fin p e below s _ _ _ (Ty14.setTop (mkF m 40 #[.val .null, rv by1, iv 3, iv 3, rv t3] []))
  refine Fin.step (fun _ k => Yo.goto Xy14.here hx (pc0 := 40) (pc' := 9) rfl (hb hby d16_40) (by decide) (by decide) (Yo.iloadN Xy14.here hx (hb hby d16_9) rfl (Yo.iloadN Xy14.here hx (hb hby d16_10) rfl (Yo.icmpYes Xy14.here hx (pc0 := 11) (pc' := 43) rfl (hb hby d16_11) rfl (flt ((by decide) : ¬ ((3 : Int32) < (3 : Int32)))).2.1 (by decide) (by decide) k)))) ?_
  have ry15 := (Sta_keep HS_java_util_Optional_EMPTY Ky1)
  obtain ⟨_, Ty16, Lcy16, Xy16, hQy16, sty16⟩ := packS (Jvm.LawKit.callS Xy14 hx (y := n24) hown (mvT hZ (W_ hw 130)) (mvT hZ (W_ hw 131)) (mvT hZ (W_ hw 109)) (mvT hZ (W_ hw 132)) (by decide) (backOf (W := 0) (rmoe l Z a0 hw [] eo Ty1.heap n0 Zy1 ry15) hZ (W_ hw 132) (W_ hw 109) (by decide) (by decide)) (g := (mkF m 43 #[.val .null, rv by1, iv 3, iv 3, rv t3] [])) rfl (by rw [hml]; rfl) (argsL := []) (rest := []) (lenOf pd_20 rfl) rfl (lb rfl) (hb hby d16_43) (fun _ _ => ⟨rfl, eqy14, (by decide : 1 + 0 ≤ _), (by decide : 3 + 0 ≤ _)⟩))
  obtain ⟨rfl, Nqy16, eqy16⟩ := hQy16
  have Ny16 := Fr.app Ny14 Nqy16
  refine Fin.step (sty16) ?_
  show Fin p e below s _ _ _ (Ty16.setTop (mkF m 46 #[.val .null, rv by1, iv 3, iv 3, rv t3] [(.ref eo)]))
  refine Fin.retR Xy16 hx hret rfl rfl hlk (hb hby d16_46) (by decide) (by decide) ?_
  show Qfm00 Z av cv t1 t2 t3 eo wc s1 v1 k1 pn1 ls1 s2 v2 k2 pn2 ls2 s3 v3 k3 pn3 ls3 h0 n0 _ Ty16.heap _
  rw [eqy16]
  exact ⟨rfl, Ny16, Ky1⟩
theorem ef_rmfmU0 (m : MethodId) (x0 : Addr) : entryFrame m #[(.ref x0)] 5 = mkF m 0 #[.val (.ref x0), .unset, .unset, .unset, .unset] [] := by first | (simp [entryFrame, mkF, argsToLocals, Value.category]; done) | rfl
abbrev R_rmfmU0 : Room := ({ frames := 2, cells := 1, slots := 3, locals := 25 } : Room)
def QfmU0 (Z : State) (a1 av : Addr) (cv : Cell) (t1 t2 t3 eo : Addr) (wc : Int32) (s1 v1 : Addr) (k1 : ClassId) (pn1 : Int32) (ls1 : List Value) (s2 v2 : Addr) (k2 : ClassId) (pn2 : Int32) (ls2 : List Value) (s3 v3 : Addr) (k3 : ClassId) (pn3 : Int32) (ls3 : List Value) (h0 : Heap) (n0 : Nat) (v : Option Value) (h : Heap) (L : List Loc) : Prop := v = some (.ref eo) ∧ Fr n0 L ∧ Keep h0 h []
set_option maxRecDepth 65536 in
set_option maxHeartbeats 40000000 in
theorem rmfmU0 (l : Launch) (Z : State) (a0 : Array Value) (hw : ∀ d ∈ tables_1, d.before a0 Z = true) (ws : List Jvm.Cond) (a1 av : Addr) (cv : Cell) (t1 t2 t3 eo : Addr) (wc : Int32) (s1 v1 : Addr) (k1 : ClassId) (pn1 : Int32) (ls1 : List Value) (s2 v2 : Addr) (k2 : ClassId) (pn2 : Int32) (ls2 : List Value) (s3 v3 : Addr) (k3 : ClassId) (pn3 : Int32) (ls3 : List Value) (h0 : Heap) (n0 : Nat) (Z0 : n0 ≤ h0.size) (HS_com_example_model_for_reads_modelforreads_model_FieldType__VALUES : Sta Z h0 q0 "$VALUES" q2 (.ref av)) (HS_java_util_Optional_EMPTY : Sta Z h0 "java/util/Optional" "EMPTY" "Ljava/util/Optional;" (.ref eo)) (HS_java_lang_String_COMPACT_STRINGS : Sta Z h0 q3 q7 "Z" (.int wc)) (HF_t1_modelName : Fld Z h0 t1 q0 "modelName" "Ljava/lang/String;" (.ref s1)) (HE_s1 : Exa Z h0 s1 q3) (HF_s1_coder : Fld Z h0 s1 q3 "coder" "B" (.int 0)) (HF_s1_value : Fld Z h0 s1 q3 "value" "[B" (.ref v1)) (HV_v1 : Arv Z h0 v1 k1 .byte pn1 ls1 (.int 0)) (HF_t2_modelName : Fld Z h0 t2 q0 "modelName" "Ljava/lang/String;" (.ref s2)) (HE_s2 : Exa Z h0 s2 q3) (HF_s2_coder : Fld Z h0 s2 q3 "coder" "B" (.int 0)) (HF_s2_value : Fld Z h0 s2 q3 "value" "[B" (.ref v2)) (HV_v2 : Arv Z h0 v2 k2 .byte pn2 ls2 (.int 0)) (HF_t3_modelName : Fld Z h0 t3 q0 "modelName" "Ljava/lang/String;" (.ref s3)) (HE_s3 : Exa Z h0 s3 q3) (HF_s3_coder : Fld Z h0 s3 q3 "coder" "B" (.int 0)) (HF_s3_value : Fld Z h0 s3 q3 "value" "[B" (.ref v3)) (HV_v3 : Arv Z h0 v3 k3 .byte pn3 ls3 (.int 0)) (HE_a1 : Exa Z h0 a1 q3) (HF_a1_coder : Fld Z h0 a1 q3 "coder" "B" (.int 1)) (hcv : Arr Z h0 av cv (.object "com/example/model_for_reads/modelforreads/model/FieldType") ∧ Exa Z h0 av "[Lcom/example/model_for_reads/modelforreads/model/FieldType;" ∧ FitC Z cv ∧ cv.slots = ([(.ref t1), (.ref t2), (.ref t3)] : List Value).toArray) (hwc : ¬ wc = 0) (hn_s1_a1 : s1 ≠ a1) (hn_s2_a1 : s2 ≠ a1) (hn_s3_a1 : s3 ≠ a1) :
    Met1 l n16 prog_7_method_5_code 5 (some (.object "java/util/Optional")) ws R_rmfmU0 #[(.ref a1)] Z h0 (QfmU0 Z a1 av cv t1 t2 t3 eo wc s1 v1 k1 pn1 ls1 s2 v2 k2 pn2 ls2 s3 v3 k3 pn3 ls3 h0 n0) := by
  refine Met1.enter (plainFor_of_name pn_16) (fun m => ef_rmfmU0 m a1) fun p e s m below meth c s₁ hx hby hlk hret hml hown hnm hZ X0 e0 => ?_
  have N0 := Fr.nil n0
  have K0 : Keep h0 h0 [] := Keep.refl h0 _
  show Fin p e below s _ _ _ (s₁.setTop (mkF m 0 #[rv a1, u_, u_, u_, u_] []))
  obtain ⟨_, Ty1, Lcy1, Xy1, hQy1, sty1⟩ := packS (Jvm.LawKit.callS X0 hx (y := n17) hown (mvT hZ (W_ hw 79)) (mvT hZ (W_ hw 80)) (mvT hZ (W_ hw 11)) (mvT hZ (W_ hw 81)) (by decide) (backOf (W := 0) (rmva l Z a0 hw [] av cv t1 t2 t3 h0 n0 Z0 HS_com_example_model_for_reads_modelforreads_model_FieldType__VALUES hcv) hZ (W_ hw 81) (W_ hw 11) (by decide) (by decide)) (g := (mkF m 0 #[rv a1, u_, u_, u_, u_] [])) rfl (by rw [hml]; rfl) (argsL := []) (rest := []) (lenOf pd_18 rfl) rfl (lb rfl) (hb hby d16_0) (fun _ _ => ⟨rfl, e0, (by decide : 0 + 1 ≤ _), (by decide : 0 + 3 ≤ _)⟩))
  obtain ⟨kv_y1, by1, rfl, bzy1, Nqy1, Kcy1, fy1_0⟩ := hQy1
  have Ny1 := Fr.app N0 Nqy1
  have gzy1 : n0 ≤ by1 := Nat.le_trans Z0 bzy1
  have szy1 : h0.size ≤ by1 := Nat.le_trans K0.1 bzy1
  have Zy1 := Nat.le_trans Z0 Kcy1.1
  have Ky1 := K0.trans Kcy1 all0
  refine Fin.step (sty1) ?_
  show Fin p e below s _ _ _ (Ty1.setTop (mkF m 3 #[rv a1, u_, u_, u_, u_] [(.ref by1)]))
  refine Fin.step (fun _ k => Yo.astoreN Xy1.here hx (hb hby d16_3) rfl rfl (l' := #[rv a1, rv by1, u_, u_, u_]) rfl (Yo.aloadN Xy1.here hx (hb hby d16_4) rfl rfl k)) ?_
  have voy2 := fy1_0
  obtain ⟨cly2, Ary2, qay2, say2, nay2, hay2, gay2⟩ := voy2
  refine Fin.step (Xy1.arraylength hx Ary2.1 (State.isArrayOf_alike hZ.alike Ary2.2.1) (g := (mkF m 5 #[rv a1, rv by1, u_, u_, u_] [(.ref by1)])) rfl rfl (hb hby d16_5)) ?_
  rw [len_of say2 nay2]
  show Fin p e below s _ _ _ (Ty1.setTop (mkF m 6 #[rv a1, rv by1, u_, u_, u_] [(.int 3)]))
  refine Fin.step (fun _ k => Yo.istoreN Xy1.here hx (hb hby d16_6) rfl (l' := #[rv a1, rv by1, iv 3, u_, u_]) rfl (Yo.iconst Xy1.here hx (hb hby d16_7) (Yo.istoreN Xy1.here hx (hb hby d16_8) rfl (l' := #[rv a1, rv by1, iv 3, iv 0, u_]) rfl (Yo.iloadN Xy1.here hx (hb hby d16_9) rfl (Yo.iloadN Xy1.here hx (hb hby d16_10) rfl (Yo.icmpNo Xy1.here hx (hb hby d16_11) rfl (tlt ((by decide) : ((0 : Int32) < (3 : Int32)))).2.1 (Yo.aloadN Xy1.here hx (hb hby d16_14) rfl rfl (Yo.iloadN Xy1.here hx (hb hby d16_15) rfl k)))))))) ?_
  refine fald Xy1 hx hZ rfl fy1_0 rfl (j := 0) (v := (.ref t1)) ⟨by decide, by decide⟩ rfl (hb hby d16_16) ?_
  refine Fin.step (fun _ k => Yo.astore Xy1.here hx (hb hby d16_17) rfl rfl (l' := #[rv a1, rv by1, iv 3, iv 0, rv t1]) rfl (Yo.aload Xy1.here hx (hb hby d16_19) rfl rfl k)) ?_
  have ry5 := (HF_t1_modelName.keep Kcy1 nin0)
  refine fget Xy1 hx hZ hown (W_ hw 96) rfl ry5 (hb hby d16_21) fun Ty4 Xy4 ey4 => ?_
  refine Fin.step (fun _ k => Yo.aloadN Xy4.here hx (hb hby d16_24) rfl rfl k) ?_
  have ry6 := (Sta_keep HS_java_lang_String_COMPACT_STRINGS Ky1)
  obtain ⟨cqy7, kqy7, qy7a, qy7b, qy7c⟩ := isOf hZ ey4 (HE_s1.keep Kcy1)
  obtain ⟨_, Ty7, Lcy7, Xy7, hQy7, sty7⟩ := pack (Xy4.virtualBack hx (y := n18) (z := n18) hown (mvT hZ (W_ hw 98)) (mvT hZ (W_ hw 99)) (notFace_of_selects (args := #[]) (mvT hZ (W_ hw 101))) (mvT hZ (W_ hw 101)) (mvT hZ (W_ hw 100)) (by decide) (backOf (W := 0) (rmeqU l Z a0 hw [] s1 a1 wc Ty1.heap n0 Zy1 (HF_s1_coder.keep Kcy1 nin0) (HE_a1.keep Kcy1) (HF_a1_coder.keep Kcy1 nin0) ry6 hwc hn_s1_a1) hZ (W_ hw 102) (W_ hw 3) (by decide) (by decide)) qy7a qy7c (g := (mkF m 25 #[rv a1, rv by1, iv 3, iv 0, rv t1] [(.ref a1), (.ref s1)])) rfl (by rw [hml]; rfl) (Steps.refl _) (argsL := [(.ref a1)]) (rest := []) (lenOf pd_19 rfl) rfl (lb rfl) (hb hby d16_25) (fun _ _ => ⟨rfl, ey4, (by decide : 1 + 0 ≤ _), (by decide : 3 + 0 ≤ _)⟩))
  obtain ⟨rfl, Nqy7, eqy7⟩ := hQy7
  have Ny7 := Fr.app Ny1 Nqy7
  refine Fin.step (sty7) ?_
  show Fin p e below s _ _ _ (Ty7.setTop (mkF m 28 #[rv a1, rv by1, iv 3, iv 0, rv t1] [(.int 0)]))
  refine Fin.step (fun _ k => Yo.ifYes Xy7.here hx (pc0 := 28) (pc' := 37) rfl (hb hby d16_28) rfl ((if0 _ _).trans (teq ((by decide) : ((0 : Int32) = (0 : Int32)))).1) (by decide) (by decide) (Yo.iinc Xy7.here hx (hb hby d16_37) rfl (l' := #[rv a1, rv by1, iv 3, iv 1, rv t1]) rfl k)) ?_
  show Fin p e below s _ _ _ (Ty7.setTop (mkF m 40 #[rv a1, rv by1, iv 3, iv 1, rv t1] []))
  refine Fin.step (fun _ k => Yo.goto Xy7.here hx (pc0 := 40) (pc' := 9) rfl (hb hby d16_40) (by decide) (by decide) (Yo.iloadN Xy7.here hx (hb hby d16_9) rfl (Yo.iloadN Xy7.here hx (hb hby d16_10) rfl (Yo.icmpNo Xy7.here hx (hb hby d16_11) rfl (tlt ((by decide) : ((1 : Int32) < (3 : Int32)))).2.1 (Yo.aloadN Xy7.here hx (hb hby d16_14) rfl rfl (Yo.iloadN Xy7.here hx (hb hby d16_15) rfl k)))))) ?_
  refine fald Xy7 hx hZ eqy7 fy1_0 rfl (j := 1) (v := (.ref t2)) ⟨by decide, by decide⟩ rfl (hb hby d16_16) ?_
  refine Fin.step (fun _ k => Yo.astore Xy7.here hx (hb hby d16_17) rfl rfl (l' := #[rv a1, rv by1, iv 3, iv 1, rv t2]) rfl (Yo.aload Xy7.here hx (hb hby d16_19) rfl rfl k)) ?_
  have ry10 := (HF_t2_modelName.keep Kcy1 nin0)
  refine fget Xy7 hx hZ hown (W_ hw 96) eqy7 ry10 (hb hby d16_21) fun Ty9 Xy9 ey9 => ?_
  refine Fin.step (fun _ k => Yo.aloadN Xy9.here hx (hb hby d16_24) rfl rfl k) ?_
  obtain ⟨cqy11, kqy11, qy11a, qy11b, qy11c⟩ := isOf hZ ey9 (HE_s2.keep Kcy1)
  obtain ⟨_, Ty11, Lcy11, Xy11, hQy11, sty11⟩ := pack (Xy9.virtualBack hx (y := n18) (z := n18) hown (mvT hZ (W_ hw 98)) (mvT hZ (W_ hw 99)) (notFace_of_selects (args := #[]) (mvT hZ (W_ hw 101))) (mvT hZ (W_ hw 101)) (mvT hZ (W_ hw 100)) (by decide) (backOf (W := 0) (rmeqU l Z a0 hw [] s2 a1 wc Ty1.heap n0 Zy1 (HF_s2_coder.keep Kcy1 nin0) (HE_a1.keep Kcy1) (HF_a1_coder.keep Kcy1 nin0) ry6 hwc hn_s2_a1) hZ (W_ hw 102) (W_ hw 3) (by decide) (by decide)) qy11a qy11c (g := (mkF m 25 #[rv a1, rv by1, iv 3, iv 1, rv t2] [(.ref a1), (.ref s2)])) rfl (by rw [hml]; rfl) (Steps.refl _) (argsL := [(.ref a1)]) (rest := []) (lenOf pd_19 rfl) rfl (lb rfl) (hb hby d16_25) (fun _ _ => ⟨rfl, ey9, (by decide : 1 + 0 ≤ _), (by decide : 3 + 0 ≤ _)⟩))
  obtain ⟨rfl, Nqy11, eqy11⟩ := hQy11
  have Ny11 := Fr.app Ny7 Nqy11
  refine Fin.step (sty11) ?_
  show Fin p e below s _ _ _ (Ty11.setTop (mkF m 28 #[rv a1, rv by1, iv 3, iv 1, rv t2] [(.int 0)]))
  refine Fin.step (fun _ k => Yo.ifYes Xy11.here hx (pc0 := 28) (pc' := 37) rfl (hb hby d16_28) rfl ((if0 _ _).trans (teq ((by decide) : ((0 : Int32) = (0 : Int32)))).1) (by decide) (by decide) (Yo.iinc Xy11.here hx (hb hby d16_37) rfl (l' := #[rv a1, rv by1, iv 3, iv 2, rv t2]) rfl k)) ?_
  show Fin p e below s _ _ _ (Ty11.setTop (mkF m 40 #[rv a1, rv by1, iv 3, iv 2, rv t2] []))
  refine Fin.step (fun _ k => Yo.goto Xy11.here hx (pc0 := 40) (pc' := 9) rfl (hb hby d16_40) (by decide) (by decide) (Yo.iloadN Xy11.here hx (hb hby d16_9) rfl (Yo.iloadN Xy11.here hx (hb hby d16_10) rfl (Yo.icmpNo Xy11.here hx (hb hby d16_11) rfl (tlt ((by decide) : ((2 : Int32) < (3 : Int32)))).2.1 (Yo.aloadN Xy11.here hx (hb hby d16_14) rfl rfl (Yo.iloadN Xy11.here hx (hb hby d16_15) rfl k)))))) ?_
  refine fald Xy11 hx hZ eqy11 fy1_0 rfl (j := 2) (v := (.ref t3)) ⟨by decide, by decide⟩ rfl (hb hby d16_16) ?_
  refine Fin.step (fun _ k => Yo.astore Xy11.here hx (hb hby d16_17) rfl rfl (l' := #[rv a1, rv by1, iv 3, iv 2, rv t3]) rfl (Yo.aload Xy11.here hx (hb hby d16_19) rfl rfl k)) ?_
  have ry14 := (HF_t3_modelName.keep Kcy1 nin0)
  refine fget Xy11 hx hZ hown (W_ hw 96) eqy11 ry14 (hb hby d16_21) fun Ty13 Xy13 ey13 => ?_
  refine Fin.step (fun _ k => Yo.aloadN Xy13.here hx (hb hby d16_24) rfl rfl k) ?_
  obtain ⟨cqy15, kqy15, qy15a, qy15b, qy15c⟩ := isOf hZ ey13 (HE_s3.keep Kcy1)
  obtain ⟨_, Ty15, Lcy15, Xy15, hQy15, sty15⟩ := pack (Xy13.virtualBack hx (y := n18) (z := n18) hown (mvT hZ (W_ hw 98)) (mvT hZ (W_ hw 99)) (notFace_of_selects (args := #[]) (mvT hZ (W_ hw 101))) (mvT hZ (W_ hw 101)) (mvT hZ (W_ hw 100)) (by decide) (backOf (W := 0) (rmeqU l Z a0 hw [] s3 a1 wc Ty1.heap n0 Zy1 (HF_s3_coder.keep Kcy1 nin0) (HE_a1.keep Kcy1) (HF_a1_coder.keep Kcy1 nin0) ry6 hwc hn_s3_a1) hZ (W_ hw 102) (W_ hw 3) (by decide) (by decide)) qy15a qy15c (g := (mkF m 25 #[rv a1, rv by1, iv 3, iv 2, rv t3] [(.ref a1), (.ref s3)])) rfl (by rw [hml]; rfl) (Steps.refl _) (argsL := [(.ref a1)]) (rest := []) (lenOf pd_19 rfl) rfl (lb rfl) (hb hby d16_25) (fun _ _ => ⟨rfl, ey13, (by decide : 1 + 0 ≤ _), (by decide : 3 + 0 ≤ _)⟩))
  obtain ⟨rfl, Nqy15, eqy15⟩ := hQy15
  have Ny15 := Fr.app Ny11 Nqy15
  refine Fin.step (sty15) ?_
  show Fin p e below s _ _ _ (Ty15.setTop (mkF m 28 #[rv a1, rv by1, iv 3, iv 2, rv t3] [(.int 0)]))
  refine Fin.step (fun _ k => Yo.ifYes Xy15.here hx (pc0 := 28) (pc' := 37) rfl (hb hby d16_28) rfl ((if0 _ _).trans (teq ((by decide) : ((0 : Int32) = (0 : Int32)))).1) (by decide) (by decide) (Yo.iinc Xy15.here hx (hb hby d16_37) rfl (l' := #[rv a1, rv by1, iv 3, iv 3, rv t3]) rfl k)) ?_
  show Fin p e below s _ _ _ (Ty15.setTop (mkF m 40 #[rv a1, rv by1, iv 3, iv 3, rv t3] []))
  refine Fin.step (fun _ k => Yo.goto Xy15.here hx (pc0 := 40) (pc' := 9) rfl (hb hby d16_40) (by decide) (by decide) (Yo.iloadN Xy15.here hx (hb hby d16_9) rfl (Yo.iloadN Xy15.here hx (hb hby d16_10) rfl (Yo.icmpYes Xy15.here hx (pc0 := 11) (pc' := 43) rfl (hb hby d16_11) rfl (flt ((by decide) : ¬ ((3 : Int32) < (3 : Int32)))).2.1 (by decide) (by decide) k)))) ?_
  have ry16 := (Sta_keep HS_java_util_Optional_EMPTY Ky1)
  obtain ⟨_, Ty17, Lcy17, Xy17, hQy17, sty17⟩ := packS (Jvm.LawKit.callS Xy15 hx (y := n24) hown (mvT hZ (W_ hw 130)) (mvT hZ (W_ hw 131)) (mvT hZ (W_ hw 109)) (mvT hZ (W_ hw 132)) (by decide) (backOf (W := 0) (rmoe l Z a0 hw [] eo Ty1.heap n0 Zy1 ry16) hZ (W_ hw 132) (W_ hw 109) (by decide) (by decide)) (g := (mkF m 43 #[rv a1, rv by1, iv 3, iv 3, rv t3] [])) rfl (by rw [hml]; rfl) (argsL := []) (rest := []) (lenOf pd_20 rfl) rfl (lb rfl) (hb hby d16_43) (fun _ _ => ⟨rfl, eqy15, (by decide : 1 + 0 ≤ _), (by decide : 3 + 0 ≤ _)⟩))
  obtain ⟨rfl, Nqy17, eqy17⟩ := hQy17
  have Ny17 := Fr.app Ny15 Nqy17
  refine Fin.step (sty17) ?_
  show Fin p e below s _ _ _ (Ty17.setTop (mkF m 46 #[rv a1, rv by1, iv 3, iv 3, rv t3] [(.ref eo)]))
  refine Fin.retR Xy17 hx hret rfl rfl hlk (hb hby d16_46) (by decide) (by decide) ?_
  show QfmU0 Z a1 av cv t1 t2 t3 eo wc s1 v1 k1 pn1 ls1 s2 v2 k2 pn2 ls2 s3 v3 k3 pn3 ls3 h0 n0 _ Ty17.heap _
  rw [eqy17]
  exact ⟨rfl, Ny17, Ky1⟩
theorem ef_rmfmL0 (m : MethodId) (x0 : Addr) : entryFrame m #[(.ref x0)] 5 = mkF m 0 #[.val (.ref x0), .unset, .unset, .unset, .unset] [] := by first | (simp [entryFrame, mkF, argsToLocals, Value.category]; done) | rfl
abbrev R_rmfmL0 : Room := ({ frames := 2, cells := 1, slots := 3, locals := 28 } : Room)
def QfmL0 (Z : State) (a1 av : Addr) (cv : Cell) (t1 t2 t3 eo : Addr) (wc : Int32) (s1 v1 : Addr) (k1 : ClassId) (pn1 : Int32) (ls1 : List Value) (s2 v2 : Addr) (k2 : ClassId) (pn2 : Int32) (ls2 : List Value) (s3 v3 : Addr) (k3 : ClassId) (pn3 : Int32) (ls3 : List Value) (nb : Addr) (kn : ClassId) (pm : Int32) (wl : List Value) (h0 : Heap) (n0 : Nat) (v : Option Value) (h : Heap) (L : List Loc) : Prop := v = some (.ref eo) ∧ Fr n0 L ∧ Keep h0 h []
set_option maxRecDepth 65536 in
set_option maxHeartbeats 40000000 in
theorem rmfmL0 (l : Launch) (Z : State) (a0 : Array Value) (hw : ∀ d ∈ tables_1, d.before a0 Z = true) (ws : List Jvm.Cond) (a1 av : Addr) (cv : Cell) (t1 t2 t3 eo : Addr) (wc : Int32) (s1 v1 : Addr) (k1 : ClassId) (pn1 : Int32) (ls1 : List Value) (s2 v2 : Addr) (k2 : ClassId) (pn2 : Int32) (ls2 : List Value) (s3 v3 : Addr) (k3 : ClassId) (pn3 : Int32) (ls3 : List Value) (nb : Addr) (kn : ClassId) (pm : Int32) (wl : List Value) (h0 : Heap) (n0 : Nat) (Z0 : n0 ≤ h0.size) (HS_com_example_model_for_reads_modelforreads_model_FieldType__VALUES : Sta Z h0 q0 "$VALUES" q2 (.ref av)) (HS_java_util_Optional_EMPTY : Sta Z h0 "java/util/Optional" "EMPTY" "Ljava/util/Optional;" (.ref eo)) (HS_java_lang_String_COMPACT_STRINGS : Sta Z h0 q3 q7 "Z" (.int wc)) (HF_t1_modelName : Fld Z h0 t1 q0 "modelName" "Ljava/lang/String;" (.ref s1)) (HE_s1 : Exa Z h0 s1 q3) (HF_s1_coder : Fld Z h0 s1 q3 "coder" "B" (.int 0)) (HF_s1_value : Fld Z h0 s1 q3 "value" "[B" (.ref v1)) (HV_v1 : Arv Z h0 v1 k1 .byte pn1 ls1 (.int 0)) (HF_t2_modelName : Fld Z h0 t2 q0 "modelName" "Ljava/lang/String;" (.ref s2)) (HE_s2 : Exa Z h0 s2 q3) (HF_s2_coder : Fld Z h0 s2 q3 "coder" "B" (.int 0)) (HF_s2_value : Fld Z h0 s2 q3 "value" "[B" (.ref v2)) (HV_v2 : Arv Z h0 v2 k2 .byte pn2 ls2 (.int 0)) (HF_t3_modelName : Fld Z h0 t3 q0 "modelName" "Ljava/lang/String;" (.ref s3)) (HE_s3 : Exa Z h0 s3 q3) (HF_s3_coder : Fld Z h0 s3 q3 "coder" "B" (.int 0)) (HF_s3_value : Fld Z h0 s3 q3 "value" "[B" (.ref v3)) (HV_v3 : Arv Z h0 v3 k3 .byte pn3 ls3 (.int 0)) (HE_a1 : Exa Z h0 a1 q3) (HF_a1_coder : Fld Z h0 a1 q3 "coder" "B" (.int 0)) (HF_a1_value : Fld Z h0 a1 q3 "value" "[B" (.ref nb)) (HV_nb : Arv Z h0 nb kn .byte pm wl (.int 0)) (hcv : Arr Z h0 av cv (.object "com/example/model_for_reads/modelforreads/model/FieldType") ∧ Exa Z h0 av "[Lcom/example/model_for_reads/modelforreads/model/FieldType;" ∧ FitC Z cv ∧ cv.slots = ([(.ref t1), (.ref t2), (.ref t3)] : List Value).toArray) (hwc : ¬ wc = 0) (hwl : own_chs wl) (hp1 : 0 ≤ pn1.toInt ∧ pn1.toInt ≤ 8) (hp2 : 0 ≤ pn2.toInt ∧ pn2.toInt ≤ 8) (hp3 : 0 ≤ pn3.toInt ∧ pn3.toInt ≤ 8) (hs1 : own_chs ls1) (hs2 : own_chs ls2) (hs3 : own_chs ls3) (he1 : own_eqb pn1 pm ls1 wl = 0) (he2 : own_eqb pn2 pm ls2 wl = 0) (he3 : own_eqb pn3 pm ls3 wl = 0) (hn_s1_a1 : s1 ≠ a1) (hn_s2_a1 : s2 ≠ a1) (hn_s3_a1 : s3 ≠ a1) :
    Met1 l n16 prog_7_method_5_code 5 (some (.object "java/util/Optional")) ws R_rmfmL0 #[(.ref a1)] Z h0 (QfmL0 Z a1 av cv t1 t2 t3 eo wc s1 v1 k1 pn1 ls1 s2 v2 k2 pn2 ls2 s3 v3 k3 pn3 ls3 nb kn pm wl h0 n0) := by
  refine Met1.enter (plainFor_of_name pn_16) (fun m => ef_rmfmL0 m a1) fun p e s m below meth c s₁ hx hby hlk hret hml hown hnm hZ X0 e0 => ?_
  have N0 := Fr.nil n0
  have K0 : Keep h0 h0 [] := Keep.refl h0 _
  show Fin p e below s _ _ _ (s₁.setTop (mkF m 0 #[rv a1, u_, u_, u_, u_] []))
  obtain ⟨_, Ty1, Lcy1, Xy1, hQy1, sty1⟩ := packS (Jvm.LawKit.callS X0 hx (y := n17) hown (mvT hZ (W_ hw 79)) (mvT hZ (W_ hw 80)) (mvT hZ (W_ hw 11)) (mvT hZ (W_ hw 81)) (by decide) (backOf (W := 0) (rmva l Z a0 hw [] av cv t1 t2 t3 h0 n0 Z0 HS_com_example_model_for_reads_modelforreads_model_FieldType__VALUES hcv) hZ (W_ hw 81) (W_ hw 11) (by decide) (by decide)) (g := (mkF m 0 #[rv a1, u_, u_, u_, u_] [])) rfl (by rw [hml]; rfl) (argsL := []) (rest := []) (lenOf pd_18 rfl) rfl (lb rfl) (hb hby d16_0) (fun _ _ => ⟨rfl, e0, (by decide : 0 + 1 ≤ _), (by decide : 0 + 3 ≤ _)⟩))
  obtain ⟨kv_y1, by1, rfl, bzy1, Nqy1, Kcy1, fy1_0⟩ := hQy1
  have Ny1 := Fr.app N0 Nqy1
  have gzy1 : n0 ≤ by1 := Nat.le_trans Z0 bzy1
  have szy1 : h0.size ≤ by1 := Nat.le_trans K0.1 bzy1
  have Zy1 := Nat.le_trans Z0 Kcy1.1
  have Ky1 := K0.trans Kcy1 all0
  refine Fin.step (sty1) ?_
  show Fin p e below s _ _ _ (Ty1.setTop (mkF m 3 #[rv a1, u_, u_, u_, u_] [(.ref by1)]))
  refine Fin.step (fun _ k => Yo.astoreN Xy1.here hx (hb hby d16_3) rfl rfl (l' := #[rv a1, rv by1, u_, u_, u_]) rfl (Yo.aloadN Xy1.here hx (hb hby d16_4) rfl rfl k)) ?_
  have voy2 := fy1_0
  obtain ⟨cly2, Ary2, qay2, say2, nay2, hay2, gay2⟩ := voy2
  refine Fin.step (Xy1.arraylength hx Ary2.1 (State.isArrayOf_alike hZ.alike Ary2.2.1) (g := (mkF m 5 #[rv a1, rv by1, u_, u_, u_] [(.ref by1)])) rfl rfl (hb hby d16_5)) ?_
  rw [len_of say2 nay2]
  show Fin p e below s _ _ _ (Ty1.setTop (mkF m 6 #[rv a1, rv by1, u_, u_, u_] [(.int 3)]))
  refine Fin.step (fun _ k => Yo.istoreN Xy1.here hx (hb hby d16_6) rfl (l' := #[rv a1, rv by1, iv 3, u_, u_]) rfl (Yo.iconst Xy1.here hx (hb hby d16_7) (Yo.istoreN Xy1.here hx (hb hby d16_8) rfl (l' := #[rv a1, rv by1, iv 3, iv 0, u_]) rfl (Yo.iloadN Xy1.here hx (hb hby d16_9) rfl (Yo.iloadN Xy1.here hx (hb hby d16_10) rfl (Yo.icmpNo Xy1.here hx (hb hby d16_11) rfl (tlt ((by decide) : ((0 : Int32) < (3 : Int32)))).2.1 (Yo.aloadN Xy1.here hx (hb hby d16_14) rfl rfl (Yo.iloadN Xy1.here hx (hb hby d16_15) rfl k)))))))) ?_
  refine fald Xy1 hx hZ rfl fy1_0 rfl (j := 0) (v := (.ref t1)) ⟨by decide, by decide⟩ rfl (hb hby d16_16) ?_
  refine Fin.step (fun _ k => Yo.astore Xy1.here hx (hb hby d16_17) rfl rfl (l' := #[rv a1, rv by1, iv 3, iv 0, rv t1]) rfl (Yo.aload Xy1.here hx (hb hby d16_19) rfl rfl k)) ?_
  have ry5 := (HF_t1_modelName.keep Kcy1 nin0)
  refine fget Xy1 hx hZ hown (W_ hw 96) rfl ry5 (hb hby d16_21) fun Ty4 Xy4 ey4 => ?_
  refine Fin.step (fun _ k => Yo.aloadN Xy4.here hx (hb hby d16_24) rfl rfl k) ?_
  have ry6 := (Sta_keep HS_java_lang_String_COMPACT_STRINGS Ky1)
  obtain ⟨cqy7, kqy7, qy7a, qy7b, qy7c⟩ := isOf hZ ey4 (HE_s1.keep Kcy1)
  obtain ⟨_, Ty7, Lcy7, Xy7, hQy7, sty7⟩ := pack (Xy4.virtualBack hx (y := n18) (z := n18) hown (mvT hZ (W_ hw 98)) (mvT hZ (W_ hw 99)) (notFace_of_selects (args := #[]) (mvT hZ (W_ hw 101))) (mvT hZ (W_ hw 101)) (mvT hZ (W_ hw 100)) (by decide) (backOf (W := 0) (rmeqL l Z a0 hw [] s1 a1 v1 k1 pn1 ls1 nb kn pm wl wc Ty1.heap n0 Zy1 (HE_s1.keep Kcy1) (HF_s1_coder.keep Kcy1 nin0) (HF_s1_value.keep Kcy1 nin0) (HV_v1.keep Kcy1 nin0) (HE_a1.keep Kcy1) (HF_a1_coder.keep Kcy1 nin0) (HF_a1_value.keep Kcy1 nin0) (HV_nb.keep Kcy1 nin0) ry6 hwc hp1 hs1 hwl hn_s1_a1) hZ (W_ hw 102) (W_ hw 3) (by decide) (by decide)) qy7a qy7c (g := (mkF m 25 #[rv a1, rv by1, iv 3, iv 0, rv t1] [(.ref a1), (.ref s1)])) rfl (by rw [hml]; rfl) (Steps.refl _) (argsL := [(.ref a1)]) (rest := []) (lenOf pd_19 rfl) rfl (lb rfl) (hb hby d16_25) (fun _ _ => ⟨rfl, ey4, (by decide : 1 + 0 ≤ _), (by decide : 3 + 0 ≤ _)⟩))
  obtain ⟨rfl, Nqy7, eqy7⟩ := hQy7
  have Ny7 := Fr.app Ny1 Nqy7
  refine Fin.step (sty7) ?_
  show Fin p e below s _ _ _ (Ty7.setTop (mkF m 28 #[rv a1, rv by1, iv 3, iv 0, rv t1] [(.int (own_eqb pn1 pm ls1 wl))]))
  refine Fin.step (fun _ k => Yo.ifYes Xy7.here hx (pc0 := 28) (pc' := 37) rfl (hb hby d16_28) rfl ((if0 _ _).trans (teq (he1 : ((own_eqb pn1 pm ls1 wl) = (0 : Int32)))).1) (by decide) (by decide) (Yo.iinc Xy7.here hx (hb hby d16_37) rfl (l' := #[rv a1, rv by1, iv 3, iv 1, rv t1]) rfl k)) ?_
  show Fin p e below s _ _ _ (Ty7.setTop (mkF m 40 #[rv a1, rv by1, iv 3, iv 1, rv t1] []))
  refine Fin.step (fun _ k => Yo.goto Xy7.here hx (pc0 := 40) (pc' := 9) rfl (hb hby d16_40) (by decide) (by decide) (Yo.iloadN Xy7.here hx (hb hby d16_9) rfl (Yo.iloadN Xy7.here hx (hb hby d16_10) rfl (Yo.icmpNo Xy7.here hx (hb hby d16_11) rfl (tlt ((by decide) : ((1 : Int32) < (3 : Int32)))).2.1 (Yo.aloadN Xy7.here hx (hb hby d16_14) rfl rfl (Yo.iloadN Xy7.here hx (hb hby d16_15) rfl k)))))) ?_
  refine fald Xy7 hx hZ eqy7 fy1_0 rfl (j := 1) (v := (.ref t2)) ⟨by decide, by decide⟩ rfl (hb hby d16_16) ?_
  refine Fin.step (fun _ k => Yo.astore Xy7.here hx (hb hby d16_17) rfl rfl (l' := #[rv a1, rv by1, iv 3, iv 1, rv t2]) rfl (Yo.aload Xy7.here hx (hb hby d16_19) rfl rfl k)) ?_
  have ry10 := (HF_t2_modelName.keep Kcy1 nin0)
  refine fget Xy7 hx hZ hown (W_ hw 96) eqy7 ry10 (hb hby d16_21) fun Ty9 Xy9 ey9 => ?_
  refine Fin.step (fun _ k => Yo.aloadN Xy9.here hx (hb hby d16_24) rfl rfl k) ?_
  obtain ⟨cqy11, kqy11, qy11a, qy11b, qy11c⟩ := isOf hZ ey9 (HE_s2.keep Kcy1)
  obtain ⟨_, Ty11, Lcy11, Xy11, hQy11, sty11⟩ := pack (Xy9.virtualBack hx (y := n18) (z := n18) hown (mvT hZ (W_ hw 98)) (mvT hZ (W_ hw 99)) (notFace_of_selects (args := #[]) (mvT hZ (W_ hw 101))) (mvT hZ (W_ hw 101)) (mvT hZ (W_ hw 100)) (by decide) (backOf (W := 0) (rmeqL l Z a0 hw [] s2 a1 v2 k2 pn2 ls2 nb kn pm wl wc Ty1.heap n0 Zy1 (HE_s2.keep Kcy1) (HF_s2_coder.keep Kcy1 nin0) (HF_s2_value.keep Kcy1 nin0) (HV_v2.keep Kcy1 nin0) (HE_a1.keep Kcy1) (HF_a1_coder.keep Kcy1 nin0) (HF_a1_value.keep Kcy1 nin0) (HV_nb.keep Kcy1 nin0) ry6 hwc hp2 hs2 hwl hn_s2_a1) hZ (W_ hw 102) (W_ hw 3) (by decide) (by decide)) qy11a qy11c (g := (mkF m 25 #[rv a1, rv by1, iv 3, iv 1, rv t2] [(.ref a1), (.ref s2)])) rfl (by rw [hml]; rfl) (Steps.refl _) (argsL := [(.ref a1)]) (rest := []) (lenOf pd_19 rfl) rfl (lb rfl) (hb hby d16_25) (fun _ _ => ⟨rfl, ey9, (by decide : 1 + 0 ≤ _), (by decide : 3 + 0 ≤ _)⟩))
  obtain ⟨rfl, Nqy11, eqy11⟩ := hQy11
  have Ny11 := Fr.app Ny7 Nqy11
  refine Fin.step (sty11) ?_
  show Fin p e below s _ _ _ (Ty11.setTop (mkF m 28 #[rv a1, rv by1, iv 3, iv 1, rv t2] [(.int (own_eqb pn2 pm ls2 wl))]))
  refine Fin.step (fun _ k => Yo.ifYes Xy11.here hx (pc0 := 28) (pc' := 37) rfl (hb hby d16_28) rfl ((if0 _ _).trans (teq (he2 : ((own_eqb pn2 pm ls2 wl) = (0 : Int32)))).1) (by decide) (by decide) (Yo.iinc Xy11.here hx (hb hby d16_37) rfl (l' := #[rv a1, rv by1, iv 3, iv 2, rv t2]) rfl k)) ?_
  show Fin p e below s _ _ _ (Ty11.setTop (mkF m 40 #[rv a1, rv by1, iv 3, iv 2, rv t2] []))
  refine Fin.step (fun _ k => Yo.goto Xy11.here hx (pc0 := 40) (pc' := 9) rfl (hb hby d16_40) (by decide) (by decide) (Yo.iloadN Xy11.here hx (hb hby d16_9) rfl (Yo.iloadN Xy11.here hx (hb hby d16_10) rfl (Yo.icmpNo Xy11.here hx (hb hby d16_11) rfl (tlt ((by decide) : ((2 : Int32) < (3 : Int32)))).2.1 (Yo.aloadN Xy11.here hx (hb hby d16_14) rfl rfl (Yo.iloadN Xy11.here hx (hb hby d16_15) rfl k)))))) ?_
  refine fald Xy11 hx hZ eqy11 fy1_0 rfl (j := 2) (v := (.ref t3)) ⟨by decide, by decide⟩ rfl (hb hby d16_16) ?_
  refine Fin.step (fun _ k => Yo.astore Xy11.here hx (hb hby d16_17) rfl rfl (l' := #[rv a1, rv by1, iv 3, iv 2, rv t3]) rfl (Yo.aload Xy11.here hx (hb hby d16_19) rfl rfl k)) ?_
  have ry14 := (HF_t3_modelName.keep Kcy1 nin0)
  refine fget Xy11 hx hZ hown (W_ hw 96) eqy11 ry14 (hb hby d16_21) fun Ty13 Xy13 ey13 => ?_
  refine Fin.step (fun _ k => Yo.aloadN Xy13.here hx (hb hby d16_24) rfl rfl k) ?_
  obtain ⟨cqy15, kqy15, qy15a, qy15b, qy15c⟩ := isOf hZ ey13 (HE_s3.keep Kcy1)
  obtain ⟨_, Ty15, Lcy15, Xy15, hQy15, sty15⟩ := pack (Xy13.virtualBack hx (y := n18) (z := n18) hown (mvT hZ (W_ hw 98)) (mvT hZ (W_ hw 99)) (notFace_of_selects (args := #[]) (mvT hZ (W_ hw 101))) (mvT hZ (W_ hw 101)) (mvT hZ (W_ hw 100)) (by decide) (backOf (W := 0) (rmeqL l Z a0 hw [] s3 a1 v3 k3 pn3 ls3 nb kn pm wl wc Ty1.heap n0 Zy1 (HE_s3.keep Kcy1) (HF_s3_coder.keep Kcy1 nin0) (HF_s3_value.keep Kcy1 nin0) (HV_v3.keep Kcy1 nin0) (HE_a1.keep Kcy1) (HF_a1_coder.keep Kcy1 nin0) (HF_a1_value.keep Kcy1 nin0) (HV_nb.keep Kcy1 nin0) ry6 hwc hp3 hs3 hwl hn_s3_a1) hZ (W_ hw 102) (W_ hw 3) (by decide) (by decide)) qy15a qy15c (g := (mkF m 25 #[rv a1, rv by1, iv 3, iv 2, rv t3] [(.ref a1), (.ref s3)])) rfl (by rw [hml]; rfl) (Steps.refl _) (argsL := [(.ref a1)]) (rest := []) (lenOf pd_19 rfl) rfl (lb rfl) (hb hby d16_25) (fun _ _ => ⟨rfl, ey13, (by decide : 1 + 0 ≤ _), (by decide : 3 + 0 ≤ _)⟩))
  obtain ⟨rfl, Nqy15, eqy15⟩ := hQy15
  have Ny15 := Fr.app Ny11 Nqy15
  refine Fin.step (sty15) ?_
  show Fin p e below s _ _ _ (Ty15.setTop (mkF m 28 #[rv a1, rv by1, iv 3, iv 2, rv t3] [(.int (own_eqb pn3 pm ls3 wl))]))
  refine Fin.step (fun _ k => Yo.ifYes Xy15.here hx (pc0 := 28) (pc' := 37) rfl (hb hby d16_28) rfl ((if0 _ _).trans (teq (he3 : ((own_eqb pn3 pm ls3 wl) = (0 : Int32)))).1) (by decide) (by decide) (Yo.iinc Xy15.here hx (hb hby d16_37) rfl (l' := #[rv a1, rv by1, iv 3, iv 3, rv t3]) rfl k)) ?_
  show Fin p e below s _ _ _ (Ty15.setTop (mkF m 40 #[rv a1, rv by1, iv 3, iv 3, rv t3] []))
  refine Fin.step (fun _ k => Yo.goto Xy15.here hx (pc0 := 40) (pc' := 9) rfl (hb hby d16_40) (by decide) (by decide) (Yo.iloadN Xy15.here hx (hb hby d16_9) rfl (Yo.iloadN Xy15.here hx (hb hby d16_10) rfl (Yo.icmpYes Xy15.here hx (pc0 := 11) (pc' := 43) rfl (hb hby d16_11) rfl (flt ((by decide) : ¬ ((3 : Int32) < (3 : Int32)))).2.1 (by decide) (by decide) k)))) ?_
  have ry16 := (Sta_keep HS_java_util_Optional_EMPTY Ky1)
  obtain ⟨_, Ty17, Lcy17, Xy17, hQy17, sty17⟩ := packS (Jvm.LawKit.callS Xy15 hx (y := n24) hown (mvT hZ (W_ hw 130)) (mvT hZ (W_ hw 131)) (mvT hZ (W_ hw 109)) (mvT hZ (W_ hw 132)) (by decide) (backOf (W := 0) (rmoe l Z a0 hw [] eo Ty1.heap n0 Zy1 ry16) hZ (W_ hw 132) (W_ hw 109) (by decide) (by decide)) (g := (mkF m 43 #[rv a1, rv by1, iv 3, iv 3, rv t3] [])) rfl (by rw [hml]; rfl) (argsL := []) (rest := []) (lenOf pd_20 rfl) rfl (lb rfl) (hb hby d16_43) (fun _ _ => ⟨rfl, eqy15, (by decide : 1 + 0 ≤ _), (by decide : 3 + 0 ≤ _)⟩))
  obtain ⟨rfl, Nqy17, eqy17⟩ := hQy17
  have Ny17 := Fr.app Ny15 Nqy17
  refine Fin.step (sty17) ?_
  show Fin p e below s _ _ _ (Ty17.setTop (mkF m 46 #[rv a1, rv by1, iv 3, iv 3, rv t3] [(.ref eo)]))
  refine Fin.retR Xy17 hx hret rfl rfl hlk (hb hby d16_46) (by decide) (by decide) ?_
  show QfmL0 Z a1 av cv t1 t2 t3 eo wc s1 v1 k1 pn1 ls1 s2 v2 k2 pn2 ls2 s3 v3 k3 pn3 ls3 nb kn pm wl h0 n0 _ Ty17.heap _
  rw [eqy17]
  exact ⟨rfl, Ny17, Ky1⟩
theorem d16_31 : decode prog_7_method_5_code 31 = .ok (.aload 4, 2) := by decide +kernel
theorem d16_33 : decode prog_7_method_5_code 33 = .ok (.invokestatic 50, 3) := by decide +kernel
theorem pd_21 : parseMethodDescriptor "(Ljava/lang/Object;)Ljava/util/Optional;" = some ⟨[(.object "java/lang/Object")], some (.object "java/util/Optional")⟩ := by decide +kernel
theorem d16_36 : decode prog_7_method_5_code 36 = .ok (.areturn, 1) := by decide +kernel
theorem ef_rmfmL1 (m : MethodId) (x0 : Addr) : entryFrame m #[(.ref x0)] 5 = mkF m 0 #[.val (.ref x0), .unset, .unset, .unset, .unset] [] := by first | (simp [entryFrame, mkF, argsToLocals, Value.category]; done) | rfl
abbrev R_rmfmL1 : Room := ({ frames := 3, cells := 2, slots := 4, locals := 38 } : Room)
def QfmL1 (Z : State) (a1 av : Addr) (cv : Cell) (t1 t2 t3 eo : Addr) (wc : Int32) (s1 v1 : Addr) (k1 : ClassId) (pn1 : Int32) (ls1 : List Value) (s2 v2 : Addr) (k2 : ClassId) (pn2 : Int32) (ls2 : List Value) (s3 v3 : Addr) (k3 : ClassId) (pn3 : Int32) (ls3 : List Value) (nb : Addr) (kn : ClassId) (pm : Int32) (wl : List Value) (h0 : Heap) (n0 : Nat) (v : Option Value) (h : Heap) (L : List Loc) : Prop := ∃ op : Addr, v = some (.ref op) ∧ h0.size ≤ op ∧ Fr n0 L ∧ Keep h0 h [] ∧ Exa Z h op "java/util/Optional" ∧ Fld Z h op "java/util/Optional" "value" "Ljava/lang/Object;" (.ref t1)
set_option maxRecDepth 65536 in
set_option maxHeartbeats 40000000 in
theorem rmfmL1 (l : Launch) (Z : State) (a0 : Array Value) (hw : ∀ d ∈ tables_1, d.before a0 Z = true) (ws : List Jvm.Cond) (a1 av : Addr) (cv : Cell) (t1 t2 t3 eo : Addr) (wc : Int32) (s1 v1 : Addr) (k1 : ClassId) (pn1 : Int32) (ls1 : List Value) (s2 v2 : Addr) (k2 : ClassId) (pn2 : Int32) (ls2 : List Value) (s3 v3 : Addr) (k3 : ClassId) (pn3 : Int32) (ls3 : List Value) (nb : Addr) (kn : ClassId) (pm : Int32) (wl : List Value) (h0 : Heap) (n0 : Nat) (Z0 : n0 ≤ h0.size) (HS_com_example_model_for_reads_modelforreads_model_FieldType__VALUES : Sta Z h0 q0 "$VALUES" q2 (.ref av)) (HS_java_util_Optional_EMPTY : Sta Z h0 "java/util/Optional" "EMPTY" "Ljava/util/Optional;" (.ref eo)) (HS_java_lang_String_COMPACT_STRINGS : Sta Z h0 q3 q7 "Z" (.int wc)) (HF_t1_modelName : Fld Z h0 t1 q0 "modelName" "Ljava/lang/String;" (.ref s1)) (HE_s1 : Exa Z h0 s1 q3) (HF_s1_coder : Fld Z h0 s1 q3 "coder" "B" (.int 0)) (HF_s1_value : Fld Z h0 s1 q3 "value" "[B" (.ref v1)) (HV_v1 : Arv Z h0 v1 k1 .byte pn1 ls1 (.int 0)) (HF_t2_modelName : Fld Z h0 t2 q0 "modelName" "Ljava/lang/String;" (.ref s2)) (HE_s2 : Exa Z h0 s2 q3) (HF_s2_coder : Fld Z h0 s2 q3 "coder" "B" (.int 0)) (HF_s2_value : Fld Z h0 s2 q3 "value" "[B" (.ref v2)) (HV_v2 : Arv Z h0 v2 k2 .byte pn2 ls2 (.int 0)) (HF_t3_modelName : Fld Z h0 t3 q0 "modelName" "Ljava/lang/String;" (.ref s3)) (HE_s3 : Exa Z h0 s3 q3) (HF_s3_coder : Fld Z h0 s3 q3 "coder" "B" (.int 0)) (HF_s3_value : Fld Z h0 s3 q3 "value" "[B" (.ref v3)) (HV_v3 : Arv Z h0 v3 k3 .byte pn3 ls3 (.int 0)) (HE_a1 : Exa Z h0 a1 q3) (HF_a1_coder : Fld Z h0 a1 q3 "coder" "B" (.int 0)) (HF_a1_value : Fld Z h0 a1 q3 "value" "[B" (.ref nb)) (HV_nb : Arv Z h0 nb kn .byte pm wl (.int 0)) (hcv : Arr Z h0 av cv (.object "com/example/model_for_reads/modelforreads/model/FieldType") ∧ Exa Z h0 av "[Lcom/example/model_for_reads/modelforreads/model/FieldType;" ∧ FitC Z cv ∧ cv.slots = ([(.ref t1), (.ref t2), (.ref t3)] : List Value).toArray) (hwc : ¬ wc = 0) (hwl : own_chs wl) (hp1 : 0 ≤ pn1.toInt ∧ pn1.toInt ≤ 8) (hp2 : 0 ≤ pn2.toInt ∧ pn2.toInt ≤ 8) (hp3 : 0 ≤ pn3.toInt ∧ pn3.toInt ≤ 8) (hs1 : own_chs ls1) (hs2 : own_chs ls2) (hs3 : own_chs ls3) (he1 : ¬ own_eqb pn1 pm ls1 wl = 0) (hn_s1_a1 : s1 ≠ a1) (hn_s2_a1 : s2 ≠ a1) (hn_s3_a1 : s3 ≠ a1) :
    Met1 l n16 prog_7_method_5_code 5 (some (.object "java/util/Optional")) ws R_rmfmL1 #[(.ref a1)] Z h0 (QfmL1 Z a1 av cv t1 t2 t3 eo wc s1 v1 k1 pn1 ls1 s2 v2 k2 pn2 ls2 s3 v3 k3 pn3 ls3 nb kn pm wl h0 n0) := by
  refine Met1.enter (plainFor_of_name pn_16) (fun m => ef_rmfmL1 m a1) fun p e s m below meth c s₁ hx hby hlk hret hml hown hnm hZ X0 e0 => ?_
  have N0 := Fr.nil n0
  have K0 : Keep h0 h0 [] := Keep.refl h0 _
  show Fin p e below s _ _ _ (s₁.setTop (mkF m 0 #[rv a1, u_, u_, u_, u_] []))
  obtain ⟨_, Ty1, Lcy1, Xy1, hQy1, sty1⟩ := packS (Jvm.LawKit.callS X0 hx (y := n17) hown (mvT hZ (W_ hw 79)) (mvT hZ (W_ hw 80)) (mvT hZ (W_ hw 11)) (mvT hZ (W_ hw 81)) (by decide) (backOf (W := 0) (rmva l Z a0 hw [] av cv t1 t2 t3 h0 n0 Z0 HS_com_example_model_for_reads_modelforreads_model_FieldType__VALUES hcv) hZ (W_ hw 81) (W_ hw 11) (by decide) (by decide)) (g := (mkF m 0 #[rv a1, u_, u_, u_, u_] [])) rfl (by rw [hml]; rfl) (argsL := []) (rest := []) (lenOf pd_18 rfl) rfl (lb rfl) (hb hby d16_0) (fun _ _ => ⟨rfl, e0, (by decide : 0 + 1 ≤ _), (by decide : 0 + 3 ≤ _)⟩))
  obtain ⟨kv_y1, by1, rfl, bzy1, Nqy1, Kcy1, fy1_0⟩ := hQy1
  have Ny1 := Fr.app N0 Nqy1
  have gzy1 : n0 ≤ by1 := Nat.le_trans Z0 bzy1
  have szy1 : h0.size ≤ by1 := Nat.le_trans K0.1 bzy1
  have Zy1 := Nat.le_trans Z0 Kcy1.1
  have Ky1 := K0.trans Kcy1 all0
  refine Fin.step (sty1) ?_
  show Fin p e below s _ _ _ (Ty1.setTop (mkF m 3 #[rv a1, u_, u_, u_, u_] [(.ref by1)]))
  refine Fin.step (fun _ k => Yo.astoreN Xy1.here hx (hb hby d16_3) rfl rfl (l' := #[rv a1, rv by1, u_, u_, u_]) rfl (Yo.aloadN Xy1.here hx (hb hby d16_4) rfl rfl k)) ?_
  have voy2 := fy1_0
  obtain ⟨cly2, Ary2, qay2, say2, nay2, hay2, gay2⟩ := voy2
  refine Fin.step (Xy1.arraylength hx Ary2.1 (State.isArrayOf_alike hZ.alike Ary2.2.1) (g := (mkF m 5 #[rv a1, rv by1, u_, u_, u_] [(.ref by1)])) rfl rfl (hb hby d16_5)) ?_
  rw [len_of say2 nay2]
  show Fin p e below s _ _ _ (Ty1.setTop (mkF m 6 #[rv a1, rv by1, u_, u_, u_] [(.int 3)]))
  refine Fin.step (fun _ k => Yo.istoreN Xy1.here hx (hb hby d16_6) rfl (l' := #[rv a1, rv by1, iv 3, u_, u_]) rfl (Yo.iconst Xy1.here hx (hb hby d16_7) (Yo.istoreN Xy1.here hx (hb hby d16_8) rfl (l' := #[rv a1, rv by1, iv 3, iv 0, u_]) rfl (Yo.iloadN Xy1.here hx (hb hby d16_9) rfl (Yo.iloadN Xy1.here hx (hb hby d16_10) rfl (Yo.icmpNo Xy1.here hx (hb hby d16_11) rfl (tlt ((by decide) : ((0 : Int32) < (3 : Int32)))).2.1 (Yo.aloadN Xy1.here hx (hb hby d16_14) rfl rfl (Yo.iloadN Xy1.here hx (hb hby d16_15) rfl k)))))))) ?_
  refine fald Xy1 hx hZ rfl fy1_0 rfl (j := 0) (v := (.ref t1)) ⟨by decide, by decide⟩ rfl (hb hby d16_16) ?_
  refine Fin.step (fun _ k => Yo.astore Xy1.here hx (hb hby d16_17) rfl rfl (l' := #[rv a1, rv by1, iv 3, iv 0, rv t1]) rfl (Yo.aload Xy1.here hx (hb hby d16_19) rfl rfl k)) ?_
  have ry5 := (HF_t1_modelName.keep Kcy1 nin0)
  refine fget Xy1 hx hZ hown (W_ hw 96) rfl ry5 (hb hby d16_21) fun Ty4 Xy4 ey4 => ?_
  refine Fin.step (fun _ k => Yo.aloadN Xy4.here hx (hb hby d16_24) rfl rfl k) ?_
  have ry6 := (Sta_keep HS_java_lang_String_COMPACT_STRINGS Ky1)
  obtain ⟨cqy7, kqy7, qy7a, qy7b, qy7c⟩ := isOf hZ ey4 (HE_s1.keep Kcy1)
  obtain ⟨_, Ty7, Lcy7, Xy7, hQy7, sty7⟩ := pack (Xy4.virtualBack hx (y := n18) (z := n18) hown (mvT hZ (W_ hw 98)) (mvT hZ (W_ hw 99)) (notFace_of_selects (args := #[]) (mvT hZ (W_ hw 101))) (mvT hZ (W_ hw 101)) (mvT hZ (W_ hw 100)) (by decide) (backOf (W := 0) (rmeqL l Z a0 hw [] s1 a1 v1 k1 pn1 ls1 nb kn pm wl wc Ty1.heap n0 Zy1 (HE_s1.keep Kcy1) (HF_s1_coder.keep Kcy1 nin0) (HF_s1_value.keep Kcy1 nin0) (HV_v1.keep Kcy1 nin0) (HE_a1.keep Kcy1) (HF_a1_coder.keep Kcy1 nin0) (HF_a1_value.keep Kcy1 nin0) (HV_nb.keep Kcy1 nin0) ry6 hwc hp1 hs1 hwl hn_s1_a1) hZ (W_ hw 102) (W_ hw 3) (by decide) (by decide)) qy7a qy7c (g := (mkF m 25 #[rv a1, rv by1, iv 3, iv 0, rv t1] [(.ref a1), (.ref s1)])) rfl (by rw [hml]; rfl) (Steps.refl _) (argsL := [(.ref a1)]) (rest := []) (lenOf pd_19 rfl) rfl (lb rfl) (hb hby d16_25) (fun _ _ => ⟨rfl, ey4, (by decide : 1 + 0 ≤ _), (by decide : 3 + 0 ≤ _)⟩))
  obtain ⟨rfl, Nqy7, eqy7⟩ := hQy7
  have Ny7 := Fr.app Ny1 Nqy7
  refine Fin.step (sty7) ?_
  show Fin p e below s _ _ _ (Ty7.setTop (mkF m 28 #[rv a1, rv by1, iv 3, iv 0, rv t1] [(.int (own_eqb pn1 pm ls1 wl))]))
  refine Fin.step (fun _ k => Yo.ifNo Xy7.here hx (hb hby d16_28) rfl ((if0 _ _).trans (feq (he1 : ¬ ((own_eqb pn1 pm ls1 wl) = (0 : Int32)))).1) (Yo.aload Xy7.here hx (hb hby d16_31) rfl rfl k)) ?_
  obtain ⟨_, Ty8, Lcy8, Xy8, hQy8, sty8⟩ := packS (Jvm.LawKit.callS Xy7 hx (y := n20) hown (mvT hZ (W_ hw 107)) (mvT hZ (W_ hw 108)) (mvT hZ (W_ hw 109)) (mvT hZ (W_ hw 110)) (by decide) (backOf (W := 0) (rmoo l Z a0 hw [] t1 Ty1.heap n0 Zy1 ) hZ (W_ hw 110) (W_ hw 109) (by decide) (by decide)) (g := (mkF m 33 #[rv a1, rv by1, iv 3, iv 0, rv t1] [(.ref t1)])) rfl (by rw [hml]; rfl) (argsL := [(.ref t1)]) (rest := []) (lenOf pd_21 rfl) rfl (lb rfl) (hb hby d16_33) (fun _ _ => ⟨rfl, eqy7, (by decide : 1 + 1 ≤ _), (by decide : 3 + 1 ≤ _)⟩))
  obtain ⟨by8, rfl, bzy8, Nqy8, Kcy8, fy8_0, fy8_1⟩ := hQy8
  have Ny8 := Fr.app Ny7 Nqy8
  have gzy8 : n0 ≤ by8 := Nat.le_trans Zy1 bzy8
  have szy8 : h0.size ≤ by8 := Nat.le_trans Ky1.1 bzy8
  have Zy8 := Nat.le_trans Zy1 Kcy8.1
  have Ky8 := Ky1.trans Kcy8 all0
  refine Fin.step (sty8) ?_
  show Fin p e below s _ _ _ (Ty8.setTop (mkF m 36 #[rv a1, rv by1, iv 3, iv 0, rv t1] [(.ref by8)]))
  refine Fin.retR Xy8 hx hret rfl rfl hlk (hb hby d16_36) (by decide) (by decide) ?_
  show QfmL1 Z a1 av cv t1 t2 t3 eo wc s1 v1 k1 pn1 ls1 s2 v2 k2 pn2 ls2 s3 v3 k3 pn3 ls3 nb kn pm wl h0 n0 _ Ty8.heap _
  exact ⟨by8, rfl, szy8, Ny8, Ky8, fy8_0, fy8_1⟩
theorem ef_rmfmL2 (m : MethodId) (x0 : Addr) : entryFrame m #[(.ref x0)] 5 = mkF m 0 #[.val (.ref x0), .unset, .unset, .unset, .unset] [] := by first | (simp [entryFrame, mkF, argsToLocals, Value.category]; done) | rfl
abbrev R_rmfmL2 : Room := ({ frames := 3, cells := 2, slots := 4, locals := 38 } : Room)
def QfmL2 (Z : State) (a1 av : Addr) (cv : Cell) (t1 t2 t3 eo : Addr) (wc : Int32) (s1 v1 : Addr) (k1 : ClassId) (pn1 : Int32) (ls1 : List Value) (s2 v2 : Addr) (k2 : ClassId) (pn2 : Int32) (ls2 : List Value) (s3 v3 : Addr) (k3 : ClassId) (pn3 : Int32) (ls3 : List Value) (nb : Addr) (kn : ClassId) (pm : Int32) (wl : List Value) (h0 : Heap) (n0 : Nat) (v : Option Value) (h : Heap) (L : List Loc) : Prop := ∃ op : Addr, v = some (.ref op) ∧ h0.size ≤ op ∧ Fr n0 L ∧ Keep h0 h [] ∧ Exa Z h op "java/util/Optional" ∧ Fld Z h op "java/util/Optional" "value" "Ljava/lang/Object;" (.ref t2)
set_option maxRecDepth 65536 in
set_option maxHeartbeats 40000000 in
theorem rmfmL2 (l : Launch) (Z : State) (a0 : Array Value) (hw : ∀ d ∈ tables_1, d.before a0 Z = true) (ws : List Jvm.Cond) (a1 av : Addr) (cv : Cell) (t1 t2 t3 eo : Addr) (wc : Int32) (s1 v1 : Addr) (k1 : ClassId) (pn1 : Int32) (ls1 : List Value) (s2 v2 : Addr) (k2 : ClassId) (pn2 : Int32) (ls2 : List Value) (s3 v3 : Addr) (k3 : ClassId) (pn3 : Int32) (ls3 : List Value) (nb : Addr) (kn : ClassId) (pm : Int32) (wl : List Value) (h0 : Heap) (n0 : Nat) (Z0 : n0 ≤ h0.size) (HS_com_example_model_for_reads_modelforreads_model_FieldType__VALUES : Sta Z h0 q0 "$VALUES" q2 (.ref av)) (HS_java_util_Optional_EMPTY : Sta Z h0 "java/util/Optional" "EMPTY" "Ljava/util/Optional;" (.ref eo)) (HS_java_lang_String_COMPACT_STRINGS : Sta Z h0 q3 q7 "Z" (.int wc)) (HF_t1_modelName : Fld Z h0 t1 q0 "modelName" "Ljava/lang/String;" (.ref s1)) (HE_s1 : Exa Z h0 s1 q3) (HF_s1_coder : Fld Z h0 s1 q3 "coder" "B" (.int 0)) (HF_s1_value : Fld Z h0 s1 q3 "value" "[B" (.ref v1)) (HV_v1 : Arv Z h0 v1 k1 .byte pn1 ls1 (.int 0)) (HF_t2_modelName : Fld Z h0 t2 q0 "modelName" "Ljava/lang/String;" (.ref s2)) (HE_s2 : Exa Z h0 s2 q3) (HF_s2_coder : Fld Z h0 s2 q3 "coder" "B" (.int 0)) (HF_s2_value : Fld Z h0 s2 q3 "value" "[B" (.ref v2)) (HV_v2 : Arv Z h0 v2 k2 .byte pn2 ls2 (.int 0)) (HF_t3_modelName : Fld Z h0 t3 q0 "modelName" "Ljava/lang/String;" (.ref s3)) (HE_s3 : Exa Z h0 s3 q3) (HF_s3_coder : Fld Z h0 s3 q3 "coder" "B" (.int 0)) (HF_s3_value : Fld Z h0 s3 q3 "value" "[B" (.ref v3)) (HV_v3 : Arv Z h0 v3 k3 .byte pn3 ls3 (.int 0)) (HE_a1 : Exa Z h0 a1 q3) (HF_a1_coder : Fld Z h0 a1 q3 "coder" "B" (.int 0)) (HF_a1_value : Fld Z h0 a1 q3 "value" "[B" (.ref nb)) (HV_nb : Arv Z h0 nb kn .byte pm wl (.int 0)) (hcv : Arr Z h0 av cv (.object "com/example/model_for_reads/modelforreads/model/FieldType") ∧ Exa Z h0 av "[Lcom/example/model_for_reads/modelforreads/model/FieldType;" ∧ FitC Z cv ∧ cv.slots = ([(.ref t1), (.ref t2), (.ref t3)] : List Value).toArray) (hwc : ¬ wc = 0) (hwl : own_chs wl) (hp1 : 0 ≤ pn1.toInt ∧ pn1.toInt ≤ 8) (hp2 : 0 ≤ pn2.toInt ∧ pn2.toInt ≤ 8) (hp3 : 0 ≤ pn3.toInt ∧ pn3.toInt ≤ 8) (hs1 : own_chs ls1) (hs2 : own_chs ls2) (hs3 : own_chs ls3) (he1 : own_eqb pn1 pm ls1 wl = 0) (he2 : ¬ own_eqb pn2 pm ls2 wl = 0) (hn_s1_a1 : s1 ≠ a1) (hn_s2_a1 : s2 ≠ a1) (hn_s3_a1 : s3 ≠ a1) :
    Met1 l n16 prog_7_method_5_code 5 (some (.object "java/util/Optional")) ws R_rmfmL2 #[(.ref a1)] Z h0 (QfmL2 Z a1 av cv t1 t2 t3 eo wc s1 v1 k1 pn1 ls1 s2 v2 k2 pn2 ls2 s3 v3 k3 pn3 ls3 nb kn pm wl h0 n0) := by
  refine Met1.enter (plainFor_of_name pn_16) (fun m => ef_rmfmL2 m a1) fun p e s m below meth c s₁ hx hby hlk hret hml hown hnm hZ X0 e0 => ?_
  have N0 := Fr.nil n0
  have K0 : Keep h0 h0 [] := Keep.refl h0 _
  show Fin p e below s _ _ _ (s₁.setTop (mkF m 0 #[rv a1, u_, u_, u_, u_] []))
  obtain ⟨_, Ty1, Lcy1, Xy1, hQy1, sty1⟩ := packS (Jvm.LawKit.callS X0 hx (y := n17) hown (mvT hZ (W_ hw 79)) (mvT hZ (W_ hw 80)) (mvT hZ (W_ hw 11)) (mvT hZ (W_ hw 81)) (by decide) (backOf (W := 0) (rmva l Z a0 hw [] av cv t1 t2 t3 h0 n0 Z0 HS_com_example_model_for_reads_modelforreads_model_FieldType__VALUES hcv) hZ (W_ hw 81) (W_ hw 11) (by decide) (by decide)) (g := (mkF m 0 #[rv a1, u_, u_, u_, u_] [])) rfl (by rw [hml]; rfl) (argsL := []) (rest := []) (lenOf pd_18 rfl) rfl (lb rfl) (hb hby d16_0) (fun _ _ => ⟨rfl, e0, (by decide : 0 + 1 ≤ _), (by decide : 0 + 3 ≤ _)⟩))
  obtain ⟨kv_y1, by1, rfl, bzy1, Nqy1, Kcy1, fy1_0⟩ := hQy1
  have Ny1 := Fr.app N0 Nqy1
  have gzy1 : n0 ≤ by1 := Nat.le_trans Z0 bzy1
  have szy1 : h0.size ≤ by1 := Nat.le_trans K0.1 bzy1
  have Zy1 := Nat.le_trans Z0 Kcy1.1
  have Ky1 := K0.trans Kcy1 all0
  refine Fin.step (sty1) ?_
  show Fin p e below s _ _ _ (Ty1.setTop (mkF m 3 #[rv a1, u_, u_, u_, u_] [(.ref by1)]))
  refine Fin.step (fun _ k => Yo.astoreN Xy1.here hx (hb hby d16_3) rfl rfl (l' := #[rv a1, rv by1, u_, u_, u_]) rfl (Yo.aloadN Xy1.here hx (hb hby d16_4) rfl rfl k)) ?_
  have voy2 := fy1_0
  obtain ⟨cly2, Ary2, qay2, say2, nay2, hay2, gay2⟩ := voy2
  refine Fin.step (Xy1.arraylength hx Ary2.1 (State.isArrayOf_alike hZ.alike Ary2.2.1) (g := (mkF m 5 #[rv a1, rv by1, u_, u_, u_] [(.ref by1)])) rfl rfl (hb hby d16_5)) ?_
  rw [len_of say2 nay2]
  show Fin p e below s _ _ _ (Ty1.setTop (mkF m 6 #[rv a1, rv by1, u_, u_, u_] [(.int 3)]))
  refine Fin.step (fun _ k => Yo.istoreN Xy1.here hx (hb hby d16_6) rfl (l' := #[rv a1, rv by1, iv 3, u_, u_]) rfl (Yo.iconst Xy1.here hx (hb hby d16_7) (Yo.istoreN Xy1.here hx (hb hby d16_8) rfl (l' := #[rv a1, rv by1, iv 3, iv 0, u_]) rfl (Yo.iloadN Xy1.here hx (hb hby d16_9) rfl (Yo.iloadN Xy1.here hx (hb hby d16_10) rfl (Yo.icmpNo Xy1.here hx (hb hby d16_11) rfl (tlt ((by decide) : ((0 : Int32) < (3 : Int32)))).2.1 (Yo.aloadN Xy1.here hx (hb hby d16_14) rfl rfl (Yo.iloadN Xy1.here hx (hb hby d16_15) rfl k)))))))) ?_
  refine fald Xy1 hx hZ rfl fy1_0 rfl (j := 0) (v := (.ref t1)) ⟨by decide, by decide⟩ rfl (hb hby d16_16) ?_
  refine Fin.step (fun _ k => Yo.astore Xy1.here hx (hb hby d16_17) rfl rfl (l' := #[rv a1, rv by1, iv 3, iv 0, rv t1]) rfl (Yo.aload Xy1.here hx (hb hby d16_19) rfl rfl k)) ?_
  have ry5 := (HF_t1_modelName.keep Kcy1 nin0)
  refine fget Xy1 hx hZ hown (W_ hw 96) rfl ry5 (hb hby d16_21) fun Ty4 Xy4 ey4 => ?_
  refine Fin.step (fun _ k => Yo.aloadN Xy4.here hx (hb hby d16_24) rfl rfl k) ?_
  have ry6 := (Sta_keep HS_java_lang_String_COMPACT_STRINGS Ky1)
  obtain ⟨cqy7, kqy7, qy7a, qy7b, qy7c⟩ := isOf hZ ey4 (HE_s1.keep Kcy1)
  obtain ⟨_, Ty7, Lcy7, Xy7, hQy7, sty7⟩ := pack (Xy4.virtualBack hx (y := n18) (z := n18) hown (mvT hZ (W_ hw 98)) (mvT hZ (W_ hw 99)) (notFace_of_selects (args := #[]) (mvT hZ (W_ hw 101))) (mvT hZ (W_ hw 101)) (mvT hZ (W_ hw 100)) (by decide) (backOf (W := 0) (rmeqL l Z a0 hw [] s1 a1 v1 k1 pn1 ls1 nb kn pm wl wc Ty1.heap n0 Zy1 (HE_s1.keep Kcy1) (HF_s1_coder.keep Kcy1 nin0) (HF_s1_value.keep Kcy1 nin0) (HV_v1.keep Kcy1 nin0) (HE_a1.keep Kcy1) (HF_a1_coder.keep Kcy1 nin0) (HF_a1_value.keep Kcy1 nin0) (HV_nb.keep Kcy1 nin0) ry6 hwc hp1 hs1 hwl hn_s1_a1) hZ (W_ hw 102) (W_ hw 3) (by decide) (by decide)) qy7a qy7c (g := (mkF m 25 #[rv a1, rv by1, iv 3, iv 0, rv t1] [(.ref a1), (.ref s1)])) rfl (by rw [hml]; rfl) (Steps.refl _) (argsL := [(.ref a1)]) (rest := []) (lenOf pd_19 rfl) rfl (lb rfl) (hb hby d16_25) (fun _ _ => ⟨rfl, ey4, (by decide : 1 + 0 ≤ _), (by decide : 3 + 0 ≤ _)⟩))
  obtain ⟨rfl, Nqy7, eqy7⟩ := hQy7
  have Ny7 := Fr.app Ny1 Nqy7
  refine Fin.step (sty7) ?_
  show Fin p e below s _ _ _ (Ty7.setTop (mkF m 28 #[rv a1, rv by1, iv 3, iv 0, rv t1] [(.int (own_eqb pn1 pm ls1 wl))]))
  refine Fin.step (fun _ k => Yo.ifYes Xy7.here hx (pc0 := 28) (pc' := 37) rfl (hb hby d16_28) rfl ((if0 _ _).trans (teq (he1 : ((own_eqb pn1 pm ls1 wl) = (0 : Int32)))).1) (by decide) (by decide) (Yo.iinc Xy7.here hx (hb hby d16_37) rfl (l' := #[rv a1, rv by1, iv 3, iv 1, rv t1]) rfl k)) ?_
  show Fin p e below s _ _ _ (Ty7.setTop (mkF m 40 #[rv a1, rv by1, iv 3, iv 1, rv t1] []))
  refine Fin.step (fun _ k => Yo.goto Xy7.here hx (pc0 := 40) (pc' := 9) rfl (hb hby d16_40) (by decide) (by decide) (Yo.iloadN Xy7.here hx (hb hby d16_9) rfl (Yo.iloadN Xy7.here hx (hb hby d16_10) rfl (Yo.icmpNo Xy7.here hx (hb hby d16_11) rfl (tlt ((by decide) : ((1 : Int32) < (3 : Int32)))).2.1 (Yo.aloadN Xy7.here hx (hb hby d16_14) rfl rfl (Yo.iloadN Xy7.here hx (hb hby d16_15) rfl k)))))) ?_
  refine fald Xy7 hx hZ eqy7 fy1_0 rfl (j := 1) (v := (.ref t2)) ⟨by decide, by decide⟩ rfl (hb hby d16_16) ?_
  refine Fin.step (fun _ k => Yo.astore Xy7.here hx (hb hby d16_17) rfl rfl (l' := #[rv a1, rv by1, iv 3, iv 1, rv t2]) rfl (Yo.aload Xy7.here hx (hb hby d16_19) rfl rfl k)) ?_
  have ry10 := (HF_t2_modelName.keep Kcy1 nin0)
  refine fget Xy7 hx hZ hown (W_ hw 96) eqy7 ry10 (hb hby d16_21) fun Ty9 Xy9 ey9 => ?_
  refine Fin.step (fun _ k => Yo.aloadN Xy9.here hx (hb hby d16_24) rfl rfl k) ?_
  obtain ⟨cqy11, kqy11, qy11a, qy11b, qy11c⟩ := isOf hZ ey9 (HE_s2.keep Kcy1)
  obtain ⟨_, Ty11, Lcy11, Xy11, hQy11, sty11⟩ := pack (Xy9.virtualBack hx (y := n18) (z := n18) hown (mvT hZ (W_ hw 98)) (mvT hZ (W_ hw 99)) (notFace_of_selects (args := #[]) (mvT hZ (W_ hw 101))) (mvT hZ (W_ hw 101)) (mvT hZ (W_ hw 100)) (by decide) (backOf (W := 0) (rmeqL l Z a0 hw [] s2 a1 v2 k2 pn2 ls2 nb kn pm wl wc Ty1.heap n0 Zy1 (HE_s2.keep Kcy1) (HF_s2_coder.keep Kcy1 nin0) (HF_s2_value.keep Kcy1 nin0) (HV_v2.keep Kcy1 nin0) (HE_a1.keep Kcy1) (HF_a1_coder.keep Kcy1 nin0) (HF_a1_value.keep Kcy1 nin0) (HV_nb.keep Kcy1 nin0) ry6 hwc hp2 hs2 hwl hn_s2_a1) hZ (W_ hw 102) (W_ hw 3) (by decide) (by decide)) qy11a qy11c (g := (mkF m 25 #[rv a1, rv by1, iv 3, iv 1, rv t2] [(.ref a1), (.ref s2)])) rfl (by rw [hml]; rfl) (Steps.refl _) (argsL := [(.ref a1)]) (rest := []) (lenOf pd_19 rfl) rfl (lb rfl) (hb hby d16_25) (fun _ _ => ⟨rfl, ey9, (by decide : 1 + 0 ≤ _), (by decide : 3 + 0 ≤ _)⟩))
  obtain ⟨rfl, Nqy11, eqy11⟩ := hQy11
  have Ny11 := Fr.app Ny7 Nqy11
  refine Fin.step (sty11) ?_
  show Fin p e below s _ _ _ (Ty11.setTop (mkF m 28 #[rv a1, rv by1, iv 3, iv 1, rv t2] [(.int (own_eqb pn2 pm ls2 wl))]))
  refine Fin.step (fun _ k => Yo.ifNo Xy11.here hx (hb hby d16_28) rfl ((if0 _ _).trans (feq (he2 : ¬ ((own_eqb pn2 pm ls2 wl) = (0 : Int32)))).1) (Yo.aload Xy11.here hx (hb hby d16_31) rfl rfl k)) ?_
  obtain ⟨_, Ty12, Lcy12, Xy12, hQy12, sty12⟩ := packS (Jvm.LawKit.callS Xy11 hx (y := n20) hown (mvT hZ (W_ hw 107)) (mvT hZ (W_ hw 108)) (mvT hZ (W_ hw 109)) (mvT hZ (W_ hw 110)) (by decide) (backOf (W := 0) (rmoo l Z a0 hw [] t2 Ty1.heap n0 Zy1 ) hZ (W_ hw 110) (W_ hw 109) (by decide) (by decide)) (g := (mkF m 33 #[rv a1, rv by1, iv 3, iv 1, rv t2] [(.ref t2)])) rfl (by rw [hml]; rfl) (argsL := [(.ref t2)]) (rest := []) (lenOf pd_21 rfl) rfl (lb rfl) (hb hby d16_33) (fun _ _ => ⟨rfl, eqy11, (by decide : 1 + 1 ≤ _), (by decide : 3 + 1 ≤ _)⟩))
  obtain ⟨by12, rfl, bzy12, Nqy12, Kcy12, fy12_0, fy12_1⟩ := hQy12
  have Ny12 := Fr.app Ny11 Nqy12
  have gzy12 : n0 ≤ by12 := Nat.le_trans Zy1 bzy12
  have szy12 : h0.size ≤ by12 := Nat.le_trans Ky1.1 bzy12
  have Zy12 := Nat.le_trans Zy1 Kcy12.1
  have Ky12 := Ky1.trans Kcy12 all0
  refine Fin.step (sty12) ?_
  show Fin p e below s _ _ _ (Ty12.setTop (mkF m 36 #[rv a1, rv by1, iv 3, iv 1, rv t2] [(.ref by12)]))
  refine Fin.retR Xy12 hx hret rfl rfl hlk (hb hby d16_36) (by decide) (by decide) ?_
  show QfmL2 Z a1 av cv t1 t2 t3 eo wc s1 v1 k1 pn1 ls1 s2 v2 k2 pn2 ls2 s3 v3 k3 pn3 ls3 nb kn pm wl h0 n0 _ Ty12.heap _
  exact ⟨by12, rfl, szy12, Ny12, Ky12, fy12_0, fy12_1⟩
theorem ef_rmfmL3 (m : MethodId) (x0 : Addr) : entryFrame m #[(.ref x0)] 5 = mkF m 0 #[.val (.ref x0), .unset, .unset, .unset, .unset] [] := by first | (simp [entryFrame, mkF, argsToLocals, Value.category]; done) | rfl
abbrev R_rmfmL3 : Room := ({ frames := 3, cells := 2, slots := 4, locals := 38 } : Room)
def QfmL3 (Z : State) (a1 av : Addr) (cv : Cell) (t1 t2 t3 eo : Addr) (wc : Int32) (s1 v1 : Addr) (k1 : ClassId) (pn1 : Int32) (ls1 : List Value) (s2 v2 : Addr) (k2 : ClassId) (pn2 : Int32) (ls2 : List Value) (s3 v3 : Addr) (k3 : ClassId) (pn3 : Int32) (ls3 : List Value) (nb : Addr) (kn : ClassId) (pm : Int32) (wl : List Value) (h0 : Heap) (n0 : Nat) (v : Option Value) (h : Heap) (L : List Loc) : Prop := ∃ op : Addr, v = some (.ref op) ∧ h0.size ≤ op ∧ Fr n0 L ∧ Keep h0 h [] ∧ Exa Z h op "java/util/Optional" ∧ Fld Z h op "java/util/Optional" "value" "Ljava/lang/Object;" (.ref t3)
set_option maxRecDepth 65536 in
set_option maxHeartbeats 40000000 in
theorem rmfmL3 (l : Launch) (Z : State) (a0 : Array Value) (hw : ∀ d ∈ tables_1, d.before a0 Z = true) (ws : List Jvm.Cond) (a1 av : Addr) (cv : Cell) (t1 t2 t3 eo : Addr) (wc : Int32) (s1 v1 : Addr) (k1 : ClassId) (pn1 : Int32) (ls1 : List Value) (s2 v2 : Addr) (k2 : ClassId) (pn2 : Int32) (ls2 : List Value) (s3 v3 : Addr) (k3 : ClassId) (pn3 : Int32) (ls3 : List Value) (nb : Addr) (kn : ClassId) (pm : Int32) (wl : List Value) (h0 : Heap) (n0 : Nat) (Z0 : n0 ≤ h0.size) (HS_com_example_model_for_reads_modelforreads_model_FieldType__VALUES : Sta Z h0 q0 "$VALUES" q2 (.ref av)) (HS_java_util_Optional_EMPTY : Sta Z h0 "java/util/Optional" "EMPTY" "Ljava/util/Optional;" (.ref eo)) (HS_java_lang_String_COMPACT_STRINGS : Sta Z h0 q3 q7 "Z" (.int wc)) (HF_t1_modelName : Fld Z h0 t1 q0 "modelName" "Ljava/lang/String;" (.ref s1)) (HE_s1 : Exa Z h0 s1 q3) (HF_s1_coder : Fld Z h0 s1 q3 "coder" "B" (.int 0)) (HF_s1_value : Fld Z h0 s1 q3 "value" "[B" (.ref v1)) (HV_v1 : Arv Z h0 v1 k1 .byte pn1 ls1 (.int 0)) (HF_t2_modelName : Fld Z h0 t2 q0 "modelName" "Ljava/lang/String;" (.ref s2)) (HE_s2 : Exa Z h0 s2 q3) (HF_s2_coder : Fld Z h0 s2 q3 "coder" "B" (.int 0)) (HF_s2_value : Fld Z h0 s2 q3 "value" "[B" (.ref v2)) (HV_v2 : Arv Z h0 v2 k2 .byte pn2 ls2 (.int 0)) (HF_t3_modelName : Fld Z h0 t3 q0 "modelName" "Ljava/lang/String;" (.ref s3)) (HE_s3 : Exa Z h0 s3 q3) (HF_s3_coder : Fld Z h0 s3 q3 "coder" "B" (.int 0)) (HF_s3_value : Fld Z h0 s3 q3 "value" "[B" (.ref v3)) (HV_v3 : Arv Z h0 v3 k3 .byte pn3 ls3 (.int 0)) (HE_a1 : Exa Z h0 a1 q3) (HF_a1_coder : Fld Z h0 a1 q3 "coder" "B" (.int 0)) (HF_a1_value : Fld Z h0 a1 q3 "value" "[B" (.ref nb)) (HV_nb : Arv Z h0 nb kn .byte pm wl (.int 0)) (hcv : Arr Z h0 av cv (.object "com/example/model_for_reads/modelforreads/model/FieldType") ∧ Exa Z h0 av "[Lcom/example/model_for_reads/modelforreads/model/FieldType;" ∧ FitC Z cv ∧ cv.slots = ([(.ref t1), (.ref t2), (.ref t3)] : List Value).toArray) (hwc : ¬ wc = 0) (hwl : own_chs wl) (hp1 : 0 ≤ pn1.toInt ∧ pn1.toInt ≤ 8) (hp2 : 0 ≤ pn2.toInt ∧ pn2.toInt ≤ 8) (hp3 : 0 ≤ pn3.toInt ∧ pn3.toInt ≤ 8) (hs1 : own_chs ls1) (hs2 : own_chs ls2) (hs3 : own_chs ls3) (he1 : own_eqb pn1 pm ls1 wl = 0) (he2 : own_eqb pn2 pm ls2 wl = 0) (he3 : ¬ own_eqb pn3 pm ls3 wl = 0) (hn_s1_a1 : s1 ≠ a1) (hn_s2_a1 : s2 ≠ a1) (hn_s3_a1 : s3 ≠ a1) :
    Met1 l n16 prog_7_method_5_code 5 (some (.object "java/util/Optional")) ws R_rmfmL3 #[(.ref a1)] Z h0 (QfmL3 Z a1 av cv t1 t2 t3 eo wc s1 v1 k1 pn1 ls1 s2 v2 k2 pn2 ls2 s3 v3 k3 pn3 ls3 nb kn pm wl h0 n0) := by
  refine Met1.enter (plainFor_of_name pn_16) (fun m => ef_rmfmL3 m a1) fun p e s m below meth c s₁ hx hby hlk hret hml hown hnm hZ X0 e0 => ?_
  have N0 := Fr.nil n0
  have K0 : Keep h0 h0 [] := Keep.refl h0 _
  show Fin p e below s _ _ _ (s₁.setTop (mkF m 0 #[rv a1, u_, u_, u_, u_] []))
  obtain ⟨_, Ty1, Lcy1, Xy1, hQy1, sty1⟩ := packS (Jvm.LawKit.callS X0 hx (y := n17) hown (mvT hZ (W_ hw 79)) (mvT hZ (W_ hw 80)) (mvT hZ (W_ hw 11)) (mvT hZ (W_ hw 81)) (by decide) (backOf (W := 0) (rmva l Z a0 hw [] av cv t1 t2 t3 h0 n0 Z0 HS_com_example_model_for_reads_modelforreads_model_FieldType__VALUES hcv) hZ (W_ hw 81) (W_ hw 11) (by decide) (by decide)) (g := (mkF m 0 #[rv a1, u_, u_, u_, u_] [])) rfl (by rw [hml]; rfl) (argsL := []) (rest := []) (lenOf pd_18 rfl) rfl (lb rfl) (hb hby d16_0) (fun _ _ => ⟨rfl, e0, (by decide : 0 + 1 ≤ _), (by decide : 0 + 3 ≤ _)⟩))
  obtain ⟨kv_y1, by1, rfl, bzy1, Nqy1, Kcy1, fy1_0⟩ := hQy1
  have Ny1 := Fr.app N0 Nqy1
  have gzy1 : n0 ≤ by1 := Nat.le_trans Z0 bzy1
  have szy1 : h0.size ≤ by1 := Nat.le_trans K0.1 bzy1
  have Zy1 := Nat.le_trans Z0 Kcy1.1
  have Ky1 := K0.trans Kcy1 all0
  refine Fin.step (sty1) ?_
  show Fin p e below s _ _ _ (Ty1.setTop (mkF m 3 #[rv a1, u_, u_, u_, u_] [(.ref by1)]))
  refine Fin.step (fun _ k => Yo.astoreN Xy1.here hx (hb hby d16_3) rfl rfl (l' := #[rv a1, rv by1, u_, u_, u_]) rfl (Yo.aloadN Xy1.here hx (hb hby d16_4) rfl rfl k)) ?_
  have voy2 := fy1_0
  obtain ⟨cly2, Ary2, qay2, say2, nay2, hay2, gay2⟩ := voy2
  refine Fin.step (Xy1.arraylength hx Ary2.1 (State.isArrayOf_alike hZ.alike Ary2.2.1) (g := (mkF m 5 #[rv a1, rv by1, u_, u_, u_] [(.ref by1)])) rfl rfl (hb hby d16_5)) ?_
  rw [len_of say2 nay2]
  show Fin p e below s _ _ _ (Ty1.setTop (mkF m 6 #[rv a1, rv by1, u_, u_, u_] [(.int 3)]))
  refine Fin.step (fun _ k => Yo.istoreN Xy1.here hx (hb hby d16_6) rfl (l' := #[rv a1, rv by1, iv 3, u_, u_]) rfl (Yo.iconst Xy1.here hx (hb hby d16_7) (Yo.istoreN Xy1.here hx (hb hby d16_8) rfl (l' := #[rv a1, rv by1, iv 3, iv 0, u_]) rfl (Yo.iloadN Xy1.here hx (hb hby d16_9) rfl (Yo.iloadN Xy1.here hx (hb hby d16_10) rfl (Yo.icmpNo Xy1.here hx (hb hby d16_11) rfl (tlt ((by decide) : ((0 : Int32) < (3 : Int32)))).2.1 (Yo.aloadN Xy1.here hx (hb hby d16_14) rfl rfl (Yo.iloadN Xy1.here hx (hb hby d16_15) rfl k)))))))) ?_
  refine fald Xy1 hx hZ rfl fy1_0 rfl (j := 0) (v := (.ref t1)) ⟨by decide, by decide⟩ rfl (hb hby d16_16) ?_
  refine Fin.step (fun _ k => Yo.astore Xy1.here hx (hb hby d16_17) rfl rfl (l' := #[rv a1, rv by1, iv 3, iv 0, rv t1]) rfl (Yo.aload Xy1.here hx (hb hby d16_19) rfl rfl k)) ?_
  have ry5 := (HF_t1_modelName.keep Kcy1 nin0)
  refine fget Xy1 hx hZ hown (W_ hw 96) rfl ry5 (hb hby d16_21) fun Ty4 Xy4 ey4 => ?_
  refine Fin.step (fun _ k => Yo.aloadN Xy4.here hx (hb hby d16_24) rfl rfl k) ?_
  have ry6 := (Sta_keep HS_java_lang_String_COMPACT_STRINGS Ky1)
  obtain ⟨cqy7, kqy7, qy7a, qy7b, qy7c⟩ := isOf hZ ey4 (HE_s1.keep Kcy1)
  obtain ⟨_, Ty7, Lcy7, Xy7, hQy7, sty7⟩ := pack (Xy4.virtualBack hx (y := n18) (z := n18) hown (mvT hZ (W_ hw 98)) (mvT hZ (W_ hw 99)) (notFace_of_selects (args := #[]) (mvT hZ (W_ hw 101))) (mvT hZ (W_ hw 101)) (mvT hZ (W_ hw 100)) (by decide) (backOf (W := 0) (rmeqL l Z a0 hw [] s1 a1 v1 k1 pn1 ls1 nb kn pm wl wc Ty1.heap n0 Zy1 (HE_s1.keep Kcy1) (HF_s1_coder.keep Kcy1 nin0) (HF_s1_value.keep Kcy1 nin0) (HV_v1.keep Kcy1 nin0) (HE_a1.keep Kcy1) (HF_a1_coder.keep Kcy1 nin0) (HF_a1_value.keep Kcy1 nin0) (HV_nb.keep Kcy1 nin0) ry6 hwc hp1 hs1 hwl hn_s1_a1) hZ (W_ hw 102) (W_ hw 3) (by decide) (by decide)) qy7a qy7c (g := (mkF m 25 #[rv a1, rv by1, iv 3, iv 0, rv t1] [(.ref a1), (.ref s1)])) rfl (by rw [hml]; rfl) (Steps.refl _) (argsL := [(.ref a1)]) (rest := []) (lenOf pd_19 rfl) rfl (lb rfl) (hb hby d16_25) (fun _ _ => ⟨rfl, ey4, (by decide : 1 + 0 ≤ _), (by decide : 3 + 0 ≤ _)⟩))
  obtain ⟨rfl, Nqy7, eqy7⟩ := hQy7
  have Ny7 := Fr.app Ny1 Nqy7
  refine Fin.step (sty7) ?_
  show Fin p e below s _ _ _ (Ty7.setTop (mkF m 28 #[rv a1, rv by1, iv 3, iv 0, rv t1] [(.int (own_eqb pn1 pm ls1 wl))]))
  refine Fin.step (fun _ k => Yo.ifYes Xy7.here hx (pc0 := 28) (pc' := 37) rfl (hb hby d16_28) rfl ((if0 _ _).trans (teq (he1 : ((own_eqb pn1 pm ls1 wl) = (0 : Int32)))).1) (by decide) (by decide) (Yo.iinc Xy7.here hx (hb hby d16_37) rfl (l' := #[rv a1, rv by1, iv 3, iv 1, rv t1]) rfl k)) ?_
  show Fin p e below s _ _ _ (Ty7.setTop (mkF m 40 #[rv a1, rv by1, iv 3, iv 1, rv t1] []))
  refine Fin.step (fun _ k => Yo.goto Xy7.here hx (pc0 := 40) (pc' := 9) rfl (hb hby d16_40) (by decide) (by decide) (Yo.iloadN Xy7.here hx (hb hby d16_9) rfl (Yo.iloadN Xy7.here hx (hb hby d16_10) rfl (Yo.icmpNo Xy7.here hx (hb hby d16_11) rfl (tlt ((by decide) : ((1 : Int32) < (3 : Int32)))).2.1 (Yo.aloadN Xy7.here hx (hb hby d16_14) rfl rfl (Yo.iloadN Xy7.here hx (hb hby d16_15) rfl k)))))) ?_
  refine fald Xy7 hx hZ eqy7 fy1_0 rfl (j := 1) (v := (.ref t2)) ⟨by decide, by decide⟩ rfl (hb hby d16_16) ?_
  refine Fin.step (fun _ k => Yo.astore Xy7.here hx (hb hby d16_17) rfl rfl (l' := #[rv a1, rv by1, iv 3, iv 1, rv t2]) rfl (Yo.aload Xy7.here hx (hb hby d16_19) rfl rfl k)) ?_
  have ry10 := (HF_t2_modelName.keep Kcy1 nin0)
  refine fget Xy7 hx hZ hown (W_ hw 96) eqy7 ry10 (hb hby d16_21) fun Ty9 Xy9 ey9 => ?_
  refine Fin.step (fun _ k => Yo.aloadN Xy9.here hx (hb hby d16_24) rfl rfl k) ?_
  obtain ⟨cqy11, kqy11, qy11a, qy11b, qy11c⟩ := isOf hZ ey9 (HE_s2.keep Kcy1)
  obtain ⟨_, Ty11, Lcy11, Xy11, hQy11, sty11⟩ := pack (Xy9.virtualBack hx (y := n18) (z := n18) hown (mvT hZ (W_ hw 98)) (mvT hZ (W_ hw 99)) (notFace_of_selects (args := #[]) (mvT hZ (W_ hw 101))) (mvT hZ (W_ hw 101)) (mvT hZ (W_ hw 100)) (by decide) (backOf (W := 0) (rmeqL l Z a0 hw [] s2 a1 v2 k2 pn2 ls2 nb kn pm wl wc Ty1.heap n0 Zy1 (HE_s2.keep Kcy1) (HF_s2_coder.keep Kcy1 nin0) (HF_s2_value.keep Kcy1 nin0) (HV_v2.keep Kcy1 nin0) (HE_a1.keep Kcy1) (HF_a1_coder.keep Kcy1 nin0) (HF_a1_value.keep Kcy1 nin0) (HV_nb.keep Kcy1 nin0) ry6 hwc hp2 hs2 hwl hn_s2_a1) hZ (W_ hw 102) (W_ hw 3) (by decide) (by decide)) qy11a qy11c (g := (mkF m 25 #[rv a1, rv by1, iv 3, iv 1, rv t2] [(.ref a1), (.ref s2)])) rfl (by rw [hml]; rfl) (Steps.refl _) (argsL := [(.ref a1)]) (rest := []) (lenOf pd_19 rfl) rfl (lb rfl) (hb hby d16_25) (fun _ _ => ⟨rfl, ey9, (by decide : 1 + 0 ≤ _), (by decide : 3 + 0 ≤ _)⟩))
  obtain ⟨rfl, Nqy11, eqy11⟩ := hQy11
  have Ny11 := Fr.app Ny7 Nqy11
  refine Fin.step (sty11) ?_
  show Fin p e below s _ _ _ (Ty11.setTop (mkF m 28 #[rv a1, rv by1, iv 3, iv 1, rv t2] [(.int (own_eqb pn2 pm ls2 wl))]))
  refine Fin.step (fun _ k => Yo.ifYes Xy11.here hx (pc0 := 28) (pc' := 37) rfl (hb hby d16_28) rfl ((if0 _ _).trans (teq (he2 : ((own_eqb pn2 pm ls2 wl) = (0 : Int32)))).1) (by decide) (by decide) (Yo.iinc Xy11.here hx (hb hby d16_37) rfl (l' := #[rv a1, rv by1, iv 3, iv 2, rv t2]) rfl k)) ?_
  show Fin p e below s _ _ _ (Ty11.setTop (mkF m 40 #[rv a1, rv by1, iv 3, iv 2, rv t2] []))
  refine Fin.step (fun _ k => Yo.goto Xy11.here hx (pc0 := 40) (pc' := 9) rfl (hb hby d16_40) (by decide) (by decide) (Yo.iloadN Xy11.here hx (hb hby d16_9) rfl (Yo.iloadN Xy11.here hx (hb hby d16_10) rfl (Yo.icmpNo Xy11.here hx (hb hby d16_11) rfl (tlt ((by decide) : ((2 : Int32) < (3 : Int32)))).2.1 (Yo.aloadN Xy11.here hx (hb hby d16_14) rfl rfl (Yo.iloadN Xy11.here hx (hb hby d16_15) rfl k)))))) ?_
  refine fald Xy11 hx hZ eqy11 fy1_0 rfl (j := 2) (v := (.ref t3)) ⟨by decide, by decide⟩ rfl (hb hby d16_16) ?_
  refine Fin.step (fun _ k => Yo.astore Xy11.here hx (hb hby d16_17) rfl rfl (l' := #[rv a1, rv by1, iv 3, iv 2, rv t3]) rfl (Yo.aload Xy11.here hx (hb hby d16_19) rfl rfl k)) ?_
  have ry14 := (HF_t3_modelName.keep Kcy1 nin0)
  refine fget Xy11 hx hZ hown (W_ hw 96) eqy11 ry14 (hb hby d16_21) fun Ty13 Xy13 ey13 => ?_
  refine Fin.step (fun _ k => Yo.aloadN Xy13.here hx (hb hby d16_24) rfl rfl k) ?_
  obtain ⟨cqy15, kqy15, qy15a, qy15b, qy15c⟩ := isOf hZ ey13 (HE_s3.keep Kcy1)
  obtain ⟨_, Ty15, Lcy15, Xy15, hQy15, sty15⟩ := pack (Xy13.virtualBack hx (y := n18) (z := n18) hown (mvT hZ (W_ hw 98)) (mvT hZ (W_ hw 99)) (notFace_of_selects (args := #[]) (mvT hZ (W_ hw 101))) (mvT hZ (W_ hw 101)) (mvT hZ (W_ hw 100)) (by decide) (backOf (W := 0) (rmeqL l Z a0 hw [] s3 a1 v3 k3 pn3 ls3 nb kn pm wl wc Ty1.heap n0 Zy1 (HE_s3.keep Kcy1) (HF_s3_coder.keep Kcy1 nin0) (HF_s3_value.keep Kcy1 nin0) (HV_v3.keep Kcy1 nin0) (HE_a1.keep Kcy1) (HF_a1_coder.keep Kcy1 nin0) (HF_a1_value.keep Kcy1 nin0) (HV_nb.keep Kcy1 nin0) ry6 hwc hp3 hs3 hwl hn_s3_a1) hZ (W_ hw 102) (W_ hw 3) (by decide) (by decide)) qy15a qy15c (g := (mkF m 25 #[rv a1, rv by1, iv 3, iv 2, rv t3] [(.ref a1), (.ref s3)])) rfl (by rw [hml]; rfl) (Steps.refl _) (argsL := [(.ref a1)]) (rest := []) (lenOf pd_19 rfl) rfl (lb rfl) (hb hby d16_25) (fun _ _ => ⟨rfl, ey13, (by decide : 1 + 0 ≤ _), (by decide : 3 + 0 ≤ _)⟩))
  obtain ⟨rfl, Nqy15, eqy15⟩ := hQy15
  have Ny15 := Fr.app Ny11 Nqy15
  refine Fin.step (sty15) ?_
  show Fin p e below s _ _ _ (Ty15.setTop (mkF m 28 #[rv a1, rv by1, iv 3, iv 2, rv t3] [(.int (own_eqb pn3 pm ls3 wl))]))
  refine Fin.step (fun _ k => Yo.ifNo Xy15.here hx (hb hby d16_28) rfl ((if0 _ _).trans (feq (he3 : ¬ ((own_eqb pn3 pm ls3 wl) = (0 : Int32)))).1) (Yo.aload Xy15.here hx (hb hby d16_31) rfl rfl k)) ?_
  obtain ⟨_, Ty16, Lcy16, Xy16, hQy16, sty16⟩ := packS (Jvm.LawKit.callS Xy15 hx (y := n20) hown (mvT hZ (W_ hw 107)) (mvT hZ (W_ hw 108)) (mvT hZ (W_ hw 109)) (mvT hZ (W_ hw 110)) (by decide) (backOf (W := 0) (rmoo l Z a0 hw [] t3 Ty1.heap n0 Zy1 ) hZ (W_ hw 110) (W_ hw 109) (by decide) (by decide)) (g := (mkF m 33 #[rv a1, rv by1, iv 3, iv 2, rv t3] [(.ref t3)])) rfl (by rw [hml]; rfl) (argsL := [(.ref t3)]) (rest := []) (lenOf pd_21 rfl) rfl (lb rfl) (hb hby d16_33) (fun _ _ => ⟨rfl, eqy15, (by decide : 1 + 1 ≤ _), (by decide : 3 + 1 ≤ _)⟩))
  obtain ⟨by16, rfl, bzy16, Nqy16, Kcy16, fy16_0, fy16_1⟩ := hQy16
  have Ny16 := Fr.app Ny15 Nqy16
  have gzy16 : n0 ≤ by16 := Nat.le_trans Zy1 bzy16
  have szy16 : h0.size ≤ by16 := Nat.le_trans Ky1.1 bzy16
  have Zy16 := Nat.le_trans Zy1 Kcy16.1
  have Ky16 := Ky1.trans Kcy16 all0
  refine Fin.step (sty16) ?_
  show Fin p e below s _ _ _ (Ty16.setTop (mkF m 36 #[rv a1, rv by1, iv 3, iv 2, rv t3] [(.ref by16)]))
  refine Fin.retR Xy16 hx hret rfl rfl hlk (hb hby d16_36) (by decide) (by decide) ?_
  show QfmL3 Z a1 av cv t1 t2 t3 eo wc s1 v1 k1 pn1 ls1 s2 v2 k2 pn2 ls2 s3 v3 k3 pn3 ls3 nb kn pm wl h0 n0 _ Ty16.heap _
  exact ⟨by16, rfl, szy16, Ny16, Ky16, fy16_0, fy16_1⟩
theorem pn_0 : plainName "com/example/model_for_reads/modelforreads/model/FieldTypeFromModelNamePinLaw" = true := by first | (simp [plainName, overriddenIn]; done) | decide +kernel
theorem pd_22 : parseMethodDescriptor "(Ljava/lang/String;I)C" = some ⟨[(.object "java/lang/String"), .int], some .char⟩ := by decide +kernel
theorem pd_23 : parseMethodDescriptor "([CI)Ljava/lang/String;" = some ⟨[(.array .char), .int], some (.object "java/lang/String")⟩ := by decide +kernel
theorem pd_24 : parseMethodDescriptor "(Ljava/lang/String;)Ljava/util/Optional;" = some ⟨[(.object "java/lang/String")], some (.object "java/util/Optional")⟩ := by decide +kernel
theorem pd_25 : parseMethodDescriptor "(JI)C" = some ⟨[.long, .int], some .char⟩ := by decide +kernel
theorem ef_rm0 (m : MethodId) (x0 : Int32) (x1 : Int32) (x2 : Int32) (x3 : Int64) : entryFrame m #[(.int x0), (.int x1), (.int x2), (.long x3)] maxLocals = mkF m 0 #[.val (.int x0), .val (.int x1), .val (.int x2), .val (.long x3), .second, .unset, .unset, .unset, .unset, .unset, .unset, .unset, .unset, .unset, .unset, .unset] [] := by first | (simp [entryFrame, mkF, argsToLocals, Value.category, maxLocals]; done) | rfl
def Q0 (Z : State) (p1 p2 p3 : Int32) (pd : Int64) (wc : Int32) (fv : Value) (eo av : Addr) (cv : Cell) (t1 t2 t3 s1 v1 : Addr) (k1 : ClassId) (s2 v2 : Addr) (k2 : ClassId) (s3 v3 : Addr) (k3 : ClassId) (h0 : Heap) (n0 : Nat) (v : Option Value) (h : Heap) (L : List Loc) : Prop := v = some (.int (1 : Int32)) ∧ Fr n0 L ∧ Keep h0 h []
set_option maxRecDepth 65536 in
set_option maxHeartbeats 40000000 in
theorem rm0 (l : Launch) (Z : State) (a0 : Array Value) (hw : ∀ d ∈ tables_1, d.before a0 Z = true) (ws : List Jvm.Cond) (p1 : Int32) (p2 : Int32) (p3 : Int32) (pd : Int64) (wc : Int32) (fv : Value) (eo : Addr) (av : Addr) (cv : Cell) (t1 : Addr) (t2 : Addr) (t3 : Addr) (s1 : Addr) (v1 : Addr) (k1 : ClassId) (s2 : Addr) (v2 : Addr) (k2 : ClassId) (s3 : Addr) (v3 : Addr) (k3 : ClassId) (h0 : Heap) (n0 : Nat) (Z0 : n0 ≤ h0.size) (HS_java_lang_String_COMPACT_STRINGS : Sta Z h0 q3 q7 "Z" (.int wc)) (HS_jdk_internal_util_Preconditions_SIOOBE_FORMATTER : Sta Z h0 q4 q8 q5 fv) (HS_java_lang_StringUTF16__assertionsDisabled : Sta Z h0 q6 "$assertionsDisabled" "Z" (.int (1 : Int32))) (HS_java_lang_StringUTF16_HI_BYTE_SHIFT : Sta Z h0 q6 "HI_BYTE_SHIFT" "I" (.int (0 : Int32))) (HS_java_lang_StringUTF16_LO_BYTE_SHIFT : Sta Z h0 q6 "LO_BYTE_SHIFT" "I" (.int (8 : Int32))) (HS_java_util_Optional_EMPTY : Sta Z h0 "java/util/Optional" "EMPTY" "Ljava/util/Optional;" (.ref eo)) (HS_com_example_model_for_reads_modelforreads_model_FieldType__VALUES : Sta Z h0 q0 "$VALUES" q2 (.ref av)) (HE_eo : Exa Z h0 eo "java/util/Optional") (HF_eo_value : Fld Z h0 eo "java/util/Optional" "value" "Ljava/lang/Object;" .null) (HS_com_example_model_for_reads_modelforreads_model_FieldType_INT : Sta Z h0 q0 "INT" q1 (.ref t1)) (HF_t1_modelName : Fld Z h0 t1 q0 "modelName" "Ljava/lang/String;" (.ref s1)) (HE_s1 : Exa Z h0 s1 q3) (HF_s1_coder : Fld Z h0 s1 q3 "coder" "B" (.int (0 : Int32))) (HF_s1_value : Fld Z h0 s1 q3 "value" "[B" (.ref v1)) (HV_v1 : Arv Z h0 v1 k1 .byte (3 : Int32) [(.int (105 : Int32)), (.int (110 : Int32)), (.int (116 : Int32))] (.int (0 : Int32))) (HS_com_example_model_for_reads_modelforreads_model_FieldType_DECIMAL : Sta Z h0 q0 "DECIMAL" q1 (.ref t2)) (HF_t2_modelName : Fld Z h0 t2 q0 "modelName" "Ljava/lang/String;" (.ref s2)) (HE_s2 : Exa Z h0 s2 q3) (HF_s2_coder : Fld Z h0 s2 q3 "coder" "B" (.int (0 : Int32))) (HF_s2_value : Fld Z h0 s2 q3 "value" "[B" (.ref v2)) (HV_v2 : Arv Z h0 v2 k2 .byte (7 : Int32) [(.int (100 : Int32)), (.int (101 : Int32)), (.int (99 : Int32)), (.int (105 : Int32)), (.int (109 : Int32)), (.int (97 : Int32)), (.int (108 : Int32))] (.int (0 : Int32))) (HS_com_example_model_for_reads_modelforreads_model_FieldType_STRING : Sta Z h0 q0 "STRING" q1 (.ref t3)) (HF_t3_modelName : Fld Z h0 t3 q0 "modelName" "Ljava/lang/String;" (.ref s3)) (HE_s3 : Exa Z h0 s3 q3) (HF_s3_coder : Fld Z h0 s3 q3 "coder" "B" (.int (0 : Int32))) (HF_s3_value : Fld Z h0 s3 q3 "value" "[B" (.ref v3)) (HV_v3 : Arv Z h0 v3 k3 .byte (6 : Int32) [(.int (115 : Int32)), (.int (116 : Int32)), (.int (114 : Int32)), (.int (105 : Int32)), (.int (110 : Int32)), (.int (103 : Int32))] (.int (0 : Int32))) (hwc : ¬ wc = 0) (hfv : fv.isRef = true) (hcv : Arr Z h0 av cv (.object "com/example/model_for_reads/modelforreads/model/FieldType") ∧ Exa Z h0 av "[Lcom/example/model_for_reads/modelforreads/model/FieldType;" ∧ FitC Z cv ∧ cv.slots = ([(.ref t1), (.ref t2), (.ref t3)] : List Value).toArray) (hCH : CHv Z own_EL Z.vm h0) :
    MetFree l x (head1 (Jvm.Cond.code x code maxLocals ret :: ws) room_1) (fun a U => a = #[(.int p1), (.int p2), (.int p3), (.long pd)] ∧ U = Z ∧ Z.heap = h0) (fun _ _ _ _ _ => True) (fun _ U o U' => ∃ v L, o = .returned v ∧ Q0 Z p1 p2 p3 pd wc fv eo av cv t1 t2 t3 s1 v1 k1 s2 v2 k2 s3 v3 k3 h0 n0 v U'.heap L ∧ ReturnedEndW U o U' L room_1.cells room_1.slots) := by
  refine MetFree.of_bodySF (plainFor_of_name pn_0) hisR ?_
  intro p e s m args below meth c s₁ Bd hml0 hP hK
  obtain ⟨rfl, hUZ, hh0⟩ := hP
  have hZ : Z.Warmed39 s.vm := by rw [hUZ]; exact State.Warmed39.refl _
  have hh : s.heap = h0 := by rw [hUZ]; exact hh0
  have hx := Bd.exec
  have hby := Bd.bytes
  have hlk := BodyLoose.notSynchronized Bd
  have hret := Bd.returns
  have hml : c.maxLocals = 16 := hml0
  have hown : s.vm.findClass "com/example/model_for_reads/modelforreads/model/FieldTypeFromModelNamePinLaw" = some m.cls := findClass_of_methodNamed Bd.named
  have hnm := (name_of_methodNamed Bd.named Bd.method).1
  have X0 : Stand p l e room_1 s m #[(.int p1), (.int p2), (.int p3), (.long pd)] below meth c s₁ [] 0 0 := Stand.of_body Bd
  have e0 : s₁.heap = h0 := by rw [← hh, Bd.state]; rfl
  have N0 := Fr.nil n0
  have K0 : Keep h0 h0 [] := Keep.refl h0 _
  have hEL := own_EW hw
  have wS := own_wS hw
  have CH0 : CHr Z own_EL s.vm h0 s.vm h0 := by rw [hUZ]; exact CHr.refl hCH
  refine FinW.step (Q := fun v h L => Q0 Z p1 p2 p3 pd wc fv eo av cv t1 t2 t3 s1 v1 k1 s2 v2 k2 s3 v3 k3 h0 n0 v h L) (st' := s₁.setTop (mkF m 0 #[.val (.int p1), .val (.int p2), .val (.int p3), .val (.long pd), .second, .unset, .unset, .unset, .unset, .unset, .unset, .unset, .unset, .unset, .unset, .unset] [])) (fun t k => castTop (ef_rm0 m p1 p2 p3 pd) k) ?_
  show FinW p e below s _ _ _ (s₁.setTop (mkF m 0 #[iv p1, iv p2, iv p3, .val (.long pd), .second, u_, u_, u_, u_, u_, u_, u_, u_, u_, u_, u_] []))
  refine FinW.step (fun _ k => Yo.iloadN X0.here hx (hb hby at_0) rfl (Yo.iconst X0.here hx (hb hby at_1) (Yo.iand X0.here hx (hb hby at_2) rfl k))) ?_
  show FinW p e below s _ _ _ (s₁.setTop (mkF m 3 #[iv p1, iv p2, iv p3, .val (.long pd), .second, u_, u_, u_, u_, u_, u_, u_, u_, u_, u_, u_] [(.int (p1 &&& (3 : Int32)))]))
  refine FinW.step (fun _ k => Yo.istore X0.here hx (hb hby at_3) rfl (l' := #[iv p1, iv p2, iv p3, .val (.long pd), .second, .val (.int (p1 &&& (3 : Int32))), u_, u_, u_, u_, u_, u_, u_, u_, u_, u_]) rfl (Yo.iloadN X0.here hx (hb hby at_5) rfl (Yo.iconst X0.here hx (hb hby at_6) (Yo.iushr X0.here hx (hb hby at_7) rfl k)))) ?_
  show FinW p e below s _ _ _ (s₁.setTop (mkF m 8 #[iv p1, iv p2, iv p3, .val (.long pd), .second, .val (.int (p1 &&& (3 : Int32))), u_, u_, u_, u_, u_, u_, u_, u_, u_, u_] [(.int (ushI p1 (2 : Int32)))]))
  refine FinW.step (fun _ k => Yo.iconst X0.here hx (hb hby at_8) (Yo.iand X0.here hx (hb hby at_9) rfl k)) ?_
  show FinW p e below s _ _ _ (s₁.setTop (mkF m 10 #[iv p1, iv p2, iv p3, .val (.long pd), .second, .val (.int (p1 &&& (3 : Int32))), u_, u_, u_, u_, u_, u_, u_, u_, u_, u_] [(.int ((ushI p1 (2 : Int32)) &&& (3 : Int32)))]))
  refine FinW.step (fun _ k => Yo.istore X0.here hx (hb hby at_10) rfl (l' := #[iv p1, iv p2, iv p3, .val (.long pd), .second, .val (.int (p1 &&& (3 : Int32))), .val (.int ((ushI p1 (2 : Int32)) &&& (3 : Int32))), u_, u_, u_, u_, u_, u_, u_, u_, u_]) rfl (Yo.iloadN X0.here hx (hb hby at_12) rfl k)) ?_
  refine FinW.step (X0.ldcInt hx hown (mvT hZ (W_ hw 0)) (g := (mkF m 13 #[iv p1, iv p2, iv p3, .val (.long pd), .second, .val (.int (p1 &&& (3 : Int32))), .val (.int ((ushI p1 (2 : Int32)) &&& (3 : Int32))), u_, u_, u_, u_, u_, u_, u_, u_, u_] [(.int p3)])) rfl (hb hby at_13)) ?_
  show FinW p e below s _ _ _ (s₁.setTop (mkF m 15 #[iv p1, iv p2, iv p3, .val (.long pd), .second, .val (.int (p1 &&& (3 : Int32))), .val (.int ((ushI p1 (2 : Int32)) &&& (3 : Int32))), u_, u_, u_, u_, u_, u_, u_, u_, u_] [(.int 65535), (.int p3)]))
  refine FinW.step (fun _ k => Yo.iand X0.here hx (hb hby at_15) rfl k) ?_
  show FinW p e below s _ _ _ (s₁.setTop (mkF m 16 #[iv p1, iv p2, iv p3, .val (.long pd), .second, .val (.int (p1 &&& (3 : Int32))), .val (.int ((ushI p1 (2 : Int32)) &&& (3 : Int32))), u_, u_, u_, u_, u_, u_, u_, u_, u_] [(.int (p3 &&& (65535 : Int32)))]))
  refine FinW.step (fun _ k => Yo.i2c X0.here hx (hb hby at_16) rfl k) ?_
  show FinW p e below s _ _ _ (s₁.setTop (mkF m 17 #[iv p1, iv p2, iv p3, .val (.long pd), .second, .val (.int (p1 &&& (3 : Int32))), .val (.int ((ushI p1 (2 : Int32)) &&& (3 : Int32))), u_, u_, u_, u_, u_, u_, u_, u_, u_] [(.int ((p3 &&& (65535 : Int32)).toUInt32.toUInt16.toUInt32.toInt32))]))
  refine FinW.step (fun _ k => Yo.istore X0.here hx (hb hby at_17) rfl (l' := #[iv p1, iv p2, iv p3, .val (.long pd), .second, .val (.int (p1 &&& (3 : Int32))), .val (.int ((ushI p1 (2 : Int32)) &&& (3 : Int32))), .val (.int ((p3 &&& (65535 : Int32)).toUInt32.toUInt16.toUInt32.toInt32)), u_, u_, u_, u_, u_, u_, u_, u_]) rfl k) ?_
  obtain ⟨zb, h_zb⟩ : ∃ z : Int32, z = (p1 &&& (3 : Int32)) := ⟨_, rfl⟩
  rw [← h_zb]
  show FinW p e below s _ _ _ (s₁.setTop (mkF m 19 #[iv p1, iv p2, iv p3, .val (.long pd), .second, iv zb, .val (.int ((ushI p1 (2 : Int32)) &&& (3 : Int32))), .val (.int ((p3 &&& (65535 : Int32)).toUInt32.toUInt16.toUInt32.toInt32)), u_, u_, u_, u_, u_, u_, u_, u_] []))
  obtain ⟨zo, h_zo⟩ : ∃ z : Int32, z = ((ushI p1 (2 : Int32)) &&& (3 : Int32)) := ⟨_, rfl⟩
  rw [← h_zo]
  show FinW p e below s _ _ _ (s₁.setTop (mkF m 19 #[iv p1, iv p2, iv p3, .val (.long pd), .second, iv zb, iv zo, .val (.int ((p3 &&& (65535 : Int32)).toUInt32.toUInt16.toUInt32.toInt32)), u_, u_, u_, u_, u_, u_, u_, u_] []))
  obtain ⟨zc, h_zc⟩ : ∃ z : Int32, z = ((p3 &&& (65535 : Int32)).toUInt32.toUInt16.toUInt32.toInt32) := ⟨_, rfl⟩
  rw [← h_zc]
  show FinW p e below s _ _ _ (s₁.setTop (mkF m 19 #[iv p1, iv p2, iv p3, .val (.long pd), .second, iv zb, iv zo, iv zc, u_, u_, u_, u_, u_, u_, u_, u_] []))
  have Gz := own_zc h_zc
  refine FinW.step (fun _ k => Yo.bipush X0.here hx (hb hby at_19) k) ?_
  obtain ⟨Ty1, hy1, ky1, Xy1, ey1, Ey1, Ay1, sty1⟩ := newP X0 hx hZ (W_ hw 1) e0 (g := (mkF m 21 #[iv p1, iv p2, iv p3, .val (.long pd), .second, iv zb, iv zo, iv zc, u_, u_, u_, u_, u_, u_, u_, u_] [(.int 8)])) rfl (hb hby at_21) rfl (by decide) (cap := 8) (by decide) (by decide) (by decide) (by decide)
  obtain ⟨by1, gy1⟩ : ∃ z, z = h0.size := ⟨_, rfl⟩
  rw [← gy1] at Ay1 sty1
  have gzy1 : n0 ≤ by1 := Nat.le_trans Z0 (Nat.le_of_eq gy1.symm)
  have szy1 : h0.size ≤ by1 := Nat.le_trans K0.1 (Nat.le_of_eq gy1.symm)
  have CHy1 := CH0.trans (CHr.ext Ey1 CH0.1)
  have Zy1 := Nat.le_trans Z0 Ey1.1
  have Ky1 := K0.ext Ey1
  have Vy1 : Arv Z hy1 by1 ky1 .char (8 : Int32) [(.int 0), (.int 0), (.int 0), (.int 0), (.int 0), (.int 0), (.int 0), (.int 0)] (.int 0) := (Arv.new Ay1 (by decide)).pad (pad_rep [] (.int 0) 8)
  refine FinW.step (sty1) ?_
  show FinW p e below s _ _ _ (Ty1.setTop (mkF m 23 #[iv p1, iv p2, iv p3, .val (.long pd), .second, iv zb, iv zo, iv zc, u_, u_, u_, u_, u_, u_, u_, u_] [(.ref by1)]))
  refine FinW.step (fun _ k => Yo.astore Xy1.here hx (hb hby at_23) rfl rfl (l' := #[iv p1, iv p2, iv p3, .val (.long pd), .second, iv zb, iv zo, iv zc, rv by1, u_, u_, u_, u_, u_, u_, u_]) rfl k) ?_
  have vsy2 := Vy1
  obtain ⟨csy2, Asy2, -⟩ := vsy2
  have sfby1_y2 : Safe Z own_EL _ _ _ := Safe.arr hZ.alike Asy2 (by decide)
  rcases own_c4 h_zb with rfl | rfl | rfl | rfl
  · show FinW p e below s _ _ _ (Ty1.setTop (mkF m 25 #[iv p1, iv p2, iv p3, .val (.long pd), .second, iv 0, iv zo, iv zc, rv by1, u_, u_, u_, u_, u_, u_, u_] []))
    refine FinW.step (fun _ k => Yo.iload Xy1.here hx (hb hby at_25) rfl (Yo.ifNo Xy1.here hx (hb hby at_27) rfl ((if0 _ _).trans (teq ((by decide) : ((0 : Int32) = (0 : Int32)))).2) k)) ?_
    have hky3 := (Nat.le_trans (Nat.zero_le _) Ey1.1)
    obtain ⟨ay4, Ty4, hy4, k1y4, by4, kby4, Xy4, ey4, Ey4, hSy4, hky4, hZ, hown, Ay4, Fcy4, Fvy4, Vy4, -, -, CHcy4, -, nly4, sty4⟩ := ldcCH (s := s) (vm0 := s.vm) Xy1 hx hZ hown (W_ hw 2) wS ey1 ((State.WarmedH.refl s).since 0) hky3 hEL (List.mem_of_getElem? (i := 0) rfl) CHy1.1 (vs := [(.int 105), (.int 110), (.int 116)]) (z := (3 : Int32)) ⟨by decide, by rfl⟩ (by decide) (by decide) (g := (mkF m 30 #[iv p1, iv p2, iv p3, .val (.long pd), .second, iv 0, iv zo, iv zc, rv by1, u_, u_, u_, u_, u_, u_, u_] [])) rfl (hb hby at_30) (n := 12) (by decide) (by decide) (by decide) (by decide)
    have sfby1_y4 := CHcy4.safe Vy1.lt sfby1_y2
    have nlby1_y4 := nly4 by1 sfby1_y4
    have CHy4 := CHy1.trans CHcy4
    have Zy4 := Nat.le_trans Zy1 Ey4.1
    have Ky4 := Ky1.ext Ey4
    refine FinW.step (sty4) ?_
    show FinW p e below s _ _ _ (Ty4.setTop (mkF m 32 #[iv p1, iv p2, iv p3, .val (.long pd), .second, iv 0, iv zo, iv zc, rv by1, u_, u_, u_, u_, u_, u_, u_] [(.ref ay4)]))
    refine FinW.step (fun _ k => Yo.astore Xy4.here hx (hb hby at_32) rfl rfl (l' := #[iv p1, iv p2, iv p3, .val (.long pd), .second, iv 0, iv zo, iv zc, rv by1, rv ay4, u_, u_, u_, u_, u_, u_]) rfl k) ?_
    obtain ⟨Ty5, Xy5, ey5, sty5⟩ := getS2 Xy4 hx hZ hown (host := "") (Or.inl (W_ hw 10)) Via.refl ey4 (Sta_keep HS_com_example_model_for_reads_modelforreads_model_FieldType_INT Ky4) (g := (mkF m 34 #[iv p1, iv p2, iv p3, .val (.long pd), .second, iv 0, iv zo, iv zc, rv by1, rv ay4, u_, u_, u_, u_, u_, u_] [])) rfl (hb hby at_34)
    refine FinW.step (sty5) ?_
    show FinW p e below s _ _ _ (Ty5.setTop (mkF m 37 #[iv p1, iv p2, iv p3, .val (.long pd), .second, iv 0, iv zo, iv zc, rv by1, rv ay4, u_, u_, u_, u_, u_, u_] [(.ref t1)]))
    refine FinW.step (fun _ k => Yo.astore Xy5.here hx (hb hby at_37) rfl rfl (l' := #[iv p1, iv p2, iv p3, .val (.long pd), .second, iv 0, iv zo, iv zc, rv by1, rv ay4, rv t1, u_, u_, u_, u_, u_]) rfl (Yo.goto Xy5.here hx (pc0 := 39) (pc' := 85) rfl (hb hby at_39) (by decide) (by decide) (Yo.iload Xy5.here hx (hb hby at_85) rfl (Yo.iconst Xy5.here hx (hb hby at_87) (Yo.icmpNo Xy5.here hx (hb hby at_88) rfl (tlt ((by decide) : ((0 : Int32) < (3 : Int32)))).2.1 (Yo.aload Xy5.here hx (hb hby at_91) rfl rfl k)))))) ?_
    have ry6 := (Sta_keep HS_java_lang_String_COMPACT_STRINGS Ky4)
    obtain ⟨cqy7, kqy7, qy7a, qy7b, qy7c⟩ := isOf hZ ey5 Ay4
    obtain ⟨_, Ty7, Lcy7, Xy7, hQy7, sty7⟩ := pack (Xy5.virtualBack hx (y := n1) (z := n1) hown (mvT hZ (W_ hw 13)) (mvT hZ (W_ hw 14)) (notFace_of_selects (args := #[]) (mvT hZ (W_ hw 16))) (mvT hZ (W_ hw 16)) (mvT hZ (W_ hw 15)) (by decide) (backOf (W := 0) (rmsl l Z a0 hw [] ay4 by4 kby4 3 _ wc hy4 n0 Zy4 Ay4 Fcy4 Fvy4 Vy4 ry6 hwc) hZ (W_ hw 17) (W_ hw 3) (by decide) (by decide)) qy7a qy7c (g := (mkF m 93 #[iv p1, iv p2, iv p3, .val (.long pd), .second, iv 0, iv zo, iv zc, rv by1, rv ay4, rv t1, u_, u_, u_, u_, u_] [(.ref ay4)])) rfl (by rw [hml]; rfl) (Steps.refl _) (argsL := []) (rest := []) (lenOf pd_14 rfl) rfl (lb rfl) (hb hby at_93) (fun _ _ => ⟨rfl, ey5, (by decide : 3 + 0 ≤ _), (by decide : 24 + 0 ≤ _)⟩))
    obtain ⟨rfl, Nqy7, eqy7⟩ := hQy7
    have Ny7 := Fr.app N0 Nqy7
    refine FinW.step (sty7) ?_
    show FinW p e below s _ _ _ (Ty7.setTop (mkF m 96 #[iv p1, iv p2, iv p3, .val (.long pd), .second, iv 0, iv zo, iv zc, rv by1, rv ay4, rv t1, u_, u_, u_, u_, u_] [(.int 3)]))
    refine FinW.step (fun _ k => Yo.istore Xy7.here hx (hb hby at_96) rfl (l' := #[iv p1, iv p2, iv p3, .val (.long pd), .second, iv 0, iv zo, iv zc, rv by1, rv ay4, rv t1, u_, u_, iv 3, u_, u_]) rfl (Yo.aload Xy7.here hx (hb hby at_98) rfl rfl (Yo.iconst Xy7.here hx (hb hby at_100) (Yo.aload Xy7.here hx (hb hby at_101) rfl rfl (Yo.iconst Xy7.here hx (hb hby at_103) k))))) ?_
    have ry8 := (Sta_keep HS_jdk_internal_util_Preconditions_SIOOBE_FORMATTER Ky4)
    obtain ⟨_, Ty9, Lcy9, Xy9, hQy9, sty9⟩ := packS (Jvm.LawKit.callS Xy7 hx (y := n3) hown (mvT hZ (W_ hw 26)) (mvT hZ (W_ hw 27)) (mvT hZ (W_ hw 28)) (mvT hZ (W_ hw 29)) (by decide) (backOf (W := 2) (rmat1 l Z a0 hw [] ay4 0 by4 kby4 3 _ fv wc 105 105 hy4 n0 Zy4 Ay4 Fcy4 Fvy4 Vy4 ry8 ry6 hfv hwc (by decide) rfl (by decide)) hZ (W_ hw 29) (W_ hw 28) (by decide) (by decide)) (g := (mkF m 104 #[iv p1, iv p2, iv p3, .val (.long pd), .second, iv 0, iv zo, iv zc, rv by1, rv ay4, rv t1, u_, u_, iv 3, u_, u_] [(.int 0), (.ref ay4), (.int 0), (.ref by1)])) rfl (by rw [hml]; rfl) (argsL := [(.ref ay4), (.int 0)]) (rest := [(.int 0), (.ref by1)]) (lenOf pd_22 rfl) rfl (lb rfl) (hb hby at_104) (fun _ _ => ⟨rfl, eqy7, (by decide : 3 + 0 ≤ _), (by decide : 24 + 0 ≤ _)⟩))
    obtain ⟨rfl, Nqy9, eqy9⟩ := hQy9
    have Ny9 := Fr.app Ny7 Nqy9
    refine FinW.step (sty9) ?_
    show FinW p e below s _ _ _ (Ty9.setTop (mkF m 107 #[iv p1, iv p2, iv p3, .val (.long pd), .second, iv 0, iv zo, iv zc, rv by1, rv ay4, rv t1, u_, u_, iv 3, u_, u_] [(.int 105), (.int 0), (.ref by1)]))
    obtain ⟨Ty10, hy10, Xy10, ey10, Wy10, Vy10, Ny10, Zy10, Ky10, sty10⟩ := cst3 Xy9 hx hZ eqy9 (j := 0) (x := 105) (ix := 0) (Vy1.ext Ey4) ⟨by decide, by decide⟩ rfl (lb rfl) Ny9 Zy4 Ky4 gzy1 (Or.inr szy1) (hb hby at_107)
    refine FinW.step (sty10) ?_
    refine FinW.step (fun _ k => Yo.aload Xy10.here hx (hb hby at_108) rfl rfl (Yo.iconst Xy10.here hx (hb hby at_110) (Yo.aload Xy10.here hx (hb hby at_111) rfl rfl (Yo.iconst Xy10.here hx (hb hby at_113) k)))) ?_
    have ry11 := (Fcy4.other Wy10 (Or.inl (Ne.symm nlby1_y4.1)))
    have ry12 := (Fvy4.other Wy10 (Or.inl (Ne.symm nlby1_y4.1)))
    have ry13 := (Vy4.other Wy10 (Ne.symm nlby1_y4.2))
    obtain ⟨_, Ty14, Lcy14, Xy14, hQy14, sty14⟩ := packS (Jvm.LawKit.callS Xy10 hx (y := n3) hown (mvT hZ (W_ hw 26)) (mvT hZ (W_ hw 27)) (mvT hZ (W_ hw 28)) (mvT hZ (W_ hw 29)) (by decide) (backOf (W := 2) (rmat1 l Z a0 hw [] ay4 1 by4 kby4 3 _ fv wc 110 110 hy10 n0 Zy10 (Ay4.wr Wy10) ry11 ry12 ry13 (ry8.wr Wy10) (ry6.wr Wy10) hfv hwc (by decide) rfl (by decide)) hZ (W_ hw 29) (W_ hw 28) (by decide) (by decide)) (g := (mkF m 114 #[iv p1, iv p2, iv p3, .val (.long pd), .second, iv 0, iv zo, iv zc, rv by1, rv ay4, rv t1, u_, u_, iv 3, u_, u_] [(.int 1), (.ref ay4), (.int 1), (.ref by1)])) rfl (by rw [hml]; rfl) (argsL := [(.ref ay4), (.int 1)]) (rest := [(.int 1), (.ref by1)]) (lenOf pd_22 rfl) rfl (lb rfl) (hb hby at_114) (fun _ _ => ⟨rfl, ey10, (by decide : 3 + 0 ≤ _), (by decide : 24 + 0 ≤ _)⟩))
    obtain ⟨rfl, Nqy14, eqy14⟩ := hQy14
    have Ny14 := Fr.app Ny10 Nqy14
    refine FinW.step (sty14) ?_
    show FinW p e below s _ _ _ (Ty14.setTop (mkF m 117 #[iv p1, iv p2, iv p3, .val (.long pd), .second, iv 0, iv zo, iv zc, rv by1, rv ay4, rv t1, u_, u_, iv 3, u_, u_] [(.int 110), (.int 1), (.ref by1)]))
    obtain ⟨Ty15, hy15, Xy15, ey15, Wy15, Vy15, Ny15, Zy15, Ky15, sty15⟩ := cst3 Xy14 hx hZ eqy14 (j := 1) (x := 110) (ix := 1) Vy10 ⟨by decide, by decide⟩ rfl (lb rfl) Ny14 Zy10 Ky10 gzy1 (Or.inr szy1) (hb hby at_117)
    refine FinW.step (sty15) ?_
    refine FinW.step (fun _ k => Yo.aload Xy15.here hx (hb hby at_118) rfl rfl (Yo.iconst Xy15.here hx (hb hby at_120) (Yo.aload Xy15.here hx (hb hby at_121) rfl rfl (Yo.iconst Xy15.here hx (hb hby at_123) k)))) ?_
    have ry16 := (ry11.other Wy15 (Or.inl (Ne.symm nlby1_y4.1)))
    have ry17 := (ry12.other Wy15 (Or.inl (Ne.symm nlby1_y4.1)))
    have ry18 := (ry13.other Wy15 (Ne.symm nlby1_y4.2))
    obtain ⟨_, Ty19, Lcy19, Xy19, hQy19, sty19⟩ := packS (Jvm.LawKit.callS Xy15 hx (y := n3) hown (mvT hZ (W_ hw 26)) (mvT hZ (W_ hw 27)) (mvT hZ (W_ hw 28)) (mvT hZ (W_ hw 29)) (by decide) (backOf (W := 2) (rmat1 l Z a0 hw [] ay4 2 by4 kby4 3 _ fv wc 116 116 hy15 n0 Zy15 ((Ay4.wr Wy10).wr Wy15) ry16 ry17 ry18 ((ry8.wr Wy10).wr Wy15) ((ry6.wr Wy10).wr Wy15) hfv hwc (by decide) rfl (by decide)) hZ (W_ hw 29) (W_ hw 28) (by decide) (by decide)) (g := (mkF m 124 #[iv p1, iv p2, iv p3, .val (.long pd), .second, iv 0, iv zo, iv zc, rv by1, rv ay4, rv t1, u_, u_, iv 3, u_, u_] [(.int 2), (.ref ay4), (.int 2), (.ref by1)])) rfl (by rw [hml]; rfl) (argsL := [(.ref ay4), (.int 2)]) (rest := [(.int 2), (.ref by1)]) (lenOf pd_22 rfl) rfl (lb rfl) (hb hby at_124) (fun _ _ => ⟨rfl, ey15, (by decide : 3 + 0 ≤ _), (by decide : 24 + 0 ≤ _)⟩))
    obtain ⟨rfl, Nqy19, eqy19⟩ := hQy19
    have Ny19 := Fr.app Ny15 Nqy19
    refine FinW.step (sty19) ?_
    show FinW p e below s _ _ _ (Ty19.setTop (mkF m 127 #[iv p1, iv p2, iv p3, .val (.long pd), .second, iv 0, iv zo, iv zc, rv by1, rv ay4, rv t1, u_, u_, iv 3, u_, u_] [(.int 116), (.int 2), (.ref by1)]))
    obtain ⟨Ty20, hy20, Xy20, ey20, Wy20, Vy20, Ny20, Zy20, Ky20, sty20⟩ := cst3 Xy19 hx hZ eqy19 (j := 2) (x := 116) (ix := 2) Vy15 ⟨by decide, by decide⟩ rfl (lb rfl) Ny19 Zy15 Ky15 gzy1 (Or.inr szy1) (hb hby at_127)
    refine FinW.step (sty20) ?_
    refine FinW.step (fun _ k => Yo.aload Xy20.here hx (hb hby at_128) rfl rfl (Yo.iconst Xy20.here hx (hb hby at_130) (Yo.aload Xy20.here hx (hb hby at_131) rfl rfl (Yo.iconst Xy20.here hx (hb hby at_133) k)))) ?_
    have ry21 := (((Ay4.wr Wy10).wr Wy15).wr Wy20)
    have ry22 := (ry16.other Wy20 (Or.inl (Ne.symm nlby1_y4.1)))
    have ry23 := (ry17.other Wy20 (Or.inl (Ne.symm nlby1_y4.1)))
    have ry24 := (ry18.other Wy20 (Ne.symm nlby1_y4.2))
    have ry25 := (((ry6.wr Wy10).wr Wy15).wr Wy20)
    obtain ⟨_, Ty26, Lcy26, Xy26, hQy26, sty26⟩ := packS (Jvm.LawKit.callS Xy20 hx (y := n3) hown (mvT hZ (W_ hw 26)) (mvT hZ (W_ hw 27)) (mvT hZ (W_ hw 28)) (mvT hZ (W_ hw 29)) (by decide) (backOf (W := 2) (rmat0 l Z a0 hw [] ay4 3 by4 kby4 3 _ wc hy20 n0 Zy20 ry21 ry22 ry23 ry24 ry25 hwc (by decide)) hZ (W_ hw 29) (W_ hw 28) (by decide) (by decide)) (g := (mkF m 134 #[iv p1, iv p2, iv p3, .val (.long pd), .second, iv 0, iv zo, iv zc, rv by1, rv ay4, rv t1, u_, u_, iv 3, u_, u_] [(.int 3), (.ref ay4), (.int 3), (.ref by1)])) rfl (by rw [hml]; rfl) (argsL := [(.ref ay4), (.int 3)]) (rest := [(.int 3), (.ref by1)]) (lenOf pd_22 rfl) rfl (lb rfl) (hb hby at_134) (fun _ _ => ⟨rfl, ey20, (by decide : 3 + 0 ≤ _), (by decide : 24 + 0 ≤ _)⟩))
    obtain ⟨rfl, Nqy26, eqy26⟩ := hQy26
    have Ny26 := Fr.app Ny20 Nqy26
    refine FinW.step (sty26) ?_
    show FinW p e below s _ _ _ (Ty26.setTop (mkF m 137 #[iv p1, iv p2, iv p3, .val (.long pd), .second, iv 0, iv zo, iv zc, rv by1, rv ay4, rv t1, u_, u_, iv 3, u_, u_] [(.int 120), (.int 3), (.ref by1)]))
    obtain ⟨Ty27, hy27, Xy27, ey27, Wy27, Vy27, Ny27, Zy27, Ky27, sty27⟩ := cst3 Xy26 hx hZ eqy26 (j := 3) (x := 120) (ix := 3) Vy20 ⟨by decide, by decide⟩ rfl (lb rfl) Ny26 Zy20 Ky20 gzy1 (Or.inr szy1) (hb hby at_137)
    refine FinW.step (sty27) ?_
    refine FinW.step (fun _ k => Yo.aload Xy27.here hx (hb hby at_138) rfl rfl (Yo.iconst Xy27.here hx (hb hby at_140) (Yo.aload Xy27.here hx (hb hby at_141) rfl rfl (Yo.iconst Xy27.here hx (hb hby at_143) k)))) ?_
    have ry28 := (ry22.other Wy27 (Or.inl (Ne.symm nlby1_y4.1)))
    have ry29 := (ry23.other Wy27 (Or.inl (Ne.symm nlby1_y4.1)))
    have ry30 := (ry24.other Wy27 (Ne.symm nlby1_y4.2))
    obtain ⟨_, Ty31, Lcy31, Xy31, hQy31, sty31⟩ := packS (Jvm.LawKit.callS Xy27 hx (y := n3) hown (mvT hZ (W_ hw 26)) (mvT hZ (W_ hw 27)) (mvT hZ (W_ hw 28)) (mvT hZ (W_ hw 29)) (by decide) (backOf (W := 2) (rmat0 l Z a0 hw [] ay4 4 by4 kby4 3 _ wc hy27 n0 Zy27 (ry21.wr Wy27) ry28 ry29 ry30 (ry25.wr Wy27) hwc (by decide)) hZ (W_ hw 29) (W_ hw 28) (by decide) (by decide)) (g := (mkF m 144 #[iv p1, iv p2, iv p3, .val (.long pd), .second, iv 0, iv zo, iv zc, rv by1, rv ay4, rv t1, u_, u_, iv 3, u_, u_] [(.int 4), (.ref ay4), (.int 4), (.ref by1)])) rfl (by rw [hml]; rfl) (argsL := [(.ref ay4), (.int 4)]) (rest := [(.int 4), (.ref by1)]) (lenOf pd_22 rfl) rfl (lb rfl) (hb hby at_144) (fun _ _ => ⟨rfl, ey27, (by decide : 3 + 0 ≤ _), (by decide : 24 + 0 ≤ _)⟩))
    obtain ⟨rfl, Nqy31, eqy31⟩ := hQy31
    have Ny31 := Fr.app Ny27 Nqy31
    refine FinW.step (sty31) ?_
    show FinW p e below s _ _ _ (Ty31.setTop (mkF m 147 #[iv p1, iv p2, iv p3, .val (.long pd), .second, iv 0, iv zo, iv zc, rv by1, rv ay4, rv t1, u_, u_, iv 3, u_, u_] [(.int 120), (.int 4), (.ref by1)]))
    obtain ⟨Ty32, hy32, Xy32, ey32, Wy32, Vy32, Ny32, Zy32, Ky32, sty32⟩ := cst3 Xy31 hx hZ eqy31 (j := 4) (x := 120) (ix := 4) Vy27 ⟨by decide, by decide⟩ rfl (lb rfl) Ny31 Zy27 Ky27 gzy1 (Or.inr szy1) (hb hby at_147)
    refine FinW.step (sty32) ?_
    refine FinW.step (fun _ k => Yo.aload Xy32.here hx (hb hby at_148) rfl rfl (Yo.iconst Xy32.here hx (hb hby at_150) (Yo.aload Xy32.here hx (hb hby at_151) rfl rfl (Yo.iconst Xy32.here hx (hb hby at_153) k)))) ?_
    have ry33 := (ry28.other Wy32 (Or.inl (Ne.symm nlby1_y4.1)))
    have ry34 := (ry29.other Wy32 (Or.inl (Ne.symm nlby1_y4.1)))
    have ry35 := (ry30.other Wy32 (Ne.symm nlby1_y4.2))
    obtain ⟨_, Ty36, Lcy36, Xy36, hQy36, sty36⟩ := packS (Jvm.LawKit.callS Xy32 hx (y := n3) hown (mvT hZ (W_ hw 26)) (mvT hZ (W_ hw 27)) (mvT hZ (W_ hw 28)) (mvT hZ (W_ hw 29)) (by decide) (backOf (W := 2) (rmat0 l Z a0 hw [] ay4 5 by4 kby4 3 _ wc hy32 n0 Zy32 ((ry21.wr Wy27).wr Wy32) ry33 ry34 ry35 ((ry25.wr Wy27).wr Wy32) hwc (by decide)) hZ (W_ hw 29) (W_ hw 28) (by decide) (by decide)) (g := (mkF m 154 #[iv p1, iv p2, iv p3, .val (.long pd), .second, iv 0, iv zo, iv zc, rv by1, rv ay4, rv t1, u_, u_, iv 3, u_, u_] [(.int 5), (.ref ay4), (.int 5), (.ref by1)])) rfl (by rw [hml]; rfl) (argsL := [(.ref ay4), (.int 5)]) (rest := [(.int 5), (.ref by1)]) (lenOf pd_22 rfl) rfl (lb rfl) (hb hby at_154) (fun _ _ => ⟨rfl, ey32, (by decide : 3 + 0 ≤ _), (by decide : 24 + 0 ≤ _)⟩))
    obtain ⟨rfl, Nqy36, eqy36⟩ := hQy36
    have Ny36 := Fr.app Ny32 Nqy36
    refine FinW.step (sty36) ?_
    show FinW p e below s _ _ _ (Ty36.setTop (mkF m 157 #[iv p1, iv p2, iv p3, .val (.long pd), .second, iv 0, iv zo, iv zc, rv by1, rv ay4, rv t1, u_, u_, iv 3, u_, u_] [(.int 120), (.int 5), (.ref by1)]))
    obtain ⟨Ty37, hy37, Xy37, ey37, Wy37, Vy37, Ny37, Zy37, Ky37, sty37⟩ := cst3 Xy36 hx hZ eqy36 (j := 5) (x := 120) (ix := 5) Vy32 ⟨by decide, by decide⟩ rfl (lb rfl) Ny36 Zy32 Ky32 gzy1 (Or.inr szy1) (hb hby at_157)
    refine FinW.step (sty37) ?_
    refine FinW.step (fun _ k => Yo.aload Xy37.here hx (hb hby at_158) rfl rfl (Yo.bipush Xy37.here hx (hb hby at_160) (Yo.aload Xy37.here hx (hb hby at_162) rfl rfl (Yo.bipush Xy37.here hx (hb hby at_164) k)))) ?_
    have ry38 := (((ry21.wr Wy27).wr Wy32).wr Wy37)
    have ry39 := (ry33.other Wy37 (Or.inl (Ne.symm nlby1_y4.1)))
    have ry40 := (ry34.other Wy37 (Or.inl (Ne.symm nlby1_y4.1)))
    have ry41 := (ry35.other Wy37 (Ne.symm nlby1_y4.2))
    have ry42 := (((ry25.wr Wy27).wr Wy32).wr Wy37)
    obtain ⟨_, Ty43, Lcy43, Xy43, hQy43, sty43⟩ := packS (Jvm.LawKit.callS Xy37 hx (y := n3) hown (mvT hZ (W_ hw 26)) (mvT hZ (W_ hw 27)) (mvT hZ (W_ hw 28)) (mvT hZ (W_ hw 29)) (by decide) (backOf (W := 2) (rmat0 l Z a0 hw [] ay4 6 by4 kby4 3 _ wc hy37 n0 Zy37 ry38 ry39 ry40 ry41 ry42 hwc (by decide)) hZ (W_ hw 29) (W_ hw 28) (by decide) (by decide)) (g := (mkF m 166 #[iv p1, iv p2, iv p3, .val (.long pd), .second, iv 0, iv zo, iv zc, rv by1, rv ay4, rv t1, u_, u_, iv 3, u_, u_] [(.int 6), (.ref ay4), (.int 6), (.ref by1)])) rfl (by rw [hml]; rfl) (argsL := [(.ref ay4), (.int 6)]) (rest := [(.int 6), (.ref by1)]) (lenOf pd_22 rfl) rfl (lb rfl) (hb hby at_166) (fun _ _ => ⟨rfl, ey37, (by decide : 3 + 0 ≤ _), (by decide : 24 + 0 ≤ _)⟩))
    obtain ⟨rfl, Nqy43, eqy43⟩ := hQy43
    have Ny43 := Fr.app Ny37 Nqy43
    refine FinW.step (sty43) ?_
    show FinW p e below s _ _ _ (Ty43.setTop (mkF m 169 #[iv p1, iv p2, iv p3, .val (.long pd), .second, iv 0, iv zo, iv zc, rv by1, rv ay4, rv t1, u_, u_, iv 3, u_, u_] [(.int 120), (.int 6), (.ref by1)]))
    obtain ⟨Ty44, hy44, Xy44, ey44, Wy44, Vy44, Ny44, Zy44, Ky44, sty44⟩ := cst3 Xy43 hx hZ eqy43 (j := 6) (x := 120) (ix := 6) Vy37 ⟨by decide, by decide⟩ rfl (lb rfl) Ny43 Zy37 Ky37 gzy1 (Or.inr szy1) (hb hby at_169)
    refine FinW.step (sty44) ?_
    refine FinW.step (fun _ k => Yo.aload Xy44.here hx (hb hby at_170) rfl rfl (Yo.bipush Xy44.here hx (hb hby at_172) (Yo.aload Xy44.here hx (hb hby at_174) rfl rfl (Yo.bipush Xy44.here hx (hb hby at_176) k)))) ?_
    have ry45 := (ry39.other Wy44 (Or.inl (Ne.symm nlby1_y4.1)))
    have ry46 := (ry40.other Wy44 (Or.inl (Ne.symm nlby1_y4.1)))
    have ry47 := (ry41.other Wy44 (Ne.symm nlby1_y4.2))
    obtain ⟨_, Ty48, Lcy48, Xy48, hQy48, sty48⟩ := packS (Jvm.LawKit.callS Xy44 hx (y := n3) hown (mvT hZ (W_ hw 26)) (mvT hZ (W_ hw 27)) (mvT hZ (W_ hw 28)) (mvT hZ (W_ hw 29)) (by decide) (backOf (W := 2) (rmat0 l Z a0 hw [] ay4 7 by4 kby4 3 _ wc hy44 n0 Zy44 (ry38.wr Wy44) ry45 ry46 ry47 (ry42.wr Wy44) hwc (by decide)) hZ (W_ hw 29) (W_ hw 28) (by decide) (by decide)) (g := (mkF m 178 #[iv p1, iv p2, iv p3, .val (.long pd), .second, iv 0, iv zo, iv zc, rv by1, rv ay4, rv t1, u_, u_, iv 3, u_, u_] [(.int 7), (.ref ay4), (.int 7), (.ref by1)])) rfl (by rw [hml]; rfl) (argsL := [(.ref ay4), (.int 7)]) (rest := [(.int 7), (.ref by1)]) (lenOf pd_22 rfl) rfl (lb rfl) (hb hby at_178) (fun _ _ => ⟨rfl, ey44, (by decide : 3 + 0 ≤ _), (by decide : 24 + 0 ≤ _)⟩))
    obtain ⟨rfl, Nqy48, eqy48⟩ := hQy48
    have Ny48 := Fr.app Ny44 Nqy48
    refine FinW.step (sty48) ?_
    show FinW p e below s _ _ _ (Ty48.setTop (mkF m 181 #[iv p1, iv p2, iv p3, .val (.long pd), .second, iv 0, iv zo, iv zc, rv by1, rv ay4, rv t1, u_, u_, iv 3, u_, u_] [(.int 120), (.int 7), (.ref by1)]))
    obtain ⟨Ty49, hy49, Xy49, ey49, Wy49, Vy49, Ny49, Zy49, Ky49, sty49⟩ := cst3 Xy48 hx hZ eqy48 (j := 7) (x := 120) (ix := 7) Vy44 ⟨by decide, by decide⟩ rfl (lb rfl) Ny48 Zy44 Ky44 gzy1 (Or.inr szy1) (hb hby at_181)
    refine FinW.step (sty49) ?_
    have Vy50 : Arv Z hy49 by1 ky1 .char (8 : Int32) own_al0 (.int 0) := castL Vy49 (by rfl)
    rcases own_c4 h_zo with rfl | rfl | rfl | rfl
    · show FinW p e below s _ _ _ (Ty49.setTop (mkF m 182 #[iv p1, iv p2, iv p3, .val (.long pd), .second, iv 0, iv 0, iv zc, rv by1, rv ay4, rv t1, u_, u_, iv 3, u_, u_] []))
      refine FinW.step (fun _ k => Yo.iload Xy49.here hx (hb hby at_182) rfl (Yo.ifNo Xy49.here hx (hb hby at_184) rfl ((if0 _ _).trans (teq ((by decide) : ((0 : Int32) = (0 : Int32)))).2) (Yo.aload Xy49.here hx (hb hby at_187) rfl rfl (Yo.iload Xy49.here hx (hb hby at_189) rfl k)))) ?_
      obtain ⟨_, Ty51, Lcy51, Xy51, hQy51, sty51⟩ := packS (Jvm.LawKit.callS Xy49 hx (y := n9) hown (mvT hZ (W_ hw 52)) (mvT hZ (W_ hw 53)) (mvT hZ (W_ hw 28)) (mvT hZ (W_ hw 54)) (by decide) (backOf (W := 0) (rmstL3 l Z a0 hw [] by1 ky1 own_al0 wc hy49 n0 Zy49 Vy50 ((ry42.wr Wy44).wr Wy49) own_alc0 hwc (own_latk own_als0 3)) hZ (W_ hw 54) (W_ hw 28) (by decide) (by decide)) (g := (mkF m 191 #[iv p1, iv p2, iv p3, .val (.long pd), .second, iv 0, iv 0, iv zc, rv by1, rv ay4, rv t1, u_, u_, iv 3, u_, u_] [(.int 3), (.ref by1)])) rfl (by rw [hml]; rfl) (argsL := [(.ref by1), (.int 3)]) (rest := []) (lenOf pd_23 rfl) rfl (lb rfl) (hb hby at_191) (fun _ _ => ⟨rfl, ey49, (by decide : 3 + 8 ≤ _), (by decide : 24 + 64 ≤ _)⟩))
      obtain ⟨nb_y51, kn_y51, by51, rfl, bzy51, bfy51_0, Nqy51, Kcy51, fy51_0, fy51_1, fy51_2, fy51_3, ney51_0⟩ := hQy51
      have Ny51 := Fr.app Ny49 Nqy51
      have gzy51 : n0 ≤ by51 := Nat.le_trans Zy49 bzy51
      have szy51 : h0.size ≤ by51 := Nat.le_trans Ky49.1 bzy51
      have gzy51_0 : n0 ≤ nb_y51 := Nat.le_trans Zy49 bfy51_0
      have szy51_0 : h0.size ≤ nb_y51 := Nat.le_trans Ky49.1 bfy51_0
      have Zy51 := Nat.le_trans Zy49 Kcy51.1
      have Ky51 := Ky49.trans Kcy51 all0
      refine FinW.step (sty51) ?_
      show FinW p e below s _ _ _ (Ty51.setTop (mkF m 194 #[iv p1, iv p2, iv p3, .val (.long pd), .second, iv 0, iv 0, iv zc, rv by1, rv ay4, rv t1, u_, u_, iv 3, u_, u_] [(.ref by51)]))
      refine FinW.step (fun _ k => Yo.astore Xy51.here hx (hb hby at_194) rfl rfl (l' := #[iv p1, iv p2, iv p3, .val (.long pd), .second, iv 0, iv 0, iv zc, rv by1, rv ay4, rv t1, rv by51, u_, iv 3, u_, u_]) rfl (Yo.aload Xy51.here hx (hb hby at_196) rfl rfl (Yo.astore Xy51.here hx (hb hby at_198) rfl rfl (l' := #[iv p1, iv p2, iv p3, .val (.long pd), .second, iv 0, iv 0, iv zc, rv by1, rv ay4, rv t1, rv by51, rv t1, iv 3, u_, u_]) rfl (Yo.goto Xy51.here hx (pc0 := 200) (pc' := 303) rfl (hb hby at_200) (by decide) (by decide) (Yo.goto Xy51.here hx (pc0 := 303) (pc' := 468) rfl (hb hby at_303) (by decide) (by decide) (Yo.aload Xy51.here hx (hb hby at_468) rfl rfl k)))))) ?_
      have ry52 := (Sta_keep HS_com_example_model_for_reads_modelforreads_model_FieldType__VALUES Ky51)
      have ry53 := (Sta_keep HS_java_util_Optional_EMPTY Ky51)
      have ry54 := (Sta_keepW ((ry42.wr Wy44).wr Wy49) Kcy51 all0)
      have ry55 := (HF_t1_modelName.keep Ky51 nin0)
      have ry56 := (HF_t2_modelName.keep Ky51 nin0)
      have ry57 := (HF_t3_modelName.keep Ky51 nin0)
      have ney58 := nlt HE_s1.lt szy51
      have ney59 := nlt HE_s2.lt szy51
      have ney60 := nlt HE_s3.lt szy51
      obtain ⟨_, Ty61, Lcy61, Xy61, hQy61, sty61⟩ := packS (Jvm.LawKit.callS Xy51 hx (y := n16) hown (mvT hZ (W_ hw 76)) (mvT hZ (W_ hw 77)) (mvT hZ (W_ hw 11)) (mvT hZ (W_ hw 78)) (by decide) (backOf (W := 0) (rmfmL1 l Z a0 hw [] by51 av cv t1 t2 t3 eo wc s1 v1 k1 3 _ s2 v2 k2 7 _ s3 v3 k3 6 _ nb_y51 kn_y51 3 _ Ty51.heap n0 Zy51 ry52 ry53 ry54 ry55 (HE_s1.keep Ky51) (HF_s1_coder.keep Ky51 nin0) (HF_s1_value.keep Ky51 nin0) (HV_v1.keep Ky51 nin0) ry56 (HE_s2.keep Ky51) (HF_s2_coder.keep Ky51 nin0) (HF_s2_value.keep Ky51 nin0) (HV_v2.keep Ky51 nin0) ry57 (HE_s3.keep Ky51) (HF_s3_coder.keep Ky51 nin0) (HF_s3_value.keep Ky51 nin0) (HV_v3.keep Ky51 nin0) fy51_0 fy51_1 fy51_2 fy51_3 ⟨Arr_keep hcv.1 Ky51, hcv.2.1.keep Ky51, hcv.2.2.1, hcv.2.2.2⟩ hwc (own_wlc _ _ _) (by decide) (by decide) (by decide) own_nlc0 own_nlc1 own_nlc2 (by decide +kernel) ney58 ney59 ney60) hZ (W_ hw 78) (W_ hw 11) (by decide) (by decide)) (g := (mkF m 470 #[iv p1, iv p2, iv p3, .val (.long pd), .second, iv 0, iv 0, iv zc, rv by1, rv ay4, rv t1, rv by51, rv t1, iv 3, u_, u_] [(.ref by51)])) rfl (by rw [hml]; rfl) (argsL := [(.ref by51)]) (rest := []) (lenOf pd_24 rfl) rfl (lb rfl) (hb hby at_470) (fun _ _ => ⟨rfl, rfl, (by decide : 11 + 2 ≤ _), (by decide : 88 + 4 ≤ _)⟩))
      obtain ⟨by61, rfl, bzy61, Nqy61, Kcy61, fy61_0, fy61_1⟩ := hQy61
      have Ny61 := Fr.app Ny51 Nqy61
      have gzy61 : n0 ≤ by61 := Nat.le_trans Zy51 bzy61
      have szy61 : h0.size ≤ by61 := Nat.le_trans Ky51.1 bzy61
      have Zy61 := Nat.le_trans Zy51 Kcy61.1
      have Ky61 := Ky51.trans Kcy61 all0
      refine FinW.step (sty61) ?_
      show FinW p e below s _ _ _ (Ty61.setTop (mkF m 473 #[iv p1, iv p2, iv p3, .val (.long pd), .second, iv 0, iv 0, iv zc, rv by1, rv ay4, rv t1, rv by51, rv t1, iv 3, u_, u_] [(.ref by61)]))
      refine FinW.step (fun _ k => Yo.astore Xy61.here hx (hb hby at_473) rfl rfl (l' := #[iv p1, iv p2, iv p3, .val (.long pd), .second, iv 0, iv 0, iv zc, rv by1, rv ay4, rv t1, rv by51, rv t1, rv by61, u_, u_]) rfl (Yo.aload Xy61.here hx (hb hby at_475) rfl rfl (Yo.aconstNull Xy61.here hx (hb hby at_477) k))) ?_
      obtain ⟨cqy62, kqy62, qy62a, qy62b, qy62c⟩ := isOf hZ rfl fy61_0
      obtain ⟨_, Ty62, Lcy62, Xy62, hQy62, sty62⟩ := pack (Xy61.virtualBack hx (y := n23) (z := n23) hown (mvT hZ (W_ hw 124)) (mvT hZ (W_ hw 125)) (notFace_of_selects (args := #[]) (mvT hZ (W_ hw 127))) (mvT hZ (W_ hw 127)) (mvT hZ (W_ hw 126)) (by decide) (backOf (W := 0) (rmor1 l Z a0 hw [] by61 t1 Ty61.heap n0 Zy61 fy61_1) hZ (W_ hw 128) (W_ hw 109) (by decide) (by decide)) qy62a qy62c (g := (mkF m 478 #[iv p1, iv p2, iv p3, .val (.long pd), .second, iv 0, iv 0, iv zc, rv by1, rv ay4, rv t1, rv by51, rv t1, rv by61, u_, u_] [.null, (.ref by61)])) rfl (by rw [hml]; rfl) (Steps.refl _) (argsL := [.null]) (rest := []) (lenOf pd_16 rfl) rfl (lb rfl) (hb hby at_478) (fun _ _ => ⟨rfl, rfl, (by decide : 13 + 0 ≤ _), (by decide : 92 + 0 ≤ _)⟩))
      obtain ⟨rfl, Nqy62, eqy62⟩ := hQy62
      have Ny62 := Fr.app Ny61 Nqy62
      refine FinW.step (sty62) ?_
      show FinW p e below s _ _ _ (Ty62.setTop (mkF m 481 #[iv p1, iv p2, iv p3, .val (.long pd), .second, iv 0, iv 0, iv zc, rv by1, rv ay4, rv t1, rv by51, rv t1, rv by61, u_, u_] [(.ref t1)]))
      refine FinW.step (fun _ k => Yo.aload Xy62.here hx (hb hby at_481) rfl rfl k) ?_
      refine FinW.step (fun _ => Jvm.RoadKit.acmp (g := (mkF m 483 #[iv p1, iv p2, iv p3, .val (.long pd), .second, iv 0, iv 0, iv zc, rv by1, rv ay4, rv t1, rv by51, rv t1, rv by61, u_, u_] [(.ref t1), (.ref t1)])) Xy62 hx rfl rfl rfl (pc0 := 483) (pc' := 486) (same := true) rfl (hb hby at_483) rfl (decide_eq_true rfl) (by decide) (by decide)) ?_
      show FinW p e below s _ _ _ (Ty62.setTop (mkF m 486 #[iv p1, iv p2, iv p3, .val (.long pd), .second, iv 0, iv 0, iv zc, rv by1, rv ay4, rv t1, rv by51, rv t1, rv by61, u_, u_] []))
      refine FinW.step (fun _ k => Yo.iconst Xy62.here hx (hb hby at_486) (Yo.goto Xy62.here hx (pc0 := 487) (pc' := 491) rfl (hb hby at_487) (by decide) (by decide) k)) ?_
      have hky63 := (Nat.le_trans (Nat.le_trans (Nat.le_trans (Nat.le_trans (Nat.le_trans (Nat.le_trans (Nat.le_trans (Nat.le_trans (Nat.le_trans (Nat.le_trans hky4 (Keep.of_wr Wy10).1) (Keep.of_wr Wy15).1) (Keep.of_wr Wy20).1) (Keep.of_wr Wy27).1) (Keep.of_wr Wy32).1) (Keep.of_wr Wy37).1) (Keep.of_wr Wy44).1) (Keep.of_wr Wy49).1) Kcy51.1) Kcy61.1)
      refine FinW.retN Xy62 hSy4 (by rw [eqy62]; exact hky63) hx (t := .boolean) hret (by simp) hlk (hb hby at_491) (by decide) (by decide) ?_
      show Q0 Z p1 p2 p3 pd wc fv eo av cv t1 t2 t3 s1 v1 k1 s2 v2 k2 s3 v3 k3 h0 n0 _ Ty62.heap _
      rw [eqy62]
      exact ⟨rfl, Ny62, Ky61⟩
    · show FinW p e below s _ _ _ (Ty49.setTop (mkF m 182 #[iv p1, iv p2, iv p3, .val (.long pd), .second, iv 0, iv 1, iv zc, rv by1, rv ay4, rv t1, u_, u_, iv 3, u_, u_] []))
      refine FinW.step (fun _ k => Yo.iload Xy49.here hx (hb hby at_182) rfl (Yo.ifYes Xy49.here hx (pc0 := 184) (pc' := 203) rfl (hb hby at_184) rfl ((if0 _ _).trans (feq ((by decide) : ¬ ((1 : Int32) = (0 : Int32)))).2) (by decide) (by decide) (Yo.iload Xy49.here hx (hb hby at_203) rfl (Yo.iconst Xy49.here hx (hb hby at_205) (Yo.icmpNo Xy49.here hx (hb hby at_206) rfl (teq ((by decide) : ((1 : Int32) = (1 : Int32)))).2 (Yo.iloadN Xy49.here hx (hb hby at_209) rfl k)))))) ?_
      refine FinW.step (Xy49.ldcInt hx hown (mvT hZ (W_ hw 129)) (g := (mkF m 210 #[iv p1, iv p2, iv p3, .val (.long pd), .second, iv 0, iv 1, iv zc, rv by1, rv ay4, rv t1, u_, u_, iv 3, u_, u_] [(.int p2)])) rfl (hb hby at_210)) ?_
      show FinW p e below s _ _ _ (Ty49.setTop (mkF m 212 #[iv p1, iv p2, iv p3, .val (.long pd), .second, iv 0, iv 1, iv zc, rv by1, rv ay4, rv t1, u_, u_, iv 3, u_, u_] [(.int 2147483647), (.int p2)]))
      refine FinW.step (fun _ k => Yo.iand Xy49.here hx (hb hby at_212) rfl k) ?_
      show FinW p e below s _ _ _ (Ty49.setTop (mkF m 213 #[iv p1, iv p2, iv p3, .val (.long pd), .second, iv 0, iv 1, iv zc, rv by1, rv ay4, rv t1, u_, u_, iv 3, u_, u_] [(.int (p2 &&& (2147483647 : Int32)))]))
      refine FinW.step (fun _ k => Yo.iload Xy49.here hx (hb hby at_213) rfl k) ?_
      refine FinW.step (fun _ => iremM Xy49 hx (g := (mkF m 215 #[iv p1, iv p2, iv p3, .val (.long pd), .second, iv 0, iv 1, iv zc, rv by1, rv ay4, rv t1, u_, u_, iv 3, u_, u_] [(.int 3), (.int (p2 &&& (2147483647 : Int32)))])) rfl (hb hby at_215) rfl (by decide)) ?_
      show FinW p e below s _ _ _ (Ty49.setTop (mkF m 216 #[iv p1, iv p2, iv p3, .val (.long pd), .second, iv 0, iv 1, iv zc, rv by1, rv ay4, rv t1, u_, u_, iv 3, u_, u_] [(.int ((p2 &&& (2147483647 : Int32)) % (3 : Int32)))]))
      refine FinW.step (fun _ k => Yo.istore Xy49.here hx (hb hby at_216) rfl (l' := #[iv p1, iv p2, iv p3, .val (.long pd), .second, iv 0, iv 1, iv zc, rv by1, rv ay4, rv t1, u_, u_, iv 3, .val (.int ((p2 &&& (2147483647 : Int32)) % (3 : Int32))), u_]) rfl k) ?_
      obtain ⟨dp, h_dp⟩ : ∃ z : Int32, z = ((p2 &&& (2147483647 : Int32)) % (3 : Int32)) := ⟨_, rfl⟩
      rw [← h_dp]
      show FinW p e below s _ _ _ (Ty49.setTop (mkF m 218 #[iv p1, iv p2, iv p3, .val (.long pd), .second, iv 0, iv 1, iv zc, rv by1, rv ay4, rv t1, u_, u_, iv 3, iv dp, u_] []))
      have Gp := own_rem (k := 3) rfl (by decide) (by decide) h_dp
      refine FinW.step (fun _ k => Yo.aload Xy49.here hx (hb hby at_218) rfl rfl (Yo.iload Xy49.here hx (hb hby at_220) rfl (cld3 Xy49 hx hZ ey49 (j := dp) (v := (.int (own_gt own_al0 dp.toNatClampNeg))) Vy50 Gp.2.1 (own_lg own_alc0 _) (hb hby at_222) (Yo.istore Xy49.here hx (hb hby at_223) rfl (l' := #[iv p1, iv p2, iv p3, .val (.long pd), .second, iv 0, iv 1, iv zc, rv by1, rv ay4, rv t1, u_, u_, iv 3, iv dp, .val (.int (own_gt own_al0 dp.toNatClampNeg))]) rfl (Yo.aload Xy49.here hx (hb hby at_225) rfl rfl (Yo.iload Xy49.here hx (hb hby at_227) rfl (Yo.iload Xy49.here hx (hb hby at_229) rfl k))))))) ?_
      obtain ⟨Ty65, hy65, Xy65, ey65, Wy65, Vy65, Ny65, Zy65, Ky65, sty65⟩ := cst3 Xy49 hx hZ ey49 (j := dp) (x := zc) (ix := dp.toNatClampNeg) Vy50 Gp.2.1 rfl (by show _ < 8; have := Gp.2.2; omega) Ny49 Zy49 Ky49 gzy1 (Or.inr szy1) (hb hby at_231)
      refine FinW.step (sty65) ?_
      rcases Classical.em ((255 : Int32) < zc) with hbg | hbg
      · show FinW p e below s _ _ _ (Ty65.setTop (mkF m 232 #[iv p1, iv p2, iv p3, .val (.long pd), .second, iv 0, iv 1, iv zc, rv by1, rv ay4, rv t1, u_, u_, iv 3, iv dp, .val (.int (own_gt own_al0 dp.toNatClampNeg))] []))
        refine FinW.step (fun _ k => Yo.aload Xy65.here hx (hb hby at_232) rfl rfl (Yo.iload Xy65.here hx (hb hby at_234) rfl k)) ?_
        have ry66 := (((ry42.wr Wy44).wr Wy49).wr Wy65)
        have ry67 := (Sta_keep HS_java_lang_StringUTF16__assertionsDisabled Ky65)
        have ry68 := (Sta_keep HS_java_lang_StringUTF16_HI_BYTE_SHIFT Ky65)
        have ry69 := (Sta_keep HS_java_lang_StringUTF16_LO_BYTE_SHIFT Ky65)
        obtain ⟨_, Ty70, Lcy70, Xy70, hQy70, sty70⟩ := packS (Jvm.LawKit.callS Xy65 hx (y := n9) hown (mvT hZ (W_ hw 52)) (mvT hZ (W_ hw 53)) (mvT hZ (W_ hw 28)) (mvT hZ (W_ hw 54)) (by decide) (backOf (W := 0) (rmstU3 l Z a0 hw [] by1 ky1 _ wc dp hy65 n0 Zy65 Vy65 ry66 ry67 ry68 ry69 (own_chset own_alc0 _ _) hwc Gp.1 (own_hu Gz.2 (by show _ < 8; have := Gp.2.2; omega) (Nat.le_of_lt (by have := Gp.2.2; omega)) own_als0) (own_hb Gz.2 (by show _ < 8; have := Gp.2.2; omega) (by have := Gp.2.2; omega) hbg) (own_hr Gz.2 (by show _ < 8; have := Gp.2.2; omega) (by have := Gp.2.2; omega) Gz.1)) hZ (W_ hw 54) (W_ hw 28) (by decide) (by decide)) (g := (mkF m 236 #[iv p1, iv p2, iv p3, .val (.long pd), .second, iv 0, iv 1, iv zc, rv by1, rv ay4, rv t1, u_, u_, iv 3, iv dp, .val (.int (own_gt own_al0 dp.toNatClampNeg))] [(.int 3), (.ref by1)])) rfl (by rw [hml]; rfl) (argsL := [(.ref by1), (.int 3)]) (rest := []) (lenOf pd_23 rfl) rfl (lb rfl) (hb hby at_236) (fun _ _ => ⟨rfl, ey65, (by decide : 3 + 4 ≤ _), (by decide : 24 + 31 ≤ _)⟩))
        obtain ⟨nb_y70, kn_y70, lz_y70, by70, rfl, bzy70, bfy70_0, Nqy70, Kcy70, fy70_0, fy70_1, fy70_2, fy70_3, ney70_0⟩ := hQy70
        have Ny70 := Fr.app Ny65 Nqy70
        have gzy70 : n0 ≤ by70 := Nat.le_trans Zy65 bzy70
        have szy70 : h0.size ≤ by70 := Nat.le_trans Ky65.1 bzy70
        have gzy70_0 : n0 ≤ nb_y70 := Nat.le_trans Zy65 bfy70_0
        have szy70_0 : h0.size ≤ nb_y70 := Nat.le_trans Ky65.1 bfy70_0
        have Zy70 := Nat.le_trans Zy65 Kcy70.1
        have Ky70 := Ky65.trans Kcy70 all0
        refine FinW.step (sty70) ?_
        show FinW p e below s _ _ _ (Ty70.setTop (mkF m 239 #[iv p1, iv p2, iv p3, .val (.long pd), .second, iv 0, iv 1, iv zc, rv by1, rv ay4, rv t1, u_, u_, iv 3, iv dp, .val (.int (own_gt own_al0 dp.toNatClampNeg))] [(.ref by70)]))
        refine FinW.step (fun _ k => Yo.astore Xy70.here hx (hb hby at_239) rfl rfl (l' := #[iv p1, iv p2, iv p3, .val (.long pd), .second, iv 0, iv 1, iv zc, rv by1, rv ay4, rv t1, rv by70, u_, iv 3, iv dp, .val (.int (own_gt own_al0 dp.toNatClampNeg))]) rfl (Yo.iload Xy70.here hx (hb hby at_241) rfl (Yo.iload Xy70.here hx (hb hby at_243) rfl (Yo.icmpYes Xy70.here hx (pc0 := 245) (pc' := 253) rfl (hb hby at_245) rfl (feq ((own_old own_nm0 Gp.2.2 hbg) : ¬ (zc = (own_gt own_al0 dp.toNatClampNeg)))).2 (by decide) (by decide) (Yo.aconstNull Xy70.here hx (hb hby at_253) (Yo.astore Xy70.here hx (hb hby at_254) rfl rfl (l' := #[iv p1, iv p2, iv p3, .val (.long pd), .second, iv 0, iv 1, iv zc, rv by1, rv ay4, rv t1, rv by70, .val .null, iv 3, iv dp, .val (.int (own_gt own_al0 dp.toNatClampNeg))]) rfl (Yo.goto Xy70.here hx (pc0 := 256) (pc' := 303) rfl (hb hby at_256) (by decide) (by decide) (Yo.goto Xy70.here hx (pc0 := 303) (pc' := 468) rfl (hb hby at_303) (by decide) (by decide) k)))))))) ?_
        refine FinW.step (fun _ k => Yo.aload Xy70.here hx (hb hby at_468) rfl rfl k) ?_
        have ry71 := (Sta_keep HS_com_example_model_for_reads_modelforreads_model_FieldType__VALUES Ky70)
        have ry72 := (Sta_keep HS_java_util_Optional_EMPTY Ky70)
        have ry73 := (HF_t1_modelName.keep Ky70 nin0)
        have ry74 := (HF_t2_modelName.keep Ky70 nin0)
        have ry75 := (HF_t3_modelName.keep Ky70 nin0)
        have ney76 := nlt HE_s1.lt szy70
        have ney77 := nlt HE_s2.lt szy70
        have ney78 := nlt HE_s3.lt szy70
        obtain ⟨_, Ty79, Lcy79, Xy79, hQy79, sty79⟩ := packS (Jvm.LawKit.callS Xy70 hx (y := n16) hown (mvT hZ (W_ hw 76)) (mvT hZ (W_ hw 77)) (mvT hZ (W_ hw 11)) (mvT hZ (W_ hw 78)) (by decide) (backOf (W := 0) (rmfmU0 l Z a0 hw [] by70 av cv t1 t2 t3 eo wc s1 v1 k1 3 _ s2 v2 k2 7 _ s3 v3 k3 6 _ Ty70.heap n0 Zy70 ry71 ry72 (Sta_keepW ry66 Kcy70 all0) ry73 (HE_s1.keep Ky70) (HF_s1_coder.keep Ky70 nin0) (HF_s1_value.keep Ky70 nin0) (HV_v1.keep Ky70 nin0) ry74 (HE_s2.keep Ky70) (HF_s2_coder.keep Ky70 nin0) (HF_s2_value.keep Ky70 nin0) (HV_v2.keep Ky70 nin0) ry75 (HE_s3.keep Ky70) (HF_s3_coder.keep Ky70 nin0) (HF_s3_value.keep Ky70 nin0) (HV_v3.keep Ky70 nin0) fy70_0 fy70_1 ⟨Arr_keep hcv.1 Ky70, hcv.2.1.keep Ky70, hcv.2.2.1, hcv.2.2.2⟩ hwc ney76 ney77 ney78) hZ (W_ hw 78) (W_ hw 11) (by decide) (by decide)) (g := (mkF m 470 #[iv p1, iv p2, iv p3, .val (.long pd), .second, iv 0, iv 1, iv zc, rv by1, rv ay4, rv t1, rv by70, .val .null, iv 3, iv dp, .val (.int (own_gt own_al0 dp.toNatClampNeg))] [(.ref by70)])) rfl (by rw [hml]; rfl) (argsL := [(.ref by70)]) (rest := []) (lenOf pd_24 rfl) rfl (lb rfl) (hb hby at_470) (fun _ _ => ⟨rfl, rfl, (by decide : 7 + 1 ≤ _), (by decide : 55 + 3 ≤ _)⟩))
        obtain ⟨rfl, Nqy79, Kcy79⟩ := hQy79
        have Ny79 := Fr.app Ny70 Nqy79
        have Zy79 := Nat.le_trans Zy70 Kcy79.1
        have Ky79 := Ky70.trans Kcy79 all0
        refine FinW.step (sty79) ?_
        show FinW p e below s _ _ _ (Ty79.setTop (mkF m 473 #[iv p1, iv p2, iv p3, .val (.long pd), .second, iv 0, iv 1, iv zc, rv by1, rv ay4, rv t1, rv by70, .val .null, iv 3, iv dp, .val (.int (own_gt own_al0 dp.toNatClampNeg))] [(.ref eo)]))
        refine FinW.step (fun _ k => Yo.astore Xy79.here hx (hb hby at_473) rfl rfl (l' := #[iv p1, iv p2, iv p3, .val (.long pd), .second, iv 0, iv 1, iv zc, rv by1, rv ay4, rv t1, rv by70, .val .null, rv eo, iv dp, .val (.int (own_gt own_al0 dp.toNatClampNeg))]) rfl (Yo.aload Xy79.here hx (hb hby at_475) rfl rfl (Yo.aconstNull Xy79.here hx (hb hby at_477) k))) ?_
        obtain ⟨cqy80, kqy80, qy80a, qy80b, qy80c⟩ := isOf hZ rfl (HE_eo.keep Ky79)
        obtain ⟨_, Ty80, Lcy80, Xy80, hQy80, sty80⟩ := pack (Xy79.virtualBack hx (y := n23) (z := n23) hown (mvT hZ (W_ hw 124)) (mvT hZ (W_ hw 125)) (notFace_of_selects (args := #[]) (mvT hZ (W_ hw 127))) (mvT hZ (W_ hw 127)) (mvT hZ (W_ hw 126)) (by decide) (backOf (W := 0) (rmor0 l Z a0 hw [] eo Ty79.heap n0 Zy79 (HF_eo_value.keep Ky79 nin0)) hZ (W_ hw 128) (W_ hw 109) (by decide) (by decide)) qy80a qy80c (g := (mkF m 478 #[iv p1, iv p2, iv p3, .val (.long pd), .second, iv 0, iv 1, iv zc, rv by1, rv ay4, rv t1, rv by70, .val .null, rv eo, iv dp, .val (.int (own_gt own_al0 dp.toNatClampNeg))] [.null, (.ref eo)])) rfl (by rw [hml]; rfl) (Steps.refl _) (argsL := [.null]) (rest := []) (lenOf pd_16 rfl) rfl (lb rfl) (hb hby at_478) (fun _ _ => ⟨rfl, rfl, (by decide : 8 + 0 ≤ _), (by decide : 58 + 0 ≤ _)⟩))
        obtain ⟨rfl, Nqy80, eqy80⟩ := hQy80
        have Ny80 := Fr.app Ny79 Nqy80
        refine FinW.step (sty80) ?_
        show FinW p e below s _ _ _ (Ty80.setTop (mkF m 481 #[iv p1, iv p2, iv p3, .val (.long pd), .second, iv 0, iv 1, iv zc, rv by1, rv ay4, rv t1, rv by70, .val .null, rv eo, iv dp, .val (.int (own_gt own_al0 dp.toNatClampNeg))] [.null]))
        refine FinW.step (fun _ k => Yo.aload Xy80.here hx (hb hby at_481) rfl rfl k) ?_
        refine FinW.step (fun _ => Jvm.RoadKit.acmp (g := (mkF m 483 #[iv p1, iv p2, iv p3, .val (.long pd), .second, iv 0, iv 1, iv zc, rv by1, rv ay4, rv t1, rv by70, .val .null, rv eo, iv dp, .val (.int (own_gt own_al0 dp.toNatClampNeg))] [.null, .null])) Xy80 hx rfl rfl rfl (pc0 := 483) (pc' := 486) (same := true) rfl (hb hby at_483) rfl (decide_eq_true rfl) (by decide) (by decide)) ?_
        show FinW p e below s _ _ _ (Ty80.setTop (mkF m 486 #[iv p1, iv p2, iv p3, .val (.long pd), .second, iv 0, iv 1, iv zc, rv by1, rv ay4, rv t1, rv by70, .val .null, rv eo, iv dp, .val (.int (own_gt own_al0 dp.toNatClampNeg))] []))
        refine FinW.step (fun _ k => Yo.iconst Xy80.here hx (hb hby at_486) (Yo.goto Xy80.here hx (pc0 := 487) (pc' := 491) rfl (hb hby at_487) (by decide) (by decide) k)) ?_
        have hky81 := (Nat.le_trans (Nat.le_trans (Nat.le_trans (Nat.le_trans (Nat.le_trans (Nat.le_trans (Nat.le_trans (Nat.le_trans (Nat.le_trans (Nat.le_trans (Nat.le_trans hky4 (Keep.of_wr Wy10).1) (Keep.of_wr Wy15).1) (Keep.of_wr Wy20).1) (Keep.of_wr Wy27).1) (Keep.of_wr Wy32).1) (Keep.of_wr Wy37).1) (Keep.of_wr Wy44).1) (Keep.of_wr Wy49).1) (Keep.of_wr Wy65).1) Kcy70.1) Kcy79.1)
        refine FinW.retN Xy80 hSy4 (by rw [eqy80]; exact hky81) hx (t := .boolean) hret (by simp) hlk (hb hby at_491) (by decide) (by decide) ?_
        show Q0 Z p1 p2 p3 pd wc fv eo av cv t1 t2 t3 s1 v1 k1 s2 v2 k2 s3 v3 k3 h0 n0 _ Ty80.heap _
        rw [eqy80]
        exact ⟨rfl, Ny80, Ky79⟩
      · show FinW p e below s _ _ _ (Ty65.setTop (mkF m 232 #[iv p1, iv p2, iv p3, .val (.long pd), .second, iv 0, iv 1, iv zc, rv by1, rv ay4, rv t1, u_, u_, iv 3, iv dp, .val (.int (own_gt own_al0 dp.toNatClampNeg))] []))
        refine FinW.step (fun _ k => Yo.aload Xy65.here hx (hb hby at_232) rfl rfl (Yo.iload Xy65.here hx (hb hby at_234) rfl k)) ?_
        have ry82 := (((ry42.wr Wy44).wr Wy49).wr Wy65)
        obtain ⟨_, Ty83, Lcy83, Xy83, hQy83, sty83⟩ := packS (Jvm.LawKit.callS Xy65 hx (y := n9) hown (mvT hZ (W_ hw 52)) (mvT hZ (W_ hw 53)) (mvT hZ (W_ hw 28)) (mvT hZ (W_ hw 54)) (by decide) (backOf (W := 0) (rmstL3 l Z a0 hw [] by1 ky1 _ wc hy65 n0 Zy65 Vy65 ry82 (own_chset own_alc0 _ _) hwc (own_hl Gz.2 (by show _ < 8; have := Gp.2.2; omega) hbg own_als0)) hZ (W_ hw 54) (W_ hw 28) (by decide) (by decide)) (g := (mkF m 236 #[iv p1, iv p2, iv p3, .val (.long pd), .second, iv 0, iv 1, iv zc, rv by1, rv ay4, rv t1, u_, u_, iv 3, iv dp, .val (.int (own_gt own_al0 dp.toNatClampNeg))] [(.int 3), (.ref by1)])) rfl (by rw [hml]; rfl) (argsL := [(.ref by1), (.int 3)]) (rest := []) (lenOf pd_23 rfl) rfl (lb rfl) (hb hby at_236) (fun _ _ => ⟨rfl, ey65, (by decide : 3 + 8 ≤ _), (by decide : 24 + 64 ≤ _)⟩))
        obtain ⟨nb_y83, kn_y83, by83, rfl, bzy83, bfy83_0, Nqy83, Kcy83, fy83_0, fy83_1, fy83_2, fy83_3, ney83_0⟩ := hQy83
        have Ny83 := Fr.app Ny65 Nqy83
        have gzy83 : n0 ≤ by83 := Nat.le_trans Zy65 bzy83
        have szy83 : h0.size ≤ by83 := Nat.le_trans Ky65.1 bzy83
        have gzy83_0 : n0 ≤ nb_y83 := Nat.le_trans Zy65 bfy83_0
        have szy83_0 : h0.size ≤ nb_y83 := Nat.le_trans Ky65.1 bfy83_0
        have Zy83 := Nat.le_trans Zy65 Kcy83.1
        have Ky83 := Ky65.trans Kcy83 all0
        refine FinW.step (sty83) ?_
        show FinW p e below s _ _ _ (Ty83.setTop (mkF m 239 #[iv p1, iv p2, iv p3, .val (.long pd), .second, iv 0, iv 1, iv zc, rv by1, rv ay4, rv t1, u_, u_, iv 3, iv dp, .val (.int (own_gt own_al0 dp.toNatClampNeg))] [(.ref by83)]))
        refine FinW.step (fun _ k => Yo.astore Xy83.here hx (hb hby at_239) rfl rfl (l' := #[iv p1, iv p2, iv p3, .val (.long pd), .second, iv 0, iv 1, iv zc, rv by1, rv ay4, rv t1, rv by83, u_, iv 3, iv dp, .val (.int (own_gt own_al0 dp.toNatClampNeg))]) rfl (Yo.iload Xy83.here hx (hb hby at_241) rfl (Yo.iload Xy83.here hx (hb hby at_243) rfl k))) ?_
        by_cases hcy84 : zc = (own_gt own_al0 dp.toNatClampNeg)
        · refine FinW.step (fun _ k => Yo.icmpNo Xy83.here hx (hb hby at_245) rfl (teq (hcy84 : (zc = (own_gt own_al0 dp.toNatClampNeg)))).2 (Yo.aload Xy83.here hx (hb hby at_248) rfl rfl (Yo.goto Xy83.here hx (pc0 := 250) (pc' := 254) rfl (hb hby at_250) (by decide) (by decide) (Yo.astore Xy83.here hx (hb hby at_254) rfl rfl (l' := #[iv p1, iv p2, iv p3, .val (.long pd), .second, iv 0, iv 1, iv zc, rv by1, rv ay4, rv t1, rv by83, rv t1, iv 3, iv dp, .val (.int (own_gt own_al0 dp.toNatClampNeg))]) rfl (Yo.goto Xy83.here hx (pc0 := 256) (pc' := 303) rfl (hb hby at_256) (by decide) (by decide) (Yo.goto Xy83.here hx (pc0 := 303) (pc' := 468) rfl (hb hby at_303) (by decide) (by decide) (Yo.aload Xy83.here hx (hb hby at_468) rfl rfl k))))))) ?_
          have ry85 := (Sta_keep HS_com_example_model_for_reads_modelforreads_model_FieldType__VALUES Ky83)
          have ry86 := (Sta_keep HS_java_util_Optional_EMPTY Ky83)
          have ry87 := (HF_t1_modelName.keep Ky83 nin0)
          have ry88 := (HF_t2_modelName.keep Ky83 nin0)
          have ry89 := (HF_t3_modelName.keep Ky83 nin0)
          have ney90 := nlt HE_s1.lt szy83
          have ney91 := nlt HE_s2.lt szy83
          have ney92 := nlt HE_s3.lt szy83
          obtain ⟨_, Ty93, Lcy93, Xy93, hQy93, sty93⟩ := packS (Jvm.LawKit.callS Xy83 hx (y := n16) hown (mvT hZ (W_ hw 76)) (mvT hZ (W_ hw 77)) (mvT hZ (W_ hw 11)) (mvT hZ (W_ hw 78)) (by decide) (backOf (W := 0) (rmfmL1 l Z a0 hw [] by83 av cv t1 t2 t3 eo wc s1 v1 k1 3 _ s2 v2 k2 7 _ s3 v3 k3 6 _ nb_y83 kn_y83 3 _ Ty83.heap n0 Zy83 ry85 ry86 (Sta_keepW ry82 Kcy83 all0) ry87 (HE_s1.keep Ky83) (HF_s1_coder.keep Ky83 nin0) (HF_s1_value.keep Ky83 nin0) (HV_v1.keep Ky83 nin0) ry88 (HE_s2.keep Ky83) (HF_s2_coder.keep Ky83 nin0) (HF_s2_value.keep Ky83 nin0) (HV_v2.keep Ky83 nin0) ry89 (HE_s3.keep Ky83) (HF_s3_coder.keep Ky83 nin0) (HF_s3_value.keep Ky83 nin0) (HV_v3.keep Ky83 nin0) fy83_0 fy83_1 fy83_2 fy83_3 ⟨Arr_keep hcv.1 Ky83, hcv.2.1.keep Ky83, hcv.2.2.1, hcv.2.2.2⟩ hwc (own_wlc _ _ _) (by decide) (by decide) (by decide) own_nlc0 own_nlc1 own_nlc2 (own_same (n := 3) (k := 3) rfl own_nm0 Gp.2.2 Gz.2 hcy84) ney90 ney91 ney92) hZ (W_ hw 78) (W_ hw 11) (by decide) (by decide)) (g := (mkF m 470 #[iv p1, iv p2, iv p3, .val (.long pd), .second, iv 0, iv 1, iv zc, rv by1, rv ay4, rv t1, rv by83, rv t1, iv 3, iv dp, .val (.int (own_gt own_al0 dp.toNatClampNeg))] [(.ref by83)])) rfl (by rw [hml]; rfl) (argsL := [(.ref by83)]) (rest := []) (lenOf pd_24 rfl) rfl (lb rfl) (hb hby at_470) (fun _ _ => ⟨rfl, rfl, (by decide : 11 + 2 ≤ _), (by decide : 88 + 4 ≤ _)⟩))
          obtain ⟨by93, rfl, bzy93, Nqy93, Kcy93, fy93_0, fy93_1⟩ := hQy93
          have Ny93 := Fr.app Ny83 Nqy93
          have gzy93 : n0 ≤ by93 := Nat.le_trans Zy83 bzy93
          have szy93 : h0.size ≤ by93 := Nat.le_trans Ky83.1 bzy93
          have Zy93 := Nat.le_trans Zy83 Kcy93.1
          have Ky93 := Ky83.trans Kcy93 all0
          refine FinW.step (sty93) ?_
          show FinW p e below s _ _ _ (Ty93.setTop (mkF m 473 #[iv p1, iv p2, iv p3, .val (.long pd), .second, iv 0, iv 1, iv zc, rv by1, rv ay4, rv t1, rv by83, rv t1, iv 3, iv dp, .val (.int (own_gt own_al0 dp.toNatClampNeg))] [(.ref by93)]))
          refine FinW.step (fun _ k => Yo.astore Xy93.here hx (hb hby at_473) rfl rfl (l' := #[iv p1, iv p2, iv p3, .val (.long pd), .second, iv 0, iv 1, iv zc, rv by1, rv ay4, rv t1, rv by83, rv t1, rv by93, iv dp, .val (.int (own_gt own_al0 dp.toNatClampNeg))]) rfl (Yo.aload Xy93.here hx (hb hby at_475) rfl rfl (Yo.aconstNull Xy93.here hx (hb hby at_477) k))) ?_
          obtain ⟨cqy94, kqy94, qy94a, qy94b, qy94c⟩ := isOf hZ rfl fy93_0
          obtain ⟨_, Ty94, Lcy94, Xy94, hQy94, sty94⟩ := pack (Xy93.virtualBack hx (y := n23) (z := n23) hown (mvT hZ (W_ hw 124)) (mvT hZ (W_ hw 125)) (notFace_of_selects (args := #[]) (mvT hZ (W_ hw 127))) (mvT hZ (W_ hw 127)) (mvT hZ (W_ hw 126)) (by decide) (backOf (W := 0) (rmor1 l Z a0 hw [] by93 t1 Ty93.heap n0 Zy93 fy93_1) hZ (W_ hw 128) (W_ hw 109) (by decide) (by decide)) qy94a qy94c (g := (mkF m 478 #[iv p1, iv p2, iv p3, .val (.long pd), .second, iv 0, iv 1, iv zc, rv by1, rv ay4, rv t1, rv by83, rv t1, rv by93, iv dp, .val (.int (own_gt own_al0 dp.toNatClampNeg))] [.null, (.ref by93)])) rfl (by rw [hml]; rfl) (Steps.refl _) (argsL := [.null]) (rest := []) (lenOf pd_16 rfl) rfl (lb rfl) (hb hby at_478) (fun _ _ => ⟨rfl, rfl, (by decide : 13 + 0 ≤ _), (by decide : 92 + 0 ≤ _)⟩))
          obtain ⟨rfl, Nqy94, eqy94⟩ := hQy94
          have Ny94 := Fr.app Ny93 Nqy94
          refine FinW.step (sty94) ?_
          show FinW p e below s _ _ _ (Ty94.setTop (mkF m 481 #[iv p1, iv p2, iv p3, .val (.long pd), .second, iv 0, iv 1, iv zc, rv by1, rv ay4, rv t1, rv by83, rv t1, rv by93, iv dp, .val (.int (own_gt own_al0 dp.toNatClampNeg))] [(.ref t1)]))
          refine FinW.step (fun _ k => Yo.aload Xy94.here hx (hb hby at_481) rfl rfl k) ?_
          refine FinW.step (fun _ => Jvm.RoadKit.acmp (g := (mkF m 483 #[iv p1, iv p2, iv p3, .val (.long pd), .second, iv 0, iv 1, iv zc, rv by1, rv ay4, rv t1, rv by83, rv t1, rv by93, iv dp, .val (.int (own_gt own_al0 dp.toNatClampNeg))] [(.ref t1), (.ref t1)])) Xy94 hx rfl rfl rfl (pc0 := 483) (pc' := 486) (same := true) rfl (hb hby at_483) rfl (decide_eq_true rfl) (by decide) (by decide)) ?_
          show FinW p e below s _ _ _ (Ty94.setTop (mkF m 486 #[iv p1, iv p2, iv p3, .val (.long pd), .second, iv 0, iv 1, iv zc, rv by1, rv ay4, rv t1, rv by83, rv t1, rv by93, iv dp, .val (.int (own_gt own_al0 dp.toNatClampNeg))] []))
          refine FinW.step (fun _ k => Yo.iconst Xy94.here hx (hb hby at_486) (Yo.goto Xy94.here hx (pc0 := 487) (pc' := 491) rfl (hb hby at_487) (by decide) (by decide) k)) ?_
          have hky95 := (Nat.le_trans (Nat.le_trans (Nat.le_trans (Nat.le_trans (Nat.le_trans (Nat.le_trans (Nat.le_trans (Nat.le_trans (Nat.le_trans (Nat.le_trans (Nat.le_trans hky4 (Keep.of_wr Wy10).1) (Keep.of_wr Wy15).1) (Keep.of_wr Wy20).1) (Keep.of_wr Wy27).1) (Keep.of_wr Wy32).1) (Keep.of_wr Wy37).1) (Keep.of_wr Wy44).1) (Keep.of_wr Wy49).1) (Keep.of_wr Wy65).1) Kcy83.1) Kcy93.1)
          refine FinW.retN Xy94 hSy4 (by rw [eqy94]; exact hky95) hx (t := .boolean) hret (by simp) hlk (hb hby at_491) (by decide) (by decide) ?_
          show Q0 Z p1 p2 p3 pd wc fv eo av cv t1 t2 t3 s1 v1 k1 s2 v2 k2 s3 v3 k3 h0 n0 _ Ty94.heap _
          rw [eqy94]
          exact ⟨rfl, Ny94, Ky93⟩
        · refine FinW.step (fun _ k => Yo.icmpYes Xy83.here hx (pc0 := 245) (pc' := 253) rfl (hb hby at_245) rfl (feq (hcy84 : ¬ (zc = (own_gt own_al0 dp.toNatClampNeg)))).2 (by decide) (by decide) (Yo.aconstNull Xy83.here hx (hb hby at_253) (Yo.astore Xy83.here hx (hb hby at_254) rfl rfl (l' := #[iv p1, iv p2, iv p3, .val (.long pd), .second, iv 0, iv 1, iv zc, rv by1, rv ay4, rv t1, rv by83, .val .null, iv 3, iv dp, .val (.int (own_gt own_al0 dp.toNatClampNeg))]) rfl (Yo.goto Xy83.here hx (pc0 := 256) (pc' := 303) rfl (hb hby at_256) (by decide) (by decide) (Yo.goto Xy83.here hx (pc0 := 303) (pc' := 468) rfl (hb hby at_303) (by decide) (by decide) (Yo.aload Xy83.here hx (hb hby at_468) rfl rfl k)))))) ?_
          have ry96 := (Sta_keep HS_com_example_model_for_reads_modelforreads_model_FieldType__VALUES Ky83)
          have ry97 := (Sta_keep HS_java_util_Optional_EMPTY Ky83)
          have ry98 := (HF_t1_modelName.keep Ky83 nin0)
          have ry99 := (HF_t2_modelName.keep Ky83 nin0)
          have ry100 := (HF_t3_modelName.keep Ky83 nin0)
          have ney101 := nlt HE_s1.lt szy83
          have ney102 := nlt HE_s2.lt szy83
          have ney103 := nlt HE_s3.lt szy83
          obtain ⟨_, Ty104, Lcy104, Xy104, hQy104, sty104⟩ := packS (Jvm.LawKit.callS Xy83 hx (y := n16) hown (mvT hZ (W_ hw 76)) (mvT hZ (W_ hw 77)) (mvT hZ (W_ hw 11)) (mvT hZ (W_ hw 78)) (by decide) (backOf (W := 0) (rmfmL0 l Z a0 hw [] by83 av cv t1 t2 t3 eo wc s1 v1 k1 3 _ s2 v2 k2 7 _ s3 v3 k3 6 _ nb_y83 kn_y83 3 _ Ty83.heap n0 Zy83 ry96 ry97 (Sta_keepW ry82 Kcy83 all0) ry98 (HE_s1.keep Ky83) (HF_s1_coder.keep Ky83 nin0) (HF_s1_value.keep Ky83 nin0) (HV_v1.keep Ky83 nin0) ry99 (HE_s2.keep Ky83) (HF_s2_coder.keep Ky83 nin0) (HF_s2_value.keep Ky83 nin0) (HV_v2.keep Ky83 nin0) ry100 (HE_s3.keep Ky83) (HF_s3_coder.keep Ky83 nin0) (HF_s3_value.keep Ky83 nin0) (HV_v3.keep Ky83 nin0) fy83_0 fy83_1 fy83_2 fy83_3 ⟨Arr_keep hcv.1 Ky83, hcv.2.1.keep Ky83, hcv.2.2.1, hcv.2.2.2⟩ hwc (own_wlc _ _ _) (by decide) (by decide) (by decide) own_nlc0 own_nlc1 own_nlc2 (own_diff (n := 3) (k := 3) rfl own_nm0 Gp.2.2 Gz.2 Gz.1.1 hbg hcy84) (own_eqb0 (by decide)) (own_eqb0 (by decide)) ney101 ney102 ney103) hZ (W_ hw 78) (W_ hw 11) (by decide) (by decide)) (g := (mkF m 470 #[iv p1, iv p2, iv p3, .val (.long pd), .second, iv 0, iv 1, iv zc, rv by1, rv ay4, rv t1, rv by83, .val .null, iv 3, iv dp, .val (.int (own_gt own_al0 dp.toNatClampNeg))] [(.ref by83)])) rfl (by rw [hml]; rfl) (argsL := [(.ref by83)]) (rest := []) (lenOf pd_24 rfl) rfl (lb rfl) (hb hby at_470) (fun _ _ => ⟨rfl, rfl, (by decide : 11 + 1 ≤ _), (by decide : 88 + 3 ≤ _)⟩))
          obtain ⟨rfl, Nqy104, Kcy104⟩ := hQy104
          have Ny104 := Fr.app Ny83 Nqy104
          have Zy104 := Nat.le_trans Zy83 Kcy104.1
          have Ky104 := Ky83.trans Kcy104 all0
          refine FinW.step (sty104) ?_
          show FinW p e below s _ _ _ (Ty104.setTop (mkF m 473 #[iv p1, iv p2, iv p3, .val (.long pd), .second, iv 0, iv 1, iv zc, rv by1, rv ay4, rv t1, rv by83, .val .null, iv 3, iv dp, .val (.int (own_gt own_al0 dp.toNatClampNeg))] [(.ref eo)]))
          refine FinW.step (fun _ k => Yo.astore Xy104.here hx (hb hby at_473) rfl rfl (l' := #[iv p1, iv p2, iv p3, .val (.long pd), .second, iv 0, iv 1, iv zc, rv by1, rv ay4, rv t1, rv by83, .val .null, rv eo, iv dp, .val (.int (own_gt own_al0 dp.toNatClampNeg))]) rfl (Yo.aload Xy104.here hx (hb hby at_475) rfl rfl (Yo.aconstNull Xy104.here hx (hb hby at_477) k))) ?_
          obtain ⟨cqy105, kqy105, qy105a, qy105b, qy105c⟩ := isOf hZ rfl (HE_eo.keep Ky104)
          obtain ⟨_, Ty105, Lcy105, Xy105, hQy105, sty105⟩ := pack (Xy104.virtualBack hx (y := n23) (z := n23) hown (mvT hZ (W_ hw 124)) (mvT hZ (W_ hw 125)) (notFace_of_selects (args := #[]) (mvT hZ (W_ hw 127))) (mvT hZ (W_ hw 127)) (mvT hZ (W_ hw 126)) (by decide) (backOf (W := 0) (rmor0 l Z a0 hw [] eo Ty104.heap n0 Zy104 (HF_eo_value.keep Ky104 nin0)) hZ (W_ hw 128) (W_ hw 109) (by decide) (by decide)) qy105a qy105c (g := (mkF m 478 #[iv p1, iv p2, iv p3, .val (.long pd), .second, iv 0, iv 1, iv zc, rv by1, rv ay4, rv t1, rv by83, .val .null, rv eo, iv dp, .val (.int (own_gt own_al0 dp.toNatClampNeg))] [.null, (.ref eo)])) rfl (by rw [hml]; rfl) (Steps.refl _) (argsL := [.null]) (rest := []) (lenOf pd_16 rfl) rfl (lb rfl) (hb hby at_478) (fun _ _ => ⟨rfl, rfl, (by decide : 12 + 0 ≤ _), (by decide : 91 + 0 ≤ _)⟩))
          obtain ⟨rfl, Nqy105, eqy105⟩ := hQy105
          have Ny105 := Fr.app Ny104 Nqy105
          refine FinW.step (sty105) ?_
          show FinW p e below s _ _ _ (Ty105.setTop (mkF m 481 #[iv p1, iv p2, iv p3, .val (.long pd), .second, iv 0, iv 1, iv zc, rv by1, rv ay4, rv t1, rv by83, .val .null, rv eo, iv dp, .val (.int (own_gt own_al0 dp.toNatClampNeg))] [.null]))
          refine FinW.step (fun _ k => Yo.aload Xy105.here hx (hb hby at_481) rfl rfl k) ?_
          refine FinW.step (fun _ => Jvm.RoadKit.acmp (g := (mkF m 483 #[iv p1, iv p2, iv p3, .val (.long pd), .second, iv 0, iv 1, iv zc, rv by1, rv ay4, rv t1, rv by83, .val .null, rv eo, iv dp, .val (.int (own_gt own_al0 dp.toNatClampNeg))] [.null, .null])) Xy105 hx rfl rfl rfl (pc0 := 483) (pc' := 486) (same := true) rfl (hb hby at_483) rfl (decide_eq_true rfl) (by decide) (by decide)) ?_
          show FinW p e below s _ _ _ (Ty105.setTop (mkF m 486 #[iv p1, iv p2, iv p3, .val (.long pd), .second, iv 0, iv 1, iv zc, rv by1, rv ay4, rv t1, rv by83, .val .null, rv eo, iv dp, .val (.int (own_gt own_al0 dp.toNatClampNeg))] []))
          refine FinW.step (fun _ k => Yo.iconst Xy105.here hx (hb hby at_486) (Yo.goto Xy105.here hx (pc0 := 487) (pc' := 491) rfl (hb hby at_487) (by decide) (by decide) k)) ?_
          have hky106 := (Nat.le_trans (Nat.le_trans (Nat.le_trans (Nat.le_trans (Nat.le_trans (Nat.le_trans (Nat.le_trans (Nat.le_trans (Nat.le_trans (Nat.le_trans (Nat.le_trans hky4 (Keep.of_wr Wy10).1) (Keep.of_wr Wy15).1) (Keep.of_wr Wy20).1) (Keep.of_wr Wy27).1) (Keep.of_wr Wy32).1) (Keep.of_wr Wy37).1) (Keep.of_wr Wy44).1) (Keep.of_wr Wy49).1) (Keep.of_wr Wy65).1) Kcy83.1) Kcy104.1)
          refine FinW.retN Xy105 hSy4 (by rw [eqy105]; exact hky106) hx (t := .boolean) hret (by simp) hlk (hb hby at_491) (by decide) (by decide) ?_
          show Q0 Z p1 p2 p3 pd wc fv eo av cv t1 t2 t3 s1 v1 k1 s2 v2 k2 s3 v3 k3 h0 n0 _ Ty105.heap _
          rw [eqy105]
          exact ⟨rfl, Ny105, Ky104⟩
    · show FinW p e below s _ _ _ (Ty49.setTop (mkF m 182 #[iv p1, iv p2, iv p3, .val (.long pd), .second, iv 0, iv 2, iv zc, rv by1, rv ay4, rv t1, u_, u_, iv 3, u_, u_] []))
      refine FinW.step (fun _ k => Yo.iload Xy49.here hx (hb hby at_182) rfl (Yo.ifYes Xy49.here hx (pc0 := 184) (pc' := 203) rfl (hb hby at_184) rfl ((if0 _ _).trans (feq ((by decide) : ¬ ((2 : Int32) = (0 : Int32)))).2) (by decide) (by decide) (Yo.iload Xy49.here hx (hb hby at_203) rfl (Yo.iconst Xy49.here hx (hb hby at_205) (Yo.icmpYes Xy49.here hx (pc0 := 206) (pc' := 259) rfl (hb hby at_206) rfl (feq ((by decide) : ¬ ((2 : Int32) = (1 : Int32)))).2 (by decide) (by decide) (Yo.iload Xy49.here hx (hb hby at_259) rfl (Yo.iconst Xy49.here hx (hb hby at_261) (Yo.icmpNo Xy49.here hx (hb hby at_262) rfl (teq ((by decide) : ((2 : Int32) = (2 : Int32)))).2 k)))))))) ?_
      refine FinW.step (fun _ k => Yo.aload Xy49.here hx (hb hby at_265) rfl rfl (Yo.iload Xy49.here hx (hb hby at_267) rfl (Yo.iconst Xy49.here hx (hb hby at_269) (Yo.isub Xy49.here hx (hb hby at_270) rfl k)))) ?_
      show FinW p e below s _ _ _ (Ty49.setTop (mkF m 271 #[iv p1, iv p2, iv p3, .val (.long pd), .second, iv 0, iv 2, iv zc, rv by1, rv ay4, rv t1, u_, u_, iv 3, u_, u_] [(.int 2), (.ref by1)]))
      obtain ⟨_, Ty107, Lcy107, Xy107, hQy107, sty107⟩ := packS (Jvm.LawKit.callS Xy49 hx (y := n9) hown (mvT hZ (W_ hw 52)) (mvT hZ (W_ hw 53)) (mvT hZ (W_ hw 28)) (mvT hZ (W_ hw 54)) (by decide) (backOf (W := 0) (rmstL2 l Z a0 hw [] by1 ky1 own_al0 wc hy49 n0 Zy49 Vy50 ((ry42.wr Wy44).wr Wy49) own_alc0 hwc (own_latk own_als0 2)) hZ (W_ hw 54) (W_ hw 28) (by decide) (by decide)) (g := (mkF m 271 #[iv p1, iv p2, iv p3, .val (.long pd), .second, iv 0, iv 2, iv zc, rv by1, rv ay4, rv t1, u_, u_, iv 3, u_, u_] [(.int 2), (.ref by1)])) rfl (by rw [hml]; rfl) (argsL := [(.ref by1), (.int 2)]) (rest := []) (lenOf pd_23 rfl) rfl (lb rfl) (hb hby at_271) (fun _ _ => ⟨rfl, ey49, (by decide : 3 + 8 ≤ _), (by decide : 24 + 64 ≤ _)⟩))
      obtain ⟨nb_y107, kn_y107, by107, rfl, bzy107, bfy107_0, Nqy107, Kcy107, fy107_0, fy107_1, fy107_2, fy107_3, ney107_0⟩ := hQy107
      have Ny107 := Fr.app Ny49 Nqy107
      have gzy107 : n0 ≤ by107 := Nat.le_trans Zy49 bzy107
      have szy107 : h0.size ≤ by107 := Nat.le_trans Ky49.1 bzy107
      have gzy107_0 : n0 ≤ nb_y107 := Nat.le_trans Zy49 bfy107_0
      have szy107_0 : h0.size ≤ nb_y107 := Nat.le_trans Ky49.1 bfy107_0
      have Zy107 := Nat.le_trans Zy49 Kcy107.1
      have Ky107 := Ky49.trans Kcy107 all0
      refine FinW.step (sty107) ?_
      show FinW p e below s _ _ _ (Ty107.setTop (mkF m 274 #[iv p1, iv p2, iv p3, .val (.long pd), .second, iv 0, iv 2, iv zc, rv by1, rv ay4, rv t1, u_, u_, iv 3, u_, u_] [(.ref by107)]))
      refine FinW.step (fun _ k => Yo.astore Xy107.here hx (hb hby at_274) rfl rfl (l' := #[iv p1, iv p2, iv p3, .val (.long pd), .second, iv 0, iv 2, iv zc, rv by1, rv ay4, rv t1, rv by107, u_, iv 3, u_, u_]) rfl (Yo.aconstNull Xy107.here hx (hb hby at_276) (Yo.astore Xy107.here hx (hb hby at_277) rfl rfl (l' := #[iv p1, iv p2, iv p3, .val (.long pd), .second, iv 0, iv 2, iv zc, rv by1, rv ay4, rv t1, rv by107, .val .null, iv 3, u_, u_]) rfl (Yo.goto Xy107.here hx (pc0 := 279) (pc' := 303) rfl (hb hby at_279) (by decide) (by decide) (Yo.goto Xy107.here hx (pc0 := 303) (pc' := 468) rfl (hb hby at_303) (by decide) (by decide) (Yo.aload Xy107.here hx (hb hby at_468) rfl rfl k)))))) ?_
      have ry108 := (Sta_keep HS_com_example_model_for_reads_modelforreads_model_FieldType__VALUES Ky107)
      have ry109 := (Sta_keep HS_java_util_Optional_EMPTY Ky107)
      have ry110 := (Sta_keepW ((ry42.wr Wy44).wr Wy49) Kcy107 all0)
      have ry111 := (HF_t1_modelName.keep Ky107 nin0)
      have ry112 := (HF_t2_modelName.keep Ky107 nin0)
      have ry113 := (HF_t3_modelName.keep Ky107 nin0)
      have ney114 := nlt HE_s1.lt szy107
      have ney115 := nlt HE_s2.lt szy107
      have ney116 := nlt HE_s3.lt szy107
      obtain ⟨_, Ty117, Lcy117, Xy117, hQy117, sty117⟩ := packS (Jvm.LawKit.callS Xy107 hx (y := n16) hown (mvT hZ (W_ hw 76)) (mvT hZ (W_ hw 77)) (mvT hZ (W_ hw 11)) (mvT hZ (W_ hw 78)) (by decide) (backOf (W := 0) (rmfmL0 l Z a0 hw [] by107 av cv t1 t2 t3 eo wc s1 v1 k1 3 _ s2 v2 k2 7 _ s3 v3 k3 6 _ nb_y107 kn_y107 2 _ Ty107.heap n0 Zy107 ry108 ry109 ry110 ry111 (HE_s1.keep Ky107) (HF_s1_coder.keep Ky107 nin0) (HF_s1_value.keep Ky107 nin0) (HV_v1.keep Ky107 nin0) ry112 (HE_s2.keep Ky107) (HF_s2_coder.keep Ky107 nin0) (HF_s2_value.keep Ky107 nin0) (HV_v2.keep Ky107 nin0) ry113 (HE_s3.keep Ky107) (HF_s3_coder.keep Ky107 nin0) (HF_s3_value.keep Ky107 nin0) (HV_v3.keep Ky107 nin0) fy107_0 fy107_1 fy107_2 fy107_3 ⟨Arr_keep hcv.1 Ky107, hcv.2.1.keep Ky107, hcv.2.2.1, hcv.2.2.2⟩ hwc (own_wlc _ _ _) (by decide) (by decide) (by decide) own_nlc0 own_nlc1 own_nlc2 (own_eqb0 (by decide)) (own_eqb0 (by decide)) (own_eqb0 (by decide)) ney114 ney115 ney116) hZ (W_ hw 78) (W_ hw 11) (by decide) (by decide)) (g := (mkF m 470 #[iv p1, iv p2, iv p3, .val (.long pd), .second, iv 0, iv 2, iv zc, rv by1, rv ay4, rv t1, rv by107, .val .null, iv 3, u_, u_] [(.ref by107)])) rfl (by rw [hml]; rfl) (argsL := [(.ref by107)]) (rest := []) (lenOf pd_24 rfl) rfl (lb rfl) (hb hby at_470) (fun _ _ => ⟨rfl, rfl, (by decide : 11 + 1 ≤ _), (by decide : 88 + 3 ≤ _)⟩))
      obtain ⟨rfl, Nqy117, Kcy117⟩ := hQy117
      have Ny117 := Fr.app Ny107 Nqy117
      have Zy117 := Nat.le_trans Zy107 Kcy117.1
      have Ky117 := Ky107.trans Kcy117 all0
      refine FinW.step (sty117) ?_
      show FinW p e below s _ _ _ (Ty117.setTop (mkF m 473 #[iv p1, iv p2, iv p3, .val (.long pd), .second, iv 0, iv 2, iv zc, rv by1, rv ay4, rv t1, rv by107, .val .null, iv 3, u_, u_] [(.ref eo)]))
      refine FinW.step (fun _ k => Yo.astore Xy117.here hx (hb hby at_473) rfl rfl (l' := #[iv p1, iv p2, iv p3, .val (.long pd), .second, iv 0, iv 2, iv zc, rv by1, rv ay4, rv t1, rv by107, .val .null, rv eo, u_, u_]) rfl (Yo.aload Xy117.here hx (hb hby at_475) rfl rfl (Yo.aconstNull Xy117.here hx (hb hby at_477) k))) ?_
      obtain ⟨cqy118, kqy118, qy118a, qy118b, qy118c⟩ := isOf hZ rfl (HE_eo.keep Ky117)
      obtain ⟨_, Ty118, Lcy118, Xy118, hQy118, sty118⟩ := pack (Xy117.virtualBack hx (y := n23) (z := n23) hown (mvT hZ (W_ hw 124)) (mvT hZ (W_ hw 125)) (notFace_of_selects (args := #[]) (mvT hZ (W_ hw 127))) (mvT hZ (W_ hw 127)) (mvT hZ (W_ hw 126)) (by decide) (backOf (W := 0) (rmor0 l Z a0 hw [] eo Ty117.heap n0 Zy117 (HF_eo_value.keep Ky117 nin0)) hZ (W_ hw 128) (W_ hw 109) (by decide) (by decide)) qy118a qy118c (g := (mkF m 478 #[iv p1, iv p2, iv p3, .val (.long pd), .second, iv 0, iv 2, iv zc, rv by1, rv ay4, rv t1, rv by107, .val .null, rv eo, u_, u_] [.null, (.ref eo)])) rfl (by rw [hml]; rfl) (Steps.refl _) (argsL := [.null]) (rest := []) (lenOf pd_16 rfl) rfl (lb rfl) (hb hby at_478) (fun _ _ => ⟨rfl, rfl, (by decide : 12 + 0 ≤ _), (by decide : 91 + 0 ≤ _)⟩))
      obtain ⟨rfl, Nqy118, eqy118⟩ := hQy118
      have Ny118 := Fr.app Ny117 Nqy118
      refine FinW.step (sty118) ?_
      show FinW p e below s _ _ _ (Ty118.setTop (mkF m 481 #[iv p1, iv p2, iv p3, .val (.long pd), .second, iv 0, iv 2, iv zc, rv by1, rv ay4, rv t1, rv by107, .val .null, rv eo, u_, u_] [.null]))
      refine FinW.step (fun _ k => Yo.aload Xy118.here hx (hb hby at_481) rfl rfl k) ?_
      refine FinW.step (fun _ => Jvm.RoadKit.acmp (g := (mkF m 483 #[iv p1, iv p2, iv p3, .val (.long pd), .second, iv 0, iv 2, iv zc, rv by1, rv ay4, rv t1, rv by107, .val .null, rv eo, u_, u_] [.null, .null])) Xy118 hx rfl rfl rfl (pc0 := 483) (pc' := 486) (same := true) rfl (hb hby at_483) rfl (decide_eq_true rfl) (by decide) (by decide)) ?_
      show FinW p e below s _ _ _ (Ty118.setTop (mkF m 486 #[iv p1, iv p2, iv p3, .val (.long pd), .second, iv 0, iv 2, iv zc, rv by1, rv ay4, rv t1, rv by107, .val .null, rv eo, u_, u_] []))
      refine FinW.step (fun _ k => Yo.iconst Xy118.here hx (hb hby at_486) (Yo.goto Xy118.here hx (pc0 := 487) (pc' := 491) rfl (hb hby at_487) (by decide) (by decide) k)) ?_
      have hky119 := (Nat.le_trans (Nat.le_trans (Nat.le_trans (Nat.le_trans (Nat.le_trans (Nat.le_trans (Nat.le_trans (Nat.le_trans (Nat.le_trans (Nat.le_trans hky4 (Keep.of_wr Wy10).1) (Keep.of_wr Wy15).1) (Keep.of_wr Wy20).1) (Keep.of_wr Wy27).1) (Keep.of_wr Wy32).1) (Keep.of_wr Wy37).1) (Keep.of_wr Wy44).1) (Keep.of_wr Wy49).1) Kcy107.1) Kcy117.1)
      refine FinW.retN Xy118 hSy4 (by rw [eqy118]; exact hky119) hx (t := .boolean) hret (by simp) hlk (hb hby at_491) (by decide) (by decide) ?_
      show Q0 Z p1 p2 p3 pd wc fv eo av cv t1 t2 t3 s1 v1 k1 s2 v2 k2 s3 v3 k3 h0 n0 _ Ty118.heap _
      rw [eqy118]
      exact ⟨rfl, Ny118, Ky117⟩
    · show FinW p e below s _ _ _ (Ty49.setTop (mkF m 182 #[iv p1, iv p2, iv p3, .val (.long pd), .second, iv 0, iv 3, iv zc, rv by1, rv ay4, rv t1, u_, u_, iv 3, u_, u_] []))
      refine FinW.step (fun _ k => Yo.iload Xy49.here hx (hb hby at_182) rfl (Yo.ifYes Xy49.here hx (pc0 := 184) (pc' := 203) rfl (hb hby at_184) rfl ((if0 _ _).trans (feq ((by decide) : ¬ ((3 : Int32) = (0 : Int32)))).2) (by decide) (by decide) (Yo.iload Xy49.here hx (hb hby at_203) rfl (Yo.iconst Xy49.here hx (hb hby at_205) (Yo.icmpYes Xy49.here hx (pc0 := 206) (pc' := 259) rfl (hb hby at_206) rfl (feq ((by decide) : ¬ ((3 : Int32) = (1 : Int32)))).2 (by decide) (by decide) (Yo.iload Xy49.here hx (hb hby at_259) rfl (Yo.iconst Xy49.here hx (hb hby at_261) (Yo.icmpYes Xy49.here hx (pc0 := 262) (pc' := 282) rfl (hb hby at_262) rfl (feq ((by decide) : ¬ ((3 : Int32) = (2 : Int32)))).2 (by decide) (by decide) k)))))))) ?_
      rcases Classical.em ((255 : Int32) < zc) with hbg | hbg
      · show FinW p e below s _ _ _ (Ty49.setTop (mkF m 282 #[iv p1, iv p2, iv p3, .val (.long pd), .second, iv 0, iv 3, iv zc, rv by1, rv ay4, rv t1, u_, u_, iv 3, u_, u_] []))
        refine FinW.step (fun _ k => Yo.aload Xy49.here hx (hb hby at_282) rfl rfl (Yo.iload Xy49.here hx (hb hby at_284) rfl (Yo.iload Xy49.here hx (hb hby at_286) rfl k))) ?_
        obtain ⟨Ty120, hy120, Xy120, ey120, Wy120, Vy120, Ny120, Zy120, Ky120, sty120⟩ := cst3 Xy49 hx hZ ey49 (j := 3) (x := zc) (ix := 3) Vy50 ⟨by decide, by decide⟩ rfl (by decide) Ny49 Zy49 Ky49 gzy1 (Or.inr szy1) (hb hby at_288)
        refine FinW.step (sty120) ?_
        refine FinW.step (fun _ k => Yo.aload Xy120.here hx (hb hby at_289) rfl rfl (Yo.iload Xy120.here hx (hb hby at_291) rfl (Yo.iconst Xy120.here hx (hb hby at_293) (Yo.iadd Xy120.here hx (hb hby at_294) rfl k)))) ?_
        show FinW p e below s _ _ _ (Ty120.setTop (mkF m 295 #[iv p1, iv p2, iv p3, .val (.long pd), .second, iv 0, iv 3, iv zc, rv by1, rv ay4, rv t1, u_, u_, iv 3, u_, u_] [(.int 4), (.ref by1)]))
        have ry121 := (((ry42.wr Wy44).wr Wy49).wr Wy120)
        have ry122 := (Sta_keep HS_java_lang_StringUTF16__assertionsDisabled Ky120)
        have ry123 := (Sta_keep HS_java_lang_StringUTF16_HI_BYTE_SHIFT Ky120)
        have ry124 := (Sta_keep HS_java_lang_StringUTF16_LO_BYTE_SHIFT Ky120)
        obtain ⟨_, Ty125, Lcy125, Xy125, hQy125, sty125⟩ := packS (Jvm.LawKit.callS Xy120 hx (y := n9) hown (mvT hZ (W_ hw 52)) (mvT hZ (W_ hw 53)) (mvT hZ (W_ hw 28)) (mvT hZ (W_ hw 54)) (by decide) (backOf (W := 0) (rmstU4 l Z a0 hw [] by1 ky1 _ wc 3 hy120 n0 Zy120 Vy120 ry121 ry122 ry123 ry124 (own_chset own_alc0 _ _) hwc (by decide) (own_hu Gz.2 (by decide) (Nat.le_of_lt (by decide)) own_als0) (own_hb Gz.2 (by decide) (by decide) hbg) (own_hr Gz.2 (by decide) (by decide) Gz.1)) hZ (W_ hw 54) (W_ hw 28) (by decide) (by decide)) (g := (mkF m 295 #[iv p1, iv p2, iv p3, .val (.long pd), .second, iv 0, iv 3, iv zc, rv by1, rv ay4, rv t1, u_, u_, iv 3, u_, u_] [(.int 4), (.ref by1)])) rfl (by rw [hml]; rfl) (argsL := [(.ref by1), (.int 4)]) (rest := []) (lenOf pd_23 rfl) rfl (lb rfl) (hb hby at_295) (fun _ _ => ⟨rfl, ey120, (by decide : 3 + 4 ≤ _), (by decide : 24 + 32 ≤ _)⟩))
        obtain ⟨nb_y125, kn_y125, lz_y125, by125, rfl, bzy125, bfy125_0, Nqy125, Kcy125, fy125_0, fy125_1, fy125_2, fy125_3, ney125_0⟩ := hQy125
        have Ny125 := Fr.app Ny120 Nqy125
        have gzy125 : n0 ≤ by125 := Nat.le_trans Zy120 bzy125
        have szy125 : h0.size ≤ by125 := Nat.le_trans Ky120.1 bzy125
        have gzy125_0 : n0 ≤ nb_y125 := Nat.le_trans Zy120 bfy125_0
        have szy125_0 : h0.size ≤ nb_y125 := Nat.le_trans Ky120.1 bfy125_0
        have Zy125 := Nat.le_trans Zy120 Kcy125.1
        have Ky125 := Ky120.trans Kcy125 all0
        refine FinW.step (sty125) ?_
        show FinW p e below s _ _ _ (Ty125.setTop (mkF m 298 #[iv p1, iv p2, iv p3, .val (.long pd), .second, iv 0, iv 3, iv zc, rv by1, rv ay4, rv t1, u_, u_, iv 3, u_, u_] [(.ref by125)]))
        refine FinW.step (fun _ k => Yo.astore Xy125.here hx (hb hby at_298) rfl rfl (l' := #[iv p1, iv p2, iv p3, .val (.long pd), .second, iv 0, iv 3, iv zc, rv by1, rv ay4, rv t1, rv by125, u_, iv 3, u_, u_]) rfl (Yo.aconstNull Xy125.here hx (hb hby at_300) (Yo.astore Xy125.here hx (hb hby at_301) rfl rfl (l' := #[iv p1, iv p2, iv p3, .val (.long pd), .second, iv 0, iv 3, iv zc, rv by1, rv ay4, rv t1, rv by125, .val .null, iv 3, u_, u_]) rfl (Yo.goto Xy125.here hx (pc0 := 303) (pc' := 468) rfl (hb hby at_303) (by decide) (by decide) (Yo.aload Xy125.here hx (hb hby at_468) rfl rfl k))))) ?_
        have ry126 := (Sta_keep HS_com_example_model_for_reads_modelforreads_model_FieldType__VALUES Ky125)
        have ry127 := (Sta_keep HS_java_util_Optional_EMPTY Ky125)
        have ry128 := (HF_t1_modelName.keep Ky125 nin0)
        have ry129 := (HF_t2_modelName.keep Ky125 nin0)
        have ry130 := (HF_t3_modelName.keep Ky125 nin0)
        have ney131 := nlt HE_s1.lt szy125
        have ney132 := nlt HE_s2.lt szy125
        have ney133 := nlt HE_s3.lt szy125
        obtain ⟨_, Ty134, Lcy134, Xy134, hQy134, sty134⟩ := packS (Jvm.LawKit.callS Xy125 hx (y := n16) hown (mvT hZ (W_ hw 76)) (mvT hZ (W_ hw 77)) (mvT hZ (W_ hw 11)) (mvT hZ (W_ hw 78)) (by decide) (backOf (W := 0) (rmfmU0 l Z a0 hw [] by125 av cv t1 t2 t3 eo wc s1 v1 k1 3 _ s2 v2 k2 7 _ s3 v3 k3 6 _ Ty125.heap n0 Zy125 ry126 ry127 (Sta_keepW ry121 Kcy125 all0) ry128 (HE_s1.keep Ky125) (HF_s1_coder.keep Ky125 nin0) (HF_s1_value.keep Ky125 nin0) (HV_v1.keep Ky125 nin0) ry129 (HE_s2.keep Ky125) (HF_s2_coder.keep Ky125 nin0) (HF_s2_value.keep Ky125 nin0) (HV_v2.keep Ky125 nin0) ry130 (HE_s3.keep Ky125) (HF_s3_coder.keep Ky125 nin0) (HF_s3_value.keep Ky125 nin0) (HV_v3.keep Ky125 nin0) fy125_0 fy125_1 ⟨Arr_keep hcv.1 Ky125, hcv.2.1.keep Ky125, hcv.2.2.1, hcv.2.2.2⟩ hwc ney131 ney132 ney133) hZ (W_ hw 78) (W_ hw 11) (by decide) (by decide)) (g := (mkF m 470 #[iv p1, iv p2, iv p3, .val (.long pd), .second, iv 0, iv 3, iv zc, rv by1, rv ay4, rv t1, rv by125, .val .null, iv 3, u_, u_] [(.ref by125)])) rfl (by rw [hml]; rfl) (argsL := [(.ref by125)]) (rest := []) (lenOf pd_24 rfl) rfl (lb rfl) (hb hby at_470) (fun _ _ => ⟨rfl, rfl, (by decide : 7 + 1 ≤ _), (by decide : 56 + 3 ≤ _)⟩))
        obtain ⟨rfl, Nqy134, Kcy134⟩ := hQy134
        have Ny134 := Fr.app Ny125 Nqy134
        have Zy134 := Nat.le_trans Zy125 Kcy134.1
        have Ky134 := Ky125.trans Kcy134 all0
        refine FinW.step (sty134) ?_
        show FinW p e below s _ _ _ (Ty134.setTop (mkF m 473 #[iv p1, iv p2, iv p3, .val (.long pd), .second, iv 0, iv 3, iv zc, rv by1, rv ay4, rv t1, rv by125, .val .null, iv 3, u_, u_] [(.ref eo)]))
        refine FinW.step (fun _ k => Yo.astore Xy134.here hx (hb hby at_473) rfl rfl (l' := #[iv p1, iv p2, iv p3, .val (.long pd), .second, iv 0, iv 3, iv zc, rv by1, rv ay4, rv t1, rv by125, .val .null, rv eo, u_, u_]) rfl (Yo.aload Xy134.here hx (hb hby at_475) rfl rfl (Yo.aconstNull Xy134.here hx (hb hby at_477) k))) ?_
        obtain ⟨cqy135, kqy135, qy135a, qy135b, qy135c⟩ := isOf hZ rfl (HE_eo.keep Ky134)
        obtain ⟨_, Ty135, Lcy135, Xy135, hQy135, sty135⟩ := pack (Xy134.virtualBack hx (y := n23) (z := n23) hown (mvT hZ (W_ hw 124)) (mvT hZ (W_ hw 125)) (notFace_of_selects (args := #[]) (mvT hZ (W_ hw 127))) (mvT hZ (W_ hw 127)) (mvT hZ (W_ hw 126)) (by decide) (backOf (W := 0) (rmor0 l Z a0 hw [] eo Ty134.heap n0 Zy134 (HF_eo_value.keep Ky134 nin0)) hZ (W_ hw 128) (W_ hw 109) (by decide) (by decide)) qy135a qy135c (g := (mkF m 478 #[iv p1, iv p2, iv p3, .val (.long pd), .second, iv 0, iv 3, iv zc, rv by1, rv ay4, rv t1, rv by125, .val .null, rv eo, u_, u_] [.null, (.ref eo)])) rfl (by rw [hml]; rfl) (Steps.refl _) (argsL := [.null]) (rest := []) (lenOf pd_16 rfl) rfl (lb rfl) (hb hby at_478) (fun _ _ => ⟨rfl, rfl, (by decide : 8 + 0 ≤ _), (by decide : 59 + 0 ≤ _)⟩))
        obtain ⟨rfl, Nqy135, eqy135⟩ := hQy135
        have Ny135 := Fr.app Ny134 Nqy135
        refine FinW.step (sty135) ?_
        show FinW p e below s _ _ _ (Ty135.setTop (mkF m 481 #[iv p1, iv p2, iv p3, .val (.long pd), .second, iv 0, iv 3, iv zc, rv by1, rv ay4, rv t1, rv by125, .val .null, rv eo, u_, u_] [.null]))
        refine FinW.step (fun _ k => Yo.aload Xy135.here hx (hb hby at_481) rfl rfl k) ?_
        refine FinW.step (fun _ => Jvm.RoadKit.acmp (g := (mkF m 483 #[iv p1, iv p2, iv p3, .val (.long pd), .second, iv 0, iv 3, iv zc, rv by1, rv ay4, rv t1, rv by125, .val .null, rv eo, u_, u_] [.null, .null])) Xy135 hx rfl rfl rfl (pc0 := 483) (pc' := 486) (same := true) rfl (hb hby at_483) rfl (decide_eq_true rfl) (by decide) (by decide)) ?_
        show FinW p e below s _ _ _ (Ty135.setTop (mkF m 486 #[iv p1, iv p2, iv p3, .val (.long pd), .second, iv 0, iv 3, iv zc, rv by1, rv ay4, rv t1, rv by125, .val .null, rv eo, u_, u_] []))
        refine FinW.step (fun _ k => Yo.iconst Xy135.here hx (hb hby at_486) (Yo.goto Xy135.here hx (pc0 := 487) (pc' := 491) rfl (hb hby at_487) (by decide) (by decide) k)) ?_
        have hky136 := (Nat.le_trans (Nat.le_trans (Nat.le_trans (Nat.le_trans (Nat.le_trans (Nat.le_trans (Nat.le_trans (Nat.le_trans (Nat.le_trans (Nat.le_trans (Nat.le_trans hky4 (Keep.of_wr Wy10).1) (Keep.of_wr Wy15).1) (Keep.of_wr Wy20).1) (Keep.of_wr Wy27).1) (Keep.of_wr Wy32).1) (Keep.of_wr Wy37).1) (Keep.of_wr Wy44).1) (Keep.of_wr Wy49).1) (Keep.of_wr Wy120).1) Kcy125.1) Kcy134.1)
        refine FinW.retN Xy135 hSy4 (by rw [eqy135]; exact hky136) hx (t := .boolean) hret (by simp) hlk (hb hby at_491) (by decide) (by decide) ?_
        show Q0 Z p1 p2 p3 pd wc fv eo av cv t1 t2 t3 s1 v1 k1 s2 v2 k2 s3 v3 k3 h0 n0 _ Ty135.heap _
        rw [eqy135]
        exact ⟨rfl, Ny135, Ky134⟩
      · show FinW p e below s _ _ _ (Ty49.setTop (mkF m 282 #[iv p1, iv p2, iv p3, .val (.long pd), .second, iv 0, iv 3, iv zc, rv by1, rv ay4, rv t1, u_, u_, iv 3, u_, u_] []))
        refine FinW.step (fun _ k => Yo.aload Xy49.here hx (hb hby at_282) rfl rfl (Yo.iload Xy49.here hx (hb hby at_284) rfl (Yo.iload Xy49.here hx (hb hby at_286) rfl k))) ?_
        obtain ⟨Ty137, hy137, Xy137, ey137, Wy137, Vy137, Ny137, Zy137, Ky137, sty137⟩ := cst3 Xy49 hx hZ ey49 (j := 3) (x := zc) (ix := 3) Vy50 ⟨by decide, by decide⟩ rfl (by decide) Ny49 Zy49 Ky49 gzy1 (Or.inr szy1) (hb hby at_288)
        refine FinW.step (sty137) ?_
        refine FinW.step (fun _ k => Yo.aload Xy137.here hx (hb hby at_289) rfl rfl (Yo.iload Xy137.here hx (hb hby at_291) rfl (Yo.iconst Xy137.here hx (hb hby at_293) (Yo.iadd Xy137.here hx (hb hby at_294) rfl k)))) ?_
        show FinW p e below s _ _ _ (Ty137.setTop (mkF m 295 #[iv p1, iv p2, iv p3, .val (.long pd), .second, iv 0, iv 3, iv zc, rv by1, rv ay4, rv t1, u_, u_, iv 3, u_, u_] [(.int 4), (.ref by1)]))
        have ry138 := (((ry42.wr Wy44).wr Wy49).wr Wy137)
        obtain ⟨_, Ty139, Lcy139, Xy139, hQy139, sty139⟩ := packS (Jvm.LawKit.callS Xy137 hx (y := n9) hown (mvT hZ (W_ hw 52)) (mvT hZ (W_ hw 53)) (mvT hZ (W_ hw 28)) (mvT hZ (W_ hw 54)) (by decide) (backOf (W := 0) (rmstL4 l Z a0 hw [] by1 ky1 _ wc hy137 n0 Zy137 Vy137 ry138 (own_chset own_alc0 _ _) hwc (own_hl Gz.2 (by decide) hbg own_als0)) hZ (W_ hw 54) (W_ hw 28) (by decide) (by decide)) (g := (mkF m 295 #[iv p1, iv p2, iv p3, .val (.long pd), .second, iv 0, iv 3, iv zc, rv by1, rv ay4, rv t1, u_, u_, iv 3, u_, u_] [(.int 4), (.ref by1)])) rfl (by rw [hml]; rfl) (argsL := [(.ref by1), (.int 4)]) (rest := []) (lenOf pd_23 rfl) rfl (lb rfl) (hb hby at_295) (fun _ _ => ⟨rfl, ey137, (by decide : 3 + 8 ≤ _), (by decide : 24 + 64 ≤ _)⟩))
        obtain ⟨nb_y139, kn_y139, by139, rfl, bzy139, bfy139_0, Nqy139, Kcy139, fy139_0, fy139_1, fy139_2, fy139_3, ney139_0⟩ := hQy139
        have Ny139 := Fr.app Ny137 Nqy139
        have gzy139 : n0 ≤ by139 := Nat.le_trans Zy137 bzy139
        have szy139 : h0.size ≤ by139 := Nat.le_trans Ky137.1 bzy139
        have gzy139_0 : n0 ≤ nb_y139 := Nat.le_trans Zy137 bfy139_0
        have szy139_0 : h0.size ≤ nb_y139 := Nat.le_trans Ky137.1 bfy139_0
        have Zy139 := Nat.le_trans Zy137 Kcy139.1
        have Ky139 := Ky137.trans Kcy139 all0
        refine FinW.step (sty139) ?_
        show FinW p e below s _ _ _ (Ty139.setTop (mkF m 298 #[iv p1, iv p2, iv p3, .val (.long pd), .second, iv 0, iv 3, iv zc, rv by1, rv ay4, rv t1, u_, u_, iv 3, u_, u_] [(.ref by139)]))
        refine FinW.step (fun _ k => Yo.astore Xy139.here hx (hb hby at_298) rfl rfl (l' := #[iv p1, iv p2, iv p3, .val (.long pd), .second, iv 0, iv 3, iv zc, rv by1, rv ay4, rv t1, rv by139, u_, iv 3, u_, u_]) rfl (Yo.aconstNull Xy139.here hx (hb hby at_300) (Yo.astore Xy139.here hx (hb hby at_301) rfl rfl (l' := #[iv p1, iv p2, iv p3, .val (.long pd), .second, iv 0, iv 3, iv zc, rv by1, rv ay4, rv t1, rv by139, .val .null, iv 3, u_, u_]) rfl (Yo.goto Xy139.here hx (pc0 := 303) (pc' := 468) rfl (hb hby at_303) (by decide) (by decide) (Yo.aload Xy139.here hx (hb hby at_468) rfl rfl k))))) ?_
        have ry140 := (Sta_keep HS_com_example_model_for_reads_modelforreads_model_FieldType__VALUES Ky139)
        have ry141 := (Sta_keep HS_java_util_Optional_EMPTY Ky139)
        have ry142 := (HF_t1_modelName.keep Ky139 nin0)
        have ry143 := (HF_t2_modelName.keep Ky139 nin0)
        have ry144 := (HF_t3_modelName.keep Ky139 nin0)
        have ney145 := nlt HE_s1.lt szy139
        have ney146 := nlt HE_s2.lt szy139
        have ney147 := nlt HE_s3.lt szy139
        obtain ⟨_, Ty148, Lcy148, Xy148, hQy148, sty148⟩ := packS (Jvm.LawKit.callS Xy139 hx (y := n16) hown (mvT hZ (W_ hw 76)) (mvT hZ (W_ hw 77)) (mvT hZ (W_ hw 11)) (mvT hZ (W_ hw 78)) (by decide) (backOf (W := 0) (rmfmL0 l Z a0 hw [] by139 av cv t1 t2 t3 eo wc s1 v1 k1 3 _ s2 v2 k2 7 _ s3 v3 k3 6 _ nb_y139 kn_y139 4 _ Ty139.heap n0 Zy139 ry140 ry141 (Sta_keepW ry138 Kcy139 all0) ry142 (HE_s1.keep Ky139) (HF_s1_coder.keep Ky139 nin0) (HF_s1_value.keep Ky139 nin0) (HV_v1.keep Ky139 nin0) ry143 (HE_s2.keep Ky139) (HF_s2_coder.keep Ky139 nin0) (HF_s2_value.keep Ky139 nin0) (HV_v2.keep Ky139 nin0) ry144 (HE_s3.keep Ky139) (HF_s3_coder.keep Ky139 nin0) (HF_s3_value.keep Ky139 nin0) (HV_v3.keep Ky139 nin0) fy139_0 fy139_1 fy139_2 fy139_3 ⟨Arr_keep hcv.1 Ky139, hcv.2.1.keep Ky139, hcv.2.2.1, hcv.2.2.2⟩ hwc (own_wlc _ _ _) (by decide) (by decide) (by decide) own_nlc0 own_nlc1 own_nlc2 (own_eqb0 (by decide)) (own_eqb0 (by decide)) (own_eqb0 (by decide)) ney145 ney146 ney147) hZ (W_ hw 78) (W_ hw 11) (by decide) (by decide)) (g := (mkF m 470 #[iv p1, iv p2, iv p3, .val (.long pd), .second, iv 0, iv 3, iv zc, rv by1, rv ay4, rv t1, rv by139, .val .null, iv 3, u_, u_] [(.ref by139)])) rfl (by rw [hml]; rfl) (argsL := [(.ref by139)]) (rest := []) (lenOf pd_24 rfl) rfl (lb rfl) (hb hby at_470) (fun _ _ => ⟨rfl, rfl, (by decide : 11 + 1 ≤ _), (by decide : 88 + 3 ≤ _)⟩))
        obtain ⟨rfl, Nqy148, Kcy148⟩ := hQy148
        have Ny148 := Fr.app Ny139 Nqy148
        have Zy148 := Nat.le_trans Zy139 Kcy148.1
        have Ky148 := Ky139.trans Kcy148 all0
        refine FinW.step (sty148) ?_
        show FinW p e below s _ _ _ (Ty148.setTop (mkF m 473 #[iv p1, iv p2, iv p3, .val (.long pd), .second, iv 0, iv 3, iv zc, rv by1, rv ay4, rv t1, rv by139, .val .null, iv 3, u_, u_] [(.ref eo)]))
        refine FinW.step (fun _ k => Yo.astore Xy148.here hx (hb hby at_473) rfl rfl (l' := #[iv p1, iv p2, iv p3, .val (.long pd), .second, iv 0, iv 3, iv zc, rv by1, rv ay4, rv t1, rv by139, .val .null, rv eo, u_, u_]) rfl (Yo.aload Xy148.here hx (hb hby at_475) rfl rfl (Yo.aconstNull Xy148.here hx (hb hby at_477) k))) ?_
        obtain ⟨cqy149, kqy149, qy149a, qy149b, qy149c⟩ := isOf hZ rfl (HE_eo.keep Ky148)
        obtain ⟨_, Ty149, Lcy149, Xy149, hQy149, sty149⟩ := pack (Xy148.virtualBack hx (y := n23) (z := n23) hown (mvT hZ (W_ hw 124)) (mvT hZ (W_ hw 125)) (notFace_of_selects (args := #[]) (mvT hZ (W_ hw 127))) (mvT hZ (W_ hw 127)) (mvT hZ (W_ hw 126)) (by decide) (backOf (W := 0) (rmor0 l Z a0 hw [] eo Ty148.heap n0 Zy148 (HF_eo_value.keep Ky148 nin0)) hZ (W_ hw 128) (W_ hw 109) (by decide) (by decide)) qy149a qy149c (g := (mkF m 478 #[iv p1, iv p2, iv p3, .val (.long pd), .second, iv 0, iv 3, iv zc, rv by1, rv ay4, rv t1, rv by139, .val .null, rv eo, u_, u_] [.null, (.ref eo)])) rfl (by rw [hml]; rfl) (Steps.refl _) (argsL := [.null]) (rest := []) (lenOf pd_16 rfl) rfl (lb rfl) (hb hby at_478) (fun _ _ => ⟨rfl, rfl, (by decide : 12 + 0 ≤ _), (by decide : 91 + 0 ≤ _)⟩))
        obtain ⟨rfl, Nqy149, eqy149⟩ := hQy149
        have Ny149 := Fr.app Ny148 Nqy149
        refine FinW.step (sty149) ?_
        show FinW p e below s _ _ _ (Ty149.setTop (mkF m 481 #[iv p1, iv p2, iv p3, .val (.long pd), .second, iv 0, iv 3, iv zc, rv by1, rv ay4, rv t1, rv by139, .val .null, rv eo, u_, u_] [.null]))
        refine FinW.step (fun _ k => Yo.aload Xy149.here hx (hb hby at_481) rfl rfl k) ?_
        refine FinW.step (fun _ => Jvm.RoadKit.acmp (g := (mkF m 483 #[iv p1, iv p2, iv p3, .val (.long pd), .second, iv 0, iv 3, iv zc, rv by1, rv ay4, rv t1, rv by139, .val .null, rv eo, u_, u_] [.null, .null])) Xy149 hx rfl rfl rfl (pc0 := 483) (pc' := 486) (same := true) rfl (hb hby at_483) rfl (decide_eq_true rfl) (by decide) (by decide)) ?_
        show FinW p e below s _ _ _ (Ty149.setTop (mkF m 486 #[iv p1, iv p2, iv p3, .val (.long pd), .second, iv 0, iv 3, iv zc, rv by1, rv ay4, rv t1, rv by139, .val .null, rv eo, u_, u_] []))
        refine FinW.step (fun _ k => Yo.iconst Xy149.here hx (hb hby at_486) (Yo.goto Xy149.here hx (pc0 := 487) (pc' := 491) rfl (hb hby at_487) (by decide) (by decide) k)) ?_
        have hky150 := (Nat.le_trans (Nat.le_trans (Nat.le_trans (Nat.le_trans (Nat.le_trans (Nat.le_trans (Nat.le_trans (Nat.le_trans (Nat.le_trans (Nat.le_trans (Nat.le_trans hky4 (Keep.of_wr Wy10).1) (Keep.of_wr Wy15).1) (Keep.of_wr Wy20).1) (Keep.of_wr Wy27).1) (Keep.of_wr Wy32).1) (Keep.of_wr Wy37).1) (Keep.of_wr Wy44).1) (Keep.of_wr Wy49).1) (Keep.of_wr Wy137).1) Kcy139.1) Kcy148.1)
        refine FinW.retN Xy149 hSy4 (by rw [eqy149]; exact hky150) hx (t := .boolean) hret (by simp) hlk (hb hby at_491) (by decide) (by decide) ?_
        show Q0 Z p1 p2 p3 pd wc fv eo av cv t1 t2 t3 s1 v1 k1 s2 v2 k2 s3 v3 k3 h0 n0 _ Ty149.heap _
        rw [eqy149]
        exact ⟨rfl, Ny149, Ky148⟩
  · show FinW p e below s _ _ _ (Ty1.setTop (mkF m 25 #[iv p1, iv p2, iv p3, .val (.long pd), .second, iv 1, iv zo, iv zc, rv by1, u_, u_, u_, u_, u_, u_, u_] []))
    refine FinW.step (fun _ k => Yo.iload Xy1.here hx (hb hby at_25) rfl (Yo.ifYes Xy1.here hx (pc0 := 27) (pc' := 42) rfl (hb hby at_27) rfl ((if0 _ _).trans (feq ((by decide) : ¬ ((1 : Int32) = (0 : Int32)))).2) (by decide) (by decide) (Yo.iload Xy1.here hx (hb hby at_42) rfl (Yo.iconst Xy1.here hx (hb hby at_44) (Yo.icmpNo Xy1.here hx (hb hby at_45) rfl (teq ((by decide) : ((1 : Int32) = (1 : Int32)))).2 k))))) ?_
    have hky151 := (Nat.le_trans (Nat.zero_le _) Ey1.1)
    obtain ⟨ay152, Ty152, hy152, k1y152, by152, kby152, Xy152, ey152, Ey152, hSy152, hky152, hZ, hown, Ay152, Fcy152, Fvy152, Vy152, -, -, CHcy152, -, nly152, sty152⟩ := ldcCH (s := s) (vm0 := s.vm) Xy1 hx hZ hown (W_ hw 142) wS ey1 ((State.WarmedH.refl s).since 0) hky151 hEL (List.mem_of_getElem? (i := 1) rfl) CHy1.1 (vs := [(.int 100), (.int 101), (.int 99), (.int 105), (.int 109), (.int 97), (.int 108)]) (z := (7 : Int32)) ⟨by decide, by rfl⟩ (by decide) (by decide) (g := (mkF m 48 #[iv p1, iv p2, iv p3, .val (.long pd), .second, iv 1, iv zo, iv zc, rv by1, u_, u_, u_, u_, u_, u_, u_] [])) rfl (hb hby at_48) (n := 28) (by decide) (by decide) (by decide) (by decide)
    have sfby1_y152 := CHcy152.safe Vy1.lt sfby1_y2
    have nlby1_y152 := nly152 by1 sfby1_y152
    have CHy152 := CHy1.trans CHcy152
    have Zy152 := Nat.le_trans Zy1 Ey152.1
    have Ky152 := Ky1.ext Ey152
    refine FinW.step (sty152) ?_
    show FinW p e below s _ _ _ (Ty152.setTop (mkF m 50 #[iv p1, iv p2, iv p3, .val (.long pd), .second, iv 1, iv zo, iv zc, rv by1, u_, u_, u_, u_, u_, u_, u_] [(.ref ay152)]))
    refine FinW.step (fun _ k => Yo.astore Xy152.here hx (hb hby at_50) rfl rfl (l' := #[iv p1, iv p2, iv p3, .val (.long pd), .second, iv 1, iv zo, iv zc, rv by1, rv ay152, u_, u_, u_, u_, u_, u_]) rfl k) ?_
    obtain ⟨Ty153, Xy153, ey153, sty153⟩ := getS2 Xy152 hx hZ hown (host := "") (Or.inl (W_ hw 162)) Via.refl ey152 (Sta_keep HS_com_example_model_for_reads_modelforreads_model_FieldType_DECIMAL Ky152) (g := (mkF m 52 #[iv p1, iv p2, iv p3, .val (.long pd), .second, iv 1, iv zo, iv zc, rv by1, rv ay152, u_, u_, u_, u_, u_, u_] [])) rfl (hb hby at_52)
    refine FinW.step (sty153) ?_
    show FinW p e below s _ _ _ (Ty153.setTop (mkF m 55 #[iv p1, iv p2, iv p3, .val (.long pd), .second, iv 1, iv zo, iv zc, rv by1, rv ay152, u_, u_, u_, u_, u_, u_] [(.ref t2)]))
    refine FinW.step (fun _ k => Yo.astore Xy153.here hx (hb hby at_55) rfl rfl (l' := #[iv p1, iv p2, iv p3, .val (.long pd), .second, iv 1, iv zo, iv zc, rv by1, rv ay152, rv t2, u_, u_, u_, u_, u_]) rfl (Yo.goto Xy153.here hx (pc0 := 57) (pc' := 85) rfl (hb hby at_57) (by decide) (by decide) (Yo.iload Xy153.here hx (hb hby at_85) rfl (Yo.iconst Xy153.here hx (hb hby at_87) (Yo.icmpNo Xy153.here hx (hb hby at_88) rfl (tlt ((by decide) : ((1 : Int32) < (3 : Int32)))).2.1 (Yo.aload Xy153.here hx (hb hby at_91) rfl rfl k)))))) ?_
    have ry154 := (Sta_keep HS_java_lang_String_COMPACT_STRINGS Ky152)
    obtain ⟨cqy155, kqy155, qy155a, qy155b, qy155c⟩ := isOf hZ ey153 Ay152
    obtain ⟨_, Ty155, Lcy155, Xy155, hQy155, sty155⟩ := pack (Xy153.virtualBack hx (y := n1) (z := n1) hown (mvT hZ (W_ hw 13)) (mvT hZ (W_ hw 14)) (notFace_of_selects (args := #[]) (mvT hZ (W_ hw 16))) (mvT hZ (W_ hw 16)) (mvT hZ (W_ hw 15)) (by decide) (backOf (W := 0) (rmsl l Z a0 hw [] ay152 by152 kby152 7 _ wc hy152 n0 Zy152 Ay152 Fcy152 Fvy152 Vy152 ry154 hwc) hZ (W_ hw 17) (W_ hw 3) (by decide) (by decide)) qy155a qy155c (g := (mkF m 93 #[iv p1, iv p2, iv p3, .val (.long pd), .second, iv 1, iv zo, iv zc, rv by1, rv ay152, rv t2, u_, u_, u_, u_, u_] [(.ref ay152)])) rfl (by rw [hml]; rfl) (Steps.refl _) (argsL := []) (rest := []) (lenOf pd_14 rfl) rfl (lb rfl) (hb hby at_93) (fun _ _ => ⟨rfl, ey153, (by decide : 3 + 0 ≤ _), (by decide : 40 + 0 ≤ _)⟩))
    obtain ⟨rfl, Nqy155, eqy155⟩ := hQy155
    have Ny155 := Fr.app N0 Nqy155
    refine FinW.step (sty155) ?_
    show FinW p e below s _ _ _ (Ty155.setTop (mkF m 96 #[iv p1, iv p2, iv p3, .val (.long pd), .second, iv 1, iv zo, iv zc, rv by1, rv ay152, rv t2, u_, u_, u_, u_, u_] [(.int 7)]))
    refine FinW.step (fun _ k => Yo.istore Xy155.here hx (hb hby at_96) rfl (l' := #[iv p1, iv p2, iv p3, .val (.long pd), .second, iv 1, iv zo, iv zc, rv by1, rv ay152, rv t2, u_, u_, iv 7, u_, u_]) rfl (Yo.aload Xy155.here hx (hb hby at_98) rfl rfl (Yo.iconst Xy155.here hx (hb hby at_100) (Yo.aload Xy155.here hx (hb hby at_101) rfl rfl (Yo.iconst Xy155.here hx (hb hby at_103) k))))) ?_
    have ry156 := (Sta_keep HS_jdk_internal_util_Preconditions_SIOOBE_FORMATTER Ky152)
    obtain ⟨_, Ty157, Lcy157, Xy157, hQy157, sty157⟩ := packS (Jvm.LawKit.callS Xy155 hx (y := n3) hown (mvT hZ (W_ hw 26)) (mvT hZ (W_ hw 27)) (mvT hZ (W_ hw 28)) (mvT hZ (W_ hw 29)) (by decide) (backOf (W := 2) (rmat1 l Z a0 hw [] ay152 0 by152 kby152 7 _ fv wc 100 100 hy152 n0 Zy152 Ay152 Fcy152 Fvy152 Vy152 ry156 ry154 hfv hwc (by decide) rfl (by decide)) hZ (W_ hw 29) (W_ hw 28) (by decide) (by decide)) (g := (mkF m 104 #[iv p1, iv p2, iv p3, .val (.long pd), .second, iv 1, iv zo, iv zc, rv by1, rv ay152, rv t2, u_, u_, iv 7, u_, u_] [(.int 0), (.ref ay152), (.int 0), (.ref by1)])) rfl (by rw [hml]; rfl) (argsL := [(.ref ay152), (.int 0)]) (rest := [(.int 0), (.ref by1)]) (lenOf pd_22 rfl) rfl (lb rfl) (hb hby at_104) (fun _ _ => ⟨rfl, eqy155, (by decide : 3 + 0 ≤ _), (by decide : 40 + 0 ≤ _)⟩))
    obtain ⟨rfl, Nqy157, eqy157⟩ := hQy157
    have Ny157 := Fr.app Ny155 Nqy157
    refine FinW.step (sty157) ?_
    show FinW p e below s _ _ _ (Ty157.setTop (mkF m 107 #[iv p1, iv p2, iv p3, .val (.long pd), .second, iv 1, iv zo, iv zc, rv by1, rv ay152, rv t2, u_, u_, iv 7, u_, u_] [(.int 100), (.int 0), (.ref by1)]))
    obtain ⟨Ty158, hy158, Xy158, ey158, Wy158, Vy158, Ny158, Zy158, Ky158, sty158⟩ := cst3 Xy157 hx hZ eqy157 (j := 0) (x := 100) (ix := 0) (Vy1.ext Ey152) ⟨by decide, by decide⟩ rfl (lb rfl) Ny157 Zy152 Ky152 gzy1 (Or.inr szy1) (hb hby at_107)
    refine FinW.step (sty158) ?_
    refine FinW.step (fun _ k => Yo.aload Xy158.here hx (hb hby at_108) rfl rfl (Yo.iconst Xy158.here hx (hb hby at_110) (Yo.aload Xy158.here hx (hb hby at_111) rfl rfl (Yo.iconst Xy158.here hx (hb hby at_113) k)))) ?_
    have ry159 := (Fcy152.other Wy158 (Or.inl (Ne.symm nlby1_y152.1)))
    have ry160 := (Fvy152.other Wy158 (Or.inl (Ne.symm nlby1_y152.1)))
    have ry161 := (Vy152.other Wy158 (Ne.symm nlby1_y152.2))
    obtain ⟨_, Ty162, Lcy162, Xy162, hQy162, sty162⟩ := packS (Jvm.LawKit.callS Xy158 hx (y := n3) hown (mvT hZ (W_ hw 26)) (mvT hZ (W_ hw 27)) (mvT hZ (W_ hw 28)) (mvT hZ (W_ hw 29)) (by decide) (backOf (W := 2) (rmat1 l Z a0 hw [] ay152 1 by152 kby152 7 _ fv wc 101 101 hy158 n0 Zy158 (Ay152.wr Wy158) ry159 ry160 ry161 (ry156.wr Wy158) (ry154.wr Wy158) hfv hwc (by decide) rfl (by decide)) hZ (W_ hw 29) (W_ hw 28) (by decide) (by decide)) (g := (mkF m 114 #[iv p1, iv p2, iv p3, .val (.long pd), .second, iv 1, iv zo, iv zc, rv by1, rv ay152, rv t2, u_, u_, iv 7, u_, u_] [(.int 1), (.ref ay152), (.int 1), (.ref by1)])) rfl (by rw [hml]; rfl) (argsL := [(.ref ay152), (.int 1)]) (rest := [(.int 1), (.ref by1)]) (lenOf pd_22 rfl) rfl (lb rfl) (hb hby at_114) (fun _ _ => ⟨rfl, ey158, (by decide : 3 + 0 ≤ _), (by decide : 40 + 0 ≤ _)⟩))
    obtain ⟨rfl, Nqy162, eqy162⟩ := hQy162
    have Ny162 := Fr.app Ny158 Nqy162
    refine FinW.step (sty162) ?_
    show FinW p e below s _ _ _ (Ty162.setTop (mkF m 117 #[iv p1, iv p2, iv p3, .val (.long pd), .second, iv 1, iv zo, iv zc, rv by1, rv ay152, rv t2, u_, u_, iv 7, u_, u_] [(.int 101), (.int 1), (.ref by1)]))
    obtain ⟨Ty163, hy163, Xy163, ey163, Wy163, Vy163, Ny163, Zy163, Ky163, sty163⟩ := cst3 Xy162 hx hZ eqy162 (j := 1) (x := 101) (ix := 1) Vy158 ⟨by decide, by decide⟩ rfl (lb rfl) Ny162 Zy158 Ky158 gzy1 (Or.inr szy1) (hb hby at_117)
    refine FinW.step (sty163) ?_
    refine FinW.step (fun _ k => Yo.aload Xy163.here hx (hb hby at_118) rfl rfl (Yo.iconst Xy163.here hx (hb hby at_120) (Yo.aload Xy163.here hx (hb hby at_121) rfl rfl (Yo.iconst Xy163.here hx (hb hby at_123) k)))) ?_
    have ry164 := (ry159.other Wy163 (Or.inl (Ne.symm nlby1_y152.1)))
    have ry165 := (ry160.other Wy163 (Or.inl (Ne.symm nlby1_y152.1)))
    have ry166 := (ry161.other Wy163 (Ne.symm nlby1_y152.2))
    obtain ⟨_, Ty167, Lcy167, Xy167, hQy167, sty167⟩ := packS (Jvm.LawKit.callS Xy163 hx (y := n3) hown (mvT hZ (W_ hw 26)) (mvT hZ (W_ hw 27)) (mvT hZ (W_ hw 28)) (mvT hZ (W_ hw 29)) (by decide) (backOf (W := 2) (rmat1 l Z a0 hw [] ay152 2 by152 kby152 7 _ fv wc 99 99 hy163 n0 Zy163 ((Ay152.wr Wy158).wr Wy163) ry164 ry165 ry166 ((ry156.wr Wy158).wr Wy163) ((ry154.wr Wy158).wr Wy163) hfv hwc (by decide) rfl (by decide)) hZ (W_ hw 29) (W_ hw 28) (by decide) (by decide)) (g := (mkF m 124 #[iv p1, iv p2, iv p3, .val (.long pd), .second, iv 1, iv zo, iv zc, rv by1, rv ay152, rv t2, u_, u_, iv 7, u_, u_] [(.int 2), (.ref ay152), (.int 2), (.ref by1)])) rfl (by rw [hml]; rfl) (argsL := [(.ref ay152), (.int 2)]) (rest := [(.int 2), (.ref by1)]) (lenOf pd_22 rfl) rfl (lb rfl) (hb hby at_124) (fun _ _ => ⟨rfl, ey163, (by decide : 3 + 0 ≤ _), (by decide : 40 + 0 ≤ _)⟩))
    obtain ⟨rfl, Nqy167, eqy167⟩ := hQy167
    have Ny167 := Fr.app Ny163 Nqy167
    refine FinW.step (sty167) ?_
    show FinW p e below s _ _ _ (Ty167.setTop (mkF m 127 #[iv p1, iv p2, iv p3, .val (.long pd), .second, iv 1, iv zo, iv zc, rv by1, rv ay152, rv t2, u_, u_, iv 7, u_, u_] [(.int 99), (.int 2), (.ref by1)]))
    obtain ⟨Ty168, hy168, Xy168, ey168, Wy168, Vy168, Ny168, Zy168, Ky168, sty168⟩ := cst3 Xy167 hx hZ eqy167 (j := 2) (x := 99) (ix := 2) Vy163 ⟨by decide, by decide⟩ rfl (lb rfl) Ny167 Zy163 Ky163 gzy1 (Or.inr szy1) (hb hby at_127)
    refine FinW.step (sty168) ?_
    refine FinW.step (fun _ k => Yo.aload Xy168.here hx (hb hby at_128) rfl rfl (Yo.iconst Xy168.here hx (hb hby at_130) (Yo.aload Xy168.here hx (hb hby at_131) rfl rfl (Yo.iconst Xy168.here hx (hb hby at_133) k)))) ?_
    have ry169 := (((Ay152.wr Wy158).wr Wy163).wr Wy168)
    have ry170 := (ry164.other Wy168 (Or.inl (Ne.symm nlby1_y152.1)))
    have ry171 := (ry165.other Wy168 (Or.inl (Ne.symm nlby1_y152.1)))
    have ry172 := (ry166.other Wy168 (Ne.symm nlby1_y152.2))
    have ry173 := (((ry156.wr Wy158).wr Wy163).wr Wy168)
    have ry174 := (((ry154.wr Wy158).wr Wy163).wr Wy168)
    obtain ⟨_, Ty175, Lcy175, Xy175, hQy175, sty175⟩ := packS (Jvm.LawKit.callS Xy168 hx (y := n3) hown (mvT hZ (W_ hw 26)) (mvT hZ (W_ hw 27)) (mvT hZ (W_ hw 28)) (mvT hZ (W_ hw 29)) (by decide) (backOf (W := 2) (rmat1 l Z a0 hw [] ay152 3 by152 kby152 7 _ fv wc 105 105 hy168 n0 Zy168 ry169 ry170 ry171 ry172 ry173 ry174 hfv hwc (by decide) rfl (by decide)) hZ (W_ hw 29) (W_ hw 28) (by decide) (by decide)) (g := (mkF m 134 #[iv p1, iv p2, iv p3, .val (.long pd), .second, iv 1, iv zo, iv zc, rv by1, rv ay152, rv t2, u_, u_, iv 7, u_, u_] [(.int 3), (.ref ay152), (.int 3), (.ref by1)])) rfl (by rw [hml]; rfl) (argsL := [(.ref ay152), (.int 3)]) (rest := [(.int 3), (.ref by1)]) (lenOf pd_22 rfl) rfl (lb rfl) (hb hby at_134) (fun _ _ => ⟨rfl, ey168, (by decide : 3 + 0 ≤ _), (by decide : 40 + 0 ≤ _)⟩))
    obtain ⟨rfl, Nqy175, eqy175⟩ := hQy175
    have Ny175 := Fr.app Ny168 Nqy175
    refine FinW.step (sty175) ?_
    show FinW p e below s _ _ _ (Ty175.setTop (mkF m 137 #[iv p1, iv p2, iv p3, .val (.long pd), .second, iv 1, iv zo, iv zc, rv by1, rv ay152, rv t2, u_, u_, iv 7, u_, u_] [(.int 105), (.int 3), (.ref by1)]))
    obtain ⟨Ty176, hy176, Xy176, ey176, Wy176, Vy176, Ny176, Zy176, Ky176, sty176⟩ := cst3 Xy175 hx hZ eqy175 (j := 3) (x := 105) (ix := 3) Vy168 ⟨by decide, by decide⟩ rfl (lb rfl) Ny175 Zy168 Ky168 gzy1 (Or.inr szy1) (hb hby at_137)
    refine FinW.step (sty176) ?_
    refine FinW.step (fun _ k => Yo.aload Xy176.here hx (hb hby at_138) rfl rfl (Yo.iconst Xy176.here hx (hb hby at_140) (Yo.aload Xy176.here hx (hb hby at_141) rfl rfl (Yo.iconst Xy176.here hx (hb hby at_143) k)))) ?_
    have ry177 := (ry170.other Wy176 (Or.inl (Ne.symm nlby1_y152.1)))
    have ry178 := (ry171.other Wy176 (Or.inl (Ne.symm nlby1_y152.1)))
    have ry179 := (ry172.other Wy176 (Ne.symm nlby1_y152.2))
    obtain ⟨_, Ty180, Lcy180, Xy180, hQy180, sty180⟩ := packS (Jvm.LawKit.callS Xy176 hx (y := n3) hown (mvT hZ (W_ hw 26)) (mvT hZ (W_ hw 27)) (mvT hZ (W_ hw 28)) (mvT hZ (W_ hw 29)) (by decide) (backOf (W := 2) (rmat1 l Z a0 hw [] ay152 4 by152 kby152 7 _ fv wc 109 109 hy176 n0 Zy176 (ry169.wr Wy176) ry177 ry178 ry179 (ry173.wr Wy176) (ry174.wr Wy176) hfv hwc (by decide) rfl (by decide)) hZ (W_ hw 29) (W_ hw 28) (by decide) (by decide)) (g := (mkF m 144 #[iv p1, iv p2, iv p3, .val (.long pd), .second, iv 1, iv zo, iv zc, rv by1, rv ay152, rv t2, u_, u_, iv 7, u_, u_] [(.int 4), (.ref ay152), (.int 4), (.ref by1)])) rfl (by rw [hml]; rfl) (argsL := [(.ref ay152), (.int 4)]) (rest := [(.int 4), (.ref by1)]) (lenOf pd_22 rfl) rfl (lb rfl) (hb hby at_144) (fun _ _ => ⟨rfl, ey176, (by decide : 3 + 0 ≤ _), (by decide : 40 + 0 ≤ _)⟩))
    obtain ⟨rfl, Nqy180, eqy180⟩ := hQy180
    have Ny180 := Fr.app Ny176 Nqy180
    refine FinW.step (sty180) ?_
    show FinW p e below s _ _ _ (Ty180.setTop (mkF m 147 #[iv p1, iv p2, iv p3, .val (.long pd), .second, iv 1, iv zo, iv zc, rv by1, rv ay152, rv t2, u_, u_, iv 7, u_, u_] [(.int 109), (.int 4), (.ref by1)]))
    obtain ⟨Ty181, hy181, Xy181, ey181, Wy181, Vy181, Ny181, Zy181, Ky181, sty181⟩ := cst3 Xy180 hx hZ eqy180 (j := 4) (x := 109) (ix := 4) Vy176 ⟨by decide, by decide⟩ rfl (lb rfl) Ny180 Zy176 Ky176 gzy1 (Or.inr szy1) (hb hby at_147)
    refine FinW.step (sty181) ?_
    refine FinW.step (fun _ k => Yo.aload Xy181.here hx (hb hby at_148) rfl rfl (Yo.iconst Xy181.here hx (hb hby at_150) (Yo.aload Xy181.here hx (hb hby at_151) rfl rfl (Yo.iconst Xy181.here hx (hb hby at_153) k)))) ?_
    have ry182 := (ry177.other Wy181 (Or.inl (Ne.symm nlby1_y152.1)))
    have ry183 := (ry178.other Wy181 (Or.inl (Ne.symm nlby1_y152.1)))
    have ry184 := (ry179.other Wy181 (Ne.symm nlby1_y152.2))
    obtain ⟨_, Ty185, Lcy185, Xy185, hQy185, sty185⟩ := packS (Jvm.LawKit.callS Xy181 hx (y := n3) hown (mvT hZ (W_ hw 26)) (mvT hZ (W_ hw 27)) (mvT hZ (W_ hw 28)) (mvT hZ (W_ hw 29)) (by decide) (backOf (W := 2) (rmat1 l Z a0 hw [] ay152 5 by152 kby152 7 _ fv wc 97 97 hy181 n0 Zy181 ((ry169.wr Wy176).wr Wy181) ry182 ry183 ry184 ((ry173.wr Wy176).wr Wy181) ((ry174.wr Wy176).wr Wy181) hfv hwc (by decide) rfl (by decide)) hZ (W_ hw 29) (W_ hw 28) (by decide) (by decide)) (g := (mkF m 154 #[iv p1, iv p2, iv p3, .val (.long pd), .second, iv 1, iv zo, iv zc, rv by1, rv ay152, rv t2, u_, u_, iv 7, u_, u_] [(.int 5), (.ref ay152), (.int 5), (.ref by1)])) rfl (by rw [hml]; rfl) (argsL := [(.ref ay152), (.int 5)]) (rest := [(.int 5), (.ref by1)]) (lenOf pd_22 rfl) rfl (lb rfl) (hb hby at_154) (fun _ _ => ⟨rfl, ey181, (by decide : 3 + 0 ≤ _), (by decide : 40 + 0 ≤ _)⟩))
    obtain ⟨rfl, Nqy185, eqy185⟩ := hQy185
    have Ny185 := Fr.app Ny181 Nqy185
    refine FinW.step (sty185) ?_
    show FinW p e below s _ _ _ (Ty185.setTop (mkF m 157 #[iv p1, iv p2, iv p3, .val (.long pd), .second, iv 1, iv zo, iv zc, rv by1, rv ay152, rv t2, u_, u_, iv 7, u_, u_] [(.int 97), (.int 5), (.ref by1)]))
    obtain ⟨Ty186, hy186, Xy186, ey186, Wy186, Vy186, Ny186, Zy186, Ky186, sty186⟩ := cst3 Xy185 hx hZ eqy185 (j := 5) (x := 97) (ix := 5) Vy181 ⟨by decide, by decide⟩ rfl (lb rfl) Ny185 Zy181 Ky181 gzy1 (Or.inr szy1) (hb hby at_157)
    refine FinW.step (sty186) ?_
    refine FinW.step (fun _ k => Yo.aload Xy186.here hx (hb hby at_158) rfl rfl (Yo.bipush Xy186.here hx (hb hby at_160) (Yo.aload Xy186.here hx (hb hby at_162) rfl rfl (Yo.bipush Xy186.here hx (hb hby at_164) k)))) ?_
    have ry187 := (((ry169.wr Wy176).wr Wy181).wr Wy186)
    have ry188 := (ry182.other Wy186 (Or.inl (Ne.symm nlby1_y152.1)))
    have ry189 := (ry183.other Wy186 (Or.inl (Ne.symm nlby1_y152.1)))
    have ry190 := (ry184.other Wy186 (Ne.symm nlby1_y152.2))
    have ry191 := (((ry173.wr Wy176).wr Wy181).wr Wy186)
    have ry192 := (((ry174.wr Wy176).wr Wy181).wr Wy186)
    obtain ⟨_, Ty193, Lcy193, Xy193, hQy193, sty193⟩ := packS (Jvm.LawKit.callS Xy186 hx (y := n3) hown (mvT hZ (W_ hw 26)) (mvT hZ (W_ hw 27)) (mvT hZ (W_ hw 28)) (mvT hZ (W_ hw 29)) (by decide) (backOf (W := 2) (rmat1 l Z a0 hw [] ay152 6 by152 kby152 7 _ fv wc 108 108 hy186 n0 Zy186 ry187 ry188 ry189 ry190 ry191 ry192 hfv hwc (by decide) rfl (by decide)) hZ (W_ hw 29) (W_ hw 28) (by decide) (by decide)) (g := (mkF m 166 #[iv p1, iv p2, iv p3, .val (.long pd), .second, iv 1, iv zo, iv zc, rv by1, rv ay152, rv t2, u_, u_, iv 7, u_, u_] [(.int 6), (.ref ay152), (.int 6), (.ref by1)])) rfl (by rw [hml]; rfl) (argsL := [(.ref ay152), (.int 6)]) (rest := [(.int 6), (.ref by1)]) (lenOf pd_22 rfl) rfl (lb rfl) (hb hby at_166) (fun _ _ => ⟨rfl, ey186, (by decide : 3 + 0 ≤ _), (by decide : 40 + 0 ≤ _)⟩))
    obtain ⟨rfl, Nqy193, eqy193⟩ := hQy193
    have Ny193 := Fr.app Ny186 Nqy193
    refine FinW.step (sty193) ?_
    show FinW p e below s _ _ _ (Ty193.setTop (mkF m 169 #[iv p1, iv p2, iv p3, .val (.long pd), .second, iv 1, iv zo, iv zc, rv by1, rv ay152, rv t2, u_, u_, iv 7, u_, u_] [(.int 108), (.int 6), (.ref by1)]))
    obtain ⟨Ty194, hy194, Xy194, ey194, Wy194, Vy194, Ny194, Zy194, Ky194, sty194⟩ := cst3 Xy193 hx hZ eqy193 (j := 6) (x := 108) (ix := 6) Vy186 ⟨by decide, by decide⟩ rfl (lb rfl) Ny193 Zy186 Ky186 gzy1 (Or.inr szy1) (hb hby at_169)
    refine FinW.step (sty194) ?_
    refine FinW.step (fun _ k => Yo.aload Xy194.here hx (hb hby at_170) rfl rfl (Yo.bipush Xy194.here hx (hb hby at_172) (Yo.aload Xy194.here hx (hb hby at_174) rfl rfl (Yo.bipush Xy194.here hx (hb hby at_176) k)))) ?_
    have ry195 := (ry188.other Wy194 (Or.inl (Ne.symm nlby1_y152.1)))
    have ry196 := (ry189.other Wy194 (Or.inl (Ne.symm nlby1_y152.1)))
    have ry197 := (ry190.other Wy194 (Ne.symm nlby1_y152.2))
    obtain ⟨_, Ty198, Lcy198, Xy198, hQy198, sty198⟩ := packS (Jvm.LawKit.callS Xy194 hx (y := n3) hown (mvT hZ (W_ hw 26)) (mvT hZ (W_ hw 27)) (mvT hZ (W_ hw 28)) (mvT hZ (W_ hw 29)) (by decide) (backOf (W := 2) (rmat0 l Z a0 hw [] ay152 7 by152 kby152 7 _ wc hy194 n0 Zy194 (ry187.wr Wy194) ry195 ry196 ry197 (ry192.wr Wy194) hwc (by decide)) hZ (W_ hw 29) (W_ hw 28) (by decide) (by decide)) (g := (mkF m 178 #[iv p1, iv p2, iv p3, .val (.long pd), .second, iv 1, iv zo, iv zc, rv by1, rv ay152, rv t2, u_, u_, iv 7, u_, u_] [(.int 7), (.ref ay152), (.int 7), (.ref by1)])) rfl (by rw [hml]; rfl) (argsL := [(.ref ay152), (.int 7)]) (rest := [(.int 7), (.ref by1)]) (lenOf pd_22 rfl) rfl (lb rfl) (hb hby at_178) (fun _ _ => ⟨rfl, ey194, (by decide : 3 + 0 ≤ _), (by decide : 40 + 0 ≤ _)⟩))
    obtain ⟨rfl, Nqy198, eqy198⟩ := hQy198
    have Ny198 := Fr.app Ny194 Nqy198
    refine FinW.step (sty198) ?_
    show FinW p e below s _ _ _ (Ty198.setTop (mkF m 181 #[iv p1, iv p2, iv p3, .val (.long pd), .second, iv 1, iv zo, iv zc, rv by1, rv ay152, rv t2, u_, u_, iv 7, u_, u_] [(.int 120), (.int 7), (.ref by1)]))
    obtain ⟨Ty199, hy199, Xy199, ey199, Wy199, Vy199, Ny199, Zy199, Ky199, sty199⟩ := cst3 Xy198 hx hZ eqy198 (j := 7) (x := 120) (ix := 7) Vy194 ⟨by decide, by decide⟩ rfl (lb rfl) Ny198 Zy194 Ky194 gzy1 (Or.inr szy1) (hb hby at_181)
    refine FinW.step (sty199) ?_
    have Vy200 : Arv Z hy199 by1 ky1 .char (8 : Int32) own_al1 (.int 0) := castL Vy199 (by rfl)
    rcases own_c4 h_zo with rfl | rfl | rfl | rfl
    · show FinW p e below s _ _ _ (Ty199.setTop (mkF m 182 #[iv p1, iv p2, iv p3, .val (.long pd), .second, iv 1, iv 0, iv zc, rv by1, rv ay152, rv t2, u_, u_, iv 7, u_, u_] []))
      refine FinW.step (fun _ k => Yo.iload Xy199.here hx (hb hby at_182) rfl (Yo.ifNo Xy199.here hx (hb hby at_184) rfl ((if0 _ _).trans (teq ((by decide) : ((0 : Int32) = (0 : Int32)))).2) (Yo.aload Xy199.here hx (hb hby at_187) rfl rfl (Yo.iload Xy199.here hx (hb hby at_189) rfl k)))) ?_
      obtain ⟨_, Ty201, Lcy201, Xy201, hQy201, sty201⟩ := packS (Jvm.LawKit.callS Xy199 hx (y := n9) hown (mvT hZ (W_ hw 52)) (mvT hZ (W_ hw 53)) (mvT hZ (W_ hw 28)) (mvT hZ (W_ hw 54)) (by decide) (backOf (W := 0) (rmstL7 l Z a0 hw [] by1 ky1 own_al1 wc hy199 n0 Zy199 Vy200 ((ry192.wr Wy194).wr Wy199) own_alc1 hwc (own_latk own_als1 7)) hZ (W_ hw 54) (W_ hw 28) (by decide) (by decide)) (g := (mkF m 191 #[iv p1, iv p2, iv p3, .val (.long pd), .second, iv 1, iv 0, iv zc, rv by1, rv ay152, rv t2, u_, u_, iv 7, u_, u_] [(.int 7), (.ref by1)])) rfl (by rw [hml]; rfl) (argsL := [(.ref by1), (.int 7)]) (rest := []) (lenOf pd_23 rfl) rfl (lb rfl) (hb hby at_191) (fun _ _ => ⟨rfl, ey199, (by decide : 3 + 8 ≤ _), (by decide : 40 + 64 ≤ _)⟩))
      obtain ⟨nb_y201, kn_y201, by201, rfl, bzy201, bfy201_0, Nqy201, Kcy201, fy201_0, fy201_1, fy201_2, fy201_3, ney201_0⟩ := hQy201
      have Ny201 := Fr.app Ny199 Nqy201
      have gzy201 : n0 ≤ by201 := Nat.le_trans Zy199 bzy201
      have szy201 : h0.size ≤ by201 := Nat.le_trans Ky199.1 bzy201
      have gzy201_0 : n0 ≤ nb_y201 := Nat.le_trans Zy199 bfy201_0
      have szy201_0 : h0.size ≤ nb_y201 := Nat.le_trans Ky199.1 bfy201_0
      have Zy201 := Nat.le_trans Zy199 Kcy201.1
      have Ky201 := Ky199.trans Kcy201 all0
      refine FinW.step (sty201) ?_
      show FinW p e below s _ _ _ (Ty201.setTop (mkF m 194 #[iv p1, iv p2, iv p3, .val (.long pd), .second, iv 1, iv 0, iv zc, rv by1, rv ay152, rv t2, u_, u_, iv 7, u_, u_] [(.ref by201)]))
      refine FinW.step (fun _ k => Yo.astore Xy201.here hx (hb hby at_194) rfl rfl (l' := #[iv p1, iv p2, iv p3, .val (.long pd), .second, iv 1, iv 0, iv zc, rv by1, rv ay152, rv t2, rv by201, u_, iv 7, u_, u_]) rfl (Yo.aload Xy201.here hx (hb hby at_196) rfl rfl (Yo.astore Xy201.here hx (hb hby at_198) rfl rfl (l' := #[iv p1, iv p2, iv p3, .val (.long pd), .second, iv 1, iv 0, iv zc, rv by1, rv ay152, rv t2, rv by201, rv t2, iv 7, u_, u_]) rfl (Yo.goto Xy201.here hx (pc0 := 200) (pc' := 303) rfl (hb hby at_200) (by decide) (by decide) (Yo.goto Xy201.here hx (pc0 := 303) (pc' := 468) rfl (hb hby at_303) (by decide) (by decide) (Yo.aload Xy201.here hx (hb hby at_468) rfl rfl k)))))) ?_
      have ry202 := (Sta_keep HS_com_example_model_for_reads_modelforreads_model_FieldType__VALUES Ky201)
      have ry203 := (Sta_keep HS_java_util_Optional_EMPTY Ky201)
      have ry204 := (Sta_keepW ((ry192.wr Wy194).wr Wy199) Kcy201 all0)
      have ry205 := (HF_t1_modelName.keep Ky201 nin0)
      have ry206 := (HF_t2_modelName.keep Ky201 nin0)
      have ry207 := (HF_t3_modelName.keep Ky201 nin0)
      have ney208 := nlt HE_s1.lt szy201
      have ney209 := nlt HE_s2.lt szy201
      have ney210 := nlt HE_s3.lt szy201
      obtain ⟨_, Ty211, Lcy211, Xy211, hQy211, sty211⟩ := packS (Jvm.LawKit.callS Xy201 hx (y := n16) hown (mvT hZ (W_ hw 76)) (mvT hZ (W_ hw 77)) (mvT hZ (W_ hw 11)) (mvT hZ (W_ hw 78)) (by decide) (backOf (W := 0) (rmfmL2 l Z a0 hw [] by201 av cv t1 t2 t3 eo wc s1 v1 k1 3 _ s2 v2 k2 7 _ s3 v3 k3 6 _ nb_y201 kn_y201 7 _ Ty201.heap n0 Zy201 ry202 ry203 ry204 ry205 (HE_s1.keep Ky201) (HF_s1_coder.keep Ky201 nin0) (HF_s1_value.keep Ky201 nin0) (HV_v1.keep Ky201 nin0) ry206 (HE_s2.keep Ky201) (HF_s2_coder.keep Ky201 nin0) (HF_s2_value.keep Ky201 nin0) (HV_v2.keep Ky201 nin0) ry207 (HE_s3.keep Ky201) (HF_s3_coder.keep Ky201 nin0) (HF_s3_value.keep Ky201 nin0) (HV_v3.keep Ky201 nin0) fy201_0 fy201_1 fy201_2 fy201_3 ⟨Arr_keep hcv.1 Ky201, hcv.2.1.keep Ky201, hcv.2.2.1, hcv.2.2.2⟩ hwc (own_wlc _ _ _) (by decide) (by decide) (by decide) own_nlc0 own_nlc1 own_nlc2 (own_eqb0 (by decide)) (by decide +kernel) ney208 ney209 ney210) hZ (W_ hw 78) (W_ hw 11) (by decide) (by decide)) (g := (mkF m 470 #[iv p1, iv p2, iv p3, .val (.long pd), .second, iv 1, iv 0, iv zc, rv by1, rv ay152, rv t2, rv by201, rv t2, iv 7, u_, u_] [(.ref by201)])) rfl (by rw [hml]; rfl) (argsL := [(.ref by201)]) (rest := []) (lenOf pd_24 rfl) rfl (lb rfl) (hb hby at_470) (fun _ _ => ⟨rfl, rfl, (by decide : 11 + 2 ≤ _), (by decide : 104 + 4 ≤ _)⟩))
      obtain ⟨by211, rfl, bzy211, Nqy211, Kcy211, fy211_0, fy211_1⟩ := hQy211
      have Ny211 := Fr.app Ny201 Nqy211
      have gzy211 : n0 ≤ by211 := Nat.le_trans Zy201 bzy211
      have szy211 : h0.size ≤ by211 := Nat.le_trans Ky201.1 bzy211
      have Zy211 := Nat.le_trans Zy201 Kcy211.1
      have Ky211 := Ky201.trans Kcy211 all0
      refine FinW.step (sty211) ?_
      show FinW p e below s _ _ _ (Ty211.setTop (mkF m 473 #[iv p1, iv p2, iv p3, .val (.long pd), .second, iv 1, iv 0, iv zc, rv by1, rv ay152, rv t2, rv by201, rv t2, iv 7, u_, u_] [(.ref by211)]))
      refine FinW.step (fun _ k => Yo.astore Xy211.here hx (hb hby at_473) rfl rfl (l' := #[iv p1, iv p2, iv p3, .val (.long pd), .second, iv 1, iv 0, iv zc, rv by1, rv ay152, rv t2, rv by201, rv t2, rv by211, u_, u_]) rfl (Yo.aload Xy211.here hx (hb hby at_475) rfl rfl (Yo.aconstNull Xy211.here hx (hb hby at_477) k))) ?_
      obtain ⟨cqy212, kqy212, qy212a, qy212b, qy212c⟩ := isOf hZ rfl fy211_0
      obtain ⟨_, Ty212, Lcy212, Xy212, hQy212, sty212⟩ := pack (Xy211.virtualBack hx (y := n23) (z := n23) hown (mvT hZ (W_ hw 124)) (mvT hZ (W_ hw 125)) (notFace_of_selects (args := #[]) (mvT hZ (W_ hw 127))) (mvT hZ (W_ hw 127)) (mvT hZ (W_ hw 126)) (by decide) (backOf (W := 0) (rmor1 l Z a0 hw [] by211 t2 Ty211.heap n0 Zy211 fy211_1) hZ (W_ hw 128) (W_ hw 109) (by decide) (by decide)) qy212a qy212c (g := (mkF m 478 #[iv p1, iv p2, iv p3, .val (.long pd), .second, iv 1, iv 0, iv zc, rv by1, rv ay152, rv t2, rv by201, rv t2, rv by211, u_, u_] [.null, (.ref by211)])) rfl (by rw [hml]; rfl) (Steps.refl _) (argsL := [.null]) (rest := []) (lenOf pd_16 rfl) rfl (lb rfl) (hb hby at_478) (fun _ _ => ⟨rfl, rfl, (by decide : 13 + 0 ≤ _), (by decide : 108 + 0 ≤ _)⟩))
      obtain ⟨rfl, Nqy212, eqy212⟩ := hQy212
      have Ny212 := Fr.app Ny211 Nqy212
      refine FinW.step (sty212) ?_
      show FinW p e below s _ _ _ (Ty212.setTop (mkF m 481 #[iv p1, iv p2, iv p3, .val (.long pd), .second, iv 1, iv 0, iv zc, rv by1, rv ay152, rv t2, rv by201, rv t2, rv by211, u_, u_] [(.ref t2)]))
      refine FinW.step (fun _ k => Yo.aload Xy212.here hx (hb hby at_481) rfl rfl k) ?_
      refine FinW.step (fun _ => Jvm.RoadKit.acmp (g := (mkF m 483 #[iv p1, iv p2, iv p3, .val (.long pd), .second, iv 1, iv 0, iv zc, rv by1, rv ay152, rv t2, rv by201, rv t2, rv by211, u_, u_] [(.ref t2), (.ref t2)])) Xy212 hx rfl rfl rfl (pc0 := 483) (pc' := 486) (same := true) rfl (hb hby at_483) rfl (decide_eq_true rfl) (by decide) (by decide)) ?_
      show FinW p e below s _ _ _ (Ty212.setTop (mkF m 486 #[iv p1, iv p2, iv p3, .val (.long pd), .second, iv 1, iv 0, iv zc, rv by1, rv ay152, rv t2, rv by201, rv t2, rv by211, u_, u_] []))
      refine FinW.step (fun _ k => Yo.iconst Xy212.here hx (hb hby at_486) (Yo.goto Xy212.here hx (pc0 := 487) (pc' := 491) rfl (hb hby at_487) (by decide) (by decide) k)) ?_
      have hky213 := (Nat.le_trans (Nat.le_trans (Nat.le_trans (Nat.le_trans (Nat.le_trans (Nat.le_trans (Nat.le_trans (Nat.le_trans (Nat.le_trans (Nat.le_trans hky152 (Keep.of_wr Wy158).1) (Keep.of_wr Wy163).1) (Keep.of_wr Wy168).1) (Keep.of_wr Wy176).1) (Keep.of_wr Wy181).1) (Keep.of_wr Wy186).1) (Keep.of_wr Wy194).1) (Keep.of_wr Wy199).1) Kcy201.1) Kcy211.1)
      refine FinW.retN Xy212 hSy152 (by rw [eqy212]; exact hky213) hx (t := .boolean) hret (by simp) hlk (hb hby at_491) (by decide) (by decide) ?_
      show Q0 Z p1 p2 p3 pd wc fv eo av cv t1 t2 t3 s1 v1 k1 s2 v2 k2 s3 v3 k3 h0 n0 _ Ty212.heap _
      rw [eqy212]
      exact ⟨rfl, Ny212, Ky211⟩
    · show FinW p e below s _ _ _ (Ty199.setTop (mkF m 182 #[iv p1, iv p2, iv p3, .val (.long pd), .second, iv 1, iv 1, iv zc, rv by1, rv ay152, rv t2, u_, u_, iv 7, u_, u_] []))
      refine FinW.step (fun _ k => Yo.iload Xy199.here hx (hb hby at_182) rfl (Yo.ifYes Xy199.here hx (pc0 := 184) (pc' := 203) rfl (hb hby at_184) rfl ((if0 _ _).trans (feq ((by decide) : ¬ ((1 : Int32) = (0 : Int32)))).2) (by decide) (by decide) (Yo.iload Xy199.here hx (hb hby at_203) rfl (Yo.iconst Xy199.here hx (hb hby at_205) (Yo.icmpNo Xy199.here hx (hb hby at_206) rfl (teq ((by decide) : ((1 : Int32) = (1 : Int32)))).2 (Yo.iloadN Xy199.here hx (hb hby at_209) rfl k)))))) ?_
      refine FinW.step (Xy199.ldcInt hx hown (mvT hZ (W_ hw 129)) (g := (mkF m 210 #[iv p1, iv p2, iv p3, .val (.long pd), .second, iv 1, iv 1, iv zc, rv by1, rv ay152, rv t2, u_, u_, iv 7, u_, u_] [(.int p2)])) rfl (hb hby at_210)) ?_
      show FinW p e below s _ _ _ (Ty199.setTop (mkF m 212 #[iv p1, iv p2, iv p3, .val (.long pd), .second, iv 1, iv 1, iv zc, rv by1, rv ay152, rv t2, u_, u_, iv 7, u_, u_] [(.int 2147483647), (.int p2)]))
      refine FinW.step (fun _ k => Yo.iand Xy199.here hx (hb hby at_212) rfl k) ?_
      show FinW p e below s _ _ _ (Ty199.setTop (mkF m 213 #[iv p1, iv p2, iv p3, .val (.long pd), .second, iv 1, iv 1, iv zc, rv by1, rv ay152, rv t2, u_, u_, iv 7, u_, u_] [(.int (p2 &&& (2147483647 : Int32)))]))
      refine FinW.step (fun _ k => Yo.iload Xy199.here hx (hb hby at_213) rfl k) ?_
      refine FinW.step (fun _ => iremM Xy199 hx (g := (mkF m 215 #[iv p1, iv p2, iv p3, .val (.long pd), .second, iv 1, iv 1, iv zc, rv by1, rv ay152, rv t2, u_, u_, iv 7, u_, u_] [(.int 7), (.int (p2 &&& (2147483647 : Int32)))])) rfl (hb hby at_215) rfl (by decide)) ?_
      show FinW p e below s _ _ _ (Ty199.setTop (mkF m 216 #[iv p1, iv p2, iv p3, .val (.long pd), .second, iv 1, iv 1, iv zc, rv by1, rv ay152, rv t2, u_, u_, iv 7, u_, u_] [(.int ((p2 &&& (2147483647 : Int32)) % (7 : Int32)))]))
      refine FinW.step (fun _ k => Yo.istore Xy199.here hx (hb hby at_216) rfl (l' := #[iv p1, iv p2, iv p3, .val (.long pd), .second, iv 1, iv 1, iv zc, rv by1, rv ay152, rv t2, u_, u_, iv 7, .val (.int ((p2 &&& (2147483647 : Int32)) % (7 : Int32))), u_]) rfl k) ?_
      obtain ⟨dp, h_dp⟩ : ∃ z : Int32, z = ((p2 &&& (2147483647 : Int32)) % (7 : Int32)) := ⟨_, rfl⟩
      rw [← h_dp]
      show FinW p e below s _ _ _ (Ty199.setTop (mkF m 218 #[iv p1, iv p2, iv p3, .val (.long pd), .second, iv 1, iv 1, iv zc, rv by1, rv ay152, rv t2, u_, u_, iv 7, iv dp, u_] []))
      have Gp := own_rem (k := 7) rfl (by decide) (by decide) h_dp
      refine FinW.step (fun _ k => Yo.aload Xy199.here hx (hb hby at_218) rfl rfl (Yo.iload Xy199.here hx (hb hby at_220) rfl (cld3 Xy199 hx hZ ey199 (j := dp) (v := (.int (own_gt own_al1 dp.toNatClampNeg))) Vy200 Gp.2.1 (own_lg own_alc1 _) (hb hby at_222) (Yo.istore Xy199.here hx (hb hby at_223) rfl (l' := #[iv p1, iv p2, iv p3, .val (.long pd), .second, iv 1, iv 1, iv zc, rv by1, rv ay152, rv t2, u_, u_, iv 7, iv dp, .val (.int (own_gt own_al1 dp.toNatClampNeg))]) rfl (Yo.aload Xy199.here hx (hb hby at_225) rfl rfl (Yo.iload Xy199.here hx (hb hby at_227) rfl (Yo.iload Xy199.here hx (hb hby at_229) rfl k))))))) ?_
      obtain ⟨Ty215, hy215, Xy215, ey215, Wy215, Vy215, Ny215, Zy215, Ky215, sty215⟩ := cst3 Xy199 hx hZ ey199 (j := dp) (x := zc) (ix := dp.toNatClampNeg) Vy200 Gp.2.1 rfl (by show _ < 8; have := Gp.2.2; omega) Ny199 Zy199 Ky199 gzy1 (Or.inr szy1) (hb hby at_231)
      refine FinW.step (sty215) ?_
      rcases Classical.em ((255 : Int32) < zc) with hbg | hbg
      · show FinW p e below s _ _ _ (Ty215.setTop (mkF m 232 #[iv p1, iv p2, iv p3, .val (.long pd), .second, iv 1, iv 1, iv zc, rv by1, rv ay152, rv t2, u_, u_, iv 7, iv dp, .val (.int (own_gt own_al1 dp.toNatClampNeg))] []))
        refine FinW.step (fun _ k => Yo.aload Xy215.here hx (hb hby at_232) rfl rfl (Yo.iload Xy215.here hx (hb hby at_234) rfl k)) ?_
        have ry216 := (((ry192.wr Wy194).wr Wy199).wr Wy215)
        have ry217 := (Sta_keep HS_java_lang_StringUTF16__assertionsDisabled Ky215)
        have ry218 := (Sta_keep HS_java_lang_StringUTF16_HI_BYTE_SHIFT Ky215)
        have ry219 := (Sta_keep HS_java_lang_StringUTF16_LO_BYTE_SHIFT Ky215)
        obtain ⟨_, Ty220, Lcy220, Xy220, hQy220, sty220⟩ := packS (Jvm.LawKit.callS Xy215 hx (y := n9) hown (mvT hZ (W_ hw 52)) (mvT hZ (W_ hw 53)) (mvT hZ (W_ hw 28)) (mvT hZ (W_ hw 54)) (by decide) (backOf (W := 0) (rmstU7 l Z a0 hw [] by1 ky1 _ wc dp hy215 n0 Zy215 Vy215 ry216 ry217 ry218 ry219 (own_chset own_alc1 _ _) hwc Gp.1 (own_hu Gz.2 (by show _ < 8; have := Gp.2.2; omega) (Nat.le_of_lt (by have := Gp.2.2; omega)) own_als1) (own_hb Gz.2 (by show _ < 8; have := Gp.2.2; omega) (by have := Gp.2.2; omega) hbg) (own_hr Gz.2 (by show _ < 8; have := Gp.2.2; omega) (by have := Gp.2.2; omega) Gz.1)) hZ (W_ hw 54) (W_ hw 28) (by decide) (by decide)) (g := (mkF m 236 #[iv p1, iv p2, iv p3, .val (.long pd), .second, iv 1, iv 1, iv zc, rv by1, rv ay152, rv t2, u_, u_, iv 7, iv dp, .val (.int (own_gt own_al1 dp.toNatClampNeg))] [(.int 7), (.ref by1)])) rfl (by rw [hml]; rfl) (argsL := [(.ref by1), (.int 7)]) (rest := []) (lenOf pd_23 rfl) rfl (lb rfl) (hb hby at_236) (fun _ _ => ⟨rfl, ey215, (by decide : 3 + 4 ≤ _), (by decide : 40 + 35 ≤ _)⟩))
        obtain ⟨nb_y220, kn_y220, lz_y220, by220, rfl, bzy220, bfy220_0, Nqy220, Kcy220, fy220_0, fy220_1, fy220_2, fy220_3, ney220_0⟩ := hQy220
        have Ny220 := Fr.app Ny215 Nqy220
        have gzy220 : n0 ≤ by220 := Nat.le_trans Zy215 bzy220
        have szy220 : h0.size ≤ by220 := Nat.le_trans Ky215.1 bzy220
        have gzy220_0 : n0 ≤ nb_y220 := Nat.le_trans Zy215 bfy220_0
        have szy220_0 : h0.size ≤ nb_y220 := Nat.le_trans Ky215.1 bfy220_0
        have Zy220 := Nat.le_trans Zy215 Kcy220.1
        have Ky220 := Ky215.trans Kcy220 all0
        refine FinW.step (sty220) ?_
        show FinW p e below s _ _ _ (Ty220.setTop (mkF m 239 #[iv p1, iv p2, iv p3, .val (.long pd), .second, iv 1, iv 1, iv zc, rv by1, rv ay152, rv t2, u_, u_, iv 7, iv dp, .val (.int (own_gt own_al1 dp.toNatClampNeg))] [(.ref by220)]))
        refine FinW.step (fun _ k => Yo.astore Xy220.here hx (hb hby at_239) rfl rfl (l' := #[iv p1, iv p2, iv p3, .val (.long pd), .second, iv 1, iv 1, iv zc, rv by1, rv ay152, rv t2, rv by220, u_, iv 7, iv dp, .val (.int (own_gt own_al1 dp.toNatClampNeg))]) rfl (Yo.iload Xy220.here hx (hb hby at_241) rfl (Yo.iload Xy220.here hx (hb hby at_243) rfl (Yo.icmpYes Xy220.here hx (pc0 := 245) (pc' := 253) rfl (hb hby at_245) rfl (feq ((own_old own_nm1 Gp.2.2 hbg) : ¬ (zc = (own_gt own_al1 dp.toNatClampNeg)))).2 (by decide) (by decide) (Yo.aconstNull Xy220.here hx (hb hby at_253) (Yo.astore Xy220.here hx (hb hby at_254) rfl rfl (l' := #[iv p1, iv p2, iv p3, .val (.long pd), .second, iv 1, iv 1, iv zc, rv by1, rv ay152, rv t2, rv by220, .val .null, iv 7, iv dp, .val (.int (own_gt own_al1 dp.toNatClampNeg))]) rfl (Yo.goto Xy220.here hx (pc0 := 256) (pc' := 303) rfl (hb hby at_256) (by decide) (by decide) (Yo.goto Xy220.here hx (pc0 := 303) (pc' := 468) rfl (hb hby at_303) (by decide) (by decide) k)))))))) ?_
        refine FinW.step (fun _ k => Yo.aload Xy220.here hx (hb hby at_468) rfl rfl k) ?_
        have ry221 := (Sta_keep HS_com_example_model_for_reads_modelforreads_model_FieldType__VALUES Ky220)
        have ry222 := (Sta_keep HS_java_util_Optional_EMPTY Ky220)
        have ry223 := (HF_t1_modelName.keep Ky220 nin0)
        have ry224 := (HF_t2_modelName.keep Ky220 nin0)
        have ry225 := (HF_t3_modelName.keep Ky220 nin0)
        have ney226 := nlt HE_s1.lt szy220
        have ney227 := nlt HE_s2.lt szy220
        have ney228 := nlt HE_s3.lt szy220
        obtain ⟨_, Ty229, Lcy229, Xy229, hQy229, sty229⟩ := packS (Jvm.LawKit.callS Xy220 hx (y := n16) hown (mvT hZ (W_ hw 76)) (mvT hZ (W_ hw 77)) (mvT hZ (W_ hw 11)) (mvT hZ (W_ hw 78)) (by decide) (backOf (W := 0) (rmfmU0 l Z a0 hw [] by220 av cv t1 t2 t3 eo wc s1 v1 k1 3 _ s2 v2 k2 7 _ s3 v3 k3 6 _ Ty220.heap n0 Zy220 ry221 ry222 (Sta_keepW ry216 Kcy220 all0) ry223 (HE_s1.keep Ky220) (HF_s1_coder.keep Ky220 nin0) (HF_s1_value.keep Ky220 nin0) (HV_v1.keep Ky220 nin0) ry224 (HE_s2.keep Ky220) (HF_s2_coder.keep Ky220 nin0) (HF_s2_value.keep Ky220 nin0) (HV_v2.keep Ky220 nin0) ry225 (HE_s3.keep Ky220) (HF_s3_coder.keep Ky220 nin0) (HF_s3_value.keep Ky220 nin0) (HV_v3.keep Ky220 nin0) fy220_0 fy220_1 ⟨Arr_keep hcv.1 Ky220, hcv.2.1.keep Ky220, hcv.2.2.1, hcv.2.2.2⟩ hwc ney226 ney227 ney228) hZ (W_ hw 78) (W_ hw 11) (by decide) (by decide)) (g := (mkF m 470 #[iv p1, iv p2, iv p3, .val (.long pd), .second, iv 1, iv 1, iv zc, rv by1, rv ay152, rv t2, rv by220, .val .null, iv 7, iv dp, .val (.int (own_gt own_al1 dp.toNatClampNeg))] [(.ref by220)])) rfl (by rw [hml]; rfl) (argsL := [(.ref by220)]) (rest := []) (lenOf pd_24 rfl) rfl (lb rfl) (hb hby at_470) (fun _ _ => ⟨rfl, rfl, (by decide : 7 + 1 ≤ _), (by decide : 75 + 3 ≤ _)⟩))
        obtain ⟨rfl, Nqy229, Kcy229⟩ := hQy229
        have Ny229 := Fr.app Ny220 Nqy229
        have Zy229 := Nat.le_trans Zy220 Kcy229.1
        have Ky229 := Ky220.trans Kcy229 all0
        refine FinW.step (sty229) ?_
        show FinW p e below s _ _ _ (Ty229.setTop (mkF m 473 #[iv p1, iv p2, iv p3, .val (.long pd), .second, iv 1, iv 1, iv zc, rv by1, rv ay152, rv t2, rv by220, .val .null, iv 7, iv dp, .val (.int (own_gt own_al1 dp.toNatClampNeg))] [(.ref eo)]))
        refine FinW.step (fun _ k => Yo.astore Xy229.here hx (hb hby at_473) rfl rfl (l' := #[iv p1, iv p2, iv p3, .val (.long pd), .second, iv 1, iv 1, iv zc, rv by1, rv ay152, rv t2, rv by220, .val .null, rv eo, iv dp, .val (.int (own_gt own_al1 dp.toNatClampNeg))]) rfl (Yo.aload Xy229.here hx (hb hby at_475) rfl rfl (Yo.aconstNull Xy229.here hx (hb hby at_477) k))) ?_
        obtain ⟨cqy230, kqy230, qy230a, qy230b, qy230c⟩ := isOf hZ rfl (HE_eo.keep Ky229)
        obtain ⟨_, Ty230, Lcy230, Xy230, hQy230, sty230⟩ := pack (Xy229.virtualBack hx (y := n23) (z := n23) hown (mvT hZ (W_ hw 124)) (mvT hZ (W_ hw 125)) (notFace_of_selects (args := #[]) (mvT hZ (W_ hw 127))) (mvT hZ (W_ hw 127)) (mvT hZ (W_ hw 126)) (by decide) (backOf (W := 0) (rmor0 l Z a0 hw [] eo Ty229.heap n0 Zy229 (HF_eo_value.keep Ky229 nin0)) hZ (W_ hw 128) (W_ hw 109) (by decide) (by decide)) qy230a qy230c (g := (mkF m 478 #[iv p1, iv p2, iv p3, .val (.long pd), .second, iv 1, iv 1, iv zc, rv by1, rv ay152, rv t2, rv by220, .val .null, rv eo, iv dp, .val (.int (own_gt own_al1 dp.toNatClampNeg))] [.null, (.ref eo)])) rfl (by rw [hml]; rfl) (Steps.refl _) (argsL := [.null]) (rest := []) (lenOf pd_16 rfl) rfl (lb rfl) (hb hby at_478) (fun _ _ => ⟨rfl, rfl, (by decide : 8 + 0 ≤ _), (by decide : 78 + 0 ≤ _)⟩))
        obtain ⟨rfl, Nqy230, eqy230⟩ := hQy230
        have Ny230 := Fr.app Ny229 Nqy230
        refine FinW.step (sty230) ?_
        show FinW p e below s _ _ _ (Ty230.setTop (mkF m 481 #[iv p1, iv p2, iv p3, .val (.long pd), .second, iv 1, iv 1, iv zc, rv by1, rv ay152, rv t2, rv by220, .val .null, rv eo, iv dp, .val (.int (own_gt own_al1 dp.toNatClampNeg))] [.null]))
        refine FinW.step (fun _ k => Yo.aload Xy230.here hx (hb hby at_481) rfl rfl k) ?_
        refine FinW.step (fun _ => Jvm.RoadKit.acmp (g := (mkF m 483 #[iv p1, iv p2, iv p3, .val (.long pd), .second, iv 1, iv 1, iv zc, rv by1, rv ay152, rv t2, rv by220, .val .null, rv eo, iv dp, .val (.int (own_gt own_al1 dp.toNatClampNeg))] [.null, .null])) Xy230 hx rfl rfl rfl (pc0 := 483) (pc' := 486) (same := true) rfl (hb hby at_483) rfl (decide_eq_true rfl) (by decide) (by decide)) ?_
        show FinW p e below s _ _ _ (Ty230.setTop (mkF m 486 #[iv p1, iv p2, iv p3, .val (.long pd), .second, iv 1, iv 1, iv zc, rv by1, rv ay152, rv t2, rv by220, .val .null, rv eo, iv dp, .val (.int (own_gt own_al1 dp.toNatClampNeg))] []))
        refine FinW.step (fun _ k => Yo.iconst Xy230.here hx (hb hby at_486) (Yo.goto Xy230.here hx (pc0 := 487) (pc' := 491) rfl (hb hby at_487) (by decide) (by decide) k)) ?_
        have hky231 := (Nat.le_trans (Nat.le_trans (Nat.le_trans (Nat.le_trans (Nat.le_trans (Nat.le_trans (Nat.le_trans (Nat.le_trans (Nat.le_trans (Nat.le_trans (Nat.le_trans hky152 (Keep.of_wr Wy158).1) (Keep.of_wr Wy163).1) (Keep.of_wr Wy168).1) (Keep.of_wr Wy176).1) (Keep.of_wr Wy181).1) (Keep.of_wr Wy186).1) (Keep.of_wr Wy194).1) (Keep.of_wr Wy199).1) (Keep.of_wr Wy215).1) Kcy220.1) Kcy229.1)
        refine FinW.retN Xy230 hSy152 (by rw [eqy230]; exact hky231) hx (t := .boolean) hret (by simp) hlk (hb hby at_491) (by decide) (by decide) ?_
        show Q0 Z p1 p2 p3 pd wc fv eo av cv t1 t2 t3 s1 v1 k1 s2 v2 k2 s3 v3 k3 h0 n0 _ Ty230.heap _
        rw [eqy230]
        exact ⟨rfl, Ny230, Ky229⟩
      · show FinW p e below s _ _ _ (Ty215.setTop (mkF m 232 #[iv p1, iv p2, iv p3, .val (.long pd), .second, iv 1, iv 1, iv zc, rv by1, rv ay152, rv t2, u_, u_, iv 7, iv dp, .val (.int (own_gt own_al1 dp.toNatClampNeg))] []))
        refine FinW.step (fun _ k => Yo.aload Xy215.here hx (hb hby at_232) rfl rfl (Yo.iload Xy215.here hx (hb hby at_234) rfl k)) ?_
        have ry232 := (((ry192.wr Wy194).wr Wy199).wr Wy215)
        obtain ⟨_, Ty233, Lcy233, Xy233, hQy233, sty233⟩ := packS (Jvm.LawKit.callS Xy215 hx (y := n9) hown (mvT hZ (W_ hw 52)) (mvT hZ (W_ hw 53)) (mvT hZ (W_ hw 28)) (mvT hZ (W_ hw 54)) (by decide) (backOf (W := 0) (rmstL7 l Z a0 hw [] by1 ky1 _ wc hy215 n0 Zy215 Vy215 ry232 (own_chset own_alc1 _ _) hwc (own_hl Gz.2 (by show _ < 8; have := Gp.2.2; omega) hbg own_als1)) hZ (W_ hw 54) (W_ hw 28) (by decide) (by decide)) (g := (mkF m 236 #[iv p1, iv p2, iv p3, .val (.long pd), .second, iv 1, iv 1, iv zc, rv by1, rv ay152, rv t2, u_, u_, iv 7, iv dp, .val (.int (own_gt own_al1 dp.toNatClampNeg))] [(.int 7), (.ref by1)])) rfl (by rw [hml]; rfl) (argsL := [(.ref by1), (.int 7)]) (rest := []) (lenOf pd_23 rfl) rfl (lb rfl) (hb hby at_236) (fun _ _ => ⟨rfl, ey215, (by decide : 3 + 8 ≤ _), (by decide : 40 + 64 ≤ _)⟩))
        obtain ⟨nb_y233, kn_y233, by233, rfl, bzy233, bfy233_0, Nqy233, Kcy233, fy233_0, fy233_1, fy233_2, fy233_3, ney233_0⟩ := hQy233
        have Ny233 := Fr.app Ny215 Nqy233
        have gzy233 : n0 ≤ by233 := Nat.le_trans Zy215 bzy233
        have szy233 : h0.size ≤ by233 := Nat.le_trans Ky215.1 bzy233
        have gzy233_0 : n0 ≤ nb_y233 := Nat.le_trans Zy215 bfy233_0
        have szy233_0 : h0.size ≤ nb_y233 := Nat.le_trans Ky215.1 bfy233_0
        have Zy233 := Nat.le_trans Zy215 Kcy233.1
        have Ky233 := Ky215.trans Kcy233 all0
        refine FinW.step (sty233) ?_
        show FinW p e below s _ _ _ (Ty233.setTop (mkF m 239 #[iv p1, iv p2, iv p3, .val (.long pd), .second, iv 1, iv 1, iv zc, rv by1, rv ay152, rv t2, u_, u_, iv 7, iv dp, .val (.int (own_gt own_al1 dp.toNatClampNeg))] [(.ref by233)]))
        refine FinW.step (fun _ k => Yo.astore Xy233.here hx (hb hby at_239) rfl rfl (l' := #[iv p1, iv p2, iv p3, .val (.long pd), .second, iv 1, iv 1, iv zc, rv by1, rv ay152, rv t2, rv by233, u_, iv 7, iv dp, .val (.int (own_gt own_al1 dp.toNatClampNeg))]) rfl (Yo.iload Xy233.here hx (hb hby at_241) rfl (Yo.iload Xy233.here hx (hb hby at_243) rfl k))) ?_
        by_cases hcy234 : zc = (own_gt own_al1 dp.toNatClampNeg)
        · refine FinW.step (fun _ k => Yo.icmpNo Xy233.here hx (hb hby at_245) rfl (teq (hcy234 : (zc = (own_gt own_al1 dp.toNatClampNeg)))).2 (Yo.aload Xy233.here hx (hb hby at_248) rfl rfl (Yo.goto Xy233.here hx (pc0 := 250) (pc' := 254) rfl (hb hby at_250) (by decide) (by decide) (Yo.astore Xy233.here hx (hb hby at_254) rfl rfl (l' := #[iv p1, iv p2, iv p3, .val (.long pd), .second, iv 1, iv 1, iv zc, rv by1, rv ay152, rv t2, rv by233, rv t2, iv 7, iv dp, .val (.int (own_gt own_al1 dp.toNatClampNeg))]) rfl (Yo.goto Xy233.here hx (pc0 := 256) (pc' := 303) rfl (hb hby at_256) (by decide) (by decide) (Yo.goto Xy233.here hx (pc0 := 303) (pc' := 468) rfl (hb hby at_303) (by decide) (by decide) (Yo.aload Xy233.here hx (hb hby at_468) rfl rfl k))))))) ?_
          have ry235 := (Sta_keep HS_com_example_model_for_reads_modelforreads_model_FieldType__VALUES Ky233)
          have ry236 := (Sta_keep HS_java_util_Optional_EMPTY Ky233)
          have ry237 := (HF_t1_modelName.keep Ky233 nin0)
          have ry238 := (HF_t2_modelName.keep Ky233 nin0)
          have ry239 := (HF_t3_modelName.keep Ky233 nin0)
          have ney240 := nlt HE_s1.lt szy233
          have ney241 := nlt HE_s2.lt szy233
          have ney242 := nlt HE_s3.lt szy233
          obtain ⟨_, Ty243, Lcy243, Xy243, hQy243, sty243⟩ := packS (Jvm.LawKit.callS Xy233 hx (y := n16) hown (mvT hZ (W_ hw 76)) (mvT hZ (W_ hw 77)) (mvT hZ (W_ hw 11)) (mvT hZ (W_ hw 78)) (by decide) (backOf (W := 0) (rmfmL2 l Z a0 hw [] by233 av cv t1 t2 t3 eo wc s1 v1 k1 3 _ s2 v2 k2 7 _ s3 v3 k3 6 _ nb_y233 kn_y233 7 _ Ty233.heap n0 Zy233 ry235 ry236 (Sta_keepW ry232 Kcy233 all0) ry237 (HE_s1.keep Ky233) (HF_s1_coder.keep Ky233 nin0) (HF_s1_value.keep Ky233 nin0) (HV_v1.keep Ky233 nin0) ry238 (HE_s2.keep Ky233) (HF_s2_coder.keep Ky233 nin0) (HF_s2_value.keep Ky233 nin0) (HV_v2.keep Ky233 nin0) ry239 (HE_s3.keep Ky233) (HF_s3_coder.keep Ky233 nin0) (HF_s3_value.keep Ky233 nin0) (HV_v3.keep Ky233 nin0) fy233_0 fy233_1 fy233_2 fy233_3 ⟨Arr_keep hcv.1 Ky233, hcv.2.1.keep Ky233, hcv.2.2.1, hcv.2.2.2⟩ hwc (own_wlc _ _ _) (by decide) (by decide) (by decide) own_nlc0 own_nlc1 own_nlc2 (own_eqb0 (by decide)) (own_same (n := 7) (k := 7) rfl own_nm1 Gp.2.2 Gz.2 hcy234) ney240 ney241 ney242) hZ (W_ hw 78) (W_ hw 11) (by decide) (by decide)) (g := (mkF m 470 #[iv p1, iv p2, iv p3, .val (.long pd), .second, iv 1, iv 1, iv zc, rv by1, rv ay152, rv t2, rv by233, rv t2, iv 7, iv dp, .val (.int (own_gt own_al1 dp.toNatClampNeg))] [(.ref by233)])) rfl (by rw [hml]; rfl) (argsL := [(.ref by233)]) (rest := []) (lenOf pd_24 rfl) rfl (lb rfl) (hb hby at_470) (fun _ _ => ⟨rfl, rfl, (by decide : 11 + 2 ≤ _), (by decide : 104 + 4 ≤ _)⟩))
          obtain ⟨by243, rfl, bzy243, Nqy243, Kcy243, fy243_0, fy243_1⟩ := hQy243
          have Ny243 := Fr.app Ny233 Nqy243
          have gzy243 : n0 ≤ by243 := Nat.le_trans Zy233 bzy243
          have szy243 : h0.size ≤ by243 := Nat.le_trans Ky233.1 bzy243
          have Zy243 := Nat.le_trans Zy233 Kcy243.1
          have Ky243 := Ky233.trans Kcy243 all0
          refine FinW.step (sty243) ?_
          show FinW p e below s _ _ _ (Ty243.setTop (mkF m 473 #[iv p1, iv p2, iv p3, .val (.long pd), .second, iv 1, iv 1, iv zc, rv by1, rv ay152, rv t2, rv by233, rv t2, iv 7, iv dp, .val (.int (own_gt own_al1 dp.toNatClampNeg))] [(.ref by243)]))
          refine FinW.step (fun _ k => Yo.astore Xy243.here hx (hb hby at_473) rfl rfl (l' := #[iv p1, iv p2, iv p3, .val (.long pd), .second, iv 1, iv 1, iv zc, rv by1, rv ay152, rv t2, rv by233, rv t2, rv by243, iv dp, .val (.int (own_gt own_al1 dp.toNatClampNeg))]) rfl (Yo.aload Xy243.here hx (hb hby at_475) rfl rfl (Yo.aconstNull Xy243.here hx (hb hby at_477) k))) ?_
          obtain ⟨cqy244, kqy244, qy244a, qy244b, qy244c⟩ := isOf hZ rfl fy243_0
          obtain ⟨_, Ty244, Lcy244, Xy244, hQy244, sty244⟩ := pack (Xy243.virtualBack hx (y := n23) (z := n23) hown (mvT hZ (W_ hw 124)) (mvT hZ (W_ hw 125)) (notFace_of_selects (args := #[]) (mvT hZ (W_ hw 127))) (mvT hZ (W_ hw 127)) (mvT hZ (W_ hw 126)) (by decide) (backOf (W := 0) (rmor1 l Z a0 hw [] by243 t2 Ty243.heap n0 Zy243 fy243_1) hZ (W_ hw 128) (W_ hw 109) (by decide) (by decide)) qy244a qy244c (g := (mkF m 478 #[iv p1, iv p2, iv p3, .val (.long pd), .second, iv 1, iv 1, iv zc, rv by1, rv ay152, rv t2, rv by233, rv t2, rv by243, iv dp, .val (.int (own_gt own_al1 dp.toNatClampNeg))] [.null, (.ref by243)])) rfl (by rw [hml]; rfl) (Steps.refl _) (argsL := [.null]) (rest := []) (lenOf pd_16 rfl) rfl (lb rfl) (hb hby at_478) (fun _ _ => ⟨rfl, rfl, (by decide : 13 + 0 ≤ _), (by decide : 108 + 0 ≤ _)⟩))
          obtain ⟨rfl, Nqy244, eqy244⟩ := hQy244
          have Ny244 := Fr.app Ny243 Nqy244
          refine FinW.step (sty244) ?_
          show FinW p e below s _ _ _ (Ty244.setTop (mkF m 481 #[iv p1, iv p2, iv p3, .val (.long pd), .second, iv 1, iv 1, iv zc, rv by1, rv ay152, rv t2, rv by233, rv t2, rv by243, iv dp, .val (.int (own_gt own_al1 dp.toNatClampNeg))] [(.ref t2)]))
          refine FinW.step (fun _ k => Yo.aload Xy244.here hx (hb hby at_481) rfl rfl k) ?_
          refine FinW.step (fun _ => Jvm.RoadKit.acmp (g := (mkF m 483 #[iv p1, iv p2, iv p3, .val (.long pd), .second, iv 1, iv 1, iv zc, rv by1, rv ay152, rv t2, rv by233, rv t2, rv by243, iv dp, .val (.int (own_gt own_al1 dp.toNatClampNeg))] [(.ref t2), (.ref t2)])) Xy244 hx rfl rfl rfl (pc0 := 483) (pc' := 486) (same := true) rfl (hb hby at_483) rfl (decide_eq_true rfl) (by decide) (by decide)) ?_
          show FinW p e below s _ _ _ (Ty244.setTop (mkF m 486 #[iv p1, iv p2, iv p3, .val (.long pd), .second, iv 1, iv 1, iv zc, rv by1, rv ay152, rv t2, rv by233, rv t2, rv by243, iv dp, .val (.int (own_gt own_al1 dp.toNatClampNeg))] []))
          refine FinW.step (fun _ k => Yo.iconst Xy244.here hx (hb hby at_486) (Yo.goto Xy244.here hx (pc0 := 487) (pc' := 491) rfl (hb hby at_487) (by decide) (by decide) k)) ?_
          have hky245 := (Nat.le_trans (Nat.le_trans (Nat.le_trans (Nat.le_trans (Nat.le_trans (Nat.le_trans (Nat.le_trans (Nat.le_trans (Nat.le_trans (Nat.le_trans (Nat.le_trans hky152 (Keep.of_wr Wy158).1) (Keep.of_wr Wy163).1) (Keep.of_wr Wy168).1) (Keep.of_wr Wy176).1) (Keep.of_wr Wy181).1) (Keep.of_wr Wy186).1) (Keep.of_wr Wy194).1) (Keep.of_wr Wy199).1) (Keep.of_wr Wy215).1) Kcy233.1) Kcy243.1)
          refine FinW.retN Xy244 hSy152 (by rw [eqy244]; exact hky245) hx (t := .boolean) hret (by simp) hlk (hb hby at_491) (by decide) (by decide) ?_
          show Q0 Z p1 p2 p3 pd wc fv eo av cv t1 t2 t3 s1 v1 k1 s2 v2 k2 s3 v3 k3 h0 n0 _ Ty244.heap _
          rw [eqy244]
          exact ⟨rfl, Ny244, Ky243⟩
        · refine FinW.step (fun _ k => Yo.icmpYes Xy233.here hx (pc0 := 245) (pc' := 253) rfl (hb hby at_245) rfl (feq (hcy234 : ¬ (zc = (own_gt own_al1 dp.toNatClampNeg)))).2 (by decide) (by decide) (Yo.aconstNull Xy233.here hx (hb hby at_253) (Yo.astore Xy233.here hx (hb hby at_254) rfl rfl (l' := #[iv p1, iv p2, iv p3, .val (.long pd), .second, iv 1, iv 1, iv zc, rv by1, rv ay152, rv t2, rv by233, .val .null, iv 7, iv dp, .val (.int (own_gt own_al1 dp.toNatClampNeg))]) rfl (Yo.goto Xy233.here hx (pc0 := 256) (pc' := 303) rfl (hb hby at_256) (by decide) (by decide) (Yo.goto Xy233.here hx (pc0 := 303) (pc' := 468) rfl (hb hby at_303) (by decide) (by decide) (Yo.aload Xy233.here hx (hb hby at_468) rfl rfl k)))))) ?_
          have ry246 := (Sta_keep HS_com_example_model_for_reads_modelforreads_model_FieldType__VALUES Ky233)
          have ry247 := (Sta_keep HS_java_util_Optional_EMPTY Ky233)
          have ry248 := (HF_t1_modelName.keep Ky233 nin0)
          have ry249 := (HF_t2_modelName.keep Ky233 nin0)
          have ry250 := (HF_t3_modelName.keep Ky233 nin0)
          have ney251 := nlt HE_s1.lt szy233
          have ney252 := nlt HE_s2.lt szy233
          have ney253 := nlt HE_s3.lt szy233
          obtain ⟨_, Ty254, Lcy254, Xy254, hQy254, sty254⟩ := packS (Jvm.LawKit.callS Xy233 hx (y := n16) hown (mvT hZ (W_ hw 76)) (mvT hZ (W_ hw 77)) (mvT hZ (W_ hw 11)) (mvT hZ (W_ hw 78)) (by decide) (backOf (W := 0) (rmfmL0 l Z a0 hw [] by233 av cv t1 t2 t3 eo wc s1 v1 k1 3 _ s2 v2 k2 7 _ s3 v3 k3 6 _ nb_y233 kn_y233 7 _ Ty233.heap n0 Zy233 ry246 ry247 (Sta_keepW ry232 Kcy233 all0) ry248 (HE_s1.keep Ky233) (HF_s1_coder.keep Ky233 nin0) (HF_s1_value.keep Ky233 nin0) (HV_v1.keep Ky233 nin0) ry249 (HE_s2.keep Ky233) (HF_s2_coder.keep Ky233 nin0) (HF_s2_value.keep Ky233 nin0) (HV_v2.keep Ky233 nin0) ry250 (HE_s3.keep Ky233) (HF_s3_coder.keep Ky233 nin0) (HF_s3_value.keep Ky233 nin0) (HV_v3.keep Ky233 nin0) fy233_0 fy233_1 fy233_2 fy233_3 ⟨Arr_keep hcv.1 Ky233, hcv.2.1.keep Ky233, hcv.2.2.1, hcv.2.2.2⟩ hwc (own_wlc _ _ _) (by decide) (by decide) (by decide) own_nlc0 own_nlc1 own_nlc2 (own_eqb0 (by decide)) (own_diff (n := 7) (k := 7) rfl own_nm1 Gp.2.2 Gz.2 Gz.1.1 hbg hcy234) (own_eqb0 (by decide)) ney251 ney252 ney253) hZ (W_ hw 78) (W_ hw 11) (by decide) (by decide)) (g := (mkF m 470 #[iv p1, iv p2, iv p3, .val (.long pd), .second, iv 1, iv 1, iv zc, rv by1, rv ay152, rv t2, rv by233, .val .null, iv 7, iv dp, .val (.int (own_gt own_al1 dp.toNatClampNeg))] [(.ref by233)])) rfl (by rw [hml]; rfl) (argsL := [(.ref by233)]) (rest := []) (lenOf pd_24 rfl) rfl (lb rfl) (hb hby at_470) (fun _ _ => ⟨rfl, rfl, (by decide : 11 + 1 ≤ _), (by decide : 104 + 3 ≤ _)⟩))
          obtain ⟨rfl, Nqy254, Kcy254⟩ := hQy254
          have Ny254 := Fr.app Ny233 Nqy254
          have Zy254 := Nat.le_trans Zy233 Kcy254.1
          have Ky254 := Ky233.trans Kcy254 all0
          refine FinW.step (sty254) ?_
          show FinW p e below s _ _ _ (Ty254.setTop (mkF m 473 #[iv p1, iv p2, iv p3, .val (.long pd), .second, iv 1, iv 1, iv zc, rv by1, rv ay152, rv t2, rv by233, .val .null, iv 7, iv dp, .val (.int (own_gt own_al1 dp.toNatClampNeg))] [(.ref eo)]))
          refine FinW.step (fun _ k => Yo.astore Xy254.here hx (hb hby at_473) rfl rfl (l' := #[iv p1, iv p2, iv p3, .val (.long pd), .second, iv 1, iv 1, iv zc, rv by1, rv ay152, rv t2, rv by233, .val .null, rv eo, iv dp, .val (.int (own_gt own_al1 dp.toNatClampNeg))]) rfl (Yo.aload Xy254.here hx (hb hby at_475) rfl rfl (Yo.aconstNull Xy254.here hx (hb hby at_477) k))) ?_
          obtain ⟨cqy255, kqy255, qy255a, qy255b, qy255c⟩ := isOf hZ rfl (HE_eo.keep Ky254)
          obtain ⟨_, Ty255, Lcy255, Xy255, hQy255, sty255⟩ := pack (Xy254.virtualBack hx (y := n23) (z := n23) hown (mvT hZ (W_ hw 124)) (mvT hZ (W_ hw 125)) (notFace_of_selects (args := #[]) (mvT hZ (W_ hw 127))) (mvT hZ (W_ hw 127)) (mvT hZ (W_ hw 126)) (by decide) (backOf (W := 0) (rmor0 l Z a0 hw [] eo Ty254.heap n0 Zy254 (HF_eo_value.keep Ky254 nin0)) hZ (W_ hw 128) (W_ hw 109) (by decide) (by decide)) qy255a qy255c (g := (mkF m 478 #[iv p1, iv p2, iv p3, .val (.long pd), .second, iv 1, iv 1, iv zc, rv by1, rv ay152, rv t2, rv by233, .val .null, rv eo, iv dp, .val (.int (own_gt own_al1 dp.toNatClampNeg))] [.null, (.ref eo)])) rfl (by rw [hml]; rfl) (Steps.refl _) (argsL := [.null]) (rest := []) (lenOf pd_16 rfl) rfl (lb rfl) (hb hby at_478) (fun _ _ => ⟨rfl, rfl, (by decide : 12 + 0 ≤ _), (by decide : 107 + 0 ≤ _)⟩))
          obtain ⟨rfl, Nqy255, eqy255⟩ := hQy255
          have Ny255 := Fr.app Ny254 Nqy255
          refine FinW.step (sty255) ?_
          show FinW p e below s _ _ _ (Ty255.setTop (mkF m 481 #[iv p1, iv p2, iv p3, .val (.long pd), .second, iv 1, iv 1, iv zc, rv by1, rv ay152, rv t2, rv by233, .val .null, rv eo, iv dp, .val (.int (own_gt own_al1 dp.toNatClampNeg))] [.null]))
          refine FinW.step (fun _ k => Yo.aload Xy255.here hx (hb hby at_481) rfl rfl k) ?_
          refine FinW.step (fun _ => Jvm.RoadKit.acmp (g := (mkF m 483 #[iv p1, iv p2, iv p3, .val (.long pd), .second, iv 1, iv 1, iv zc, rv by1, rv ay152, rv t2, rv by233, .val .null, rv eo, iv dp, .val (.int (own_gt own_al1 dp.toNatClampNeg))] [.null, .null])) Xy255 hx rfl rfl rfl (pc0 := 483) (pc' := 486) (same := true) rfl (hb hby at_483) rfl (decide_eq_true rfl) (by decide) (by decide)) ?_
          show FinW p e below s _ _ _ (Ty255.setTop (mkF m 486 #[iv p1, iv p2, iv p3, .val (.long pd), .second, iv 1, iv 1, iv zc, rv by1, rv ay152, rv t2, rv by233, .val .null, rv eo, iv dp, .val (.int (own_gt own_al1 dp.toNatClampNeg))] []))
          refine FinW.step (fun _ k => Yo.iconst Xy255.here hx (hb hby at_486) (Yo.goto Xy255.here hx (pc0 := 487) (pc' := 491) rfl (hb hby at_487) (by decide) (by decide) k)) ?_
          have hky256 := (Nat.le_trans (Nat.le_trans (Nat.le_trans (Nat.le_trans (Nat.le_trans (Nat.le_trans (Nat.le_trans (Nat.le_trans (Nat.le_trans (Nat.le_trans (Nat.le_trans hky152 (Keep.of_wr Wy158).1) (Keep.of_wr Wy163).1) (Keep.of_wr Wy168).1) (Keep.of_wr Wy176).1) (Keep.of_wr Wy181).1) (Keep.of_wr Wy186).1) (Keep.of_wr Wy194).1) (Keep.of_wr Wy199).1) (Keep.of_wr Wy215).1) Kcy233.1) Kcy254.1)
          refine FinW.retN Xy255 hSy152 (by rw [eqy255]; exact hky256) hx (t := .boolean) hret (by simp) hlk (hb hby at_491) (by decide) (by decide) ?_
          show Q0 Z p1 p2 p3 pd wc fv eo av cv t1 t2 t3 s1 v1 k1 s2 v2 k2 s3 v3 k3 h0 n0 _ Ty255.heap _
          rw [eqy255]
          exact ⟨rfl, Ny255, Ky254⟩
    · show FinW p e below s _ _ _ (Ty199.setTop (mkF m 182 #[iv p1, iv p2, iv p3, .val (.long pd), .second, iv 1, iv 2, iv zc, rv by1, rv ay152, rv t2, u_, u_, iv 7, u_, u_] []))
      refine FinW.step (fun _ k => Yo.iload Xy199.here hx (hb hby at_182) rfl (Yo.ifYes Xy199.here hx (pc0 := 184) (pc' := 203) rfl (hb hby at_184) rfl ((if0 _ _).trans (feq ((by decide) : ¬ ((2 : Int32) = (0 : Int32)))).2) (by decide) (by decide) (Yo.iload Xy199.here hx (hb hby at_203) rfl (Yo.iconst Xy199.here hx (hb hby at_205) (Yo.icmpYes Xy199.here hx (pc0 := 206) (pc' := 259) rfl (hb hby at_206) rfl (feq ((by decide) : ¬ ((2 : Int32) = (1 : Int32)))).2 (by decide) (by decide) (Yo.iload Xy199.here hx (hb hby at_259) rfl (Yo.iconst Xy199.here hx (hb hby at_261) (Yo.icmpNo Xy199.here hx (hb hby at_262) rfl (teq ((by decide) : ((2 : Int32) = (2 : Int32)))).2 k)))))))) ?_
      refine FinW.step (fun _ k => Yo.aload Xy199.here hx (hb hby at_265) rfl rfl (Yo.iload Xy199.here hx (hb hby at_267) rfl (Yo.iconst Xy199.here hx (hb hby at_269) (Yo.isub Xy199.here hx (hb hby at_270) rfl k)))) ?_
      show FinW p e below s _ _ _ (Ty199.setTop (mkF m 271 #[iv p1, iv p2, iv p3, .val (.long pd), .second, iv 1, iv 2, iv zc, rv by1, rv ay152, rv t2, u_, u_, iv 7, u_, u_] [(.int 6), (.ref by1)]))
      obtain ⟨_, Ty257, Lcy257, Xy257, hQy257, sty257⟩ := packS (Jvm.LawKit.callS Xy199 hx (y := n9) hown (mvT hZ (W_ hw 52)) (mvT hZ (W_ hw 53)) (mvT hZ (W_ hw 28)) (mvT hZ (W_ hw 54)) (by decide) (backOf (W := 0) (rmstL6 l Z a0 hw [] by1 ky1 own_al1 wc hy199 n0 Zy199 Vy200 ((ry192.wr Wy194).wr Wy199) own_alc1 hwc (own_latk own_als1 6)) hZ (W_ hw 54) (W_ hw 28) (by decide) (by decide)) (g := (mkF m 271 #[iv p1, iv p2, iv p3, .val (.long pd), .second, iv 1, iv 2, iv zc, rv by1, rv ay152, rv t2, u_, u_, iv 7, u_, u_] [(.int 6), (.ref by1)])) rfl (by rw [hml]; rfl) (argsL := [(.ref by1), (.int 6)]) (rest := []) (lenOf pd_23 rfl) rfl (lb rfl) (hb hby at_271) (fun _ _ => ⟨rfl, ey199, (by decide : 3 + 8 ≤ _), (by decide : 40 + 64 ≤ _)⟩))
      obtain ⟨nb_y257, kn_y257, by257, rfl, bzy257, bfy257_0, Nqy257, Kcy257, fy257_0, fy257_1, fy257_2, fy257_3, ney257_0⟩ := hQy257
      have Ny257 := Fr.app Ny199 Nqy257
      have gzy257 : n0 ≤ by257 := Nat.le_trans Zy199 bzy257
      have szy257 : h0.size ≤ by257 := Nat.le_trans Ky199.1 bzy257
      have gzy257_0 : n0 ≤ nb_y257 := Nat.le_trans Zy199 bfy257_0
      have szy257_0 : h0.size ≤ nb_y257 := Nat.le_trans Ky199.1 bfy257_0
      have Zy257 := Nat.le_trans Zy199 Kcy257.1
      have Ky257 := Ky199.trans Kcy257 all0
      refine FinW.step (sty257) ?_
      show FinW p e below s _ _ _ (Ty257.setTop (mkF m 274 #[iv p1, iv p2, iv p3, .val (.long pd), .second, iv 1, iv 2, iv zc, rv by1, rv ay152, rv t2, u_, u_, iv 7, u_, u_] [(.ref by257)]))
      refine FinW.step (fun _ k => Yo.astore Xy257.here hx (hb hby at_274) rfl rfl (l' := #[iv p1, iv p2, iv p3, .val (.long pd), .second, iv 1, iv 2, iv zc, rv by1, rv ay152, rv t2, rv by257, u_, iv 7, u_, u_]) rfl (Yo.aconstNull Xy257.here hx (hb hby at_276) (Yo.astore Xy257.here hx (hb hby at_277) rfl rfl (l' := #[iv p1, iv p2, iv p3, .val (.long pd), .second, iv 1, iv 2, iv zc, rv by1, rv ay152, rv t2, rv by257, .val .null, iv 7, u_, u_]) rfl (Yo.goto Xy257.here hx (pc0 := 279) (pc' := 303) rfl (hb hby at_279) (by decide) (by decide) (Yo.goto Xy257.here hx (pc0 := 303) (pc' := 468) rfl (hb hby at_303) (by decide) (by decide) (Yo.aload Xy257.here hx (hb hby at_468) rfl rfl k)))))) ?_
      have ry258 := (Sta_keep HS_com_example_model_for_reads_modelforreads_model_FieldType__VALUES Ky257)
      have ry259 := (Sta_keep HS_java_util_Optional_EMPTY Ky257)
      have ry260 := (Sta_keepW ((ry192.wr Wy194).wr Wy199) Kcy257 all0)
      have ry261 := (HF_t1_modelName.keep Ky257 nin0)
      have ry262 := (HF_t2_modelName.keep Ky257 nin0)
      have ry263 := (HF_t3_modelName.keep Ky257 nin0)
      have ney264 := nlt HE_s1.lt szy257
      have ney265 := nlt HE_s2.lt szy257
      have ney266 := nlt HE_s3.lt szy257
      obtain ⟨_, Ty267, Lcy267, Xy267, hQy267, sty267⟩ := packS (Jvm.LawKit.callS Xy257 hx (y := n16) hown (mvT hZ (W_ hw 76)) (mvT hZ (W_ hw 77)) (mvT hZ (W_ hw 11)) (mvT hZ (W_ hw 78)) (by decide) (backOf (W := 0) (rmfmL0 l Z a0 hw [] by257 av cv t1 t2 t3 eo wc s1 v1 k1 3 _ s2 v2 k2 7 _ s3 v3 k3 6 _ nb_y257 kn_y257 6 _ Ty257.heap n0 Zy257 ry258 ry259 ry260 ry261 (HE_s1.keep Ky257) (HF_s1_coder.keep Ky257 nin0) (HF_s1_value.keep Ky257 nin0) (HV_v1.keep Ky257 nin0) ry262 (HE_s2.keep Ky257) (HF_s2_coder.keep Ky257 nin0) (HF_s2_value.keep Ky257 nin0) (HV_v2.keep Ky257 nin0) ry263 (HE_s3.keep Ky257) (HF_s3_coder.keep Ky257 nin0) (HF_s3_value.keep Ky257 nin0) (HV_v3.keep Ky257 nin0) fy257_0 fy257_1 fy257_2 fy257_3 ⟨Arr_keep hcv.1 Ky257, hcv.2.1.keep Ky257, hcv.2.2.1, hcv.2.2.2⟩ hwc (own_wlc _ _ _) (by decide) (by decide) (by decide) own_nlc0 own_nlc1 own_nlc2 (own_eqb0 (by decide)) (own_eqb0 (by decide)) (by decide +kernel) ney264 ney265 ney266) hZ (W_ hw 78) (W_ hw 11) (by decide) (by decide)) (g := (mkF m 470 #[iv p1, iv p2, iv p3, .val (.long pd), .second, iv 1, iv 2, iv zc, rv by1, rv ay152, rv t2, rv by257, .val .null, iv 7, u_, u_] [(.ref by257)])) rfl (by rw [hml]; rfl) (argsL := [(.ref by257)]) (rest := []) (lenOf pd_24 rfl) rfl (lb rfl) (hb hby at_470) (fun _ _ => ⟨rfl, rfl, (by decide : 11 + 1 ≤ _), (by decide : 104 + 3 ≤ _)⟩))
      obtain ⟨rfl, Nqy267, Kcy267⟩ := hQy267
      have Ny267 := Fr.app Ny257 Nqy267
      have Zy267 := Nat.le_trans Zy257 Kcy267.1
      have Ky267 := Ky257.trans Kcy267 all0
      refine FinW.step (sty267) ?_
      show FinW p e below s _ _ _ (Ty267.setTop (mkF m 473 #[iv p1, iv p2, iv p3, .val (.long pd), .second, iv 1, iv 2, iv zc, rv by1, rv ay152, rv t2, rv by257, .val .null, iv 7, u_, u_] [(.ref eo)]))
      refine FinW.step (fun _ k => Yo.astore Xy267.here hx (hb hby at_473) rfl rfl (l' := #[iv p1, iv p2, iv p3, .val (.long pd), .second, iv 1, iv 2, iv zc, rv by1, rv ay152, rv t2, rv by257, .val .null, rv eo, u_, u_]) rfl (Yo.aload Xy267.here hx (hb hby at_475) rfl rfl (Yo.aconstNull Xy267.here hx (hb hby at_477) k))) ?_
      obtain ⟨cqy268, kqy268, qy268a, qy268b, qy268c⟩ := isOf hZ rfl (HE_eo.keep Ky267)
      obtain ⟨_, Ty268, Lcy268, Xy268, hQy268, sty268⟩ := pack (Xy267.virtualBack hx (y := n23) (z := n23) hown (mvT hZ (W_ hw 124)) (mvT hZ (W_ hw 125)) (notFace_of_selects (args := #[]) (mvT hZ (W_ hw 127))) (mvT hZ (W_ hw 127)) (mvT hZ (W_ hw 126)) (by decide) (backOf (W := 0) (rmor0 l Z a0 hw [] eo Ty267.heap n0 Zy267 (HF_eo_value.keep Ky267 nin0)) hZ (W_ hw 128) (W_ hw 109) (by decide) (by decide)) qy268a qy268c (g := (mkF m 478 #[iv p1, iv p2, iv p3, .val (.long pd), .second, iv 1, iv 2, iv zc, rv by1, rv ay152, rv t2, rv by257, .val .null, rv eo, u_, u_] [.null, (.ref eo)])) rfl (by rw [hml]; rfl) (Steps.refl _) (argsL := [.null]) (rest := []) (lenOf pd_16 rfl) rfl (lb rfl) (hb hby at_478) (fun _ _ => ⟨rfl, rfl, (by decide : 12 + 0 ≤ _), (by decide : 107 + 0 ≤ _)⟩))
      obtain ⟨rfl, Nqy268, eqy268⟩ := hQy268
      have Ny268 := Fr.app Ny267 Nqy268
      refine FinW.step (sty268) ?_
      show FinW p e below s _ _ _ (Ty268.setTop (mkF m 481 #[iv p1, iv p2, iv p3, .val (.long pd), .second, iv 1, iv 2, iv zc, rv by1, rv ay152, rv t2, rv by257, .val .null, rv eo, u_, u_] [.null]))
      refine FinW.step (fun _ k => Yo.aload Xy268.here hx (hb hby at_481) rfl rfl k) ?_
      refine FinW.step (fun _ => Jvm.RoadKit.acmp (g := (mkF m 483 #[iv p1, iv p2, iv p3, .val (.long pd), .second, iv 1, iv 2, iv zc, rv by1, rv ay152, rv t2, rv by257, .val .null, rv eo, u_, u_] [.null, .null])) Xy268 hx rfl rfl rfl (pc0 := 483) (pc' := 486) (same := true) rfl (hb hby at_483) rfl (decide_eq_true rfl) (by decide) (by decide)) ?_
      show FinW p e below s _ _ _ (Ty268.setTop (mkF m 486 #[iv p1, iv p2, iv p3, .val (.long pd), .second, iv 1, iv 2, iv zc, rv by1, rv ay152, rv t2, rv by257, .val .null, rv eo, u_, u_] []))
      refine FinW.step (fun _ k => Yo.iconst Xy268.here hx (hb hby at_486) (Yo.goto Xy268.here hx (pc0 := 487) (pc' := 491) rfl (hb hby at_487) (by decide) (by decide) k)) ?_
      have hky269 := (Nat.le_trans (Nat.le_trans (Nat.le_trans (Nat.le_trans (Nat.le_trans (Nat.le_trans (Nat.le_trans (Nat.le_trans (Nat.le_trans (Nat.le_trans hky152 (Keep.of_wr Wy158).1) (Keep.of_wr Wy163).1) (Keep.of_wr Wy168).1) (Keep.of_wr Wy176).1) (Keep.of_wr Wy181).1) (Keep.of_wr Wy186).1) (Keep.of_wr Wy194).1) (Keep.of_wr Wy199).1) Kcy257.1) Kcy267.1)
      refine FinW.retN Xy268 hSy152 (by rw [eqy268]; exact hky269) hx (t := .boolean) hret (by simp) hlk (hb hby at_491) (by decide) (by decide) ?_
      show Q0 Z p1 p2 p3 pd wc fv eo av cv t1 t2 t3 s1 v1 k1 s2 v2 k2 s3 v3 k3 h0 n0 _ Ty268.heap _
      rw [eqy268]
      exact ⟨rfl, Ny268, Ky267⟩
    · show FinW p e below s _ _ _ (Ty199.setTop (mkF m 182 #[iv p1, iv p2, iv p3, .val (.long pd), .second, iv 1, iv 3, iv zc, rv by1, rv ay152, rv t2, u_, u_, iv 7, u_, u_] []))
      refine FinW.step (fun _ k => Yo.iload Xy199.here hx (hb hby at_182) rfl (Yo.ifYes Xy199.here hx (pc0 := 184) (pc' := 203) rfl (hb hby at_184) rfl ((if0 _ _).trans (feq ((by decide) : ¬ ((3 : Int32) = (0 : Int32)))).2) (by decide) (by decide) (Yo.iload Xy199.here hx (hb hby at_203) rfl (Yo.iconst Xy199.here hx (hb hby at_205) (Yo.icmpYes Xy199.here hx (pc0 := 206) (pc' := 259) rfl (hb hby at_206) rfl (feq ((by decide) : ¬ ((3 : Int32) = (1 : Int32)))).2 (by decide) (by decide) (Yo.iload Xy199.here hx (hb hby at_259) rfl (Yo.iconst Xy199.here hx (hb hby at_261) (Yo.icmpYes Xy199.here hx (pc0 := 262) (pc' := 282) rfl (hb hby at_262) rfl (feq ((by decide) : ¬ ((3 : Int32) = (2 : Int32)))).2 (by decide) (by decide) k)))))))) ?_
      rcases Classical.em ((255 : Int32) < zc) with hbg | hbg
      · show FinW p e below s _ _ _ (Ty199.setTop (mkF m 282 #[iv p1, iv p2, iv p3, .val (.long pd), .second, iv 1, iv 3, iv zc, rv by1, rv ay152, rv t2, u_, u_, iv 7, u_, u_] []))
        refine FinW.step (fun _ k => Yo.aload Xy199.here hx (hb hby at_282) rfl rfl (Yo.iload Xy199.here hx (hb hby at_284) rfl (Yo.iload Xy199.here hx (hb hby at_286) rfl k))) ?_
        obtain ⟨Ty270, hy270, Xy270, ey270, Wy270, Vy270, Ny270, Zy270, Ky270, sty270⟩ := cst3 Xy199 hx hZ ey199 (j := 7) (x := zc) (ix := 7) Vy200 ⟨by decide, by decide⟩ rfl (by decide) Ny199 Zy199 Ky199 gzy1 (Or.inr szy1) (hb hby at_288)
        refine FinW.step (sty270) ?_
        refine FinW.step (fun _ k => Yo.aload Xy270.here hx (hb hby at_289) rfl rfl (Yo.iload Xy270.here hx (hb hby at_291) rfl (Yo.iconst Xy270.here hx (hb hby at_293) (Yo.iadd Xy270.here hx (hb hby at_294) rfl k)))) ?_
        show FinW p e below s _ _ _ (Ty270.setTop (mkF m 295 #[iv p1, iv p2, iv p3, .val (.long pd), .second, iv 1, iv 3, iv zc, rv by1, rv ay152, rv t2, u_, u_, iv 7, u_, u_] [(.int 8), (.ref by1)]))
        have ry271 := (((ry192.wr Wy194).wr Wy199).wr Wy270)
        have ry272 := (Sta_keep HS_java_lang_StringUTF16__assertionsDisabled Ky270)
        have ry273 := (Sta_keep HS_java_lang_StringUTF16_HI_BYTE_SHIFT Ky270)
        have ry274 := (Sta_keep HS_java_lang_StringUTF16_LO_BYTE_SHIFT Ky270)
        obtain ⟨_, Ty275, Lcy275, Xy275, hQy275, sty275⟩ := packS (Jvm.LawKit.callS Xy270 hx (y := n9) hown (mvT hZ (W_ hw 52)) (mvT hZ (W_ hw 53)) (mvT hZ (W_ hw 28)) (mvT hZ (W_ hw 54)) (by decide) (backOf (W := 0) (rmstU8 l Z a0 hw [] by1 ky1 _ wc 7 hy270 n0 Zy270 Vy270 ry271 ry272 ry273 ry274 (own_chset own_alc1 _ _) hwc (by decide) (own_hu Gz.2 (by decide) (Nat.le_of_lt (by decide)) own_als1) (own_hb Gz.2 (by decide) (by decide) hbg) (own_hr Gz.2 (by decide) (by decide) Gz.1)) hZ (W_ hw 54) (W_ hw 28) (by decide) (by decide)) (g := (mkF m 295 #[iv p1, iv p2, iv p3, .val (.long pd), .second, iv 1, iv 3, iv zc, rv by1, rv ay152, rv t2, u_, u_, iv 7, u_, u_] [(.int 8), (.ref by1)])) rfl (by rw [hml]; rfl) (argsL := [(.ref by1), (.int 8)]) (rest := []) (lenOf pd_23 rfl) rfl (lb rfl) (hb hby at_295) (fun _ _ => ⟨rfl, ey270, (by decide : 3 + 4 ≤ _), (by decide : 40 + 36 ≤ _)⟩))
        obtain ⟨nb_y275, kn_y275, lz_y275, by275, rfl, bzy275, bfy275_0, Nqy275, Kcy275, fy275_0, fy275_1, fy275_2, fy275_3, ney275_0⟩ := hQy275
        have Ny275 := Fr.app Ny270 Nqy275
        have gzy275 : n0 ≤ by275 := Nat.le_trans Zy270 bzy275
        have szy275 : h0.size ≤ by275 := Nat.le_trans Ky270.1 bzy275
        have gzy275_0 : n0 ≤ nb_y275 := Nat.le_trans Zy270 bfy275_0
        have szy275_0 : h0.size ≤ nb_y275 := Nat.le_trans Ky270.1 bfy275_0
        have Zy275 := Nat.le_trans Zy270 Kcy275.1
        have Ky275 := Ky270.trans Kcy275 all0
        refine FinW.step (sty275) ?_
        show FinW p e below s _ _ _ (Ty275.setTop (mkF m 298 #[iv p1, iv p2, iv p3, .val (.long pd), .second, iv 1, iv 3, iv zc, rv by1, rv ay152, rv t2, u_, u_, iv 7, u_, u_] [(.ref by275)]))
        refine FinW.step (fun _ k => Yo.astore Xy275.here hx (hb hby at_298) rfl rfl (l' := #[iv p1, iv p2, iv p3, .val (.long pd), .second, iv 1, iv 3, iv zc, rv by1, rv ay152, rv t2, rv by275, u_, iv 7, u_, u_]) rfl (Yo.aconstNull Xy275.here hx (hb hby at_300) (Yo.astore Xy275.here hx (hb hby at_301) rfl rfl (l' := #[iv p1, iv p2, iv p3, .val (.long pd), .second, iv 1, iv 3, iv zc, rv by1, rv ay152, rv t2, rv by275, .val .null, iv 7, u_, u_]) rfl (Yo.goto Xy275.here hx (pc0 := 303) (pc' := 468) rfl (hb hby at_303) (by decide) (by decide) (Yo.aload Xy275.here hx (hb hby at_468) rfl rfl k))))) ?_
        have ry276 := (Sta_keep HS_com_example_model_for_reads_modelforreads_model_FieldType__VALUES Ky275)
        have ry277 := (Sta_keep HS_java_util_Optional_EMPTY Ky275)
        have ry278 := (HF_t1_modelName.keep Ky275 nin0)
        have ry279 := (HF_t2_modelName.keep Ky275 nin0)
        have ry280 := (HF_t3_modelName.keep Ky275 nin0)
        have ney281 := nlt HE_s1.lt szy275
        have ney282 := nlt HE_s2.lt szy275
        have ney283 := nlt HE_s3.lt szy275
        obtain ⟨_, Ty284, Lcy284, Xy284, hQy284, sty284⟩ := packS (Jvm.LawKit.callS Xy275 hx (y := n16) hown (mvT hZ (W_ hw 76)) (mvT hZ (W_ hw 77)) (mvT hZ (W_ hw 11)) (mvT hZ (W_ hw 78)) (by decide) (backOf (W := 0) (rmfmU0 l Z a0 hw [] by275 av cv t1 t2 t3 eo wc s1 v1 k1 3 _ s2 v2 k2 7 _ s3 v3 k3 6 _ Ty275.heap n0 Zy275 ry276 ry277 (Sta_keepW ry271 Kcy275 all0) ry278 (HE_s1.keep Ky275) (HF_s1_coder.keep Ky275 nin0) (HF_s1_value.keep Ky275 nin0) (HV_v1.keep Ky275 nin0) ry279 (HE_s2.keep Ky275) (HF_s2_coder.keep Ky275 nin0) (HF_s2_value.keep Ky275 nin0) (HV_v2.keep Ky275 nin0) ry280 (HE_s3.keep Ky275) (HF_s3_coder.keep Ky275 nin0) (HF_s3_value.keep Ky275 nin0) (HV_v3.keep Ky275 nin0) fy275_0 fy275_1 ⟨Arr_keep hcv.1 Ky275, hcv.2.1.keep Ky275, hcv.2.2.1, hcv.2.2.2⟩ hwc ney281 ney282 ney283) hZ (W_ hw 78) (W_ hw 11) (by decide) (by decide)) (g := (mkF m 470 #[iv p1, iv p2, iv p3, .val (.long pd), .second, iv 1, iv 3, iv zc, rv by1, rv ay152, rv t2, rv by275, .val .null, iv 7, u_, u_] [(.ref by275)])) rfl (by rw [hml]; rfl) (argsL := [(.ref by275)]) (rest := []) (lenOf pd_24 rfl) rfl (lb rfl) (hb hby at_470) (fun _ _ => ⟨rfl, rfl, (by decide : 7 + 1 ≤ _), (by decide : 76 + 3 ≤ _)⟩))
        obtain ⟨rfl, Nqy284, Kcy284⟩ := hQy284
        have Ny284 := Fr.app Ny275 Nqy284
        have Zy284 := Nat.le_trans Zy275 Kcy284.1
        have Ky284 := Ky275.trans Kcy284 all0
        refine FinW.step (sty284) ?_
        show FinW p e below s _ _ _ (Ty284.setTop (mkF m 473 #[iv p1, iv p2, iv p3, .val (.long pd), .second, iv 1, iv 3, iv zc, rv by1, rv ay152, rv t2, rv by275, .val .null, iv 7, u_, u_] [(.ref eo)]))
        refine FinW.step (fun _ k => Yo.astore Xy284.here hx (hb hby at_473) rfl rfl (l' := #[iv p1, iv p2, iv p3, .val (.long pd), .second, iv 1, iv 3, iv zc, rv by1, rv ay152, rv t2, rv by275, .val .null, rv eo, u_, u_]) rfl (Yo.aload Xy284.here hx (hb hby at_475) rfl rfl (Yo.aconstNull Xy284.here hx (hb hby at_477) k))) ?_
        obtain ⟨cqy285, kqy285, qy285a, qy285b, qy285c⟩ := isOf hZ rfl (HE_eo.keep Ky284)
        obtain ⟨_, Ty285, Lcy285, Xy285, hQy285, sty285⟩ := pack (Xy284.virtualBack hx (y := n23) (z := n23) hown (mvT hZ (W_ hw 124)) (mvT hZ (W_ hw 125)) (notFace_of_selects (args := #[]) (mvT hZ (W_ hw 127))) (mvT hZ (W_ hw 127)) (mvT hZ (W_ hw 126)) (by decide) (backOf (W := 0) (rmor0 l Z a0 hw [] eo Ty284.heap n0 Zy284 (HF_eo_value.keep Ky284 nin0)) hZ (W_ hw 128) (W_ hw 109) (by decide) (by decide)) qy285a qy285c (g := (mkF m 478 #[iv p1, iv p2, iv p3, .val (.long pd), .second, iv 1, iv 3, iv zc, rv by1, rv ay152, rv t2, rv by275, .val .null, rv eo, u_, u_] [.null, (.ref eo)])) rfl (by rw [hml]; rfl) (Steps.refl _) (argsL := [.null]) (rest := []) (lenOf pd_16 rfl) rfl (lb rfl) (hb hby at_478) (fun _ _ => ⟨rfl, rfl, (by decide : 8 + 0 ≤ _), (by decide : 79 + 0 ≤ _)⟩))
        obtain ⟨rfl, Nqy285, eqy285⟩ := hQy285
        have Ny285 := Fr.app Ny284 Nqy285
        refine FinW.step (sty285) ?_
        show FinW p e below s _ _ _ (Ty285.setTop (mkF m 481 #[iv p1, iv p2, iv p3, .val (.long pd), .second, iv 1, iv 3, iv zc, rv by1, rv ay152, rv t2, rv by275, .val .null, rv eo, u_, u_] [.null]))
        refine FinW.step (fun _ k => Yo.aload Xy285.here hx (hb hby at_481) rfl rfl k) ?_
        refine FinW.step (fun _ => Jvm.RoadKit.acmp (g := (mkF m 483 #[iv p1, iv p2, iv p3, .val (.long pd), .second, iv 1, iv 3, iv zc, rv by1, rv ay152, rv t2, rv by275, .val .null, rv eo, u_, u_] [.null, .null])) Xy285 hx rfl rfl rfl (pc0 := 483) (pc' := 486) (same := true) rfl (hb hby at_483) rfl (decide_eq_true rfl) (by decide) (by decide)) ?_
        show FinW p e below s _ _ _ (Ty285.setTop (mkF m 486 #[iv p1, iv p2, iv p3, .val (.long pd), .second, iv 1, iv 3, iv zc, rv by1, rv ay152, rv t2, rv by275, .val .null, rv eo, u_, u_] []))
        refine FinW.step (fun _ k => Yo.iconst Xy285.here hx (hb hby at_486) (Yo.goto Xy285.here hx (pc0 := 487) (pc' := 491) rfl (hb hby at_487) (by decide) (by decide) k)) ?_
        have hky286 := (Nat.le_trans (Nat.le_trans (Nat.le_trans (Nat.le_trans (Nat.le_trans (Nat.le_trans (Nat.le_trans (Nat.le_trans (Nat.le_trans (Nat.le_trans (Nat.le_trans hky152 (Keep.of_wr Wy158).1) (Keep.of_wr Wy163).1) (Keep.of_wr Wy168).1) (Keep.of_wr Wy176).1) (Keep.of_wr Wy181).1) (Keep.of_wr Wy186).1) (Keep.of_wr Wy194).1) (Keep.of_wr Wy199).1) (Keep.of_wr Wy270).1) Kcy275.1) Kcy284.1)
        refine FinW.retN Xy285 hSy152 (by rw [eqy285]; exact hky286) hx (t := .boolean) hret (by simp) hlk (hb hby at_491) (by decide) (by decide) ?_
        show Q0 Z p1 p2 p3 pd wc fv eo av cv t1 t2 t3 s1 v1 k1 s2 v2 k2 s3 v3 k3 h0 n0 _ Ty285.heap _
        rw [eqy285]
        exact ⟨rfl, Ny285, Ky284⟩
      · show FinW p e below s _ _ _ (Ty199.setTop (mkF m 282 #[iv p1, iv p2, iv p3, .val (.long pd), .second, iv 1, iv 3, iv zc, rv by1, rv ay152, rv t2, u_, u_, iv 7, u_, u_] []))
        refine FinW.step (fun _ k => Yo.aload Xy199.here hx (hb hby at_282) rfl rfl (Yo.iload Xy199.here hx (hb hby at_284) rfl (Yo.iload Xy199.here hx (hb hby at_286) rfl k))) ?_
        obtain ⟨Ty287, hy287, Xy287, ey287, Wy287, Vy287, Ny287, Zy287, Ky287, sty287⟩ := cst3 Xy199 hx hZ ey199 (j := 7) (x := zc) (ix := 7) Vy200 ⟨by decide, by decide⟩ rfl (by decide) Ny199 Zy199 Ky199 gzy1 (Or.inr szy1) (hb hby at_288)
        refine FinW.step (sty287) ?_
        refine FinW.step (fun _ k => Yo.aload Xy287.here hx (hb hby at_289) rfl rfl (Yo.iload Xy287.here hx (hb hby at_291) rfl (Yo.iconst Xy287.here hx (hb hby at_293) (Yo.iadd Xy287.here hx (hb hby at_294) rfl k)))) ?_
        show FinW p e below s _ _ _ (Ty287.setTop (mkF m 295 #[iv p1, iv p2, iv p3, .val (.long pd), .second, iv 1, iv 3, iv zc, rv by1, rv ay152, rv t2, u_, u_, iv 7, u_, u_] [(.int 8), (.ref by1)]))
        have ry288 := (((ry192.wr Wy194).wr Wy199).wr Wy287)
        obtain ⟨_, Ty289, Lcy289, Xy289, hQy289, sty289⟩ := packS (Jvm.LawKit.callS Xy287 hx (y := n9) hown (mvT hZ (W_ hw 52)) (mvT hZ (W_ hw 53)) (mvT hZ (W_ hw 28)) (mvT hZ (W_ hw 54)) (by decide) (backOf (W := 0) (rmstL8 l Z a0 hw [] by1 ky1 _ wc hy287 n0 Zy287 Vy287 ry288 (own_chset own_alc1 _ _) hwc (own_hl Gz.2 (by decide) hbg own_als1)) hZ (W_ hw 54) (W_ hw 28) (by decide) (by decide)) (g := (mkF m 295 #[iv p1, iv p2, iv p3, .val (.long pd), .second, iv 1, iv 3, iv zc, rv by1, rv ay152, rv t2, u_, u_, iv 7, u_, u_] [(.int 8), (.ref by1)])) rfl (by rw [hml]; rfl) (argsL := [(.ref by1), (.int 8)]) (rest := []) (lenOf pd_23 rfl) rfl (lb rfl) (hb hby at_295) (fun _ _ => ⟨rfl, ey287, (by decide : 3 + 3 ≤ _), (by decide : 40 + 20 ≤ _)⟩))
        obtain ⟨nb_y289, kn_y289, by289, rfl, bzy289, bfy289_0, Nqy289, Kcy289, fy289_0, fy289_1, fy289_2, fy289_3, ney289_0⟩ := hQy289
        have Ny289 := Fr.app Ny287 Nqy289
        have gzy289 : n0 ≤ by289 := Nat.le_trans Zy287 bzy289
        have szy289 : h0.size ≤ by289 := Nat.le_trans Ky287.1 bzy289
        have gzy289_0 : n0 ≤ nb_y289 := Nat.le_trans Zy287 bfy289_0
        have szy289_0 : h0.size ≤ nb_y289 := Nat.le_trans Ky287.1 bfy289_0
        have Zy289 := Nat.le_trans Zy287 Kcy289.1
        have Ky289 := Ky287.trans Kcy289 all0
        refine FinW.step (sty289) ?_
        show FinW p e below s _ _ _ (Ty289.setTop (mkF m 298 #[iv p1, iv p2, iv p3, .val (.long pd), .second, iv 1, iv 3, iv zc, rv by1, rv ay152, rv t2, u_, u_, iv 7, u_, u_] [(.ref by289)]))
        refine FinW.step (fun _ k => Yo.astore Xy289.here hx (hb hby at_298) rfl rfl (l' := #[iv p1, iv p2, iv p3, .val (.long pd), .second, iv 1, iv 3, iv zc, rv by1, rv ay152, rv t2, rv by289, u_, iv 7, u_, u_]) rfl (Yo.aconstNull Xy289.here hx (hb hby at_300) (Yo.astore Xy289.here hx (hb hby at_301) rfl rfl (l' := #[iv p1, iv p2, iv p3, .val (.long pd), .second, iv 1, iv 3, iv zc, rv by1, rv ay152, rv t2, rv by289, .val .null, iv 7, u_, u_]) rfl (Yo.goto Xy289.here hx (pc0 := 303) (pc' := 468) rfl (hb hby at_303) (by decide) (by decide) (Yo.aload Xy289.here hx (hb hby at_468) rfl rfl k))))) ?_
        have ry290 := (Sta_keep HS_com_example_model_for_reads_modelforreads_model_FieldType__VALUES Ky289)
        have ry291 := (Sta_keep HS_java_util_Optional_EMPTY Ky289)
        have ry292 := (HF_t1_modelName.keep Ky289 nin0)
        have ry293 := (HF_t2_modelName.keep Ky289 nin0)
        have ry294 := (HF_t3_modelName.keep Ky289 nin0)
        have ney295 := nlt HE_s1.lt szy289
        have ney296 := nlt HE_s2.lt szy289
        have ney297 := nlt HE_s3.lt szy289
        obtain ⟨_, Ty298, Lcy298, Xy298, hQy298, sty298⟩ := packS (Jvm.LawKit.callS Xy289 hx (y := n16) hown (mvT hZ (W_ hw 76)) (mvT hZ (W_ hw 77)) (mvT hZ (W_ hw 11)) (mvT hZ (W_ hw 78)) (by decide) (backOf (W := 0) (rmfmL0 l Z a0 hw [] by289 av cv t1 t2 t3 eo wc s1 v1 k1 3 _ s2 v2 k2 7 _ s3 v3 k3 6 _ nb_y289 kn_y289 8 _ Ty289.heap n0 Zy289 ry290 ry291 (Sta_keepW ry288 Kcy289 all0) ry292 (HE_s1.keep Ky289) (HF_s1_coder.keep Ky289 nin0) (HF_s1_value.keep Ky289 nin0) (HV_v1.keep Ky289 nin0) ry293 (HE_s2.keep Ky289) (HF_s2_coder.keep Ky289 nin0) (HF_s2_value.keep Ky289 nin0) (HV_v2.keep Ky289 nin0) ry294 (HE_s3.keep Ky289) (HF_s3_coder.keep Ky289 nin0) (HF_s3_value.keep Ky289 nin0) (HV_v3.keep Ky289 nin0) fy289_0 fy289_1 fy289_2 fy289_3 ⟨Arr_keep hcv.1 Ky289, hcv.2.1.keep Ky289, hcv.2.2.1, hcv.2.2.2⟩ hwc (own_wlc _ _ _) (by decide) (by decide) (by decide) own_nlc0 own_nlc1 own_nlc2 (own_eqb0 (by decide)) (own_eqb0 (by decide)) (own_eqb0 (by decide)) ney295 ney296 ney297) hZ (W_ hw 78) (W_ hw 11) (by decide) (by decide)) (g := (mkF m 470 #[iv p1, iv p2, iv p3, .val (.long pd), .second, iv 1, iv 3, iv zc, rv by1, rv ay152, rv t2, rv by289, .val .null, iv 7, u_, u_] [(.ref by289)])) rfl (by rw [hml]; rfl) (argsL := [(.ref by289)]) (rest := []) (lenOf pd_24 rfl) rfl (lb rfl) (hb hby at_470) (fun _ _ => ⟨rfl, rfl, (by decide : 6 + 1 ≤ _), (by decide : 60 + 3 ≤ _)⟩))
        obtain ⟨rfl, Nqy298, Kcy298⟩ := hQy298
        have Ny298 := Fr.app Ny289 Nqy298
        have Zy298 := Nat.le_trans Zy289 Kcy298.1
        have Ky298 := Ky289.trans Kcy298 all0
        refine FinW.step (sty298) ?_
        show FinW p e below s _ _ _ (Ty298.setTop (mkF m 473 #[iv p1, iv p2, iv p3, .val (.long pd), .second, iv 1, iv 3, iv zc, rv by1, rv ay152, rv t2, rv by289, .val .null, iv 7, u_, u_] [(.ref eo)]))
        refine FinW.step (fun _ k => Yo.astore Xy298.here hx (hb hby at_473) rfl rfl (l' := #[iv p1, iv p2, iv p3, .val (.long pd), .second, iv 1, iv 3, iv zc, rv by1, rv ay152, rv t2, rv by289, .val .null, rv eo, u_, u_]) rfl (Yo.aload Xy298.here hx (hb hby at_475) rfl rfl (Yo.aconstNull Xy298.here hx (hb hby at_477) k))) ?_
        obtain ⟨cqy299, kqy299, qy299a, qy299b, qy299c⟩ := isOf hZ rfl (HE_eo.keep Ky298)
        obtain ⟨_, Ty299, Lcy299, Xy299, hQy299, sty299⟩ := pack (Xy298.virtualBack hx (y := n23) (z := n23) hown (mvT hZ (W_ hw 124)) (mvT hZ (W_ hw 125)) (notFace_of_selects (args := #[]) (mvT hZ (W_ hw 127))) (mvT hZ (W_ hw 127)) (mvT hZ (W_ hw 126)) (by decide) (backOf (W := 0) (rmor0 l Z a0 hw [] eo Ty298.heap n0 Zy298 (HF_eo_value.keep Ky298 nin0)) hZ (W_ hw 128) (W_ hw 109) (by decide) (by decide)) qy299a qy299c (g := (mkF m 478 #[iv p1, iv p2, iv p3, .val (.long pd), .second, iv 1, iv 3, iv zc, rv by1, rv ay152, rv t2, rv by289, .val .null, rv eo, u_, u_] [.null, (.ref eo)])) rfl (by rw [hml]; rfl) (Steps.refl _) (argsL := [.null]) (rest := []) (lenOf pd_16 rfl) rfl (lb rfl) (hb hby at_478) (fun _ _ => ⟨rfl, rfl, (by decide : 7 + 0 ≤ _), (by decide : 63 + 0 ≤ _)⟩))
        obtain ⟨rfl, Nqy299, eqy299⟩ := hQy299
        have Ny299 := Fr.app Ny298 Nqy299
        refine FinW.step (sty299) ?_
        show FinW p e below s _ _ _ (Ty299.setTop (mkF m 481 #[iv p1, iv p2, iv p3, .val (.long pd), .second, iv 1, iv 3, iv zc, rv by1, rv ay152, rv t2, rv by289, .val .null, rv eo, u_, u_] [.null]))
        refine FinW.step (fun _ k => Yo.aload Xy299.here hx (hb hby at_481) rfl rfl k) ?_
        refine FinW.step (fun _ => Jvm.RoadKit.acmp (g := (mkF m 483 #[iv p1, iv p2, iv p3, .val (.long pd), .second, iv 1, iv 3, iv zc, rv by1, rv ay152, rv t2, rv by289, .val .null, rv eo, u_, u_] [.null, .null])) Xy299 hx rfl rfl rfl (pc0 := 483) (pc' := 486) (same := true) rfl (hb hby at_483) rfl (decide_eq_true rfl) (by decide) (by decide)) ?_
        show FinW p e below s _ _ _ (Ty299.setTop (mkF m 486 #[iv p1, iv p2, iv p3, .val (.long pd), .second, iv 1, iv 3, iv zc, rv by1, rv ay152, rv t2, rv by289, .val .null, rv eo, u_, u_] []))
        refine FinW.step (fun _ k => Yo.iconst Xy299.here hx (hb hby at_486) (Yo.goto Xy299.here hx (pc0 := 487) (pc' := 491) rfl (hb hby at_487) (by decide) (by decide) k)) ?_
        have hky300 := (Nat.le_trans (Nat.le_trans (Nat.le_trans (Nat.le_trans (Nat.le_trans (Nat.le_trans (Nat.le_trans (Nat.le_trans (Nat.le_trans (Nat.le_trans (Nat.le_trans hky152 (Keep.of_wr Wy158).1) (Keep.of_wr Wy163).1) (Keep.of_wr Wy168).1) (Keep.of_wr Wy176).1) (Keep.of_wr Wy181).1) (Keep.of_wr Wy186).1) (Keep.of_wr Wy194).1) (Keep.of_wr Wy199).1) (Keep.of_wr Wy287).1) Kcy289.1) Kcy298.1)
        refine FinW.retN Xy299 hSy152 (by rw [eqy299]; exact hky300) hx (t := .boolean) hret (by simp) hlk (hb hby at_491) (by decide) (by decide) ?_
        show Q0 Z p1 p2 p3 pd wc fv eo av cv t1 t2 t3 s1 v1 k1 s2 v2 k2 s3 v3 k3 h0 n0 _ Ty299.heap _
        rw [eqy299]
        exact ⟨rfl, Ny299, Ky298⟩
  · show FinW p e below s _ _ _ (Ty1.setTop (mkF m 25 #[iv p1, iv p2, iv p3, .val (.long pd), .second, iv 2, iv zo, iv zc, rv by1, u_, u_, u_, u_, u_, u_, u_] []))
    refine FinW.step (fun _ k => Yo.iload Xy1.here hx (hb hby at_25) rfl (Yo.ifYes Xy1.here hx (pc0 := 27) (pc' := 42) rfl (hb hby at_27) rfl ((if0 _ _).trans (feq ((by decide) : ¬ ((2 : Int32) = (0 : Int32)))).2) (by decide) (by decide) (Yo.iload Xy1.here hx (hb hby at_42) rfl (Yo.iconst Xy1.here hx (hb hby at_44) (Yo.icmpYes Xy1.here hx (pc0 := 45) (pc' := 60) rfl (hb hby at_45) rfl (feq ((by decide) : ¬ ((2 : Int32) = (1 : Int32)))).2 (by decide) (by decide) (Yo.iload Xy1.here hx (hb hby at_60) rfl (Yo.iconst Xy1.here hx (hb hby at_62) (Yo.icmpNo Xy1.here hx (hb hby at_63) rfl (teq ((by decide) : ((2 : Int32) = (2 : Int32)))).2 k)))))))) ?_
    have hky301 := (Nat.le_trans (Nat.zero_le _) Ey1.1)
    obtain ⟨ay302, Ty302, hy302, k1y302, by302, kby302, Xy302, ey302, Ey302, hSy302, hky302, hZ, hown, Ay302, Fcy302, Fvy302, Vy302, -, -, CHcy302, -, nly302, sty302⟩ := ldcCH (s := s) (vm0 := s.vm) Xy1 hx hZ hown (W_ hw 134) wS ey1 ((State.WarmedH.refl s).since 0) hky301 hEL (List.mem_of_getElem? (i := 2) rfl) CHy1.1 (vs := [(.int 115), (.int 116), (.int 114), (.int 105), (.int 110), (.int 103)]) (z := (6 : Int32)) ⟨by decide, by rfl⟩ (by decide) (by decide) (g := (mkF m 66 #[iv p1, iv p2, iv p3, .val (.long pd), .second, iv 2, iv zo, iv zc, rv by1, u_, u_, u_, u_, u_, u_, u_] [])) rfl (hb hby at_66) (n := 24) (by decide) (by decide) (by decide) (by decide)
    have sfby1_y302 := CHcy302.safe Vy1.lt sfby1_y2
    have nlby1_y302 := nly302 by1 sfby1_y302
    have CHy302 := CHy1.trans CHcy302
    have Zy302 := Nat.le_trans Zy1 Ey302.1
    have Ky302 := Ky1.ext Ey302
    refine FinW.step (sty302) ?_
    show FinW p e below s _ _ _ (Ty302.setTop (mkF m 68 #[iv p1, iv p2, iv p3, .val (.long pd), .second, iv 2, iv zo, iv zc, rv by1, u_, u_, u_, u_, u_, u_, u_] [(.ref ay302)]))
    refine FinW.step (fun _ k => Yo.astore Xy302.here hx (hb hby at_68) rfl rfl (l' := #[iv p1, iv p2, iv p3, .val (.long pd), .second, iv 2, iv zo, iv zc, rv by1, rv ay302, u_, u_, u_, u_, u_, u_]) rfl k) ?_
    obtain ⟨Ty303, Xy303, ey303, sty303⟩ := getS2 Xy302 hx hZ hown (host := "") (Or.inl (W_ hw 135)) Via.refl ey302 (Sta_keep HS_com_example_model_for_reads_modelforreads_model_FieldType_STRING Ky302) (g := (mkF m 70 #[iv p1, iv p2, iv p3, .val (.long pd), .second, iv 2, iv zo, iv zc, rv by1, rv ay302, u_, u_, u_, u_, u_, u_] [])) rfl (hb hby at_70)
    refine FinW.step (sty303) ?_
    show FinW p e below s _ _ _ (Ty303.setTop (mkF m 73 #[iv p1, iv p2, iv p3, .val (.long pd), .second, iv 2, iv zo, iv zc, rv by1, rv ay302, u_, u_, u_, u_, u_, u_] [(.ref t3)]))
    refine FinW.step (fun _ k => Yo.astore Xy303.here hx (hb hby at_73) rfl rfl (l' := #[iv p1, iv p2, iv p3, .val (.long pd), .second, iv 2, iv zo, iv zc, rv by1, rv ay302, rv t3, u_, u_, u_, u_, u_]) rfl (Yo.goto Xy303.here hx (pc0 := 75) (pc' := 85) rfl (hb hby at_75) (by decide) (by decide) (Yo.iload Xy303.here hx (hb hby at_85) rfl (Yo.iconst Xy303.here hx (hb hby at_87) (Yo.icmpNo Xy303.here hx (hb hby at_88) rfl (tlt ((by decide) : ((2 : Int32) < (3 : Int32)))).2.1 (Yo.aload Xy303.here hx (hb hby at_91) rfl rfl k)))))) ?_
    have ry304 := (Sta_keep HS_java_lang_String_COMPACT_STRINGS Ky302)
    obtain ⟨cqy305, kqy305, qy305a, qy305b, qy305c⟩ := isOf hZ ey303 Ay302
    obtain ⟨_, Ty305, Lcy305, Xy305, hQy305, sty305⟩ := pack (Xy303.virtualBack hx (y := n1) (z := n1) hown (mvT hZ (W_ hw 13)) (mvT hZ (W_ hw 14)) (notFace_of_selects (args := #[]) (mvT hZ (W_ hw 16))) (mvT hZ (W_ hw 16)) (mvT hZ (W_ hw 15)) (by decide) (backOf (W := 0) (rmsl l Z a0 hw [] ay302 by302 kby302 6 _ wc hy302 n0 Zy302 Ay302 Fcy302 Fvy302 Vy302 ry304 hwc) hZ (W_ hw 17) (W_ hw 3) (by decide) (by decide)) qy305a qy305c (g := (mkF m 93 #[iv p1, iv p2, iv p3, .val (.long pd), .second, iv 2, iv zo, iv zc, rv by1, rv ay302, rv t3, u_, u_, u_, u_, u_] [(.ref ay302)])) rfl (by rw [hml]; rfl) (Steps.refl _) (argsL := []) (rest := []) (lenOf pd_14 rfl) rfl (lb rfl) (hb hby at_93) (fun _ _ => ⟨rfl, ey303, (by decide : 3 + 0 ≤ _), (by decide : 36 + 0 ≤ _)⟩))
    obtain ⟨rfl, Nqy305, eqy305⟩ := hQy305
    have Ny305 := Fr.app N0 Nqy305
    refine FinW.step (sty305) ?_
    show FinW p e below s _ _ _ (Ty305.setTop (mkF m 96 #[iv p1, iv p2, iv p3, .val (.long pd), .second, iv 2, iv zo, iv zc, rv by1, rv ay302, rv t3, u_, u_, u_, u_, u_] [(.int 6)]))
    refine FinW.step (fun _ k => Yo.istore Xy305.here hx (hb hby at_96) rfl (l' := #[iv p1, iv p2, iv p3, .val (.long pd), .second, iv 2, iv zo, iv zc, rv by1, rv ay302, rv t3, u_, u_, iv 6, u_, u_]) rfl (Yo.aload Xy305.here hx (hb hby at_98) rfl rfl (Yo.iconst Xy305.here hx (hb hby at_100) (Yo.aload Xy305.here hx (hb hby at_101) rfl rfl (Yo.iconst Xy305.here hx (hb hby at_103) k))))) ?_
    have ry306 := (Sta_keep HS_jdk_internal_util_Preconditions_SIOOBE_FORMATTER Ky302)
    obtain ⟨_, Ty307, Lcy307, Xy307, hQy307, sty307⟩ := packS (Jvm.LawKit.callS Xy305 hx (y := n3) hown (mvT hZ (W_ hw 26)) (mvT hZ (W_ hw 27)) (mvT hZ (W_ hw 28)) (mvT hZ (W_ hw 29)) (by decide) (backOf (W := 2) (rmat1 l Z a0 hw [] ay302 0 by302 kby302 6 _ fv wc 115 115 hy302 n0 Zy302 Ay302 Fcy302 Fvy302 Vy302 ry306 ry304 hfv hwc (by decide) rfl (by decide)) hZ (W_ hw 29) (W_ hw 28) (by decide) (by decide)) (g := (mkF m 104 #[iv p1, iv p2, iv p3, .val (.long pd), .second, iv 2, iv zo, iv zc, rv by1, rv ay302, rv t3, u_, u_, iv 6, u_, u_] [(.int 0), (.ref ay302), (.int 0), (.ref by1)])) rfl (by rw [hml]; rfl) (argsL := [(.ref ay302), (.int 0)]) (rest := [(.int 0), (.ref by1)]) (lenOf pd_22 rfl) rfl (lb rfl) (hb hby at_104) (fun _ _ => ⟨rfl, eqy305, (by decide : 3 + 0 ≤ _), (by decide : 36 + 0 ≤ _)⟩))
    obtain ⟨rfl, Nqy307, eqy307⟩ := hQy307
    have Ny307 := Fr.app Ny305 Nqy307
    refine FinW.step (sty307) ?_
    show FinW p e below s _ _ _ (Ty307.setTop (mkF m 107 #[iv p1, iv p2, iv p3, .val (.long pd), .second, iv 2, iv zo, iv zc, rv by1, rv ay302, rv t3, u_, u_, iv 6, u_, u_] [(.int 115), (.int 0), (.ref by1)]))
    obtain ⟨Ty308, hy308, Xy308, ey308, Wy308, Vy308, Ny308, Zy308, Ky308, sty308⟩ := cst3 Xy307 hx hZ eqy307 (j := 0) (x := 115) (ix := 0) (Vy1.ext Ey302) ⟨by decide, by decide⟩ rfl (lb rfl) Ny307 Zy302 Ky302 gzy1 (Or.inr szy1) (hb hby at_107)
    refine FinW.step (sty308) ?_
    refine FinW.step (fun _ k => Yo.aload Xy308.here hx (hb hby at_108) rfl rfl (Yo.iconst Xy308.here hx (hb hby at_110) (Yo.aload Xy308.here hx (hb hby at_111) rfl rfl (Yo.iconst Xy308.here hx (hb hby at_113) k)))) ?_
    have ry309 := (Fcy302.other Wy308 (Or.inl (Ne.symm nlby1_y302.1)))
    have ry310 := (Fvy302.other Wy308 (Or.inl (Ne.symm nlby1_y302.1)))
    have ry311 := (Vy302.other Wy308 (Ne.symm nlby1_y302.2))
    obtain ⟨_, Ty312, Lcy312, Xy312, hQy312, sty312⟩ := packS (Jvm.LawKit.callS Xy308 hx (y := n3) hown (mvT hZ (W_ hw 26)) (mvT hZ (W_ hw 27)) (mvT hZ (W_ hw 28)) (mvT hZ (W_ hw 29)) (by decide) (backOf (W := 2) (rmat1 l Z a0 hw [] ay302 1 by302 kby302 6 _ fv wc 116 116 hy308 n0 Zy308 (Ay302.wr Wy308) ry309 ry310 ry311 (ry306.wr Wy308) (ry304.wr Wy308) hfv hwc (by decide) rfl (by decide)) hZ (W_ hw 29) (W_ hw 28) (by decide) (by decide)) (g := (mkF m 114 #[iv p1, iv p2, iv p3, .val (.long pd), .second, iv 2, iv zo, iv zc, rv by1, rv ay302, rv t3, u_, u_, iv 6, u_, u_] [(.int 1), (.ref ay302), (.int 1), (.ref by1)])) rfl (by rw [hml]; rfl) (argsL := [(.ref ay302), (.int 1)]) (rest := [(.int 1), (.ref by1)]) (lenOf pd_22 rfl) rfl (lb rfl) (hb hby at_114) (fun _ _ => ⟨rfl, ey308, (by decide : 3 + 0 ≤ _), (by decide : 36 + 0 ≤ _)⟩))
    obtain ⟨rfl, Nqy312, eqy312⟩ := hQy312
    have Ny312 := Fr.app Ny308 Nqy312
    refine FinW.step (sty312) ?_
    show FinW p e below s _ _ _ (Ty312.setTop (mkF m 117 #[iv p1, iv p2, iv p3, .val (.long pd), .second, iv 2, iv zo, iv zc, rv by1, rv ay302, rv t3, u_, u_, iv 6, u_, u_] [(.int 116), (.int 1), (.ref by1)]))
    obtain ⟨Ty313, hy313, Xy313, ey313, Wy313, Vy313, Ny313, Zy313, Ky313, sty313⟩ := cst3 Xy312 hx hZ eqy312 (j := 1) (x := 116) (ix := 1) Vy308 ⟨by decide, by decide⟩ rfl (lb rfl) Ny312 Zy308 Ky308 gzy1 (Or.inr szy1) (hb hby at_117)
    refine FinW.step (sty313) ?_
    refine FinW.step (fun _ k => Yo.aload Xy313.here hx (hb hby at_118) rfl rfl (Yo.iconst Xy313.here hx (hb hby at_120) (Yo.aload Xy313.here hx (hb hby at_121) rfl rfl (Yo.iconst Xy313.here hx (hb hby at_123) k)))) ?_
    have ry314 := (ry309.other Wy313 (Or.inl (Ne.symm nlby1_y302.1)))
    have ry315 := (ry310.other Wy313 (Or.inl (Ne.symm nlby1_y302.1)))
    have ry316 := (ry311.other Wy313 (Ne.symm nlby1_y302.2))
    obtain ⟨_, Ty317, Lcy317, Xy317, hQy317, sty317⟩ := packS (Jvm.LawKit.callS Xy313 hx (y := n3) hown (mvT hZ (W_ hw 26)) (mvT hZ (W_ hw 27)) (mvT hZ (W_ hw 28)) (mvT hZ (W_ hw 29)) (by decide) (backOf (W := 2) (rmat1 l Z a0 hw [] ay302 2 by302 kby302 6 _ fv wc 114 114 hy313 n0 Zy313 ((Ay302.wr Wy308).wr Wy313) ry314 ry315 ry316 ((ry306.wr Wy308).wr Wy313) ((ry304.wr Wy308).wr Wy313) hfv hwc (by decide) rfl (by decide)) hZ (W_ hw 29) (W_ hw 28) (by decide) (by decide)) (g := (mkF m 124 #[iv p1, iv p2, iv p3, .val (.long pd), .second, iv 2, iv zo, iv zc, rv by1, rv ay302, rv t3, u_, u_, iv 6, u_, u_] [(.int 2), (.ref ay302), (.int 2), (.ref by1)])) rfl (by rw [hml]; rfl) (argsL := [(.ref ay302), (.int 2)]) (rest := [(.int 2), (.ref by1)]) (lenOf pd_22 rfl) rfl (lb rfl) (hb hby at_124) (fun _ _ => ⟨rfl, ey313, (by decide : 3 + 0 ≤ _), (by decide : 36 + 0 ≤ _)⟩))
    obtain ⟨rfl, Nqy317, eqy317⟩ := hQy317
    have Ny317 := Fr.app Ny313 Nqy317
    refine FinW.step (sty317) ?_
    show FinW p e below s _ _ _ (Ty317.setTop (mkF m 127 #[iv p1, iv p2, iv p3, .val (.long pd), .second, iv 2, iv zo, iv zc, rv by1, rv ay302, rv t3, u_, u_, iv 6, u_, u_] [(.int 114), (.int 2), (.ref by1)]))
    obtain ⟨Ty318, hy318, Xy318, ey318, Wy318, Vy318, Ny318, Zy318, Ky318, sty318⟩ := cst3 Xy317 hx hZ eqy317 (j := 2) (x := 114) (ix := 2) Vy313 ⟨by decide, by decide⟩ rfl (lb rfl) Ny317 Zy313 Ky313 gzy1 (Or.inr szy1) (hb hby at_127)
    refine FinW.step (sty318) ?_
    refine FinW.step (fun _ k => Yo.aload Xy318.here hx (hb hby at_128) rfl rfl (Yo.iconst Xy318.here hx (hb hby at_130) (Yo.aload Xy318.here hx (hb hby at_131) rfl rfl (Yo.iconst Xy318.here hx (hb hby at_133) k)))) ?_
    have ry319 := (((Ay302.wr Wy308).wr Wy313).wr Wy318)
    have ry320 := (ry314.other Wy318 (Or.inl (Ne.symm nlby1_y302.1)))
    have ry321 := (ry315.other Wy318 (Or.inl (Ne.symm nlby1_y302.1)))
    have ry322 := (ry316.other Wy318 (Ne.symm nlby1_y302.2))
    have ry323 := (((ry306.wr Wy308).wr Wy313).wr Wy318)
    have ry324 := (((ry304.wr Wy308).wr Wy313).wr Wy318)
    obtain ⟨_, Ty325, Lcy325, Xy325, hQy325, sty325⟩ := packS (Jvm.LawKit.callS Xy318 hx (y := n3) hown (mvT hZ (W_ hw 26)) (mvT hZ (W_ hw 27)) (mvT hZ (W_ hw 28)) (mvT hZ (W_ hw 29)) (by decide) (backOf (W := 2) (rmat1 l Z a0 hw [] ay302 3 by302 kby302 6 _ fv wc 105 105 hy318 n0 Zy318 ry319 ry320 ry321 ry322 ry323 ry324 hfv hwc (by decide) rfl (by decide)) hZ (W_ hw 29) (W_ hw 28) (by decide) (by decide)) (g := (mkF m 134 #[iv p1, iv p2, iv p3, .val (.long pd), .second, iv 2, iv zo, iv zc, rv by1, rv ay302, rv t3, u_, u_, iv 6, u_, u_] [(.int 3), (.ref ay302), (.int 3), (.ref by1)])) rfl (by rw [hml]; rfl) (argsL := [(.ref ay302), (.int 3)]) (rest := [(.int 3), (.ref by1)]) (lenOf pd_22 rfl) rfl (lb rfl) (hb hby at_134) (fun _ _ => ⟨rfl, ey318, (by decide : 3 + 0 ≤ _), (by decide : 36 + 0 ≤ _)⟩))
    obtain ⟨rfl, Nqy325, eqy325⟩ := hQy325
    have Ny325 := Fr.app Ny318 Nqy325
    refine FinW.step (sty325) ?_
    show FinW p e below s _ _ _ (Ty325.setTop (mkF m 137 #[iv p1, iv p2, iv p3, .val (.long pd), .second, iv 2, iv zo, iv zc, rv by1, rv ay302, rv t3, u_, u_, iv 6, u_, u_] [(.int 105), (.int 3), (.ref by1)]))
    obtain ⟨Ty326, hy326, Xy326, ey326, Wy326, Vy326, Ny326, Zy326, Ky326, sty326⟩ := cst3 Xy325 hx hZ eqy325 (j := 3) (x := 105) (ix := 3) Vy318 ⟨by decide, by decide⟩ rfl (lb rfl) Ny325 Zy318 Ky318 gzy1 (Or.inr szy1) (hb hby at_137)
    refine FinW.step (sty326) ?_
    refine FinW.step (fun _ k => Yo.aload Xy326.here hx (hb hby at_138) rfl rfl (Yo.iconst Xy326.here hx (hb hby at_140) (Yo.aload Xy326.here hx (hb hby at_141) rfl rfl (Yo.iconst Xy326.here hx (hb hby at_143) k)))) ?_
    have ry327 := (ry320.other Wy326 (Or.inl (Ne.symm nlby1_y302.1)))
    have ry328 := (ry321.other Wy326 (Or.inl (Ne.symm nlby1_y302.1)))
    have ry329 := (ry322.other Wy326 (Ne.symm nlby1_y302.2))
    obtain ⟨_, Ty330, Lcy330, Xy330, hQy330, sty330⟩ := packS (Jvm.LawKit.callS Xy326 hx (y := n3) hown (mvT hZ (W_ hw 26)) (mvT hZ (W_ hw 27)) (mvT hZ (W_ hw 28)) (mvT hZ (W_ hw 29)) (by decide) (backOf (W := 2) (rmat1 l Z a0 hw [] ay302 4 by302 kby302 6 _ fv wc 110 110 hy326 n0 Zy326 (ry319.wr Wy326) ry327 ry328 ry329 (ry323.wr Wy326) (ry324.wr Wy326) hfv hwc (by decide) rfl (by decide)) hZ (W_ hw 29) (W_ hw 28) (by decide) (by decide)) (g := (mkF m 144 #[iv p1, iv p2, iv p3, .val (.long pd), .second, iv 2, iv zo, iv zc, rv by1, rv ay302, rv t3, u_, u_, iv 6, u_, u_] [(.int 4), (.ref ay302), (.int 4), (.ref by1)])) rfl (by rw [hml]; rfl) (argsL := [(.ref ay302), (.int 4)]) (rest := [(.int 4), (.ref by1)]) (lenOf pd_22 rfl) rfl (lb rfl) (hb hby at_144) (fun _ _ => ⟨rfl, ey326, (by decide : 3 + 0 ≤ _), (by decide : 36 + 0 ≤ _)⟩))
    obtain ⟨rfl, Nqy330, eqy330⟩ := hQy330
    have Ny330 := Fr.app Ny326 Nqy330
    refine FinW.step (sty330) ?_
    show FinW p e below s _ _ _ (Ty330.setTop (mkF m 147 #[iv p1, iv p2, iv p3, .val (.long pd), .second, iv 2, iv zo, iv zc, rv by1, rv ay302, rv t3, u_, u_, iv 6, u_, u_] [(.int 110), (.int 4), (.ref by1)]))
    obtain ⟨Ty331, hy331, Xy331, ey331, Wy331, Vy331, Ny331, Zy331, Ky331, sty331⟩ := cst3 Xy330 hx hZ eqy330 (j := 4) (x := 110) (ix := 4) Vy326 ⟨by decide, by decide⟩ rfl (lb rfl) Ny330 Zy326 Ky326 gzy1 (Or.inr szy1) (hb hby at_147)
    refine FinW.step (sty331) ?_
    refine FinW.step (fun _ k => Yo.aload Xy331.here hx (hb hby at_148) rfl rfl (Yo.iconst Xy331.here hx (hb hby at_150) (Yo.aload Xy331.here hx (hb hby at_151) rfl rfl (Yo.iconst Xy331.here hx (hb hby at_153) k)))) ?_
    have ry332 := (ry327.other Wy331 (Or.inl (Ne.symm nlby1_y302.1)))
    have ry333 := (ry328.other Wy331 (Or.inl (Ne.symm nlby1_y302.1)))
    have ry334 := (ry329.other Wy331 (Ne.symm nlby1_y302.2))
    obtain ⟨_, Ty335, Lcy335, Xy335, hQy335, sty335⟩ := packS (Jvm.LawKit.callS Xy331 hx (y := n3) hown (mvT hZ (W_ hw 26)) (mvT hZ (W_ hw 27)) (mvT hZ (W_ hw 28)) (mvT hZ (W_ hw 29)) (by decide) (backOf (W := 2) (rmat1 l Z a0 hw [] ay302 5 by302 kby302 6 _ fv wc 103 103 hy331 n0 Zy331 ((ry319.wr Wy326).wr Wy331) ry332 ry333 ry334 ((ry323.wr Wy326).wr Wy331) ((ry324.wr Wy326).wr Wy331) hfv hwc (by decide) rfl (by decide)) hZ (W_ hw 29) (W_ hw 28) (by decide) (by decide)) (g := (mkF m 154 #[iv p1, iv p2, iv p3, .val (.long pd), .second, iv 2, iv zo, iv zc, rv by1, rv ay302, rv t3, u_, u_, iv 6, u_, u_] [(.int 5), (.ref ay302), (.int 5), (.ref by1)])) rfl (by rw [hml]; rfl) (argsL := [(.ref ay302), (.int 5)]) (rest := [(.int 5), (.ref by1)]) (lenOf pd_22 rfl) rfl (lb rfl) (hb hby at_154) (fun _ _ => ⟨rfl, ey331, (by decide : 3 + 0 ≤ _), (by decide : 36 + 0 ≤ _)⟩))
    obtain ⟨rfl, Nqy335, eqy335⟩ := hQy335
    have Ny335 := Fr.app Ny331 Nqy335
    refine FinW.step (sty335) ?_
    show FinW p e below s _ _ _ (Ty335.setTop (mkF m 157 #[iv p1, iv p2, iv p3, .val (.long pd), .second, iv 2, iv zo, iv zc, rv by1, rv ay302, rv t3, u_, u_, iv 6, u_, u_] [(.int 103), (.int 5), (.ref by1)]))
    obtain ⟨Ty336, hy336, Xy336, ey336, Wy336, Vy336, Ny336, Zy336, Ky336, sty336⟩ := cst3 Xy335 hx hZ eqy335 (j := 5) (x := 103) (ix := 5) Vy331 ⟨by decide, by decide⟩ rfl (lb rfl) Ny335 Zy331 Ky331 gzy1 (Or.inr szy1) (hb hby at_157)
    refine FinW.step (sty336) ?_
    refine FinW.step (fun _ k => Yo.aload Xy336.here hx (hb hby at_158) rfl rfl (Yo.bipush Xy336.here hx (hb hby at_160) (Yo.aload Xy336.here hx (hb hby at_162) rfl rfl (Yo.bipush Xy336.here hx (hb hby at_164) k)))) ?_
    have ry337 := (((ry319.wr Wy326).wr Wy331).wr Wy336)
    have ry338 := (ry332.other Wy336 (Or.inl (Ne.symm nlby1_y302.1)))
    have ry339 := (ry333.other Wy336 (Or.inl (Ne.symm nlby1_y302.1)))
    have ry340 := (ry334.other Wy336 (Ne.symm nlby1_y302.2))
    have ry341 := (((ry324.wr Wy326).wr Wy331).wr Wy336)
    obtain ⟨_, Ty342, Lcy342, Xy342, hQy342, sty342⟩ := packS (Jvm.LawKit.callS Xy336 hx (y := n3) hown (mvT hZ (W_ hw 26)) (mvT hZ (W_ hw 27)) (mvT hZ (W_ hw 28)) (mvT hZ (W_ hw 29)) (by decide) (backOf (W := 2) (rmat0 l Z a0 hw [] ay302 6 by302 kby302 6 _ wc hy336 n0 Zy336 ry337 ry338 ry339 ry340 ry341 hwc (by decide)) hZ (W_ hw 29) (W_ hw 28) (by decide) (by decide)) (g := (mkF m 166 #[iv p1, iv p2, iv p3, .val (.long pd), .second, iv 2, iv zo, iv zc, rv by1, rv ay302, rv t3, u_, u_, iv 6, u_, u_] [(.int 6), (.ref ay302), (.int 6), (.ref by1)])) rfl (by rw [hml]; rfl) (argsL := [(.ref ay302), (.int 6)]) (rest := [(.int 6), (.ref by1)]) (lenOf pd_22 rfl) rfl (lb rfl) (hb hby at_166) (fun _ _ => ⟨rfl, ey336, (by decide : 3 + 0 ≤ _), (by decide : 36 + 0 ≤ _)⟩))
    obtain ⟨rfl, Nqy342, eqy342⟩ := hQy342
    have Ny342 := Fr.app Ny336 Nqy342
    refine FinW.step (sty342) ?_
    show FinW p e below s _ _ _ (Ty342.setTop (mkF m 169 #[iv p1, iv p2, iv p3, .val (.long pd), .second, iv 2, iv zo, iv zc, rv by1, rv ay302, rv t3, u_, u_, iv 6, u_, u_] [(.int 120), (.int 6), (.ref by1)]))
    obtain ⟨Ty343, hy343, Xy343, ey343, Wy343, Vy343, Ny343, Zy343, Ky343, sty343⟩ := cst3 Xy342 hx hZ eqy342 (j := 6) (x := 120) (ix := 6) Vy336 ⟨by decide, by decide⟩ rfl (lb rfl) Ny342 Zy336 Ky336 gzy1 (Or.inr szy1) (hb hby at_169)
    refine FinW.step (sty343) ?_
    refine FinW.step (fun _ k => Yo.aload Xy343.here hx (hb hby at_170) rfl rfl (Yo.bipush Xy343.here hx (hb hby at_172) (Yo.aload Xy343.here hx (hb hby at_174) rfl rfl (Yo.bipush Xy343.here hx (hb hby at_176) k)))) ?_
    have ry344 := (ry338.other Wy343 (Or.inl (Ne.symm nlby1_y302.1)))
    have ry345 := (ry339.other Wy343 (Or.inl (Ne.symm nlby1_y302.1)))
    have ry346 := (ry340.other Wy343 (Ne.symm nlby1_y302.2))
    obtain ⟨_, Ty347, Lcy347, Xy347, hQy347, sty347⟩ := packS (Jvm.LawKit.callS Xy343 hx (y := n3) hown (mvT hZ (W_ hw 26)) (mvT hZ (W_ hw 27)) (mvT hZ (W_ hw 28)) (mvT hZ (W_ hw 29)) (by decide) (backOf (W := 2) (rmat0 l Z a0 hw [] ay302 7 by302 kby302 6 _ wc hy343 n0 Zy343 (ry337.wr Wy343) ry344 ry345 ry346 (ry341.wr Wy343) hwc (by decide)) hZ (W_ hw 29) (W_ hw 28) (by decide) (by decide)) (g := (mkF m 178 #[iv p1, iv p2, iv p3, .val (.long pd), .second, iv 2, iv zo, iv zc, rv by1, rv ay302, rv t3, u_, u_, iv 6, u_, u_] [(.int 7), (.ref ay302), (.int 7), (.ref by1)])) rfl (by rw [hml]; rfl) (argsL := [(.ref ay302), (.int 7)]) (rest := [(.int 7), (.ref by1)]) (lenOf pd_22 rfl) rfl (lb rfl) (hb hby at_178) (fun _ _ => ⟨rfl, ey343, (by decide : 3 + 0 ≤ _), (by decide : 36 + 0 ≤ _)⟩))
    obtain ⟨rfl, Nqy347, eqy347⟩ := hQy347
    have Ny347 := Fr.app Ny343 Nqy347
    refine FinW.step (sty347) ?_
    show FinW p e below s _ _ _ (Ty347.setTop (mkF m 181 #[iv p1, iv p2, iv p3, .val (.long pd), .second, iv 2, iv zo, iv zc, rv by1, rv ay302, rv t3, u_, u_, iv 6, u_, u_] [(.int 120), (.int 7), (.ref by1)]))
    obtain ⟨Ty348, hy348, Xy348, ey348, Wy348, Vy348, Ny348, Zy348, Ky348, sty348⟩ := cst3 Xy347 hx hZ eqy347 (j := 7) (x := 120) (ix := 7) Vy343 ⟨by decide, by decide⟩ rfl (lb rfl) Ny347 Zy343 Ky343 gzy1 (Or.inr szy1) (hb hby at_181)
    refine FinW.step (sty348) ?_
    have Vy349 : Arv Z hy348 by1 ky1 .char (8 : Int32) own_al2 (.int 0) := castL Vy348 (by rfl)
    rcases own_c4 h_zo with rfl | rfl | rfl | rfl
    · show FinW p e below s _ _ _ (Ty348.setTop (mkF m 182 #[iv p1, iv p2, iv p3, .val (.long pd), .second, iv 2, iv 0, iv zc, rv by1, rv ay302, rv t3, u_, u_, iv 6, u_, u_] []))
      refine FinW.step (fun _ k => Yo.iload Xy348.here hx (hb hby at_182) rfl (Yo.ifNo Xy348.here hx (hb hby at_184) rfl ((if0 _ _).trans (teq ((by decide) : ((0 : Int32) = (0 : Int32)))).2) (Yo.aload Xy348.here hx (hb hby at_187) rfl rfl (Yo.iload Xy348.here hx (hb hby at_189) rfl k)))) ?_
      obtain ⟨_, Ty350, Lcy350, Xy350, hQy350, sty350⟩ := packS (Jvm.LawKit.callS Xy348 hx (y := n9) hown (mvT hZ (W_ hw 52)) (mvT hZ (W_ hw 53)) (mvT hZ (W_ hw 28)) (mvT hZ (W_ hw 54)) (by decide) (backOf (W := 0) (rmstL6 l Z a0 hw [] by1 ky1 own_al2 wc hy348 n0 Zy348 Vy349 ((ry341.wr Wy343).wr Wy348) own_alc2 hwc (own_latk own_als2 6)) hZ (W_ hw 54) (W_ hw 28) (by decide) (by decide)) (g := (mkF m 191 #[iv p1, iv p2, iv p3, .val (.long pd), .second, iv 2, iv 0, iv zc, rv by1, rv ay302, rv t3, u_, u_, iv 6, u_, u_] [(.int 6), (.ref by1)])) rfl (by rw [hml]; rfl) (argsL := [(.ref by1), (.int 6)]) (rest := []) (lenOf pd_23 rfl) rfl (lb rfl) (hb hby at_191) (fun _ _ => ⟨rfl, ey348, (by decide : 3 + 8 ≤ _), (by decide : 36 + 64 ≤ _)⟩))
      obtain ⟨nb_y350, kn_y350, by350, rfl, bzy350, bfy350_0, Nqy350, Kcy350, fy350_0, fy350_1, fy350_2, fy350_3, ney350_0⟩ := hQy350
      have Ny350 := Fr.app Ny348 Nqy350
      have gzy350 : n0 ≤ by350 := Nat.le_trans Zy348 bzy350
      have szy350 : h0.size ≤ by350 := Nat.le_trans Ky348.1 bzy350
      have gzy350_0 : n0 ≤ nb_y350 := Nat.le_trans Zy348 bfy350_0
      have szy350_0 : h0.size ≤ nb_y350 := Nat.le_trans Ky348.1 bfy350_0
      have Zy350 := Nat.le_trans Zy348 Kcy350.1
      have Ky350 := Ky348.trans Kcy350 all0
      refine FinW.step (sty350) ?_
      show FinW p e below s _ _ _ (Ty350.setTop (mkF m 194 #[iv p1, iv p2, iv p3, .val (.long pd), .second, iv 2, iv 0, iv zc, rv by1, rv ay302, rv t3, u_, u_, iv 6, u_, u_] [(.ref by350)]))
      refine FinW.step (fun _ k => Yo.astore Xy350.here hx (hb hby at_194) rfl rfl (l' := #[iv p1, iv p2, iv p3, .val (.long pd), .second, iv 2, iv 0, iv zc, rv by1, rv ay302, rv t3, rv by350, u_, iv 6, u_, u_]) rfl (Yo.aload Xy350.here hx (hb hby at_196) rfl rfl (Yo.astore Xy350.here hx (hb hby at_198) rfl rfl (l' := #[iv p1, iv p2, iv p3, .val (.long pd), .second, iv 2, iv 0, iv zc, rv by1, rv ay302, rv t3, rv by350, rv t3, iv 6, u_, u_]) rfl (Yo.goto Xy350.here hx (pc0 := 200) (pc' := 303) rfl (hb hby at_200) (by decide) (by decide) (Yo.goto Xy350.here hx (pc0 := 303) (pc' := 468) rfl (hb hby at_303) (by decide) (by decide) (Yo.aload Xy350.here hx (hb hby at_468) rfl rfl k)))))) ?_
      have ry351 := (Sta_keep HS_com_example_model_for_reads_modelforreads_model_FieldType__VALUES Ky350)
      have ry352 := (Sta_keep HS_java_util_Optional_EMPTY Ky350)
      have ry353 := (Sta_keepW ((ry341.wr Wy343).wr Wy348) Kcy350 all0)
      have ry354 := (HF_t1_modelName.keep Ky350 nin0)
      have ry355 := (HF_t2_modelName.keep Ky350 nin0)
      have ry356 := (HF_t3_modelName.keep Ky350 nin0)
      have ney357 := nlt HE_s1.lt szy350
      have ney358 := nlt HE_s2.lt szy350
      have ney359 := nlt HE_s3.lt szy350
      obtain ⟨_, Ty360, Lcy360, Xy360, hQy360, sty360⟩ := packS (Jvm.LawKit.callS Xy350 hx (y := n16) hown (mvT hZ (W_ hw 76)) (mvT hZ (W_ hw 77)) (mvT hZ (W_ hw 11)) (mvT hZ (W_ hw 78)) (by decide) (backOf (W := 0) (rmfmL3 l Z a0 hw [] by350 av cv t1 t2 t3 eo wc s1 v1 k1 3 _ s2 v2 k2 7 _ s3 v3 k3 6 _ nb_y350 kn_y350 6 _ Ty350.heap n0 Zy350 ry351 ry352 ry353 ry354 (HE_s1.keep Ky350) (HF_s1_coder.keep Ky350 nin0) (HF_s1_value.keep Ky350 nin0) (HV_v1.keep Ky350 nin0) ry355 (HE_s2.keep Ky350) (HF_s2_coder.keep Ky350 nin0) (HF_s2_value.keep Ky350 nin0) (HV_v2.keep Ky350 nin0) ry356 (HE_s3.keep Ky350) (HF_s3_coder.keep Ky350 nin0) (HF_s3_value.keep Ky350 nin0) (HV_v3.keep Ky350 nin0) fy350_0 fy350_1 fy350_2 fy350_3 ⟨Arr_keep hcv.1 Ky350, hcv.2.1.keep Ky350, hcv.2.2.1, hcv.2.2.2⟩ hwc (own_wlc _ _ _) (by decide) (by decide) (by decide) own_nlc0 own_nlc1 own_nlc2 (own_eqb0 (by decide)) (own_eqb0 (by decide)) (by decide +kernel) ney357 ney358 ney359) hZ (W_ hw 78) (W_ hw 11) (by decide) (by decide)) (g := (mkF m 470 #[iv p1, iv p2, iv p3, .val (.long pd), .second, iv 2, iv 0, iv zc, rv by1, rv ay302, rv t3, rv by350, rv t3, iv 6, u_, u_] [(.ref by350)])) rfl (by rw [hml]; rfl) (argsL := [(.ref by350)]) (rest := []) (lenOf pd_24 rfl) rfl (lb rfl) (hb hby at_470) (fun _ _ => ⟨rfl, rfl, (by decide : 11 + 2 ≤ _), (by decide : 100 + 4 ≤ _)⟩))
      obtain ⟨by360, rfl, bzy360, Nqy360, Kcy360, fy360_0, fy360_1⟩ := hQy360
      have Ny360 := Fr.app Ny350 Nqy360
      have gzy360 : n0 ≤ by360 := Nat.le_trans Zy350 bzy360
      have szy360 : h0.size ≤ by360 := Nat.le_trans Ky350.1 bzy360
      have Zy360 := Nat.le_trans Zy350 Kcy360.1
      have Ky360 := Ky350.trans Kcy360 all0
      refine FinW.step (sty360) ?_
      show FinW p e below s _ _ _ (Ty360.setTop (mkF m 473 #[iv p1, iv p2, iv p3, .val (.long pd), .second, iv 2, iv 0, iv zc, rv by1, rv ay302, rv t3, rv by350, rv t3, iv 6, u_, u_] [(.ref by360)]))
      refine FinW.step (fun _ k => Yo.astore Xy360.here hx (hb hby at_473) rfl rfl (l' := #[iv p1, iv p2, iv p3, .val (.long pd), .second, iv 2, iv 0, iv zc, rv by1, rv ay302, rv t3, rv by350, rv t3, rv by360, u_, u_]) rfl (Yo.aload Xy360.here hx (hb hby at_475) rfl rfl (Yo.aconstNull Xy360.here hx (hb hby at_477) k))) ?_
      obtain ⟨cqy361, kqy361, qy361a, qy361b, qy361c⟩ := isOf hZ rfl fy360_0
      obtain ⟨_, Ty361, Lcy361, Xy361, hQy361, sty361⟩ := pack (Xy360.virtualBack hx (y := n23) (z := n23) hown (mvT hZ (W_ hw 124)) (mvT hZ (W_ hw 125)) (notFace_of_selects (args := #[]) (mvT hZ (W_ hw 127))) (mvT hZ (W_ hw 127)) (mvT hZ (W_ hw 126)) (by decide) (backOf (W := 0) (rmor1 l Z a0 hw [] by360 t3 Ty360.heap n0 Zy360 fy360_1) hZ (W_ hw 128) (W_ hw 109) (by decide) (by decide)) qy361a qy361c (g := (mkF m 478 #[iv p1, iv p2, iv p3, .val (.long pd), .second, iv 2, iv 0, iv zc, rv by1, rv ay302, rv t3, rv by350, rv t3, rv by360, u_, u_] [.null, (.ref by360)])) rfl (by rw [hml]; rfl) (Steps.refl _) (argsL := [.null]) (rest := []) (lenOf pd_16 rfl) rfl (lb rfl) (hb hby at_478) (fun _ _ => ⟨rfl, rfl, (by decide : 13 + 0 ≤ _), (by decide : 104 + 0 ≤ _)⟩))
      obtain ⟨rfl, Nqy361, eqy361⟩ := hQy361
      have Ny361 := Fr.app Ny360 Nqy361
      refine FinW.step (sty361) ?_
      show FinW p e below s _ _ _ (Ty361.setTop (mkF m 481 #[iv p1, iv p2, iv p3, .val (.long pd), .second, iv 2, iv 0, iv zc, rv by1, rv ay302, rv t3, rv by350, rv t3, rv by360, u_, u_] [(.ref t3)]))
      refine FinW.step (fun _ k => Yo.aload Xy361.here hx (hb hby at_481) rfl rfl k) ?_
      refine FinW.step (fun _ => Jvm.RoadKit.acmp (g := (mkF m 483 #[iv p1, iv p2, iv p3, .val (.long pd), .second, iv 2, iv 0, iv zc, rv by1, rv ay302, rv t3, rv by350, rv t3, rv by360, u_, u_] [(.ref t3), (.ref t3)])) Xy361 hx rfl rfl rfl (pc0 := 483) (pc' := 486) (same := true) rfl (hb hby at_483) rfl (decide_eq_true rfl) (by decide) (by decide)) ?_
      show FinW p e below s _ _ _ (Ty361.setTop (mkF m 486 #[iv p1, iv p2, iv p3, .val (.long pd), .second, iv 2, iv 0, iv zc, rv by1, rv ay302, rv t3, rv by350, rv t3, rv by360, u_, u_] []))
      refine FinW.step (fun _ k => Yo.iconst Xy361.here hx (hb hby at_486) (Yo.goto Xy361.here hx (pc0 := 487) (pc' := 491) rfl (hb hby at_487) (by decide) (by decide) k)) ?_
      have hky362 := (Nat.le_trans (Nat.le_trans (Nat.le_trans (Nat.le_trans (Nat.le_trans (Nat.le_trans (Nat.le_trans (Nat.le_trans (Nat.le_trans (Nat.le_trans hky302 (Keep.of_wr Wy308).1) (Keep.of_wr Wy313).1) (Keep.of_wr Wy318).1) (Keep.of_wr Wy326).1) (Keep.of_wr Wy331).1) (Keep.of_wr Wy336).1) (Keep.of_wr Wy343).1) (Keep.of_wr Wy348).1) Kcy350.1) Kcy360.1)
      refine FinW.retN Xy361 hSy302 (by rw [eqy361]; exact hky362) hx (t := .boolean) hret (by simp) hlk (hb hby at_491) (by decide) (by decide) ?_
      show Q0 Z p1 p2 p3 pd wc fv eo av cv t1 t2 t3 s1 v1 k1 s2 v2 k2 s3 v3 k3 h0 n0 _ Ty361.heap _
      rw [eqy361]
      exact ⟨rfl, Ny361, Ky360⟩
    · show FinW p e below s _ _ _ (Ty348.setTop (mkF m 182 #[iv p1, iv p2, iv p3, .val (.long pd), .second, iv 2, iv 1, iv zc, rv by1, rv ay302, rv t3, u_, u_, iv 6, u_, u_] []))
      refine FinW.step (fun _ k => Yo.iload Xy348.here hx (hb hby at_182) rfl (Yo.ifYes Xy348.here hx (pc0 := 184) (pc' := 203) rfl (hb hby at_184) rfl ((if0 _ _).trans (feq ((by decide) : ¬ ((1 : Int32) = (0 : Int32)))).2) (by decide) (by decide) (Yo.iload Xy348.here hx (hb hby at_203) rfl (Yo.iconst Xy348.here hx (hb hby at_205) (Yo.icmpNo Xy348.here hx (hb hby at_206) rfl (teq ((by decide) : ((1 : Int32) = (1 : Int32)))).2 (Yo.iloadN Xy348.here hx (hb hby at_209) rfl k)))))) ?_
      refine FinW.step (Xy348.ldcInt hx hown (mvT hZ (W_ hw 129)) (g := (mkF m 210 #[iv p1, iv p2, iv p3, .val (.long pd), .second, iv 2, iv 1, iv zc, rv by1, rv ay302, rv t3, u_, u_, iv 6, u_, u_] [(.int p2)])) rfl (hb hby at_210)) ?_
      show FinW p e below s _ _ _ (Ty348.setTop (mkF m 212 #[iv p1, iv p2, iv p3, .val (.long pd), .second, iv 2, iv 1, iv zc, rv by1, rv ay302, rv t3, u_, u_, iv 6, u_, u_] [(.int 2147483647), (.int p2)]))
      refine FinW.step (fun _ k => Yo.iand Xy348.here hx (hb hby at_212) rfl k) ?_
      show FinW p e below s _ _ _ (Ty348.setTop (mkF m 213 #[iv p1, iv p2, iv p3, .val (.long pd), .second, iv 2, iv 1, iv zc, rv by1, rv ay302, rv t3, u_, u_, iv 6, u_, u_] [(.int (p2 &&& (2147483647 : Int32)))]))
      refine FinW.step (fun _ k => Yo.iload Xy348.here hx (hb hby at_213) rfl k) ?_
      refine FinW.step (fun _ => iremM Xy348 hx (g := (mkF m 215 #[iv p1, iv p2, iv p3, .val (.long pd), .second, iv 2, iv 1, iv zc, rv by1, rv ay302, rv t3, u_, u_, iv 6, u_, u_] [(.int 6), (.int (p2 &&& (2147483647 : Int32)))])) rfl (hb hby at_215) rfl (by decide)) ?_
      show FinW p e below s _ _ _ (Ty348.setTop (mkF m 216 #[iv p1, iv p2, iv p3, .val (.long pd), .second, iv 2, iv 1, iv zc, rv by1, rv ay302, rv t3, u_, u_, iv 6, u_, u_] [(.int ((p2 &&& (2147483647 : Int32)) % (6 : Int32)))]))
      refine FinW.step (fun _ k => Yo.istore Xy348.here hx (hb hby at_216) rfl (l' := #[iv p1, iv p2, iv p3, .val (.long pd), .second, iv 2, iv 1, iv zc, rv by1, rv ay302, rv t3, u_, u_, iv 6, .val (.int ((p2 &&& (2147483647 : Int32)) % (6 : Int32))), u_]) rfl k) ?_
      obtain ⟨dp, h_dp⟩ : ∃ z : Int32, z = ((p2 &&& (2147483647 : Int32)) % (6 : Int32)) := ⟨_, rfl⟩
      rw [← h_dp]
      show FinW p e below s _ _ _ (Ty348.setTop (mkF m 218 #[iv p1, iv p2, iv p3, .val (.long pd), .second, iv 2, iv 1, iv zc, rv by1, rv ay302, rv t3, u_, u_, iv 6, iv dp, u_] []))
      have Gp := own_rem (k := 6) rfl (by decide) (by decide) h_dp
      refine FinW.step (fun _ k => Yo.aload Xy348.here hx (hb hby at_218) rfl rfl (Yo.iload Xy348.here hx (hb hby at_220) rfl (cld3 Xy348 hx hZ ey348 (j := dp) (v := (.int (own_gt own_al2 dp.toNatClampNeg))) Vy349 Gp.2.1 (own_lg own_alc2 _) (hb hby at_222) (Yo.istore Xy348.here hx (hb hby at_223) rfl (l' := #[iv p1, iv p2, iv p3, .val (.long pd), .second, iv 2, iv 1, iv zc, rv by1, rv ay302, rv t3, u_, u_, iv 6, iv dp, .val (.int (own_gt own_al2 dp.toNatClampNeg))]) rfl (Yo.aload Xy348.here hx (hb hby at_225) rfl rfl (Yo.iload Xy348.here hx (hb hby at_227) rfl (Yo.iload Xy348.here hx (hb hby at_229) rfl k))))))) ?_
      obtain ⟨Ty364, hy364, Xy364, ey364, Wy364, Vy364, Ny364, Zy364, Ky364, sty364⟩ := cst3 Xy348 hx hZ ey348 (j := dp) (x := zc) (ix := dp.toNatClampNeg) Vy349 Gp.2.1 rfl (by show _ < 8; have := Gp.2.2; omega) Ny348 Zy348 Ky348 gzy1 (Or.inr szy1) (hb hby at_231)
      refine FinW.step (sty364) ?_
      rcases Classical.em ((255 : Int32) < zc) with hbg | hbg
      · show FinW p e below s _ _ _ (Ty364.setTop (mkF m 232 #[iv p1, iv p2, iv p3, .val (.long pd), .second, iv 2, iv 1, iv zc, rv by1, rv ay302, rv t3, u_, u_, iv 6, iv dp, .val (.int (own_gt own_al2 dp.toNatClampNeg))] []))
        refine FinW.step (fun _ k => Yo.aload Xy364.here hx (hb hby at_232) rfl rfl (Yo.iload Xy364.here hx (hb hby at_234) rfl k)) ?_
        have ry365 := (((ry341.wr Wy343).wr Wy348).wr Wy364)
        have ry366 := (Sta_keep HS_java_lang_StringUTF16__assertionsDisabled Ky364)
        have ry367 := (Sta_keep HS_java_lang_StringUTF16_HI_BYTE_SHIFT Ky364)
        have ry368 := (Sta_keep HS_java_lang_StringUTF16_LO_BYTE_SHIFT Ky364)
        obtain ⟨_, Ty369, Lcy369, Xy369, hQy369, sty369⟩ := packS (Jvm.LawKit.callS Xy364 hx (y := n9) hown (mvT hZ (W_ hw 52)) (mvT hZ (W_ hw 53)) (mvT hZ (W_ hw 28)) (mvT hZ (W_ hw 54)) (by decide) (backOf (W := 0) (rmstU6 l Z a0 hw [] by1 ky1 _ wc dp hy364 n0 Zy364 Vy364 ry365 ry366 ry367 ry368 (own_chset own_alc2 _ _) hwc Gp.1 (own_hu Gz.2 (by show _ < 8; have := Gp.2.2; omega) (Nat.le_of_lt (by have := Gp.2.2; omega)) own_als2) (own_hb Gz.2 (by show _ < 8; have := Gp.2.2; omega) (by have := Gp.2.2; omega) hbg) (own_hr Gz.2 (by show _ < 8; have := Gp.2.2; omega) (by have := Gp.2.2; omega) Gz.1)) hZ (W_ hw 54) (W_ hw 28) (by decide) (by decide)) (g := (mkF m 236 #[iv p1, iv p2, iv p3, .val (.long pd), .second, iv 2, iv 1, iv zc, rv by1, rv ay302, rv t3, u_, u_, iv 6, iv dp, .val (.int (own_gt own_al2 dp.toNatClampNeg))] [(.int 6), (.ref by1)])) rfl (by rw [hml]; rfl) (argsL := [(.ref by1), (.int 6)]) (rest := []) (lenOf pd_23 rfl) rfl (lb rfl) (hb hby at_236) (fun _ _ => ⟨rfl, ey364, (by decide : 3 + 4 ≤ _), (by decide : 36 + 34 ≤ _)⟩))
        obtain ⟨nb_y369, kn_y369, lz_y369, by369, rfl, bzy369, bfy369_0, Nqy369, Kcy369, fy369_0, fy369_1, fy369_2, fy369_3, ney369_0⟩ := hQy369
        have Ny369 := Fr.app Ny364 Nqy369
        have gzy369 : n0 ≤ by369 := Nat.le_trans Zy364 bzy369
        have szy369 : h0.size ≤ by369 := Nat.le_trans Ky364.1 bzy369
        have gzy369_0 : n0 ≤ nb_y369 := Nat.le_trans Zy364 bfy369_0
        have szy369_0 : h0.size ≤ nb_y369 := Nat.le_trans Ky364.1 bfy369_0
        have Zy369 := Nat.le_trans Zy364 Kcy369.1
        have Ky369 := Ky364.trans Kcy369 all0
        refine FinW.step (sty369) ?_
        show FinW p e below s _ _ _ (Ty369.setTop (mkF m 239 #[iv p1, iv p2, iv p3, .val (.long pd), .second, iv 2, iv 1, iv zc, rv by1, rv ay302, rv t3, u_, u_, iv 6, iv dp, .val (.int (own_gt own_al2 dp.toNatClampNeg))] [(.ref by369)]))
        refine FinW.step (fun _ k => Yo.astore Xy369.here hx (hb hby at_239) rfl rfl (l' := #[iv p1, iv p2, iv p3, .val (.long pd), .second, iv 2, iv 1, iv zc, rv by1, rv ay302, rv t3, rv by369, u_, iv 6, iv dp, .val (.int (own_gt own_al2 dp.toNatClampNeg))]) rfl (Yo.iload Xy369.here hx (hb hby at_241) rfl (Yo.iload Xy369.here hx (hb hby at_243) rfl (Yo.icmpYes Xy369.here hx (pc0 := 245) (pc' := 253) rfl (hb hby at_245) rfl (feq ((own_old own_nm2 Gp.2.2 hbg) : ¬ (zc = (own_gt own_al2 dp.toNatClampNeg)))).2 (by decide) (by decide) (Yo.aconstNull Xy369.here hx (hb hby at_253) (Yo.astore Xy369.here hx (hb hby at_254) rfl rfl (l' := #[iv p1, iv p2, iv p3, .val (.long pd), .second, iv 2, iv 1, iv zc, rv by1, rv ay302, rv t3, rv by369, .val .null, iv 6, iv dp, .val (.int (own_gt own_al2 dp.toNatClampNeg))]) rfl (Yo.goto Xy369.here hx (pc0 := 256) (pc' := 303) rfl (hb hby at_256) (by decide) (by decide) (Yo.goto Xy369.here hx (pc0 := 303) (pc' := 468) rfl (hb hby at_303) (by decide) (by decide) k)))))))) ?_
        refine FinW.step (fun _ k => Yo.aload Xy369.here hx (hb hby at_468) rfl rfl k) ?_
        have ry370 := (Sta_keep HS_com_example_model_for_reads_modelforreads_model_FieldType__VALUES Ky369)
        have ry371 := (Sta_keep HS_java_util_Optional_EMPTY Ky369)
        have ry372 := (HF_t1_modelName.keep Ky369 nin0)
        have ry373 := (HF_t2_modelName.keep Ky369 nin0)
        have ry374 := (HF_t3_modelName.keep Ky369 nin0)
        have ney375 := nlt HE_s1.lt szy369
        have ney376 := nlt HE_s2.lt szy369
        have ney377 := nlt HE_s3.lt szy369
        obtain ⟨_, Ty378, Lcy378, Xy378, hQy378, sty378⟩ := packS (Jvm.LawKit.callS Xy369 hx (y := n16) hown (mvT hZ (W_ hw 76)) (mvT hZ (W_ hw 77)) (mvT hZ (W_ hw 11)) (mvT hZ (W_ hw 78)) (by decide) (backOf (W := 0) (rmfmU0 l Z a0 hw [] by369 av cv t1 t2 t3 eo wc s1 v1 k1 3 _ s2 v2 k2 7 _ s3 v3 k3 6 _ Ty369.heap n0 Zy369 ry370 ry371 (Sta_keepW ry365 Kcy369 all0) ry372 (HE_s1.keep Ky369) (HF_s1_coder.keep Ky369 nin0) (HF_s1_value.keep Ky369 nin0) (HV_v1.keep Ky369 nin0) ry373 (HE_s2.keep Ky369) (HF_s2_coder.keep Ky369 nin0) (HF_s2_value.keep Ky369 nin0) (HV_v2.keep Ky369 nin0) ry374 (HE_s3.keep Ky369) (HF_s3_coder.keep Ky369 nin0) (HF_s3_value.keep Ky369 nin0) (HV_v3.keep Ky369 nin0) fy369_0 fy369_1 ⟨Arr_keep hcv.1 Ky369, hcv.2.1.keep Ky369, hcv.2.2.1, hcv.2.2.2⟩ hwc ney375 ney376 ney377) hZ (W_ hw 78) (W_ hw 11) (by decide) (by decide)) (g := (mkF m 470 #[iv p1, iv p2, iv p3, .val (.long pd), .second, iv 2, iv 1, iv zc, rv by1, rv ay302, rv t3, rv by369, .val .null, iv 6, iv dp, .val (.int (own_gt own_al2 dp.toNatClampNeg))] [(.ref by369)])) rfl (by rw [hml]; rfl) (argsL := [(.ref by369)]) (rest := []) (lenOf pd_24 rfl) rfl (lb rfl) (hb hby at_470) (fun _ _ => ⟨rfl, rfl, (by decide : 7 + 1 ≤ _), (by decide : 70 + 3 ≤ _)⟩))
        obtain ⟨rfl, Nqy378, Kcy378⟩ := hQy378
        have Ny378 := Fr.app Ny369 Nqy378
        have Zy378 := Nat.le_trans Zy369 Kcy378.1
        have Ky378 := Ky369.trans Kcy378 all0
        refine FinW.step (sty378) ?_
        show FinW p e below s _ _ _ (Ty378.setTop (mkF m 473 #[iv p1, iv p2, iv p3, .val (.long pd), .second, iv 2, iv 1, iv zc, rv by1, rv ay302, rv t3, rv by369, .val .null, iv 6, iv dp, .val (.int (own_gt own_al2 dp.toNatClampNeg))] [(.ref eo)]))
        refine FinW.step (fun _ k => Yo.astore Xy378.here hx (hb hby at_473) rfl rfl (l' := #[iv p1, iv p2, iv p3, .val (.long pd), .second, iv 2, iv 1, iv zc, rv by1, rv ay302, rv t3, rv by369, .val .null, rv eo, iv dp, .val (.int (own_gt own_al2 dp.toNatClampNeg))]) rfl (Yo.aload Xy378.here hx (hb hby at_475) rfl rfl (Yo.aconstNull Xy378.here hx (hb hby at_477) k))) ?_
        obtain ⟨cqy379, kqy379, qy379a, qy379b, qy379c⟩ := isOf hZ rfl (HE_eo.keep Ky378)
        obtain ⟨_, Ty379, Lcy379, Xy379, hQy379, sty379⟩ := pack (Xy378.virtualBack hx (y := n23) (z := n23) hown (mvT hZ (W_ hw 124)) (mvT hZ (W_ hw 125)) (notFace_of_selects (args := #[]) (mvT hZ (W_ hw 127))) (mvT hZ (W_ hw 127)) (mvT hZ (W_ hw 126)) (by decide) (backOf (W := 0) (rmor0 l Z a0 hw [] eo Ty378.heap n0 Zy378 (HF_eo_value.keep Ky378 nin0)) hZ (W_ hw 128) (W_ hw 109) (by decide) (by decide)) qy379a qy379c (g := (mkF m 478 #[iv p1, iv p2, iv p3, .val (.long pd), .second, iv 2, iv 1, iv zc, rv by1, rv ay302, rv t3, rv by369, .val .null, rv eo, iv dp, .val (.int (own_gt own_al2 dp.toNatClampNeg))] [.null, (.ref eo)])) rfl (by rw [hml]; rfl) (Steps.refl _) (argsL := [.null]) (rest := []) (lenOf pd_16 rfl) rfl (lb rfl) (hb hby at_478) (fun _ _ => ⟨rfl, rfl, (by decide : 8 + 0 ≤ _), (by decide : 73 + 0 ≤ _)⟩))
        obtain ⟨rfl, Nqy379, eqy379⟩ := hQy379
        have Ny379 := Fr.app Ny378 Nqy379
        refine FinW.step (sty379) ?_
        show FinW p e below s _ _ _ (Ty379.setTop (mkF m 481 #[iv p1, iv p2, iv p3, .val (.long pd), .second, iv 2, iv 1, iv zc, rv by1, rv ay302, rv t3, rv by369, .val .null, rv eo, iv dp, .val (.int (own_gt own_al2 dp.toNatClampNeg))] [.null]))
        refine FinW.step (fun _ k => Yo.aload Xy379.here hx (hb hby at_481) rfl rfl k) ?_
        refine FinW.step (fun _ => Jvm.RoadKit.acmp (g := (mkF m 483 #[iv p1, iv p2, iv p3, .val (.long pd), .second, iv 2, iv 1, iv zc, rv by1, rv ay302, rv t3, rv by369, .val .null, rv eo, iv dp, .val (.int (own_gt own_al2 dp.toNatClampNeg))] [.null, .null])) Xy379 hx rfl rfl rfl (pc0 := 483) (pc' := 486) (same := true) rfl (hb hby at_483) rfl (decide_eq_true rfl) (by decide) (by decide)) ?_
        show FinW p e below s _ _ _ (Ty379.setTop (mkF m 486 #[iv p1, iv p2, iv p3, .val (.long pd), .second, iv 2, iv 1, iv zc, rv by1, rv ay302, rv t3, rv by369, .val .null, rv eo, iv dp, .val (.int (own_gt own_al2 dp.toNatClampNeg))] []))
        refine FinW.step (fun _ k => Yo.iconst Xy379.here hx (hb hby at_486) (Yo.goto Xy379.here hx (pc0 := 487) (pc' := 491) rfl (hb hby at_487) (by decide) (by decide) k)) ?_
        have hky380 := (Nat.le_trans (Nat.le_trans (Nat.le_trans (Nat.le_trans (Nat.le_trans (Nat.le_trans (Nat.le_trans (Nat.le_trans (Nat.le_trans (Nat.le_trans (Nat.le_trans hky302 (Keep.of_wr Wy308).1) (Keep.of_wr Wy313).1) (Keep.of_wr Wy318).1) (Keep.of_wr Wy326).1) (Keep.of_wr Wy331).1) (Keep.of_wr Wy336).1) (Keep.of_wr Wy343).1) (Keep.of_wr Wy348).1) (Keep.of_wr Wy364).1) Kcy369.1) Kcy378.1)
        refine FinW.retN Xy379 hSy302 (by rw [eqy379]; exact hky380) hx (t := .boolean) hret (by simp) hlk (hb hby at_491) (by decide) (by decide) ?_
        show Q0 Z p1 p2 p3 pd wc fv eo av cv t1 t2 t3 s1 v1 k1 s2 v2 k2 s3 v3 k3 h0 n0 _ Ty379.heap _
        rw [eqy379]
        exact ⟨rfl, Ny379, Ky378⟩
      · show FinW p e below s _ _ _ (Ty364.setTop (mkF m 232 #[iv p1, iv p2, iv p3, .val (.long pd), .second, iv 2, iv 1, iv zc, rv by1, rv ay302, rv t3, u_, u_, iv 6, iv dp, .val (.int (own_gt own_al2 dp.toNatClampNeg))] []))
        refine FinW.step (fun _ k => Yo.aload Xy364.here hx (hb hby at_232) rfl rfl (Yo.iload Xy364.here hx (hb hby at_234) rfl k)) ?_
        have ry381 := (((ry341.wr Wy343).wr Wy348).wr Wy364)
        obtain ⟨_, Ty382, Lcy382, Xy382, hQy382, sty382⟩ := packS (Jvm.LawKit.callS Xy364 hx (y := n9) hown (mvT hZ (W_ hw 52)) (mvT hZ (W_ hw 53)) (mvT hZ (W_ hw 28)) (mvT hZ (W_ hw 54)) (by decide) (backOf (W := 0) (rmstL6 l Z a0 hw [] by1 ky1 _ wc hy364 n0 Zy364 Vy364 ry381 (own_chset own_alc2 _ _) hwc (own_hl Gz.2 (by show _ < 8; have := Gp.2.2; omega) hbg own_als2)) hZ (W_ hw 54) (W_ hw 28) (by decide) (by decide)) (g := (mkF m 236 #[iv p1, iv p2, iv p3, .val (.long pd), .second, iv 2, iv 1, iv zc, rv by1, rv ay302, rv t3, u_, u_, iv 6, iv dp, .val (.int (own_gt own_al2 dp.toNatClampNeg))] [(.int 6), (.ref by1)])) rfl (by rw [hml]; rfl) (argsL := [(.ref by1), (.int 6)]) (rest := []) (lenOf pd_23 rfl) rfl (lb rfl) (hb hby at_236) (fun _ _ => ⟨rfl, ey364, (by decide : 3 + 8 ≤ _), (by decide : 36 + 64 ≤ _)⟩))
        obtain ⟨nb_y382, kn_y382, by382, rfl, bzy382, bfy382_0, Nqy382, Kcy382, fy382_0, fy382_1, fy382_2, fy382_3, ney382_0⟩ := hQy382
        have Ny382 := Fr.app Ny364 Nqy382
        have gzy382 : n0 ≤ by382 := Nat.le_trans Zy364 bzy382
        have szy382 : h0.size ≤ by382 := Nat.le_trans Ky364.1 bzy382
        have gzy382_0 : n0 ≤ nb_y382 := Nat.le_trans Zy364 bfy382_0
        have szy382_0 : h0.size ≤ nb_y382 := Nat.le_trans Ky364.1 bfy382_0
        have Zy382 := Nat.le_trans Zy364 Kcy382.1
        have Ky382 := Ky364.trans Kcy382 all0
        refine FinW.step (sty382) ?_
        show FinW p e below s _ _ _ (Ty382.setTop (mkF m 239 #[iv p1, iv p2, iv p3, .val (.long pd), .second, iv 2, iv 1, iv zc, rv by1, rv ay302, rv t3, u_, u_, iv 6, iv dp, .val (.int (own_gt own_al2 dp.toNatClampNeg))] [(.ref by382)]))
        refine FinW.step (fun _ k => Yo.astore Xy382.here hx (hb hby at_239) rfl rfl (l' := #[iv p1, iv p2, iv p3, .val (.long pd), .second, iv 2, iv 1, iv zc, rv by1, rv ay302, rv t3, rv by382, u_, iv 6, iv dp, .val (.int (own_gt own_al2 dp.toNatClampNeg))]) rfl (Yo.iload Xy382.here hx (hb hby at_241) rfl (Yo.iload Xy382.here hx (hb hby at_243) rfl k))) ?_
        by_cases hcy383 : zc = (own_gt own_al2 dp.toNatClampNeg)
        · refine FinW.step (fun _ k => Yo.icmpNo Xy382.here hx (hb hby at_245) rfl (teq (hcy383 : (zc = (own_gt own_al2 dp.toNatClampNeg)))).2 (Yo.aload Xy382.here hx (hb hby at_248) rfl rfl (Yo.goto Xy382.here hx (pc0 := 250) (pc' := 254) rfl (hb hby at_250) (by decide) (by decide) (Yo.astore Xy382.here hx (hb hby at_254) rfl rfl (l' := #[iv p1, iv p2, iv p3, .val (.long pd), .second, iv 2, iv 1, iv zc, rv by1, rv ay302, rv t3, rv by382, rv t3, iv 6, iv dp, .val (.int (own_gt own_al2 dp.toNatClampNeg))]) rfl (Yo.goto Xy382.here hx (pc0 := 256) (pc' := 303) rfl (hb hby at_256) (by decide) (by decide) (Yo.goto Xy382.here hx (pc0 := 303) (pc' := 468) rfl (hb hby at_303) (by decide) (by decide) (Yo.aload Xy382.here hx (hb hby at_468) rfl rfl k))))))) ?_
          have ry384 := (Sta_keep HS_com_example_model_for_reads_modelforreads_model_FieldType__VALUES Ky382)
          have ry385 := (Sta_keep HS_java_util_Optional_EMPTY Ky382)
          have ry386 := (HF_t1_modelName.keep Ky382 nin0)
          have ry387 := (HF_t2_modelName.keep Ky382 nin0)
          have ry388 := (HF_t3_modelName.keep Ky382 nin0)
          have ney389 := nlt HE_s1.lt szy382
          have ney390 := nlt HE_s2.lt szy382
          have ney391 := nlt HE_s3.lt szy382
          obtain ⟨_, Ty392, Lcy392, Xy392, hQy392, sty392⟩ := packS (Jvm.LawKit.callS Xy382 hx (y := n16) hown (mvT hZ (W_ hw 76)) (mvT hZ (W_ hw 77)) (mvT hZ (W_ hw 11)) (mvT hZ (W_ hw 78)) (by decide) (backOf (W := 0) (rmfmL3 l Z a0 hw [] by382 av cv t1 t2 t3 eo wc s1 v1 k1 3 _ s2 v2 k2 7 _ s3 v3 k3 6 _ nb_y382 kn_y382 6 _ Ty382.heap n0 Zy382 ry384 ry385 (Sta_keepW ry381 Kcy382 all0) ry386 (HE_s1.keep Ky382) (HF_s1_coder.keep Ky382 nin0) (HF_s1_value.keep Ky382 nin0) (HV_v1.keep Ky382 nin0) ry387 (HE_s2.keep Ky382) (HF_s2_coder.keep Ky382 nin0) (HF_s2_value.keep Ky382 nin0) (HV_v2.keep Ky382 nin0) ry388 (HE_s3.keep Ky382) (HF_s3_coder.keep Ky382 nin0) (HF_s3_value.keep Ky382 nin0) (HV_v3.keep Ky382 nin0) fy382_0 fy382_1 fy382_2 fy382_3 ⟨Arr_keep hcv.1 Ky382, hcv.2.1.keep Ky382, hcv.2.2.1, hcv.2.2.2⟩ hwc (own_wlc _ _ _) (by decide) (by decide) (by decide) own_nlc0 own_nlc1 own_nlc2 (own_eqb0 (by decide)) (own_eqb0 (by decide)) (own_same (n := 6) (k := 6) rfl own_nm2 Gp.2.2 Gz.2 hcy383) ney389 ney390 ney391) hZ (W_ hw 78) (W_ hw 11) (by decide) (by decide)) (g := (mkF m 470 #[iv p1, iv p2, iv p3, .val (.long pd), .second, iv 2, iv 1, iv zc, rv by1, rv ay302, rv t3, rv by382, rv t3, iv 6, iv dp, .val (.int (own_gt own_al2 dp.toNatClampNeg))] [(.ref by382)])) rfl (by rw [hml]; rfl) (argsL := [(.ref by382)]) (rest := []) (lenOf pd_24 rfl) rfl (lb rfl) (hb hby at_470) (fun _ _ => ⟨rfl, rfl, (by decide : 11 + 2 ≤ _), (by decide : 100 + 4 ≤ _)⟩))
          obtain ⟨by392, rfl, bzy392, Nqy392, Kcy392, fy392_0, fy392_1⟩ := hQy392
          have Ny392 := Fr.app Ny382 Nqy392
          have gzy392 : n0 ≤ by392 := Nat.le_trans Zy382 bzy392
          have szy392 : h0.size ≤ by392 := Nat.le_trans Ky382.1 bzy392
          have Zy392 := Nat.le_trans Zy382 Kcy392.1
          have Ky392 := Ky382.trans Kcy392 all0
          refine FinW.step (sty392) ?_
          show FinW p e below s _ _ _ (Ty392.setTop (mkF m 473 #[iv p1, iv p2, iv p3, .val (.long pd), .second, iv 2, iv 1, iv zc, rv by1, rv ay302, rv t3, rv by382, rv t3, iv 6, iv dp, .val (.int (own_gt own_al2 dp.toNatClampNeg))] [(.ref by392)]))
          refine FinW.step (fun _ k => Yo.astore Xy392.here hx (hb hby at_473) rfl rfl (l' := #[iv p1, iv p2, iv p3, .val (.long pd), .second, iv 2, iv 1, iv zc, rv by1, rv ay302, rv t3, rv by382, rv t3, rv by392, iv dp, .val (.int (own_gt own_al2 dp.toNatClampNeg))]) rfl (Yo.aload Xy392.here hx (hb hby at_475) rfl rfl (Yo.aconstNull Xy392.here hx (hb hby at_477) k))) ?_
          obtain ⟨cqy393, kqy393, qy393a, qy393b, qy393c⟩ := isOf hZ rfl fy392_0
          obtain ⟨_, Ty393, Lcy393, Xy393, hQy393, sty393⟩ := pack (Xy392.virtualBack hx (y := n23) (z := n23) hown (mvT hZ (W_ hw 124)) (mvT hZ (W_ hw 125)) (notFace_of_selects (args := #[]) (mvT hZ (W_ hw 127))) (mvT hZ (W_ hw 127)) (mvT hZ (W_ hw 126)) (by decide) (backOf (W := 0) (rmor1 l Z a0 hw [] by392 t3 Ty392.heap n0 Zy392 fy392_1) hZ (W_ hw 128) (W_ hw 109) (by decide) (by decide)) qy393a qy393c (g := (mkF m 478 #[iv p1, iv p2, iv p3, .val (.long pd), .second, iv 2, iv 1, iv zc, rv by1, rv ay302, rv t3, rv by382, rv t3, rv by392, iv dp, .val (.int (own_gt own_al2 dp.toNatClampNeg))] [.null, (.ref by392)])) rfl (by rw [hml]; rfl) (Steps.refl _) (argsL := [.null]) (rest := []) (lenOf pd_16 rfl) rfl (lb rfl) (hb hby at_478) (fun _ _ => ⟨rfl, rfl, (by decide : 13 + 0 ≤ _), (by decide : 104 + 0 ≤ _)⟩))
          obtain ⟨rfl, Nqy393, eqy393⟩ := hQy393
          have Ny393 := Fr.app Ny392 Nqy393
          refine FinW.step (sty393) ?_
          show FinW p e below s _ _ _ (Ty393.setTop (mkF m 481 #[iv p1, iv p2, iv p3, .val (.long pd), .second, iv 2, iv 1, iv zc, rv by1, rv ay302, rv t3, rv by382, rv t3, rv by392, iv dp, .val (.int (own_gt own_al2 dp.toNatClampNeg))] [(.ref t3)]))
          refine FinW.step (fun _ k => Yo.aload Xy393.here hx (hb hby at_481) rfl rfl k) ?_
          refine FinW.step (fun _ => Jvm.RoadKit.acmp (g := (mkF m 483 #[iv p1, iv p2, iv p3, .val (.long pd), .second, iv 2, iv 1, iv zc, rv by1, rv ay302, rv t3, rv by382, rv t3, rv by392, iv dp, .val (.int (own_gt own_al2 dp.toNatClampNeg))] [(.ref t3), (.ref t3)])) Xy393 hx rfl rfl rfl (pc0 := 483) (pc' := 486) (same := true) rfl (hb hby at_483) rfl (decide_eq_true rfl) (by decide) (by decide)) ?_
          show FinW p e below s _ _ _ (Ty393.setTop (mkF m 486 #[iv p1, iv p2, iv p3, .val (.long pd), .second, iv 2, iv 1, iv zc, rv by1, rv ay302, rv t3, rv by382, rv t3, rv by392, iv dp, .val (.int (own_gt own_al2 dp.toNatClampNeg))] []))
          refine FinW.step (fun _ k => Yo.iconst Xy393.here hx (hb hby at_486) (Yo.goto Xy393.here hx (pc0 := 487) (pc' := 491) rfl (hb hby at_487) (by decide) (by decide) k)) ?_
          have hky394 := (Nat.le_trans (Nat.le_trans (Nat.le_trans (Nat.le_trans (Nat.le_trans (Nat.le_trans (Nat.le_trans (Nat.le_trans (Nat.le_trans (Nat.le_trans (Nat.le_trans hky302 (Keep.of_wr Wy308).1) (Keep.of_wr Wy313).1) (Keep.of_wr Wy318).1) (Keep.of_wr Wy326).1) (Keep.of_wr Wy331).1) (Keep.of_wr Wy336).1) (Keep.of_wr Wy343).1) (Keep.of_wr Wy348).1) (Keep.of_wr Wy364).1) Kcy382.1) Kcy392.1)
          refine FinW.retN Xy393 hSy302 (by rw [eqy393]; exact hky394) hx (t := .boolean) hret (by simp) hlk (hb hby at_491) (by decide) (by decide) ?_
          show Q0 Z p1 p2 p3 pd wc fv eo av cv t1 t2 t3 s1 v1 k1 s2 v2 k2 s3 v3 k3 h0 n0 _ Ty393.heap _
          rw [eqy393]
          exact ⟨rfl, Ny393, Ky392⟩
        · refine FinW.step (fun _ k => Yo.icmpYes Xy382.here hx (pc0 := 245) (pc' := 253) rfl (hb hby at_245) rfl (feq (hcy383 : ¬ (zc = (own_gt own_al2 dp.toNatClampNeg)))).2 (by decide) (by decide) (Yo.aconstNull Xy382.here hx (hb hby at_253) (Yo.astore Xy382.here hx (hb hby at_254) rfl rfl (l' := #[iv p1, iv p2, iv p3, .val (.long pd), .second, iv 2, iv 1, iv zc, rv by1, rv ay302, rv t3, rv by382, .val .null, iv 6, iv dp, .val (.int (own_gt own_al2 dp.toNatClampNeg))]) rfl (Yo.goto Xy382.here hx (pc0 := 256) (pc' := 303) rfl (hb hby at_256) (by decide) (by decide) (Yo.goto Xy382.here hx (pc0 := 303) (pc' := 468) rfl (hb hby at_303) (by decide) (by decide) (Yo.aload Xy382.here hx (hb hby at_468) rfl rfl k)))))) ?_
          have ry395 := (Sta_keep HS_com_example_model_for_reads_modelforreads_model_FieldType__VALUES Ky382)
          have ry396 := (Sta_keep HS_java_util_Optional_EMPTY Ky382)
          have ry397 := (HF_t1_modelName.keep Ky382 nin0)
          have ry398 := (HF_t2_modelName.keep Ky382 nin0)
          have ry399 := (HF_t3_modelName.keep Ky382 nin0)
          have ney400 := nlt HE_s1.lt szy382
          have ney401 := nlt HE_s2.lt szy382
          have ney402 := nlt HE_s3.lt szy382
          obtain ⟨_, Ty403, Lcy403, Xy403, hQy403, sty403⟩ := packS (Jvm.LawKit.callS Xy382 hx (y := n16) hown (mvT hZ (W_ hw 76)) (mvT hZ (W_ hw 77)) (mvT hZ (W_ hw 11)) (mvT hZ (W_ hw 78)) (by decide) (backOf (W := 0) (rmfmL0 l Z a0 hw [] by382 av cv t1 t2 t3 eo wc s1 v1 k1 3 _ s2 v2 k2 7 _ s3 v3 k3 6 _ nb_y382 kn_y382 6 _ Ty382.heap n0 Zy382 ry395 ry396 (Sta_keepW ry381 Kcy382 all0) ry397 (HE_s1.keep Ky382) (HF_s1_coder.keep Ky382 nin0) (HF_s1_value.keep Ky382 nin0) (HV_v1.keep Ky382 nin0) ry398 (HE_s2.keep Ky382) (HF_s2_coder.keep Ky382 nin0) (HF_s2_value.keep Ky382 nin0) (HV_v2.keep Ky382 nin0) ry399 (HE_s3.keep Ky382) (HF_s3_coder.keep Ky382 nin0) (HF_s3_value.keep Ky382 nin0) (HV_v3.keep Ky382 nin0) fy382_0 fy382_1 fy382_2 fy382_3 ⟨Arr_keep hcv.1 Ky382, hcv.2.1.keep Ky382, hcv.2.2.1, hcv.2.2.2⟩ hwc (own_wlc _ _ _) (by decide) (by decide) (by decide) own_nlc0 own_nlc1 own_nlc2 (own_eqb0 (by decide)) (own_eqb0 (by decide)) (own_diff (n := 6) (k := 6) rfl own_nm2 Gp.2.2 Gz.2 Gz.1.1 hbg hcy383) ney400 ney401 ney402) hZ (W_ hw 78) (W_ hw 11) (by decide) (by decide)) (g := (mkF m 470 #[iv p1, iv p2, iv p3, .val (.long pd), .second, iv 2, iv 1, iv zc, rv by1, rv ay302, rv t3, rv by382, .val .null, iv 6, iv dp, .val (.int (own_gt own_al2 dp.toNatClampNeg))] [(.ref by382)])) rfl (by rw [hml]; rfl) (argsL := [(.ref by382)]) (rest := []) (lenOf pd_24 rfl) rfl (lb rfl) (hb hby at_470) (fun _ _ => ⟨rfl, rfl, (by decide : 11 + 1 ≤ _), (by decide : 100 + 3 ≤ _)⟩))
          obtain ⟨rfl, Nqy403, Kcy403⟩ := hQy403
          have Ny403 := Fr.app Ny382 Nqy403
          have Zy403 := Nat.le_trans Zy382 Kcy403.1
          have Ky403 := Ky382.trans Kcy403 all0
          refine FinW.step (sty403) ?_
          show FinW p e below s _ _ _ (Ty403.setTop (mkF m 473 #[iv p1, iv p2, iv p3, .val (.long pd), .second, iv 2, iv 1, iv zc, rv by1, rv ay302, rv t3, rv by382, .val .null, iv 6, iv dp, .val (.int (own_gt own_al2 dp.toNatClampNeg))] [(.ref eo)]))
          refine FinW.step (fun _ k => Yo.astore Xy403.here hx (hb hby at_473) rfl rfl (l' := #[iv p1, iv p2, iv p3, .val (.long pd), .second, iv 2, iv 1, iv zc, rv by1, rv ay302, rv t3, rv by382, .val .null, rv eo, iv dp, .val (.int (own_gt own_al2 dp.toNatClampNeg))]) rfl (Yo.aload Xy403.here hx (hb hby at_475) rfl rfl (Yo.aconstNull Xy403.here hx (hb hby at_477) k))) ?_
          obtain ⟨cqy404, kqy404, qy404a, qy404b, qy404c⟩ := isOf hZ rfl (HE_eo.keep Ky403)
          obtain ⟨_, Ty404, Lcy404, Xy404, hQy404, sty404⟩ := pack (Xy403.virtualBack hx (y := n23) (z := n23) hown (mvT hZ (W_ hw 124)) (mvT hZ (W_ hw 125)) (notFace_of_selects (args := #[]) (mvT hZ (W_ hw 127))) (mvT hZ (W_ hw 127)) (mvT hZ (W_ hw 126)) (by decide) (backOf (W := 0) (rmor0 l Z a0 hw [] eo Ty403.heap n0 Zy403 (HF_eo_value.keep Ky403 nin0)) hZ (W_ hw 128) (W_ hw 109) (by decide) (by decide)) qy404a qy404c (g := (mkF m 478 #[iv p1, iv p2, iv p3, .val (.long pd), .second, iv 2, iv 1, iv zc, rv by1, rv ay302, rv t3, rv by382, .val .null, rv eo, iv dp, .val (.int (own_gt own_al2 dp.toNatClampNeg))] [.null, (.ref eo)])) rfl (by rw [hml]; rfl) (Steps.refl _) (argsL := [.null]) (rest := []) (lenOf pd_16 rfl) rfl (lb rfl) (hb hby at_478) (fun _ _ => ⟨rfl, rfl, (by decide : 12 + 0 ≤ _), (by decide : 103 + 0 ≤ _)⟩))
          obtain ⟨rfl, Nqy404, eqy404⟩ := hQy404
          have Ny404 := Fr.app Ny403 Nqy404
          refine FinW.step (sty404) ?_
          show FinW p e below s _ _ _ (Ty404.setTop (mkF m 481 #[iv p1, iv p2, iv p3, .val (.long pd), .second, iv 2, iv 1, iv zc, rv by1, rv ay302, rv t3, rv by382, .val .null, rv eo, iv dp, .val (.int (own_gt own_al2 dp.toNatClampNeg))] [.null]))
          refine FinW.step (fun _ k => Yo.aload Xy404.here hx (hb hby at_481) rfl rfl k) ?_
          refine FinW.step (fun _ => Jvm.RoadKit.acmp (g := (mkF m 483 #[iv p1, iv p2, iv p3, .val (.long pd), .second, iv 2, iv 1, iv zc, rv by1, rv ay302, rv t3, rv by382, .val .null, rv eo, iv dp, .val (.int (own_gt own_al2 dp.toNatClampNeg))] [.null, .null])) Xy404 hx rfl rfl rfl (pc0 := 483) (pc' := 486) (same := true) rfl (hb hby at_483) rfl (decide_eq_true rfl) (by decide) (by decide)) ?_
          show FinW p e below s _ _ _ (Ty404.setTop (mkF m 486 #[iv p1, iv p2, iv p3, .val (.long pd), .second, iv 2, iv 1, iv zc, rv by1, rv ay302, rv t3, rv by382, .val .null, rv eo, iv dp, .val (.int (own_gt own_al2 dp.toNatClampNeg))] []))
          refine FinW.step (fun _ k => Yo.iconst Xy404.here hx (hb hby at_486) (Yo.goto Xy404.here hx (pc0 := 487) (pc' := 491) rfl (hb hby at_487) (by decide) (by decide) k)) ?_
          have hky405 := (Nat.le_trans (Nat.le_trans (Nat.le_trans (Nat.le_trans (Nat.le_trans (Nat.le_trans (Nat.le_trans (Nat.le_trans (Nat.le_trans (Nat.le_trans (Nat.le_trans hky302 (Keep.of_wr Wy308).1) (Keep.of_wr Wy313).1) (Keep.of_wr Wy318).1) (Keep.of_wr Wy326).1) (Keep.of_wr Wy331).1) (Keep.of_wr Wy336).1) (Keep.of_wr Wy343).1) (Keep.of_wr Wy348).1) (Keep.of_wr Wy364).1) Kcy382.1) Kcy403.1)
          refine FinW.retN Xy404 hSy302 (by rw [eqy404]; exact hky405) hx (t := .boolean) hret (by simp) hlk (hb hby at_491) (by decide) (by decide) ?_
          show Q0 Z p1 p2 p3 pd wc fv eo av cv t1 t2 t3 s1 v1 k1 s2 v2 k2 s3 v3 k3 h0 n0 _ Ty404.heap _
          rw [eqy404]
          exact ⟨rfl, Ny404, Ky403⟩
    · show FinW p e below s _ _ _ (Ty348.setTop (mkF m 182 #[iv p1, iv p2, iv p3, .val (.long pd), .second, iv 2, iv 2, iv zc, rv by1, rv ay302, rv t3, u_, u_, iv 6, u_, u_] []))
      refine FinW.step (fun _ k => Yo.iload Xy348.here hx (hb hby at_182) rfl (Yo.ifYes Xy348.here hx (pc0 := 184) (pc' := 203) rfl (hb hby at_184) rfl ((if0 _ _).trans (feq ((by decide) : ¬ ((2 : Int32) = (0 : Int32)))).2) (by decide) (by decide) (Yo.iload Xy348.here hx (hb hby at_203) rfl (Yo.iconst Xy348.here hx (hb hby at_205) (Yo.icmpYes Xy348.here hx (pc0 := 206) (pc' := 259) rfl (hb hby at_206) rfl (feq ((by decide) : ¬ ((2 : Int32) = (1 : Int32)))).2 (by decide) (by decide) (Yo.iload Xy348.here hx (hb hby at_259) rfl (Yo.iconst Xy348.here hx (hb hby at_261) (Yo.icmpNo Xy348.here hx (hb hby at_262) rfl (teq ((by decide) : ((2 : Int32) = (2 : Int32)))).2 k)))))))) ?_
      refine FinW.step (fun _ k => Yo.aload Xy348.here hx (hb hby at_265) rfl rfl (Yo.iload Xy348.here hx (hb hby at_267) rfl (Yo.iconst Xy348.here hx (hb hby at_269) (Yo.isub Xy348.here hx (hb hby at_270) rfl k)))) ?_
      show FinW p e below s _ _ _ (Ty348.setTop (mkF m 271 #[iv p1, iv p2, iv p3, .val (.long pd), .second, iv 2, iv 2, iv zc, rv by1, rv ay302, rv t3, u_, u_, iv 6, u_, u_] [(.int 5), (.ref by1)]))
      obtain ⟨_, Ty406, Lcy406, Xy406, hQy406, sty406⟩ := packS (Jvm.LawKit.callS Xy348 hx (y := n9) hown (mvT hZ (W_ hw 52)) (mvT hZ (W_ hw 53)) (mvT hZ (W_ hw 28)) (mvT hZ (W_ hw 54)) (by decide) (backOf (W := 0) (rmstL5 l Z a0 hw [] by1 ky1 own_al2 wc hy348 n0 Zy348 Vy349 ((ry341.wr Wy343).wr Wy348) own_alc2 hwc (own_latk own_als2 5)) hZ (W_ hw 54) (W_ hw 28) (by decide) (by decide)) (g := (mkF m 271 #[iv p1, iv p2, iv p3, .val (.long pd), .second, iv 2, iv 2, iv zc, rv by1, rv ay302, rv t3, u_, u_, iv 6, u_, u_] [(.int 5), (.ref by1)])) rfl (by rw [hml]; rfl) (argsL := [(.ref by1), (.int 5)]) (rest := []) (lenOf pd_23 rfl) rfl (lb rfl) (hb hby at_271) (fun _ _ => ⟨rfl, ey348, (by decide : 3 + 8 ≤ _), (by decide : 36 + 64 ≤ _)⟩))
      obtain ⟨nb_y406, kn_y406, by406, rfl, bzy406, bfy406_0, Nqy406, Kcy406, fy406_0, fy406_1, fy406_2, fy406_3, ney406_0⟩ := hQy406
      have Ny406 := Fr.app Ny348 Nqy406
      have gzy406 : n0 ≤ by406 := Nat.le_trans Zy348 bzy406
      have szy406 : h0.size ≤ by406 := Nat.le_trans Ky348.1 bzy406
      have gzy406_0 : n0 ≤ nb_y406 := Nat.le_trans Zy348 bfy406_0
      have szy406_0 : h0.size ≤ nb_y406 := Nat.le_trans Ky348.1 bfy406_0
      have Zy406 := Nat.le_trans Zy348 Kcy406.1
      have Ky406 := Ky348.trans Kcy406 all0
      refine FinW.step (sty406) ?_
      show FinW p e below s _ _ _ (Ty406.setTop (mkF m 274 #[iv p1, iv p2, iv p3, .val (.long pd), .second, iv 2, iv 2, iv zc, rv by1, rv ay302, rv t3, u_, u_, iv 6, u_, u_] [(.ref by406)]))
      refine FinW.step (fun _ k => Yo.astore Xy406.here hx (hb hby at_274) rfl rfl (l' := #[iv p1, iv p2, iv p3, .val (.long pd), .second, iv 2, iv 2, iv zc, rv by1, rv ay302, rv t3, rv by406, u_, iv 6, u_, u_]) rfl (Yo.aconstNull Xy406.here hx (hb hby at_276) (Yo.astore Xy406.here hx (hb hby at_277) rfl rfl (l' := #[iv p1, iv p2, iv p3, .val (.long pd), .second, iv 2, iv 2, iv zc, rv by1, rv ay302, rv t3, rv by406, .val .null, iv 6, u_, u_]) rfl (Yo.goto Xy406.here hx (pc0 := 279) (pc' := 303) rfl (hb hby at_279) (by decide) (by decide) (Yo.goto Xy406.here hx (pc0 := 303) (pc' := 468) rfl (hb hby at_303) (by decide) (by decide) (Yo.aload Xy406.here hx (hb hby at_468) rfl rfl k)))))) ?_
      have ry407 := (Sta_keep HS_com_example_model_for_reads_modelforreads_model_FieldType__VALUES Ky406)
      have ry408 := (Sta_keep HS_java_util_Optional_EMPTY Ky406)
      have ry409 := (Sta_keepW ((ry341.wr Wy343).wr Wy348) Kcy406 all0)
      have ry410 := (HF_t1_modelName.keep Ky406 nin0)
      have ry411 := (HF_t2_modelName.keep Ky406 nin0)
      have ry412 := (HF_t3_modelName.keep Ky406 nin0)
      have ney413 := nlt HE_s1.lt szy406
      have ney414 := nlt HE_s2.lt szy406
      have ney415 := nlt HE_s3.lt szy406
      obtain ⟨_, Ty416, Lcy416, Xy416, hQy416, sty416⟩ := packS (Jvm.LawKit.callS Xy406 hx (y := n16) hown (mvT hZ (W_ hw 76)) (mvT hZ (W_ hw 77)) (mvT hZ (W_ hw 11)) (mvT hZ (W_ hw 78)) (by decide) (backOf (W := 0) (rmfmL0 l Z a0 hw [] by406 av cv t1 t2 t3 eo wc s1 v1 k1 3 _ s2 v2 k2 7 _ s3 v3 k3 6 _ nb_y406 kn_y406 5 _ Ty406.heap n0 Zy406 ry407 ry408 ry409 ry410 (HE_s1.keep Ky406) (HF_s1_coder.keep Ky406 nin0) (HF_s1_value.keep Ky406 nin0) (HV_v1.keep Ky406 nin0) ry411 (HE_s2.keep Ky406) (HF_s2_coder.keep Ky406 nin0) (HF_s2_value.keep Ky406 nin0) (HV_v2.keep Ky406 nin0) ry412 (HE_s3.keep Ky406) (HF_s3_coder.keep Ky406 nin0) (HF_s3_value.keep Ky406 nin0) (HV_v3.keep Ky406 nin0) fy406_0 fy406_1 fy406_2 fy406_3 ⟨Arr_keep hcv.1 Ky406, hcv.2.1.keep Ky406, hcv.2.2.1, hcv.2.2.2⟩ hwc (own_wlc _ _ _) (by decide) (by decide) (by decide) own_nlc0 own_nlc1 own_nlc2 (own_eqb0 (by decide)) (own_eqb0 (by decide)) (own_eqb0 (by decide)) ney413 ney414 ney415) hZ (W_ hw 78) (W_ hw 11) (by decide) (by decide)) (g := (mkF m 470 #[iv p1, iv p2, iv p3, .val (.long pd), .second, iv 2, iv 2, iv zc, rv by1, rv ay302, rv t3, rv by406, .val .null, iv 6, u_, u_] [(.ref by406)])) rfl (by rw [hml]; rfl) (argsL := [(.ref by406)]) (rest := []) (lenOf pd_24 rfl) rfl (lb rfl) (hb hby at_470) (fun _ _ => ⟨rfl, rfl, (by decide : 11 + 1 ≤ _), (by decide : 100 + 3 ≤ _)⟩))
      obtain ⟨rfl, Nqy416, Kcy416⟩ := hQy416
      have Ny416 := Fr.app Ny406 Nqy416
      have Zy416 := Nat.le_trans Zy406 Kcy416.1
      have Ky416 := Ky406.trans Kcy416 all0
      refine FinW.step (sty416) ?_
      show FinW p e below s _ _ _ (Ty416.setTop (mkF m 473 #[iv p1, iv p2, iv p3, .val (.long pd), .second, iv 2, iv 2, iv zc, rv by1, rv ay302, rv t3, rv by406, .val .null, iv 6, u_, u_] [(.ref eo)]))
      refine FinW.step (fun _ k => Yo.astore Xy416.here hx (hb hby at_473) rfl rfl (l' := #[iv p1, iv p2, iv p3, .val (.long pd), .second, iv 2, iv 2, iv zc, rv by1, rv ay302, rv t3, rv by406, .val .null, rv eo, u_, u_]) rfl (Yo.aload Xy416.here hx (hb hby at_475) rfl rfl (Yo.aconstNull Xy416.here hx (hb hby at_477) k))) ?_
      obtain ⟨cqy417, kqy417, qy417a, qy417b, qy417c⟩ := isOf hZ rfl (HE_eo.keep Ky416)
      obtain ⟨_, Ty417, Lcy417, Xy417, hQy417, sty417⟩ := pack (Xy416.virtualBack hx (y := n23) (z := n23) hown (mvT hZ (W_ hw 124)) (mvT hZ (W_ hw 125)) (notFace_of_selects (args := #[]) (mvT hZ (W_ hw 127))) (mvT hZ (W_ hw 127)) (mvT hZ (W_ hw 126)) (by decide) (backOf (W := 0) (rmor0 l Z a0 hw [] eo Ty416.heap n0 Zy416 (HF_eo_value.keep Ky416 nin0)) hZ (W_ hw 128) (W_ hw 109) (by decide) (by decide)) qy417a qy417c (g := (mkF m 478 #[iv p1, iv p2, iv p3, .val (.long pd), .second, iv 2, iv 2, iv zc, rv by1, rv ay302, rv t3, rv by406, .val .null, rv eo, u_, u_] [.null, (.ref eo)])) rfl (by rw [hml]; rfl) (Steps.refl _) (argsL := [.null]) (rest := []) (lenOf pd_16 rfl) rfl (lb rfl) (hb hby at_478) (fun _ _ => ⟨rfl, rfl, (by decide : 12 + 0 ≤ _), (by decide : 103 + 0 ≤ _)⟩))
      obtain ⟨rfl, Nqy417, eqy417⟩ := hQy417
      have Ny417 := Fr.app Ny416 Nqy417
      refine FinW.step (sty417) ?_
      show FinW p e below s _ _ _ (Ty417.setTop (mkF m 481 #[iv p1, iv p2, iv p3, .val (.long pd), .second, iv 2, iv 2, iv zc, rv by1, rv ay302, rv t3, rv by406, .val .null, rv eo, u_, u_] [.null]))
      refine FinW.step (fun _ k => Yo.aload Xy417.here hx (hb hby at_481) rfl rfl k) ?_
      refine FinW.step (fun _ => Jvm.RoadKit.acmp (g := (mkF m 483 #[iv p1, iv p2, iv p3, .val (.long pd), .second, iv 2, iv 2, iv zc, rv by1, rv ay302, rv t3, rv by406, .val .null, rv eo, u_, u_] [.null, .null])) Xy417 hx rfl rfl rfl (pc0 := 483) (pc' := 486) (same := true) rfl (hb hby at_483) rfl (decide_eq_true rfl) (by decide) (by decide)) ?_
      show FinW p e below s _ _ _ (Ty417.setTop (mkF m 486 #[iv p1, iv p2, iv p3, .val (.long pd), .second, iv 2, iv 2, iv zc, rv by1, rv ay302, rv t3, rv by406, .val .null, rv eo, u_, u_] []))
      refine FinW.step (fun _ k => Yo.iconst Xy417.here hx (hb hby at_486) (Yo.goto Xy417.here hx (pc0 := 487) (pc' := 491) rfl (hb hby at_487) (by decide) (by decide) k)) ?_
      have hky418 := (Nat.le_trans (Nat.le_trans (Nat.le_trans (Nat.le_trans (Nat.le_trans (Nat.le_trans (Nat.le_trans (Nat.le_trans (Nat.le_trans (Nat.le_trans hky302 (Keep.of_wr Wy308).1) (Keep.of_wr Wy313).1) (Keep.of_wr Wy318).1) (Keep.of_wr Wy326).1) (Keep.of_wr Wy331).1) (Keep.of_wr Wy336).1) (Keep.of_wr Wy343).1) (Keep.of_wr Wy348).1) Kcy406.1) Kcy416.1)
      refine FinW.retN Xy417 hSy302 (by rw [eqy417]; exact hky418) hx (t := .boolean) hret (by simp) hlk (hb hby at_491) (by decide) (by decide) ?_
      show Q0 Z p1 p2 p3 pd wc fv eo av cv t1 t2 t3 s1 v1 k1 s2 v2 k2 s3 v3 k3 h0 n0 _ Ty417.heap _
      rw [eqy417]
      exact ⟨rfl, Ny417, Ky416⟩
    · show FinW p e below s _ _ _ (Ty348.setTop (mkF m 182 #[iv p1, iv p2, iv p3, .val (.long pd), .second, iv 2, iv 3, iv zc, rv by1, rv ay302, rv t3, u_, u_, iv 6, u_, u_] []))
      refine FinW.step (fun _ k => Yo.iload Xy348.here hx (hb hby at_182) rfl (Yo.ifYes Xy348.here hx (pc0 := 184) (pc' := 203) rfl (hb hby at_184) rfl ((if0 _ _).trans (feq ((by decide) : ¬ ((3 : Int32) = (0 : Int32)))).2) (by decide) (by decide) (Yo.iload Xy348.here hx (hb hby at_203) rfl (Yo.iconst Xy348.here hx (hb hby at_205) (Yo.icmpYes Xy348.here hx (pc0 := 206) (pc' := 259) rfl (hb hby at_206) rfl (feq ((by decide) : ¬ ((3 : Int32) = (1 : Int32)))).2 (by decide) (by decide) (Yo.iload Xy348.here hx (hb hby at_259) rfl (Yo.iconst Xy348.here hx (hb hby at_261) (Yo.icmpYes Xy348.here hx (pc0 := 262) (pc' := 282) rfl (hb hby at_262) rfl (feq ((by decide) : ¬ ((3 : Int32) = (2 : Int32)))).2 (by decide) (by decide) k)))))))) ?_
      rcases Classical.em ((255 : Int32) < zc) with hbg | hbg
      · show FinW p e below s _ _ _ (Ty348.setTop (mkF m 282 #[iv p1, iv p2, iv p3, .val (.long pd), .second, iv 2, iv 3, iv zc, rv by1, rv ay302, rv t3, u_, u_, iv 6, u_, u_] []))
        refine FinW.step (fun _ k => Yo.aload Xy348.here hx (hb hby at_282) rfl rfl (Yo.iload Xy348.here hx (hb hby at_284) rfl (Yo.iload Xy348.here hx (hb hby at_286) rfl k))) ?_
        obtain ⟨Ty419, hy419, Xy419, ey419, Wy419, Vy419, Ny419, Zy419, Ky419, sty419⟩ := cst3 Xy348 hx hZ ey348 (j := 6) (x := zc) (ix := 6) Vy349 ⟨by decide, by decide⟩ rfl (by decide) Ny348 Zy348 Ky348 gzy1 (Or.inr szy1) (hb hby at_288)
        refine FinW.step (sty419) ?_
        refine FinW.step (fun _ k => Yo.aload Xy419.here hx (hb hby at_289) rfl rfl (Yo.iload Xy419.here hx (hb hby at_291) rfl (Yo.iconst Xy419.here hx (hb hby at_293) (Yo.iadd Xy419.here hx (hb hby at_294) rfl k)))) ?_
        show FinW p e below s _ _ _ (Ty419.setTop (mkF m 295 #[iv p1, iv p2, iv p3, .val (.long pd), .second, iv 2, iv 3, iv zc, rv by1, rv ay302, rv t3, u_, u_, iv 6, u_, u_] [(.int 7), (.ref by1)]))
        have ry420 := (((ry341.wr Wy343).wr Wy348).wr Wy419)
        have ry421 := (Sta_keep HS_java_lang_StringUTF16__assertionsDisabled Ky419)
        have ry422 := (Sta_keep HS_java_lang_StringUTF16_HI_BYTE_SHIFT Ky419)
        have ry423 := (Sta_keep HS_java_lang_StringUTF16_LO_BYTE_SHIFT Ky419)
        obtain ⟨_, Ty424, Lcy424, Xy424, hQy424, sty424⟩ := packS (Jvm.LawKit.callS Xy419 hx (y := n9) hown (mvT hZ (W_ hw 52)) (mvT hZ (W_ hw 53)) (mvT hZ (W_ hw 28)) (mvT hZ (W_ hw 54)) (by decide) (backOf (W := 0) (rmstU7 l Z a0 hw [] by1 ky1 _ wc 6 hy419 n0 Zy419 Vy419 ry420 ry421 ry422 ry423 (own_chset own_alc2 _ _) hwc (by decide) (own_hu Gz.2 (by decide) (Nat.le_of_lt (by decide)) own_als2) (own_hb Gz.2 (by decide) (by decide) hbg) (own_hr Gz.2 (by decide) (by decide) Gz.1)) hZ (W_ hw 54) (W_ hw 28) (by decide) (by decide)) (g := (mkF m 295 #[iv p1, iv p2, iv p3, .val (.long pd), .second, iv 2, iv 3, iv zc, rv by1, rv ay302, rv t3, u_, u_, iv 6, u_, u_] [(.int 7), (.ref by1)])) rfl (by rw [hml]; rfl) (argsL := [(.ref by1), (.int 7)]) (rest := []) (lenOf pd_23 rfl) rfl (lb rfl) (hb hby at_295) (fun _ _ => ⟨rfl, ey419, (by decide : 3 + 4 ≤ _), (by decide : 36 + 35 ≤ _)⟩))
        obtain ⟨nb_y424, kn_y424, lz_y424, by424, rfl, bzy424, bfy424_0, Nqy424, Kcy424, fy424_0, fy424_1, fy424_2, fy424_3, ney424_0⟩ := hQy424
        have Ny424 := Fr.app Ny419 Nqy424
        have gzy424 : n0 ≤ by424 := Nat.le_trans Zy419 bzy424
        have szy424 : h0.size ≤ by424 := Nat.le_trans Ky419.1 bzy424
        have gzy424_0 : n0 ≤ nb_y424 := Nat.le_trans Zy419 bfy424_0
        have szy424_0 : h0.size ≤ nb_y424 := Nat.le_trans Ky419.1 bfy424_0
        have Zy424 := Nat.le_trans Zy419 Kcy424.1
        have Ky424 := Ky419.trans Kcy424 all0
        refine FinW.step (sty424) ?_
        show FinW p e below s _ _ _ (Ty424.setTop (mkF m 298 #[iv p1, iv p2, iv p3, .val (.long pd), .second, iv 2, iv 3, iv zc, rv by1, rv ay302, rv t3, u_, u_, iv 6, u_, u_] [(.ref by424)]))
        refine FinW.step (fun _ k => Yo.astore Xy424.here hx (hb hby at_298) rfl rfl (l' := #[iv p1, iv p2, iv p3, .val (.long pd), .second, iv 2, iv 3, iv zc, rv by1, rv ay302, rv t3, rv by424, u_, iv 6, u_, u_]) rfl (Yo.aconstNull Xy424.here hx (hb hby at_300) (Yo.astore Xy424.here hx (hb hby at_301) rfl rfl (l' := #[iv p1, iv p2, iv p3, .val (.long pd), .second, iv 2, iv 3, iv zc, rv by1, rv ay302, rv t3, rv by424, .val .null, iv 6, u_, u_]) rfl (Yo.goto Xy424.here hx (pc0 := 303) (pc' := 468) rfl (hb hby at_303) (by decide) (by decide) (Yo.aload Xy424.here hx (hb hby at_468) rfl rfl k))))) ?_
        have ry425 := (Sta_keep HS_com_example_model_for_reads_modelforreads_model_FieldType__VALUES Ky424)
        have ry426 := (Sta_keep HS_java_util_Optional_EMPTY Ky424)
        have ry427 := (HF_t1_modelName.keep Ky424 nin0)
        have ry428 := (HF_t2_modelName.keep Ky424 nin0)
        have ry429 := (HF_t3_modelName.keep Ky424 nin0)
        have ney430 := nlt HE_s1.lt szy424
        have ney431 := nlt HE_s2.lt szy424
        have ney432 := nlt HE_s3.lt szy424
        obtain ⟨_, Ty433, Lcy433, Xy433, hQy433, sty433⟩ := packS (Jvm.LawKit.callS Xy424 hx (y := n16) hown (mvT hZ (W_ hw 76)) (mvT hZ (W_ hw 77)) (mvT hZ (W_ hw 11)) (mvT hZ (W_ hw 78)) (by decide) (backOf (W := 0) (rmfmU0 l Z a0 hw [] by424 av cv t1 t2 t3 eo wc s1 v1 k1 3 _ s2 v2 k2 7 _ s3 v3 k3 6 _ Ty424.heap n0 Zy424 ry425 ry426 (Sta_keepW ry420 Kcy424 all0) ry427 (HE_s1.keep Ky424) (HF_s1_coder.keep Ky424 nin0) (HF_s1_value.keep Ky424 nin0) (HV_v1.keep Ky424 nin0) ry428 (HE_s2.keep Ky424) (HF_s2_coder.keep Ky424 nin0) (HF_s2_value.keep Ky424 nin0) (HV_v2.keep Ky424 nin0) ry429 (HE_s3.keep Ky424) (HF_s3_coder.keep Ky424 nin0) (HF_s3_value.keep Ky424 nin0) (HV_v3.keep Ky424 nin0) fy424_0 fy424_1 ⟨Arr_keep hcv.1 Ky424, hcv.2.1.keep Ky424, hcv.2.2.1, hcv.2.2.2⟩ hwc ney430 ney431 ney432) hZ (W_ hw 78) (W_ hw 11) (by decide) (by decide)) (g := (mkF m 470 #[iv p1, iv p2, iv p3, .val (.long pd), .second, iv 2, iv 3, iv zc, rv by1, rv ay302, rv t3, rv by424, .val .null, iv 6, u_, u_] [(.ref by424)])) rfl (by rw [hml]; rfl) (argsL := [(.ref by424)]) (rest := []) (lenOf pd_24 rfl) rfl (lb rfl) (hb hby at_470) (fun _ _ => ⟨rfl, rfl, (by decide : 7 + 1 ≤ _), (by decide : 71 + 3 ≤ _)⟩))
        obtain ⟨rfl, Nqy433, Kcy433⟩ := hQy433
        have Ny433 := Fr.app Ny424 Nqy433
        have Zy433 := Nat.le_trans Zy424 Kcy433.1
        have Ky433 := Ky424.trans Kcy433 all0
        refine FinW.step (sty433) ?_
        show FinW p e below s _ _ _ (Ty433.setTop (mkF m 473 #[iv p1, iv p2, iv p3, .val (.long pd), .second, iv 2, iv 3, iv zc, rv by1, rv ay302, rv t3, rv by424, .val .null, iv 6, u_, u_] [(.ref eo)]))
        refine FinW.step (fun _ k => Yo.astore Xy433.here hx (hb hby at_473) rfl rfl (l' := #[iv p1, iv p2, iv p3, .val (.long pd), .second, iv 2, iv 3, iv zc, rv by1, rv ay302, rv t3, rv by424, .val .null, rv eo, u_, u_]) rfl (Yo.aload Xy433.here hx (hb hby at_475) rfl rfl (Yo.aconstNull Xy433.here hx (hb hby at_477) k))) ?_
        obtain ⟨cqy434, kqy434, qy434a, qy434b, qy434c⟩ := isOf hZ rfl (HE_eo.keep Ky433)
        obtain ⟨_, Ty434, Lcy434, Xy434, hQy434, sty434⟩ := pack (Xy433.virtualBack hx (y := n23) (z := n23) hown (mvT hZ (W_ hw 124)) (mvT hZ (W_ hw 125)) (notFace_of_selects (args := #[]) (mvT hZ (W_ hw 127))) (mvT hZ (W_ hw 127)) (mvT hZ (W_ hw 126)) (by decide) (backOf (W := 0) (rmor0 l Z a0 hw [] eo Ty433.heap n0 Zy433 (HF_eo_value.keep Ky433 nin0)) hZ (W_ hw 128) (W_ hw 109) (by decide) (by decide)) qy434a qy434c (g := (mkF m 478 #[iv p1, iv p2, iv p3, .val (.long pd), .second, iv 2, iv 3, iv zc, rv by1, rv ay302, rv t3, rv by424, .val .null, rv eo, u_, u_] [.null, (.ref eo)])) rfl (by rw [hml]; rfl) (Steps.refl _) (argsL := [.null]) (rest := []) (lenOf pd_16 rfl) rfl (lb rfl) (hb hby at_478) (fun _ _ => ⟨rfl, rfl, (by decide : 8 + 0 ≤ _), (by decide : 74 + 0 ≤ _)⟩))
        obtain ⟨rfl, Nqy434, eqy434⟩ := hQy434
        have Ny434 := Fr.app Ny433 Nqy434
        refine FinW.step (sty434) ?_
        show FinW p e below s _ _ _ (Ty434.setTop (mkF m 481 #[iv p1, iv p2, iv p3, .val (.long pd), .second, iv 2, iv 3, iv zc, rv by1, rv ay302, rv t3, rv by424, .val .null, rv eo, u_, u_] [.null]))
        refine FinW.step (fun _ k => Yo.aload Xy434.here hx (hb hby at_481) rfl rfl k) ?_
        refine FinW.step (fun _ => Jvm.RoadKit.acmp (g := (mkF m 483 #[iv p1, iv p2, iv p3, .val (.long pd), .second, iv 2, iv 3, iv zc, rv by1, rv ay302, rv t3, rv by424, .val .null, rv eo, u_, u_] [.null, .null])) Xy434 hx rfl rfl rfl (pc0 := 483) (pc' := 486) (same := true) rfl (hb hby at_483) rfl (decide_eq_true rfl) (by decide) (by decide)) ?_
        show FinW p e below s _ _ _ (Ty434.setTop (mkF m 486 #[iv p1, iv p2, iv p3, .val (.long pd), .second, iv 2, iv 3, iv zc, rv by1, rv ay302, rv t3, rv by424, .val .null, rv eo, u_, u_] []))
        refine FinW.step (fun _ k => Yo.iconst Xy434.here hx (hb hby at_486) (Yo.goto Xy434.here hx (pc0 := 487) (pc' := 491) rfl (hb hby at_487) (by decide) (by decide) k)) ?_
        have hky435 := (Nat.le_trans (Nat.le_trans (Nat.le_trans (Nat.le_trans (Nat.le_trans (Nat.le_trans (Nat.le_trans (Nat.le_trans (Nat.le_trans (Nat.le_trans (Nat.le_trans hky302 (Keep.of_wr Wy308).1) (Keep.of_wr Wy313).1) (Keep.of_wr Wy318).1) (Keep.of_wr Wy326).1) (Keep.of_wr Wy331).1) (Keep.of_wr Wy336).1) (Keep.of_wr Wy343).1) (Keep.of_wr Wy348).1) (Keep.of_wr Wy419).1) Kcy424.1) Kcy433.1)
        refine FinW.retN Xy434 hSy302 (by rw [eqy434]; exact hky435) hx (t := .boolean) hret (by simp) hlk (hb hby at_491) (by decide) (by decide) ?_
        show Q0 Z p1 p2 p3 pd wc fv eo av cv t1 t2 t3 s1 v1 k1 s2 v2 k2 s3 v3 k3 h0 n0 _ Ty434.heap _
        rw [eqy434]
        exact ⟨rfl, Ny434, Ky433⟩
      · show FinW p e below s _ _ _ (Ty348.setTop (mkF m 282 #[iv p1, iv p2, iv p3, .val (.long pd), .second, iv 2, iv 3, iv zc, rv by1, rv ay302, rv t3, u_, u_, iv 6, u_, u_] []))
        refine FinW.step (fun _ k => Yo.aload Xy348.here hx (hb hby at_282) rfl rfl (Yo.iload Xy348.here hx (hb hby at_284) rfl (Yo.iload Xy348.here hx (hb hby at_286) rfl k))) ?_
        obtain ⟨Ty436, hy436, Xy436, ey436, Wy436, Vy436, Ny436, Zy436, Ky436, sty436⟩ := cst3 Xy348 hx hZ ey348 (j := 6) (x := zc) (ix := 6) Vy349 ⟨by decide, by decide⟩ rfl (by decide) Ny348 Zy348 Ky348 gzy1 (Or.inr szy1) (hb hby at_288)
        refine FinW.step (sty436) ?_
        refine FinW.step (fun _ k => Yo.aload Xy436.here hx (hb hby at_289) rfl rfl (Yo.iload Xy436.here hx (hb hby at_291) rfl (Yo.iconst Xy436.here hx (hb hby at_293) (Yo.iadd Xy436.here hx (hb hby at_294) rfl k)))) ?_
        show FinW p e below s _ _ _ (Ty436.setTop (mkF m 295 #[iv p1, iv p2, iv p3, .val (.long pd), .second, iv 2, iv 3, iv zc, rv by1, rv ay302, rv t3, u_, u_, iv 6, u_, u_] [(.int 7), (.ref by1)]))
        have ry437 := (((ry341.wr Wy343).wr Wy348).wr Wy436)
        obtain ⟨_, Ty438, Lcy438, Xy438, hQy438, sty438⟩ := packS (Jvm.LawKit.callS Xy436 hx (y := n9) hown (mvT hZ (W_ hw 52)) (mvT hZ (W_ hw 53)) (mvT hZ (W_ hw 28)) (mvT hZ (W_ hw 54)) (by decide) (backOf (W := 0) (rmstL7 l Z a0 hw [] by1 ky1 _ wc hy436 n0 Zy436 Vy436 ry437 (own_chset own_alc2 _ _) hwc (own_hl Gz.2 (by decide) hbg own_als2)) hZ (W_ hw 54) (W_ hw 28) (by decide) (by decide)) (g := (mkF m 295 #[iv p1, iv p2, iv p3, .val (.long pd), .second, iv 2, iv 3, iv zc, rv by1, rv ay302, rv t3, u_, u_, iv 6, u_, u_] [(.int 7), (.ref by1)])) rfl (by rw [hml]; rfl) (argsL := [(.ref by1), (.int 7)]) (rest := []) (lenOf pd_23 rfl) rfl (lb rfl) (hb hby at_295) (fun _ _ => ⟨rfl, ey436, (by decide : 3 + 8 ≤ _), (by decide : 36 + 64 ≤ _)⟩))
        obtain ⟨nb_y438, kn_y438, by438, rfl, bzy438, bfy438_0, Nqy438, Kcy438, fy438_0, fy438_1, fy438_2, fy438_3, ney438_0⟩ := hQy438
        have Ny438 := Fr.app Ny436 Nqy438
        have gzy438 : n0 ≤ by438 := Nat.le_trans Zy436 bzy438
        have szy438 : h0.size ≤ by438 := Nat.le_trans Ky436.1 bzy438
        have gzy438_0 : n0 ≤ nb_y438 := Nat.le_trans Zy436 bfy438_0
        have szy438_0 : h0.size ≤ nb_y438 := Nat.le_trans Ky436.1 bfy438_0
        have Zy438 := Nat.le_trans Zy436 Kcy438.1
        have Ky438 := Ky436.trans Kcy438 all0
        refine FinW.step (sty438) ?_
        show FinW p e below s _ _ _ (Ty438.setTop (mkF m 298 #[iv p1, iv p2, iv p3, .val (.long pd), .second, iv 2, iv 3, iv zc, rv by1, rv ay302, rv t3, u_, u_, iv 6, u_, u_] [(.ref by438)]))
        refine FinW.step (fun _ k => Yo.astore Xy438.here hx (hb hby at_298) rfl rfl (l' := #[iv p1, iv p2, iv p3, .val (.long pd), .second, iv 2, iv 3, iv zc, rv by1, rv ay302, rv t3, rv by438, u_, iv 6, u_, u_]) rfl (Yo.aconstNull Xy438.here hx (hb hby at_300) (Yo.astore Xy438.here hx (hb hby at_301) rfl rfl (l' := #[iv p1, iv p2, iv p3, .val (.long pd), .second, iv 2, iv 3, iv zc, rv by1, rv ay302, rv t3, rv by438, .val .null, iv 6, u_, u_]) rfl (Yo.goto Xy438.here hx (pc0 := 303) (pc' := 468) rfl (hb hby at_303) (by decide) (by decide) (Yo.aload Xy438.here hx (hb hby at_468) rfl rfl k))))) ?_
        have ry439 := (Sta_keep HS_com_example_model_for_reads_modelforreads_model_FieldType__VALUES Ky438)
        have ry440 := (Sta_keep HS_java_util_Optional_EMPTY Ky438)
        have ry441 := (HF_t1_modelName.keep Ky438 nin0)
        have ry442 := (HF_t2_modelName.keep Ky438 nin0)
        have ry443 := (HF_t3_modelName.keep Ky438 nin0)
        have ney444 := nlt HE_s1.lt szy438
        have ney445 := nlt HE_s2.lt szy438
        have ney446 := nlt HE_s3.lt szy438
        obtain ⟨_, Ty447, Lcy447, Xy447, hQy447, sty447⟩ := packS (Jvm.LawKit.callS Xy438 hx (y := n16) hown (mvT hZ (W_ hw 76)) (mvT hZ (W_ hw 77)) (mvT hZ (W_ hw 11)) (mvT hZ (W_ hw 78)) (by decide) (backOf (W := 0) (rmfmL0 l Z a0 hw [] by438 av cv t1 t2 t3 eo wc s1 v1 k1 3 _ s2 v2 k2 7 _ s3 v3 k3 6 _ nb_y438 kn_y438 7 _ Ty438.heap n0 Zy438 ry439 ry440 (Sta_keepW ry437 Kcy438 all0) ry441 (HE_s1.keep Ky438) (HF_s1_coder.keep Ky438 nin0) (HF_s1_value.keep Ky438 nin0) (HV_v1.keep Ky438 nin0) ry442 (HE_s2.keep Ky438) (HF_s2_coder.keep Ky438 nin0) (HF_s2_value.keep Ky438 nin0) (HV_v2.keep Ky438 nin0) ry443 (HE_s3.keep Ky438) (HF_s3_coder.keep Ky438 nin0) (HF_s3_value.keep Ky438 nin0) (HV_v3.keep Ky438 nin0) fy438_0 fy438_1 fy438_2 fy438_3 ⟨Arr_keep hcv.1 Ky438, hcv.2.1.keep Ky438, hcv.2.2.1, hcv.2.2.2⟩ hwc (own_wlc _ _ _) (by decide) (by decide) (by decide) own_nlc0 own_nlc1 own_nlc2 (own_eqb0 (by decide)) (own_sd Gz.2) (own_eqb0 (by decide)) ney444 ney445 ney446) hZ (W_ hw 78) (W_ hw 11) (by decide) (by decide)) (g := (mkF m 470 #[iv p1, iv p2, iv p3, .val (.long pd), .second, iv 2, iv 3, iv zc, rv by1, rv ay302, rv t3, rv by438, .val .null, iv 6, u_, u_] [(.ref by438)])) rfl (by rw [hml]; rfl) (argsL := [(.ref by438)]) (rest := []) (lenOf pd_24 rfl) rfl (lb rfl) (hb hby at_470) (fun _ _ => ⟨rfl, rfl, (by decide : 11 + 1 ≤ _), (by decide : 100 + 3 ≤ _)⟩))
        obtain ⟨rfl, Nqy447, Kcy447⟩ := hQy447
        have Ny447 := Fr.app Ny438 Nqy447
        have Zy447 := Nat.le_trans Zy438 Kcy447.1
        have Ky447 := Ky438.trans Kcy447 all0
        refine FinW.step (sty447) ?_
        show FinW p e below s _ _ _ (Ty447.setTop (mkF m 473 #[iv p1, iv p2, iv p3, .val (.long pd), .second, iv 2, iv 3, iv zc, rv by1, rv ay302, rv t3, rv by438, .val .null, iv 6, u_, u_] [(.ref eo)]))
        refine FinW.step (fun _ k => Yo.astore Xy447.here hx (hb hby at_473) rfl rfl (l' := #[iv p1, iv p2, iv p3, .val (.long pd), .second, iv 2, iv 3, iv zc, rv by1, rv ay302, rv t3, rv by438, .val .null, rv eo, u_, u_]) rfl (Yo.aload Xy447.here hx (hb hby at_475) rfl rfl (Yo.aconstNull Xy447.here hx (hb hby at_477) k))) ?_
        obtain ⟨cqy448, kqy448, qy448a, qy448b, qy448c⟩ := isOf hZ rfl (HE_eo.keep Ky447)
        obtain ⟨_, Ty448, Lcy448, Xy448, hQy448, sty448⟩ := pack (Xy447.virtualBack hx (y := n23) (z := n23) hown (mvT hZ (W_ hw 124)) (mvT hZ (W_ hw 125)) (notFace_of_selects (args := #[]) (mvT hZ (W_ hw 127))) (mvT hZ (W_ hw 127)) (mvT hZ (W_ hw 126)) (by decide) (backOf (W := 0) (rmor0 l Z a0 hw [] eo Ty447.heap n0 Zy447 (HF_eo_value.keep Ky447 nin0)) hZ (W_ hw 128) (W_ hw 109) (by decide) (by decide)) qy448a qy448c (g := (mkF m 478 #[iv p1, iv p2, iv p3, .val (.long pd), .second, iv 2, iv 3, iv zc, rv by1, rv ay302, rv t3, rv by438, .val .null, rv eo, u_, u_] [.null, (.ref eo)])) rfl (by rw [hml]; rfl) (Steps.refl _) (argsL := [.null]) (rest := []) (lenOf pd_16 rfl) rfl (lb rfl) (hb hby at_478) (fun _ _ => ⟨rfl, rfl, (by decide : 12 + 0 ≤ _), (by decide : 103 + 0 ≤ _)⟩))
        obtain ⟨rfl, Nqy448, eqy448⟩ := hQy448
        have Ny448 := Fr.app Ny447 Nqy448
        refine FinW.step (sty448) ?_
        show FinW p e below s _ _ _ (Ty448.setTop (mkF m 481 #[iv p1, iv p2, iv p3, .val (.long pd), .second, iv 2, iv 3, iv zc, rv by1, rv ay302, rv t3, rv by438, .val .null, rv eo, u_, u_] [.null]))
        refine FinW.step (fun _ k => Yo.aload Xy448.here hx (hb hby at_481) rfl rfl k) ?_
        refine FinW.step (fun _ => Jvm.RoadKit.acmp (g := (mkF m 483 #[iv p1, iv p2, iv p3, .val (.long pd), .second, iv 2, iv 3, iv zc, rv by1, rv ay302, rv t3, rv by438, .val .null, rv eo, u_, u_] [.null, .null])) Xy448 hx rfl rfl rfl (pc0 := 483) (pc' := 486) (same := true) rfl (hb hby at_483) rfl (decide_eq_true rfl) (by decide) (by decide)) ?_
        show FinW p e below s _ _ _ (Ty448.setTop (mkF m 486 #[iv p1, iv p2, iv p3, .val (.long pd), .second, iv 2, iv 3, iv zc, rv by1, rv ay302, rv t3, rv by438, .val .null, rv eo, u_, u_] []))
        refine FinW.step (fun _ k => Yo.iconst Xy448.here hx (hb hby at_486) (Yo.goto Xy448.here hx (pc0 := 487) (pc' := 491) rfl (hb hby at_487) (by decide) (by decide) k)) ?_
        have hky449 := (Nat.le_trans (Nat.le_trans (Nat.le_trans (Nat.le_trans (Nat.le_trans (Nat.le_trans (Nat.le_trans (Nat.le_trans (Nat.le_trans (Nat.le_trans (Nat.le_trans hky302 (Keep.of_wr Wy308).1) (Keep.of_wr Wy313).1) (Keep.of_wr Wy318).1) (Keep.of_wr Wy326).1) (Keep.of_wr Wy331).1) (Keep.of_wr Wy336).1) (Keep.of_wr Wy343).1) (Keep.of_wr Wy348).1) (Keep.of_wr Wy436).1) Kcy438.1) Kcy447.1)
        refine FinW.retN Xy448 hSy302 (by rw [eqy448]; exact hky449) hx (t := .boolean) hret (by simp) hlk (hb hby at_491) (by decide) (by decide) ?_
        show Q0 Z p1 p2 p3 pd wc fv eo av cv t1 t2 t3 s1 v1 k1 s2 v2 k2 s3 v3 k3 h0 n0 _ Ty448.heap _
        rw [eqy448]
        exact ⟨rfl, Ny448, Ky447⟩
  · show FinW p e below s _ _ _ (Ty1.setTop (mkF m 25 #[iv p1, iv p2, iv p3, .val (.long pd), .second, iv 3, iv zo, iv zc, rv by1, u_, u_, u_, u_, u_, u_, u_] []))
    refine FinW.step (fun _ k => Yo.iload Xy1.here hx (hb hby at_25) rfl (Yo.ifYes Xy1.here hx (pc0 := 27) (pc' := 42) rfl (hb hby at_27) rfl ((if0 _ _).trans (feq ((by decide) : ¬ ((3 : Int32) = (0 : Int32)))).2) (by decide) (by decide) (Yo.iload Xy1.here hx (hb hby at_42) rfl (Yo.iconst Xy1.here hx (hb hby at_44) (Yo.icmpYes Xy1.here hx (pc0 := 45) (pc' := 60) rfl (hb hby at_45) rfl (feq ((by decide) : ¬ ((3 : Int32) = (1 : Int32)))).2 (by decide) (by decide) (Yo.iload Xy1.here hx (hb hby at_60) rfl (Yo.iconst Xy1.here hx (hb hby at_62) (Yo.icmpYes Xy1.here hx (pc0 := 63) (pc' := 78) rfl (hb hby at_63) rfl (feq ((by decide) : ¬ ((3 : Int32) = (2 : Int32)))).2 (by decide) (by decide) k)))))))) ?_
    have hky450 := (Nat.le_trans (Nat.zero_le _) Ey1.1)
    obtain ⟨ay451, Ty451, hy451, k1y451, by451, kby451, Xy451, ey451, Ey451, hSy451, hky451, hZ, hown, Ay451, Fcy451, Fvy451, Vy451, -, -, CHcy451, -, nly451, sty451⟩ := ldcCH (s := s) (vm0 := s.vm) Xy1 hx hZ hown (W_ hw 136) wS ey1 ((State.WarmedH.refl s).since 0) hky450 hEL (List.mem_of_getElem? (i := 3) rfl) CHy1.1 (vs := ([] : List Value)) (z := (0 : Int32)) ⟨by decide, by rfl⟩ (by decide) (by decide) (g := (mkF m 78 #[iv p1, iv p2, iv p3, .val (.long pd), .second, iv 3, iv zo, iv zc, rv by1, u_, u_, u_, u_, u_, u_, u_] [])) rfl (hb hby at_78) (n := 0) (by decide) (by decide) (by decide) (by decide)
    have sfby1_y451 := CHcy451.safe Vy1.lt sfby1_y2
    have nlby1_y451 := nly451 by1 sfby1_y451
    have CHy451 := CHy1.trans CHcy451
    have Zy451 := Nat.le_trans Zy1 Ey451.1
    have Ky451 := Ky1.ext Ey451
    refine FinW.step (sty451) ?_
    show FinW p e below s _ _ _ (Ty451.setTop (mkF m 80 #[iv p1, iv p2, iv p3, .val (.long pd), .second, iv 3, iv zo, iv zc, rv by1, u_, u_, u_, u_, u_, u_, u_] [(.ref ay451)]))
    refine FinW.step (fun _ k => Yo.astore Xy451.here hx (hb hby at_80) rfl rfl (l' := #[iv p1, iv p2, iv p3, .val (.long pd), .second, iv 3, iv zo, iv zc, rv by1, rv ay451, u_, u_, u_, u_, u_, u_]) rfl (Yo.aconstNull Xy451.here hx (hb hby at_82) (Yo.astore Xy451.here hx (hb hby at_83) rfl rfl (l' := #[iv p1, iv p2, iv p3, .val (.long pd), .second, iv 3, iv zo, iv zc, rv by1, rv ay451, .val .null, u_, u_, u_, u_, u_]) rfl (Yo.iload Xy451.here hx (hb hby at_85) rfl (Yo.iconst Xy451.here hx (hb hby at_87) (Yo.icmpYes Xy451.here hx (pc0 := 88) (pc' := 306) rfl (hb hby at_88) rfl (flt ((by decide) : ¬ ((3 : Int32) < (3 : Int32)))).2.1 (by decide) (by decide) (Yo.aload Xy451.here hx (hb hby at_306) rfl rfl (Yo.iconst Xy451.here hx (hb hby at_308) k)))))))) ?_
    refine FinW.step (fun _ => XS.lloadN Xy451.here hx rfl (hb hby at_309) rfl) ?_
    show FinW p e below s _ _ _ (Ty451.setTop (mkF m 310 #[iv p1, iv p2, iv p3, .val (.long pd), .second, iv 3, iv zo, iv zc, rv by1, rv ay451, .val .null, u_, u_, u_, u_, u_] [(.long pd), (.int 0), (.ref by1)]))
    refine FinW.step (fun _ k => Yo.iconst Xy451.here hx (hb hby at_310) k) ?_
    obtain ⟨_, Ty452, Lcy452, Xy452, hQy452, sty452⟩ := packS (Jvm.LawKit.callS Xy451 hx (y := n25) hown (mvT hZ (W_ hw 137)) (mvT hZ (W_ hw 138)) (mvT hZ (W_ hw 28)) (mvT hZ (W_ hw 139)) (by decide) (backOf (W := 2) (rmba l Z a0 hw [] pd 0 hy451 n0 Zy451 ) hZ (W_ hw 139) (W_ hw 28) (by decide) (by decide)) (g := (mkF m 311 #[iv p1, iv p2, iv p3, .val (.long pd), .second, iv 3, iv zo, iv zc, rv by1, rv ay451, .val .null, u_, u_, u_, u_, u_] [(.int 0), (.long pd), (.int 0), (.ref by1)])) rfl (by rw [hml]; rfl) (argsL := [(.long pd), (.int 0)]) (rest := [(.int 0), (.ref by1)]) (lenOf pd_25 rfl) rfl (lb rfl) (hb hby at_311) (fun _ _ => ⟨rfl, ey451, (by decide : 3 + 0 ≤ _), (by decide : 12 + 0 ≤ _)⟩))
    obtain ⟨rfl, Nqy452, eqy452⟩ := hQy452
    have Ny452 := Fr.app N0 Nqy452
    refine FinW.step (sty452) ?_
    show FinW p e below s _ _ _ (Ty452.setTop (mkF m 314 #[iv p1, iv p2, iv p3, .val (.long pd), .second, iv 3, iv zo, iv zc, rv by1, rv ay451, .val .null, u_, u_, u_, u_, u_] [(.int (own_ba pd (0 : Int32))), (.int 0), (.ref by1)]))
    obtain ⟨Ty453, hy453, Xy453, ey453, Wy453, Vy453, Ny453, Zy453, Ky453, sty453⟩ := cst3 Xy452 hx hZ eqy452 (j := 0) (x := (own_ba pd (0 : Int32))) (ix := 0) (Vy1.ext Ey451) ⟨by decide, by decide⟩ rfl (lb rfl) Ny452 Zy451 Ky451 gzy1 (Or.inr szy1) (hb hby at_314)
    have CHy453 := CHy451.trans (CHr.wr Wy453 sfby1_y451 CHy451.1)
    have sfby1_y453 := Safe.wr Wy453 sfby1_y451 CHy451.1 sfby1_y451
    refine FinW.step (sty453) ?_
    refine FinW.step (fun _ k => Yo.aload Xy453.here hx (hb hby at_315) rfl rfl (Yo.iconst Xy453.here hx (hb hby at_317) k)) ?_
    refine FinW.step (fun _ => XS.lloadN Xy453.here hx rfl (hb hby at_318) rfl) ?_
    show FinW p e below s _ _ _ (Ty453.setTop (mkF m 319 #[iv p1, iv p2, iv p3, .val (.long pd), .second, iv 3, iv zo, iv zc, rv by1, rv ay451, .val .null, u_, u_, u_, u_, u_] [(.long pd), (.int 1), (.ref by1)]))
    refine FinW.step (fun _ k => Yo.iconst Xy453.here hx (hb hby at_319) k) ?_
    obtain ⟨_, Ty454, Lcy454, Xy454, hQy454, sty454⟩ := packS (Jvm.LawKit.callS Xy453 hx (y := n25) hown (mvT hZ (W_ hw 137)) (mvT hZ (W_ hw 138)) (mvT hZ (W_ hw 28)) (mvT hZ (W_ hw 139)) (by decide) (backOf (W := 2) (rmba l Z a0 hw [] pd 1 hy453 n0 Zy453 ) hZ (W_ hw 139) (W_ hw 28) (by decide) (by decide)) (g := (mkF m 320 #[iv p1, iv p2, iv p3, .val (.long pd), .second, iv 3, iv zo, iv zc, rv by1, rv ay451, .val .null, u_, u_, u_, u_, u_] [(.int 1), (.long pd), (.int 1), (.ref by1)])) rfl (by rw [hml]; rfl) (argsL := [(.long pd), (.int 1)]) (rest := [(.int 1), (.ref by1)]) (lenOf pd_25 rfl) rfl (lb rfl) (hb hby at_320) (fun _ _ => ⟨rfl, ey453, (by decide : 3 + 0 ≤ _), (by decide : 12 + 0 ≤ _)⟩))
    obtain ⟨rfl, Nqy454, eqy454⟩ := hQy454
    have Ny454 := Fr.app Ny453 Nqy454
    refine FinW.step (sty454) ?_
    show FinW p e below s _ _ _ (Ty454.setTop (mkF m 323 #[iv p1, iv p2, iv p3, .val (.long pd), .second, iv 3, iv zo, iv zc, rv by1, rv ay451, .val .null, u_, u_, u_, u_, u_] [(.int (own_ba pd (1 : Int32))), (.int 1), (.ref by1)]))
    obtain ⟨Ty455, hy455, Xy455, ey455, Wy455, Vy455, Ny455, Zy455, Ky455, sty455⟩ := cst3 Xy454 hx hZ eqy454 (j := 1) (x := (own_ba pd (1 : Int32))) (ix := 1) Vy453 ⟨by decide, by decide⟩ rfl (lb rfl) Ny454 Zy453 Ky453 gzy1 (Or.inr szy1) (hb hby at_323)
    have CHy455 := CHy453.trans (CHr.wr Wy455 sfby1_y453 CHy453.1)
    have sfby1_y455 := Safe.wr Wy455 sfby1_y453 CHy453.1 sfby1_y453
    refine FinW.step (sty455) ?_
    refine FinW.step (fun _ k => Yo.aload Xy455.here hx (hb hby at_324) rfl rfl (Yo.iconst Xy455.here hx (hb hby at_326) k)) ?_
    refine FinW.step (fun _ => XS.lloadN Xy455.here hx rfl (hb hby at_327) rfl) ?_
    show FinW p e below s _ _ _ (Ty455.setTop (mkF m 328 #[iv p1, iv p2, iv p3, .val (.long pd), .second, iv 3, iv zo, iv zc, rv by1, rv ay451, .val .null, u_, u_, u_, u_, u_] [(.long pd), (.int 2), (.ref by1)]))
    refine FinW.step (fun _ k => Yo.iconst Xy455.here hx (hb hby at_328) k) ?_
    obtain ⟨_, Ty456, Lcy456, Xy456, hQy456, sty456⟩ := packS (Jvm.LawKit.callS Xy455 hx (y := n25) hown (mvT hZ (W_ hw 137)) (mvT hZ (W_ hw 138)) (mvT hZ (W_ hw 28)) (mvT hZ (W_ hw 139)) (by decide) (backOf (W := 2) (rmba l Z a0 hw [] pd 2 hy455 n0 Zy455 ) hZ (W_ hw 139) (W_ hw 28) (by decide) (by decide)) (g := (mkF m 329 #[iv p1, iv p2, iv p3, .val (.long pd), .second, iv 3, iv zo, iv zc, rv by1, rv ay451, .val .null, u_, u_, u_, u_, u_] [(.int 2), (.long pd), (.int 2), (.ref by1)])) rfl (by rw [hml]; rfl) (argsL := [(.long pd), (.int 2)]) (rest := [(.int 2), (.ref by1)]) (lenOf pd_25 rfl) rfl (lb rfl) (hb hby at_329) (fun _ _ => ⟨rfl, ey455, (by decide : 3 + 0 ≤ _), (by decide : 12 + 0 ≤ _)⟩))
    obtain ⟨rfl, Nqy456, eqy456⟩ := hQy456
    have Ny456 := Fr.app Ny455 Nqy456
    refine FinW.step (sty456) ?_
    show FinW p e below s _ _ _ (Ty456.setTop (mkF m 332 #[iv p1, iv p2, iv p3, .val (.long pd), .second, iv 3, iv zo, iv zc, rv by1, rv ay451, .val .null, u_, u_, u_, u_, u_] [(.int (own_ba pd (2 : Int32))), (.int 2), (.ref by1)]))
    obtain ⟨Ty457, hy457, Xy457, ey457, Wy457, Vy457, Ny457, Zy457, Ky457, sty457⟩ := cst3 Xy456 hx hZ eqy456 (j := 2) (x := (own_ba pd (2 : Int32))) (ix := 2) Vy455 ⟨by decide, by decide⟩ rfl (lb rfl) Ny456 Zy455 Ky455 gzy1 (Or.inr szy1) (hb hby at_332)
    have CHy457 := CHy455.trans (CHr.wr Wy457 sfby1_y455 CHy455.1)
    have sfby1_y457 := Safe.wr Wy457 sfby1_y455 CHy455.1 sfby1_y455
    refine FinW.step (sty457) ?_
    refine FinW.step (fun _ k => Yo.aload Xy457.here hx (hb hby at_333) rfl rfl (Yo.iconst Xy457.here hx (hb hby at_335) k)) ?_
    refine FinW.step (fun _ => XS.lloadN Xy457.here hx rfl (hb hby at_336) rfl) ?_
    show FinW p e below s _ _ _ (Ty457.setTop (mkF m 337 #[iv p1, iv p2, iv p3, .val (.long pd), .second, iv 3, iv zo, iv zc, rv by1, rv ay451, .val .null, u_, u_, u_, u_, u_] [(.long pd), (.int 3), (.ref by1)]))
    refine FinW.step (fun _ k => Yo.iconst Xy457.here hx (hb hby at_337) k) ?_
    obtain ⟨_, Ty458, Lcy458, Xy458, hQy458, sty458⟩ := packS (Jvm.LawKit.callS Xy457 hx (y := n25) hown (mvT hZ (W_ hw 137)) (mvT hZ (W_ hw 138)) (mvT hZ (W_ hw 28)) (mvT hZ (W_ hw 139)) (by decide) (backOf (W := 2) (rmba l Z a0 hw [] pd 3 hy457 n0 Zy457 ) hZ (W_ hw 139) (W_ hw 28) (by decide) (by decide)) (g := (mkF m 338 #[iv p1, iv p2, iv p3, .val (.long pd), .second, iv 3, iv zo, iv zc, rv by1, rv ay451, .val .null, u_, u_, u_, u_, u_] [(.int 3), (.long pd), (.int 3), (.ref by1)])) rfl (by rw [hml]; rfl) (argsL := [(.long pd), (.int 3)]) (rest := [(.int 3), (.ref by1)]) (lenOf pd_25 rfl) rfl (lb rfl) (hb hby at_338) (fun _ _ => ⟨rfl, ey457, (by decide : 3 + 0 ≤ _), (by decide : 12 + 0 ≤ _)⟩))
    obtain ⟨rfl, Nqy458, eqy458⟩ := hQy458
    have Ny458 := Fr.app Ny457 Nqy458
    refine FinW.step (sty458) ?_
    show FinW p e below s _ _ _ (Ty458.setTop (mkF m 341 #[iv p1, iv p2, iv p3, .val (.long pd), .second, iv 3, iv zo, iv zc, rv by1, rv ay451, .val .null, u_, u_, u_, u_, u_] [(.int (own_ba pd (3 : Int32))), (.int 3), (.ref by1)]))
    obtain ⟨Ty459, hy459, Xy459, ey459, Wy459, Vy459, Ny459, Zy459, Ky459, sty459⟩ := cst3 Xy458 hx hZ eqy458 (j := 3) (x := (own_ba pd (3 : Int32))) (ix := 3) Vy457 ⟨by decide, by decide⟩ rfl (lb rfl) Ny458 Zy457 Ky457 gzy1 (Or.inr szy1) (hb hby at_341)
    have CHy459 := CHy457.trans (CHr.wr Wy459 sfby1_y457 CHy457.1)
    have sfby1_y459 := Safe.wr Wy459 sfby1_y457 CHy457.1 sfby1_y457
    refine FinW.step (sty459) ?_
    refine FinW.step (fun _ k => Yo.aload Xy459.here hx (hb hby at_342) rfl rfl (Yo.iconst Xy459.here hx (hb hby at_344) k)) ?_
    refine FinW.step (fun _ => XS.lloadN Xy459.here hx rfl (hb hby at_345) rfl) ?_
    show FinW p e below s _ _ _ (Ty459.setTop (mkF m 346 #[iv p1, iv p2, iv p3, .val (.long pd), .second, iv 3, iv zo, iv zc, rv by1, rv ay451, .val .null, u_, u_, u_, u_, u_] [(.long pd), (.int 4), (.ref by1)]))
    refine FinW.step (fun _ k => Yo.iconst Xy459.here hx (hb hby at_346) k) ?_
    obtain ⟨_, Ty460, Lcy460, Xy460, hQy460, sty460⟩ := packS (Jvm.LawKit.callS Xy459 hx (y := n25) hown (mvT hZ (W_ hw 137)) (mvT hZ (W_ hw 138)) (mvT hZ (W_ hw 28)) (mvT hZ (W_ hw 139)) (by decide) (backOf (W := 2) (rmba l Z a0 hw [] pd 4 hy459 n0 Zy459 ) hZ (W_ hw 139) (W_ hw 28) (by decide) (by decide)) (g := (mkF m 347 #[iv p1, iv p2, iv p3, .val (.long pd), .second, iv 3, iv zo, iv zc, rv by1, rv ay451, .val .null, u_, u_, u_, u_, u_] [(.int 4), (.long pd), (.int 4), (.ref by1)])) rfl (by rw [hml]; rfl) (argsL := [(.long pd), (.int 4)]) (rest := [(.int 4), (.ref by1)]) (lenOf pd_25 rfl) rfl (lb rfl) (hb hby at_347) (fun _ _ => ⟨rfl, ey459, (by decide : 3 + 0 ≤ _), (by decide : 12 + 0 ≤ _)⟩))
    obtain ⟨rfl, Nqy460, eqy460⟩ := hQy460
    have Ny460 := Fr.app Ny459 Nqy460
    refine FinW.step (sty460) ?_
    show FinW p e below s _ _ _ (Ty460.setTop (mkF m 350 #[iv p1, iv p2, iv p3, .val (.long pd), .second, iv 3, iv zo, iv zc, rv by1, rv ay451, .val .null, u_, u_, u_, u_, u_] [(.int (own_ba pd (4 : Int32))), (.int 4), (.ref by1)]))
    obtain ⟨Ty461, hy461, Xy461, ey461, Wy461, Vy461, Ny461, Zy461, Ky461, sty461⟩ := cst3 Xy460 hx hZ eqy460 (j := 4) (x := (own_ba pd (4 : Int32))) (ix := 4) Vy459 ⟨by decide, by decide⟩ rfl (lb rfl) Ny460 Zy459 Ky459 gzy1 (Or.inr szy1) (hb hby at_350)
    have CHy461 := CHy459.trans (CHr.wr Wy461 sfby1_y459 CHy459.1)
    have sfby1_y461 := Safe.wr Wy461 sfby1_y459 CHy459.1 sfby1_y459
    refine FinW.step (sty461) ?_
    refine FinW.step (fun _ k => Yo.aload Xy461.here hx (hb hby at_351) rfl rfl (Yo.iconst Xy461.here hx (hb hby at_353) k)) ?_
    refine FinW.step (fun _ => XS.lloadN Xy461.here hx rfl (hb hby at_354) rfl) ?_
    show FinW p e below s _ _ _ (Ty461.setTop (mkF m 355 #[iv p1, iv p2, iv p3, .val (.long pd), .second, iv 3, iv zo, iv zc, rv by1, rv ay451, .val .null, u_, u_, u_, u_, u_] [(.long pd), (.int 5), (.ref by1)]))
    refine FinW.step (fun _ k => Yo.iconst Xy461.here hx (hb hby at_355) k) ?_
    obtain ⟨_, Ty462, Lcy462, Xy462, hQy462, sty462⟩ := packS (Jvm.LawKit.callS Xy461 hx (y := n25) hown (mvT hZ (W_ hw 137)) (mvT hZ (W_ hw 138)) (mvT hZ (W_ hw 28)) (mvT hZ (W_ hw 139)) (by decide) (backOf (W := 2) (rmba l Z a0 hw [] pd 5 hy461 n0 Zy461 ) hZ (W_ hw 139) (W_ hw 28) (by decide) (by decide)) (g := (mkF m 356 #[iv p1, iv p2, iv p3, .val (.long pd), .second, iv 3, iv zo, iv zc, rv by1, rv ay451, .val .null, u_, u_, u_, u_, u_] [(.int 5), (.long pd), (.int 5), (.ref by1)])) rfl (by rw [hml]; rfl) (argsL := [(.long pd), (.int 5)]) (rest := [(.int 5), (.ref by1)]) (lenOf pd_25 rfl) rfl (lb rfl) (hb hby at_356) (fun _ _ => ⟨rfl, ey461, (by decide : 3 + 0 ≤ _), (by decide : 12 + 0 ≤ _)⟩))
    obtain ⟨rfl, Nqy462, eqy462⟩ := hQy462
    have Ny462 := Fr.app Ny461 Nqy462
    refine FinW.step (sty462) ?_
    show FinW p e below s _ _ _ (Ty462.setTop (mkF m 359 #[iv p1, iv p2, iv p3, .val (.long pd), .second, iv 3, iv zo, iv zc, rv by1, rv ay451, .val .null, u_, u_, u_, u_, u_] [(.int (own_ba pd (5 : Int32))), (.int 5), (.ref by1)]))
    obtain ⟨Ty463, hy463, Xy463, ey463, Wy463, Vy463, Ny463, Zy463, Ky463, sty463⟩ := cst3 Xy462 hx hZ eqy462 (j := 5) (x := (own_ba pd (5 : Int32))) (ix := 5) Vy461 ⟨by decide, by decide⟩ rfl (lb rfl) Ny462 Zy461 Ky461 gzy1 (Or.inr szy1) (hb hby at_359)
    have CHy463 := CHy461.trans (CHr.wr Wy463 sfby1_y461 CHy461.1)
    have sfby1_y463 := Safe.wr Wy463 sfby1_y461 CHy461.1 sfby1_y461
    refine FinW.step (sty463) ?_
    refine FinW.step (fun _ k => Yo.aload Xy463.here hx (hb hby at_360) rfl rfl (Yo.bipush Xy463.here hx (hb hby at_362) k)) ?_
    refine FinW.step (fun _ => XS.lloadN Xy463.here hx rfl (hb hby at_364) rfl) ?_
    show FinW p e below s _ _ _ (Ty463.setTop (mkF m 365 #[iv p1, iv p2, iv p3, .val (.long pd), .second, iv 3, iv zo, iv zc, rv by1, rv ay451, .val .null, u_, u_, u_, u_, u_] [(.long pd), (.int 6), (.ref by1)]))
    refine FinW.step (fun _ k => Yo.bipush Xy463.here hx (hb hby at_365) k) ?_
    obtain ⟨_, Ty464, Lcy464, Xy464, hQy464, sty464⟩ := packS (Jvm.LawKit.callS Xy463 hx (y := n25) hown (mvT hZ (W_ hw 137)) (mvT hZ (W_ hw 138)) (mvT hZ (W_ hw 28)) (mvT hZ (W_ hw 139)) (by decide) (backOf (W := 2) (rmba l Z a0 hw [] pd 6 hy463 n0 Zy463 ) hZ (W_ hw 139) (W_ hw 28) (by decide) (by decide)) (g := (mkF m 367 #[iv p1, iv p2, iv p3, .val (.long pd), .second, iv 3, iv zo, iv zc, rv by1, rv ay451, .val .null, u_, u_, u_, u_, u_] [(.int 6), (.long pd), (.int 6), (.ref by1)])) rfl (by rw [hml]; rfl) (argsL := [(.long pd), (.int 6)]) (rest := [(.int 6), (.ref by1)]) (lenOf pd_25 rfl) rfl (lb rfl) (hb hby at_367) (fun _ _ => ⟨rfl, ey463, (by decide : 3 + 0 ≤ _), (by decide : 12 + 0 ≤ _)⟩))
    obtain ⟨rfl, Nqy464, eqy464⟩ := hQy464
    have Ny464 := Fr.app Ny463 Nqy464
    refine FinW.step (sty464) ?_
    show FinW p e below s _ _ _ (Ty464.setTop (mkF m 370 #[iv p1, iv p2, iv p3, .val (.long pd), .second, iv 3, iv zo, iv zc, rv by1, rv ay451, .val .null, u_, u_, u_, u_, u_] [(.int (own_ba pd (6 : Int32))), (.int 6), (.ref by1)]))
    obtain ⟨Ty465, hy465, Xy465, ey465, Wy465, Vy465, Ny465, Zy465, Ky465, sty465⟩ := cst3 Xy464 hx hZ eqy464 (j := 6) (x := (own_ba pd (6 : Int32))) (ix := 6) Vy463 ⟨by decide, by decide⟩ rfl (lb rfl) Ny464 Zy463 Ky463 gzy1 (Or.inr szy1) (hb hby at_370)
    have CHy465 := CHy463.trans (CHr.wr Wy465 sfby1_y463 CHy463.1)
    have sfby1_y465 := Safe.wr Wy465 sfby1_y463 CHy463.1 sfby1_y463
    refine FinW.step (sty465) ?_
    refine FinW.step (fun _ k => Yo.aload Xy465.here hx (hb hby at_371) rfl rfl (Yo.bipush Xy465.here hx (hb hby at_373) k)) ?_
    refine FinW.step (fun _ => XS.lloadN Xy465.here hx rfl (hb hby at_375) rfl) ?_
    show FinW p e below s _ _ _ (Ty465.setTop (mkF m 376 #[iv p1, iv p2, iv p3, .val (.long pd), .second, iv 3, iv zo, iv zc, rv by1, rv ay451, .val .null, u_, u_, u_, u_, u_] [(.long pd), (.int 7), (.ref by1)]))
    refine FinW.step (fun _ k => Yo.bipush Xy465.here hx (hb hby at_376) k) ?_
    obtain ⟨_, Ty466, Lcy466, Xy466, hQy466, sty466⟩ := packS (Jvm.LawKit.callS Xy465 hx (y := n25) hown (mvT hZ (W_ hw 137)) (mvT hZ (W_ hw 138)) (mvT hZ (W_ hw 28)) (mvT hZ (W_ hw 139)) (by decide) (backOf (W := 2) (rmba l Z a0 hw [] pd 7 hy465 n0 Zy465 ) hZ (W_ hw 139) (W_ hw 28) (by decide) (by decide)) (g := (mkF m 378 #[iv p1, iv p2, iv p3, .val (.long pd), .second, iv 3, iv zo, iv zc, rv by1, rv ay451, .val .null, u_, u_, u_, u_, u_] [(.int 7), (.long pd), (.int 7), (.ref by1)])) rfl (by rw [hml]; rfl) (argsL := [(.long pd), (.int 7)]) (rest := [(.int 7), (.ref by1)]) (lenOf pd_25 rfl) rfl (lb rfl) (hb hby at_378) (fun _ _ => ⟨rfl, ey465, (by decide : 3 + 0 ≤ _), (by decide : 12 + 0 ≤ _)⟩))
    obtain ⟨rfl, Nqy466, eqy466⟩ := hQy466
    have Ny466 := Fr.app Ny465 Nqy466
    refine FinW.step (sty466) ?_
    show FinW p e below s _ _ _ (Ty466.setTop (mkF m 381 #[iv p1, iv p2, iv p3, .val (.long pd), .second, iv 3, iv zo, iv zc, rv by1, rv ay451, .val .null, u_, u_, u_, u_, u_] [(.int (own_ba pd (7 : Int32))), (.int 7), (.ref by1)]))
    obtain ⟨Ty467, hy467, Xy467, ey467, Wy467, Vy467, Ny467, Zy467, Ky467, sty467⟩ := cst3 Xy466 hx hZ eqy466 (j := 7) (x := (own_ba pd (7 : Int32))) (ix := 7) Vy465 ⟨by decide, by decide⟩ rfl (lb rfl) Ny466 Zy465 Ky465 gzy1 (Or.inr szy1) (hb hby at_381)
    have CHy467 := CHy465.trans (CHr.wr Wy467 sfby1_y465 CHy465.1)
    have sfby1_y467 := Safe.wr Wy467 sfby1_y465 CHy465.1 sfby1_y465
    refine FinW.step (sty467) ?_
    have Vy468 : Arv Z hy467 by1 ky1 .char (8 : Int32) (own_bl pd) (.int 0) := castL Vy467 (by rfl)
    refine FinW.step (fun _ k => Yo.iloadN Xy467.here hx (hb hby at_382) rfl (Yo.bipush Xy467.here hx (hb hby at_383) (Yo.iand Xy467.here hx (hb hby at_385) rfl k))) ?_
    show FinW p e below s _ _ _ (Ty467.setTop (mkF m 386 #[iv p1, iv p2, iv p3, .val (.long pd), .second, iv 3, iv zo, iv zc, rv by1, rv ay451, .val .null, u_, u_, u_, u_, u_] [(.int (p1 &&& (48 : Int32)))]))
    refine FinW.step (fun _ k => Yo.bipush Xy467.here hx (hb hby at_386) k) ?_
    by_cases hcy469 : (p1 &&& (48 : Int32)) = (48 : Int32)
    · refine FinW.step (fun _ k => Yo.icmpNo Xy467.here hx (hb hby at_388) rfl (teq (hcy469 : ((p1 &&& (48 : Int32)) = (48 : Int32)))).2 (Yo.aconstNull Xy467.here hx (hb hby at_391) (Yo.astore Xy467.here hx (hb hby at_392) rfl rfl (l' := #[iv p1, iv p2, iv p3, .val (.long pd), .second, iv 3, iv zo, iv zc, rv by1, rv ay451, .val .null, .val .null, u_, u_, u_, u_]) rfl (Yo.aconstNull Xy467.here hx (hb hby at_394) (Yo.astore Xy467.here hx (hb hby at_395) rfl rfl (l' := #[iv p1, iv p2, iv p3, .val (.long pd), .second, iv 3, iv zo, iv zc, rv by1, rv ay451, .val .null, .val .null, .val .null, u_, u_, u_]) rfl (Yo.goto Xy467.here hx (pc0 := 397) (pc' := 468) rfl (hb hby at_397) (by decide) (by decide) (Yo.aload Xy467.here hx (hb hby at_468) rfl rfl k))))))) ?_
      have ry470 := (Sta_keep HS_com_example_model_for_reads_modelforreads_model_FieldType__VALUES Ky467)
      have ry471 := (Sta_keep HS_java_util_Optional_EMPTY Ky467)
      have ry472 := (Sta_keep HS_java_lang_String_COMPACT_STRINGS Ky467)
      have ry473 := (HF_t1_modelName.keep Ky467 nin0)
      have ry474 := (HF_t2_modelName.keep Ky467 nin0)
      have ry475 := (HF_t3_modelName.keep Ky467 nin0)
      obtain ⟨_, Ty476, Lcy476, Xy476, hQy476, sty476⟩ := packS (Jvm.LawKit.callS Xy467 hx (y := n16) hown (mvT hZ (W_ hw 76)) (mvT hZ (W_ hw 77)) (mvT hZ (W_ hw 11)) (mvT hZ (W_ hw 78)) (by decide) (backOf (W := 0) (rmfm00 l Z a0 hw [] av cv t1 t2 t3 eo wc s1 v1 k1 3 _ s2 v2 k2 7 _ s3 v3 k3 6 _ hy467 n0 Zy467 ry470 ry471 ry472 ry473 (HE_s1.keep Ky467) (HF_s1_coder.keep Ky467 nin0) (HF_s1_value.keep Ky467 nin0) (HV_v1.keep Ky467 nin0) ry474 (HE_s2.keep Ky467) (HF_s2_coder.keep Ky467 nin0) (HF_s2_value.keep Ky467 nin0) (HV_v2.keep Ky467 nin0) ry475 (HE_s3.keep Ky467) (HF_s3_coder.keep Ky467 nin0) (HF_s3_value.keep Ky467 nin0) (HV_v3.keep Ky467 nin0) ⟨Arr_keep hcv.1 Ky467, hcv.2.1.keep Ky467, hcv.2.2.1, hcv.2.2.2⟩ hwc) hZ (W_ hw 78) (W_ hw 11) (by decide) (by decide)) (g := (mkF m 470 #[iv p1, iv p2, iv p3, .val (.long pd), .second, iv 3, iv zo, iv zc, rv by1, rv ay451, .val .null, .val .null, .val .null, u_, u_, u_] [.null])) rfl (by rw [hml]; rfl) (argsL := [.null]) (rest := []) (lenOf pd_24 rfl) rfl (lb rfl) (hb hby at_470) (fun _ _ => ⟨rfl, ey467, (by decide : 3 + 1 ≤ _), (by decide : 12 + 3 ≤ _)⟩))
      obtain ⟨rfl, Nqy476, Kcy476⟩ := hQy476
      have Ny476 := Fr.app Ny467 Nqy476
      have CHy476 := CHy467.trans (CHr.keep Kcy476 all0 CHy467.1)
      have sfby1_y476 := Safe.keep Kcy476 all0 CHy467.1 sfby1_y467
      have Zy476 := Nat.le_trans Zy467 Kcy476.1
      have Ky476 := Ky467.trans Kcy476 all0
      refine FinW.step (sty476) ?_
      show FinW p e below s _ _ _ (Ty476.setTop (mkF m 473 #[iv p1, iv p2, iv p3, .val (.long pd), .second, iv 3, iv zo, iv zc, rv by1, rv ay451, .val .null, .val .null, .val .null, u_, u_, u_] [(.ref eo)]))
      refine FinW.step (fun _ k => Yo.astore Xy476.here hx (hb hby at_473) rfl rfl (l' := #[iv p1, iv p2, iv p3, .val (.long pd), .second, iv 3, iv zo, iv zc, rv by1, rv ay451, .val .null, .val .null, .val .null, rv eo, u_, u_]) rfl (Yo.aload Xy476.here hx (hb hby at_475) rfl rfl (Yo.aconstNull Xy476.here hx (hb hby at_477) k))) ?_
      obtain ⟨cqy477, kqy477, qy477a, qy477b, qy477c⟩ := isOf hZ rfl (HE_eo.keep Ky476)
      obtain ⟨_, Ty477, Lcy477, Xy477, hQy477, sty477⟩ := pack (Xy476.virtualBack hx (y := n23) (z := n23) hown (mvT hZ (W_ hw 124)) (mvT hZ (W_ hw 125)) (notFace_of_selects (args := #[]) (mvT hZ (W_ hw 127))) (mvT hZ (W_ hw 127)) (mvT hZ (W_ hw 126)) (by decide) (backOf (W := 0) (rmor0 l Z a0 hw [] eo Ty476.heap n0 Zy476 (HF_eo_value.keep Ky476 nin0)) hZ (W_ hw 128) (W_ hw 109) (by decide) (by decide)) qy477a qy477c (g := (mkF m 478 #[iv p1, iv p2, iv p3, .val (.long pd), .second, iv 3, iv zo, iv zc, rv by1, rv ay451, .val .null, .val .null, .val .null, rv eo, u_, u_] [.null, (.ref eo)])) rfl (by rw [hml]; rfl) (Steps.refl _) (argsL := [.null]) (rest := []) (lenOf pd_16 rfl) rfl (lb rfl) (hb hby at_478) (fun _ _ => ⟨rfl, rfl, (by decide : 4 + 0 ≤ _), (by decide : 15 + 0 ≤ _)⟩))
      obtain ⟨rfl, Nqy477, eqy477⟩ := hQy477
      have Ny477 := Fr.app Ny476 Nqy477
      refine FinW.step (sty477) ?_
      show FinW p e below s _ _ _ (Ty477.setTop (mkF m 481 #[iv p1, iv p2, iv p3, .val (.long pd), .second, iv 3, iv zo, iv zc, rv by1, rv ay451, .val .null, .val .null, .val .null, rv eo, u_, u_] [.null]))
      refine FinW.step (fun _ k => Yo.aload Xy477.here hx (hb hby at_481) rfl rfl k) ?_
      refine FinW.step (fun _ => Jvm.RoadKit.acmp (g := (mkF m 483 #[iv p1, iv p2, iv p3, .val (.long pd), .second, iv 3, iv zo, iv zc, rv by1, rv ay451, .val .null, .val .null, .val .null, rv eo, u_, u_] [.null, .null])) Xy477 hx rfl rfl rfl (pc0 := 483) (pc' := 486) (same := true) rfl (hb hby at_483) rfl (decide_eq_true rfl) (by decide) (by decide)) ?_
      show FinW p e below s _ _ _ (Ty477.setTop (mkF m 486 #[iv p1, iv p2, iv p3, .val (.long pd), .second, iv 3, iv zo, iv zc, rv by1, rv ay451, .val .null, .val .null, .val .null, rv eo, u_, u_] []))
      refine FinW.step (fun _ k => Yo.iconst Xy477.here hx (hb hby at_486) (Yo.goto Xy477.here hx (pc0 := 487) (pc' := 491) rfl (hb hby at_487) (by decide) (by decide) k)) ?_
      have hky478 := (Nat.le_trans (Nat.le_trans (Nat.le_trans (Nat.le_trans (Nat.le_trans (Nat.le_trans (Nat.le_trans (Nat.le_trans (Nat.le_trans hky451 (Keep.of_wr Wy453).1) (Keep.of_wr Wy455).1) (Keep.of_wr Wy457).1) (Keep.of_wr Wy459).1) (Keep.of_wr Wy461).1) (Keep.of_wr Wy463).1) (Keep.of_wr Wy465).1) (Keep.of_wr Wy467).1) Kcy476.1)
      refine FinW.retN Xy477 hSy451 (by rw [eqy477]; exact hky478) hx (t := .boolean) hret (by simp) hlk (hb hby at_491) (by decide) (by decide) ?_
      show Q0 Z p1 p2 p3 pd wc fv eo av cv t1 t2 t3 s1 v1 k1 s2 v2 k2 s3 v3 k3 h0 n0 _ Ty477.heap _
      rw [eqy477]
      exact ⟨rfl, Ny477, Ky476⟩
    · refine FinW.step (fun _ k => Yo.icmpYes Xy467.here hx (pc0 := 388) (pc' := 400) rfl (hb hby at_388) rfl (feq (hcy469 : ¬ ((p1 &&& (48 : Int32)) = (48 : Int32)))).2 (by decide) (by decide) (Yo.aload Xy467.here hx (hb hby at_400) rfl rfl (Yo.iloadN Xy467.here hx (hb hby at_402) rfl (Yo.bipush Xy467.here hx (hb hby at_403) (Yo.iand Xy467.here hx (hb hby at_405) rfl k))))) ?_
      show FinW p e below s _ _ _ (Ty467.setTop (mkF m 406 #[iv p1, iv p2, iv p3, .val (.long pd), .second, iv 3, iv zo, iv zc, rv by1, rv ay451, .val .null, u_, u_, u_, u_, u_] [(.int (p2 &&& (7 : Int32))), (.ref by1)]))
      have ry479 := (Sta_keep HS_java_lang_String_COMPACT_STRINGS Ky467)
      have hky481 := (Nat.le_trans (Nat.le_trans (Nat.le_trans (Nat.le_trans (Nat.le_trans (Nat.le_trans (Nat.le_trans (Nat.le_trans hky451 (Keep.of_wr Wy453).1) (Keep.of_wr Wy455).1) (Keep.of_wr Wy457).1) (Keep.of_wr Wy459).1) (Keep.of_wr Wy461).1) (Keep.of_wr Wy463).1) (Keep.of_wr Wy465).1) (Keep.of_wr Wy467).1)
      obtain ⟨_, Ty480, Lcy480, Xy480, hSy480, hZ, hown, hQy480, CHcy480, sty480⟩ := packH (s := s) (vm0 := Ty451.vm) hSy451 (by rw [ey467]; exact hky481) hZ hown (callSS Xy467 hx (y := n9) hown (mvT hZ (W_ hw 52)) (mvT hZ (W_ hw 53)) (mvT hZ (W_ hw 28)) (mvT hZ (W_ hw 54)) (by decide) (backOfSH (s := s) (vm0 := Ty451.vm) (W := 0) (rmstA l Z a0 hw [] by1 (p2 &&& (7 : Int32)) ky1 (own_bl pd) wc hy467 n0 Zy467 Vy468 ry479 (own_blc pd) hwc (own_m7 p2) (own_bll pd)) hZ (W_ hw 54) (W_ hw 28) (by decide) (by decide) hEL CHy467.1) (g := (mkF m 406 #[iv p1, iv p2, iv p3, .val (.long pd), .second, iv 3, iv zo, iv zc, rv by1, rv ay451, .val .null, u_, u_, u_, u_, u_] [(.int (p2 &&& (7 : Int32))), (.ref by1)])) rfl (by rw [hml]; rfl) (argsL := [(.ref by1), (.int (p2 &&& (7 : Int32)))]) (rest := []) (lenOf pd_23 rfl) rfl (lb rfl) (hb hby at_406) (fun _ _ => ⟨rfl, ey467, (by decide : 3 + 8 ≤ _), (by decide : 12 + 64 ≤ _)⟩))
      replace hZ : Z.Warmed39 (s.setVm Ty480.vm).vm := hZ
      replace hown : (s.setVm Ty480.vm).vm.findClass "com/example/model_for_reads/modelforreads/model/FieldTypeFromModelNamePinLaw" = some m.cls := hown
      obtain ⟨nb_y480, kn_y480, pm_y480, wl_y480, by480, rfl, bzy480, Nqy480, Kcy480, fy480_0, fy480_1, fy480_2, fy480_3, ppy480_0⟩ := hQy480
      have Ny480 := Fr.app Ny467 Nqy480
      have gzy480 : n0 ≤ by480 := Nat.le_trans Zy467 bzy480
      have szy480 : h0.size ≤ by480 := Nat.le_trans Ky467.1 bzy480
      have sfby1_y480 := CHcy480.safe Vy468.lt sfby1_y467
      have CHy480 := CHy467.trans CHcy480
      have Zy480 := Nat.le_trans Zy467 Kcy480.1
      have Ky480 := Ky467.trans Kcy480 all0
      refine FinW.step (sty480) ?_
      show FinW p e below s _ _ _ (Ty480.setTop (mkF m 409 #[iv p1, iv p2, iv p3, .val (.long pd), .second, iv 3, iv zo, iv zc, rv by1, rv ay451, .val .null, u_, u_, u_, u_, u_] [(.ref by480)]))
      refine FinW.step (fun _ k => Yo.astore Xy480.here hx (hb hby at_409) rfl rfl (l' := #[iv p1, iv p2, iv p3, .val (.long pd), .second, iv 3, iv zo, iv zc, rv by1, rv ay451, .val .null, rv by480, u_, u_, u_, u_]) rfl k) ?_
      obtain ⟨ay482, Ty482, hy482, k1y482, by482, kby482, Xy482, ey482, Ey482, hSy482, hky482, hZ, hown, Ay482, Fcy482, Fvy482, Vy482, -, -, CHcy482, -, nly482, sty482⟩ := ldcCH (s := s) (vm0 := Ty480.vm) Xy480 hx hZ hown (W_ hw 2) wS rfl hSy480 (Nat.le_refl _) hEL (List.mem_of_getElem? (i := 0) rfl) CHy480.1 (vs := [(.int 105), (.int 110), (.int 116)]) (z := (3 : Int32)) ⟨by decide, by rfl⟩ (by decide) (by decide) (g := (mkF m 411 #[iv p1, iv p2, iv p3, .val (.long pd), .second, iv 3, iv zo, iv zc, rv by1, rv ay451, .val .null, rv by480, u_, u_, u_, u_] [])) rfl (hb hby at_411) (n := 12) (by decide) (by decide) (by decide) (by decide)
      have sfby1_y482 := CHcy482.safe (Vy468.keep Kcy480 nin0).lt sfby1_y480
      have nlby1_y482 := nly482 by1 sfby1_y482
      have CHy482 := CHy480.trans CHcy482
      have Zy482 := Nat.le_trans Zy480 Ey482.1
      have Ky482 := Ky480.ext Ey482
      refine FinW.step (sty482) ?_
      show FinW p e below s _ _ _ (Ty482.setTop (mkF m 413 #[iv p1, iv p2, iv p3, .val (.long pd), .second, iv 3, iv zo, iv zc, rv by1, rv ay451, .val .null, rv by480, u_, u_, u_, u_] [(.ref ay482)]))
      refine FinW.step (fun _ k => Yo.aload Xy482.here hx (hb hby at_413) rfl rfl k) ?_
      have ry483 := ((Sta_keepW ry479 Kcy480 all0).ext Ey482)
      obtain ⟨cqy484, kqy484, qy484a, qy484b, qy484c⟩ := isOf hZ ey482 Ay482
      obtain ⟨_, Ty484, Lcy484, Xy484, hQy484, sty484⟩ := pack (Xy482.virtualBack hx (y := n18) (z := n18) hown (mvT hZ (W_ hw 141)) (mvT hZ (W_ hw 99)) (notFace_of_selects (args := #[]) (mvT hZ (W_ hw 101))) (mvT hZ (W_ hw 101)) (mvT hZ (W_ hw 100)) (by decide) (backOf (W := 0) (rmeqG l Z a0 hw [] ay482 by480 by482 kby482 3 _ nb_y480 kn_y480 pm_y480 wl_y480 wc hy482 n0 Zy482 Ay482 Fcy482 Fvy482 Vy482 (fy480_0.ext Ey482) (fy480_1.ext Ey482) (fy480_2.ext Ey482) (fy480_3.ext Ey482) ry483 hwc (by decide) own_nlc0 ppy480_0) hZ (W_ hw 102) (W_ hw 3) (by decide) (by decide)) qy484a qy484c (g := (mkF m 415 #[iv p1, iv p2, iv p3, .val (.long pd), .second, iv 3, iv zo, iv zc, rv by1, rv ay451, .val .null, rv by480, u_, u_, u_, u_] [(.ref by480), (.ref ay482)])) rfl (by rw [hml]; rfl) (Steps.refl _) (argsL := [(.ref by480)]) (rest := []) (lenOf pd_19 rfl) rfl (lb rfl) (hb hby at_415) (fun _ _ => ⟨rfl, ey482, (by decide : 13 + 0 ≤ _), (by decide : 92 + 0 ≤ _)⟩))
      obtain ⟨rfl, Nqy484, eqy484⟩ := hQy484
      have Ny484 := Fr.app Ny480 Nqy484
      refine FinW.step (sty484) ?_
      show FinW p e below s _ _ _ (Ty484.setTop (mkF m 418 #[iv p1, iv p2, iv p3, .val (.long pd), .second, iv 3, iv zo, iv zc, rv by1, rv ay451, .val .null, rv by480, u_, u_, u_, u_] [(.int (own_eqb (3 : Int32) pm_y480 [(.int 105), (.int 110), (.int 116)] wl_y480))]))
      by_cases hcy485 : (own_eqb (3 : Int32) pm_y480 [(.int 105), (.int 110), (.int 116)] wl_y480) = (0 : Int32)
      · refine FinW.step (fun _ k => Yo.ifYes Xy484.here hx (pc0 := 418) (pc' := 429) rfl (hb hby at_418) rfl ((if0 _ _).trans (teq (hcy485 : ((own_eqb (3 : Int32) pm_y480 [(.int 105), (.int 110), (.int 116)] wl_y480) = (0 : Int32)))).1) (by decide) (by decide) k) ?_
        obtain ⟨ay486, Ty486, hy486, k1y486, by486, kby486, Xy486, ey486, Ey486, hSy486, hky486, hZ, hown, Ay486, Fcy486, Fvy486, Vy486, -, -, CHcy486, -, nly486, sty486⟩ := ldcCH (s := s) (vm0 := Ty482.vm) Xy484 hx hZ hown (W_ hw 142) wS eqy484 hSy482 hky482 hEL (List.mem_of_getElem? (i := 1) rfl) CHy482.1 (vs := [(.int 100), (.int 101), (.int 99), (.int 105), (.int 109), (.int 97), (.int 108)]) (z := (7 : Int32)) ⟨by decide, by rfl⟩ (by decide) (by decide) (g := (mkF m 429 #[iv p1, iv p2, iv p3, .val (.long pd), .second, iv 3, iv zo, iv zc, rv by1, rv ay451, .val .null, rv by480, u_, u_, u_, u_] [])) rfl (hb hby at_429) (n := 28) (by decide) (by decide) (by decide) (by decide)
        have sfby1_y486 := CHcy486.safe ((Vy468.keep Kcy480 nin0).ext Ey482).lt sfby1_y482
        have nlby1_y486 := nly486 by1 sfby1_y486
        have CHy486 := CHy482.trans CHcy486
        have Zy486 := Nat.le_trans Zy482 Ey486.1
        have Ky486 := Ky482.ext Ey486
        refine FinW.step (sty486) ?_
        show FinW p e below s _ _ _ (Ty486.setTop (mkF m 431 #[iv p1, iv p2, iv p3, .val (.long pd), .second, iv 3, iv zo, iv zc, rv by1, rv ay451, .val .null, rv by480, u_, u_, u_, u_] [(.ref ay486)]))
        refine FinW.step (fun _ k => Yo.aload Xy486.here hx (hb hby at_431) rfl rfl k) ?_
        have ry487 := ((fy480_0.ext Ey482).ext Ey486)
        have ry488 := ((fy480_1.ext Ey482).ext Ey486)
        have ry489 := ((fy480_2.ext Ey482).ext Ey486)
        have ry490 := ((fy480_3.ext Ey482).ext Ey486)
        obtain ⟨cqy491, kqy491, qy491a, qy491b, qy491c⟩ := isOf hZ ey486 Ay486
        obtain ⟨_, Ty491, Lcy491, Xy491, hQy491, sty491⟩ := pack (Xy486.virtualBack hx (y := n18) (z := n18) hown (mvT hZ (W_ hw 141)) (mvT hZ (W_ hw 99)) (notFace_of_selects (args := #[]) (mvT hZ (W_ hw 101))) (mvT hZ (W_ hw 101)) (mvT hZ (W_ hw 100)) (by decide) (backOf (W := 0) (rmeqG l Z a0 hw [] ay486 by480 by486 kby486 7 _ nb_y480 kn_y480 pm_y480 wl_y480 wc hy486 n0 Zy486 Ay486 Fcy486 Fvy486 Vy486 ry487 ry488 ry489 ry490 (ry483.ext Ey486) hwc (by decide) own_nlc1 ppy480_0) hZ (W_ hw 102) (W_ hw 3) (by decide) (by decide)) qy491a qy491c (g := (mkF m 433 #[iv p1, iv p2, iv p3, .val (.long pd), .second, iv 3, iv zo, iv zc, rv by1, rv ay451, .val .null, rv by480, u_, u_, u_, u_] [(.ref by480), (.ref ay486)])) rfl (by rw [hml]; rfl) (Steps.refl _) (argsL := [(.ref by480)]) (rest := []) (lenOf pd_19 rfl) rfl (lb rfl) (hb hby at_433) (fun _ _ => ⟨rfl, ey486, (by decide : 15 + 0 ≤ _), (by decide : 124 + 0 ≤ _)⟩))
        obtain ⟨rfl, Nqy491, eqy491⟩ := hQy491
        have Ny491 := Fr.app Ny484 Nqy491
        refine FinW.step (sty491) ?_
        show FinW p e below s _ _ _ (Ty491.setTop (mkF m 436 #[iv p1, iv p2, iv p3, .val (.long pd), .second, iv 3, iv zo, iv zc, rv by1, rv ay451, .val .null, rv by480, u_, u_, u_, u_] [(.int (own_eqb (7 : Int32) pm_y480 [(.int 100), (.int 101), (.int 99), (.int 105), (.int 109), (.int 97), (.int 108)] wl_y480))]))
        by_cases hcy492 : (own_eqb (7 : Int32) pm_y480 [(.int 100), (.int 101), (.int 99), (.int 105), (.int 109), (.int 97), (.int 108)] wl_y480) = (0 : Int32)
        · refine FinW.step (fun _ k => Yo.ifYes Xy491.here hx (pc0 := 436) (pc' := 447) rfl (hb hby at_436) rfl ((if0 _ _).trans (teq (hcy492 : ((own_eqb (7 : Int32) pm_y480 [(.int 100), (.int 101), (.int 99), (.int 105), (.int 109), (.int 97), (.int 108)] wl_y480) = (0 : Int32)))).1) (by decide) (by decide) k) ?_
          obtain ⟨ay493, Ty493, hy493, k1y493, by493, kby493, Xy493, ey493, Ey493, hSy493, hky493, hZ, hown, Ay493, Fcy493, Fvy493, Vy493, -, -, CHcy493, -, nly493, sty493⟩ := ldcCH (s := s) (vm0 := Ty486.vm) Xy491 hx hZ hown (W_ hw 134) wS eqy491 hSy486 hky486 hEL (List.mem_of_getElem? (i := 2) rfl) CHy486.1 (vs := [(.int 115), (.int 116), (.int 114), (.int 105), (.int 110), (.int 103)]) (z := (6 : Int32)) ⟨by decide, by rfl⟩ (by decide) (by decide) (g := (mkF m 447 #[iv p1, iv p2, iv p3, .val (.long pd), .second, iv 3, iv zo, iv zc, rv by1, rv ay451, .val .null, rv by480, u_, u_, u_, u_] [])) rfl (hb hby at_447) (n := 24) (by decide) (by decide) (by decide) (by decide)
          have sfby1_y493 := CHcy493.safe (((Vy468.keep Kcy480 nin0).ext Ey482).ext Ey486).lt sfby1_y486
          have nlby1_y493 := nly493 by1 sfby1_y493
          have CHy493 := CHy486.trans CHcy493
          have Zy493 := Nat.le_trans Zy486 Ey493.1
          have Ky493 := Ky486.ext Ey493
          refine FinW.step (sty493) ?_
          show FinW p e below s _ _ _ (Ty493.setTop (mkF m 449 #[iv p1, iv p2, iv p3, .val (.long pd), .second, iv 3, iv zo, iv zc, rv by1, rv ay451, .val .null, rv by480, u_, u_, u_, u_] [(.ref ay493)]))
          refine FinW.step (fun _ k => Yo.aload Xy493.here hx (hb hby at_449) rfl rfl k) ?_
          obtain ⟨cqy494, kqy494, qy494a, qy494b, qy494c⟩ := isOf hZ ey493 Ay493
          obtain ⟨_, Ty494, Lcy494, Xy494, hQy494, sty494⟩ := pack (Xy493.virtualBack hx (y := n18) (z := n18) hown (mvT hZ (W_ hw 141)) (mvT hZ (W_ hw 99)) (notFace_of_selects (args := #[]) (mvT hZ (W_ hw 101))) (mvT hZ (W_ hw 101)) (mvT hZ (W_ hw 100)) (by decide) (backOf (W := 0) (rmeqG l Z a0 hw [] ay493 by480 by493 kby493 6 _ nb_y480 kn_y480 pm_y480 wl_y480 wc hy493 n0 Zy493 Ay493 Fcy493 Fvy493 Vy493 (ry487.ext Ey493) (ry488.ext Ey493) (ry489.ext Ey493) (ry490.ext Ey493) ((ry483.ext Ey486).ext Ey493) hwc (by decide) own_nlc2 ppy480_0) hZ (W_ hw 102) (W_ hw 3) (by decide) (by decide)) qy494a qy494c (g := (mkF m 451 #[iv p1, iv p2, iv p3, .val (.long pd), .second, iv 3, iv zo, iv zc, rv by1, rv ay451, .val .null, rv by480, u_, u_, u_, u_] [(.ref by480), (.ref ay493)])) rfl (by rw [hml]; rfl) (Steps.refl _) (argsL := [(.ref by480)]) (rest := []) (lenOf pd_19 rfl) rfl (lb rfl) (hb hby at_451) (fun _ _ => ⟨rfl, ey493, (by decide : 17 + 0 ≤ _), (by decide : 152 + 0 ≤ _)⟩))
          obtain ⟨rfl, Nqy494, eqy494⟩ := hQy494
          have Ny494 := Fr.app Ny491 Nqy494
          refine FinW.step (sty494) ?_
          show FinW p e below s _ _ _ (Ty494.setTop (mkF m 454 #[iv p1, iv p2, iv p3, .val (.long pd), .second, iv 3, iv zo, iv zc, rv by1, rv ay451, .val .null, rv by480, u_, u_, u_, u_] [(.int (own_eqb (6 : Int32) pm_y480 [(.int 115), (.int 116), (.int 114), (.int 105), (.int 110), (.int 103)] wl_y480))]))
          by_cases hcy495 : (own_eqb (6 : Int32) pm_y480 [(.int 115), (.int 116), (.int 114), (.int 105), (.int 110), (.int 103)] wl_y480) = (0 : Int32)
          · refine FinW.step (fun _ k => Yo.ifYes Xy494.here hx (pc0 := 454) (pc' := 465) rfl (hb hby at_454) rfl ((if0 _ _).trans (teq (hcy495 : ((own_eqb (6 : Int32) pm_y480 [(.int 115), (.int 116), (.int 114), (.int 105), (.int 110), (.int 103)] wl_y480) = (0 : Int32)))).1) (by decide) (by decide) (Yo.aconstNull Xy494.here hx (hb hby at_465) (Yo.astore Xy494.here hx (hb hby at_466) rfl rfl (l' := #[iv p1, iv p2, iv p3, .val (.long pd), .second, iv 3, iv zo, iv zc, rv by1, rv ay451, .val .null, rv by480, .val .null, u_, u_, u_]) rfl (Yo.aload Xy494.here hx (hb hby at_468) rfl rfl k)))) ?_
            have ry496 := (Sta_keep HS_com_example_model_for_reads_modelforreads_model_FieldType__VALUES Ky493)
            have ry497 := (Sta_keep HS_java_util_Optional_EMPTY Ky493)
            have ry498 := (HF_t1_modelName.keep Ky493 nin0)
            have ry499 := (HF_t2_modelName.keep Ky493 nin0)
            have ry500 := (HF_t3_modelName.keep Ky493 nin0)
            have ney501 := nlt HE_s1.lt szy480
            have ney502 := nlt HE_s2.lt szy480
            have ney503 := nlt HE_s3.lt szy480
            obtain ⟨_, Ty504, Lcy504, Xy504, hQy504, sty504⟩ := packS (Jvm.LawKit.callS Xy494 hx (y := n16) hown (mvT hZ (W_ hw 76)) (mvT hZ (W_ hw 77)) (mvT hZ (W_ hw 11)) (mvT hZ (W_ hw 78)) (by decide) (backOf (W := 0) (rmfmL0 l Z a0 hw [] by480 av cv t1 t2 t3 eo wc s1 v1 k1 3 _ s2 v2 k2 7 _ s3 v3 k3 6 _ nb_y480 kn_y480 pm_y480 wl_y480 hy493 n0 Zy493 ry496 ry497 ((ry483.ext Ey486).ext Ey493) ry498 (HE_s1.keep Ky493) (HF_s1_coder.keep Ky493 nin0) (HF_s1_value.keep Ky493 nin0) (HV_v1.keep Ky493 nin0) ry499 (HE_s2.keep Ky493) (HF_s2_coder.keep Ky493 nin0) (HF_s2_value.keep Ky493 nin0) (HV_v2.keep Ky493 nin0) ry500 (HE_s3.keep Ky493) (HF_s3_coder.keep Ky493 nin0) (HF_s3_value.keep Ky493 nin0) (HV_v3.keep Ky493 nin0) (ry487.ext Ey493) (ry488.ext Ey493) (ry489.ext Ey493) (ry490.ext Ey493) ⟨Arr_keep hcv.1 Ky493, hcv.2.1.keep Ky493, hcv.2.2.1, hcv.2.2.2⟩ hwc ppy480_0 (by decide) (by decide) (by decide) own_nlc0 own_nlc1 own_nlc2 hcy485 hcy492 hcy495 ney501 ney502 ney503) hZ (W_ hw 78) (W_ hw 11) (by decide) (by decide)) (g := (mkF m 470 #[iv p1, iv p2, iv p3, .val (.long pd), .second, iv 3, iv zo, iv zc, rv by1, rv ay451, .val .null, rv by480, .val .null, u_, u_, u_] [(.ref by480)])) rfl (by rw [hml]; rfl) (argsL := [(.ref by480)]) (rest := []) (lenOf pd_24 rfl) rfl (lb rfl) (hb hby at_470) (fun _ _ => ⟨rfl, eqy494, (by decide : 17 + 1 ≤ _), (by decide : 152 + 3 ≤ _)⟩))
            obtain ⟨rfl, Nqy504, Kcy504⟩ := hQy504
            have Ny504 := Fr.app Ny494 Nqy504
            have CHy504 := CHy493.trans (CHr.keep Kcy504 all0 CHy493.1)
            have sfby1_y504 := Safe.keep Kcy504 all0 CHy493.1 sfby1_y493
            have Zy504 := Nat.le_trans Zy493 Kcy504.1
            have Ky504 := Ky493.trans Kcy504 all0
            refine FinW.step (sty504) ?_
            show FinW p e below s _ _ _ (Ty504.setTop (mkF m 473 #[iv p1, iv p2, iv p3, .val (.long pd), .second, iv 3, iv zo, iv zc, rv by1, rv ay451, .val .null, rv by480, .val .null, u_, u_, u_] [(.ref eo)]))
            refine FinW.step (fun _ k => Yo.astore Xy504.here hx (hb hby at_473) rfl rfl (l' := #[iv p1, iv p2, iv p3, .val (.long pd), .second, iv 3, iv zo, iv zc, rv by1, rv ay451, .val .null, rv by480, .val .null, rv eo, u_, u_]) rfl (Yo.aload Xy504.here hx (hb hby at_475) rfl rfl (Yo.aconstNull Xy504.here hx (hb hby at_477) k))) ?_
            obtain ⟨cqy505, kqy505, qy505a, qy505b, qy505c⟩ := isOf hZ rfl (HE_eo.keep Ky504)
            obtain ⟨_, Ty505, Lcy505, Xy505, hQy505, sty505⟩ := pack (Xy504.virtualBack hx (y := n23) (z := n23) hown (mvT hZ (W_ hw 124)) (mvT hZ (W_ hw 125)) (notFace_of_selects (args := #[]) (mvT hZ (W_ hw 127))) (mvT hZ (W_ hw 127)) (mvT hZ (W_ hw 126)) (by decide) (backOf (W := 0) (rmor0 l Z a0 hw [] eo Ty504.heap n0 Zy504 (HF_eo_value.keep Ky504 nin0)) hZ (W_ hw 128) (W_ hw 109) (by decide) (by decide)) qy505a qy505c (g := (mkF m 478 #[iv p1, iv p2, iv p3, .val (.long pd), .second, iv 3, iv zo, iv zc, rv by1, rv ay451, .val .null, rv by480, .val .null, rv eo, u_, u_] [.null, (.ref eo)])) rfl (by rw [hml]; rfl) (Steps.refl _) (argsL := [.null]) (rest := []) (lenOf pd_16 rfl) rfl (lb rfl) (hb hby at_478) (fun _ _ => ⟨rfl, rfl, (by decide : 18 + 0 ≤ _), (by decide : 155 + 0 ≤ _)⟩))
            obtain ⟨rfl, Nqy505, eqy505⟩ := hQy505
            have Ny505 := Fr.app Ny504 Nqy505
            refine FinW.step (sty505) ?_
            show FinW p e below s _ _ _ (Ty505.setTop (mkF m 481 #[iv p1, iv p2, iv p3, .val (.long pd), .second, iv 3, iv zo, iv zc, rv by1, rv ay451, .val .null, rv by480, .val .null, rv eo, u_, u_] [.null]))
            refine FinW.step (fun _ k => Yo.aload Xy505.here hx (hb hby at_481) rfl rfl k) ?_
            refine FinW.step (fun _ => Jvm.RoadKit.acmp (g := (mkF m 483 #[iv p1, iv p2, iv p3, .val (.long pd), .second, iv 3, iv zo, iv zc, rv by1, rv ay451, .val .null, rv by480, .val .null, rv eo, u_, u_] [.null, .null])) Xy505 hx rfl rfl rfl (pc0 := 483) (pc' := 486) (same := true) rfl (hb hby at_483) rfl (decide_eq_true rfl) (by decide) (by decide)) ?_
            show FinW p e below s _ _ _ (Ty505.setTop (mkF m 486 #[iv p1, iv p2, iv p3, .val (.long pd), .second, iv 3, iv zo, iv zc, rv by1, rv ay451, .val .null, rv by480, .val .null, rv eo, u_, u_] []))
            refine FinW.step (fun _ k => Yo.iconst Xy505.here hx (hb hby at_486) (Yo.goto Xy505.here hx (pc0 := 487) (pc' := 491) rfl (hb hby at_487) (by decide) (by decide) k)) ?_
            have hky506 := (Nat.le_trans hky493 Kcy504.1)
            refine FinW.retN Xy505 hSy493 (by rw [eqy505]; exact hky506) hx (t := .boolean) hret (by simp) hlk (hb hby at_491) (by decide) (by decide) ?_
            show Q0 Z p1 p2 p3 pd wc fv eo av cv t1 t2 t3 s1 v1 k1 s2 v2 k2 s3 v3 k3 h0 n0 _ Ty505.heap _
            rw [eqy505]
            exact ⟨rfl, Ny505, Ky504⟩
          · refine FinW.step (fun _ k => Yo.ifNo Xy494.here hx (hb hby at_454) rfl ((if0 _ _).trans (feq (hcy495 : ¬ ((own_eqb (6 : Int32) pm_y480 [(.int 115), (.int 116), (.int 114), (.int 105), (.int 110), (.int 103)] wl_y480) = (0 : Int32)))).1) k) ?_
            obtain ⟨Ty507, Xy507, ey507, sty507⟩ := getS2 Xy494 hx hZ hown (host := "") (Or.inl (W_ hw 135)) Via.refl eqy494 (Sta_keep HS_com_example_model_for_reads_modelforreads_model_FieldType_STRING Ky493) (g := (mkF m 457 #[iv p1, iv p2, iv p3, .val (.long pd), .second, iv 3, iv zo, iv zc, rv by1, rv ay451, .val .null, rv by480, u_, u_, u_, u_] [])) rfl (hb hby at_457)
            refine FinW.step (sty507) ?_
            show FinW p e below s _ _ _ (Ty507.setTop (mkF m 460 #[iv p1, iv p2, iv p3, .val (.long pd), .second, iv 3, iv zo, iv zc, rv by1, rv ay451, .val .null, rv by480, u_, u_, u_, u_] [(.ref t3)]))
            refine FinW.step (fun _ k => Yo.astore Xy507.here hx (hb hby at_460) rfl rfl (l' := #[iv p1, iv p2, iv p3, .val (.long pd), .second, iv 3, iv zo, iv zc, rv by1, rv ay451, .val .null, rv by480, rv t3, u_, u_, u_]) rfl (Yo.goto Xy507.here hx (pc0 := 462) (pc' := 468) rfl (hb hby at_462) (by decide) (by decide) (Yo.aload Xy507.here hx (hb hby at_468) rfl rfl k))) ?_
            have ry508 := (Sta_keep HS_com_example_model_for_reads_modelforreads_model_FieldType__VALUES Ky493)
            have ry509 := (Sta_keep HS_java_util_Optional_EMPTY Ky493)
            have ry510 := (HF_t1_modelName.keep Ky493 nin0)
            have ry511 := (HF_t2_modelName.keep Ky493 nin0)
            have ry512 := (HF_t3_modelName.keep Ky493 nin0)
            have ney513 := nlt HE_s1.lt szy480
            have ney514 := nlt HE_s2.lt szy480
            have ney515 := nlt HE_s3.lt szy480
            obtain ⟨_, Ty516, Lcy516, Xy516, hQy516, sty516⟩ := packS (Jvm.LawKit.callS Xy507 hx (y := n16) hown (mvT hZ (W_ hw 76)) (mvT hZ (W_ hw 77)) (mvT hZ (W_ hw 11)) (mvT hZ (W_ hw 78)) (by decide) (backOf (W := 0) (rmfmL3 l Z a0 hw [] by480 av cv t1 t2 t3 eo wc s1 v1 k1 3 _ s2 v2 k2 7 _ s3 v3 k3 6 _ nb_y480 kn_y480 pm_y480 wl_y480 hy493 n0 Zy493 ry508 ry509 ((ry483.ext Ey486).ext Ey493) ry510 (HE_s1.keep Ky493) (HF_s1_coder.keep Ky493 nin0) (HF_s1_value.keep Ky493 nin0) (HV_v1.keep Ky493 nin0) ry511 (HE_s2.keep Ky493) (HF_s2_coder.keep Ky493 nin0) (HF_s2_value.keep Ky493 nin0) (HV_v2.keep Ky493 nin0) ry512 (HE_s3.keep Ky493) (HF_s3_coder.keep Ky493 nin0) (HF_s3_value.keep Ky493 nin0) (HV_v3.keep Ky493 nin0) (ry487.ext Ey493) (ry488.ext Ey493) (ry489.ext Ey493) (ry490.ext Ey493) ⟨Arr_keep hcv.1 Ky493, hcv.2.1.keep Ky493, hcv.2.2.1, hcv.2.2.2⟩ hwc ppy480_0 (by decide) (by decide) (by decide) own_nlc0 own_nlc1 own_nlc2 hcy485 hcy492 hcy495 ney513 ney514 ney515) hZ (W_ hw 78) (W_ hw 11) (by decide) (by decide)) (g := (mkF m 470 #[iv p1, iv p2, iv p3, .val (.long pd), .second, iv 3, iv zo, iv zc, rv by1, rv ay451, .val .null, rv by480, rv t3, u_, u_, u_] [(.ref by480)])) rfl (by rw [hml]; rfl) (argsL := [(.ref by480)]) (rest := []) (lenOf pd_24 rfl) rfl (lb rfl) (hb hby at_470) (fun _ _ => ⟨rfl, ey507, (by decide : 17 + 2 ≤ _), (by decide : 152 + 4 ≤ _)⟩))
            obtain ⟨by516, rfl, bzy516, Nqy516, Kcy516, fy516_0, fy516_1⟩ := hQy516
            have Ny516 := Fr.app Ny494 Nqy516
            have gzy516 : n0 ≤ by516 := Nat.le_trans Zy493 bzy516
            have szy516 : h0.size ≤ by516 := Nat.le_trans Ky493.1 bzy516
            have CHy516 := CHy493.trans (CHr.keep Kcy516 all0 CHy493.1)
            have sfby1_y516 := Safe.keep Kcy516 all0 CHy493.1 sfby1_y493
            have Zy516 := Nat.le_trans Zy493 Kcy516.1
            have Ky516 := Ky493.trans Kcy516 all0
            refine FinW.step (sty516) ?_
            show FinW p e below s _ _ _ (Ty516.setTop (mkF m 473 #[iv p1, iv p2, iv p3, .val (.long pd), .second, iv 3, iv zo, iv zc, rv by1, rv ay451, .val .null, rv by480, rv t3, u_, u_, u_] [(.ref by516)]))
            refine FinW.step (fun _ k => Yo.astore Xy516.here hx (hb hby at_473) rfl rfl (l' := #[iv p1, iv p2, iv p3, .val (.long pd), .second, iv 3, iv zo, iv zc, rv by1, rv ay451, .val .null, rv by480, rv t3, rv by516, u_, u_]) rfl (Yo.aload Xy516.here hx (hb hby at_475) rfl rfl (Yo.aconstNull Xy516.here hx (hb hby at_477) k))) ?_
            obtain ⟨cqy517, kqy517, qy517a, qy517b, qy517c⟩ := isOf hZ rfl fy516_0
            obtain ⟨_, Ty517, Lcy517, Xy517, hQy517, sty517⟩ := pack (Xy516.virtualBack hx (y := n23) (z := n23) hown (mvT hZ (W_ hw 124)) (mvT hZ (W_ hw 125)) (notFace_of_selects (args := #[]) (mvT hZ (W_ hw 127))) (mvT hZ (W_ hw 127)) (mvT hZ (W_ hw 126)) (by decide) (backOf (W := 0) (rmor1 l Z a0 hw [] by516 t3 Ty516.heap n0 Zy516 fy516_1) hZ (W_ hw 128) (W_ hw 109) (by decide) (by decide)) qy517a qy517c (g := (mkF m 478 #[iv p1, iv p2, iv p3, .val (.long pd), .second, iv 3, iv zo, iv zc, rv by1, rv ay451, .val .null, rv by480, rv t3, rv by516, u_, u_] [.null, (.ref by516)])) rfl (by rw [hml]; rfl) (Steps.refl _) (argsL := [.null]) (rest := []) (lenOf pd_16 rfl) rfl (lb rfl) (hb hby at_478) (fun _ _ => ⟨rfl, rfl, (by decide : 19 + 0 ≤ _), (by decide : 156 + 0 ≤ _)⟩))
            obtain ⟨rfl, Nqy517, eqy517⟩ := hQy517
            have Ny517 := Fr.app Ny516 Nqy517
            refine FinW.step (sty517) ?_
            show FinW p e below s _ _ _ (Ty517.setTop (mkF m 481 #[iv p1, iv p2, iv p3, .val (.long pd), .second, iv 3, iv zo, iv zc, rv by1, rv ay451, .val .null, rv by480, rv t3, rv by516, u_, u_] [(.ref t3)]))
            refine FinW.step (fun _ k => Yo.aload Xy517.here hx (hb hby at_481) rfl rfl k) ?_
            refine FinW.step (fun _ => Jvm.RoadKit.acmp (g := (mkF m 483 #[iv p1, iv p2, iv p3, .val (.long pd), .second, iv 3, iv zo, iv zc, rv by1, rv ay451, .val .null, rv by480, rv t3, rv by516, u_, u_] [(.ref t3), (.ref t3)])) Xy517 hx rfl rfl rfl (pc0 := 483) (pc' := 486) (same := true) rfl (hb hby at_483) rfl (decide_eq_true rfl) (by decide) (by decide)) ?_
            show FinW p e below s _ _ _ (Ty517.setTop (mkF m 486 #[iv p1, iv p2, iv p3, .val (.long pd), .second, iv 3, iv zo, iv zc, rv by1, rv ay451, .val .null, rv by480, rv t3, rv by516, u_, u_] []))
            refine FinW.step (fun _ k => Yo.iconst Xy517.here hx (hb hby at_486) (Yo.goto Xy517.here hx (pc0 := 487) (pc' := 491) rfl (hb hby at_487) (by decide) (by decide) k)) ?_
            have hky518 := (Nat.le_trans hky493 Kcy516.1)
            refine FinW.retN Xy517 hSy493 (by rw [eqy517]; exact hky518) hx (t := .boolean) hret (by simp) hlk (hb hby at_491) (by decide) (by decide) ?_
            show Q0 Z p1 p2 p3 pd wc fv eo av cv t1 t2 t3 s1 v1 k1 s2 v2 k2 s3 v3 k3 h0 n0 _ Ty517.heap _
            rw [eqy517]
            exact ⟨rfl, Ny517, Ky516⟩
        · refine FinW.step (fun _ k => Yo.ifNo Xy491.here hx (hb hby at_436) rfl ((if0 _ _).trans (feq (hcy492 : ¬ ((own_eqb (7 : Int32) pm_y480 [(.int 100), (.int 101), (.int 99), (.int 105), (.int 109), (.int 97), (.int 108)] wl_y480) = (0 : Int32)))).1) k) ?_
          obtain ⟨Ty519, Xy519, ey519, sty519⟩ := getS2 Xy491 hx hZ hown (host := "") (Or.inl (W_ hw 162)) Via.refl eqy491 (Sta_keep HS_com_example_model_for_reads_modelforreads_model_FieldType_DECIMAL Ky486) (g := (mkF m 439 #[iv p1, iv p2, iv p3, .val (.long pd), .second, iv 3, iv zo, iv zc, rv by1, rv ay451, .val .null, rv by480, u_, u_, u_, u_] [])) rfl (hb hby at_439)
          refine FinW.step (sty519) ?_
          show FinW p e below s _ _ _ (Ty519.setTop (mkF m 442 #[iv p1, iv p2, iv p3, .val (.long pd), .second, iv 3, iv zo, iv zc, rv by1, rv ay451, .val .null, rv by480, u_, u_, u_, u_] [(.ref t2)]))
          refine FinW.step (fun _ k => Yo.astore Xy519.here hx (hb hby at_442) rfl rfl (l' := #[iv p1, iv p2, iv p3, .val (.long pd), .second, iv 3, iv zo, iv zc, rv by1, rv ay451, .val .null, rv by480, rv t2, u_, u_, u_]) rfl (Yo.goto Xy519.here hx (pc0 := 444) (pc' := 468) rfl (hb hby at_444) (by decide) (by decide) (Yo.aload Xy519.here hx (hb hby at_468) rfl rfl k))) ?_
          have ry520 := (Sta_keep HS_com_example_model_for_reads_modelforreads_model_FieldType__VALUES Ky486)
          have ry521 := (Sta_keep HS_java_util_Optional_EMPTY Ky486)
          have ry522 := (HF_t1_modelName.keep Ky486 nin0)
          have ry523 := (HF_t2_modelName.keep Ky486 nin0)
          have ry524 := (HF_t3_modelName.keep Ky486 nin0)
          have ney525 := nlt HE_s1.lt szy480
          have ney526 := nlt HE_s2.lt szy480
          have ney527 := nlt HE_s3.lt szy480
          obtain ⟨_, Ty528, Lcy528, Xy528, hQy528, sty528⟩ := packS (Jvm.LawKit.callS Xy519 hx (y := n16) hown (mvT hZ (W_ hw 76)) (mvT hZ (W_ hw 77)) (mvT hZ (W_ hw 11)) (mvT hZ (W_ hw 78)) (by decide) (backOf (W := 0) (rmfmL2 l Z a0 hw [] by480 av cv t1 t2 t3 eo wc s1 v1 k1 3 _ s2 v2 k2 7 _ s3 v3 k3 6 _ nb_y480 kn_y480 pm_y480 wl_y480 hy486 n0 Zy486 ry520 ry521 (ry483.ext Ey486) ry522 (HE_s1.keep Ky486) (HF_s1_coder.keep Ky486 nin0) (HF_s1_value.keep Ky486 nin0) (HV_v1.keep Ky486 nin0) ry523 (HE_s2.keep Ky486) (HF_s2_coder.keep Ky486 nin0) (HF_s2_value.keep Ky486 nin0) (HV_v2.keep Ky486 nin0) ry524 (HE_s3.keep Ky486) (HF_s3_coder.keep Ky486 nin0) (HF_s3_value.keep Ky486 nin0) (HV_v3.keep Ky486 nin0) ry487 ry488 ry489 ry490 ⟨Arr_keep hcv.1 Ky486, hcv.2.1.keep Ky486, hcv.2.2.1, hcv.2.2.2⟩ hwc ppy480_0 (by decide) (by decide) (by decide) own_nlc0 own_nlc1 own_nlc2 hcy485 hcy492 ney525 ney526 ney527) hZ (W_ hw 78) (W_ hw 11) (by decide) (by decide)) (g := (mkF m 470 #[iv p1, iv p2, iv p3, .val (.long pd), .second, iv 3, iv zo, iv zc, rv by1, rv ay451, .val .null, rv by480, rv t2, u_, u_, u_] [(.ref by480)])) rfl (by rw [hml]; rfl) (argsL := [(.ref by480)]) (rest := []) (lenOf pd_24 rfl) rfl (lb rfl) (hb hby at_470) (fun _ _ => ⟨rfl, ey519, (by decide : 15 + 2 ≤ _), (by decide : 124 + 4 ≤ _)⟩))
          obtain ⟨by528, rfl, bzy528, Nqy528, Kcy528, fy528_0, fy528_1⟩ := hQy528
          have Ny528 := Fr.app Ny491 Nqy528
          have gzy528 : n0 ≤ by528 := Nat.le_trans Zy486 bzy528
          have szy528 : h0.size ≤ by528 := Nat.le_trans Ky486.1 bzy528
          have CHy528 := CHy486.trans (CHr.keep Kcy528 all0 CHy486.1)
          have sfby1_y528 := Safe.keep Kcy528 all0 CHy486.1 sfby1_y486
          have Zy528 := Nat.le_trans Zy486 Kcy528.1
          have Ky528 := Ky486.trans Kcy528 all0
          refine FinW.step (sty528) ?_
          show FinW p e below s _ _ _ (Ty528.setTop (mkF m 473 #[iv p1, iv p2, iv p3, .val (.long pd), .second, iv 3, iv zo, iv zc, rv by1, rv ay451, .val .null, rv by480, rv t2, u_, u_, u_] [(.ref by528)]))
          refine FinW.step (fun _ k => Yo.astore Xy528.here hx (hb hby at_473) rfl rfl (l' := #[iv p1, iv p2, iv p3, .val (.long pd), .second, iv 3, iv zo, iv zc, rv by1, rv ay451, .val .null, rv by480, rv t2, rv by528, u_, u_]) rfl (Yo.aload Xy528.here hx (hb hby at_475) rfl rfl (Yo.aconstNull Xy528.here hx (hb hby at_477) k))) ?_
          obtain ⟨cqy529, kqy529, qy529a, qy529b, qy529c⟩ := isOf hZ rfl fy528_0
          obtain ⟨_, Ty529, Lcy529, Xy529, hQy529, sty529⟩ := pack (Xy528.virtualBack hx (y := n23) (z := n23) hown (mvT hZ (W_ hw 124)) (mvT hZ (W_ hw 125)) (notFace_of_selects (args := #[]) (mvT hZ (W_ hw 127))) (mvT hZ (W_ hw 127)) (mvT hZ (W_ hw 126)) (by decide) (backOf (W := 0) (rmor1 l Z a0 hw [] by528 t2 Ty528.heap n0 Zy528 fy528_1) hZ (W_ hw 128) (W_ hw 109) (by decide) (by decide)) qy529a qy529c (g := (mkF m 478 #[iv p1, iv p2, iv p3, .val (.long pd), .second, iv 3, iv zo, iv zc, rv by1, rv ay451, .val .null, rv by480, rv t2, rv by528, u_, u_] [.null, (.ref by528)])) rfl (by rw [hml]; rfl) (Steps.refl _) (argsL := [.null]) (rest := []) (lenOf pd_16 rfl) rfl (lb rfl) (hb hby at_478) (fun _ _ => ⟨rfl, rfl, (by decide : 17 + 0 ≤ _), (by decide : 128 + 0 ≤ _)⟩))
          obtain ⟨rfl, Nqy529, eqy529⟩ := hQy529
          have Ny529 := Fr.app Ny528 Nqy529
          refine FinW.step (sty529) ?_
          show FinW p e below s _ _ _ (Ty529.setTop (mkF m 481 #[iv p1, iv p2, iv p3, .val (.long pd), .second, iv 3, iv zo, iv zc, rv by1, rv ay451, .val .null, rv by480, rv t2, rv by528, u_, u_] [(.ref t2)]))
          refine FinW.step (fun _ k => Yo.aload Xy529.here hx (hb hby at_481) rfl rfl k) ?_
          refine FinW.step (fun _ => Jvm.RoadKit.acmp (g := (mkF m 483 #[iv p1, iv p2, iv p3, .val (.long pd), .second, iv 3, iv zo, iv zc, rv by1, rv ay451, .val .null, rv by480, rv t2, rv by528, u_, u_] [(.ref t2), (.ref t2)])) Xy529 hx rfl rfl rfl (pc0 := 483) (pc' := 486) (same := true) rfl (hb hby at_483) rfl (decide_eq_true rfl) (by decide) (by decide)) ?_
          show FinW p e below s _ _ _ (Ty529.setTop (mkF m 486 #[iv p1, iv p2, iv p3, .val (.long pd), .second, iv 3, iv zo, iv zc, rv by1, rv ay451, .val .null, rv by480, rv t2, rv by528, u_, u_] []))
          refine FinW.step (fun _ k => Yo.iconst Xy529.here hx (hb hby at_486) (Yo.goto Xy529.here hx (pc0 := 487) (pc' := 491) rfl (hb hby at_487) (by decide) (by decide) k)) ?_
          have hky530 := (Nat.le_trans hky486 Kcy528.1)
          refine FinW.retN Xy529 hSy486 (by rw [eqy529]; exact hky530) hx (t := .boolean) hret (by simp) hlk (hb hby at_491) (by decide) (by decide) ?_
          show Q0 Z p1 p2 p3 pd wc fv eo av cv t1 t2 t3 s1 v1 k1 s2 v2 k2 s3 v3 k3 h0 n0 _ Ty529.heap _
          rw [eqy529]
          exact ⟨rfl, Ny529, Ky528⟩
      · refine FinW.step (fun _ k => Yo.ifNo Xy484.here hx (hb hby at_418) rfl ((if0 _ _).trans (feq (hcy485 : ¬ ((own_eqb (3 : Int32) pm_y480 [(.int 105), (.int 110), (.int 116)] wl_y480) = (0 : Int32)))).1) k) ?_
        obtain ⟨Ty531, Xy531, ey531, sty531⟩ := getS2 Xy484 hx hZ hown (host := "") (Or.inl (W_ hw 10)) Via.refl eqy484 (Sta_keep HS_com_example_model_for_reads_modelforreads_model_FieldType_INT Ky482) (g := (mkF m 421 #[iv p1, iv p2, iv p3, .val (.long pd), .second, iv 3, iv zo, iv zc, rv by1, rv ay451, .val .null, rv by480, u_, u_, u_, u_] [])) rfl (hb hby at_421)
        refine FinW.step (sty531) ?_
        show FinW p e below s _ _ _ (Ty531.setTop (mkF m 424 #[iv p1, iv p2, iv p3, .val (.long pd), .second, iv 3, iv zo, iv zc, rv by1, rv ay451, .val .null, rv by480, u_, u_, u_, u_] [(.ref t1)]))
        refine FinW.step (fun _ k => Yo.astore Xy531.here hx (hb hby at_424) rfl rfl (l' := #[iv p1, iv p2, iv p3, .val (.long pd), .second, iv 3, iv zo, iv zc, rv by1, rv ay451, .val .null, rv by480, rv t1, u_, u_, u_]) rfl (Yo.goto Xy531.here hx (pc0 := 426) (pc' := 468) rfl (hb hby at_426) (by decide) (by decide) (Yo.aload Xy531.here hx (hb hby at_468) rfl rfl k))) ?_
        have ry532 := (Sta_keep HS_com_example_model_for_reads_modelforreads_model_FieldType__VALUES Ky482)
        have ry533 := (Sta_keep HS_java_util_Optional_EMPTY Ky482)
        have ry534 := (HF_t1_modelName.keep Ky482 nin0)
        have ry535 := (HF_t2_modelName.keep Ky482 nin0)
        have ry536 := (HF_t3_modelName.keep Ky482 nin0)
        have ney537 := nlt HE_s1.lt szy480
        have ney538 := nlt HE_s2.lt szy480
        have ney539 := nlt HE_s3.lt szy480
        obtain ⟨_, Ty540, Lcy540, Xy540, hQy540, sty540⟩ := packS (Jvm.LawKit.callS Xy531 hx (y := n16) hown (mvT hZ (W_ hw 76)) (mvT hZ (W_ hw 77)) (mvT hZ (W_ hw 11)) (mvT hZ (W_ hw 78)) (by decide) (backOf (W := 0) (rmfmL1 l Z a0 hw [] by480 av cv t1 t2 t3 eo wc s1 v1 k1 3 _ s2 v2 k2 7 _ s3 v3 k3 6 _ nb_y480 kn_y480 pm_y480 wl_y480 hy482 n0 Zy482 ry532 ry533 ry483 ry534 (HE_s1.keep Ky482) (HF_s1_coder.keep Ky482 nin0) (HF_s1_value.keep Ky482 nin0) (HV_v1.keep Ky482 nin0) ry535 (HE_s2.keep Ky482) (HF_s2_coder.keep Ky482 nin0) (HF_s2_value.keep Ky482 nin0) (HV_v2.keep Ky482 nin0) ry536 (HE_s3.keep Ky482) (HF_s3_coder.keep Ky482 nin0) (HF_s3_value.keep Ky482 nin0) (HV_v3.keep Ky482 nin0) (fy480_0.ext Ey482) (fy480_1.ext Ey482) (fy480_2.ext Ey482) (fy480_3.ext Ey482) ⟨Arr_keep hcv.1 Ky482, hcv.2.1.keep Ky482, hcv.2.2.1, hcv.2.2.2⟩ hwc ppy480_0 (by decide) (by decide) (by decide) own_nlc0 own_nlc1 own_nlc2 hcy485 ney537 ney538 ney539) hZ (W_ hw 78) (W_ hw 11) (by decide) (by decide)) (g := (mkF m 470 #[iv p1, iv p2, iv p3, .val (.long pd), .second, iv 3, iv zo, iv zc, rv by1, rv ay451, .val .null, rv by480, rv t1, u_, u_, u_] [(.ref by480)])) rfl (by rw [hml]; rfl) (argsL := [(.ref by480)]) (rest := []) (lenOf pd_24 rfl) rfl (lb rfl) (hb hby at_470) (fun _ _ => ⟨rfl, ey531, (by decide : 13 + 2 ≤ _), (by decide : 92 + 4 ≤ _)⟩))
        obtain ⟨by540, rfl, bzy540, Nqy540, Kcy540, fy540_0, fy540_1⟩ := hQy540
        have Ny540 := Fr.app Ny484 Nqy540
        have gzy540 : n0 ≤ by540 := Nat.le_trans Zy482 bzy540
        have szy540 : h0.size ≤ by540 := Nat.le_trans Ky482.1 bzy540
        have CHy540 := CHy482.trans (CHr.keep Kcy540 all0 CHy482.1)
        have sfby1_y540 := Safe.keep Kcy540 all0 CHy482.1 sfby1_y482
        have Zy540 := Nat.le_trans Zy482 Kcy540.1
        have Ky540 := Ky482.trans Kcy540 all0
        refine FinW.step (sty540) ?_
        show FinW p e below s _ _ _ (Ty540.setTop (mkF m 473 #[iv p1, iv p2, iv p3, .val (.long pd), .second, iv 3, iv zo, iv zc, rv by1, rv ay451, .val .null, rv by480, rv t1, u_, u_, u_] [(.ref by540)]))
        refine FinW.step (fun _ k => Yo.astore Xy540.here hx (hb hby at_473) rfl rfl (l' := #[iv p1, iv p2, iv p3, .val (.long pd), .second, iv 3, iv zo, iv zc, rv by1, rv ay451, .val .null, rv by480, rv t1, rv by540, u_, u_]) rfl (Yo.aload Xy540.here hx (hb hby at_475) rfl rfl (Yo.aconstNull Xy540.here hx (hb hby at_477) k))) ?_
        obtain ⟨cqy541, kqy541, qy541a, qy541b, qy541c⟩ := isOf hZ rfl fy540_0
        obtain ⟨_, Ty541, Lcy541, Xy541, hQy541, sty541⟩ := pack (Xy540.virtualBack hx (y := n23) (z := n23) hown (mvT hZ (W_ hw 124)) (mvT hZ (W_ hw 125)) (notFace_of_selects (args := #[]) (mvT hZ (W_ hw 127))) (mvT hZ (W_ hw 127)) (mvT hZ (W_ hw 126)) (by decide) (backOf (W := 0) (rmor1 l Z a0 hw [] by540 t1 Ty540.heap n0 Zy540 fy540_1) hZ (W_ hw 128) (W_ hw 109) (by decide) (by decide)) qy541a qy541c (g := (mkF m 478 #[iv p1, iv p2, iv p3, .val (.long pd), .second, iv 3, iv zo, iv zc, rv by1, rv ay451, .val .null, rv by480, rv t1, rv by540, u_, u_] [.null, (.ref by540)])) rfl (by rw [hml]; rfl) (Steps.refl _) (argsL := [.null]) (rest := []) (lenOf pd_16 rfl) rfl (lb rfl) (hb hby at_478) (fun _ _ => ⟨rfl, rfl, (by decide : 15 + 0 ≤ _), (by decide : 96 + 0 ≤ _)⟩))
        obtain ⟨rfl, Nqy541, eqy541⟩ := hQy541
        have Ny541 := Fr.app Ny540 Nqy541
        refine FinW.step (sty541) ?_
        show FinW p e below s _ _ _ (Ty541.setTop (mkF m 481 #[iv p1, iv p2, iv p3, .val (.long pd), .second, iv 3, iv zo, iv zc, rv by1, rv ay451, .val .null, rv by480, rv t1, rv by540, u_, u_] [(.ref t1)]))
        refine FinW.step (fun _ k => Yo.aload Xy541.here hx (hb hby at_481) rfl rfl k) ?_
        refine FinW.step (fun _ => Jvm.RoadKit.acmp (g := (mkF m 483 #[iv p1, iv p2, iv p3, .val (.long pd), .second, iv 3, iv zo, iv zc, rv by1, rv ay451, .val .null, rv by480, rv t1, rv by540, u_, u_] [(.ref t1), (.ref t1)])) Xy541 hx rfl rfl rfl (pc0 := 483) (pc' := 486) (same := true) rfl (hb hby at_483) rfl (decide_eq_true rfl) (by decide) (by decide)) ?_
        show FinW p e below s _ _ _ (Ty541.setTop (mkF m 486 #[iv p1, iv p2, iv p3, .val (.long pd), .second, iv 3, iv zo, iv zc, rv by1, rv ay451, .val .null, rv by480, rv t1, rv by540, u_, u_] []))
        refine FinW.step (fun _ k => Yo.iconst Xy541.here hx (hb hby at_486) (Yo.goto Xy541.here hx (pc0 := 487) (pc' := 491) rfl (hb hby at_487) (by decide) (by decide) k)) ?_
        have hky542 := (Nat.le_trans hky482 Kcy540.1)
        refine FinW.retN Xy541 hSy482 (by rw [eqy541]; exact hky542) hx (t := .boolean) hret (by simp) hlk (hb hby at_491) (by decide) (by decide) ?_
        show Q0 Z p1 p2 p3 pd wc fv eo av cv t1 t2 t3 s1 v1 k1 s2 v2 k2 s3 v3 k3 h0 n0 _ Ty541.heap _
        rw [eqy541]
        exact ⟨rfl, Ny541, Ky540⟩
set_option maxRecDepth 65536 in
set_option maxHeartbeats 40000000 in
theorem comes_1 {Post : Tables → Env → Array Value → State → Outcome → State → Prop} (hpost : ∀ tb e args s v u, (limb_1_1.after args s (.returned v) u = true ∧ limb_1_2.after args s (.returned v) u = true ∧ True) → ReturnedEndW s (.returned v) u (Jvm.fieldLocs frame_1_writes args s ++ Jvm.arrayLocs frame_1_arrays args s ++ Jvm.staticLocs frame_1_statics s) 32 5312 → Post tb e args s (.returned v) u) :
    ArmFor flags0 classFile x code maxLocals ret World_1 tables_1 room_1 Calls_1 rest_1 Pre_1 Post := by
  intro l hfl _ _ p e ha hc hk s m args below hf hA hF happ hP
  obtain ⟨hcalls, hrest, hpre⟩ := hP
  obtain ⟨-, -, -, hnamed, -, -, -, hat⟩ := (Spec.applies_iff hf).mp happ
  obtain ⟨hg, hn⟩ := and_e (Cond.before_iff.mp (show (Jvm.Cond.and given_1 narrow_1).before args s = true from hpre))
  obtain ⟨gc, gr0⟩ := and_e hg
  obtain ⟨ga0, gr1⟩ := and_e gr0
  obtain ⟨ga1, gr2⟩ := and_e gr1
  obtain ⟨ga2, gr3⟩ := and_e gr2
  have ga3 := gr3
  obtain ⟨w0, w1, w2, w3, rfl⟩ : ∃ w0 w1 w2 w3 : Value, args = #[w0, w1, w2, w3] := by
    have hs : args.size = 4 := by simpa [Cond.value, given_1] using gc
    obtain ⟨L⟩ := args
    match L, hs with
    | [w0, w1, w2, w3], _ => exact ⟨w0, w1, w2, w3, rfl⟩
  have hw := fun d (hd : d ∈ tables_1) => atoms_spec (ws := Jvm.Cond.code x code maxLocals ret :: tables_1) hat d (List.mem_cons_of_mem _ hd)
  have hfit : Fit s := fun {y c} hc i hi => by
    obtain ⟨ha, rfl⟩ := Array.getElem?_eq_some_iff.mp hc
    have q := List.all_eq_true.mp ((Array.all_eq_true_iff_forall_mem.mp hF) _ (Array.getElem_mem ha)) i (List.mem_range.mpr hi)
    simpa [Array.getElem?_eq_getElem hi] using q
  obtain ⟨hsets, hown0⟩ := atoms_of _ (rest_1_c_eq ▸ (show rest_1_c.before _ s = true from hrest))
  have hr0 := Cond.before_iff.mp hown0
  obtain ⟨i0, ei0⟩ := is_v ga0
  obtain rfl : w0 = (.int i0) := Option.some.inj ei0
  obtain ⟨i1, ei1⟩ := is_v ga1
  obtain rfl : w1 = (.int i1) := Option.some.inj ei1
  obtain ⟨i2, ei2⟩ := is_v ga2
  obtain rfl : w2 = (.int i2) := Option.some.inj ei2
  obtain ⟨i3, ei3⟩ := isL_v ga3
  obtain rfl : w3 = (.long i3) := Option.some.inj ei3
  obtain ⟨na0, hr0⟩ := and_e hn
  obtain ⟨na1, hr1⟩ := and_e hr0
  obtain ⟨na2, hr2⟩ := and_e hr1
  obtain ⟨na3, hr3⟩ := and_e hr2
  obtain ⟨na4, hr4⟩ := and_e hr3
  obtain ⟨na5, hr5⟩ := and_e hr4
  obtain ⟨na6, hr6⟩ := and_e hr5
  obtain ⟨na7, hr7⟩ := and_e hr6
  obtain ⟨na8, hr8⟩ := and_e hr7
  obtain ⟨na9, hr9⟩ := and_e hr8
  obtain ⟨na10, hr10⟩ := and_e hr9
  obtain ⟨na11, hr11⟩ := and_e hr10
  obtain ⟨na12, hr12⟩ := and_e hr11
  obtain ⟨na13, hr13⟩ := and_e hr12
  obtain ⟨na14, hr14⟩ := and_e hr13
  obtain ⟨na15, hr15⟩ := and_e hr14
  obtain ⟨na16, hr16⟩ := and_e hr15
  obtain ⟨na17, hr17⟩ := and_e hr16
  obtain ⟨na18, hr18⟩ := and_e hr17
  obtain ⟨na19, hr19⟩ := and_e hr18
  obtain ⟨na20, hr20⟩ := and_e hr19
  obtain ⟨na21, hr21⟩ := and_e hr20
  obtain ⟨na22, hr22⟩ := and_e hr21
  obtain ⟨na23, hr23⟩ := and_e hr22
  obtain ⟨na24, hr24⟩ := and_e hr23
  obtain ⟨na25, hr25⟩ := and_e hr24
  obtain ⟨na26, hr26⟩ := and_e hr25
  obtain ⟨na27, hr27⟩ := and_e hr26
  obtain ⟨na28, hr28⟩ := and_e hr27
  obtain ⟨na29, hr29⟩ := and_e hr28
  obtain ⟨na30, hr30⟩ := and_e hr29
  obtain ⟨na31, hr31⟩ := and_e hr30
  obtain ⟨na32, hr32⟩ := and_e hr31
  obtain ⟨na33, hr33⟩ := and_e hr32
  obtain ⟨na34, hr34⟩ := and_e hr33
  obtain ⟨na35, hr35⟩ := and_e hr34
  have na36 := hr35
  obtain ⟨wc, evc⟩ := is_v (Cond.before_iff.mp (hsets _ (List.mem_of_getElem? (i := 1) rfl)))
  have hcw := (hsets _ (List.mem_of_getElem? (i := 2) rfl))
  have hwc : ¬ wc = 0 := gotF (Cond.eq_ints evc (Term.int_eval 0)) (not_v (Cond.before_iff.mp hcw))
  obtain ⟨fv, evf, hfv⟩ := isR_v (Cond.before_iff.mp (hsets _ (List.mem_of_getElem? (i := 8) rfl)))
  have H_CS := Sta.start evc (Or.inl (hsets _ (List.mem_of_getElem? (i := 0) rfl)))
  have H_SF := Sta.start evf (Or.inl (hsets _ (List.mem_of_getElem? (i := 7) rfl)))
  have H_AD := Sta.start (own_eqv (Cond.before_iff.mp (hsets _ (List.mem_of_getElem? (i := 16) rfl)))) (Or.inl (hsets _ (List.mem_of_getElem? (i := 15) rfl)))
  have H_HB := Sta.start (own_eqv (Cond.before_iff.mp (hsets _ (List.mem_of_getElem? (i := 19) rfl)))) (Or.inl (hsets _ (List.mem_of_getElem? (i := 18) rfl)))
  have H_LB := Sta.start (own_eqv (Cond.before_iff.mp (hsets _ (List.mem_of_getElem? (i := 22) rfl)))) (Or.inl (hsets _ (List.mem_of_getElem? (i := 21) rfl)))
  obtain ⟨eo, eeo⟩ := exa_v (Cond.before_iff.mp (hsets _ (List.mem_of_getElem? (i := 11) rfl)))
  have H_SE := Sta.start eeo (Or.inl (hsets _ (List.mem_of_getElem? (i := 10) rfl)))
  have H_EE := Exa.start eeo (Cond.before_iff.mp (hsets _ (List.mem_of_getElem? (i := 11) rfl)))
  have H_EF := Fld.start ((fld_at eeo).symm.trans (null_v (Cond.before_iff.mp (hsets _ (List.mem_of_getElem? (i := 12) rfl)))))
  obtain ⟨av, eav⟩ := exa_v na2
  have H_VA := Sta.start eav (Or.inr ⟨(W_ hw 11), (W_ hw 83)⟩)
  obtain ⟨t1, et1⟩ := exa_v na0
  have H_T1 := Sta.start et1 (Or.inr ⟨(W_ hw 11), (W_ hw 12)⟩)
  obtain ⟨t2, et2⟩ := exa_v na5
  have H_T2 := Sta.start et2 (Or.inr ⟨(W_ hw 11), (W_ hw 91)⟩)
  obtain ⟨t3, et3⟩ := exa_v na7
  have H_T3 := Sta.start et3 (Or.inr ⟨(W_ hw 11), (W_ hw 92)⟩)
  obtain ⟨cv, Av⟩ := Arr.start eav na1
  have hcv : Arr s s.heap av cv (.object "com/example/model_for_reads/modelforreads/model/FieldType") ∧ Exa s s.heap av "[Lcom/example/model_for_reads/modelforreads/model/FieldType;" ∧ FitC s cv ∧ cv.slots = ([(.ref t1), (.ref t2), (.ref t3)] : List Value).toArray := ⟨Av, Exa.start eav na2, FitC.start hfit Av, own_slots eav Av (own_eqv na3) rfl ⟨(elem_in (own_eqr na4 et1) eav (Term.int_eval _) Av.1).2, (elem_in (own_eqr na6 et2) eav (Term.int_eval _) Av.1).2, (elem_in (own_eqr na8 et3) eav (Term.int_eval _) Av.1).2, trivial⟩⟩
  obtain ⟨s1, es1⟩ := exa_v na9
  have H_M1 := Fld.start ((fld_at et1).symm.trans es1)
  have H_E1 := Exa.start es1 na9
  have H_C1 := Fld.start ((fld_at es1).symm.trans (own_eqv na10))
  obtain ⟨v1, ev1⟩ := arr_v na11
  have H_F1 := Fld.start ((fld_at es1).symm.trans ev1)
  obtain ⟨cl1, A1⟩ := Arr.start ev1 na11
  have H_V1 : Arv s s.heap v1 cl1.cls .byte (3 : Int32) [(.int (105 : Int32)), (.int (110 : Int32)), (.int (116 : Int32))] (.int (0 : Int32)) := ofArr A1 (own_slots ev1 A1 (own_eqv na12) rfl ⟨(elem_in (own_eqv na13) ev1 (Term.int_eval _) A1.1).2, (elem_in (own_eqv na14) ev1 (Term.int_eval _) A1.1).2, (elem_in (own_eqv na15) ev1 (Term.int_eval _) A1.1).2, trivial⟩) (by decide) rfl (by intro v hv; simp only [List.mem_cons, List.not_mem_nil, or_false] at hv; rcases hv with rfl | rfl | rfl <;> rfl)
  obtain ⟨s2, es2⟩ := exa_v na16
  have H_M2 := Fld.start ((fld_at et2).symm.trans es2)
  have H_E2 := Exa.start es2 na16
  have H_C2 := Fld.start ((fld_at es2).symm.trans (own_eqv na17))
  obtain ⟨v2, ev2⟩ := arr_v na18
  have H_F2 := Fld.start ((fld_at es2).symm.trans ev2)
  obtain ⟨cl2, A2⟩ := Arr.start ev2 na18
  have H_V2 : Arv s s.heap v2 cl2.cls .byte (7 : Int32) [(.int (100 : Int32)), (.int (101 : Int32)), (.int (99 : Int32)), (.int (105 : Int32)), (.int (109 : Int32)), (.int (97 : Int32)), (.int (108 : Int32))] (.int (0 : Int32)) := ofArr A2 (own_slots ev2 A2 (own_eqv na19) rfl ⟨(elem_in (own_eqv na24) ev2 (Term.int_eval _) A2.1).2, (elem_in (own_eqv na25) ev2 (Term.int_eval _) A2.1).2, (elem_in (own_eqv na26) ev2 (Term.int_eval _) A2.1).2, (elem_in (own_eqv na27) ev2 (Term.int_eval _) A2.1).2, (elem_in (own_eqv na28) ev2 (Term.int_eval _) A2.1).2, (elem_in (own_eqv na29) ev2 (Term.int_eval _) A2.1).2, (elem_in (own_eqv na30) ev2 (Term.int_eval _) A2.1).2, trivial⟩) (by decide) rfl (by intro v hv; simp only [List.mem_cons, List.not_mem_nil, or_false] at hv; rcases hv with rfl | rfl | rfl | rfl | rfl | rfl | rfl <;> rfl)
  obtain ⟨s3, es3⟩ := exa_v na20
  have H_M3 := Fld.start ((fld_at et3).symm.trans es3)
  have H_E3 := Exa.start es3 na20
  have H_C3 := Fld.start ((fld_at es3).symm.trans (own_eqv na21))
  obtain ⟨v3, ev3⟩ := arr_v na22
  have H_F3 := Fld.start ((fld_at es3).symm.trans ev3)
  obtain ⟨cl3, A3⟩ := Arr.start ev3 na22
  have H_V3 : Arv s s.heap v3 cl3.cls .byte (6 : Int32) [(.int (115 : Int32)), (.int (116 : Int32)), (.int (114 : Int32)), (.int (105 : Int32)), (.int (110 : Int32)), (.int (103 : Int32))] (.int (0 : Int32)) := ofArr A3 (own_slots ev3 A3 (own_eqv na23) rfl ⟨(elem_in (own_eqv na31) ev3 (Term.int_eval _) A3.1).2, (elem_in (own_eqv na32) ev3 (Term.int_eval _) A3.1).2, (elem_in (own_eqv na33) ev3 (Term.int_eval _) A3.1).2, (elem_in (own_eqv na34) ev3 (Term.int_eval _) A3.1).2, (elem_in (own_eqv na35) ev3 (Term.int_eval _) A3.1).2, (elem_in (own_eqv na36) ev3 (Term.int_eval _) A3.1).2, trivial⟩) (by decide) rfl (by intro v hv; simp only [List.mem_cons, List.not_mem_nil, or_false] at hv; rcases hv with rfl | rfl | rfl | rfl | rfl | rfl <;> rfl)
  have hCH := CHv.start (own_EW hw) (fun p hp => hcalls.1 p hp) hcw (W_ hw 5) (W_ hw 4)
  obtain ⟨n, o, h1, h2, h3, _, L, rfl, ⟨rfl, N, _⟩, hq⟩ := rm0 l s _ hw tables_1 i0 i1 i2 i3 wc fv eo av cv t1 t2 t3 s1 v1 cl1.cls s2 v2 cl2.cls s3 v3 cl3.cls s.heap s.heap.size (Nat.le_refl _) H_CS H_SF H_AD H_HB H_LB H_SE H_VA H_EE H_EF H_T1 H_M1 H_E1 H_C1 H_F1 H_V1 H_T2 H_M2 H_E2 H_C2 H_F2 H_V2 H_T3 H_M3 H_E3 H_C3 H_F3 H_V3 hwc hfv hcv hCH p e ha hc hk s m _ below hf ((Spec.applies_iff_loose hf).mp happ).1 ⟨rfl, rfl, rfl⟩ trivial
  refine ⟨n, _, h1, h2, h3, hpost _ _ _ _ _ _ ⟨Cond.after_iff.mpr rfl, Cond.after_iff.mpr (eq_i res_at (Term.int_eval (1)) rfl), trivial⟩ ⟨hq.1, hq.2.1, hq.2.2.1, (hq.2.2.2.sift fun y hy => Or.inr (N y hy)).mono (by decide) (by decide)⟩⟩
theorem main_1_1 : Claimed_1_1 := comes_1 fun _ _ _ _ _ _ h hF => ⟨h.1, hF⟩
theorem main_1_2 : Claimed_1_2 := comes_1 fun _ _ _ _ _ _ h hF => ⟨h.2.1, hF⟩
end Jvm.Pilot.@@N@@
namespace Jvm.Pilot.@@N@@
open Jvm Jvm.ClassFile Sem Op Lib Jvm.Free Jvm.Stand Jvm.Pilot.@@N@@.Jvm.D
/-! MADE BY PROGRAM (witnessworld.py) out of the Statement's table words and the real class files: 24 classes; the members and pool entries that the words name. The judged class is class 1, her method 4. -/
namespace start1
open Jvm.ClassFile
def u (s : String) : CpInfo := .utf8 (stringToUtf16 s)
/-- a pool by its gaps: so many unusable entries, then the entry; so many at the end -/
def gap : Nat → List CpInfo → List CpInfo
  | 0, r => r
  | n + 1, r => .unusable :: gap n r
def poolList (es : List (Nat × CpInfo)) (last : Nat) : List CpInfo := es.foldr (fun e r => gap e.1 (e.2 :: r)) (gap last [])
def pool (es : List (Nat × CpInfo)) (last : Nat) : Array CpInfo := ⟨poolList es last⟩
def fileOf (pool : Array CpInfo) (this : Nat) (attrs : Array Attribute := #[]) (ms : Array MethodInfo := #[]) (fl : Nat := 33) (sup : Nat := 0) (ifs : Array Nat := #[]) (fds : Array FieldInfo := #[]) : ClassFile where
  minorVersion := 0
  majorVersion := 65
  constantPool := pool
  accessFlags := fl
  thisClass := this
  superClass := sup
  interfaces := ifs
  fields := fds
  methods := ms
  attributes := attrs
def plain (name : String) (sup : Option ClassId) : Class where
  name := name
  kind := .ordinary
  loader := none
  accessFlags := 33
  super := sup
  interfaces := #[]
  cf := none
  fields := #[]
  methods := #[]
  instanceTypes := #[]
  staticTypes := #[]
  resolved := #[]
  callSites := []
  init := .initialized
  statics := none
  mirror := none

def pool0 : Array CpInfo := pool [(5, u "<init>"), (0, u "()V"), (1, .class_ 10), (1, u "java/lang/Object"), (85, u "clone"), (0, u "()Ljava/lang/Object;")] 26

def k0c0 : Code := { maxStack := 0, maxLocals := 1, code := object_method_1_code, exceptionTable := #[], attributes := #[] }
def k0m0 : Method := { name := "<init>", desc := "()V", sig := { parameters := [], returnType := none }, accessFlags := 1, code := some k0c0 }
def k0m1 : Method := { name := "clone", desc := "()Ljava/lang/Object;", sig := { parameters := [], returnType := some (.object "java/lang/Object") }, accessFlags := 260, code := none }
/-- java/lang/Object -/
def k0 : Class := { plain "java/lang/Object" none with
  accessFlags := 33
  interfaces := #[]
  cf := some (fileOf pool0 8 #[] #[{ accessFlags := 1, nameIndex := 5, descriptorIndex := 6, attributes := #[] }, { accessFlags := 260, nameIndex := 96, descriptorIndex := 97, attributes := #[] }] 33 0 #[] #[])
  fields := #[]
  methods := #[k0m0, k0m1]
  instanceTypes := #[]
  staticTypes := #[]
  resolved := Array.replicate 124 none
  statics := none }

def pool1 : Array CpInfo := pool [(2, .class_ 4), (1, u "java/lang/Object"), (0, u "<init>"), (0, u "()V"), (0, .methodref 8 9), (0, .class_ 10), (0, .nameAndType 11 12), (0, u "java/lang/String"), (0, u "length"), (0, u "()I"), (0, .methodref 8 14), (0, .nameAndType 15 16), (0, u "charAt"), (0, u "(I)C"), (0, .long 255), (1, .methodref 8 20), (0, .nameAndType 5 21), (0, u "([C)V"), (0, .integer 65535), (0, .string 24), (0, u "int"), (0, .fieldref 26 27), (0, .class_ 28), (0, .nameAndType 29 30), (0, u "com/example/model_for_reads/modelforreads/model/FieldType"), (0, u "INT"), (0, u "Lcom/example/model_for_reads/modelforreads/model/FieldType;"), (0, .string 32), (0, u "decimal"), (0, .fieldref 26 34), (0, .nameAndType 35 30), (0, u "DECIMAL"), (0, .string 37), (0, u "string"), (0, .fieldref 26 39), (0, .nameAndType 40 30), (0, u "STRING"), (0, .string 42), (0, u ""), (0, .methodref 44 45), (0, .class_ 46), (0, .nameAndType 47 48), (0, u "com/example/model_for_reads/modelforreads/model/FieldTypeFromModelNamePinLaw"), (0, u "at"), (0, u "(Ljava/lang/String;I)C"), (0, .methodref 44 50), (0, .nameAndType 51 52), (0, u "str"), (0, u "([CI)Ljava/lang/String;"), (0, .integer 2147483647), (0, .methodref 44 55), (0, .nameAndType 56 57), (0, u "byteAt"), (0, u "(JI)C"), (0, .methodref 8 59), (0, .nameAndType 60 61), (0, u "equals"), (0, u "(Ljava/lang/Object;)Z"), (0, .methodref 26 63), (0, .nameAndType 64 65), (0, u "fromModelName"), (0, u "(Ljava/lang/String;)Ljava/util/Optional;"), (0, .methodref 67 68), (0, .class_ 69), (0, .nameAndType 70 71), (0, u "java/util/Optional"), (0, u "orElse"), (0, u "(Ljava/lang/Object;)Ljava/lang/Object;"), (3, u "law"), (0, u "(IIIJ)Z")] 4

def k1m0 : Method := { name := "<init>", desc := "()V", sig := { parameters := [], returnType := none }, accessFlags := 1, code := none }
def k1c1 : Code := { maxStack := 2, maxLocals := 2, code := method_2_code, exceptionTable := #[], attributes := #[] }
def k1m1 : Method := { name := "at", desc := "(Ljava/lang/String;I)C", sig := { parameters := [(.object "java/lang/String"), .int], returnType := some .char }, accessFlags := 10, code := some k1c1 }
def k1c2 : Code := { maxStack := 4, maxLocals := 3, code := method_3_code, exceptionTable := #[], attributes := #[] }
def k1m2 : Method := { name := "byteAt", desc := "(JI)C", sig := { parameters := [.long, .int], returnType := some .char }, accessFlags := 10, code := some k1c2 }
def k1c3 : Code := { maxStack := 7, maxLocals := 2, code := method_4_code, exceptionTable := #[], attributes := #[] }
def k1m3 : Method := { name := "str", desc := "([CI)Ljava/lang/String;", sig := { parameters := [(.array .char), .int], returnType := some (.object "java/lang/String") }, accessFlags := 10, code := some k1c3 }
def k1c4 : Code := { maxStack := 5, maxLocals := 16, code := code, exceptionTable := #[], attributes := #[] }
def k1m4 : Method := { name := "law", desc := "(IIIJ)Z", sig := { parameters := [.int, .int, .int, .long], returnType := some .boolean }, accessFlags := 9, code := some k1c4 }
/-- com/example/model_for_reads/modelforreads/model/FieldTypeFromModelNamePinLaw -/
def k1 : Class := { plain "com/example/model_for_reads/modelforreads/model/FieldTypeFromModelNamePinLaw" (some 0) with
  accessFlags := 49
  interfaces := #[]
  cf := some (fileOf pool1 44 #[] #[{ accessFlags := 1, nameIndex := 5, descriptorIndex := 6, attributes := #[] }, { accessFlags := 10, nameIndex := 47, descriptorIndex := 48, attributes := #[] }, { accessFlags := 10, nameIndex := 56, descriptorIndex := 57, attributes := #[] }, { accessFlags := 10, nameIndex := 51, descriptorIndex := 52, attributes := #[] }, { accessFlags := 9, nameIndex := 75, descriptorIndex := 76, attributes := #[] }] 49 2 #[] #[])
  fields := #[]
  methods := #[k1m0, k1m1, k1m2, k1m3, k1m4]
  instanceTypes := #[]
  staticTypes := #[]
  resolved := Array.replicate 81 none
  statics := none }

def pool2 : Array CpInfo := pool [(1, .class_ 2), (0, u "java/io/Serializable"), (0, .class_ 4), (0, u "java/lang/Object")] 2

/-- java/io/Serializable -/
def k2 : Class := { plain "java/io/Serializable" (some 0) with
  accessFlags := 1537
  interfaces := #[]
  cf := some (fileOf pool2 1 #[] #[] 1537 3 #[] #[])
  fields := #[]
  methods := #[]
  instanceTypes := #[]
  staticTypes := #[]
  resolved := Array.replicate 7 none
  statics := none }

def pool3 : Array CpInfo := pool [(1, .class_ 2), (0, u "java/lang/Comparable"), (0, .class_ 4), (0, u "java/lang/Object")] 7

/-- java/lang/Comparable -/
def k3 : Class := { plain "java/lang/Comparable" (some 0) with
  accessFlags := 1537
  interfaces := #[]
  cf := some (fileOf pool3 1 #[] #[] 1537 3 #[] #[])
  fields := #[]
  methods := #[]
  instanceTypes := #[]
  staticTypes := #[]
  resolved := Array.replicate 12 none
  statics := none }

def pool4 : Array CpInfo := pool [(2, .class_ 4), (1, u "java/lang/CharSequence"), (42, .class_ 48), (0, u "java/lang/CharSequence$1CodePointIterator"), (10, .class_ 60), (0, u "java/lang/CharSequence$1CharIterator"), (5, .class_ 67), (0, u "java/lang/Object")] 63

/-- java/lang/CharSequence -/
def k4 : Class := { plain "java/lang/CharSequence" (some 0) with
  accessFlags := 1537
  interfaces := #[]
  cf := some (fileOf pool4 2 #[.nestMembers #[47, 59]] #[] 1537 66 #[] #[])
  fields := #[]
  methods := #[]
  instanceTypes := #[]
  staticTypes := #[]
  resolved := Array.replicate 131 none
  statics := none }

def pool5 : Array CpInfo := pool [(1, .class_ 2), (0, u "java/lang/constant/Constable"), (0, .class_ 4), (0, u "java/lang/Object")] 6

/-- java/lang/constant/Constable -/
def k5 : Class := { plain "java/lang/constant/Constable" (some 0) with
  accessFlags := 1537
  interfaces := #[]
  cf := some (fileOf pool5 1 #[] #[] 1537 3 #[] #[])
  fields := #[]
  methods := #[]
  instanceTypes := #[]
  staticTypes := #[]
  resolved := Array.replicate 11 none
  statics := none }

def pool6 : Array CpInfo := pool [(1, .class_ 2), (0, u "java/lang/constant/ConstantDesc"), (0, .class_ 4), (0, u "java/lang/Object")] 32

/-- java/lang/constant/ConstantDesc -/
def k6 : Class := { plain "java/lang/constant/ConstantDesc" (some 0) with
  accessFlags := 1537
  interfaces := #[]
  cf := some (fileOf pool6 1 #[] #[] 1537 3 #[] #[])
  fields := #[]
  methods := #[]
  instanceTypes := #[]
  staticTypes := #[]
  resolved := Array.replicate 37 none
  statics := none }

def pool7 : Array CpInfo := pool [(1, .methodref 2 3), (0, .class_ 4), (0, .nameAndType 5 6), (0, u "java/lang/Object"), (0, u "<init>"), (0, u "()V"), (0, .string 8), (0, u ""), (0, .fieldref 10 11), (0, .class_ 12), (0, .nameAndType 13 14), (0, u "java/lang/String"), (0, u "value"), (0, u "[B"), (0, .fieldref 10 16), (0, .nameAndType 17 18), (0, u "coder"), (0, u "B"), (2, u "hash"), (0, u "I"), (2, u "hashIsZero"), (0, u "Z"), (0, .methodref 10 28), (0, .nameAndType 5 29), (0, u "([CIILjava/lang/Void;)V"), (8, .fieldref 10 39), (0, .nameAndType 40 26), (0, u "COMPACT_STRINGS"), (1, .class_ 44), (1, u "java/lang/StringUTF16"), (0, u "compress"), (1, .methodref 42 48), (0, .nameAndType 49 50), (0, u "coderFromArrayLen"), (0, u "([BI)B"), (56, .class_ 109), (1, u "java/lang/StringLatin1"), (32, u "()Z"), (34, .methodref 42 178), (0, .nameAndType 45 179), (0, u "([CII)[B"), (154, u "()I"), (0, .methodref 10 336), (0, .nameAndType 17 337), (0, u "()B"), (25, u "([BI)C"), (27, u "(II)V"), (35, u "(I)C"), (64, .methodref 10 493), (0, .nameAndType 494 142), (0, u "isLatin1"), (0, .methodref 107 496), (0, .nameAndType 497 363), (0, u "charAt"), (3, u "checkIndex"), (5, u "length"), (33, .methodref 107 542), (0, .nameAndType 543 544), (0, u "equals"), (0, u "([B[B)Z"), (28, u "(Ljava/lang/Object;)Z"), (1, .class_ 576), (0, u "java/lang/CharSequence"), (22, u "CASE_INSENSITIVE_ORDER"), (0, u "Ljava/util/Comparator;"), (409, u "([C)V"), (42, .fieldref 1054 1055), (0, .class_ 1056), (0, .nameAndType 1057 1058), (0, u "jdk/internal/util/Preconditions"), (0, u "SIOOBE_FORMATTER"), (0, u "Ljava/util/function/BiFunction;"), (0, .methodref 1054 1060), (0, .nameAndType 501 1061), (0, u "(IILjava/util/function/BiFunction;)I"), (39, u "serialPersistentFields"), (0, u "[Ljava/io/ObjectStreamField;"), (0, .class_ 1104), (0, u "java/lang/String$CaseInsensitiveComparator"), (1, .class_ 1107), (0, u "java/io/Serializable"), (0, .class_ 1109), (0, u "java/lang/Comparable"), (0, .class_ 1111), (0, u "java/lang/constant/Constable"), (0, .class_ 1113), (0, u "java/lang/constant/ConstantDesc"), (2, u "serialVersionUID"), (0, u "J"), (3, u "REPL"), (0, u "C"), (2, u "LATIN1"), (1, u "UTF16")] 323

def k7m0 : Method := { name := "<init>", desc := "()V", sig := { parameters := [], returnType := none }, accessFlags := 1, code := none }
def k7c1 : Code := { maxStack := 5, maxLocals := 2, code := jdk_42_method_3_code, exceptionTable := #[], attributes := #[] }
def k7m1 : Method := { name := "<init>", desc := "([C)V", sig := { parameters := [(.array .char)], returnType := none }, accessFlags := 1, code := some k7c1 }
def k7c2 : Code := { maxStack := 2, maxLocals := 1, code := jdk_42_method_54_code, exceptionTable := #[], attributes := #[] }
def k7m2 : Method := { name := "length", desc := "()I", sig := { parameters := [], returnType := some .int }, accessFlags := 1, code := some k7c2 }
def k7c3 : Code := { maxStack := 2, maxLocals := 2, code := jdk_42_method_56_code, exceptionTable := #[], attributes := #[] }
def k7m3 : Method := { name := "charAt", desc := "(I)C", sig := { parameters := [.int], returnType := some .char }, accessFlags := 1, code := some k7c3 }
def k7c4 : Code := { maxStack := 2, maxLocals := 3, code := jdk_42_method_66_code, exceptionTable := #[], attributes := #[] }
def k7m4 : Method := { name := "equals", desc := "(Ljava/lang/Object;)Z", sig := { parameters := [(.object "java/lang/Object")], returnType := some .boolean }, accessFlags := 1, code := some k7c4 }
def k7c5 : Code := { maxStack := 4, maxLocals := 6, code := jdk_42_method_149_code, exceptionTable := #[], attributes := #[] }
def k7m5 : Method := { name := "<init>", desc := "([CIILjava/lang/Void;)V", sig := { parameters := [(.array .char), .int, .int, (.object "java/lang/Void")], returnType := none }, accessFlags := 2, code := some k7c5 }
def k7c6 : Code := { maxStack := 1, maxLocals := 1, code := jdk_42_method_152_code, exceptionTable := #[], attributes := #[] }
def k7m6 : Method := { name := "coder", desc := "()B", sig := { parameters := [], returnType := some .byte }, accessFlags := 0, code := some k7c6 }
def k7c7 : Code := { maxStack := 1, maxLocals := 1, code := jdk_42_method_154_code, exceptionTable := #[], attributes := #[] }
def k7m7 : Method := { name := "isLatin1", desc := "()Z", sig := { parameters := [], returnType := some .boolean }, accessFlags := 0, code := some k7c7 }
def k7c8 : Code := { maxStack := 3, maxLocals := 2, code := jdk_42_method_155_code, exceptionTable := #[], attributes := #[] }
def k7m8 : Method := { name := "checkIndex", desc := "(II)V", sig := { parameters := [.int, .int], returnType := none }, accessFlags := 8, code := some k7c8 }
/-- java/lang/String -/
def k7 : Class := { plain "java/lang/String" (some 0) with
  accessFlags := 49
  interfaces := #[2, 3, 4, 5, 6]
  cf := some (fileOf pool7 10 #[.nestMembers #[1103]] #[{ accessFlags := 1, nameIndex := 5, descriptorIndex := 6, attributes := #[] }, { accessFlags := 1, nameIndex := 5, descriptorIndex := 1010, attributes := #[] }, { accessFlags := 1, nameIndex := 507, descriptorIndex := 334, attributes := #[] }, { accessFlags := 1, nameIndex := 497, descriptorIndex := 427, attributes := #[] }, { accessFlags := 1, nameIndex := 543, descriptorIndex := 573, attributes := #[] }, { accessFlags := 2, nameIndex := 5, descriptorIndex := 29, attributes := #[] }, { accessFlags := 0, nameIndex := 17, descriptorIndex := 337, attributes := #[] }, { accessFlags := 0, nameIndex := 494, descriptorIndex := 142, attributes := #[] }, { accessFlags := 8, nameIndex := 501, descriptorIndex := 391, attributes := #[] }] 49 2 #[1106, 1108, 575, 1110, 1112] #[{ accessFlags := 18, nameIndex := 13, descriptorIndex := 14, attributes := #[] }, { accessFlags := 18, nameIndex := 17, descriptorIndex := 18, attributes := #[] }, { accessFlags := 2, nameIndex := 21, descriptorIndex := 22, attributes := #[] }, { accessFlags := 2, nameIndex := 25, descriptorIndex := 26, attributes := #[] }, { accessFlags := 26, nameIndex := 1116, descriptorIndex := 1117, attributes := #[] }, { accessFlags := 24, nameIndex := 40, descriptorIndex := 26, attributes := #[] }, { accessFlags := 26, nameIndex := 1101, descriptorIndex := 1102, attributes := #[] }, { accessFlags := 26, nameIndex := 1121, descriptorIndex := 1122, attributes := #[] }, { accessFlags := 25, nameIndex := 599, descriptorIndex := 600, attributes := #[] }, { accessFlags := 24, nameIndex := 1125, descriptorIndex := 18, attributes := #[] }, { accessFlags := 24, nameIndex := 1127, descriptorIndex := 18, attributes := #[] }])
  fields := #[{ name := "value", type := (.array .byte), accessFlags := 18, slot := 0, constantValue := 0 }, { name := "coder", type := .byte, accessFlags := 18, slot := 1, constantValue := 0 }, { name := "hash", type := .int, accessFlags := 2, slot := 2, constantValue := 0 }, { name := "hashIsZero", type := .boolean, accessFlags := 2, slot := 3, constantValue := 0 }, { name := "serialVersionUID", type := .long, accessFlags := 26, slot := 0, constantValue := 0 }, { name := "COMPACT_STRINGS", type := .boolean, accessFlags := 24, slot := 1, constantValue := 0 }, { name := "serialPersistentFields", type := (.array (.object "java/io/ObjectStreamField")), accessFlags := 26, slot := 2, constantValue := 0 }, { name := "REPL", type := .char, accessFlags := 26, slot := 3, constantValue := 0 }, { name := "CASE_INSENSITIVE_ORDER", type := (.object "java/util/Comparator"), accessFlags := 25, slot := 4, constantValue := 0 }, { name := "LATIN1", type := .byte, accessFlags := 24, slot := 5, constantValue := 0 }, { name := "UTF16", type := .byte, accessFlags := 24, slot := 6, constantValue := 0 }]
  methods := #[k7m0, k7m1, k7m2, k7m3, k7m4, k7m5, k7m6, k7m7, k7m8]
  instanceTypes := #[(.array .byte), .byte, .int, .boolean]
  staticTypes := #[.long, .boolean, (.array (.object "java/io/ObjectStreamField")), .char, (.object "java/util/Comparator"), .byte, .byte]
  resolved := Array.replicate 1451 none
  statics := some 0 }

def pool8 : Array CpInfo := pool [(2, .class_ 4), (1, u "java/lang/Enum"), (0, u "name"), (0, u "Ljava/lang/String;"), (2, u "ordinal"), (0, u "I"), (1, .class_ 14), (1, u "java/lang/Object"), (4, u "hash"), (86, .class_ 108), (1, u "java/lang/Enum$EnumDesc"), (2, .class_ 112), (0, u "java/lang/constant/Constable"), (0, .class_ 114), (0, u "java/lang/Comparable"), (0, .class_ 116), (0, u "java/io/Serializable")] 87

/-- java/lang/Enum -/
def k8 : Class := { plain "java/lang/Enum" (some 0) with
  accessFlags := 1057
  interfaces := #[5, 3, 2]
  cf := some (fileOf pool8 2 #[.nestMembers #[106]] #[] 1057 12 #[111, 113, 115] #[{ accessFlags := 18, nameIndex := 5, descriptorIndex := 6, attributes := #[] }, { accessFlags := 18, nameIndex := 9, descriptorIndex := 10, attributes := #[] }, { accessFlags := 2, nameIndex := 19, descriptorIndex := 10, attributes := #[] }])
  fields := #[{ name := "name", type := (.object "java/lang/String"), accessFlags := 18, slot := 0, constantValue := 0 }, { name := "ordinal", type := .int, accessFlags := 18, slot := 1, constantValue := 0 }, { name := "hash", type := .int, accessFlags := 2, slot := 2, constantValue := 0 }]
  methods := #[]
  instanceTypes := #[(.object "java/lang/String"), .int, .int]
  staticTypes := #[]
  resolved := Array.replicate 204 none
  statics := none }

def pool9 : Array CpInfo := pool [(1, .class_ 2), (0, u "com/example/model_for_reads/modelforreads/model/FieldType"), (2, u "INT"), (0, u "Lcom/example/model_for_reads/modelforreads/model/FieldType;"), (2, u "DECIMAL"), (2, u "STRING"), (0, .fieldref 1 14), (0, .nameAndType 15 16), (0, u "$VALUES"), (0, u "[Lcom/example/model_for_reads/modelforreads/model/FieldType;"), (0, .methodref 18 19), (0, .class_ 16), (0, .nameAndType 20 21), (0, u "clone"), (0, u "()Ljava/lang/Object;"), (1, .class_ 25), (1, u "java/lang/Enum"), (6, .fieldref 1 33), (0, .nameAndType 34 35), (0, u "modelName"), (0, u "Ljava/lang/String;"), (2, u "pattern"), (0, u "Ljava/util/regex/Pattern;"), (0, .methodref 1 41), (0, .nameAndType 42 43), (0, u "values"), (0, u "()[Lcom/example/model_for_reads/modelforreads/model/FieldType;"), (0, .methodref 45 46), (0, .class_ 47), (0, .nameAndType 48 49), (0, u "java/lang/String"), (0, u "equals"), (0, u "(Ljava/lang/Object;)Z"), (0, .methodref 51 52), (0, .class_ 53), (0, .nameAndType 54 55), (0, u "java/util/Optional"), (0, u "of"), (0, u "(Ljava/lang/Object;)Ljava/util/Optional;"), (0, .methodref 51 57), (0, .nameAndType 58 59), (0, u "empty"), (0, u "()Ljava/util/Optional;"), (114, u "fromModelName"), (0, u "(Ljava/lang/String;)Ljava/util/Optional;")] 29

def k9c0 : Code := { maxStack := 1, maxLocals := 0, code := prog_7_method_1_code, exceptionTable := #[], attributes := #[] }
def k9m0 : Method := { name := "values", desc := "()[Lcom/example/model_for_reads/modelforreads/model/FieldType;", sig := { parameters := [], returnType := some (.array (.object "com/example/model_for_reads/modelforreads/model/FieldType")) }, accessFlags := 9, code := some k9c0 }
def k9c1 : Code := { maxStack := 2, maxLocals := 5, code := prog_7_method_5_code, exceptionTable := #[], attributes := #[] }
def k9m1 : Method := { name := "fromModelName", desc := "(Ljava/lang/String;)Ljava/util/Optional;", sig := { parameters := [(.object "java/lang/String")], returnType := some (.object "java/util/Optional") }, accessFlags := 9, code := some k9c1 }
/-- com/example/model_for_reads/modelforreads/model/FieldType -/
def k9 : Class := { plain "com/example/model_for_reads/modelforreads/model/FieldType" (some 8) with
  accessFlags := 16433
  interfaces := #[]
  cf := some (fileOf pool9 1 #[] #[{ accessFlags := 9, nameIndex := 42, descriptorIndex := 43, attributes := #[] }, { accessFlags := 9, nameIndex := 174, descriptorIndex := 175, attributes := #[] }] 16433 23 #[] #[{ accessFlags := 16409, nameIndex := 5, descriptorIndex := 6, attributes := #[] }, { accessFlags := 16409, nameIndex := 9, descriptorIndex := 6, attributes := #[] }, { accessFlags := 16409, nameIndex := 12, descriptorIndex := 6, attributes := #[] }, { accessFlags := 18, nameIndex := 34, descriptorIndex := 35, attributes := #[] }, { accessFlags := 18, nameIndex := 38, descriptorIndex := 39, attributes := #[] }, { accessFlags := 4122, nameIndex := 15, descriptorIndex := 16, attributes := #[] }])
  fields := #[{ name := "INT", type := (.object "com/example/model_for_reads/modelforreads/model/FieldType"), accessFlags := 16409, slot := 0, constantValue := 0 }, { name := "DECIMAL", type := (.object "com/example/model_for_reads/modelforreads/model/FieldType"), accessFlags := 16409, slot := 1, constantValue := 0 }, { name := "STRING", type := (.object "com/example/model_for_reads/modelforreads/model/FieldType"), accessFlags := 16409, slot := 2, constantValue := 0 }, { name := "modelName", type := (.object "java/lang/String"), accessFlags := 18, slot := 3, constantValue := 0 }, { name := "pattern", type := (.object "java/util/regex/Pattern"), accessFlags := 18, slot := 4, constantValue := 0 }, { name := "$VALUES", type := (.array (.object "com/example/model_for_reads/modelforreads/model/FieldType")), accessFlags := 4122, slot := 3, constantValue := 0 }]
  methods := #[k9m0, k9m1]
  instanceTypes := #[(.object "java/lang/String"), .int, .int, (.object "java/lang/String"), (.object "java/util/regex/Pattern")]
  staticTypes := #[(.object "com/example/model_for_reads/modelforreads/model/FieldType"), (.object "com/example/model_for_reads/modelforreads/model/FieldType"), (.object "com/example/model_for_reads/modelforreads/model/FieldType"), (.array (.object "com/example/model_for_reads/modelforreads/model/FieldType"))]
  resolved := Array.replicate 205 none
  statics := some 1 }

def pool10 : Array CpInfo := pool [(1, .class_ 2), (0, u "java/lang/String"), (1, .class_ 6), (1, u "java/lang/Object"), (0, u "<init>"), (0, u "()V"), (0, .methodref 1 10), (0, .nameAndType 11 12), (0, u "checkIndex"), (0, u "(II)V"), (1, .class_ 16), (1, u "java/lang/StringLatin1"), (36, u "([BI)C"), (67, u "$assertionsDisabled"), (0, u "Z"), (98, .class_ 223), (1, u "java/lang/StringLatin1$LinesSpliterator"), (28, u "charAt"), (28, u "equals"), (0, u "([B[B)Z"), (107, .class_ 391), (0, u "java/lang/StringLatin1$CharsSpliterator")] 3

def k10m0 : Method := { name := "<init>", desc := "()V", sig := { parameters := [], returnType := none }, accessFlags := 0, code := none }
def k10c1 : Code := { maxStack := 2, maxLocals := 2, code := jdk_43_method_2_code, exceptionTable := #[], attributes := #[] }
def k10m1 : Method := { name := "charAt", desc := "([BI)C", sig := { parameters := [(.array .byte), .int], returnType := some .char }, accessFlags := 9, code := some k10c1 }
def k10c2 : Code := { maxStack := 3, maxLocals := 3, code := jdk_43_method_13_code, exceptionTable := #[], attributes := #[] }
def k10m2 : Method := { name := "equals", desc := "([B[B)Z", sig := { parameters := [(.array .byte), (.array .byte)], returnType := some .boolean }, accessFlags := 9, code := some k10c2 }
/-- java/lang/StringLatin1 -/
def k10 : Class := { plain "java/lang/StringLatin1" (some 0) with
  accessFlags := 48
  interfaces := #[]
  cf := some (fileOf pool10 14 #[.nestMembers #[390, 221]] #[{ accessFlags := 0, nameIndex := 7, descriptorIndex := 8, attributes := #[] }, { accessFlags := 9, nameIndex := 252, descriptorIndex := 53, attributes := #[] }, { accessFlags := 9, nameIndex := 281, descriptorIndex := 282, attributes := #[] }] 48 4 #[] #[{ accessFlags := 4120, nameIndex := 121, descriptorIndex := 122, attributes := #[] }])
  fields := #[{ name := "$assertionsDisabled", type := .boolean, accessFlags := 4120, slot := 0, constantValue := 0 }]
  methods := #[k10m0, k10m1, k10m2]
  instanceTypes := #[]
  staticTypes := #[.boolean]
  resolved := Array.replicate 395 none
  statics := none }

def pool11 : Array CpInfo := pool [(2, .class_ 4), (1, u "java/lang/Object"), (0, u "<init>"), (0, u "()V"), (17, .class_ 26), (1, u "jdk/internal/util/Preconditions"), (6, u "checkIndex"), (21, .class_ 56), (0, u "jdk/internal/util/Preconditions$4"), (57, .class_ 115), (0, u "jdk/internal/util/Preconditions$1"), (7, u "SIOOBE_FORMATTER"), (0, u "Ljava/util/function/BiFunction;"), (0, .class_ 126), (0, u "jdk/internal/util/Preconditions$2"), (3, u "AIOOBE_FORMATTER"), (0, .class_ 132), (0, u "jdk/internal/util/Preconditions$3"), (3, u "IOOBE_FORMATTER"), (41, u "(IILjava/util/function/BiFunction;)I")] 15

def k11m0 : Method := { name := "<init>", desc := "()V", sig := { parameters := [], returnType := none }, accessFlags := 1, code := none }
def k11c1 : Code := { maxStack := 3, maxLocals := 3, code := jdk_41_method_11_code, exceptionTable := #[], attributes := #[] }
def k11m1 : Method := { name := "checkIndex", desc := "(IILjava/util/function/BiFunction;)I", sig := { parameters := [.int, .int, (.object "java/util/function/BiFunction")], returnType := some .int }, accessFlags := 9, code := some k11c1 }
/-- jdk/internal/util/Preconditions -/
def k11 : Class := { plain "jdk/internal/util/Preconditions" (some 0) with
  accessFlags := 33
  interfaces := #[]
  cf := some (fileOf pool11 24 #[.nestMembers #[55, 131, 125, 114]] #[{ accessFlags := 1, nameIndex := 5, descriptorIndex := 6, attributes := #[] }, { accessFlags := 9, nameIndex := 33, descriptorIndex := 178, attributes := #[] }] 33 2 #[] #[{ accessFlags := 25, nameIndex := 123, descriptorIndex := 124, attributes := #[] }, { accessFlags := 25, nameIndex := 130, descriptorIndex := 124, attributes := #[] }, { accessFlags := 25, nameIndex := 136, descriptorIndex := 124, attributes := #[] }])
  fields := #[{ name := "SIOOBE_FORMATTER", type := (.object "java/util/function/BiFunction"), accessFlags := 25, slot := 0, constantValue := 0 }, { name := "AIOOBE_FORMATTER", type := (.object "java/util/function/BiFunction"), accessFlags := 25, slot := 1, constantValue := 0 }, { name := "IOOBE_FORMATTER", type := (.object "java/util/function/BiFunction"), accessFlags := 25, slot := 2, constantValue := 0 }]
  methods := #[k11m0, k11m1]
  instanceTypes := #[]
  staticTypes := #[(.object "java/util/function/BiFunction"), (.object "java/util/function/BiFunction"), (.object "java/util/function/BiFunction")]
  resolved := Array.replicate 194 none
  statics := some 2 }

def pool12 : Array CpInfo := pool [(6, .class_ 8), (1, u "java/lang/Object"), (0, u "<init>"), (0, u "()V"), (0, .methodref 12 13), (0, .class_ 14), (0, .nameAndType 15 16), (0, u "java/lang/StringUTF16"), (0, u "newBytesLength"), (0, u "(I)I"), (3, .integer 1073741823), (23, .fieldref 12 45), (0, .nameAndType 46 47), (0, u "$assertionsDisabled"), (0, u "Z"), (11, .fieldref 12 60), (0, .nameAndType 61 62), (0, u "HI_BYTE_SHIFT"), (0, u "I"), (0, .fieldref 12 64), (0, .nameAndType 65 62), (0, u "LO_BYTE_SHIFT"), (5, .methodref 12 72), (0, .nameAndType 73 74), (0, u "getChar"), (0, u "([BI)C"), (32, .methodref 12 108), (0, .nameAndType 109 110), (0, u "newBytesFor"), (0, u "(I)[B"), (0, .methodref 12 112), (0, .nameAndType 113 114), (0, u "putChar"), (0, u "([BII)V"), (0, .methodref 12 116), (0, .nameAndType 117 118), (0, u "compress"), (0, u "([CI[BII)I"), (0, .methodref 12 120), (0, .nameAndType 121 122), (0, u "toBytes"), (0, u "([CII)[B"), (138, u "coderFromArrayLen"), (0, u "([BI)B"), (106, .class_ 371), (1, u "java/lang/StringUTF16$LinesSpliterator"), (58, u "MAX_LENGTH"), (196, .class_ 628), (0, u "java/lang/StringUTF16$CodePointsSpliterator"), (0, .class_ 630), (0, u "java/lang/StringUTF16$CharsSpliterator")] 4

def k12m0 : Method := { name := "<init>", desc := "()V", sig := { parameters := [], returnType := none }, accessFlags := 0, code := none }
def k12c1 : Code := { maxStack := 1, maxLocals := 1, code := jdk_52_method_2_code, exceptionTable := #[], attributes := #[] }
def k12m1 : Method := { name := "newBytesFor", desc := "(I)[B", sig := { parameters := [.int], returnType := some (.array .byte) }, accessFlags := 9, code := some k12c1 }
def k12c2 : Code := { maxStack := 4, maxLocals := 1, code := jdk_52_method_3_code, exceptionTable := #[], attributes := #[] }
def k12m2 : Method := { name := "newBytesLength", desc := "(I)I", sig := { parameters := [.int], returnType := some .int }, accessFlags := 9, code := some k12c2 }
def k12c3 : Code := { maxStack := 4, maxLocals := 3, code := jdk_52_method_4_code, exceptionTable := #[], attributes := #[] }
def k12m3 : Method := { name := "putChar", desc := "([BII)V", sig := { parameters := [(.array .byte), .int, .int], returnType := none }, accessFlags := 8, code := some k12c3 }
def k12c4 : Code := { maxStack := 3, maxLocals := 2, code := jdk_52_method_5_code, exceptionTable := #[], attributes := #[] }
def k12m4 : Method := { name := "getChar", desc := "([BI)C", sig := { parameters := [(.array .byte), .int], returnType := some .char }, accessFlags := 8, code := some k12c4 }
def k12c5 : Code := { maxStack := 4, maxLocals := 5, code := jdk_52_method_14_code, exceptionTable := #[], attributes := #[] }
def k12m5 : Method := { name := "toBytes", desc := "([CII)[B", sig := { parameters := [(.array .char), .int, .int], returnType := some (.array .byte) }, accessFlags := 9, code := some k12c5 }
def k12c6 : Code := { maxStack := 2, maxLocals := 2, code := jdk_52_method_15_code, exceptionTable := #[], attributes := #[] }
def k12m6 : Method := { name := "coderFromArrayLen", desc := "([BI)B", sig := { parameters := [(.array .byte), .int], returnType := some .byte }, accessFlags := 8, code := some k12c6 }
def k12c7 : Code := { maxStack := 5, maxLocals := 6, code := jdk_52_method_16_code, exceptionTable := #[], attributes := #[] }
def k12m7 : Method := { name := "compress", desc := "([CII)[B", sig := { parameters := [(.array .char), .int, .int], returnType := some (.array .byte) }, accessFlags := 9, code := some k12c7 }
def k12c8 : Code := { maxStack := 3, maxLocals := 7, code := jdk_52_method_21_code, exceptionTable := #[], attributes := #[] }
def k12m8 : Method := { name := "compress", desc := "([CI[BII)I", sig := { parameters := [(.array .char), .int, (.array .byte), .int, .int], returnType := some .int }, accessFlags := 9, code := some k12c8 }
/-- java/lang/StringUTF16 -/
def k12 : Class := { plain "java/lang/StringUTF16" (some 0) with
  accessFlags := 48
  interfaces := #[]
  cf := some (fileOf pool12 12 #[.nestMembers #[627, 629, 369]] #[{ accessFlags := 0, nameIndex := 9, descriptorIndex := 10, attributes := #[] }, { accessFlags := 9, nameIndex := 109, descriptorIndex := 110, attributes := #[] }, { accessFlags := 9, nameIndex := 15, descriptorIndex := 16, attributes := #[] }, { accessFlags := 8, nameIndex := 113, descriptorIndex := 114, attributes := #[] }, { accessFlags := 8, nameIndex := 73, descriptorIndex := 74, attributes := #[] }, { accessFlags := 9, nameIndex := 121, descriptorIndex := 122, attributes := #[] }, { accessFlags := 8, nameIndex := 261, descriptorIndex := 262, attributes := #[] }, { accessFlags := 9, nameIndex := 117, descriptorIndex := 122, attributes := #[] }, { accessFlags := 9, nameIndex := 117, descriptorIndex := 118, attributes := #[] }] 48 6 #[] #[{ accessFlags := 26, nameIndex := 61, descriptorIndex := 62, attributes := #[] }, { accessFlags := 26, nameIndex := 65, descriptorIndex := 62, attributes := #[] }, { accessFlags := 24, nameIndex := 430, descriptorIndex := 62, attributes := #[] }, { accessFlags := 4120, nameIndex := 46, descriptorIndex := 47, attributes := #[] }])
  fields := #[{ name := "HI_BYTE_SHIFT", type := .int, accessFlags := 26, slot := 0, constantValue := 0 }, { name := "LO_BYTE_SHIFT", type := .int, accessFlags := 26, slot := 1, constantValue := 0 }, { name := "MAX_LENGTH", type := .int, accessFlags := 24, slot := 2, constantValue := 0 }, { name := "$assertionsDisabled", type := .boolean, accessFlags := 4120, slot := 3, constantValue := 0 }]
  methods := #[k12m0, k12m1, k12m2, k12m3, k12m4, k12m5, k12m6, k12m7, k12m8]
  instanceTypes := #[]
  staticTypes := #[.int, .int, .int, .boolean]
  resolved := Array.replicate 635 none
  statics := some 3 }

def pool13 : Array CpInfo := pool [(1, .class_ 2), (0, u "java/lang/Cloneable"), (0, .class_ 4), (0, u "java/lang/Object")] 2

/-- java/lang/Cloneable -/
def k13 : Class := { plain "java/lang/Cloneable" (some 0) with
  accessFlags := 1537
  interfaces := #[]
  cf := some (fileOf pool13 1 #[] #[] 1537 3 #[] #[])
  fields := #[]
  methods := #[]
  instanceTypes := #[]
  staticTypes := #[]
  resolved := Array.replicate 7 none
  statics := none }

def pool14 : Array CpInfo := pool [(1, .fieldref 2 3), (0, .class_ 4), (0, .nameAndType 5 6), (0, u "java/util/Optional"), (0, u "EMPTY"), (0, u "Ljava/util/Optional;"), (0, .methodref 8 9), (0, .class_ 10), (0, .nameAndType 11 12), (0, u "java/lang/Object"), (0, u "<init>"), (0, u "()V"), (0, .fieldref 2 14), (0, .nameAndType 15 16), (0, u "value"), (0, u "Ljava/lang/Object;"), (0, .methodref 18 19), (0, .class_ 20), (0, .nameAndType 21 22), (0, u "java/util/Objects"), (0, u "requireNonNull"), (0, u "(Ljava/lang/Object;)Ljava/lang/Object;"), (0, .methodref 2 24), (0, .nameAndType 11 25), (0, u "(Ljava/lang/Object;)V"), (29, u "empty"), (0, u "()Ljava/util/Optional;"), (8, u "(Ljava/lang/Object;)Ljava/util/Optional;"), (16, u "of"), (82, u "orElse")] 21

def k14c0 : Code := { maxStack := 1, maxLocals := 1, code := jdk_32_method_1_code, exceptionTable := #[], attributes := #[] }
def k14m0 : Method := { name := "empty", desc := "()Ljava/util/Optional;", sig := { parameters := [], returnType := some (.object "java/util/Optional") }, accessFlags := 9, code := some k14c0 }
def k14c1 : Code := { maxStack := 2, maxLocals := 2, code := jdk_32_method_2_code, exceptionTable := #[], attributes := #[] }
def k14m1 : Method := { name := "<init>", desc := "(Ljava/lang/Object;)V", sig := { parameters := [(.object "java/lang/Object")], returnType := none }, accessFlags := 2, code := some k14c1 }
def k14c2 : Code := { maxStack := 3, maxLocals := 1, code := jdk_32_method_3_code, exceptionTable := #[], attributes := #[] }
def k14m2 : Method := { name := "of", desc := "(Ljava/lang/Object;)Ljava/util/Optional;", sig := { parameters := [(.object "java/lang/Object")], returnType := some (.object "java/util/Optional") }, accessFlags := 9, code := some k14c2 }
def k14c3 : Code := { maxStack := 1, maxLocals := 2, code := jdk_32_method_15_code, exceptionTable := #[], attributes := #[] }
def k14m3 : Method := { name := "orElse", desc := "(Ljava/lang/Object;)Ljava/lang/Object;", sig := { parameters := [(.object "java/lang/Object")], returnType := some (.object "java/lang/Object") }, accessFlags := 1, code := some k14c3 }
/-- java/util/Optional -/
def k14 : Class := { plain "java/util/Optional" (some 0) with
  accessFlags := 49
  interfaces := #[]
  cf := some (fileOf pool14 2 #[] #[{ accessFlags := 9, nameIndex := 55, descriptorIndex := 56, attributes := #[] }, { accessFlags := 2, nameIndex := 11, descriptorIndex := 25, attributes := #[] }, { accessFlags := 9, nameIndex := 82, descriptorIndex := 65, attributes := #[] }, { accessFlags := 1, nameIndex := 165, descriptorIndex := 22, attributes := #[] }] 49 8 #[] #[{ accessFlags := 26, nameIndex := 5, descriptorIndex := 6, attributes := #[] }, { accessFlags := 18, nameIndex := 15, descriptorIndex := 16, attributes := #[] }])
  fields := #[{ name := "EMPTY", type := (.object "java/util/Optional"), accessFlags := 26, slot := 0, constantValue := 0 }, { name := "value", type := (.object "java/lang/Object"), accessFlags := 18, slot := 0, constantValue := 0 }]
  methods := #[k14m0, k14m1, k14m2, k14m3]
  instanceTypes := #[(.object "java/lang/Object")]
  staticTypes := #[(.object "java/util/Optional")]
  resolved := Array.replicate 187 none
  statics := some 4 }

def pool15 : Array CpInfo := pool [(2, .class_ 4), (1, u "java/lang/Object"), (0, u "<init>"), (0, u "()V"), (35, .class_ 44), (1, u "java/util/Objects"), (0, u "requireNonNull"), (0, u "(Ljava/lang/Object;)Ljava/lang/Object;")] 137

def k15m0 : Method := { name := "<init>", desc := "()V", sig := { parameters := [], returnType := none }, accessFlags := 2, code := none }
def k15c1 : Code := { maxStack := 2, maxLocals := 1, code := jdk_31_method_10_code, exceptionTable := #[], attributes := #[] }
def k15m1 : Method := { name := "requireNonNull", desc := "(Ljava/lang/Object;)Ljava/lang/Object;", sig := { parameters := [(.object "java/lang/Object")], returnType := some (.object "java/lang/Object") }, accessFlags := 9, code := some k15c1 }
/-- java/util/Objects -/
def k15 : Class := { plain "java/util/Objects" (some 0) with
  accessFlags := 49
  interfaces := #[]
  cf := some (fileOf pool15 42 #[] #[{ accessFlags := 2, nameIndex := 5, descriptorIndex := 6, attributes := #[] }, { accessFlags := 9, nameIndex := 45, descriptorIndex := 46, attributes := #[] }] 49 2 #[] #[])
  fields := #[]
  methods := #[k15m0, k15m1]
  instanceTypes := #[]
  staticTypes := #[]
  resolved := Array.replicate 184 none
  statics := none }

def pool16 : Array CpInfo := pool [(9, u "<init>"), (6, .class_ 18), (1, u "java/lang/Object"), (0, u "()V"), (1, .class_ 23), (1, u "jdk/internal/util/ArraysSupport"), (0, u "LOG2_ARRAY_LONG_INDEX_SCALE"), (0, u "I"), (2, u "U"), (0, u "Ljdk/internal/misc/Unsafe;"), (8, u "BIG_ENDIAN"), (0, u "Z"), (8, u "LOG2_BYTE_BIT_SIZE"), (4, u "LOG2_ARRAY_INT_INDEX_SCALE"), (54, u "JLA"), (0, u "Ljdk/internal/access/JavaLangAccess;"), (11, u "LOG2_ARRAY_BOOLEAN_INDEX_SCALE"), (9, u "LOG2_ARRAY_BYTE_INDEX_SCALE"), (5, u "LOG2_ARRAY_CHAR_INDEX_SCALE"), (5, u "LOG2_ARRAY_SHORT_INDEX_SCALE"), (18, u "LOG2_ARRAY_FLOAT_INDEX_SCALE"), (24, u "LOG2_ARRAY_DOUBLE_INDEX_SCALE"), (89, u "T_BOOLEAN"), (2, u "T_CHAR"), (1, u "T_FLOAT"), (1, u "T_DOUBLE"), (1, u "T_BYTE"), (1, u "T_SHORT"), (1, u "T_INT"), (1, u "T_LONG"), (1, u "SOFT_MAX_ARRAY_LENGTH")] 83

def k16m0 : Method := { name := "<init>", desc := "()V", sig := { parameters := [], returnType := none }, accessFlags := 2, code := none }
/-- jdk/internal/util/ArraysSupport -/
def k16 : Class := { plain "jdk/internal/util/ArraysSupport" (some 0) with
  accessFlags := 33
  interfaces := #[]
  cf := some (fileOf pool16 21 #[] #[{ accessFlags := 2, nameIndex := 9, descriptorIndex := 19, attributes := #[] }] 33 16 #[] #[{ accessFlags := 24, nameIndex := 28, descriptorIndex := 29, attributes := #[] }, { accessFlags := 26, nameIndex := 38, descriptorIndex := 39, attributes := #[] }, { accessFlags := 25, nameIndex := 121, descriptorIndex := 25, attributes := #[] }, { accessFlags := 25, nameIndex := 131, descriptorIndex := 25, attributes := #[] }, { accessFlags := 25, nameIndex := 137, descriptorIndex := 25, attributes := #[] }, { accessFlags := 25, nameIndex := 143, descriptorIndex := 25, attributes := #[] }, { accessFlags := 25, nameIndex := 53, descriptorIndex := 25, attributes := #[] }, { accessFlags := 25, nameIndex := 24, descriptorIndex := 25, attributes := #[] }, { accessFlags := 25, nameIndex := 162, descriptorIndex := 25, attributes := #[] }, { accessFlags := 25, nameIndex := 187, descriptorIndex := 25, attributes := #[] }, { accessFlags := 26, nameIndex := 48, descriptorIndex := 25, attributes := #[] }, { accessFlags := 25, nameIndex := 277, descriptorIndex := 25, attributes := #[] }, { accessFlags := 25, nameIndex := 280, descriptorIndex := 25, attributes := #[] }, { accessFlags := 25, nameIndex := 282, descriptorIndex := 25, attributes := #[] }, { accessFlags := 25, nameIndex := 284, descriptorIndex := 25, attributes := #[] }, { accessFlags := 25, nameIndex := 286, descriptorIndex := 25, attributes := #[] }, { accessFlags := 25, nameIndex := 288, descriptorIndex := 25, attributes := #[] }, { accessFlags := 25, nameIndex := 290, descriptorIndex := 25, attributes := #[] }, { accessFlags := 25, nameIndex := 292, descriptorIndex := 25, attributes := #[] }, { accessFlags := 26, nameIndex := 108, descriptorIndex := 109, attributes := #[] }, { accessFlags := 25, nameIndex := 294, descriptorIndex := 25, attributes := #[] }])
  fields := #[{ name := "U", type := (.object "jdk/internal/misc/Unsafe"), accessFlags := 24, slot := 0, constantValue := 0 }, { name := "BIG_ENDIAN", type := .boolean, accessFlags := 26, slot := 1, constantValue := 0 }, { name := "LOG2_ARRAY_BOOLEAN_INDEX_SCALE", type := .int, accessFlags := 25, slot := 2, constantValue := 0 }, { name := "LOG2_ARRAY_BYTE_INDEX_SCALE", type := .int, accessFlags := 25, slot := 3, constantValue := 0 }, { name := "LOG2_ARRAY_CHAR_INDEX_SCALE", type := .int, accessFlags := 25, slot := 4, constantValue := 0 }, { name := "LOG2_ARRAY_SHORT_INDEX_SCALE", type := .int, accessFlags := 25, slot := 5, constantValue := 0 }, { name := "LOG2_ARRAY_INT_INDEX_SCALE", type := .int, accessFlags := 25, slot := 6, constantValue := 0 }, { name := "LOG2_ARRAY_LONG_INDEX_SCALE", type := .int, accessFlags := 25, slot := 7, constantValue := 0 }, { name := "LOG2_ARRAY_FLOAT_INDEX_SCALE", type := .int, accessFlags := 25, slot := 8, constantValue := 0 }, { name := "LOG2_ARRAY_DOUBLE_INDEX_SCALE", type := .int, accessFlags := 25, slot := 9, constantValue := 0 }, { name := "LOG2_BYTE_BIT_SIZE", type := .int, accessFlags := 26, slot := 10, constantValue := 0 }, { name := "T_BOOLEAN", type := .int, accessFlags := 25, slot := 11, constantValue := 0 }, { name := "T_CHAR", type := .int, accessFlags := 25, slot := 12, constantValue := 0 }, { name := "T_FLOAT", type := .int, accessFlags := 25, slot := 13, constantValue := 0 }, { name := "T_DOUBLE", type := .int, accessFlags := 25, slot := 14, constantValue := 0 }, { name := "T_BYTE", type := .int, accessFlags := 25, slot := 15, constantValue := 0 }, { name := "T_SHORT", type := .int, accessFlags := 25, slot := 16, constantValue := 0 }, { name := "T_INT", type := .int, accessFlags := 25, slot := 17, constantValue := 0 }, { name := "T_LONG", type := .int, accessFlags := 25, slot := 18, constantValue := 0 }, { name := "JLA", type := (.object "jdk/internal/access/JavaLangAccess"), accessFlags := 26, slot := 19, constantValue := 0 }, { name := "SOFT_MAX_ARRAY_LENGTH", type := .int, accessFlags := 25, slot := 20, constantValue := 0 }]
  methods := #[k16m0]
  instanceTypes := #[]
  staticTypes := #[(.object "jdk/internal/misc/Unsafe"), .boolean, .int, .int, .int, .int, .int, .int, .int, .int, .int, .int, .int, .int, .int, .int, .int, .int, .int, (.object "jdk/internal/access/JavaLangAccess"), .int]
  resolved := Array.replicate 378 none
  statics := none }

/-- the primitive byte -/
def k17 : Class := { plain "byte" none with kind := .primitive 'B', accessFlags := 0x411 }
/-- [B -/
def k18 : Class := { plain "[B" (some 0) with kind := .array 17 .byte, interfaces := #[13, 2], accessFlags := 1041 }

/-- the primitive char -/
def k19 : Class := { plain "char" none with kind := .primitive 'C', accessFlags := 0x411 }
/-- [C -/
def k20 : Class := { plain "[C" (some 0) with kind := .array 19 .char, interfaces := #[13, 2], accessFlags := 1041 }

/-- the primitive int -/
def k21 : Class := { plain "int" none with kind := .primitive 'I', accessFlags := 0x411 }
/-- [I -/
def k22 : Class := { plain "[I" (some 0) with kind := .array 21 .int, interfaces := #[13, 2], accessFlags := 1041 }

/-- [Lcom/example/model_for_reads/modelforreads/model/FieldType; -/
def k23 : Class := { plain "[Lcom/example/model_for_reads/modelforreads/model/FieldType;" (some 0) with kind := .array 9 (.object "com/example/model_for_reads/modelforreads/model/FieldType"), interfaces := #[13, 2], accessFlags := 1041 }

def heap : Heap := #[{ cls := 7, slots := #[.long 0, .int 1, .null, .int 0, .null, .int 0, .int 0], vm := .statics 7 },
  { cls := 9, slots := #[.ref 6, .ref 7, .ref 8, .ref 5], vm := .statics 9 },
  { cls := 11, slots := #[.null, .null, .null], vm := .statics 11 },
  { cls := 12, slots := #[.int 0, .int 8, .int 0, .int 1], vm := .statics 12 },
  { cls := 14, slots := #[.ref 15], vm := .statics 14 },
  { cls := 23, slots := #[.ref 6, .ref 7, .ref 8], vm := .none },
  { cls := 9, slots := #[.null, .int 0, .int 0, .ref 9, .null], vm := .none },
  { cls := 9, slots := #[.null, .int 1, .int 0, .ref 10, .null], vm := .none },
  { cls := 9, slots := #[.null, .int 2, .int 0, .ref 11, .null], vm := .none },
  { cls := 7, slots := #[.ref 12, .int 0, .int 0, .int 0], vm := .none },
  { cls := 7, slots := #[.ref 13, .int 0, .int 0, .int 0], vm := .none },
  { cls := 7, slots := #[.ref 14, .int 0, .int 0, .int 0], vm := .none },
  { cls := 18, slots := #[.int 105, .int 110, .int 116], vm := .none },
  { cls := 18, slots := #[.int 100, .int 101, .int 99, .int 105, .int 109, .int 97, .int 108], vm := .none },
  { cls := 18, slots := #[.int 115, .int 116, .int 114, .int 105, .int 110, .int 103], vm := .none },
  { cls := 14, slots := #[.null], vm := .none }]
def classes : Array Class := #[k0, k1, k2, k3, k4, k5, k6, k7, k8, k9, k10, k11, k12, k13, k14, k15, k16, k17, k18, k19, k20, k21, k22, k23]
def interned : List (Array UInt16 × Addr) := []
def slotsUsed : Nat := 66
def theMethod : MethodId := ⟨1, 4⟩
def args0 : Array Value := #[.int 4, .int 1, .int 101, .long 0]
def aboutOver (below : List Frame) : State where
  vm := { classes := classes, interned := interned.toArray }
  heap := heap
  slotsUsed := slotsUsed
  threads := #[{ frames := .invoking theMethod args0 :: below }]
def below0 : List Frame := [.native { method := ⟨0, 0⟩, args := #[] }]
def about1 : State := aboutOver below0
def p0 : Program := .bare "" "" ""
def e0 : Env := launch0.env 0 0 0
theorem w_frames : about1.frames = Frame.invoking theMethod args0 :: below0 := rfl
set_option maxRecDepth 65536 in
theorem w_args : argsFit about1.vm theMethod args0 = true := by decide +kernel
set_option maxRecDepth 65536 in
theorem w_heap : heapFits about1 = true := by decide +kernel
set_option maxRecDepth 65536 in
theorem w_runnable : about1.curStatus? = some .runnable := by decide +kernel
set_option maxRecDepth 65536 in
theorem w_alone : about1.alone = true := by decide +kernel
set_option maxRecDepth 65536 in
theorem w_named : about1.methodNamed? x = some theMethod := by decide +kernel
set_option maxRecDepth 65536 in
theorem w_hears : about1.hears theMethod below0 = true := by decide +kernel
set_option maxRecDepth 65536 in
theorem w_ripe : about1.ripe theMethod args0 below0 = true := by decide +kernel
theorem w_running : about1.status = .running := rfl
set_option maxRecDepth 65536 in
theorem w_room : about1.hasRoom e0.platform room_1 = true :=
  launch0.hasRoom_least _ room_1 (by decide +kernel) (by decide +kernel) (by decide +kernel) (by decide +kernel) (by decide +kernel) (by decide +kernel)
theorem allAtoms_all (ts : List Jvm.Cond) (a : Array Jvm.Value) (st : Jvm.State) : (allAtoms ts).before a st = ts.all (fun c => c.before a st) := by
  induction ts with
  | nil => rfl
  | cons c t ih =>
    show (Jvm.Cond.and c (allAtoms t)).before a st = _
    rw [Jvm.Cond.before_and, ih, List.all_cons]
def words1 : List Jvm.Cond := Jvm.Cond.code x code maxLocals ret :: tables_1
/-- a 'code' word, met by the world's own term for the bytes: nothing is compared byte by byte -/
theorem code_word {y : MethodName} {bytes : ByteArray} {mx : Nat} {rt : Option FieldType} {a : Array Value} {s : State} {m : MethodId} {meth : Method} {c : Code} (h1 : s.methodNamed? y = some m) (h2 : s.vm.method? m = some meth) (h3 : meth.code = some c) (h4 : c.code = bytes)
    (h5 : (c.maxLocals == mx && c.exceptionTable.isEmpty && decide (c.maxStack ≤ mostOperands) && decide (meth.sig.returnType = rt) && !meth.locks && decide (parseMethodDescriptor y.desc = some meth.sig)) = true) : (Jvm.Cond.code y bytes mx rt).before a s = true := by
  simp only [Bool.and_eq_true, beq_iff_eq, Bool.not_eq_true', decide_eq_true_eq] at h5
  obtain ⟨⟨⟨⟨⟨g1, g2⟩, g3⟩, g4⟩, g5⟩, g6⟩ := h5
  simp [Cond.before, Cond.holds, Cond.value, h1, h2, h3, h4, g1, g2, g3, g4, g5, g6]
def isCode : Jvm.Cond → Bool
  | .code _ _ _ _ => true
  | _ => false
theorem all_split {L : List Jvm.Cond} {P : Jvm.Cond → Bool} (h1 : L.all (fun c => isCode c || P c) = true) (h2 : ∀ c ∈ L.filter isCode, P c = true) : L.all P = true := by
  refine List.all_eq_true.mpr fun c hc => ?_
  have h := List.all_eq_true.mp h1 c hc
  rcases Bool.eq_false_or_eq_true (isCode c) with hi | hi
  · exact h2 c (List.mem_filter.mpr ⟨hc, hi⟩)
  · simpa [hi] using h
set_option maxRecDepth 65536 in
theorem w_c0 : (Jvm.Cond.code x code maxLocals ret).before args0 about1 = true := code_word (m := ⟨1, 4⟩) (meth := k1m4) (c := k1c4) (by decide +kernel) rfl rfl rfl (by decide +kernel)
set_option maxRecDepth 65536 in
theorem w_c1 : (Jvm.Cond.code ({ cls := "java/lang/String", name := "length", desc := "()I" } : Jvm.MethodName) jdk_42_method_54_code (1 : Nat) (Option.some Jvm.ClassFile.FieldType.int)).before args0 about1 = true := code_word (m := ⟨7, 2⟩) (meth := k7m2) (c := k7c2) (by decide +kernel) rfl rfl rfl (by decide +kernel)
set_option maxRecDepth 65536 in
theorem w_c2 : (Jvm.Cond.code ({ cls := "java/lang/String", name := "coder", desc := "()B" } : Jvm.MethodName) jdk_42_method_152_code (1 : Nat) (Option.some Jvm.ClassFile.FieldType.byte)).before args0 about1 = true := code_word (m := ⟨7, 6⟩) (meth := k7m6) (c := k7c6) (by decide +kernel) rfl rfl rfl (by decide +kernel)
set_option maxRecDepth 65536 in
theorem w_c3 : (Jvm.Cond.code ({ cls := "com/example/model_for_reads/modelforreads/model/FieldTypeFromModelNamePinLaw", name := "at", desc := "(Ljava/lang/String;I)C" } : Jvm.MethodName) method_2_code (2 : Nat) (Option.some Jvm.ClassFile.FieldType.char)).before args0 about1 = true := code_word (m := ⟨1, 1⟩) (meth := k1m1) (c := k1c1) (by decide +kernel) rfl rfl rfl (by decide +kernel)
set_option maxRecDepth 65536 in
theorem w_c4 : (Jvm.Cond.code ({ cls := "java/lang/String", name := "charAt", desc := "(I)C" } : Jvm.MethodName) jdk_42_method_56_code (2 : Nat) (Option.some Jvm.ClassFile.FieldType.char)).before args0 about1 = true := code_word (m := ⟨7, 3⟩) (meth := k7m3) (c := k7c3) (by decide +kernel) rfl rfl rfl (by decide +kernel)
set_option maxRecDepth 65536 in
theorem w_c5 : (Jvm.Cond.code ({ cls := "java/lang/String", name := "isLatin1", desc := "()Z" } : Jvm.MethodName) jdk_42_method_154_code (1 : Nat) (Option.some Jvm.ClassFile.FieldType.boolean)).before args0 about1 = true := code_word (m := ⟨7, 7⟩) (meth := k7m7) (c := k7c7) (by decide +kernel) rfl rfl rfl (by decide +kernel)
set_option maxRecDepth 65536 in
theorem w_c6 : (Jvm.Cond.code ({ cls := "java/lang/StringLatin1", name := "charAt", desc := "([BI)C" } : Jvm.MethodName) jdk_43_method_2_code (2 : Nat) (Option.some Jvm.ClassFile.FieldType.char)).before args0 about1 = true := code_word (m := ⟨10, 1⟩) (meth := k10m1) (c := k10c1) (by decide +kernel) rfl rfl rfl (by decide +kernel)
set_option maxRecDepth 65536 in
theorem w_c7 : (Jvm.Cond.code ({ cls := "java/lang/String", name := "checkIndex", desc := "(II)V" } : Jvm.MethodName) jdk_42_method_155_code (2 : Nat) (Option.none : Option Jvm.ClassFile.FieldType)).before args0 about1 = true := code_word (m := ⟨7, 8⟩) (meth := k7m8) (c := k7c8) (by decide +kernel) rfl rfl rfl (by decide +kernel)
set_option maxRecDepth 65536 in
theorem w_c8 : (Jvm.Cond.code ({ cls := "jdk/internal/util/Preconditions", name := "checkIndex", desc := "(IILjava/util/function/BiFunction;)I" } : Jvm.MethodName) jdk_41_method_11_code (3 : Nat) (Option.some Jvm.ClassFile.FieldType.int)).before args0 about1 = true := code_word (m := ⟨11, 1⟩) (meth := k11m1) (c := k11c1) (by decide +kernel) rfl rfl rfl (by decide +kernel)
set_option maxRecDepth 65536 in
theorem w_c9 : (Jvm.Cond.code ({ cls := "com/example/model_for_reads/modelforreads/model/FieldTypeFromModelNamePinLaw", name := "str", desc := "([CI)Ljava/lang/String;" } : Jvm.MethodName) method_4_code (2 : Nat) (Option.some (Jvm.ClassFile.FieldType.object "java/lang/String"))).before args0 about1 = true := code_word (m := ⟨1, 3⟩) (meth := k1m3) (c := k1c3) (by decide +kernel) rfl rfl rfl (by decide +kernel)
set_option maxRecDepth 65536 in
theorem w_c10 : (Jvm.Cond.code ({ cls := "java/lang/String", name := "<init>", desc := "([C)V" } : Jvm.MethodName) jdk_42_method_3_code (2 : Nat) (Option.none : Option Jvm.ClassFile.FieldType)).before args0 about1 = true := code_word (m := ⟨7, 1⟩) (meth := k7m1) (c := k7c1) (by decide +kernel) rfl rfl rfl (by decide +kernel)
set_option maxRecDepth 65536 in
theorem w_c11 : (Jvm.Cond.code ({ cls := "java/lang/String", name := "<init>", desc := "([CIILjava/lang/Void;)V" } : Jvm.MethodName) jdk_42_method_149_code (6 : Nat) (Option.none : Option Jvm.ClassFile.FieldType)).before args0 about1 = true := code_word (m := ⟨7, 5⟩) (meth := k7m5) (c := k7c5) (by decide +kernel) rfl rfl rfl (by decide +kernel)
set_option maxRecDepth 65536 in
theorem w_c12 : (Jvm.Cond.code ({ cls := "java/lang/Object", name := "<init>", desc := "()V" } : Jvm.MethodName) object_method_1_code (1 : Nat) (Option.none : Option Jvm.ClassFile.FieldType)).before args0 about1 = true := code_word (m := ⟨0, 0⟩) (meth := k0m0) (c := k0c0) (by decide +kernel) rfl rfl rfl (by decide +kernel)
set_option maxRecDepth 65536 in
theorem w_c13 : (Jvm.Cond.code ({ cls := "java/lang/StringUTF16", name := "compress", desc := "([CII)[B" } : Jvm.MethodName) jdk_52_method_16_code (6 : Nat) (Option.some (Jvm.ClassFile.FieldType.array Jvm.ClassFile.FieldType.byte))).before args0 about1 = true := code_word (m := ⟨12, 7⟩) (meth := k12m7) (c := k12c7) (by decide +kernel) rfl rfl rfl (by decide +kernel)
set_option maxRecDepth 65536 in
theorem w_c14 : (Jvm.Cond.code ({ cls := "java/lang/StringUTF16", name := "compress", desc := "([CI[BII)I" } : Jvm.MethodName) jdk_52_method_21_code (7 : Nat) (Option.some Jvm.ClassFile.FieldType.int)).before args0 about1 = true := code_word (m := ⟨12, 8⟩) (meth := k12m8) (c := k12c8) (by decide +kernel) rfl rfl rfl (by decide +kernel)
set_option maxRecDepth 65536 in
theorem w_c15 : (Jvm.Cond.code ({ cls := "java/lang/StringUTF16", name := "coderFromArrayLen", desc := "([BI)B" } : Jvm.MethodName) jdk_52_method_15_code (2 : Nat) (Option.some Jvm.ClassFile.FieldType.byte)).before args0 about1 = true := code_word (m := ⟨12, 6⟩) (meth := k12m6) (c := k12c6) (by decide +kernel) rfl rfl rfl (by decide +kernel)
set_option maxRecDepth 65536 in
theorem w_c16 : (Jvm.Cond.code ({ cls := "com/example/model_for_reads/modelforreads/model/FieldType", name := "fromModelName", desc := "(Ljava/lang/String;)Ljava/util/Optional;" } : Jvm.MethodName) prog_7_method_5_code (5 : Nat) (Option.some (Jvm.ClassFile.FieldType.object "java/util/Optional"))).before args0 about1 = true := code_word (m := ⟨9, 1⟩) (meth := k9m1) (c := k9c1) (by decide +kernel) rfl rfl rfl (by decide +kernel)
set_option maxRecDepth 65536 in
theorem w_c17 : (Jvm.Cond.code ({ cls := "com/example/model_for_reads/modelforreads/model/FieldType", name := "values", desc := "()[Lcom/example/model_for_reads/modelforreads/model/FieldType;" } : Jvm.MethodName) prog_7_method_1_code (0 : Nat) (Option.some (Jvm.ClassFile.FieldType.array (Jvm.ClassFile.FieldType.object "com/example/model_for_reads/modelforreads/model/FieldType")))).before args0 about1 = true := code_word (m := ⟨9, 0⟩) (meth := k9m0) (c := k9c0) (by decide +kernel) rfl rfl rfl (by decide +kernel)
set_option maxRecDepth 65536 in
theorem w_c18 : (Jvm.Cond.code ({ cls := "java/lang/String", name := "equals", desc := "(Ljava/lang/Object;)Z" } : Jvm.MethodName) jdk_42_method_66_code (3 : Nat) (Option.some Jvm.ClassFile.FieldType.boolean)).before args0 about1 = true := code_word (m := ⟨7, 4⟩) (meth := k7m4) (c := k7c4) (by decide +kernel) rfl rfl rfl (by decide +kernel)
set_option maxRecDepth 65536 in
theorem w_c19 : (Jvm.Cond.code ({ cls := "java/lang/StringLatin1", name := "equals", desc := "([B[B)Z" } : Jvm.MethodName) jdk_43_method_13_code (3 : Nat) (Option.some Jvm.ClassFile.FieldType.boolean)).before args0 about1 = true := code_word (m := ⟨10, 2⟩) (meth := k10m2) (c := k10c2) (by decide +kernel) rfl rfl rfl (by decide +kernel)
set_option maxRecDepth 65536 in
theorem w_c20 : (Jvm.Cond.code ({ cls := "java/util/Optional", name := "of", desc := "(Ljava/lang/Object;)Ljava/util/Optional;" } : Jvm.MethodName) jdk_32_method_3_code (1 : Nat) (Option.some (Jvm.ClassFile.FieldType.object "java/util/Optional"))).before args0 about1 = true := code_word (m := ⟨14, 2⟩) (meth := k14m2) (c := k14c2) (by decide +kernel) rfl rfl rfl (by decide +kernel)
set_option maxRecDepth 65536 in
theorem w_c21 : (Jvm.Cond.code ({ cls := "java/util/Objects", name := "requireNonNull", desc := "(Ljava/lang/Object;)Ljava/lang/Object;" } : Jvm.MethodName) jdk_31_method_10_code (1 : Nat) (Option.some (Jvm.ClassFile.FieldType.object "java/lang/Object"))).before args0 about1 = true := code_word (m := ⟨15, 1⟩) (meth := k15m1) (c := k15c1) (by decide +kernel) rfl rfl rfl (by decide +kernel)
set_option maxRecDepth 65536 in
theorem w_c22 : (Jvm.Cond.code ({ cls := "java/util/Optional", name := "<init>", desc := "(Ljava/lang/Object;)V" } : Jvm.MethodName) jdk_32_method_2_code (2 : Nat) (Option.none : Option Jvm.ClassFile.FieldType)).before args0 about1 = true := code_word (m := ⟨14, 1⟩) (meth := k14m1) (c := k14c1) (by decide +kernel) rfl rfl rfl (by decide +kernel)
set_option maxRecDepth 65536 in
theorem w_c23 : (Jvm.Cond.code ({ cls := "java/util/Optional", name := "orElse", desc := "(Ljava/lang/Object;)Ljava/lang/Object;" } : Jvm.MethodName) jdk_32_method_15_code (2 : Nat) (Option.some (Jvm.ClassFile.FieldType.object "java/lang/Object"))).before args0 about1 = true := code_word (m := ⟨14, 3⟩) (meth := k14m3) (c := k14c3) (by decide +kernel) rfl rfl rfl (by decide +kernel)
set_option maxRecDepth 65536 in
theorem w_c24 : (Jvm.Cond.code ({ cls := "java/util/Optional", name := "empty", desc := "()Ljava/util/Optional;" } : Jvm.MethodName) jdk_32_method_1_code (1 : Nat) (Option.some (Jvm.ClassFile.FieldType.object "java/util/Optional"))).before args0 about1 = true := code_word (m := ⟨14, 0⟩) (meth := k14m0) (c := k14c0) (by decide +kernel) rfl rfl rfl (by decide +kernel)
set_option maxRecDepth 65536 in
theorem w_c25 : (Jvm.Cond.code ({ cls := "com/example/model_for_reads/modelforreads/model/FieldTypeFromModelNamePinLaw", name := "byteAt", desc := "(JI)C" } : Jvm.MethodName) method_3_code (3 : Nat) (Option.some Jvm.ClassFile.FieldType.char)).before args0 about1 = true := code_word (m := ⟨1, 2⟩) (meth := k1m2) (c := k1c2) (by decide +kernel) rfl rfl rfl (by decide +kernel)
set_option maxRecDepth 65536 in
theorem w_c26 : (Jvm.Cond.code ({ cls := "java/lang/StringUTF16", name := "toBytes", desc := "([CII)[B" } : Jvm.MethodName) jdk_52_method_14_code (5 : Nat) (Option.some (Jvm.ClassFile.FieldType.array Jvm.ClassFile.FieldType.byte))).before args0 about1 = true := code_word (m := ⟨12, 5⟩) (meth := k12m5) (c := k12c5) (by decide +kernel) rfl rfl rfl (by decide +kernel)
set_option maxRecDepth 65536 in
theorem w_c27 : (Jvm.Cond.code ({ cls := "java/lang/StringUTF16", name := "newBytesFor", desc := "(I)[B" } : Jvm.MethodName) jdk_52_method_2_code (1 : Nat) (Option.some (Jvm.ClassFile.FieldType.array Jvm.ClassFile.FieldType.byte))).before args0 about1 = true := code_word (m := ⟨12, 1⟩) (meth := k12m1) (c := k12c1) (by decide +kernel) rfl rfl rfl (by decide +kernel)
set_option maxRecDepth 65536 in
theorem w_c28 : (Jvm.Cond.code ({ cls := "java/lang/StringUTF16", name := "newBytesLength", desc := "(I)I" } : Jvm.MethodName) jdk_52_method_3_code (1 : Nat) (Option.some Jvm.ClassFile.FieldType.int)).before args0 about1 = true := code_word (m := ⟨12, 2⟩) (meth := k12m2) (c := k12c2) (by decide +kernel) rfl rfl rfl (by decide +kernel)
set_option maxRecDepth 65536 in
theorem w_c29 : (Jvm.Cond.code ({ cls := "java/lang/StringUTF16", name := "putChar", desc := "([BII)V" } : Jvm.MethodName) jdk_52_method_4_code (3 : Nat) (Option.none : Option Jvm.ClassFile.FieldType)).before args0 about1 = true := code_word (m := ⟨12, 3⟩) (meth := k12m3) (c := k12c3) (by decide +kernel) rfl rfl rfl (by decide +kernel)
set_option maxRecDepth 65536 in
theorem w_c30 : (Jvm.Cond.code ({ cls := "java/lang/StringUTF16", name := "getChar", desc := "([BI)C" } : Jvm.MethodName) jdk_52_method_5_code (2 : Nat) (Option.some Jvm.ClassFile.FieldType.char)).before args0 about1 = true := code_word (m := ⟨12, 4⟩) (meth := k12m4) (c := k12c4) (by decide +kernel) rfl rfl rfl (by decide +kernel)
def codes1 : List Jvm.Cond := [Jvm.Cond.code x code maxLocals ret, Jvm.Cond.code ({ cls := "java/lang/String", name := "length", desc := "()I" } : Jvm.MethodName) jdk_42_method_54_code (1 : Nat) (Option.some Jvm.ClassFile.FieldType.int), Jvm.Cond.code ({ cls := "java/lang/String", name := "coder", desc := "()B" } : Jvm.MethodName) jdk_42_method_152_code (1 : Nat) (Option.some Jvm.ClassFile.FieldType.byte), Jvm.Cond.code ({ cls := "com/example/model_for_reads/modelforreads/model/FieldTypeFromModelNamePinLaw", name := "at", desc := "(Ljava/lang/String;I)C" } : Jvm.MethodName) method_2_code (2 : Nat) (Option.some Jvm.ClassFile.FieldType.char), Jvm.Cond.code ({ cls := "java/lang/String", name := "charAt", desc := "(I)C" } : Jvm.MethodName) jdk_42_method_56_code (2 : Nat) (Option.some Jvm.ClassFile.FieldType.char), Jvm.Cond.code ({ cls := "java/lang/String", name := "isLatin1", desc := "()Z" } : Jvm.MethodName) jdk_42_method_154_code (1 : Nat) (Option.some Jvm.ClassFile.FieldType.boolean), Jvm.Cond.code ({ cls := "java/lang/StringLatin1", name := "charAt", desc := "([BI)C" } : Jvm.MethodName) jdk_43_method_2_code (2 : Nat) (Option.some Jvm.ClassFile.FieldType.char), Jvm.Cond.code ({ cls := "java/lang/String", name := "checkIndex", desc := "(II)V" } : Jvm.MethodName) jdk_42_method_155_code (2 : Nat) (Option.none : Option Jvm.ClassFile.FieldType), Jvm.Cond.code ({ cls := "jdk/internal/util/Preconditions", name := "checkIndex", desc := "(IILjava/util/function/BiFunction;)I" } : Jvm.MethodName) jdk_41_method_11_code (3 : Nat) (Option.some Jvm.ClassFile.FieldType.int), Jvm.Cond.code ({ cls := "com/example/model_for_reads/modelforreads/model/FieldTypeFromModelNamePinLaw", name := "str", desc := "([CI)Ljava/lang/String;" } : Jvm.MethodName) method_4_code (2 : Nat) (Option.some (Jvm.ClassFile.FieldType.object "java/lang/String")), Jvm.Cond.code ({ cls := "java/lang/String", name := "<init>", desc := "([C)V" } : Jvm.MethodName) jdk_42_method_3_code (2 : Nat) (Option.none : Option Jvm.ClassFile.FieldType), Jvm.Cond.code ({ cls := "java/lang/String", name := "<init>", desc := "([CIILjava/lang/Void;)V" } : Jvm.MethodName) jdk_42_method_149_code (6 : Nat) (Option.none : Option Jvm.ClassFile.FieldType), Jvm.Cond.code ({ cls := "java/lang/Object", name := "<init>", desc := "()V" } : Jvm.MethodName) object_method_1_code (1 : Nat) (Option.none : Option Jvm.ClassFile.FieldType), Jvm.Cond.code ({ cls := "java/lang/StringUTF16", name := "compress", desc := "([CII)[B" } : Jvm.MethodName) jdk_52_method_16_code (6 : Nat) (Option.some (Jvm.ClassFile.FieldType.array Jvm.ClassFile.FieldType.byte)), Jvm.Cond.code ({ cls := "java/lang/StringUTF16", name := "compress", desc := "([CI[BII)I" } : Jvm.MethodName) jdk_52_method_21_code (7 : Nat) (Option.some Jvm.ClassFile.FieldType.int), Jvm.Cond.code ({ cls := "java/lang/StringUTF16", name := "coderFromArrayLen", desc := "([BI)B" } : Jvm.MethodName) jdk_52_method_15_code (2 : Nat) (Option.some Jvm.ClassFile.FieldType.byte), Jvm.Cond.code ({ cls := "com/example/model_for_reads/modelforreads/model/FieldType", name := "fromModelName", desc := "(Ljava/lang/String;)Ljava/util/Optional;" } : Jvm.MethodName) prog_7_method_5_code (5 : Nat) (Option.some (Jvm.ClassFile.FieldType.object "java/util/Optional")), Jvm.Cond.code ({ cls := "com/example/model_for_reads/modelforreads/model/FieldType", name := "values", desc := "()[Lcom/example/model_for_reads/modelforreads/model/FieldType;" } : Jvm.MethodName) prog_7_method_1_code (0 : Nat) (Option.some (Jvm.ClassFile.FieldType.array (Jvm.ClassFile.FieldType.object "com/example/model_for_reads/modelforreads/model/FieldType"))), Jvm.Cond.code ({ cls := "java/lang/String", name := "equals", desc := "(Ljava/lang/Object;)Z" } : Jvm.MethodName) jdk_42_method_66_code (3 : Nat) (Option.some Jvm.ClassFile.FieldType.boolean), Jvm.Cond.code ({ cls := "java/lang/StringLatin1", name := "equals", desc := "([B[B)Z" } : Jvm.MethodName) jdk_43_method_13_code (3 : Nat) (Option.some Jvm.ClassFile.FieldType.boolean), Jvm.Cond.code ({ cls := "java/util/Optional", name := "of", desc := "(Ljava/lang/Object;)Ljava/util/Optional;" } : Jvm.MethodName) jdk_32_method_3_code (1 : Nat) (Option.some (Jvm.ClassFile.FieldType.object "java/util/Optional")), Jvm.Cond.code ({ cls := "java/util/Objects", name := "requireNonNull", desc := "(Ljava/lang/Object;)Ljava/lang/Object;" } : Jvm.MethodName) jdk_31_method_10_code (1 : Nat) (Option.some (Jvm.ClassFile.FieldType.object "java/lang/Object")), Jvm.Cond.code ({ cls := "java/util/Optional", name := "<init>", desc := "(Ljava/lang/Object;)V" } : Jvm.MethodName) jdk_32_method_2_code (2 : Nat) (Option.none : Option Jvm.ClassFile.FieldType), Jvm.Cond.code ({ cls := "java/util/Optional", name := "orElse", desc := "(Ljava/lang/Object;)Ljava/lang/Object;" } : Jvm.MethodName) jdk_32_method_15_code (2 : Nat) (Option.some (Jvm.ClassFile.FieldType.object "java/lang/Object")), Jvm.Cond.code ({ cls := "java/util/Optional", name := "empty", desc := "()Ljava/util/Optional;" } : Jvm.MethodName) jdk_32_method_1_code (1 : Nat) (Option.some (Jvm.ClassFile.FieldType.object "java/util/Optional")), Jvm.Cond.code ({ cls := "com/example/model_for_reads/modelforreads/model/FieldTypeFromModelNamePinLaw", name := "byteAt", desc := "(JI)C" } : Jvm.MethodName) method_3_code (3 : Nat) (Option.some Jvm.ClassFile.FieldType.char), Jvm.Cond.code ({ cls := "java/lang/StringUTF16", name := "toBytes", desc := "([CII)[B" } : Jvm.MethodName) jdk_52_method_14_code (5 : Nat) (Option.some (Jvm.ClassFile.FieldType.array Jvm.ClassFile.FieldType.byte)), Jvm.Cond.code ({ cls := "java/lang/StringUTF16", name := "newBytesFor", desc := "(I)[B" } : Jvm.MethodName) jdk_52_method_2_code (1 : Nat) (Option.some (Jvm.ClassFile.FieldType.array Jvm.ClassFile.FieldType.byte)), Jvm.Cond.code ({ cls := "java/lang/StringUTF16", name := "newBytesLength", desc := "(I)I" } : Jvm.MethodName) jdk_52_method_3_code (1 : Nat) (Option.some Jvm.ClassFile.FieldType.int), Jvm.Cond.code ({ cls := "java/lang/StringUTF16", name := "putChar", desc := "([BII)V" } : Jvm.MethodName) jdk_52_method_4_code (3 : Nat) (Option.none : Option Jvm.ClassFile.FieldType), Jvm.Cond.code ({ cls := "java/lang/StringUTF16", name := "getChar", desc := "([BI)C" } : Jvm.MethodName) jdk_52_method_5_code (2 : Nat) (Option.some Jvm.ClassFile.FieldType.char)]
set_option maxRecDepth 65536 in
theorem codes_eq : words1.filter isCode = codes1 := rfl
theorem w_codes : ∀ c ∈ words1.filter isCode, c.before args0 about1 = true := by
  rw [codes_eq]
  intro c hc
  simp only [codes1, List.mem_cons, List.not_mem_nil, or_false] at hc
  rcases hc with rfl | rfl | rfl | rfl | rfl | rfl | rfl | rfl | rfl | rfl | rfl | rfl | rfl | rfl | rfl | rfl | rfl | rfl | rfl | rfl | rfl | rfl | rfl | rfl | rfl | rfl | rfl | rfl | rfl | rfl | rfl
  · exact w_c0
  · exact w_c1
  · exact w_c2
  · exact w_c3
  · exact w_c4
  · exact w_c5
  · exact w_c6
  · exact w_c7
  · exact w_c8
  · exact w_c9
  · exact w_c10
  · exact w_c11
  · exact w_c12
  · exact w_c13
  · exact w_c14
  · exact w_c15
  · exact w_c16
  · exact w_c17
  · exact w_c18
  · exact w_c19
  · exact w_c20
  · exact w_c21
  · exact w_c22
  · exact w_c23
  · exact w_c24
  · exact w_c25
  · exact w_c26
  · exact w_c27
  · exact w_c28
  · exact w_c29
  · exact w_c30
set_option maxRecDepth 65536 in
theorem w_t1 : (words1.take 24).all (fun c => isCode c || c.before args0 about1) = true := by decide +kernel
set_option maxRecDepth 65536 in
theorem w_t2 : ((words1.drop 24).take 24).all (fun c => isCode c || c.before args0 about1) = true := by decide +kernel
set_option maxRecDepth 65536 in
theorem w_t3 : (((words1.drop 24).drop 24).take 24).all (fun c => isCode c || c.before args0 about1) = true := by decide +kernel
set_option maxRecDepth 65536 in
theorem w_t4 : ((((words1.drop 24).drop 24).drop 24).take 24).all (fun c => isCode c || c.before args0 about1) = true := by decide +kernel
set_option maxRecDepth 65536 in
theorem w_t5 : (((((words1.drop 24).drop 24).drop 24).drop 24).take 24).all (fun c => isCode c || c.before args0 about1) = true := by decide +kernel
set_option maxRecDepth 65536 in
theorem w_t6 : ((((((words1.drop 24).drop 24).drop 24).drop 24).drop 24).take 24).all (fun c => isCode c || c.before args0 about1) = true := by decide +kernel
set_option maxRecDepth 65536 in
theorem w_t7 : ((((((words1.drop 24).drop 24).drop 24).drop 24).drop 24).drop 24).all (fun c => isCode c || c.before args0 about1) = true := by decide +kernel
theorem w_tables : (allAtoms (Jvm.Cond.code x code maxLocals ret :: tables_1)).before args0 about1 = true := by
  rw [allAtoms_all]
  show words1.all (fun c => c.before args0 about1) = true
  refine all_split ?_ w_codes
  rw [← List.take_append_drop 24 words1, List.all_append, w_t1, ← List.take_append_drop 24 (words1.drop 24), List.all_append, w_t2, ← List.take_append_drop 24 ((words1.drop 24).drop 24), List.all_append, w_t3, ← List.take_append_drop 24 (((words1.drop 24).drop 24).drop 24), List.all_append, w_t4, ← List.take_append_drop 24 ((((words1.drop 24).drop 24).drop 24).drop 24), List.all_append, w_t5, ← List.take_append_drop 24 (((((words1.drop 24).drop 24).drop 24).drop 24).drop 24), List.all_append, w_t6, w_t7]
  rfl
set_option maxRecDepth 65536 in
theorem w_rest : rest_1_c.before args0 about1 = true := by decide +kernel
set_option maxRecDepth 65536 in
theorem w_case : (Jvm.Cond.and given_1 narrow_1).before args0 about1 = true := by decide +kernel
set_option maxRecDepth 65536 in
theorem w_consts : constsHeld consts_1 about1 := Jvm.Lit.constsHeldB_iff.mp (by decide +kernel)
theorem w_applies : (headSpec (Jvm.Cond.code x code maxLocals ret :: tables_1) room_1).applies x e0.platform about1 = true :=
  (Spec.applies_iff w_frames).mpr ⟨w_running, w_runnable, w_alone, w_named, w_hears, w_ripe, w_room, w_tables⟩
theorem atStart : AtStart classFile x code maxLocals ret World_1 tables_1 room_1 Calls_1 rest_1 Pre_1 launch0 p0 e0 about1 theMethod args0 below0 :=
  ⟨lists_1, trivial, launch0.admits_env _ _ _, launch0.least_env, fairChoices_fair.cas, fairChoices_fair.clock, w_frames, w_args, w_heap, w_applies, ⟨w_consts, trivial⟩, w_rest, w_case⟩
end start1
theorem witness_1 : WitnessClaimed_1 := ⟨start1.p0, start1.e0, start1.about1, start1.theMethod, start1.args0, start1.below0, start1.atStart⟩
end Jvm.Pilot.@@N@@
