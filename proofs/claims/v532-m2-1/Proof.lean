import JvmDerived
import JvmDerived.Pilot.@@N@@Statement
import JvmDerived.Pilot.@@N@@Code
set_option linter.unusedVariables false
set_option linter.unusedSimpArgs false
namespace Jvm.Pilot.@@N@@
open Jvm Jvm.ClassFile Sem Op Lib Jvm.Free Jvm.Stand Jvm.LawKit Jvm.RoadKit Bundle Jvm.Pilot.@@N@@.Jvm.D
abbrev CL : List (String × Nat) := []
abbrev NL : Bool := false
/-! OWN KIT: a forward form of the walk (Rc: the run has come to pc with these locals, this stack and this heap), over the library's Stand. -/
section OwnKit
open Jvm.Free.SB Jvm.Free.SBG
def Sx (Z : State) (h : Heap) (Ds : List Addr) (a : Addr) (units : Array UInt16) : Prop :=
  ∃ (q : SQ) (cS : ClassId), q.sa = a ∧ Sl q cS ({ Z with heap := h } : State) ∧ (∃ kS : Class, Z.vm.classes[cS]? = some kS ∧ kS.kind = .ordinary ∧ q.sC.slots.size = kS.instanceTypes.size) ∧ Z.vm.findClass "[B" = some q.SA.cls ∧ q.SA.slots = stringBytes units ∧ q.sa ∉ Ds ∧ q.sd ∉ Ds
theorem own_al (Z : State) : Z.vm.Alike Z.vm := (State.Warmed39.refl Z).alike
theorem Sx.keep {Z : State} {h h' : Heap} {Ds ws : List Addr} {a : Addr} {u : Array UInt16} (F : Sx Z h Ds a u) (K : Keep h h' ws) (q : ∀ x ∈ ws, x ∈ Ds) : Sx Z h' Ds a u := by
  obtain ⟨s, cS, h1, h2, h3, h4, h5, h6, h7⟩ := F
  exact ⟨s, cS, h1, Sl.carry (U := ({ Z with heap := h } : State)) (U' := ({ Z with heap := h' } : State)) (own_al Z) (K.2.1 _ _ h2.1.1 (fun m => h6 (q _ m))) (K.2.1 _ _ h2.1.2.2.2.2.2.2.2.2.2.1 (fun m => h7 (q _ m))) h2, h3, h4, h5, h6, h7⟩
theorem Sx.less {Z : State} {h : Heap} {Ds Ds' : List Addr} {a : Addr} {u : Array UInt16} (F : Sx Z h Ds a u) (q : ∀ x ∈ Ds', x ∈ Ds) : Sx Z h Ds' a u := by
  obtain ⟨s, cS, h1, h2, h3, h4, h5, h6, h7⟩ := F
  exact ⟨s, cS, h1, h2, h3, h4, h5, fun m => h6 (q _ m), fun m => h7 (q _ m)⟩
theorem Sx.more {Z : State} {h : Heap} {Ds : List Addr} {a b : Addr} {u : Array UInt16} (F : Sx Z h Ds a u) (hb : h.size ≤ b) : Sx Z h (b :: Ds) a u := by
  obtain ⟨s, cS, h1, h2, h3, h4, h5, h6, h7⟩ := F
  have l1 : s.sa < h.size := (Array.getElem?_eq_some_iff.mp h2.1.1).1
  have l2 : s.sd < h.size := (Array.getElem?_eq_some_iff.mp h2.1.2.2.2.2.2.2.2.2.2.1).1
  refine ⟨s, cS, h1, h2, h3, h4, h5, fun m => ?_, fun m => ?_⟩
  · rcases List.mem_cons.mp m with e | e
    · exact absurd e (Nat.ne_of_lt (Nat.lt_of_lt_of_le l1 hb))
    · exact h6 e
  · rcases List.mem_cons.mp m with e | e
    · exact absurd e (Nat.ne_of_lt (Nat.lt_of_lt_of_le l2 hb))
    · exact h7 e
def Lk (Z : State) : Prop := ∀ (own : String) (idx : Nat), (own, idx) ∈ CL → ∃ (a0 : Array Value) (text : String), (Jvm.Cond.stringLink own idx text).before a0 Z = true ∧ (∀ c ∈ text.toList, c.toNat < 256) ∧ ∀ d ∈ Bundle.stringAtoms, d.before a0 Z = true
def JJ (Z : State) (n0 : Nat) (vm : Vm) (h : Heap) (Ds : List Addr) : Prop :=
  Old Z n0 h ∧ (NL = true → Z.WarmedH vm) ∧ (∀ x ∈ Ds, n0 ≤ x ∧ x < h.size) ∧ Lk Z ∧
    ∀ (own : String) (idx : Nat), (own, idx) ∈ CL → ∀ (c : ClassId) (k : Class) (cf : ClassFile) (i : Nat) (units : Array UInt16) (a : Addr), vm.findClass own = some c → vm.classes[c]? = some k → k.cf = some cf →
      cf.constantPool[idx]? = some (.string i) → cf.constantPool[i]? = some (.utf8 units) →
      (k.resolved[idx]? = some (some (.string a)) ∨ (k.resolved[idx]? = some none ∧ vm.interned.find? (fun p => p.1 == units) = some (units, a))) → Sx Z h Ds a units
theorem JJ.keep {Z : State} {n0 : Nat} {vm : Vm} {h h' : Heap} {Ds ws : List Addr} (J : JJ Z n0 vm h Ds) (K : Keep h h' ws) (q : ∀ x ∈ ws, x ∈ Ds) : JJ Z n0 vm h' Ds :=
  ⟨J.1.keep K (fun x hx => (J.2.2.1 x (q x hx)).1), J.2.1, fun x hx => ⟨(J.2.2.1 x hx).1, Nat.lt_of_lt_of_le (J.2.2.1 x hx).2 K.1⟩, J.2.2.2.1, fun o i hm c k cf j u a q1 q2 q3 q4 q5 q6 => (J.2.2.2.2 o i hm c k cf j u a q1 q2 q3 q4 q5 q6).keep K q⟩
theorem JJ.ext {Z : State} {n0 : Nat} {vm : Vm} {h h' : Heap} {Ds : List Addr} (J : JJ Z n0 vm h Ds) (E : Ext h h') : JJ Z n0 vm h' Ds := J.keep ((Keep.refl h []).ext E) (fun x hx => nomatch hx)
theorem JJ.less {Z : State} {n0 : Nat} {vm : Vm} {h : Heap} {Ds Ds' : List Addr} (J : JJ Z n0 vm h Ds) (q : ∀ x ∈ Ds', x ∈ Ds) : JJ Z n0 vm h Ds' :=
  ⟨J.1, J.2.1, fun x hx => J.2.2.1 x (q x hx), J.2.2.2.1, fun o i hm c k cf j u a q1 q2 q3 q4 q5 q6 => (J.2.2.2.2 o i hm c k cf j u a q1 q2 q3 q4 q5 q6).less q⟩
theorem own_n0 {Z : State} {n0 : Nat} {h : Heap} (X : Old Z n0 h) : n0 ≤ h.size := X.1 ▸ X.2.1
theorem JJ.born {Z : State} {n0 : Nat} {vm : Vm} {h h' : Heap} {Ds : List Addr} (J : JJ Z n0 vm h Ds) (E : Ext h h') (hb : h.size < h'.size) : JJ Z n0 vm h' (h.size :: Ds) := by
  refine ⟨J.1.ext E, J.2.1, fun x hx => ?_, J.2.2.2.1, fun o i hm c k cf j u a q1 q2 q3 q4 q5 q6 => ((J.2.2.2.2 o i hm c k cf j u a q1 q2 q3 q4 q5 q6).more (Nat.le_refl _)).keep ((Keep.refl h []).ext E) (fun x hx => nomatch hx)⟩
  rcases List.mem_cons.mp hx with e | e
  · subst e; exact ⟨own_n0 J.1, hb⟩
  · exact ⟨(J.2.2.1 x e).1, Nat.lt_of_lt_of_le (J.2.2.1 x e).2 E.1⟩
theorem JJ.step {Z t : State} {n0 : Nat} {vm' : Vm} {h : Heap} {Ds : List Addr} (J : JJ Z n0 t.vm h Ds) (hZ : Z.Warmed39 t.vm) (hW : t.Warmed39 vm')
    (hint : vm'.interned = t.vm.interned ∨ ∃ (u : Array UInt16) (a' : Addr), vm'.interned = t.vm.interned.push (u, a') ∧ (t.vm.interned.find? (fun p => p.1 == u) = none → Sx Z h Ds a' u)) (hcl : NL = true → Z.WarmedH vm') : JJ Z n0 vm' h Ds := by
  refine ⟨J.1, hcl, J.2.2.1, J.2.2.2.1, fun own idx hm c k' cf i units a hc' hk' hcf' hp hu hor => ?_⟩
  obtain ⟨a0, text, w, hlat, -⟩ := J.2.2.2.1 own idx hm
  have hal : t.vm.Alike vm' := hW.alike
  have hc : t.vm.findClass own = some c := by rw [← hal.findClass]; exact hc'
  have wt : (Jvm.Cond.stringLink own idx text).before a0 t = true := mvS (s := t) (vm0 := t.vm) hZ w
  obtain ⟨k, cf0, i0, units0, hk, hcf, hp0, hu0, hnm, htext, -⟩ := Cond.stringLink_spec hc wt
  obtain ⟨k'', hk'', hke, -, ee, -⟩ := hW.2.2.2 c k hk
  cases hk'.symm.trans hk''
  have hcfk : k'.cf = k.cf := by rw [hke]
  cases (hcfk ▸ hcf').symm.trans hcf
  cases hp.symm.trans hp0
  cases hu.symm.trans hu0
  have base := fun a => J.2.2.2.2 own idx hm c k cf i units a hc hk hcf hp hu
  have hfind : ∀ a, vm'.interned.find? (fun p => p.1 == units) = some (units, a) → k.resolved[idx]? = some none → Sx Z h Ds a units := by
    intro a hf hop
    rcases hint with e | ⟨u, a', e, hS⟩
    · rw [e] at hf; exact base a (Or.inr ⟨hop, hf⟩)
    · rw [e, Array.find?_push] at hf
      cases hs : t.vm.interned.find? (fun p => p.1 == units) with
      | some pr =>
        rw [hs] at hf
        have hpr : pr = (units, a) := by simpa using hf
        exact base a (Or.inr ⟨hop, by rw [hs, hpr]⟩)
      | none =>
        rw [hs, Option.none_or] at hf
        by_cases hb : (u == units) = true
        · have hu' : u = units := by simpa using hb
          subst hu'
          have : a' = a := by simpa using hf
          subst this
          exact hS hs
        · simp [hb] at hf
  rcases ee idx with e0 | ⟨hop, r, e1, hr | ⟨a3, t', si, us, rfl, -, q3, q4, q5⟩⟩
  · rcases hor with h0 | ⟨h0, hf⟩
    · exact base a (Or.inl (e0 ▸ h0))
    · exact hfind a hf (e0 ▸ h0)
  · exfalso
    cases r <;> simp [State.rightAt, hk, hcf, hnm] at hr
  · rw [hcf] at q3 q4
    have e3 : si = i := by
      have := q3.symm.trans hp
      simpa using this
    subst e3
    have e4 : us = units := by simpa [ConstantPool.utf8?, hu] using q4.symm
    subst e4
    rcases hor with h0 | ⟨h0, -⟩
    · have ea : a3 = a := by have := e1.symm.trans h0; simpa using this
      subst ea
      exact hfind a3 q5 hop
    · have := e1.symm.trans h0; simp at this
theorem JJ.warm {Z t : State} {n0 : Nat} {vm' : Vm} {h : Heap} {Ds : List Addr} (J : JJ Z n0 t.vm h Ds) (hZ : Z.Warmed39 t.vm) (hW : t.WarmedH vm') : JJ Z n0 vm' h Ds :=
  J.step hZ hW.wide (Or.inl hW.interned_eq) (fun e => State.WarmedH.trans (J.2.1 e) hW)
abbrev Cx : Type := Program × Launch × Env × State × MethodId × Array Value × List Frame × Method × Code × State
abbrev Cx.p (C : Cx) : Program := C.1
abbrev Cx.l (C : Cx) : Launch := C.2.1
abbrev Cx.e (C : Cx) : Env := C.2.2.1
abbrev Cx.s (C : Cx) : State := C.2.2.2.1
abbrev Cx.m (C : Cx) : MethodId := C.2.2.2.2.1
abbrev Cx.args (C : Cx) : Array Value := C.2.2.2.2.2.1
abbrev Cx.below (C : Cx) : List Frame := C.2.2.2.2.2.2.1
abbrev Cx.meth (C : Cx) : Method := C.2.2.2.2.2.2.2.1
abbrev Cx.c (C : Cx) : Code := C.2.2.2.2.2.2.2.2.1
abbrev Cx.s0 (C : Cx) : State := C.2.2.2.2.2.2.2.2.2
/-- the run has come to pc -/
def Rc (C : Cx) (R : Room) (own : String) (bs : ByteArray) (ml : Nat) (Z : State) (n0 ce sl pc : Nat) (Ls : Array Slot) (S : List Value) (h : Heap) (Ds : List Addr) : Prop :=
  ∃ (T : State) (locs : List Loc) (vm0 : Vm) (k0 : Nat), Stand C.p C.l C.e R (C.s.setVm vm0) C.m C.args C.below C.meth C.c T locs ce sl ∧ C.s.Since vm0 k0 ∧ k0 ≤ h.size ∧ Z.Warmed39 vm0 ∧ JJ Z n0 vm0 h Ds ∧ T.heap = h ∧ Fr n0 locs ∧
    (C.p.tables.exec = Jvm.exec ∧ C.c.code = bs ∧ C.c.maxLocals = ml ∧ vm0.findClass own = some C.m.cls ∧ C.meth.locks = false) ∧
    ∀ t, Steps C.p.tables C.e C.below (T.setTop (mkF C.m pc Ls S)) t → Steps C.p.tables C.e C.below C.s0 t
/-- the invocation has ended -/
def Done (C : Cx) (Z : State) (n0 : Nat) (Q : Option Value → Heap → List Addr → Prop) (kc ks : Nat) : Prop :=
  ∃ (t : State) (o : Outcome), Steps C.p.tables C.e C.below C.s0 t ∧ t.status = .running ∧ Ended t C.below o ∧ ∃ (v : Option Value) (L : List Loc) (Ds : List Addr), o = .returned v ∧ Q v t.heap Ds ∧ JJ Z n0 t.vm t.heap Ds ∧ Fr n0 L ∧ ReturnedEndW C.s o t L kc ks
/-- a contract -/
def Ctr (l : Launch) (Z : State) (y : MethodName) (bytes : ByteArray) (maxL : Nat) (ret : Option FieldType) (ws : List Jvm.Cond) (rm : Room) (as' : Array Value) (h : Heap) (n0 : Nat) (Ds : List Addr) (Q : Option Value → Heap → List Addr → Prop) : Prop :=
  MetFree l y (head1 (Jvm.Cond.code y bytes maxL ret :: ws) rm) (fun a U => a = as' ∧ Z.Warmed39 U.vm ∧ U.heap = h ∧ JJ Z n0 U.vm h Ds) (fun _ _ _ _ _ => True)
    (fun _ U o U' => ∃ (v : Option Value) (L : List Loc) (Ds' : List Addr), o = .returned v ∧ Q v U'.heap Ds' ∧ JJ Z n0 U'.vm U'.heap Ds' ∧ Fr n0 L ∧ ReturnedEndW U o U' L rm.cells rm.slots)
theorem ctr_of {l : Launch} {Z : State} {y : MethodName} {bytes : ByteArray} {maxL : Nat} {ret : Option FieldType} {ws : List Jvm.Cond} {rm : Room} {as' : Array Value} {h : Heap} {n0 : Nat} {Ds : List Addr} {Q : Option Value → Heap → List Addr → Prop} {Ls : Array Slot}
    (pf : plainFor y = true) (ef : ∀ m : MethodId, entryFrame m as' maxL = mkF m 0 Ls [])
    (wk : ∀ C : Cx, C.l = l → C.meth.sig.returnType = ret → C.meth.name = y.name → Rc C rm y.cls bytes maxL Z n0 0 0 0 Ls [] h Ds → Done C Z n0 Q rm.cells rm.slots) : Ctr l Z y bytes maxL ret ws rm as' h n0 Ds Q := by
  refine MetFree.of_bodySF pf hisR ?_
  intro p e s m args below meth c s₁ Bd hml0 hP hK
  obtain ⟨rfl, hZ, hh, hJ⟩ := hP
  have X0 : Stand p l e rm s m args below meth c s₁ [] 0 0 := Stand.of_body Bd
  have e0 : s₁.heap = h := by rw [← hh, Bd.state]; rfl
  have hown : s.vm.findClass y.cls = some m.cls := findClass_of_methodNamed Bd.named
  have hnm := (name_of_methodNamed Bd.named Bd.method).1
  have hlk : meth.locks = false := BodyLoose.notSynchronized Bd
  exact wk (p, l, e, s, m, args, below, meth, c, s₁.setTop (entryFrame m args maxL)) rfl Bd.returns hnm
    ⟨s₁, [], s.vm, 0, X0, (State.WarmedH.refl s).since 0, Nat.zero_le _, hZ, hJ, e0, Fr.nil n0, ⟨Bd.exec, Bd.bytes, hml0, hown, hlk⟩, fun t k => castTop (ef m) k⟩
theorem ctrBack {l : Launch} {R : Room} {p : Program} {e : Env} {below : List Frame} {s : State} {args : Array Value} {Z : State} {a0 : Array Value} {h : Heap} {n0 : Nat} {Ds : List Addr} {y : MethodName} {bytes : ByteArray} {maxL : Nat} {ret : Option FieldType} {rm : Room} {len W : Nat} {as' : Array Value} {Q : Option Value → Heap → List Addr → Prop}
    (hM : Ctr l Z y bytes maxL ret [] rm as' h n0 Ds Q) (hZ : Z.Warmed39 s.vm) (hJ : JJ Z n0 s.vm h Ds) (wc : (Jvm.Cond.code y bytes maxL ret).before a0 Z = true) (wz : (Jvm.Cond.initialized y.cls).before a0 Z = true) (hf : rm.frames + 1 ≤ R.frames) (hl : W + (maxL + 11) + rm.locals ≤ R.locals) :
    BackS l R p e below s args y len W (fun A a => a = as' ∧ A.U.heap = h ∧ A.cells + rm.cells ≤ R.cells ∧ A.slots + rm.slots ≤ R.slots)
      (fun A _ v B => ∃ (L : List Loc) (Ds' : List Addr), Q v B.U.heap Ds' ∧ JJ Z n0 B.U.vm B.U.heap Ds' ∧ Fr n0 L ∧ B.locs = A.locs ++ L ∧ B.cells = A.cells + rm.cells ∧ B.slots = A.slots + rm.slots) :=
  BackS.of_freeW (bytes := bytes) (maxL := maxL) (ret := ret) (E := fun _ _ o t L k n => k = rm.cells ∧ n = rm.slots ∧ ∃ (v : Option Value) (Ds' : List Addr), o = .returned v ∧ Q v t.heap Ds' ∧ JJ Z n0 t.vm t.heap Ds' ∧ Fr n0 L) hM hf hl
    (fun m meth c A a Y hp => have hU : Z.Warmed39 A.U.vm := wtrans hZ Y.warmed
      ⟨by show (Jvm.Cond.and _ .tt).before a A.U = true; rw [Cond.before_and, mv hU wc]; rfl, mv hU wc, mv hU wz, hp.2.2.1, hp.2.2.2⟩)
    (fun m meth c A a g mk Y hp => ⟨hp.1, wtrans hZ Y.warmed, hp.2.1, hJ.warm hZ Y.warmed⟩) (fun _ _ _ _ _ _ _ _ _ => trivial)
    (fun _ _ _ _ ⟨v, L, Ds', h1, h2, h3, h4, h5⟩ => ⟨L, _, _, h5, rfl, rfl, v, Ds', h1, h2, h3, h4⟩)
    (fun m meth c A a g mk v t L k n Y hp _ _ ⟨e1, e2, v', Ds', e3, e4, e5, e6⟩ => by cases e3; subst e1 e2; exact ⟨L, Ds', e4, e5, e6, rfl, rfl, rfl⟩)
variable {C : Cx} {R : Room} {own : String} {bs : ByteArray} {ml : Nat} {Z : State} {n0 ce sl pc : Nat} {Ls : Array Slot} {S rest : List Value} {h : Heap} {Ds : List Addr} {a0 : Array Value}
theorem Rc.go {pc' : Nat} {Ls' : Array Slot} {S' : List Value} (H : Rc C R own bs ml Z n0 ce sl pc Ls S h Ds) (f : ∀ T t, At T C.m C.c C.below → C.p.tables.exec = Jvm.exec → C.c.code = bs → Steps C.p.tables C.e C.below (T.setTop (mkF C.m pc' Ls' S')) t → Steps C.p.tables C.e C.below (T.setTop (mkF C.m pc Ls S)) t) : Rc C R own bs ml Z n0 ce sl pc' Ls' S' h Ds := by
  obtain ⟨T, locs, vm0, k0, X, h1, h2, h3, h4, h5, h6, h7, k⟩ := H
  exact ⟨T, locs, vm0, k0, X, h1, h2, h3, h4, h5, h6, h7, fun t ht => k _ (f T t X.here h7.1 h7.2.1 ht)⟩
theorem Rc.goX {pc' : Nat} {Ls' : Array Slot} {S' : List Value} (H : Rc C R own bs ml Z n0 ce sl pc Ls S h Ds) (f : ∀ (s : State) (T : State) (locs : List Loc) t, Stand C.p C.l C.e R s C.m C.args C.below C.meth C.c T locs ce sl → Z.Warmed39 s.vm → s.vm.findClass own = some C.m.cls → T.heap = h → C.p.tables.exec = Jvm.exec → C.c.code = bs → Steps C.p.tables C.e C.below (T.setTop (mkF C.m pc' Ls' S')) t → Steps C.p.tables C.e C.below (T.setTop (mkF C.m pc Ls S)) t) : Rc C R own bs ml Z n0 ce sl pc' Ls' S' h Ds := by
  obtain ⟨T, locs, vm0, k0, X, h1, h2, h3, h4, h5, h6, h7, k⟩ := H
  exact ⟨T, locs, vm0, k0, X, h1, h2, h3, h4, h5, h6, h7, fun t ht => k _ (f _ T locs t X h3 h7.2.2.2.1 h5 h7.1 h7.2.1 ht)⟩
theorem Rc.stk {S' : List Value} (H : Rc C R own bs ml Z n0 ce sl pc Ls S h Ds) (e : S = S') : Rc C R own bs ml Z n0 ce sl pc Ls S' h Ds := e ▸ H
theorem Rc.loc {Ls' : Array Slot} (H : Rc C R own bs ml Z n0 ce sl pc Ls S h Ds) (e : Ls = Ls') : Rc C R own bs ml Z n0 ce sl pc Ls' S h Ds := e ▸ H
theorem Rc.old (H : Rc C R own bs ml Z n0 ce sl pc Ls S h Ds) : Old Z n0 h := by
  obtain ⟨T, locs, vm0, k0, X, h1, h2, h3, h4, h5, h6, h7, k⟩ := H
  exact h4.1
theorem Rc.mem (H : Rc C R own bs ml Z n0 ce sl pc Ls S h Ds) {x : Addr} (hx : x ∈ Ds) : n0 ≤ x ∧ x < h.size := by
  obtain ⟨T, locs, vm0, k0, X, h1, h2, h3, h4, h5, h6, h7, k⟩ := H
  exact h4.2.2.1 x hx
theorem Rc.mono {ce' sl' : Nat} (H : Rc C R own bs ml Z n0 ce sl pc Ls S h Ds) (h1 : ce ≤ ce') (h2 : sl ≤ sl') : Rc C R own bs ml Z n0 ce' sl' pc Ls S h Ds := by
  obtain ⟨T, locs, vm0, k0, X, r⟩ := H
  exact ⟨T, locs, vm0, k0, X.mono h1 h2, r⟩
theorem Rc.less {Ds' : List Addr} (H : Rc C R own bs ml Z n0 ce sl pc Ls S h Ds) (q : ∀ x ∈ Ds', x ∈ Ds) : Rc C R own bs ml Z n0 ce sl pc Ls S h Ds' := by
  obtain ⟨T, locs, vm0, k0, X, h1, h2, h3, h4, r⟩ := H
  exact ⟨T, locs, vm0, k0, X, h1, h2, h3, h4.less q, r⟩
theorem Rc.iload {pc' : Nat} {k : Nat} {v : Int32} (H : Rc C R own bs ml Z n0 ce sl pc Ls S h Ds) (hd : decode bs pc = .ok (.iload k, 2)) (hl : Ls[k]? = some (.val (.int v))) (hp : pc + 2 = pc') : Rc C R own bs ml Z n0 ce sl pc' Ls (.int v :: S) h Ds := by
  subst hp
  exact H.go fun T t hA hx hby kk => XS.iload hA hx rfl (hb hby hd) hl kk
theorem Rc.iloadN {pc' : Nat} {k : Fin 4} {v : Int32} (H : Rc C R own bs ml Z n0 ce sl pc Ls S h Ds) (hd : decode bs pc = .ok (.iload_n k, 1)) (hl : Ls[k.val]? = some (.val (.int v))) (hp : pc + 1 = pc') : Rc C R own bs ml Z n0 ce sl pc' Ls (.int v :: S) h Ds := by
  subst hp
  exact H.go fun T t hA hx hby kk => XS.iloadN hA hx rfl (hb hby hd) hl kk
theorem Rc.aload {pc' : Nat} {k : Nat} {v : Value} (H : Rc C R own bs ml Z n0 ce sl pc Ls S h Ds) (hd : decode bs pc = .ok (.aload k, 2)) (hl : Ls[k]? = some (.val v)) (hv : v.isRef = true) (hp : pc + 2 = pc') : Rc C R own bs ml Z n0 ce sl pc' Ls (v :: S) h Ds := by
  subst hp
  exact H.go fun T t hA hx hby kk => XS.aload hA hx rfl (hb hby hd) hl hv kk
theorem Rc.aloadN {pc' : Nat} {k : Fin 4} {v : Value} (H : Rc C R own bs ml Z n0 ce sl pc Ls S h Ds) (hd : decode bs pc = .ok (.aload_n k, 1)) (hl : Ls[k.val]? = some (.val v)) (hv : v.isRef = true) (hp : pc + 1 = pc') : Rc C R own bs ml Z n0 ce sl pc' Ls (v :: S) h Ds := by
  subst hp
  exact H.go fun T t hA hx hby kk => XS.aloadN hA hx rfl (hb hby hd) hl hv kk
theorem Rc.lload {pc' : Nat} {k : Nat} {v : Int64} (H : Rc C R own bs ml Z n0 ce sl pc Ls S h Ds) (hd : decode bs pc = .ok (.lload k, 2)) (hl : Ls[k]? = some (.val (.long v))) (hp : pc + 2 = pc') : Rc C R own bs ml Z n0 ce sl pc' Ls (.long v :: S) h Ds := by
  subst hp
  exact H.go fun T t hA hx hby kk => XS.lload hA hx rfl (hb hby hd) hl kk
theorem Rc.lloadN {pc' : Nat} {k : Fin 4} {v : Int64} (H : Rc C R own bs ml Z n0 ce sl pc Ls S h Ds) (hd : decode bs pc = .ok (.lload_n k, 1)) (hl : Ls[k.val]? = some (.val (.long v))) (hp : pc + 1 = pc') : Rc C R own bs ml Z n0 ce sl pc' Ls (.long v :: S) h Ds := by
  subst hp
  exact H.go fun T t hA hx hby kk => XS.lloadN hA hx rfl (hb hby hd) hl kk
theorem Rc.istore {pc' : Nat} {k : Nat} {x : Int32} {l' : Array Slot} (H : Rc C R own bs ml Z n0 ce sl pc Ls (.int x :: rest) h Ds) (hd : decode bs pc = .ok (.istore k, 2)) (hl : storeLocals Ls k (.int x) = some l') (hp : pc + 2 = pc') : Rc C R own bs ml Z n0 ce sl pc' l' rest h Ds := by
  subst hp
  exact H.go fun T t hA hx hby kk => XS.istore hA hx rfl (hb hby hd) rfl hl kk
theorem Rc.istoreN {pc' : Nat} {k : Fin 4} {x : Int32} {l' : Array Slot} (H : Rc C R own bs ml Z n0 ce sl pc Ls (.int x :: rest) h Ds) (hd : decode bs pc = .ok (.istore_n k, 1)) (hl : storeLocals Ls k.val (.int x) = some l') (hp : pc + 1 = pc') : Rc C R own bs ml Z n0 ce sl pc' l' rest h Ds := by
  subst hp
  exact H.go fun T t hA hx hby kk => XS.istoreN hA hx rfl (hb hby hd) rfl hl kk
theorem Rc.astore {pc' : Nat} {k : Nat} {x : Value} {l' : Array Slot} (H : Rc C R own bs ml Z n0 ce sl pc Ls (x :: rest) h Ds) (hd : decode bs pc = .ok (.astore k, 2)) (hv : x.isRef = true) (hl : storeLocals Ls k x = some l') (hp : pc + 2 = pc') : Rc C R own bs ml Z n0 ce sl pc' l' rest h Ds := by
  subst hp
  exact H.go fun T t hA hx hby kk => XS.astore hA hx rfl (hb hby hd) rfl hv hl kk
theorem Rc.astoreN {pc' : Nat} {k : Fin 4} {x : Value} {l' : Array Slot} (H : Rc C R own bs ml Z n0 ce sl pc Ls (x :: rest) h Ds) (hd : decode bs pc = .ok (.astore_n k, 1)) (hv : x.isRef = true) (hl : storeLocals Ls k.val x = some l') (hp : pc + 1 = pc') : Rc C R own bs ml Z n0 ce sl pc' l' rest h Ds := by
  subst hp
  exact H.go fun T t hA hx hby kk => XS.astoreN hA hx rfl (hb hby hd) rfl hv hl kk
theorem Rc.lstore {pc' : Nat} {k : Nat} {x : Int64} {l' : Array Slot} (H : Rc C R own bs ml Z n0 ce sl pc Ls (.long x :: rest) h Ds) (hd : decode bs pc = .ok (.lstore k, 2)) (hl : storeLocals Ls k (.long x) = some l') (hp : pc + 2 = pc') : Rc C R own bs ml Z n0 ce sl pc' l' rest h Ds := by
  subst hp
  exact H.go fun T t hA hx hby kk => XS.lstore hA hx rfl (hb hby hd) rfl hl kk
theorem Rc.lstoreN {pc' : Nat} {k : Fin 4} {x : Int64} {l' : Array Slot} (H : Rc C R own bs ml Z n0 ce sl pc Ls (.long x :: rest) h Ds) (hd : decode bs pc = .ok (.lstore_n k, 1)) (hl : storeLocals Ls k.val (.long x) = some l') (hp : pc + 1 = pc') : Rc C R own bs ml Z n0 ce sl pc' l' rest h Ds := by
  subst hp
  exact H.go fun T t hA hx hby kk => XS.lstoreN hA hx rfl (hb hby hd) rfl hl kk
theorem Rc.iconst {pc' : Nat} {i : Int} {z : Int32} (H : Rc C R own bs ml Z n0 ce sl pc Ls S h Ds) (hd : decode bs pc = .ok (.iconst i, 1)) (hz : Int32.ofInt i = z) (hp : pc + 1 = pc') : Rc C R own bs ml Z n0 ce sl pc' Ls (.int z :: S) h Ds := by
  subst hp hz
  exact H.go fun T t hA hx hby kk => XS.iconst hA hx rfl (hb hby hd) kk
theorem Rc.bipush {pc' : Nat} {i : Int} {z : Int32} (H : Rc C R own bs ml Z n0 ce sl pc Ls S h Ds) (hd : decode bs pc = .ok (.bipush i, 2)) (hz : (Int8.ofInt i).toInt32 = z) (hp : pc + 2 = pc') : Rc C R own bs ml Z n0 ce sl pc' Ls (.int z :: S) h Ds := by
  subst hp hz
  exact H.go fun T t hA hx hby kk => XS.bipush hA hx rfl (hb hby hd) kk
theorem Rc.sipush {pc' : Nat} {i : Int} {z : Int32} (H : Rc C R own bs ml Z n0 ce sl pc Ls S h Ds) (hd : decode bs pc = .ok (.sipush i, 3)) (hz : (Int16.ofInt i).toInt32 = z) (hp : pc + 3 = pc') : Rc C R own bs ml Z n0 ce sl pc' Ls (.int z :: S) h Ds := by
  subst hp hz
  exact H.go fun T t hA hx hby kk => XS.sipush hA hx rfl (hb hby hd) kk
theorem Rc.lconst {pc' : Nat} {i : Fin 2} {z : Int64} (H : Rc C R own bs ml Z n0 ce sl pc Ls S h Ds) (hd : decode bs pc = .ok (.lconst i, 1)) (hz : Int64.ofNat i = z) (hp : pc + 1 = pc') : Rc C R own bs ml Z n0 ce sl pc' Ls (.long z :: S) h Ds := by
  subst hp hz
  exact H.go fun T t hA hx hby kk => XS.lconst hA hx rfl (hb hby hd) kk
theorem Rc.anull {pc' : Nat}  (H : Rc C R own bs ml Z n0 ce sl pc Ls S h Ds) (hd : decode bs pc = .ok (.aconst_null, 1)) (hp : pc + 1 = pc') : Rc C R own bs ml Z n0 ce sl pc' Ls (.null :: S) h Ds := by
  subst hp
  exact H.go fun T t hA hx hby kk => XS.aconstNull hA hx rfl (hb hby hd) kk
theorem Rc.iadd {pc' : Nat} {x y : Int32} (H : Rc C R own bs ml Z n0 ce sl pc Ls (.int y :: .int x :: rest) h Ds) (hd : decode bs pc = .ok (.iadd, 1)) (hp : pc + 1 = pc') : Rc C R own bs ml Z n0 ce sl pc' Ls (.int (x + y) :: rest) h Ds := by
  subst hp
  exact H.go fun T t hA hx hby kk => XS.iadd hA hx rfl (hb hby hd) rfl kk
theorem Rc.ladd {pc' : Nat} {x y : Int64} (H : Rc C R own bs ml Z n0 ce sl pc Ls (.long y :: .long x :: rest) h Ds) (hd : decode bs pc = .ok (.ladd, 1)) (hp : pc + 1 = pc') : Rc C R own bs ml Z n0 ce sl pc' Ls (.long (x + y) :: rest) h Ds := by
  subst hp
  exact H.go fun T t hA hx hby kk => XS.ladd hA hx rfl (hb hby hd) rfl kk
theorem Rc.isub {pc' : Nat} {x y : Int32} (H : Rc C R own bs ml Z n0 ce sl pc Ls (.int y :: .int x :: rest) h Ds) (hd : decode bs pc = .ok (.isub, 1)) (hp : pc + 1 = pc') : Rc C R own bs ml Z n0 ce sl pc' Ls (.int (x - y) :: rest) h Ds := by
  subst hp
  exact H.go fun T t hA hx hby kk => XS.isub hA hx rfl (hb hby hd) rfl kk
theorem Rc.lsub {pc' : Nat} {x y : Int64} (H : Rc C R own bs ml Z n0 ce sl pc Ls (.long y :: .long x :: rest) h Ds) (hd : decode bs pc = .ok (.lsub, 1)) (hp : pc + 1 = pc') : Rc C R own bs ml Z n0 ce sl pc' Ls (.long (x - y) :: rest) h Ds := by
  subst hp
  exact H.go fun T t hA hx hby kk => XS.lsub hA hx rfl (hb hby hd) rfl kk
theorem Rc.imul {pc' : Nat} {x y : Int32} (H : Rc C R own bs ml Z n0 ce sl pc Ls (.int y :: .int x :: rest) h Ds) (hd : decode bs pc = .ok (.imul, 1)) (hp : pc + 1 = pc') : Rc C R own bs ml Z n0 ce sl pc' Ls (.int (x * y) :: rest) h Ds := by
  subst hp
  exact H.go fun T t hA hx hby kk => XS.imul hA hx rfl (hb hby hd) rfl kk
theorem Rc.lmul {pc' : Nat} {x y : Int64} (H : Rc C R own bs ml Z n0 ce sl pc Ls (.long y :: .long x :: rest) h Ds) (hd : decode bs pc = .ok (.lmul, 1)) (hp : pc + 1 = pc') : Rc C R own bs ml Z n0 ce sl pc' Ls (.long (x * y) :: rest) h Ds := by
  subst hp
  exact H.go fun T t hA hx hby kk => XS.lmul hA hx rfl (hb hby hd) rfl kk
theorem Rc.iand {pc' : Nat} {x y : Int32} (H : Rc C R own bs ml Z n0 ce sl pc Ls (.int y :: .int x :: rest) h Ds) (hd : decode bs pc = .ok (.iand, 1)) (hp : pc + 1 = pc') : Rc C R own bs ml Z n0 ce sl pc' Ls (.int (x &&& y) :: rest) h Ds := by
  subst hp
  exact H.go fun T t hA hx hby kk => XS.iand hA hx rfl (hb hby hd) rfl kk
theorem Rc.land {pc' : Nat} {x y : Int64} (H : Rc C R own bs ml Z n0 ce sl pc Ls (.long y :: .long x :: rest) h Ds) (hd : decode bs pc = .ok (.land, 1)) (hp : pc + 1 = pc') : Rc C R own bs ml Z n0 ce sl pc' Ls (.long (x &&& y) :: rest) h Ds := by
  subst hp
  exact H.go fun T t hA hx hby kk => XS.land hA hx rfl (hb hby hd) rfl kk
theorem Rc.ior {pc' : Nat} {x y : Int32} (H : Rc C R own bs ml Z n0 ce sl pc Ls (.int y :: .int x :: rest) h Ds) (hd : decode bs pc = .ok (.ior, 1)) (hp : pc + 1 = pc') : Rc C R own bs ml Z n0 ce sl pc' Ls (.int (x ||| y) :: rest) h Ds := by
  subst hp
  exact H.go fun T t hA hx hby kk => XS.ior hA hx rfl (hb hby hd) rfl kk
theorem Rc.lor {pc' : Nat} {x y : Int64} (H : Rc C R own bs ml Z n0 ce sl pc Ls (.long y :: .long x :: rest) h Ds) (hd : decode bs pc = .ok (.lor, 1)) (hp : pc + 1 = pc') : Rc C R own bs ml Z n0 ce sl pc' Ls (.long (x ||| y) :: rest) h Ds := by
  subst hp
  exact H.go fun T t hA hx hby kk => XS.lor hA hx rfl (hb hby hd) rfl kk
theorem Rc.ixor {pc' : Nat} {x y : Int32} (H : Rc C R own bs ml Z n0 ce sl pc Ls (.int y :: .int x :: rest) h Ds) (hd : decode bs pc = .ok (.ixor, 1)) (hp : pc + 1 = pc') : Rc C R own bs ml Z n0 ce sl pc' Ls (.int (x ^^^ y) :: rest) h Ds := by
  subst hp
  exact H.go fun T t hA hx hby kk => XS.ixor hA hx rfl (hb hby hd) rfl kk
theorem Rc.lxor {pc' : Nat} {x y : Int64} (H : Rc C R own bs ml Z n0 ce sl pc Ls (.long y :: .long x :: rest) h Ds) (hd : decode bs pc = .ok (.lxor, 1)) (hp : pc + 1 = pc') : Rc C R own bs ml Z n0 ce sl pc' Ls (.long (x ^^^ y) :: rest) h Ds := by
  subst hp
  exact H.go fun T t hA hx hby kk => XS.lxor hA hx rfl (hb hby hd) rfl kk
theorem Rc.ishl {pc' : Nat} {x : Int32} {y : Int32} (H : Rc C R own bs ml Z n0 ce sl pc Ls (.int y :: .int x :: rest) h Ds) (hd : decode bs pc = .ok (.ishl, 1)) (hp : pc + 1 = pc') : Rc C R own bs ml Z n0 ce sl pc' Ls (.int (x <<< (y &&& 31)) :: rest) h Ds := by
  subst hp
  exact H.go fun T t hA hx hby kk => XS.ishl hA hx rfl (hb hby hd) rfl kk
theorem Rc.ishr {pc' : Nat} {x : Int32} {y : Int32} (H : Rc C R own bs ml Z n0 ce sl pc Ls (.int y :: .int x :: rest) h Ds) (hd : decode bs pc = .ok (.ishr, 1)) (hp : pc + 1 = pc') : Rc C R own bs ml Z n0 ce sl pc' Ls (.int (x >>> (y &&& 31)) :: rest) h Ds := by
  subst hp
  exact H.go fun T t hA hx hby kk => XS.ishr hA hx rfl (hb hby hd) rfl kk
theorem Rc.iushr {pc' : Nat} {x : Int32} {y : Int32} (H : Rc C R own bs ml Z n0 ce sl pc Ls (.int y :: .int x :: rest) h Ds) (hd : decode bs pc = .ok (.iushr, 1)) (hp : pc + 1 = pc') : Rc C R own bs ml Z n0 ce sl pc' Ls (.int ((x.toUInt32 >>> (y &&& 31).toUInt32).toInt32) :: rest) h Ds := by
  subst hp
  exact H.go fun T t hA hx hby kk => XS.iushr hA hx rfl (hb hby hd) rfl kk
theorem Rc.lshl {pc' : Nat} {x : Int64} {y : Int32} (H : Rc C R own bs ml Z n0 ce sl pc Ls (.int y :: .long x :: rest) h Ds) (hd : decode bs pc = .ok (.lshl, 1)) (hp : pc + 1 = pc') : Rc C R own bs ml Z n0 ce sl pc' Ls (.long (x <<< (y &&& 0x3f).toInt64) :: rest) h Ds := by
  subst hp
  exact H.go fun T t hA hx hby kk => XS.lshl hA hx rfl (hb hby hd) rfl kk
theorem Rc.lshr {pc' : Nat} {x : Int64} {y : Int32} (H : Rc C R own bs ml Z n0 ce sl pc Ls (.int y :: .long x :: rest) h Ds) (hd : decode bs pc = .ok (.lshr, 1)) (hp : pc + 1 = pc') : Rc C R own bs ml Z n0 ce sl pc' Ls (.long (x >>> (y &&& 0x3f).toInt64) :: rest) h Ds := by
  subst hp
  exact H.go fun T t hA hx hby kk => XS.lshr hA hx rfl (hb hby hd) rfl kk
theorem Rc.lushr {pc' : Nat} {x : Int64} {y : Int32} (H : Rc C R own bs ml Z n0 ce sl pc Ls (.int y :: .long x :: rest) h Ds) (hd : decode bs pc = .ok (.lushr, 1)) (hp : pc + 1 = pc') : Rc C R own bs ml Z n0 ce sl pc' Ls (.long ((x.toUInt64 >>> (y &&& 0x3f).toInt64.toUInt64).toInt64) :: rest) h Ds := by
  subst hp
  exact H.go fun T t hA hx hby kk => XS.lushr hA hx rfl (hb hby hd) rfl kk
theorem Rc.ineg {pc' : Nat} {x : Int32} (H : Rc C R own bs ml Z n0 ce sl pc Ls (.int x :: rest) h Ds) (hd : decode bs pc = .ok (.ineg, 1)) (hp : pc + 1 = pc') : Rc C R own bs ml Z n0 ce sl pc' Ls (.int (-x) :: rest) h Ds := by
  subst hp
  exact H.go fun T t hA hx hby kk => XS.ineg hA hx rfl (hb hby hd) rfl kk
theorem Rc.lneg {pc' : Nat} {x : Int64} (H : Rc C R own bs ml Z n0 ce sl pc Ls (.long x :: rest) h Ds) (hd : decode bs pc = .ok (.lneg, 1)) (hp : pc + 1 = pc') : Rc C R own bs ml Z n0 ce sl pc' Ls (.long (-x) :: rest) h Ds := by
  subst hp
  exact H.go fun T t hA hx hby kk => XS.lneg hA hx rfl (hb hby hd) rfl kk
theorem Rc.i2l {pc' : Nat} {x : Int32} (H : Rc C R own bs ml Z n0 ce sl pc Ls (.int x :: rest) h Ds) (hd : decode bs pc = .ok (.i2l, 1)) (hp : pc + 1 = pc') : Rc C R own bs ml Z n0 ce sl pc' Ls (.long x.toInt64 :: rest) h Ds := by
  subst hp
  exact H.go fun T t hA hx hby kk => XS.i2l hA hx rfl (hb hby hd) rfl kk
theorem Rc.l2i {pc' : Nat} {x : Int64} (H : Rc C R own bs ml Z n0 ce sl pc Ls (.long x :: rest) h Ds) (hd : decode bs pc = .ok (.l2i, 1)) (hp : pc + 1 = pc') : Rc C R own bs ml Z n0 ce sl pc' Ls (.int x.toInt32 :: rest) h Ds := by
  subst hp
  exact H.go fun T t hA hx hby kk => XS.l2i hA hx rfl (hb hby hd) rfl kk
theorem Rc.i2b {pc' : Nat} {x : Int32} (H : Rc C R own bs ml Z n0 ce sl pc Ls (.int x :: rest) h Ds) (hd : decode bs pc = .ok (.i2b, 1)) (hp : pc + 1 = pc') : Rc C R own bs ml Z n0 ce sl pc' Ls (.int x.toInt8.toInt32 :: rest) h Ds := by
  subst hp
  exact H.go fun T t hA hx hby kk => XS.i2b hA hx rfl (hb hby hd) rfl kk
theorem Rc.i2s {pc' : Nat} {x : Int32} (H : Rc C R own bs ml Z n0 ce sl pc Ls (.int x :: rest) h Ds) (hd : decode bs pc = .ok (.i2s, 1)) (hp : pc + 1 = pc') : Rc C R own bs ml Z n0 ce sl pc' Ls (.int x.toInt16.toInt32 :: rest) h Ds := by
  subst hp
  exact H.go fun T t hA hx hby kk => XS.i2s hA hx rfl (hb hby hd) rfl kk
theorem Rc.i2c {pc' : Nat} {x : Int32} (H : Rc C R own bs ml Z n0 ce sl pc Ls (.int x :: rest) h Ds) (hd : decode bs pc = .ok (.i2c, 1)) (hp : pc + 1 = pc') : Rc C R own bs ml Z n0 ce sl pc' Ls (.int x.toUInt32.toUInt16.toUInt32.toInt32 :: rest) h Ds := by
  subst hp
  exact H.go fun T t hA hx hby kk => XS.i2c hA hx rfl (hb hby hd) rfl kk
theorem Rc.lcmp {pc' : Nat} {x y : Int64} (H : Rc C R own bs ml Z n0 ce sl pc Ls (.long y :: .long x :: rest) h Ds) (hd : decode bs pc = .ok (.lcmp, 1)) (hp : pc + 1 = pc') : Rc C R own bs ml Z n0 ce sl pc' Ls (.int (lcmpW x y) :: rest) h Ds := by
  subst hp
  exact H.go fun T t hA hx hby kk => XS.lcmp hA hx rfl (hb hby hd) rfl kk
theorem Rc.idiv {pc' : Nat} {x y : Int32} (H : Rc C R own bs ml Z n0 ce sl pc Ls (.int y :: .int x :: rest) h Ds) (hd : decode bs pc = .ok (.idiv, 1)) (hy : y ≠ 0) (hp : pc + 1 = pc') : Rc C R own bs ml Z n0 ce sl pc' Ls (.int (x / y) :: rest) h Ds := by
  subst hp
  exact H.go fun T t hA hx hby kk => XS.idiv hA hx rfl (hb hby hd) rfl hy kk
theorem Rc.dup {pc' : Nat} {x : Value} (H : Rc C R own bs ml Z n0 ce sl pc Ls (x :: rest) h Ds) (hd : decode bs pc = .ok (.dup, 1)) (hc : x.category = 1) (hp : pc + 1 = pc') : Rc C R own bs ml Z n0 ce sl pc' Ls (x :: x :: rest) h Ds := by
  subst hp
  exact H.go fun T t hA hx hby kk => XS.dup hA hx rfl (hb hby hd) rfl hc kk
theorem Rc.pop {pc' : Nat} {x : Value} (H : Rc C R own bs ml Z n0 ce sl pc Ls (x :: rest) h Ds) (hd : decode bs pc = .ok (.pop, 1)) (hc : x.category = 1) (hp : pc + 1 = pc') : Rc C R own bs ml Z n0 ce sl pc' Ls rest h Ds := by
  subst hp
  exact H.go fun T t hA hx hby kk => XS.pop hA hx rfl (hb hby hd) rfl hc kk
theorem Rc.dupX1 {pc' : Nat} {x y : Value} (H : Rc C R own bs ml Z n0 ce sl pc Ls (x :: y :: rest) h Ds) (hd : decode bs pc = .ok (.dup_x1, 1)) (hc : x.category = 1) (hc' : y.category = 1) (hp : pc + 1 = pc') : Rc C R own bs ml Z n0 ce sl pc' Ls (x :: y :: x :: rest) h Ds := by
  subst hp
  exact H.go fun T t hA hx hby kk => XS.dupX1 hA hx rfl (hb hby hd) rfl hc hc' kk
theorem Rc.iinc {pc' : Nat} {k : Nat} {cst : Int} {x : Int32} {l' : Array Slot} (H : Rc C R own bs ml Z n0 ce sl pc Ls S h Ds) (hd : decode bs pc = .ok (.iinc k cst, 3)) (hl : Ls[k]? = some (.val (.int x))) (hl' : storeLocals Ls k (.int (x + Int32.ofInt cst)) = some l') (hp : pc + 3 = pc') : Rc C R own bs ml Z n0 ce sl pc' l' S h Ds := by
  subst hp
  exact H.go fun T t hA hx hby kk => XS.iinc hA hx rfl (hb hby hd) hl hl' kk
theorem Rc.irem {pc' : Nat} {x y : Int32} (H : Rc C R own bs ml Z n0 ce sl pc Ls (.int y :: .int x :: rest) h Ds) (hd : decode bs pc = .ok (.irem, 1)) (hy : y ≠ 0) (hp : pc + 1 = pc') : Rc C R own bs ml Z n0 ce sl pc' Ls (.int (x % y) :: rest) h Ds := by
  subst hp
  exact H.goX fun s T locs t X hZ hown eT hx hby kk => iremM X hx rfl (hb hby hd) rfl hy kk
theorem Rc.goto {pc' : Nat} {o : Int} (H : Rc C R own bs ml Z n0 ce sl pc Ls S h Ds) (hd : decode bs pc = .ok (.goto o, 3)) (ho : 0 ≤ (pc : Int) + o) (hp : ((pc : Int) + o).toNat = pc') : Rc C R own bs ml Z n0 ce sl pc' Ls S h Ds :=
  H.go fun T t hA hx hby kk => XS.goto hA hx rfl (pc0 := pc) rfl (hb hby hd) ho hp kk
theorem Rc.ifY {pc' : Nat} {o : Int} {cd : ClassFile.Cond} {x : Int32} (H : Rc C R own bs ml Z n0 ce sl pc Ls (.int x :: rest) h Ds) (hd : decode bs pc = .ok (.ifCond cd o, 3)) (hc : if_icmp.holds cd x 0 = true) (ho : 0 ≤ (pc : Int) + o) (hp : ((pc : Int) + o).toNat = pc') : Rc C R own bs ml Z n0 ce sl pc' Ls rest h Ds :=
  H.go fun T t hA hx hby kk => XS.ifYes hA hx rfl (pc0 := pc) rfl (hb hby hd) rfl ((if0 _ _).trans hc) ho hp kk
theorem Rc.ifN {pc' : Nat} {o : Int} {cd : ClassFile.Cond} {x : Int32} (H : Rc C R own bs ml Z n0 ce sl pc Ls (.int x :: rest) h Ds) (hd : decode bs pc = .ok (.ifCond cd o, 3)) (hc : if_icmp.holds cd x 0 = false) (hp : pc + 3 = pc') : Rc C R own bs ml Z n0 ce sl pc' Ls rest h Ds := by
  subst hp
  exact H.go fun T t hA hx hby kk => XS.ifNo hA hx rfl (hb hby hd) rfl ((if0 _ _).trans hc) kk
theorem Rc.icmpY {pc' : Nat} {o : Int} {cd : ClassFile.Cond} {x y : Int32} (H : Rc C R own bs ml Z n0 ce sl pc Ls (.int y :: .int x :: rest) h Ds) (hd : decode bs pc = .ok (.if_icmp cd o, 3)) (hc : if_icmp.holds cd x y = true) (ho : 0 ≤ (pc : Int) + o) (hp : ((pc : Int) + o).toNat = pc') : Rc C R own bs ml Z n0 ce sl pc' Ls rest h Ds :=
  H.go fun T t hA hx hby kk => XS.icmpYes hA hx rfl (pc0 := pc) rfl (hb hby hd) rfl hc ho hp kk
theorem Rc.icmpN {pc' : Nat} {o : Int} {cd : ClassFile.Cond} {x y : Int32} (H : Rc C R own bs ml Z n0 ce sl pc Ls (.int y :: .int x :: rest) h Ds) (hd : decode bs pc = .ok (.if_icmp cd o, 3)) (hc : if_icmp.holds cd x y = false) (hp : pc + 3 = pc') : Rc C R own bs ml Z n0 ce sl pc' Ls rest h Ds := by
  subst hp
  exact H.go fun T t hA hx hby kk => XS.icmpNo hA hx rfl (hb hby hd) rfl hc kk
theorem Rc.ifnullY {pc' : Nat} {o : Int} (H : Rc C R own bs ml Z n0 ce sl pc Ls (.null :: rest) h Ds) (hd : decode bs pc = .ok (.ifnull o, 3)) (ho : 0 ≤ (pc : Int) + o) (hp : ((pc : Int) + o).toNat = pc') : Rc C R own bs ml Z n0 ce sl pc' Ls rest h Ds :=
  H.go fun T t hA hx hby kk => XS.ifnullYes hA hx rfl (pc0 := pc) rfl (hb hby hd) rfl ho hp kk
theorem Rc.ifnullN {pc' : Nat} {b : Addr} {o : Int} (H : Rc C R own bs ml Z n0 ce sl pc Ls (.ref b :: rest) h Ds) (hd : decode bs pc = .ok (.ifnull o, 3)) (hp : pc + 3 = pc') : Rc C R own bs ml Z n0 ce sl pc' Ls rest h Ds := by
  subst hp
  exact H.go fun T t hA hx hby kk => XS.ifnullNo hA hx rfl (hb hby hd) rfl kk
theorem Rc.ifnonnullY {pc' : Nat} {b : Addr} {o : Int} (H : Rc C R own bs ml Z n0 ce sl pc Ls (.ref b :: rest) h Ds) (hd : decode bs pc = .ok (.ifnonnull o, 3)) (ho : 0 ≤ (pc : Int) + o) (hp : ((pc : Int) + o).toNat = pc') : Rc C R own bs ml Z n0 ce sl pc' Ls rest h Ds :=
  H.go fun T t hA hx hby kk => XS.ifnonnullYes hA hx rfl (pc0 := pc) rfl (hb hby hd) rfl ho hp kk
theorem Rc.ifnonnullN {pc' : Nat} {o : Int} (H : Rc C R own bs ml Z n0 ce sl pc Ls (.null :: rest) h Ds) (hd : decode bs pc = .ok (.ifnonnull o, 3)) (hp : pc + 3 = pc') : Rc C R own bs ml Z n0 ce sl pc' Ls rest h Ds := by
  subst hp
  exact H.go fun T t hA hx hby kk => XS.ifnonnullNo hA hx rfl (hb hby hd) rfl kk
theorem Rc.acmp {pc' : Nat} {o : Int} {cd : ACond} {x y : Value} {same : Bool} (H : Rc C R own bs ml Z n0 ce sl pc Ls (y :: x :: rest) h Ds) (hd : decode bs pc = .ok (.if_acmp cd o, 3)) (h1 : x.isRef = true) (h2 : y.isRef = true) (hq : decide (x = y) = same) (ho : 0 ≤ (pc : Int) + o) (hp : pc' = if acV cd same = true then ((pc : Int) + o).toNat else pc + 3) : Rc C R own bs ml Z n0 ce sl pc' Ls rest h Ds :=
  H.goX fun s T locs t X hZ hown eT hx hby kk => Jvm.RoadKit.acmp X hx rfl h1 h2 (pc0 := pc) rfl (hb hby hd) rfl hq ho hp kk

theorem own_ws1 {a : Addr} {Ds : List Addr} (ha : a ∈ Ds) : ∀ x ∈ [a], x ∈ Ds := fun x hx => by rw [List.mem_singleton.mp hx]; exact ha
theorem Rc.getF {pc' : Nat} {a : Addr} {v : Value} {R0 O n d host : String} {idx : Nat} (H : Rc C R own bs ml Z n0 ce sl pc Ls (.ref a :: rest) h Ds) (w : (Jvm.Cond.fieldLink own idx R0 n d).before a0 Z = true ∨ (Jvm.Cond.fieldLinkNest own idx R0 n d host).before a0 Z = true) (via : Via Z R0 O n d) (F : Fld Z h a O n d v) (hd : decode bs pc = .ok (.getfield idx, 3)) (hp : pc + 3 = pc') : Rc C R own bs ml Z n0 ce sl pc' Ls (v :: rest) h Ds := by
  subst hp
  obtain ⟨T, locs, vm0, k0, X, h1, h2, h3, h4, h5, h6, h7, k⟩ := H
  obtain ⟨T', X', e', st⟩ := RoadKit.getF X h7.1 (Z := Z) h3 h7.2.2.2.1 w via h5 F (g := mkF C.m pc Ls (.ref a :: rest)) rfl rfl (hb h7.2.1 hd)
  exact ⟨T', locs, vm0, k0, X', h1, h2, h3, h4, e', h6, h7, fun t ht => k _ (st _ ht)⟩
theorem Rc.getS {pc' : Nat} {v : Value} {R0 O n d host : String} {idx : Nat} (H : Rc C R own bs ml Z n0 ce sl pc Ls S h Ds) (w : (Jvm.Cond.fieldLink own idx R0 n d).before a0 Z = true ∨ (Jvm.Cond.fieldLinkNest own idx R0 n d host).before a0 Z = true) (via : Via Z R0 O n d) (F : Sta Z Z.heap O n d v) (hd : decode bs pc = .ok (.getstatic idx, 3)) (hp : pc + 3 = pc') : Rc C R own bs ml Z n0 ce sl pc' Ls (v :: S) h Ds := by
  subst hp
  obtain ⟨T, locs, vm0, k0, X, h1, h2, h3, h4, h5, h6, h7, k⟩ := H
  obtain ⟨T', X', e', st⟩ := getS2 X h7.1 (Z := Z) h3 h7.2.2.2.1 w via h5 (F.ext h4.1.2) (g := mkF C.m pc Ls S) rfl (hb h7.2.1 hd)
  exact ⟨T', locs, vm0, k0, X', h1, h2, h3, h4, e', h6, h7, fun t ht => k _ (st _ ht)⟩
theorem Rc.putF {pc' : Nat} {a : Addr} {v old : Value} {R0 O n d host Cc : String} {idx kk : Nat} {ty : FieldType} (H : Rc C R own bs ml Z n0 ce sl pc Ls (v :: .ref a :: rest) h Ds) (w : (Jvm.Cond.fieldLink own idx R0 n d).before a0 Z = true ∨ (Jvm.Cond.fieldLinkNest own idx R0 n d host).before a0 Z = true) (via : Via Z R0 O n d) (F : Fld Z h a O n d old) (E : Exa Z h a Cc)
    (L : (Jvm.Cond.lays Cc O n d).before a0 Z = true ∨ ((Jvm.Cond.laysFinal Cc O n d).before a0 Z = true ∧ own = O ∧ C.meth.name = "<init>")) (wi : (Jvm.Cond.instantiable Cc kk).before a0 Z = true) (hty : parseFieldDescriptor d = some ty) (hn : narrow ty v = v) (hf : fits ty v = true) (ha : a ∈ Ds) (hd : decode bs pc = .ok (.putfield idx, 3)) (hp : pc + 3 = pc') :
    ∃ h', Wr h h' a (RoadKit.slotOf Z O n d) v ∧ Rc C R own bs ml Z n0 ce sl pc' Ls rest h' Ds := by
  subst hp
  obtain ⟨T, locs, vm0, k0, X, h1, h2, h3, h4, h5, h6, h7, k⟩ := H
  obtain ⟨T', h', X', e', W', st⟩ := RoadKit.putF X h7.1 (Z := Z) h3 h7.2.2.2.1 w via h5 F E L wi hty hn hf (g := mkF C.m pc Ls (v :: .ref a :: rest)) rfl rfl (hb h7.2.1 hd)
  exact ⟨h', W', T', _, vm0, k0, X', h1, by rw [W'.size]; exact h2, h3, h4.keep (Keep.of_wr W') (own_ws1 ha), e', Fr.snoc X' h6 (h4.2.2.1 a ha).1, h7, fun t ht => k _ (st _ ht)⟩
theorem Rc.putFN {pc' : Nat} {a : Addr} {v v' old : Value} {R0 O n d Cc : String} {idx kk : Nat} {ty : FieldType} (H : Rc C R own bs ml Z n0 ce sl pc Ls (v :: .ref a :: rest) h Ds) (w : (Jvm.Cond.fieldLink own idx R0 n d).before a0 Z = true) (via : Via Z R0 O n d) (F : Fld Z h a O n d old) (E : Exa Z h a Cc)
    (L : (Jvm.Cond.lays Cc O n d).before a0 Z = true ∨ ((Jvm.Cond.laysFinal Cc O n d).before a0 Z = true ∧ own = O ∧ C.meth.name = "<init>")) (wi : (Jvm.Cond.instantiable Cc kk).before a0 Z = true) (hty : parseFieldDescriptor d = some ty) (hn : narrow ty v = v') (hf : fits ty v' = true) (ha : a ∈ Ds) (hd : decode bs pc = .ok (.putfield idx, 3)) (hp : pc + 3 = pc') :
    ∃ h', Wr h h' a (RoadKit.slotOf Z O n d) v' ∧ Rc C R own bs ml Z n0 ce sl pc' Ls rest h' Ds := by
  subst hp
  obtain ⟨T, locs, vm0, k0, X, h1, h2, h3, h4, h5, h6, h7, k⟩ := H
  obtain ⟨T', h', X', e', W', st⟩ := RoadKit.putFN X h7.1 (Z := Z) h3 h7.2.2.2.1 w via h5 F E L wi hty hn hf (g := mkF C.m pc Ls (v :: .ref a :: rest)) rfl rfl (hb h7.2.1 hd)
  exact ⟨h', W', T', _, vm0, k0, X', h1, by rw [W'.size]; exact h2, h3, h4.keep (Keep.of_wr W') (own_ws1 ha), e', Fr.snoc X' h6 (h4.2.2.1 a ha).1, h7, fun t ht => k _ (st _ ht)⟩
theorem Rc.newO {pc' : Nat} {Cc : String} {idx n : Nat} (H : Rc C R own bs ml Z n0 ce sl pc Ls S h Ds) (w : (Jvm.Cond.classLink own idx Cc).before a0 Z = true) (wi : (Jvm.Cond.instantiable Cc n).before a0 Z = true) (wz : (Jvm.Cond.initialized Cc).before a0 Z = true) (hd : decode bs pc = .ok (.new idx, 3)) (hc : ce + 1 ≤ R.cells) (hl : sl + n ≤ R.slots) (hp : pc + 3 = pc') :
    ∃ (h' : Heap) (b : Addr), b = h.size ∧ Ext h h' ∧ Exa Z h' b Cc ∧ (∀ {O nm d : String} {ty : FieldType}, Laid Z a0 Cc O nm d → parseFieldDescriptor d = some ty → Fld Z h' b O nm d (defaultValue ty)) ∧ Rc C R own bs ml Z n0 (ce + 1) (sl + n) pc' Ls (.ref b :: S) h' (b :: Ds) := by
  subst hp
  obtain ⟨T, locs, vm0, k0, X, h1, h2, h3, h4, h5, h6, h7, k⟩ := H
  obtain ⟨T', h', X', e', E', A', D', -, st⟩ := RoadKit.newO X h7.1 (Z := Z) h3 h7.2.2.2.1 w wi wz h5 (g := mkF C.m pc Ls S) rfl (hb h7.2.1 hd) hc hl
  exact ⟨h', h.size, rfl, E', A', D', T', _, vm0, k0, X', h1, Nat.le_trans h2 E'.1, h3, h4.born E' A'.lt, e', h6, h7, fun t ht => k _ (st _ ht)⟩
theorem Rc.newP {pc' : Nat} {aty : ArrayType} {n : Int32} {cap : Nat} (H : Rc C R own bs ml Z n0 ce sl pc Ls (.int n :: rest) h Ds) (w : (Jvm.Cond.arrayClass (newarray.typeOf aty)).before a0 Z = true) (hd : decode bs pc = .ok (.newarray aty, 2)) (hn : ¬ n < 0) (hcap : n.toNatClampNeg ≤ cap) (hb' : cap * 8 ≤ 536870912) (hc : ce + 1 ≤ R.cells) (hl : sl + cap ≤ R.slots) (hp : pc + 2 = pc') :
    ∃ (h' : Heap) (b : Addr) (kA : ClassId), b = h.size ∧ Ext h h' ∧ Arv Z h' b kA (newarray.typeOf aty) n [] (defaultValue (newarray.typeOf aty)) ∧ Rc C R own bs ml Z n0 (ce + 1) (sl + cap) pc' Ls (.ref b :: rest) h' (b :: Ds) := by
  subst hp
  obtain ⟨T, locs, vm0, k0, X, h1, h2, h3, h4, h5, h6, h7, k⟩ := H
  obtain ⟨T', h', kA, X', e', E', A', st⟩ := RoadKit.newP X h7.1 (Z := Z) h3 w h5 (g := mkF C.m pc Ls (.int n :: rest)) rfl (hb h7.2.1 hd) rfl hn hcap hb' hc hl
  exact ⟨h', h.size, kA, rfl, E', Arv.new A' hn, T', _, vm0, k0, X', h1, Nat.le_trans h2 E'.1, h3, h4.born E' A'.lt, e', h6, h7, fun t ht => k _ (st _ ht)⟩
theorem Rc.castore {pc' : Nat} {a : Addr} {x j z : Int32} {kA : ClassId} {vs : List Value} {dv : Value} (H : Rc C R own bs ml Z n0 ce sl pc Ls (.int x :: .int j :: .ref a :: rest) h Ds) (V : Arv Z h a kA .char z vs dv) (hj : ¬ j < 0 ∧ j < z) (i : Nat) (hi : j.toNatClampNeg = i) (hl : i < vs.length) (ha : a ∈ Ds) (hd : decode bs pc = .ok (.castore, 1)) (hp : pc + 1 = pc') :
    ∃ h', Keep h h' [a] ∧ Arv Z h' a kA .char z (vs.set i (.int (nar .char x))) dv ∧ Rc C R own bs ml Z n0 ce sl pc' Ls rest h' Ds := by
  subst hp
  obtain ⟨T, locs, vm0, k0, X, h1, h2, h3, h4, h5, h6, h7, k⟩ := H
  obtain ⟨cl, Ar, q1, q2, q3, q4, q5⟩ := V
  obtain ⟨T', h', X', e', W', st⟩ := stC X h7.1 (Z := Z) h3 h5 Ar (j := j) (inb_of q2 hj) (g := mkF C.m pc Ls (.int x :: .int j :: .ref a :: rest)) rfl rfl (hb h7.2.1 hd)
  exact ⟨h', Keep.of_wr W', Arv.set Ar q1 q2 q3 q4 q5 (fits_nar_char _) W' i hi hl, T', _, vm0, k0, X', h1, by rw [W'.size]; exact h2, h3, h4.keep (Keep.of_wr W') (own_ws1 ha), e', Fr.snoc X' h6 (h4.2.2.1 a ha).1, h7, fun t ht => k _ (st _ ht)⟩
theorem Rc.bastore {pc' : Nat} {a : Addr} {x j z : Int32} {kA : ClassId} {vs : List Value} {dv : Value} (H : Rc C R own bs ml Z n0 ce sl pc Ls (.int x :: .int j :: .ref a :: rest) h Ds) (V : Arv Z h a kA .byte z vs dv) (hj : ¬ j < 0 ∧ j < z) (i : Nat) (hi : j.toNatClampNeg = i) (hl : i < vs.length) (ha : a ∈ Ds) (hd : decode bs pc = .ok (.bastore, 1)) (hp : pc + 1 = pc') :
    ∃ h', Keep h h' [a] ∧ Arv Z h' a kA .byte z (vs.set i (.int (nar .byte x))) dv ∧ Rc C R own bs ml Z n0 ce sl pc' Ls rest h' Ds := by
  subst hp
  obtain ⟨T, locs, vm0, k0, X, h1, h2, h3, h4, h5, h6, h7, k⟩ := H
  obtain ⟨cl, Ar, q1, q2, q3, q4, q5⟩ := V
  obtain ⟨T', h', X', e', W', st⟩ := stB X h7.1 (Z := Z) h3 h5 Ar (j := j) (inb_of q2 hj) (g := mkF C.m pc Ls (.int x :: .int j :: .ref a :: rest)) rfl rfl (hb h7.2.1 hd)
  exact ⟨h', Keep.of_wr W', Arv.set Ar q1 q2 q3 q4 q5 (fits_nar_byte _) W' i hi hl, T', _, vm0, k0, X', h1, by rw [W'.size]; exact h2, h3, h4.keep (Keep.of_wr W') (own_ws1 ha), e', Fr.snoc X' h6 (h4.2.2.1 a ha).1, h7, fun t ht => k _ (st _ ht)⟩
theorem Rc.caload {pc' : Nat} {a : Addr} {j z : Int32} {v : Value} {kA : ClassId} {vs : List Value} {dv : Value} (H : Rc C R own bs ml Z n0 ce sl pc Ls (.int j :: .ref a :: rest) h Ds) (V : Arv Z h a kA .char z vs dv) (hj : ¬ j < 0 ∧ j < z) (hv : vs.getD j.toNatClampNeg dv = v) (hd : decode bs pc = .ok (.caload, 1)) (hp : pc + 1 = pc') : Rc C R own bs ml Z n0 ce sl pc' Ls (v :: rest) h Ds := by
  subst hp
  obtain ⟨cl, Ar, q1, q2, q3, q4, q5⟩ := V
  exact H.goX fun s T locs t X hZ hown eT hx hby kk => X.caload hx (j := j) (v := v) (by rw [eT]; exact Ar.1) (State.isArrayOf_alike hZ.alike Ar.2.1) Ar.2.2 (inb_of q2 hj) (q4.at (inb_of q2 hj) hv) (g := mkF C.m pc Ls (.int j :: .ref a :: rest)) rfl rfl (hb hby hd) _ kk
theorem Rc.baload {pc' : Nat} {a : Addr} {j z : Int32} {v : Value} {kA : ClassId} {vs : List Value} {dv : Value} (H : Rc C R own bs ml Z n0 ce sl pc Ls (.int j :: .ref a :: rest) h Ds) (V : Arv Z h a kA .byte z vs dv) (hj : ¬ j < 0 ∧ j < z) (hv : vs.getD j.toNatClampNeg dv = v) (hd : decode bs pc = .ok (.baload, 1)) (hp : pc + 1 = pc') : Rc C R own bs ml Z n0 ce sl pc' Ls (v :: rest) h Ds := by
  subst hp
  obtain ⟨cl, Ar, q1, q2, q3, q4, q5⟩ := V
  exact H.goX fun s T locs t X hZ hown eT hx hby kk => X.baloadBytes hx (j := j) (v := v) (by rw [eT]; exact Ar.1) (State.isArrayOf_alike hZ.alike Ar.2.1) Ar.2.2 (inb_of q2 hj) (q4.at (inb_of q2 hj) hv) (g := mkF C.m pc Ls (.int j :: .ref a :: rest)) rfl rfl (hb hby hd) _ kk
theorem Rc.aaload {pc' : Nat} {a : Addr} {j z : Int32} {v : Value} {kA : ClassId} {ty : FieldType} {vs : List Value} {dv : Value} (H : Rc C R own bs ml Z n0 ce sl pc Ls (.int j :: .ref a :: rest) h Ds) (V : Arv Z h a kA ty z vs dv) (hty : ty.isReference = true) (hj : ¬ j < 0 ∧ j < z) (hv : vs.getD j.toNatClampNeg dv = v) (hd : decode bs pc = .ok (.aaload, 1)) (hp : pc + 1 = pc') : Rc C R own bs ml Z n0 ce sl pc' Ls (v :: rest) h Ds := by
  subst hp
  obtain ⟨cl, Ar, q1, q2, q3, q4, q5⟩ := V
  exact H.goX fun s T locs t X hZ hown eT hx hby kk => X.aaload hx (j := j) (v := v) (by rw [eT]; exact Ar.1) (State.isArrayOf_alike hZ.alike Ar.2.1) hty Ar.2.2 (inb_of q2 hj) (q4.at (inb_of q2 hj) hv) (g := mkF C.m pc Ls (.int j :: .ref a :: rest)) rfl rfl (hb hby hd) _ kk
theorem Rc.arraylength {pc' : Nat} {a : Addr} {z : Int32} {kA : ClassId} {ty : FieldType} {vs : List Value} {dv : Value} (H : Rc C R own bs ml Z n0 ce sl pc Ls (.ref a :: rest) h Ds) (V : Arv Z h a kA ty z vs dv) (hd : decode bs pc = .ok (.arraylength, 1)) (hp : pc + 1 = pc') : Rc C R own bs ml Z n0 ce sl pc' Ls (.int z :: rest) h Ds := by
  subst hp
  obtain ⟨cl, Ar, q1, q2, q3, q4, q5⟩ := V
  have e := len_of q2 q3
  exact H.goX fun s T locs t X hZ hown eT hx hby kk => X.arraylength hx (by rw [eT]; exact Ar.1) (State.isArrayOf_alike hZ.alike Ar.2.1) (g := mkF C.m pc Ls (.ref a :: rest)) rfl rfl (hb hby hd) _ (by rw [e]; exact kk)
theorem Rc.initO {pc' : Nat} {a : Addr} {idx W : Nat} (H : Rc C R own bs ml Z n0 ce sl pc Ls (.ref a :: rest) h Ds) (w1 : (Jvm.Cond.methodLink own idx Lib.objectInit).before a0 Z = true) (w2 : (Jvm.Cond.instanceMethod Lib.objectInit).before a0 Z = true) (w3 : (Jvm.Cond.code Lib.objectInit ⟨#[0xb1]⟩ 1 none).before a0 Z = true) (hsz : Ls.size = ml) (hd : decode bs pc = .ok (.invokespecial idx, 3)) (hf : 1 ≤ R.frames) (hW : (rest.map fun v => v.category).sum = W) (hl : W + 12 ≤ R.locals) (hp : pc + 3 = pc') : Rc C R own bs ml Z n0 ce sl pc' Ls rest h Ds := by
  subst hp
  obtain ⟨T, locs, vm0, k0, X, h1, h2, h3, h4, h5, h6, h7, k⟩ := H
  obtain ⟨T', X', e', st⟩ := RoadKit.initO X h7.1 (Z := Z) h3 h7.2.2.2.1 w1 w2 w3 h5 (g := mkF C.m pc Ls (.ref a :: rest)) rfl (hsz.trans h7.2.2.1.symm) rfl (hb h7.2.1 hd) hf (W := W) (by show 2 * 0 + _ ≤ _; omega) hl
  exact ⟨T', locs, vm0, k0, X', h1, h2, h3, h4, e', h6, h7, fun t ht => k _ (st _ ht)⟩
theorem Rc.castY {pc' : Nat} {a : Addr} {K : String} {idx : Nat} (H : Rc C R own bs ml Z n0 ce sl pc Ls (.ref a :: rest) h Ds) (w : (Jvm.Cond.classLink own idx K).before a0 Z = true) (F : Ins Z h a K true) (hd : decode bs pc = .ok (.checkcast idx, 3)) (hp : pc + 3 = pc') : Rc C R own bs ml Z n0 ce sl pc' Ls (.ref a :: rest) h Ds := by
  subst hp
  obtain ⟨T, locs, vm0, k0, X, h1, h2, h3, h4, h5, h6, h7, k⟩ := H
  obtain ⟨T', X', e', st⟩ := RoadKit.castY X h7.1 (Z := Z) h3 h7.2.2.2.1 w h5 F (g := mkF C.m pc Ls (.ref a :: rest)) rfl rfl (hb h7.2.1 hd)
  exact ⟨T', locs, vm0, k0, X', h1, h2, h3, h4, e', h6, h7, fun t ht => k _ (st _ ht)⟩
theorem Rc.castNull {pc' : Nat} {idx : Nat} (H : Rc C R own bs ml Z n0 ce sl pc Ls (.null :: rest) h Ds) (hd : decode bs pc = .ok (.checkcast idx, 3)) (hp : pc + 3 = pc') : Rc C R own bs ml Z n0 ce sl pc' Ls (.null :: rest) h Ds := by
  subst hp
  exact H.goX fun s T locs t X hZ hown eT hx hby kk => X.checkcastNull hx (g := mkF C.m pc Ls (.null :: rest)) rfl rfl (hb hby hd) _ kk
theorem Rc.instNull {pc' : Nat} {idx : Nat} (H : Rc C R own bs ml Z n0 ce sl pc Ls (.null :: rest) h Ds) (hd : decode bs pc = .ok (.instanceof idx, 3)) (hp : pc + 3 = pc') : Rc C R own bs ml Z n0 ce sl pc' Ls (.int 0 :: rest) h Ds := by
  subst hp
  exact H.goX fun s T locs t X hZ hown eT hx hby kk => X.instanceofNull hx (g := mkF C.m pc Ls (.null :: rest)) rfl rfl (hb hby hd) _ kk
theorem Rc.instY {pc' : Nat} {a : Addr} {K : String} {idx : Nat} (H : Rc C R own bs ml Z n0 ce sl pc Ls (.ref a :: rest) h Ds) (w : (Jvm.Cond.classLink own idx K).before a0 Z = true) (F : Ins Z h a K true) (hd : decode bs pc = .ok (.instanceof idx, 3)) (hp : pc + 3 = pc') : Rc C R own bs ml Z n0 ce sl pc' Ls (.int 1 :: rest) h Ds := by
  subst hp
  obtain ⟨T, locs, vm0, k0, X, h1, h2, h3, h4, h5, h6, h7, k⟩ := H
  obtain ⟨T', X', e', st⟩ := RoadKit.instY X h7.1 (Z := Z) h3 h7.2.2.2.1 w h5 F (g := mkF C.m pc Ls (.ref a :: rest)) rfl rfl (hb h7.2.1 hd)
  exact ⟨T', locs, vm0, k0, X', h1, h2, h3, h4, e', h6, h7, fun t ht => k _ (st _ ht)⟩
theorem Rc.instNo {pc' : Nat} {a : Addr} {K Cc : String} {idx : Nat} (H : Rc C R own bs ml Z n0 ce sl pc Ls (.ref a :: rest) h Ds) (w : (Jvm.Cond.classLink own idx K).before a0 Z = true) (E : Exa Z h a Cc) (F : ∃ c t, Z.vm.findClass Cc = some c ∧ Z.vm.findClass K = some t ∧ Z.vm.assignable c t = false) (hd : decode bs pc = .ok (.instanceof idx, 3)) (hp : pc + 3 = pc') : Rc C R own bs ml Z n0 ce sl pc' Ls (.int 0 :: rest) h Ds := by
  subst hp
  obtain ⟨T, locs, vm0, k0, X, h1, h2, h3, h4, h5, h6, h7, k⟩ := H
  obtain ⟨T', X', e', st⟩ := RoadKit.instNo X h7.1 (Z := Z) h3 h7.2.2.2.1 w h5 E F (g := mkF C.m pc Ls (.ref a :: rest)) rfl rfl (hb h7.2.1 hd)
  exact ⟨T', locs, vm0, k0, X', h1, h2, h3, h4, e', h6, h7, fun t ht => k _ (st _ ht)⟩
/-! calls by a contract -/
abbrev NoMH (y : MethodName) : Prop := y.cls ≠ "java/lang/invoke/MethodHandle" ∧ y.cls ≠ "java/lang/invoke/VarHandle"
theorem own_fin {Q : Option Value → Heap → List Addr → Prop} {T : State} {locs : List Loc} {vm0 : Vm} {k0 pc' : Nat} {g : JFrame} {rm : Room} {v : Option Value} {B : Pt} {rest : List Value}
    (h1 : C.s.Since vm0 k0) (h2 : k0 ≤ h.size) (h3 : Z.Warmed39 vm0) (h5 : T.heap = h) (h6 : Fr n0 locs) (h7 : C.p.tables.exec = Jvm.exec ∧ C.c.code = bs ∧ C.c.maxLocals = ml ∧ vm0.findClass own = some C.m.cls ∧ C.meth.locks = false)
    (k : ∀ t, Steps C.p.tables C.e C.below (T.setTop g) t → Steps C.p.tables C.e C.below C.s0 t)
    (X' : Stand C.p C.l C.e R ((C.s.setVm vm0).setVm B.U.vm) C.m C.args C.below C.meth C.c B.U B.locs B.cells B.slots) (hS' : (C.s.setVm vm0).Since B.U.vm B.U.heap.size) (hgr : T.heap.size ≤ B.U.heap.size)
    (hq : ∃ (L : List Loc) (Ds' : List Addr), Q v B.U.heap Ds' ∧ JJ Z n0 B.U.vm B.U.heap Ds' ∧ Fr n0 L ∧ B.locs = locs ++ L ∧ B.cells = ce + rm.cells ∧ B.slots = sl + rm.slots)
    (st : Steps C.p.tables C.e C.below (T.setTop g) (B.U.setTop (mkF C.m pc' Ls (v.toList ++ rest)))) :
    ∃ (v : Option Value) (h' : Heap) (Ds' : List Addr), Q v h' Ds' ∧ Rc C R own bs ml Z n0 (ce + rm.cells) (sl + rm.slots) pc' Ls (v.toList ++ rest) h' Ds' := by
  obtain ⟨L, Ds', hQ, hJ, hFr, e1, e2, e3⟩ := hq
  refine ⟨v, B.U.heap, Ds', hQ, B.U, B.locs, B.U.vm, B.U.heap.size, ?_, h1.trans hS' (by rw [h5] at hgr; exact Nat.le_trans h2 hgr), Nat.le_refl _, State.Warmed39.trans (t := C.s.setVm vm0) h3 hS'.1, hJ, rfl, ?_, ⟨h7.1, h7.2.1, h7.2.2.1, ?_, h7.2.2.2.2⟩, fun t ht => k _ (st.trans ht)⟩
  · rw [← e2, ← e3]; exact X'
  · rw [e1]; exact Fr.app h6 hFr
  · rw [hS'.1.alike.findClass]; exact h7.2.2.2.1
theorem Rc.callS {pc' : Nat} {y : MethodName} {idx ml' W : Nat} {by' : ByteArray} {ret' : Option FieldType} {rm : Room} {argsL : List Value} {Q : Option Value → Heap → List Addr → Prop} (H : Rc C R own bs ml Z n0 ce sl pc Ls S h Ds)
    (hlink : (Jvm.Cond.methodLink own idx y).before a0 Z = true) (hstat : (Jvm.Cond.static y).before a0 Z = true) (hinit : (Jvm.Cond.initialized y.cls).before a0 Z = true) (hcode : (Jvm.Cond.code y by' ml' ret').before a0 Z = true) (hy : NoMH y)
    (K : Ctr C.l Z y by' ml' ret' [] rm argsL.toArray h n0 Ds Q) (hsz : Ls.size = ml) (hlen : ∀ sig, parseMethodDescriptor y.desc = some sig → argsL.length = sig.parameters.length) (hst : S = argsL.reverse ++ rest) (hW : (rest.map fun v => v.category).sum = W)
    (hd : decode bs pc = .ok (.invokestatic idx, 3)) (hfr : rm.frames + 1 ≤ R.frames) (hlo : W + (ml' + 11) + rm.locals ≤ R.locals) (hce : ce + rm.cells ≤ R.cells) (hsl : sl + rm.slots ≤ R.slots) (hp : pc + 3 = pc') :
    ∃ (v : Option Value) (h' : Heap) (Ds' : List Addr), Q v h' Ds' ∧ Rc C R own bs ml Z n0 (ce + rm.cells) (sl + rm.slots) pc' Ls (v.toList ++ rest) h' Ds' := by
  subst hp hst
  obtain ⟨T, locs, vm0, k0, X, h1, h2, h3, h4, h5, h6, h7, k⟩ := H
  obtain ⟨v, vm₁, B, hw1, X', hS', hgr, hq, st⟩ := callSS X h7.1 h7.2.2.2.1 (mvT (s := C.s.setVm vm0) h3 hlink) (mvT (s := C.s.setVm vm0) h3 hstat) (mvT (s := C.s.setVm vm0) h3 hinit) (mvT (s := C.s.setVm vm0) h3 hcode) hy (ctrBack (s := C.s.setVm vm0) (W := W) K h3 h4 hcode hinit hfr hlo) (g := mkF C.m pc Ls (argsL.reverse ++ rest)) rfl (hsz.trans h7.2.2.1.symm) hlen rfl (by show 2 * 0 + _ ≤ _; omega) (hb h7.2.1 hd) (fun vm₁ hw => ⟨rfl, h5, hce, hsl⟩)
  exact own_fin h1 h2 h3 h5 h6 h7 k X' hS' hgr hq st
theorem Rc.callSN {pc' : Nat} {y : MethodName} {host : String} {idx ml' W : Nat} {by' : ByteArray} {ret' : Option FieldType} {rm : Room} {argsL : List Value} {Q : Option Value → Heap → List Addr → Prop} (H : Rc C R own bs ml Z n0 ce sl pc Ls S h Ds)
    (hlink : (Jvm.Cond.methodLinkNest own idx y host).before a0 Z = true) (hstat : (Jvm.Cond.static y).before a0 Z = true) (hinit : (Jvm.Cond.initialized y.cls).before a0 Z = true) (hcode : (Jvm.Cond.code y by' ml' ret').before a0 Z = true) (hy : NoMH y)
    (K : Ctr C.l Z y by' ml' ret' [] rm argsL.toArray h n0 Ds Q) (hsz : Ls.size = ml) (hlen : ∀ sig, parseMethodDescriptor y.desc = some sig → argsL.length = sig.parameters.length) (hst : S = argsL.reverse ++ rest) (hW : (rest.map fun v => v.category).sum = W)
    (hd : decode bs pc = .ok (.invokestatic idx, 3)) (hfr : rm.frames + 1 ≤ R.frames) (hlo : W + (ml' + 11) + rm.locals ≤ R.locals) (hce : ce + rm.cells ≤ R.cells) (hsl : sl + rm.slots ≤ R.slots) (hp : pc + 3 = pc') :
    ∃ (v : Option Value) (h' : Heap) (Ds' : List Addr), Q v h' Ds' ∧ Rc C R own bs ml Z n0 (ce + rm.cells) (sl + rm.slots) pc' Ls (v.toList ++ rest) h' Ds' := by
  subst hp hst
  obtain ⟨T, locs, vm0, k0, X, h1, h2, h3, h4, h5, h6, h7, k⟩ := H
  obtain ⟨v, vm₁, B, hw1, X', hS', hgr, hq, st⟩ := callSNS X h7.1 h7.2.2.2.1 (Jvm.Cond.methodLinkNest_wide h3 hlink) (mvT (s := C.s.setVm vm0) h3 hstat) (mvT (s := C.s.setVm vm0) h3 hinit) (mvT (s := C.s.setVm vm0) h3 hcode) hy (ctrBack (s := C.s.setVm vm0) (W := W) K h3 h4 hcode hinit hfr hlo) (g := mkF C.m pc Ls (argsL.reverse ++ rest)) rfl (hsz.trans h7.2.2.1.symm) hlen rfl (by show 2 * 0 + _ ≤ _; omega) (hb h7.2.1 hd) (fun vm₁ hw => ⟨rfl, h5, hce, hsl⟩)
  exact own_fin h1 h2 h3 h5 h6 h7 k X' hS' hgr hq st
theorem Rc.callI {pc' : Nat} {y : MethodName} {idx ml' W : Nat} {by' : ByteArray} {rm : Room} {a : Addr} {argsL : List Value} {Q : Option Value → Heap → List Addr → Prop} (H : Rc C R own bs ml Z n0 ce sl pc Ls S h Ds) (hy1 : y.name = "<init>")
    (hlink : (Jvm.Cond.methodLink own idx y).before a0 Z = true) (hinst : (Jvm.Cond.instanceMethod y).before a0 Z = true) (hinit : (Jvm.Cond.initialized y.cls).before a0 Z = true) (hcode : (Jvm.Cond.code y by' ml' none).before a0 Z = true) (hy : NoMH y)
    (K : Ctr C.l Z y by' ml' none [] rm (.ref a :: argsL).toArray h n0 Ds Q) (hsz : Ls.size = ml) (hlen : ∀ sig, parseMethodDescriptor y.desc = some sig → argsL.length = sig.parameters.length) (hst : S = argsL.reverse ++ .ref a :: rest) (hW : (rest.map fun v => v.category).sum = W)
    (hd : decode bs pc = .ok (.invokespecial idx, 3)) (hfr : rm.frames + 1 ≤ R.frames) (hlo : W + (ml' + 11) + rm.locals ≤ R.locals) (hce : ce + rm.cells ≤ R.cells) (hsl : sl + rm.slots ≤ R.slots) (hp : pc + 3 = pc') :
    ∃ (v : Option Value) (h' : Heap) (Ds' : List Addr), Q v h' Ds' ∧ Rc C R own bs ml Z n0 (ce + rm.cells) (sl + rm.slots) pc' Ls (v.toList ++ rest) h' Ds' := by
  subst hp hst
  obtain ⟨T, locs, vm0, k0, X, h1, h2, h3, h4, h5, h6, h7, k⟩ := H
  obtain ⟨v, vm₁, B, hw1, X', hS', hgr, hq, st⟩ := X.specialBackS h7.1 hy1 h7.2.2.2.1 (mvT (s := C.s.setVm vm0) h3 hlink) (mvT (s := C.s.setVm vm0) h3 hinst) (mvT (s := C.s.setVm vm0) h3 hcode) hy (ctrBack (s := C.s.setVm vm0) (W := W) K h3 h4 hcode hinit hfr hlo) (g := mkF C.m pc Ls (argsL.reverse ++ .ref a :: rest)) rfl (hsz.trans h7.2.2.1.symm) (Steps.refl _) hlen rfl (by show 2 * 0 + _ ≤ _; omega) (hb h7.2.1 hd) (fun vm₁ hw => ⟨rfl, h5, hce, hsl⟩)
  exact own_fin h1 h2 h3 h5 h6 h7 k X' hS' hgr hq st
theorem Rc.callV {pc' : Nat} {y z : MethodName} {Cc : String} {idx ml' W : Nat} {by' : ByteArray} {ret' : Option FieldType} {rm : Room} {a : Addr} {argsL : List Value} {Q : Option Value → Heap → List Addr → Prop} (H : Rc C R own bs ml Z n0 ce sl pc Ls S h Ds)
    (hlink : (Jvm.Cond.methodLink own idx y).before a0 Z = true) (hdecl : (Jvm.Cond.declares y).before a0 Z = true) (hnf : ∀ s' : State, Z.Warmed39 s'.vm → NotFace s' y) (hsel : (Jvm.Cond.selects Cc y z).before a0 Z = true) (hinst : (Jvm.Cond.instanceMethod z).before a0 Z = true) (hinit : (Jvm.Cond.initialized z.cls).before a0 Z = true) (hcode : (Jvm.Cond.code z by' ml' ret').before a0 Z = true) (hy : NoMH y)
    (E : Exa Z h a Cc) (K : Ctr C.l Z z by' ml' ret' [] rm (.ref a :: argsL).toArray h n0 Ds Q) (hsz : Ls.size = ml) (hlen : ∀ sig, parseMethodDescriptor y.desc = some sig → argsL.length = sig.parameters.length) (hst : S = argsL.reverse ++ .ref a :: rest) (hW : (rest.map fun v => v.category).sum = W)
    (hd : decode bs pc = .ok (.invokevirtual idx, 3)) (hfr : rm.frames + 1 ≤ R.frames) (hlo : W + (ml' + 11) + rm.locals ≤ R.locals) (hce : ce + rm.cells ≤ R.cells) (hsl : sl + rm.slots ≤ R.slots) (hp : pc + 3 = pc') :
    ∃ (v : Option Value) (h' : Heap) (Ds' : List Addr), Q v h' Ds' ∧ Rc C R own bs ml Z n0 (ce + rm.cells) (sl + rm.slots) pc' Ls (v.toList ++ rest) h' Ds' := by
  subst hp hst
  obtain ⟨T, locs, vm0, k0, X, h1, h2, h3, h4, h5, h6, h7, k⟩ := H
  obtain ⟨cq, kq, qa, qb, qc⟩ := isOf (s := C.s.setVm vm0) h3 h5 E
  obtain ⟨v, vm₁, B, hw1, X', hS', hgr, hq, st⟩ := X.virtualBackS h7.1 (y := y) (z := z) h7.2.2.2.1 (mvT (s := C.s.setVm vm0) h3 hlink) (mvT (s := C.s.setVm vm0) h3 hdecl) (hnf _ h3) (mvT (s := C.s.setVm vm0) h3 hsel) (mvT (s := C.s.setVm vm0) h3 hinst) hy (ctrBack (s := C.s.setVm vm0) (W := W) K h3 h4 hcode hinit hfr hlo) qa qc (g := mkF C.m pc Ls (argsL.reverse ++ .ref a :: rest)) rfl (hsz.trans h7.2.2.1.symm) (Steps.refl _) hlen rfl (by show 2 * 0 + _ ≤ _; omega) (hb h7.2.1 hd) (fun vm₁ hw => ⟨rfl, h5, hce, hsl⟩)
  exact own_fin h1 h2 h3 h5 h6 h7 k X' hS' hgr hq st
/-! calls by a Back (a law of the library's) -/
theorem own_finB {Qb : Option Value → Heap → List Loc → Prop} {T : State} {locs : List Loc} {vm0 : Vm} {k0 pc' kc ks : Nat} {g : JFrame} {v : Option Value} {B : Pt} {rest : List Value}
    (h1 : C.s.Since vm0 k0) (h2 : k0 ≤ h.size) (h3 : Z.Warmed39 vm0) (h4 : JJ Z n0 vm0 h Ds) (h6 : Fr n0 locs) (h7 : C.p.tables.exec = Jvm.exec ∧ C.c.code = bs ∧ C.c.maxLocals = ml ∧ vm0.findClass own = some C.m.cls ∧ C.meth.locks = false)
    (k : ∀ t, Steps C.p.tables C.e C.below (T.setTop g) t → Steps C.p.tables C.e C.below C.s0 t)
    (hQ : ∀ v h' L, Qb v h' L → Fr n0 L ∧ ∃ ws, Keep h h' ws ∧ ∀ x ∈ ws, x ∈ Ds)
    (X' : Stand C.p C.l C.e R (C.s.setVm vm0) C.m C.args C.below C.meth C.c B.U B.locs B.cells B.slots)
    (hq : ∃ (L : List Loc), Qb v B.U.heap L ∧ B.locs = locs ++ L ∧ B.cells = ce + kc ∧ B.slots = sl + ks)
    (st : ∀ t, Steps C.p.tables C.e C.below (B.U.setTop (mkF C.m pc' Ls (v.toList ++ rest))) t → Steps C.p.tables C.e C.below (T.setTop g) t) :
    ∃ (v : Option Value) (h' : Heap) (L : List Loc), Qb v h' L ∧ Rc C R own bs ml Z n0 (ce + kc) (sl + ks) pc' Ls (v.toList ++ rest) h' Ds := by
  obtain ⟨L, hQb, e1, e2, e3⟩ := hq
  obtain ⟨hFr, ws, K, hws⟩ := hQ _ _ _ hQb
  refine ⟨v, B.U.heap, L, hQb, B.U, B.locs, vm0, k0, ?_, h1, Nat.le_trans h2 K.1, h3, h4.keep K hws, rfl, ?_, h7, fun t ht => k _ (st _ ht)⟩
  · rw [← e2, ← e3]; exact X'
  · rw [e1]; exact Fr.app h6 hFr
theorem Rc.backI {pc' : Nat} {y : MethodName} {idx ml' W kc ks : Nat} {by' : ByteArray} {a : Addr} {argsL : List Value} {Qb : Option Value → Heap → List Loc → Prop} (H : Rc C R own bs ml Z n0 ce sl pc Ls S h Ds) (hy1 : y.name = "<init>")
    (hlink : (Jvm.Cond.methodLink own idx y).before a0 Z = true) (hinst : (Jvm.Cond.instanceMethod y).before a0 Z = true) (hcode : (Jvm.Cond.code y by' ml' none).before a0 Z = true) (hy : NoMH y)
    (K : ∀ s' : State, Z.Warmed39 s'.vm → Back C.l R C.p C.e C.below s' C.args y 3 W (fun P a' => a' = (.ref a :: argsL).toArray ∧ P.U.heap = h ∧ P.cells + kc ≤ R.cells ∧ P.slots + ks ≤ R.slots) (fun P _ v B => ∃ L, Qb v B.U.heap L ∧ B.locs = P.locs ++ L ∧ B.cells = P.cells + kc ∧ B.slots = P.slots + ks))
    (hQ : ∀ v h' L, Qb v h' L → Fr n0 L ∧ ∃ ws, Keep h h' ws ∧ ∀ x ∈ ws, x ∈ Ds) (hsz : Ls.size = ml) (hlen : ∀ sig, parseMethodDescriptor y.desc = some sig → argsL.length = sig.parameters.length) (hst : S = argsL.reverse ++ .ref a :: rest) (hW : (rest.map fun v => v.category).sum = W)
    (hd : decode bs pc = .ok (.invokespecial idx, 3)) (hce : ce + kc ≤ R.cells) (hsl : sl + ks ≤ R.slots) (hp : pc + 3 = pc') :
    ∃ (v : Option Value) (h' : Heap) (L : List Loc), Qb v h' L ∧ Rc C R own bs ml Z n0 (ce + kc) (sl + ks) pc' Ls (v.toList ++ rest) h' Ds := by
  subst hp hst
  obtain ⟨T, locs, vm0, k0, X, h1, h2, h3, h4, h5, h6, h7, k⟩ := H
  obtain ⟨v, vm₁, B, hw1, X', hq, st⟩ := X.specialBack h7.1 hy1 h7.2.2.2.1 (mvT (s := C.s.setVm vm0) h3 hlink) (mvT (s := C.s.setVm vm0) h3 hinst) (mvT (s := C.s.setVm vm0) h3 hcode) hy (K _ h3) (g := mkF C.m pc Ls (argsL.reverse ++ .ref a :: rest)) rfl (hsz.trans h7.2.2.1.symm) (Steps.refl _) hlen rfl (by show 2 * 0 + _ ≤ _; omega) (hb h7.2.1 hd) (fun vm₁ hw => ⟨rfl, h5, hce, hsl⟩)
  exact own_finB h1 h2 h3 h4 h6 h7 k hQ X' hq (fun t ht => st.trans ht)
theorem Rc.backV {pc' : Nat} {y z : MethodName} {Cc : String} {idx W kc ks : Nat} {a : Addr} {argsL : List Value} {Qb : Option Value → Heap → List Loc → Prop} (H : Rc C R own bs ml Z n0 ce sl pc Ls S h Ds)
    (hlink : (Jvm.Cond.methodLink own idx y).before a0 Z = true) (hdecl : (Jvm.Cond.declares y).before a0 Z = true) (hnf : ∀ s' : State, Z.Warmed39 s'.vm → NotFace s' y) (hsel : (Jvm.Cond.selects Cc y z).before a0 Z = true) (hinst : (Jvm.Cond.instanceMethod z).before a0 Z = true) (hy : NoMH y) (E : Exa Z h a Cc)
    (K : ∀ s' : State, Z.Warmed39 s'.vm → Back C.l R C.p C.e C.below s' C.args z 3 W (fun P a' => a' = (.ref a :: argsL).toArray ∧ P.U.heap = h ∧ P.cells + kc ≤ R.cells ∧ P.slots + ks ≤ R.slots) (fun P _ v B => ∃ L, Qb v B.U.heap L ∧ B.locs = P.locs ++ L ∧ B.cells = P.cells + kc ∧ B.slots = P.slots + ks))
    (hQ : ∀ v h' L, Qb v h' L → Fr n0 L ∧ ∃ ws, Keep h h' ws ∧ ∀ x ∈ ws, x ∈ Ds) (hsz : Ls.size = ml) (hlen : ∀ sig, parseMethodDescriptor y.desc = some sig → argsL.length = sig.parameters.length) (hst : S = argsL.reverse ++ .ref a :: rest) (hW : (rest.map fun v => v.category).sum = W)
    (hd : decode bs pc = .ok (.invokevirtual idx, 3)) (hce : ce + kc ≤ R.cells) (hsl : sl + ks ≤ R.slots) (hp : pc + 3 = pc') :
    ∃ (v : Option Value) (h' : Heap) (L : List Loc), Qb v h' L ∧ Rc C R own bs ml Z n0 (ce + kc) (sl + ks) pc' Ls (v.toList ++ rest) h' Ds := by
  subst hp hst
  obtain ⟨T, locs, vm0, k0, X, h1, h2, h3, h4, h5, h6, h7, k⟩ := H
  obtain ⟨cq, kq, qa, qb, qc⟩ := isOf (s := C.s.setVm vm0) h3 h5 E
  obtain ⟨v, vm₁, B, hw1, X', hq, st⟩ := X.virtualBack h7.1 (y := y) (z := z) h7.2.2.2.1 (mvT (s := C.s.setVm vm0) h3 hlink) (mvT (s := C.s.setVm vm0) h3 hdecl) (hnf _ h3) (mvT (s := C.s.setVm vm0) h3 hsel) (mvT (s := C.s.setVm vm0) h3 hinst) hy (K _ h3) qa qc (g := mkF C.m pc Ls (argsL.reverse ++ .ref a :: rest)) rfl (hsz.trans h7.2.2.1.symm) (Steps.refl _) hlen rfl (by show 2 * 0 + _ ≤ _; omega) (hb h7.2.1 hd) (fun vm₁ hw => ⟨rfl, h5, hce, hsl⟩)
  exact own_finB h1 h2 h3 h4 h6 h7 k hQ X' hq (fun t ht => st.trans ht)
/-! returns -/
theorem Rc.retX {Q : Option Value → Heap → List Addr → Prop} {v : Option Value} {kc ks : Nat} {Ds' : List Addr} (H : Rc C R own bs ml Z n0 ce sl pc Ls S h Ds) (hv : C.meth.sig.returnType = none → v = none)
    (f : ∀ (s T : State) (locs : List Loc) (fs : List Frame), Stand C.p C.l C.e R s C.m C.args C.below C.meth C.c T locs ce sl → C.p.tables.exec = Jvm.exec → C.c.code = bs → (∀ (f : JFrame) (acts : List Action), f.method = C.m → f.locked = none → f.entered = [] → (doReturn C.e (T.setTop f) acts v).1 = T.setFrames fs) → Steps C.p.tables C.e C.below (T.setTop (mkF C.m pc Ls S)) (T.setFrames fs))
    (hk : ce ≤ kc) (hs : sl ≤ ks) (hds : ∀ x ∈ Ds', x ∈ Ds) (hq : Q v h Ds') : Done C Z n0 Q kc ks := by
  obtain ⟨T, locs, vm0, k0, X, h1, h2, h3, h4, h5, h6, h7, k⟩ := H
  obtain ⟨fs, hr, hrun, hend, hE⟩ := X.leaveW h1 (by rw [h5]; exact h2) hv h7.2.2.2.2
  refine ⟨T.setFrames fs, .returned v, k _ (f _ T locs fs X h7.1 h7.2.1 hr), hrun, hend, v, locs, Ds', rfl, ?_, ?_, h6, hE.1, hE.2.1, hE.2.2.1, hE.2.2.2.mono hk hs⟩
  · show Q v T.heap Ds'
    rw [h5]; exact hq
  · show JJ Z n0 T.vm T.heap Ds'
    rw [h5]
    exact (JJ.warm (t := C.s.setVm vm0) h4 h3 X.warmed).less hds
theorem Rc.retI {Q : Option Value → Heap → List Addr → Prop} {z : Int32} {kc ks : Nat} {Ds' : List Addr} (H : Rc C R own bs ml Z n0 ce sl pc Ls (.int z :: rest) h Ds) (hret : C.meth.sig.returnType = some .int) (hd : decode bs pc = .ok (.ireturn, 1)) (hk : ce ≤ kc) (hs : sl ≤ ks) (hds : ∀ x ∈ Ds', x ∈ Ds) (hq : Q (some (.int z)) h Ds') : Done C Z n0 Q kc ks :=
  H.retX (v := some (.int z)) (fun e => by rw [hret] at e; cases e) (fun s T locs fs X hx hby hr => retOut X hx hret rfl (Or.inl ⟨rfl, Or.inl rfl, z, rfl⟩) (hb hby hd) hr) hk hs hds hq
theorem Rc.retN {Q : Option Value → Heap → List Addr → Prop} {z z' : Int32} {t : FieldType} {kc ks : Nat} {Ds' : List Addr} (H : Rc C R own bs ml Z n0 ce sl pc Ls (.int z :: rest) h Ds) (hret : C.meth.sig.returnType = some t) (ht : t = .boolean ∨ t = .byte ∨ t = .char ∨ t = .short) (hz : nar t z = z') (hd : decode bs pc = .ok (.ireturn, 1)) (hk : ce ≤ kc) (hs : sl ≤ ks) (hds : ∀ x ∈ Ds', x ∈ Ds) (hq : Q (some (.int z')) h Ds') : Done C Z n0 Q kc ks := by
  subst hz
  exact H.retX (v := some (.int (nar t z))) (fun e => by rw [hret] at e; cases e) (fun s T locs fs X hx hby hr => RoadKit.retN X hx hret ht (hb hby hd) hr) hk hs hds hq
theorem Rc.retA {Q : Option Value → Heap → List Addr → Prop} {w : Value} {t : FieldType} {kc ks : Nat} {Ds' : List Addr} (H : Rc C R own bs ml Z n0 ce sl pc Ls (w :: rest) h Ds) (hret : C.meth.sig.returnType = some t) (ht : t.isReference = true) (hn : narrow t w = w) (hw : w.isRef = true) (hd : decode bs pc = .ok (.areturn, 1)) (hk : ce ≤ kc) (hs : sl ≤ ks) (hds : ∀ x ∈ Ds', x ∈ Ds) (hq : Q (some w) h Ds') : Done C Z n0 Q kc ks :=
  H.retX (v := some w) (fun e => by rw [hret] at e; cases e) (fun s T locs fs X hx hby hr => retOut X hx hret hn (Or.inr (Or.inr (Or.inr (Or.inr ⟨rfl, ht, hw⟩)))) (hb hby hd) hr) hk hs hds hq
theorem Rc.retV {Q : Option Value → Heap → List Addr → Prop} {kc ks : Nat} {Ds' : List Addr} (H : Rc C R own bs ml Z n0 ce sl pc Ls [] h Ds) (hret : C.meth.sig.returnType = none) (hd : decode bs pc = .ok (.return_, 1)) (hk : ce ≤ kc) (hs : sl ≤ ks) (hds : ∀ x ∈ Ds', x ∈ Ds) (hq : Q none h Ds') : Done C Z n0 Q kc ks :=
  H.retX (v := none) (fun _ => rfl) (fun s T locs fs X hx hby hr => X.returnOut hx hret (hb hby hd) hr) hk hs hds hq
/-! Strings -/
abbrev STR0 : String := "java/lang/String"
def bytesOfCs (cs : List Int32) : List Value := (cs.map fun c => c.toInt8.toInt32).map Value.int
def IsStr (Z : State) (h : Heap) (a : Addr) (cs : List Int32) : Prop :=
  Exa Z h a "java/lang/String" ∧ Fld Z h a "java/lang/String" "coder" "B" (.int 0) ∧ (∀ c ∈ cs, ¬ c < 0 ∧ ¬ (255 : Int32) < c) ∧ cs.length ≤ 4000 ∧
    ∃ (t : Addr) (kb : ClassId), Fld Z h a "java/lang/String" "value" "[B" (.ref t) ∧ Arv Z h t kb .byte (Int32.ofNat cs.length) (bytesOfCs cs) (.int 0)
def NotB (Z : State) (h : Heap) (w : Addr) : Prop := ∀ (t : Addr) (kb : ClassId) (z : Int32) (vs : List Value) (d : Value), Arv Z h t kb .byte z vs d → t ≠ w
theorem notB_exa {Z : State} {h : Heap} {w : Addr} {Cc : String} {n : Nat} {a0 : Array Value} (E : Exa Z h w Cc) (wi : (Jvm.Cond.instantiable Cc n).before a0 Z = true) : NotB Z h w := fun t kb z vs d F e => (E.neArv F wi) e.symm
theorem notB_arv {Z : State} {h : Heap} {w : Addr} {k : ClassId} {ty : FieldType} {z : Int32} {vs : List Value} {dv : Value} (V : Arv Z h w k ty z vs dv) (hty : ty ≠ .byte) : NotB Z h w := fun t kb z' vs' d F e => by
  subst e
  obtain ⟨c1, A1, -⟩ := F
  obtain ⟨c2, A2, -⟩ := V
  cases A1.1.symm.trans A2.1
  obtain ⟨-, k1, p1, comp1, q1⟩ := A1.2.1
  obtain ⟨-, k2, p2, comp2, q2⟩ := A2.2.1
  cases p1.symm.trans p2
  rw [q1] at q2
  cases q2
  exact hty rfl
theorem notB_new {Z : State} {h : Heap} {w : Addr} (e : h.size ≤ w) : NotB Z h w := fun t kb z vs d F q => by subst q; exact absurd F.lt (Nat.not_lt.mpr e)
theorem IsStr.keep {Z : State} {h h' : Heap} {a : Addr} {cs : List Int32} {ws : List Addr} (F : IsStr Z h a cs) (K : Keep h h' ws) (q : a ∉ ws) (q' : ∀ w ∈ ws, NotB Z h w) : IsStr Z h' a cs := by
  obtain ⟨f1, f2, f3, f4, t, kb, f5, f6⟩ := F
  exact ⟨f1.keep K, f2.keep K q, f3, f4, t, kb, f5.keep K q, f6.keep K (fun m => q' t m t kb _ _ _ f6 rfl)⟩
theorem IsStr.ext {Z : State} {h h' : Heap} {a : Addr} {cs : List Int32} (F : IsStr Z h a cs) (E : Ext h h') : IsStr Z h' a cs := F.keep ((Keep.refl h []).ext E) (fun m => nomatch m) (fun w m => nomatch m)
theorem IsStr.lt {Z : State} {h : Heap} {a : Addr} {cs : List Int32} (F : IsStr Z h a cs) : a < h.size := F.1.lt
theorem byte_of (n : Nat) (h : n < 256) : Jvm.Lit.byteI n.toUInt16 = (Int32.ofNat n).toInt8.toInt32 := by
  have t : ∀ k : Fin 256, Jvm.Lit.byteI k.val.toUInt16 = (Int32.ofNat k.val).toInt8.toInt32 := by decide +kernel
  exact t ⟨n, h⟩
theorem chr_of (n : Nat) (h : n < 256) : ¬ Int32.ofNat n < 0 ∧ ¬ (255 : Int32) < Int32.ofNat n := by
  have t : ∀ k : Fin 256, ¬ Int32.ofNat k.val < 0 ∧ ¬ (255 : Int32) < Int32.ofNat k.val := by decide +kernel
  exact t ⟨n, h⟩
theorem Sx.slOf {Z T : State} {h : Heap} {Ds : List Addr} {a : Addr} {u : Array UInt16} (F : Sx Z h Ds a u) (hal : Z.vm.Alike T.vm) (e : T.heap = h) : SlOf T a u := by
  obtain ⟨q, cS, h1, h2, ⟨kS, k1, k2, k3⟩, h4, h5, -, -⟩ := F
  obtain ⟨kS', hk', ek⟩ := hal.2.2 _ _ k1
  exact ⟨q, cS, h1, Sl.carry (U := ({ Z with heap := h } : State)) hal (by rw [e]; exact h2.1.1) (by rw [e]; exact h2.1.2.2.2.2.2.2.2.2.2.1) h2, ⟨kS', hk', by rw [ek]; exact k2, by rw [ek]; exact k3⟩, by rw [hal.findClass]; exact h4, h5⟩
theorem Sx.of_in {Z T : State} {Ds : List Addr} {a : Addr} {u : Array UInt16} {lo hi : Nat} (F : SlIn lo hi T a u) (hal : T.vm.Alike Z.vm) (hlo : lo ≤ hi) (ha : hi ≤ a) (hD : ∀ x ∈ Ds, x < hi) : Sx Z T.heap Ds a u := by
  obtain ⟨q, cS, h1, h2, ⟨kS, k1, k2, k3⟩, h4, h5, h6⟩ := F
  obtain ⟨kS', hk', ek⟩ := hal.2.2 _ _ k1
  subst h1
  have hb : hi ≤ q.sd := by
    rcases h6 with ⟨x, -⟩ | ⟨-, y⟩
    · exact absurd (Nat.lt_of_lt_of_le x hlo) (Nat.not_lt.mpr ha)
    · exact y
  exact ⟨q, cS, rfl, Sl.carry (U' := ({ Z with heap := T.heap } : State)) hal h2.1.1 h2.1.2.2.2.2.2.2.2.2.2.1 h2, ⟨kS', hk', by rw [ek]; exact k2, by rw [ek]; exact k3⟩, by rw [hal.findClass]; exact h4, h5, fun m => absurd (hD _ m) (Nat.not_lt.mpr ha), fun m => absurd (hD _ m) (Nat.not_lt.mpr hb)⟩
theorem Sx.str {Z : State} {h : Heap} {Ds : List Addr} {a : Addr} {units : Array UInt16} {text : String} {cs : List Int32} (F : Sx Z h Ds a units) (htext : utf16ToString? units = some text) (hlat : ∀ c ∈ text.toList, c.toNat < 256) (hcs : text.toList.map (fun c => Int32.ofNat c.toNat) = cs) (hlen : cs.length ≤ 4000) : IsStr Z h a cs ∧ a ∉ Ds := by
  obtain ⟨q, cS, hqa, ⟨⟨s1, s2, s3, ⟨cv, kv, iv, s4, s4'⟩, ⟨cc, kc, ic, s5, s5'⟩, s6, s7, s8, s9, s10, s11, s12, s13, s14, s15, s16⟩, hfS, hcS⟩, ⟨kS, k1, k2, k3⟩, hB, hbyt, hn1, hn2⟩ := F
  subst hqa
  have hl := Jvm.ClassFile.lat_of_text htext hlat
  have eu : bytesOfCs cs = units.toList.map fun u => Value.int (Jvm.Lit.byteI u) := by
    rw [Jvm.ClassFile.units_of_text htext hlat, List.map_map, ← hcs]
    show List.map Value.int (List.map (fun c => c.toInt8.toInt32) (List.map (fun c => Int32.ofNat c.toNat) text.toList)) = _
    rw [List.map_map, List.map_map]
    refine List.map_congr_left fun c hc => ?_
    show Value.int ((Int32.ofNat c.toNat).toInt8.toInt32) = Value.int (Jvm.Lit.byteI c.toNat.toUInt16)
    rw [byte_of _ (hlat c hc)]
  have el : cs.length = units.size := by
    have := congrArg List.length eu
    simpa [bytesOfCs] using this
  have hsl : q.SA.slots = units.map fun u => Value.int (Jvm.Lit.byteI u) := by rw [hbyt, SBG.stringBytes_lat hl]; rfl
  have hsz : q.SA.slots.size = units.size := by rw [hsl, Array.size_map]
  have Hh : Has q.SA (bytesOfCs cs) (.int 0) := fun j hj => by
    have hj' : j < units.size := by omega
    rw [hsl, eu]; simp [hj']
  have n32 : (Int32.ofNat cs.length).toNatClampNeg = cs.length := by
    have t : (Int32.ofNat cs.length).toInt = (cs.length : Int) := Int32.toInt_ofNat_small (by omega)
    show (Int32.ofNat cs.length).toInt.toNat = cs.length
    omega
  have nneg : ¬ Int32.ofNat cs.length < 0 := by
    have t : (Int32.ofNat cs.length).toInt = (cs.length : Int) := Int32.toInt_ofNat_small (by omega)
    rw [Int32.lt_iff_toInt_lt]
    have z0 : (0 : Int32).toInt = 0 := rfl
    omega
  refine ⟨⟨⟨q.sC, kS, s1, by rw [hcS]; exact hfS, by rw [hcS]; exact k1, s3, fun _ => k3⟩, ⟨q.sC, cc, kc, ic, q.fSC, s1, s5, s7, s2, s3, s5', s9⟩, ?_, hlen, q.sd, q.SA.cls, ⟨q.sC, cv, kv, iv, q.fSV, s1, s4, s6, s2, s3, s4', s8⟩, ⟨q.SA, ⟨s10, s11, s12⟩, rfl, by rw [hsz, n32, el], nneg, Hh, fun j hj => ?_⟩⟩, hn1⟩
  · intro c hc
    rw [← hcs] at hc
    obtain ⟨ch, h1, rfl⟩ := List.mem_map.mp hc
    exact chr_of _ (hlat ch h1)
  · have e1 := s16 j hj
    have e2 := Hh j hj
    rw [SBG.getD_of e2] at e1
    exact e1
theorem own_atoms {Z s : State} {a0 args : Array Value} (hZ : Z.Warmed39 s.vm) (wS : ∀ a ∈ Bundle.stringAtoms, a.before a0 Z = true) : ∀ a ∈ Bundle.stringAtoms, a.before args s = true := fun d hd => by
  have q := wS d hd
  simp only [Bundle.stringAtoms, List.mem_cons, List.not_mem_nil, or_false] at hd
  rcases hd with rfl | rfl | rfl | rfl | rfl | rfl | rfl
  · exact mv hZ q
  · exact mv hZ q
  · exact mvA hZ q
  · exact mv hZ q
  · exact mv hZ q
  · exact mv hZ q
  · exact mv hZ q
theorem open_stays {s : State} {vm' : Vm} (hW : s.WarmedH vm') {c : ClassId} {k k' : Class} {cf : ClassFile} {idx : Nat} {text : String} (hk : s.vm.classes[c]? = some k) (hk' : vm'.classes[c]? = some k') (hcf : k.cf = some cf) (hnm : namesOf? cf.constantPool idx = some (.string text)) (ho : k.resolved[idx]? = some none) : k'.resolved[idx]? = some none := by
  obtain ⟨-, -, hfw⟩ := hW
  obtain ⟨k2, hk2, -, -, ee, -⟩ := hfw _ k hk
  cases hk2.symm.trans hk'
  rcases ee idx with e0 | ⟨-, r, -, hr⟩
  · exact e0.trans ho
  · exfalso
    cases r <;> simp [State.rightAt, hk, hcf, hnm] at hr
/-- 'ldc' of a String constant at the state at hand -/
theorem ldcNow {p : Program} {l : Launch} {e : Env} {R : Room} {s : State} {m : MethodId} {args : Array Value} {below : List Frame} {meth : Method} {c : Code} {T : State} {locs : List Loc} {cells slots : Nat}
    (X : Stand p l e R s m args below meth c T locs cells slots) (hexec : p.tables.exec = Jvm.exec) {own text : String} {index : Nat} (hown : T.vm.findClass own = some m.cls)
    (hlink : (Jvm.Cond.stringLink own index text).before args T = true) (hS : ∀ a ∈ Bundle.stringAtoms, a.before args T = true) (hheld : ConstHeldL T own index) (hlat : ∀ units : Array UInt16, utf16ToString? units = some text → units.all (· < 256) = true)
    {g : JFrame} (hg : g.method = m) (hdg : decode c.code g.pc = .ok (.ldc index, 2)) {n : Nat} (hn : 4 * text.toList.length ≤ n) (hbig : n ≤ 536870912) (hRcells : cells + 2 ≤ R.cells) (hRslots : slots + (n + 4) ≤ R.slots) :
    ∃ (a : Addr) (T₂ : State), Stand p l e R (s.setVm T₂.vm) m args below meth c T₂ locs (cells + 2) (slots + (n + 4)) ∧ s.Since T₂.vm T₂.heap.size ∧ (∃ k₂, T₂.vm.classes[m.cls]? = some k₂ ∧ k₂.resolved[index]? = some (some (.string a))) ∧
      (∀ a0, a0 < T.heap.size → T₂.heap[a0]? = T.heap[a0]?) ∧ T.heap.size ≤ T₂.heap.size ∧ T.Warmed39 T₂.vm ∧ T.Interned1 T₂ ∧ (T₂.vm.interned = T.vm.interned ∨ ∃ (units : Array UInt16) (a' : Addr), utf16ToString? units = some text ∧ T₂.vm.interned = T.vm.interned.push (units, a')) ∧
      (∃ units : Array UInt16, utf16ToString? units = some text ∧ SlIn T.heap.size T.heap.size T₂ a units) ∧
      ∀ target, Steps p.tables e below (T₂.setTop { g with pc := g.pc + 2, stack := .ref a :: g.stack }) target → Steps p.tables e below (T.setTop g) target := by
  obtain ⟨g₀, hf0⟩ := X.frames_eq
  have hcur : T.cur < T.threads.size := State.cur_lt_of_frames hf0
  obtain ⟨th, hth, -⟩ := State.frames_cons hf0
  have hF : (T.setFrames (.invoking m args :: below)).frames = .invoking m args :: below := State.frames_setFrames _ hcur
  have hme : (T.setFrames (.invoking m args :: below)).me.stackBytes = T.me.stackBytes := by
    simp [State.me, State.setFrames, Array.getElem_modify, hcur]
  have hlim : e.platform.stackLimits (T.setFrames (.invoking m args :: below)).me = e.platform.stackLimits T.me := by
    show e.platform.limitsFor _ = e.platform.limitsFor _
    rw [hme]
  have hroom : (T.setFrames (.invoking m args :: below)).hasRoom e.platform ({ R with cells := R.cells - cells, slots := R.slots - slots } : Room) = true := by
    have h0 := X.room
    have hb := X.book
    have hsz := X.heapSize
    have hus := X.used
    have hU : (T.setFrames (.invoking m args :: below)).localsInUse = s.localsInUse := by
      rw [State.localsInUse_invoking hF (show (T.setFrames (.invoking m args :: below)).vm.method? m = some meth from X.method') X.code, State.localsInUse_invoking X.frames X.method X.code]
    have hfl : (T.setFrames (.invoking m args :: below)).frames.length = s.frames.length := by rw [hF, X.frames]
    unfold State.hasRoom at h0 ⊢
    rw [hU, hfl, hlim, X.limits, hme, X.bytes]
    simp only [Bool.and_eq_true, decide_eq_true_eq] at h0 ⊢
    obtain ⟨⟨⟨⟨q1, q2⟩, q3⟩, q4⟩, q5⟩ := h0
    refine ⟨⟨⟨⟨q1, q2⟩, ?_⟩, ?_⟩, hb⟩
    · show T.heap.size + (R.cells - cells) ≤ _
      omega
    · show T.slotsUsed + (R.slots - slots) ≤ _
      omega
  have hhears : (T.setFrames (.invoking m args :: below)).hears m below = true := by
    have h0 := X.hears
    have hmeth : ∀ mm : MethodId, (T.setFrames (.invoking m args :: below)).vm.method? mm = s.vm.method? mm := fun mm => X.warmed.alike.method? mm
    have hcode : ∀ mm : MethodId, (T.setFrames (.invoking m args :: below)).code? mm = s.code? mm := fun mm => by rw [State.code?_eq, State.code?_eq, hmeth]
    cases hb : below with
    | nil => rw [hb] at h0 hmeth; simp only [State.hears] at h0 ⊢; rw [hmeth]; exact h0
    | cons f r =>
      rw [hb] at h0 hmeth hcode
      cases f <;> simp only [State.hears] at h0 ⊢ <;> first | (rw [hcode]; exact h0) | (rw [hmeth]; exact h0) | exact h0
  have hsame : (T.setFrames (.invoking m args :: below)).sameButNew (T.setVm (T.setFrames (.invoking m args :: below)).vm) [] 0 0 := by
    have hd0 : T.heap.toList.drop T.heap.size = [] := List.drop_eq_nil_of_le (by simp)
    refine ⟨?_, Nat.le_refl _, Nat.le_refl _, ?_, ?_, fun a cl hcl => ⟨cl, hcl, rfl, rfl, fun _ _ => rfl⟩⟩
    · show T = { (T.setFrames (.invoking m args :: below)).setFrames T.frames with heap := T.heap, slotsUsed := T.slotsUsed }
      rw [State.setFrames_setFrames, State.setFrames_self hth]
    · show T.slotsUsed = T.slotsUsed + ((T.heap.toList.drop T.heap.size).map (·.slots.size)).sum
      rw [hd0]; rfl
    · show ((T.heap.toList.drop T.heap.size).map (·.slots.size)).sum ≤ 0
      rw [hd0]; exact Nat.le_refl _
  have X' : Stand p l e ({ R with cells := R.cells - cells, slots := R.slots - slots } : Room) (T.setFrames (.invoking m args :: below)) m args below meth c T [] 0 0 :=
    ⟨X.admits, X.cas, X.clock, hF, hroom, hhears, X.method', X.code, X.here, X.tail, State.WarmedH.refl (T.setFrames (.invoking m args :: below)), hlim.symm, hme.symm, hsame⟩
  obtain ⟨a, T₂, X2, hS2, hres, hkeep, hint1, hint, hin, st⟩ := X'.ldcColdF (fun b cl h => h) hexec (own := own) (text := text) (index := index) hown hlink (own_atoms (Z := T) (s := T.setFrames (.invoking m args :: below)) (State.Warmed39.refl T) hS) hheld hlat hg hdg hn hbig (by show 0 + 2 ≤ R.cells - cells; omega) (by show 0 + (n + 4) ≤ R.slots - slots; omega)
  have hsm : T.sameButNew (T₂.setVm T.vm) [] 2 (n + 4) := by
    have q := X2.same.setVm T.vm
    obtain ⟨r1, r2, r3, r4, r5, r6⟩ := q
    refine ⟨?_, r2, by simpa using r3, r4, by simpa using r5, r6⟩
    refine r1.trans ?_
    show ({ (T.setFrames (.invoking m args :: below)).setFrames T₂.frames with heap := T₂.heap, slotsUsed := T₂.slotsUsed } : State) = _
    rw [State.setFrames_setFrames]
    rfl
  obtain ⟨Y, hSY⟩ := X.movedW (T₂ := T₂) X2.here X2.tail (X2.limits.trans hlim) (X2.bytes.trans hme) hS2.1 hS2.2 hsm
  rw [List.append_nil] at Y
  exact ⟨a, T₂, Y, hSY, hres, hkeep, hint1.1, hS2.1, hint1, hint, hin, st⟩
theorem Rc.ldcS {pc' idx n : Nat} {text : String} {cs : List Int32} (H : Rc C R own bs ml Z n0 ce sl pc Ls S h Ds) (hm : (own, idx) ∈ CL) (w : (Jvm.Cond.stringLink own idx text).before a0 Z = true) (hlat : ∀ c ∈ text.toList, c.toNat < 256) (hcs : text.toList.map (fun c => Int32.ofNat c.toNat) = cs) (hlen : cs.length ≤ 4000)
    (hd : decode bs pc = .ok (.ldc idx, 2)) (hn : 4 * text.toList.length ≤ n) (hbig : n ≤ 536870912) (hc : ce + 2 ≤ R.cells) (hl : sl + (n + 4) ≤ R.slots) (hp : pc + 2 = pc') :
    ∃ (h' : Heap) (a : Addr), Ext h h' ∧ IsStr Z h' a cs ∧ a ∉ Ds ∧ Rc C R own bs ml Z n0 (ce + 2) (sl + (n + 4)) pc' Ls (.ref a :: S) h' Ds := by
  subst hp
  obtain ⟨T, locs, vm0, k0, X, h1, h2, h3, h4, h5, h6, h7, k⟩ := H
  obtain ⟨aS, -, -, -, wS⟩ := h4.2.2.2.1 own idx hm
  have hownB : (C.s.setVm vm0).vm.findClass own = some C.m.cls := h7.2.2.2.1
  have wB : (Jvm.Cond.stringLink own idx text).before C.args (C.s.setVm vm0) = true := mvS (s := C.s) h3 w
  obtain ⟨kB, cf, i, units, hkB, hcf, hpB, hu, hnm, htext, hres⟩ := Cond.stringLink_spec hownB wB
  rcases hres with hopen | ⟨a, hra⟩
  · -- open: the rebased cold law
    have hZT : Z.Warmed39 T.vm := State.Warmed39.trans (t := C.s.setVm vm0) h3 X.warmed.wide
    have JT : JJ Z n0 T.vm h Ds := JJ.warm (t := C.s.setVm vm0) h4 h3 X.warmed
    have hownT : T.vm.findClass own = some C.m.cls := by rw [X.warmed.alike.findClass]; exact hownB
    have wT : (Jvm.Cond.stringLink own idx text).before C.args T = true := mvS (s := T) (vm0 := T.vm) hZT w
    have hheld : ConstHeldL T own idx := fun c k cf i units a q1 q2 q3 q4 q5 q6 => (JT.2.2.2.2 own idx hm c k cf i units a q1 q2 q3 q4 q5 q6).slOf hZT.alike h5
    obtain ⟨a, T₂, X2, hS2, ⟨kk, hkk, hrr⟩, hkeep, hgr, hW2, hint1, hint, ⟨us, htu, hin⟩, st⟩ := ldcNow X h7.1 hownT wT (own_atoms hZT wS) hheld (fun units hu => Jvm.ClassFile.lat_of_text hu hlat) (g := mkF C.m pc Ls S) rfl (hb h7.2.1 hd) hn hbig hc hl
    have E : Ext h T₂.heap := by rw [← h5]; exact ext_of hkeep
    have sameU : ∀ u v : Array UInt16, utf16ToString? u = some text → utf16ToString? v = some text → u = v := fun u v hu hv => by
      apply Array.toList_inj.mp
      rw [Jvm.ClassFile.units_of_text hu hlat, Jvm.ClassFile.units_of_text hv hlat]
    -- the entry, as T and as T₂ have it
    obtain ⟨kT, cfT, iT, unT, hkT, hcfT, hpT, huT, hnmT, htT, hresT⟩ := Cond.stringLink_spec hownT wT
    obtain ⟨k2, hk2, hke2, -, ee2, -⟩ := hW2.2.2.2 _ kT hkT
    cases hk2.symm.trans hkk
    have hcl : NL = true → Z.WarmedH T₂.vm := fun e => by first | exact absurd e (by decide) | exact absurd hm (List.not_mem_nil)
    have hintJ : T₂.vm.interned = T.vm.interned ∨ ∃ (u : Array UInt16) (a' : Addr), T₂.vm.interned = T.vm.interned.push (u, a') ∧ (T.vm.interned.find? (fun p => p.1 == u) = none → Sx Z T₂.heap Ds a' u) := by
      rcases hint with e | ⟨u, a', hu', e⟩
      · exact Or.inl e
      · refine Or.inr ⟨u, a', e, fun hnone => ?_⟩
        have ha' : T.heap.size ≤ a' := by
          rcases hint1.2 with q | ⟨u2, a2, q, r1, -⟩
          · rw [q] at e
            have := congrArg Array.size e
            simp at this
          · have := q.symm.trans e
            have := Array.push_inj_right.mp this
            cases this
            exact r1
        -- a is a'
        have hopT : kT.resolved[idx]? = some none := open_stays X.warmed hkB hkT hcf hnm hopen
        have eu : u = unT := sameU _ _ hu' htT
        have eus : us = u := sameU _ _ htu hu'
        have haa : a = a' := by
          rcases ee2 idx with e0 | ⟨-, r, e1, hr | ⟨a3, t3, si, us3, rfl, -, z3, z4, z5⟩⟩
          · have := (e0.trans hopT).symm.trans hrr
            simp at this
          · exfalso
            cases r <;> simp [State.rightAt, hkT, hcfT, hnmT] at hr
          · rw [hcfT] at z3 z4
            have e3 : si = iT := by
              have := z3.symm.trans hpT
              simpa using this
            subst e3
            have e4 : us3 = unT := by simpa [ConstantPool.utf8?, huT] using z4.symm
            subst e4
            have ea : a3 = a := by have := e1.symm.trans hrr; simpa using this
            subst ea
            rw [e, Array.find?_push, ← eu, hnone, Option.none_or] at z5
            simp at z5
            exact z5.symm
        subst haa
        rw [← eus]
        exact Sx.of_in hin (State.Warmed39.trans hZT hW2).alike.symm (Nat.le_refl _) ha' (fun x hx => by rw [h5]; exact (h4.2.2.1 x hx).2)
    have J2 : JJ Z n0 T₂.vm T₂.heap Ds := (JT.ext E).step hZT hW2 hintJ hcl
    have hcf2 : kk.cf = some cfT := by rw [hke2]; exact hcfT
    have hown2 : T₂.vm.findClass own = some C.m.cls := by rw [hW2.alike.findClass]; exact hownT
    have SX := J2.2.2.2.2 own idx hm _ kk cfT iT unT a hown2 hkk hcf2 hpT huT (Or.inl hrr)
    obtain ⟨hstr, hnin⟩ := SX.str htT hlat hcs hlen
    exact ⟨T₂.heap, a, E, hstr, hnin, T₂, locs, T₂.vm, T₂.heap.size, X2, h1.trans hS2 (Nat.le_trans h2 E.1), Nat.le_refl _, State.Warmed39.trans hZT hW2, J2, rfl, h6, ⟨h7.1, h7.2.1, h7.2.2.1, hown2, h7.2.2.2.2⟩, fun t ht => k _ (st _ ht)⟩
  · -- resolved already
    have SX := h4.2.2.2.2 own idx hm _ kB cf i units a hownB hkB hcf hpB hu (Or.inl hra)
    obtain ⟨hstr, hnin⟩ := SX.str htext hlat hcs hlen
    have L : Lit (C.s.setVm vm0) own idx a := by
      have hkB' : vm0.classes[C.m.cls]? = some kB := hkB
      have hown' : vm0.findClass own = some C.m.cls := hownB
      simp [Lit, State.resolvedAt?, State.setVm, hown', hkB', hra]
    have st := ldcAgain X h7.1 h3 h7.2.2.2.1 w L (g := mkF C.m pc Ls S) rfl (hb h7.2.1 hd)
    exact ⟨h, a, ⟨Nat.le_refl _, fun _ _ q => q⟩, hstr, hnin, T, locs, vm0, k0, X.mono (by omega) (by omega), h1, h2, h3, h4, h5, h6, h7, fun t ht => k _ (st _ ht)⟩
theorem own_sx0 {s : State} {a : Addr} {units : Array UInt16} (F : SlOf s a units) : Sx s s.heap [] a units := by
  obtain ⟨q, cS, h1, h2, h3, h4, h5⟩ := F
  exact ⟨q, cS, h1, h2, h3, h4, h5, by simp, by simp⟩
theorem ch0 : ∀ c ∈ ([] : List Int32), ¬ c < 0 ∧ ¬ (255 : Int32) < c := fun c hc => nomatch hc
theorem chS {x : Int32} {cs : List Int32} (p : ¬ x < 0 ∧ ¬ (255 : Int32) < x) (q : ∀ c ∈ cs, ¬ c < 0 ∧ ¬ (255 : Int32) < c) : ∀ c ∈ x :: cs, ¬ c < 0 ∧ ¬ (255 : Int32) < c := fun c hc => by
  rcases List.mem_cons.mp hc with e | e
  · rw [e]; exact p
  · exact q c e
def bi (b : Bool) : Int32 := if b then 1 else 0
theorem bi_nar (b : Bool) : nar .boolean (bi b) = bi b := by cases b <;> rfl
theorem memS {n : Addr} {Ns Ds : List Addr} (h : n ∈ Ds) (f : ∀ x ∈ Ns, x ∈ Ds) : ∀ x ∈ n :: Ns, x ∈ Ds := fun x hx => by
  rcases List.mem_cons.mp hx with e | e
  · rw [e]; exact h
  · exact f x e
theorem own_toInt {x : Int32} (h : ¬ x < 0 ∧ ¬ (255 : Int32) < x) : 0 ≤ x.toInt ∧ x.toInt ≤ 255 := by
  obtain ⟨h1, h2⟩ := h
  rw [Int32.lt_iff_toInt_lt] at h1 h2
  have e0 : (0 : Int32).toInt = 0 := rfl
  have e1 : (255 : Int32).toInt = 255 := rfl
  omega
theorem ofFin {x : Int32} (h : ¬ x < 0 ∧ ¬ (255 : Int32) < x) : ∃ k : Fin 256, x = Int32.ofNat k.val := by
  have b := own_toInt h
  refine ⟨⟨x.toInt.toNat, by omega⟩, ?_⟩
  apply Int32.toInt_inj.mp
  rw [Int32.toInt_ofNat_of_lt (by show x.toInt.toNat < _; omega)]
  show x.toInt = (x.toInt.toNat : Int)
  omega
theorem nar_of {x : Int32} (h : ¬ x < 0 ∧ ¬ (255 : Int32) < x) : nar .char x = x := by
  obtain ⟨k, rfl⟩ := ofFin h
  revert k; decide +kernel
theorem own_nr {ty : FieldType} {v : Value} (ht : ty.isReference = true) (hv : v.isRef = true) : narrow ty v = v := by
  rcases ref_cases hv with rfl | ⟨_, rfl⟩ <;> cases ty <;> first | rfl | cases ht
theorem own_fr {ty : FieldType} {v : Value} (ht : ty.isReference = true) (hv : v.isRef = true) : fits ty v = true := by
  rcases ref_cases hv with rfl | ⟨_, rfl⟩ <;> cases ty <;> first | rfl | cases ht
theorem own_nsroot {Z : State} {a0 : Array Value} {O K : String} {n : Nat} (w : (Jvm.Cond.noSuperclass O).before a0 Z = true) (wi : (Jvm.Cond.instantiable K n).before a0 Z = true) (hn : O ≠ K) : NS Z O K := by
  obtain ⟨c, k, h1, h2, h3, -, -⟩ := Cond.noSuperclass_spec w
  obtain ⟨t, kt, g1, -⟩ := Cond.instantiable_spec wi
  have ne := ids_ne h1 g1 hn
  refine ⟨c, t, h1, g1, fun fuel => ?_⟩
  cases fuel with
  | zero => rfl
  | succ f => simp [Vm.isSubclassAux, ne, h2, h3]
theorem own_nsno {Z : State} {a0 : Array Value} {Cc S K : String} {m : Nat} (w : (Jvm.Cond.superclass Cc S).before a0 Z = true) (wi : (Jvm.Cond.instantiable K m).before a0 Z = true) (n : NS Z Cc K) (hn : Cc ≠ K) : ∃ c t, Z.vm.findClass Cc = some c ∧ Z.vm.findClass K = some t ∧ Z.vm.assignable c t = false := by
  obtain ⟨c, t, h0, g0, n3⟩ := n
  obtain ⟨p, k, kp, h1, h2, h3, h4, h5, -, h7⟩ := Cond.superclass_spec h0 w
  obtain ⟨t', k', g1, g2, g5, g7, -⟩ := Cond.instantiable_spec wi
  cases g0.symm.trans g1
  have g8 : k'.isInterface = false := by simp only [Bool.or_eq_false_iff] at g7; exact g7.1
  have ne := ids_ne h0 g0 hn
  refine ⟨c, t, h0, g0, ?_⟩
  show Z.vm.assignableAux (255 + 1) c t = false
  simp [Vm.assignableAux, ne, h2, g2, h5, g5, g8, Vm.isSubclass, n3]
/-! clones of arrays; more steps -/
theorem arv_of_arh {Z : State} {h : Heap} {a : Addr} {k : ClassId} {ty : FieldType} {z : Int32} {vs : List Value} {dv : Value} (F : Arh Z h a k ty z [] vs dv) : Arv Z h a k ty z vs dv := F
theorem Rc.clone {pc' idx W cap : Nat} {ad : String} {a : Addr} {kA : ClassId} {ty : FieldType} {z : Int32} {vs : List Value} {dv : Value} (H : Rc C R own bs ml Z n0 ce sl pc Ls (.ref a :: rest) h Ds)
    (w1 : (Jvm.Cond.methodLink own idx ⟨ad, "clone", "()Ljava/lang/Object;"⟩).before a0 Z = true) (w2 : (Jvm.Cond.sameMethod ad "java/lang/Object" "clone" "()Ljava/lang/Object;").before a0 Z = true) (w3 : (Jvm.Cond.native ⟨"java/lang/Object", "clone", "()Ljava/lang/Object;"⟩).before a0 Z = true)
    (w4 : (Jvm.Cond.instanceMethod ⟨"java/lang/Object", "clone", "()Ljava/lang/Object;"⟩).before a0 Z = true) (w5 : (Jvm.Cond.selects ad ⟨ad, "clone", "()Ljava/lang/Object;"⟩ ⟨"java/lang/Object", "clone", "()Ljava/lang/Object;"⟩).before a0 Z = true) (w6 : (Jvm.Cond.castable ad "java/lang/Cloneable").before a0 Z = true)
    (V : Arv Z h a kA ty z vs dv) (E : Exa Z h a ad) (hsz : Ls.size = ml) (hd : decode bs pc = .ok (.invokevirtual idx, 3)) (hf : 1 ≤ R.frames) (hW : (rest.map fun v => v.category).sum = W) (hl : W + 14 ≤ R.locals) (hcap : z.toNatClampNeg ≤ cap) (hc : ce + 1 ≤ R.cells) (hsl : sl + cap ≤ R.slots) (hp : pc + 3 = pc') :
    ∃ (h' : Heap) (b : Addr), b = h.size ∧ Ext h h' ∧ Arv Z h' b kA ty z vs dv ∧ Exa Z h' b ad ∧ Rc C R own bs ml Z n0 (ce + 1) (sl + cap) pc' Ls (.ref b :: rest) h' (b :: Ds) := by
  subst hp
  obtain ⟨T, locs, vm0, k0, X, h1, h2, h3, h4, h5, h6, h7, k⟩ := H
  obtain ⟨T', h', X', e', E', A', F', st⟩ := RoadKit.cloneH X h7.1 (Z := Z) h3 h7.2.2.2.1 w1 w2 w3 w4 w5 w6 h5 V.arh E (g := mkF C.m pc Ls (.ref a :: rest)) rfl (hsz.trans h7.2.2.1.symm) rfl (hb h7.2.1 hd) hf (W := W) (by show 2 * 0 + _ ≤ _; omega) hl hcap hc hsl
  exact ⟨h', h.size, rfl, E', arv_of_arh A', F', T', _, vm0, k0, X', h1, Nat.le_trans h2 E'.1, h3, h4.born E' F'.lt, e', h6, h7, fun t ht => k _ (st _ ht)⟩
theorem Rc.ldc2L {pc' idx : Nat} {v : Int64} (H : Rc C R own bs ml Z n0 ce sl pc Ls S h Ds) (w : (Jvm.Cond.constantLong own idx v).before a0 Z = true) (hd : decode bs pc = .ok (.ldc2_w idx, 3)) (hp : pc + 3 = pc') : Rc C R own bs ml Z n0 ce sl pc' Ls (.long v :: S) h Ds := by
  subst hp
  exact H.goX fun s T locs t X hZ hown eT hx hby kk => X.ldc2Long hx hown (mvT hZ w) (g := mkF C.m pc Ls S) rfl (hb hby hd) _ kk
theorem Rc.ldcI {pc' idx : Nat} {v : Int32} (H : Rc C R own bs ml Z n0 ce sl pc Ls S h Ds) (w : (Jvm.Cond.constant own idx v).before a0 Z = true) (hd : decode bs pc = .ok (.ldc idx, 2)) (hp : pc + 2 = pc') : Rc C R own bs ml Z n0 ce sl pc' Ls (.int v :: S) h Ds := by
  subst hp
  exact H.goX fun s T locs t X hZ hown eT hx hby kk => X.ldcInt hx hown (mvT hZ w) (g := mkF C.m pc Ls S) rfl (hb hby hd) _ kk
/-! the case's words, read -/
section GivenWords
variable {s : State} {args : Array Value} {t u : Term} {a b : Addr} {cl : Cell} {ty : FieldType} {i k : Int32} {v : Value} {Cc n d : String}
theorem g_int (h : (Jvm.Cond.eq t (.int k)).value args s none s [] = some true) : t.eval args s none [] s = some (.int k) := Cond.eq_int (Cond.before_iff.mpr h) rfl
theorem g_ref (h : (Jvm.Cond.eq t u).value args s none s [] = some true) (hu : u.eval args s none [] s = some (.ref b)) : t.eval args s none [] s = some (.ref b) := by
  obtain ⟨x, y, h1, h2, h3, h4⟩ := cmp_v (Or.inl h)
  rw [hu] at h2
  cases h2
  have hx : x.isRef = true := by
    cases x <;> simp_all [Kin, Value.isRef]
  have q := gotT (eq_R h1 hu hx rfl) h
  rw [h1, q]
theorem g_fld (ht : t.eval args s none [] s = some (.ref a)) (e : (Term.field t Cc n d).eval args s none [] s = some v) : Fld s s.heap a Cc n d v := Fld.start (by rw [← fld_at (args := args) (first := s) (o := none) (idx := []) (C := Cc) (n := n) (dd := d) ht]; exact e)
theorem g_elem (e : (Term.elem t (.int i)).eval args s none [] s = some v) (ht : t.eval args s none [] s = some (.ref a)) (A : Arr s s.heap a cl ty) : cl.slots[i.toNatClampNeg]? = some v := (elem_in e ht rfl A.1).2
theorem g_len (e : (Term.length t).eval args s none [] s = some (.int k)) (ht : t.eval args s none [] s = some (.ref a)) (A : Arr s s.heap a cl ty) : cl.slots.size < 2 ^ 31 ∧ cl.slots.size.toInt32 = k := by
  have ha : s.arrayAt? a = some cl := A.fin (own_al s)
  have hl : cl.slots.size < 2 ^ 31 := SBG.length_lt ht ha e
  have q := len_f ht ha hl
  rw [q] at e
  exact ⟨hl, by simpa using e⟩
theorem g_str {cs : List Int32} {kb : ClassId} {b' : Addr} (X : Exa s s.heap a "java/lang/String") (Fc : Fld s s.heap a "java/lang/String" "coder" "B" (.int 0)) (Fv : Fld s s.heap a "java/lang/String" "value" "[B" (.ref b')) (V : Arv s s.heap b' kb .byte (Int32.ofNat cs.length) (bytesOfCs cs) (.int 0)) (h1 : ∀ c ∈ cs, ¬ c < 0 ∧ ¬ (255 : Int32) < c) (h2 : cs.length ≤ 4000) : IsStr s s.heap a cs := ⟨X, Fc, h1, h2, b', kb, Fv, V⟩
end GivenWords
/-! iaload; a call of a private instance method -/
theorem Rc.iaload {pc' : Nat} {a : Addr} {j z : Int32} {v : Value} {kA : ClassId} {vs : List Value} {dv : Value} (H : Rc C R own bs ml Z n0 ce sl pc Ls (.int j :: .ref a :: rest) h Ds) (V : Arv Z h a kA .int z vs dv) (hj : ¬ j < 0 ∧ j < z) (hv : vs.getD j.toNatClampNeg dv = v) (hd : decode bs pc = .ok (.iaload, 1)) (hp : pc + 1 = pc') : Rc C R own bs ml Z n0 ce sl pc' Ls (v :: rest) h Ds := by
  subst hp
  obtain ⟨cl, Ar, q1, q2, q3, q4, q5⟩ := V
  exact H.goX fun s T locs t X hZ hown eT hx hby kk => X.iaload hx (j := j) (v := v) (by rw [eT]; exact Ar.1) (State.isArrayOf_alike hZ.alike Ar.2.1) Ar.2.2 (inb_of q2 hj) (q4.at (inb_of q2 hj) hv) (g := mkF C.m pc Ls (.int j :: .ref a :: rest)) rfl rfl (hb hby hd) _ kk
theorem Rc.callP {pc' : Nat} {y : MethodName} {idx ml' W : Nat} {by' : ByteArray} {ret' : Option FieldType} {rm : Room} {a : Addr} {argsL : List Value} {Q : Option Value → Heap → List Addr → Prop} (H : Rc C R own bs ml Z n0 ce sl pc Ls S h Ds)
    (hlink : (Jvm.Cond.methodLink own idx y).before a0 Z = true) (hpriv : (Jvm.Cond.privateMethod y).before a0 Z = true) (hsel : (Jvm.Cond.selects y.cls y y).before a0 Z = true) (hinst : (Jvm.Cond.instanceMethod y).before a0 Z = true) (hinit : (Jvm.Cond.initialized y.cls).before a0 Z = true) (hcode : (Jvm.Cond.code y by' ml' ret').before a0 Z = true) (hy : NoMH y)
    (E : Exa Z h a y.cls) (K : Ctr C.l Z y by' ml' ret' [] rm (.ref a :: argsL).toArray h n0 Ds Q) (hsz : Ls.size = ml) (hlen : ∀ sig, parseMethodDescriptor y.desc = some sig → argsL.length = sig.parameters.length) (hst : S = argsL.reverse ++ .ref a :: rest) (hW : (rest.map fun v => v.category).sum = W)
    (hd : decode bs pc = .ok (.invokevirtual idx, 3)) (hfr : rm.frames + 1 ≤ R.frames) (hlo : W + (ml' + 11) + rm.locals ≤ R.locals) (hce : ce + rm.cells ≤ R.cells) (hsl : sl + rm.slots ≤ R.slots) (hp : pc + 3 = pc') :
    ∃ (v : Option Value) (h' : Heap) (Ds' : List Addr), Q v h' Ds' ∧ Rc C R own bs ml Z n0 (ce + rm.cells) (sl + rm.slots) pc' Ls (v.toList ++ rest) h' Ds' := by
  subst hp hst
  obtain ⟨T, locs, vm0, k0, X, h1, h2, h3, h4, h5, h6, h7, k⟩ := H
  obtain ⟨cq, kq, qa, qb, ⟨cellB, hcellT, hclsB, hstatB⟩⟩ := isOf (s := C.s.setVm vm0) h3 h5 E
  obtain ⟨v, vm₁, B, hw1, X', hS', hgr, hq, st⟩ := X.privateBackS h7.1 (y := y) h7.2.2.2.1 (mvT (s := C.s.setVm vm0) h3 hlink) (mvT (s := C.s.setVm vm0) h3 hinst) (mvT (s := C.s.setVm vm0) h3 hsel) (Cond.privateMethod_at (args := C.args) (mvT (s := C.s.setVm vm0) h3 hpriv)) (mvT (s := C.s.setVm vm0) h3 hcode) hy (ctrBack (s := C.s.setVm vm0) (W := W) K h3 h4 hcode hinit hfr hlo) (g := mkF C.m pc Ls (argsL.reverse ++ .ref a :: rest)) rfl (hsz.trans h7.2.2.1.symm) (Steps.refl _) hcellT (fun z h => by rw [h] at hstatB; cases hstatB) hlen rfl (by show 2 * 0 + _ ≤ _; omega) (hb h7.2.1 hd) (fun vm₁ hw => ⟨rfl, h5, hce, hsl⟩)
  exact own_fin h1 h2 h3 h5 h6 h7 k X' hS' hgr hq st
/-! the String laws of the paste, in the forward form -/
abbrev CompactOn (Z : State) : Prop := ∃ z : Int32, Sta Z Z.heap "java/lang/String" "COMPACT_STRINGS" "Z" (.int z) ∧ ¬ z = 0
abbrev SiooOk (Z : State) : Prop := ∃ fm : Value, Sta Z Z.heap "jdk/internal/util/Preconditions" "SIOOBE_FORMATTER" "Ljava/util/function/BiFunction;" fm ∧ fm.isRef = true
theorem own_up {cs : List Int32} (h : ∀ c ∈ cs, ¬ c < 0 ∧ ¬ (255 : Int32) < c) : ∀ c ∈ cs, ¬ c < 0 ∧ ¬ (65535 : Int32) < c := fun c hc => ⟨(h c hc).1, fun q => (h c hc).2 (by rw [Int32.lt_iff_toInt_lt] at q ⊢; have e1 : (65535 : Int32).toInt = 65535 := rfl; have e2 : (255 : Int32).toInt = 255 := rfl; omega)⟩
/-! ldc of a String constant of which nothing is said -/
theorem Rc.ldcAny {pc' idx n : Nat} {text : String} (H : Rc C R own bs ml Z n0 ce sl pc Ls S h Ds) (hCL : CL = []) (hNL : NL = false) (w : (Jvm.Cond.stringLink own idx text).before a0 Z = true) (wS : ∀ d ∈ Bundle.stringAtoms, d.before a0 Z = true)
    (hd : decode bs pc = .ok (.ldc idx, 2)) (hn : 4 * text.toList.length ≤ n) (hbig : n ≤ 536870912) (hc : ce + 2 ≤ R.cells) (hl : sl + (n + 4) ≤ R.slots) (hp : pc + 2 = pc') :
    ∃ (h' : Heap) (a : Addr), Ext h h' ∧ Rc C R own bs ml Z n0 (ce + 2) (sl + (n + 4)) pc' Ls (.ref a :: S) h' Ds := by
  subst hp
  obtain ⟨T, locs, vm0, k0, X, h1, h2, h3, h4, h5, h6, h7, k⟩ := H
  have wB : (Jvm.Cond.stringLink own idx text).before C.args (C.s.setVm vm0) = true := mvS (s := C.s) h3 w
  obtain ⟨a, T₂, X2, hS2, -, hkeep, hint, st⟩ := X.ldcStringCold h7.1 h7.2.2.2.1 wB (own_atoms (s := C.s.setVm vm0) h3 wS) (g := mkF C.m pc Ls S) rfl (hb h7.2.1 hd) hn hbig hc hl
  have E : Ext h T₂.heap := by rw [← h5]; exact ext_of hkeep
  have q := h4.ext E
  have J' : JJ Z n0 T₂.vm T₂.heap Ds := ⟨q.1, fun e => (by rw [hNL] at e; cases e), q.2.2.1, q.2.2.2.1, fun o i hm => (by rw [hCL] at hm; cases hm)⟩
  exact ⟨T₂.heap, a, E, T₂, locs, T₂.vm, T₂.heap.size, X2, h1.trans hS2 (Nat.le_trans h2 E.1), Nat.le_refl _, State.Warmed39.trans (t := C.s.setVm vm0) h3 hS2.1, J', rfl, h6, ⟨h7.1, h7.2.1, h7.2.2.1, by rw [hS2.1.alike.findClass]; exact h7.2.2.2.1, h7.2.2.2.2⟩, fun t ht => k _ (st _ ht)⟩
end OwnKit
theorem own_and255 (x : Int32) : ∃ k : Fin 256, x &&& 255 = Int32.ofNat k.val := by
  have h : (x &&& 255).toBitVec.toNat < 256 := by
    simp only [Int32.toBitVec_and, BitVec.toNat_and]
    exact Nat.lt_succ_of_le Nat.and_le_right
  refine ⟨⟨_, h⟩, ?_⟩
  apply Int32.toBitVec_inj.mp
  show _ = BitVec.ofNat 32 _
  rw [BitVec.ofNat_toNat]; simp
theorem own_and7 (x : Int32) : ∃ k : Fin 8, x &&& 7 = Int32.ofNat k.val := by
  have h : (x &&& 7).toBitVec.toNat < 8 := by
    simp only [Int32.toBitVec_and, BitVec.toNat_and]
    exact Nat.lt_succ_of_le Nat.and_le_right
  refine ⟨⟨_, h⟩, ?_⟩
  apply Int32.toBitVec_inj.mp
  show _ = BitVec.ofNat 32 _
  rw [BitVec.ofNat_toNat]; simp
theorem own_and3 (x : Int32) : ∃ k : Fin 4, x &&& 3 = Int32.ofNat k.val := by
  have h : (x &&& 3).toBitVec.toNat < 4 := by
    simp only [Int32.toBitVec_and, BitVec.toNat_and]
    exact Nat.lt_succ_of_le Nat.and_le_right
  refine ⟨⟨_, h⟩, ?_⟩
  apply Int32.toBitVec_inj.mp
  show _ = BitVec.ofNat 32 _
  rw [BitVec.ofNat_toNat]; simp
theorem own_and1 (x : Int32) : ∃ k : Fin 2, x &&& 1 = Int32.ofNat k.val := by
  have h : (x &&& 1).toBitVec.toNat < 2 := by
    simp only [Int32.toBitVec_and, BitVec.toNat_and]
    exact Nat.lt_succ_of_le Nat.and_le_right
  refine ⟨⟨_, h⟩, ?_⟩
  apply Int32.toBitVec_inj.mp
  show _ = BitVec.ofNat 32 _
  rw [BitVec.ofNat_toNat]; simp
theorem own_lt {i j : Nat} (hj : j ≤ 4000) (h : i < j) : Int32.ofNat i < Int32.ofNat j := by
  rw [Int32.lt_iff_toInt_lt, Int32.toInt_ofNat_of_lt (by omega), Int32.toInt_ofNat_of_lt (by omega)]; omega
theorem own_nlt {i j : Nat} (hi : i ≤ 4000) (h : j ≤ i) : ¬ Int32.ofNat i < Int32.ofNat j := by
  rw [Int32.lt_iff_toInt_lt, Int32.toInt_ofNat_of_lt (by omega), Int32.toInt_ofNat_of_lt (by omega)]; omega
theorem i32_succ (i : Nat) : Int32.ofNat i + 1 = Int32.ofNat (i + 1) := by
  apply Int32.toBitVec_inj.mp
  show BitVec.ofNat 32 i + 1#32 = BitVec.ofNat 32 (i + 1)
  rw [BitVec.ofNat_add]
theorem nar_i2c (x : Int32) : nar .char x.toUInt32.toUInt16.toUInt32.toInt32 = x.toUInt32.toUInt16.toUInt32.toInt32 := by
  generalize x.toUInt32.toUInt16 = y
  simp [nar]
theorem c255 (x : Int32) : ¬ (x &&& (255 : Int32)).toUInt32.toUInt16.toUInt32.toInt32 < 0 ∧ ¬ (255 : Int32) < (x &&& (255 : Int32)).toUInt32.toUInt16.toUInt32.toInt32 := by
  obtain ⟨k, hk⟩ := own_and255 x
  rw [hk]
  clear hk; revert k; decide +kernel
theorem own_ltI {k n : Nat} (hk : k ≤ 4000) (hn : n ≤ 4000) (h : Int32.ofNat k < Int32.ofNat n) : k < n := by
  apply Classical.byContradiction; intro q
  exact own_nlt hk (by omega) h
theorem own_getD {cs : List Int32} {k : Nat} (h : k < cs.length) (p : ∀ c ∈ cs, ¬ c < 0 ∧ ¬ (255 : Int32) < c) : ¬ cs.getD k 0 < 0 ∧ ¬ (255 : Int32) < cs.getD k 0 := by
  rw [List.getD_eq_getElem?_getD, List.getElem?_eq_getElem h]
  exact p _ (List.getElem_mem h)
theorem own_l255 (x : Int64) : ∃ k : Fin 256, x &&& 255 = Int64.ofNat k.val := by
  have h : (x &&& 255).toBitVec.toNat < 256 := by
    simp only [Int64.toBitVec_and, BitVec.toNat_and]
    exact Nat.lt_succ_of_le Nat.and_le_right
  refine ⟨⟨_, h⟩, ?_⟩
  apply Int64.toBitVec_inj.mp
  show _ = BitVec.ofNat 64 _
  rw [BitVec.ofNat_toNat]; simp
theorem cl255 (x : Int64) : ¬ (x &&& (255 : Int64)).toInt32.toUInt32.toUInt16.toUInt32.toInt32 < 0 ∧ ¬ (255 : Int32) < (x &&& (255 : Int64)).toInt32.toUInt32.toUInt16.toUInt32.toInt32 := by
  obtain ⟨k, hk⟩ := own_l255 x
  rw [hk]
  clear hk; revert k; decide +kernel
theorem own_clamp {k : Nat} (h : k < 2147483648) : (Int32.ofNat k).toNatClampNeg = k := by
  show (Int32.ofNat k).toInt.toNat = k
  rw [Int32.toInt_ofNat_of_lt (by omega)]; omega
theorem own_j {k n : Nat} (hn : n ≤ 4000) (h : k < n) : ¬ Int32.ofNat k < 0 ∧ Int32.ofNat k < Int32.ofNat n := ⟨own_nlt (j := 0) (by omega) (Nat.zero_le _), own_lt hn h⟩
theorem own_bget {cs : List Int32} {k : Nat} (hl : cs.length ≤ 4000) (h : k < cs.length) : (bytesOfCs cs).getD (Int32.ofNat k).toNatClampNeg (.int 0) = .int (cs.getD k 0).toInt8.toInt32 := by
  rw [own_clamp (by omega)]
  simp only [bytesOfCs, List.getD_eq_getElem?_getD, List.getElem?_map, List.getElem?_eq_getElem h]
  rfl
theorem own_b2c {c : Int32} (h : ¬ c < 0 ∧ ¬ (255 : Int32) < c) : (c.toInt8.toInt32 &&& (255 : Int32)).toUInt32.toUInt16.toUInt32.toInt32 = c := by
  obtain ⟨k, rfl⟩ := ofFin h
  clear h; revert k; decide +kernel
theorem nar_i2b (x : Int32) : nar .byte x.toInt8.toInt32 = x.toInt8.toInt32 := by
  generalize x.toInt8 = y
  simp [nar]
theorem own_shr0 (c : Int32) : c >>> ((0 : Int32) &&& 31) = c := by
  apply Int32.toBitVec_inj.mp
  simp
theorem dig_b (j : Fin 10) : ¬ ((48 : Int32) + Int32.ofNat j.val).toUInt32.toUInt16.toUInt32.toInt32 < 0 ∧ ¬ (255 : Int32) < ((48 : Int32) + Int32.ofNat j.val).toUInt32.toUInt16.toUInt32.toInt32 := by
  revert j; decide +kernel
theorem own_mod {k n : Nat} (hk : k < 2147483648) (h0 : 0 < n) (hn : n < 4000) : Int32.ofNat k % Int32.ofNat n = Int32.ofNat (k % n) := by
  have hm : k % n < n := Nat.mod_lt _ h0
  apply Int32.toInt_inj.mp
  rw [Int32.toInt_mod, Int32.toInt_ofNat_of_lt (by omega), Int32.toInt_ofNat_of_lt (by omega), Int32.toInt_ofNat_of_lt (by omega)]
  exact (Int.ofNat_tmod k n).symm
theorem own_mod10 (x : Int32) : ∃ j : Fin 10, (x &&& (2147483647 : Int32)) % (10 : Int32) = Int32.ofNat j.val := by
  have hb : (x &&& (2147483647 : Int32)).toBitVec.toNat < 2147483648 := by
    simp only [Int32.toBitVec_and, BitVec.toNat_and]
    exact Nat.lt_succ_of_le Nat.and_le_right
  have e : x &&& (2147483647 : Int32) = Int32.ofNat (x &&& (2147483647 : Int32)).toBitVec.toNat := by
    apply Int32.toBitVec_inj.mp
    show _ = BitVec.ofNat 32 _
    rw [BitVec.ofNat_toNat]; simp
  refine ⟨⟨(x &&& (2147483647 : Int32)).toBitVec.toNat % 10, Nat.mod_lt _ (by decide)⟩, ?_⟩
  rw [e]
  have q := own_mod (n := 10) hb (by decide) (by decide)
  rw [← e] at q ⊢
  exact q
theorem own_n2 {x : Int32} (h : ¬ (1 : Int32) + (x &&& 1) = 2) : (1 : Int32) + (x &&& 1) = 1 := by
  obtain ⟨k, hk⟩ := own_and1 x
  rw [hk] at h ⊢
  clear hk; revert h; revert k; decide +kernel
theorem own_d9_0 : decode jdk_41_method_13_code 0 = .ok (.iload_n 2, 1) := by decide +kernel
theorem own_d9_1 : decode jdk_41_method_13_code 1 = .ok (.iload_n 0, 1) := by decide +kernel
theorem own_d9_2 : decode jdk_41_method_13_code 2 = .ok (.ior, 1) := by decide +kernel
theorem own_d9_3 : decode jdk_41_method_13_code 3 = .ok (.iload_n 1, 1) := by decide +kernel
theorem own_d9_4 : decode jdk_41_method_13_code 4 = .ok (.ior, 1) := by decide +kernel
theorem own_d9_5 : decode jdk_41_method_13_code 5 = .ok (.ifCond .lt 10, 3) := by decide +kernel
theorem own_d9_8 : decode jdk_41_method_13_code 8 = .ok (.iload_n 1, 1) := by decide +kernel
theorem own_d9_9 : decode jdk_41_method_13_code 9 = .ok (.iload_n 2, 1) := by decide +kernel
theorem own_d9_10 : decode jdk_41_method_13_code 10 = .ok (.iload_n 0, 1) := by decide +kernel
theorem own_d9_11 : decode jdk_41_method_13_code 11 = .ok (.isub, 1) := by decide +kernel
theorem own_d9_12 : decode jdk_41_method_13_code 12 = .ok (.if_icmp .le 11, 3) := by decide +kernel
theorem own_d9_23 : decode jdk_41_method_13_code 23 = .ok (.iload_n 0, 1) := by decide +kernel
theorem own_d9_24 : decode jdk_41_method_13_code 24 = .ok (.ireturn, 1) := by decide +kernel
theorem own_pn0 : plainName "jdk/internal/util/Preconditions" = true := by first | (simp [plainName, overriddenIn]; done) | decide +kernel
theorem own_d8_0 : decode jdk_42_method_157_code 0 = .ok (.iload_n 0, 1) := by decide +kernel
theorem own_d8_1 : decode jdk_42_method_157_code 1 = .ok (.iload_n 1, 1) := by decide +kernel
theorem own_d8_2 : decode jdk_42_method_157_code 2 = .ok (.iload_n 2, 1) := by decide +kernel
theorem own_w54 {a0 : Array Value} {Z : State} (hw : ∀ d ∈ tables_1, d.before a0 Z = true) : (Jvm.Cond.fieldLink "java/lang/String" (1053 : Nat) "jdk/internal/util/Preconditions" "SIOOBE_FORMATTER" "Ljava/util/function/BiFunction;").before a0 Z = true := hw _ (List.mem_of_getElem? (i := 54) rfl)
theorem own_d8_3 : decode jdk_42_method_157_code 3 = .ok (.getstatic 1053, 3) := by decide +kernel
theorem own_w56 {a0 : Array Value} {Z : State} (hw : ∀ d ∈ tables_1, d.before a0 Z = true) : (Jvm.Cond.methodLink "java/lang/String" (1065 : Nat) ({ cls := "jdk/internal/util/Preconditions", name := "checkFromIndexSize", desc := "(IIILjava/util/function/BiFunction;)I" } : Jvm.MethodName)).before a0 Z = true := hw _ (List.mem_of_getElem? (i := 56) rfl)
theorem own_pd0 : parseMethodDescriptor "(IIILjava/util/function/BiFunction;)I" = some ⟨[.int, .int, .int, (.object "java/util/function/BiFunction")], some .int⟩ := by decide +kernel
theorem own_d8_6 : decode jdk_42_method_157_code 6 = .ok (.invokestatic 1065, 3) := by decide +kernel
theorem own_w57 {a0 : Array Value} {Z : State} (hw : ∀ d ∈ tables_1, d.before a0 Z = true) : (Jvm.Cond.static ({ cls := "jdk/internal/util/Preconditions", name := "checkFromIndexSize", desc := "(IIILjava/util/function/BiFunction;)I" } : Jvm.MethodName)).before a0 Z = true := hw _ (List.mem_of_getElem? (i := 57) rfl)
theorem own_w55 {a0 : Array Value} {Z : State} (hw : ∀ d ∈ tables_1, d.before a0 Z = true) : (Jvm.Cond.initialized "jdk/internal/util/Preconditions").before a0 Z = true := hw _ (List.mem_of_getElem? (i := 55) rfl)
theorem own_w58 {a0 : Array Value} {Z : State} (hw : ∀ d ∈ tables_1, d.before a0 Z = true) : (Jvm.Cond.code ({ cls := "jdk/internal/util/Preconditions", name := "checkFromIndexSize", desc := "(IIILjava/util/function/BiFunction;)I" } : Jvm.MethodName) jdk_41_method_13_code (4 : Nat) (Option.some Jvm.ClassFile.FieldType.int)).before a0 Z = true := hw _ (List.mem_of_getElem? (i := 58) rfl)
theorem own_d8_9 : decode jdk_42_method_157_code 9 = .ok (.ireturn, 1) := by decide +kernel
theorem own_pn1 : plainName "java/lang/String" = true := by first | (simp [plainName, overriddenIn]; done) | decide +kernel
theorem own_d7_0 : decode jdk_42_method_5_code 0 = .ok (.iload_n 1, 1) := by decide +kernel
theorem own_d7_1 : decode jdk_42_method_5_code 1 = .ok (.iload_n 2, 1) := by decide +kernel
theorem own_d7_2 : decode jdk_42_method_5_code 2 = .ok (.aload_n 0, 1) := by decide +kernel
theorem own_d7_3 : decode jdk_42_method_5_code 3 = .ok (.arraylength, 1) := by decide +kernel
theorem own_w51 {a0 : Array Value} {Z : State} (hw : ∀ d ∈ tables_1, d.before a0 Z = true) : (Jvm.Cond.methodLink "java/lang/String" (34 : Nat) ({ cls := "java/lang/String", name := "checkBoundsOffCount", desc := "(III)I" } : Jvm.MethodName)).before a0 Z = true := hw _ (List.mem_of_getElem? (i := 51) rfl)
theorem own_pd1 : parseMethodDescriptor "(III)I" = some ⟨[.int, .int, .int], some .int⟩ := by decide +kernel
theorem own_d7_4 : decode jdk_42_method_5_code 4 = .ok (.invokestatic 34, 3) := by decide +kernel
theorem own_w52 {a0 : Array Value} {Z : State} (hw : ∀ d ∈ tables_1, d.before a0 Z = true) : (Jvm.Cond.static ({ cls := "java/lang/String", name := "checkBoundsOffCount", desc := "(III)I" } : Jvm.MethodName)).before a0 Z = true := hw _ (List.mem_of_getElem? (i := 52) rfl)
theorem own_w44 {a0 : Array Value} {Z : State} (hw : ∀ d ∈ tables_1, d.before a0 Z = true) : (Jvm.Cond.initialized "java/lang/String").before a0 Z = true := hw _ (List.mem_of_getElem? (i := 44) rfl)
theorem own_w53 {a0 : Array Value} {Z : State} (hw : ∀ d ∈ tables_1, d.before a0 Z = true) : (Jvm.Cond.code ({ cls := "java/lang/String", name := "checkBoundsOffCount", desc := "(III)I" } : Jvm.MethodName) jdk_42_method_157_code (3 : Nat) (Option.some Jvm.ClassFile.FieldType.int)).before a0 Z = true := hw _ (List.mem_of_getElem? (i := 53) rfl)
theorem own_d7_7 : decode jdk_42_method_5_code 7 = .ok (.pop, 1) := by decide +kernel
theorem own_d7_8 : decode jdk_42_method_5_code 8 = .ok (.aconst_null, 1) := by decide +kernel
theorem own_d7_9 : decode jdk_42_method_5_code 9 = .ok (.areturn, 1) := by decide +kernel
theorem own_d12_0 : decode jdk_52_method_21_code 0 = .ok (.iconst 0, 1) := by decide +kernel
theorem own_d12_1 : decode jdk_52_method_21_code 1 = .ok (.istore 5, 2) := by decide +kernel
theorem own_d12_3 : decode jdk_52_method_21_code 3 = .ok (.iload 5, 2) := by decide +kernel
theorem own_d12_5 : decode jdk_52_method_21_code 5 = .ok (.iload 4, 2) := by decide +kernel
theorem own_d12_7 : decode jdk_52_method_21_code 7 = .ok (.if_icmp .ge 37, 3) := by decide +kernel
theorem own_d12_10 : decode jdk_52_method_21_code 10 = .ok (.aload_n 0, 1) := by decide +kernel
theorem own_d12_11 : decode jdk_52_method_21_code 11 = .ok (.iload_n 1, 1) := by decide +kernel
theorem own_d12_12 : decode jdk_52_method_21_code 12 = .ok (.caload, 1) := by decide +kernel
theorem own_d12_13 : decode jdk_52_method_21_code 13 = .ok (.istore 6, 2) := by decide +kernel
theorem own_d12_15 : decode jdk_52_method_21_code 15 = .ok (.iload 6, 2) := by decide +kernel
theorem own_d12_17 : decode jdk_52_method_21_code 17 = .ok (.sipush 255, 3) := by decide +kernel
theorem own_d12_20 : decode jdk_52_method_21_code 20 = .ok (.if_icmp .le 6, 3) := by decide +kernel
theorem own_d12_26 : decode jdk_52_method_21_code 26 = .ok (.aload_n 2, 1) := by decide +kernel
theorem own_d12_27 : decode jdk_52_method_21_code 27 = .ok (.iload_n 3, 1) := by decide +kernel
theorem own_d12_28 : decode jdk_52_method_21_code 28 = .ok (.iload 6, 2) := by decide +kernel
theorem own_d12_30 : decode jdk_52_method_21_code 30 = .ok (.i2b, 1) := by decide +kernel
theorem own_d12_31 : decode jdk_52_method_21_code 31 = .ok (.bastore, 1) := by decide +kernel
theorem own_d12_32 : decode jdk_52_method_21_code 32 = .ok (.iinc 1 1, 3) := by decide +kernel
theorem own_d12_35 : decode jdk_52_method_21_code 35 = .ok (.iinc 3 1, 3) := by decide +kernel
theorem own_d12_38 : decode jdk_52_method_21_code 38 = .ok (.iinc 5 1, 3) := by decide +kernel
theorem own_d12_41 : decode jdk_52_method_21_code 41 = .ok (.goto (-38), 3) := by decide +kernel
theorem own_d12_44 : decode jdk_52_method_21_code 44 = .ok (.iload 4, 2) := by decide +kernel
theorem own_d12_46 : decode jdk_52_method_21_code 46 = .ok (.ireturn, 1) := by decide +kernel
theorem own_pn2 : plainName "java/lang/StringUTF16" = true := by first | (simp [plainName, overriddenIn]; done) | decide +kernel
theorem own_d11_0 : decode jdk_52_method_16_code 0 = .ok (.iload_n 2, 1) := by decide +kernel
theorem own_w69 {a0 : Array Value} {Z : State} (hw : ∀ d ∈ tables_1, d.before a0 Z = true) : (Jvm.Cond.arrayClass Jvm.ClassFile.FieldType.byte).before a0 Z = true := hw _ (List.mem_of_getElem? (i := 69) rfl)
theorem own_d11_1 : decode jdk_52_method_16_code 1 = .ok (.newarray .byte, 2) := by decide +kernel
theorem own_d11_3 : decode jdk_52_method_16_code 3 = .ok (.astore_n 3, 1) := by decide +kernel
theorem own_d11_4 : decode jdk_52_method_16_code 4 = .ok (.aload_n 0, 1) := by decide +kernel
theorem own_d11_5 : decode jdk_52_method_16_code 5 = .ok (.iload_n 1, 1) := by decide +kernel
theorem own_d11_6 : decode jdk_52_method_16_code 6 = .ok (.aload_n 3, 1) := by decide +kernel
theorem own_d11_7 : decode jdk_52_method_16_code 7 = .ok (.iconst 0, 1) := by decide +kernel
theorem own_d11_8 : decode jdk_52_method_16_code 8 = .ok (.iload_n 2, 1) := by decide +kernel
theorem own_w70 {a0 : Array Value} {Z : State} (hw : ∀ d ∈ tables_1, d.before a0 Z = true) : (Jvm.Cond.methodLink "java/lang/StringUTF16" (115 : Nat) ({ cls := "java/lang/StringUTF16", name := "compress", desc := "([CI[BII)I" } : Jvm.MethodName)).before a0 Z = true := hw _ (List.mem_of_getElem? (i := 70) rfl)
theorem own_pd2 : parseMethodDescriptor "([CI[BII)I" = some ⟨[(.array .char), .int, (.array .byte), .int, .int], some .int⟩ := by decide +kernel
theorem own_d11_9 : decode jdk_52_method_16_code 9 = .ok (.invokestatic 115, 3) := by decide +kernel
theorem own_w71 {a0 : Array Value} {Z : State} (hw : ∀ d ∈ tables_1, d.before a0 Z = true) : (Jvm.Cond.static ({ cls := "java/lang/StringUTF16", name := "compress", desc := "([CI[BII)I" } : Jvm.MethodName)).before a0 Z = true := hw _ (List.mem_of_getElem? (i := 71) rfl)
theorem own_w67 {a0 : Array Value} {Z : State} (hw : ∀ d ∈ tables_1, d.before a0 Z = true) : (Jvm.Cond.initialized "java/lang/StringUTF16").before a0 Z = true := hw _ (List.mem_of_getElem? (i := 67) rfl)
theorem own_w72 {a0 : Array Value} {Z : State} (hw : ∀ d ∈ tables_1, d.before a0 Z = true) : (Jvm.Cond.code ({ cls := "java/lang/StringUTF16", name := "compress", desc := "([CI[BII)I" } : Jvm.MethodName) jdk_52_method_21_code (7 : Nat) (Option.some Jvm.ClassFile.FieldType.int)).before a0 Z = true := hw _ (List.mem_of_getElem? (i := 72) rfl)
theorem own_d11_12 : decode jdk_52_method_16_code 12 = .ok (.istore 4, 2) := by decide +kernel
theorem own_d11_14 : decode jdk_52_method_16_code 14 = .ok (.iload 4, 2) := by decide +kernel
theorem own_d11_16 : decode jdk_52_method_16_code 16 = .ok (.iload_n 2, 1) := by decide +kernel
theorem own_d11_17 : decode jdk_52_method_16_code 17 = .ok (.if_icmp .eq 40, 3) := by decide +kernel
theorem own_d11_57 : decode jdk_52_method_16_code 57 = .ok (.aload_n 3, 1) := by decide +kernel
theorem own_d11_58 : decode jdk_52_method_16_code 58 = .ok (.areturn, 1) := by decide +kernel
theorem own_d13_0 : decode jdk_52_method_15_code 0 = .ok (.iload_n 1, 1) := by decide +kernel
theorem own_d13_1 : decode jdk_52_method_15_code 1 = .ok (.aload_n 0, 1) := by decide +kernel
theorem own_d13_2 : decode jdk_52_method_15_code 2 = .ok (.arraylength, 1) := by decide +kernel
theorem own_d13_3 : decode jdk_52_method_15_code 3 = .ok (.isub, 1) := by decide +kernel
theorem own_d13_4 : decode jdk_52_method_15_code 4 = .ok (.bipush 31, 2) := by decide +kernel
theorem own_d13_6 : decode jdk_52_method_15_code 6 = .ok (.iushr, 1) := by decide +kernel
theorem own_d13_7 : decode jdk_52_method_15_code 7 = .ok (.i2b, 1) := by decide +kernel
theorem own_d13_8 : decode jdk_52_method_15_code 8 = .ok (.ireturn, 1) := by decide +kernel
theorem own_d10_0 : decode jdk_42_method_149_code 0 = .ok (.aload_n 0, 1) := by decide +kernel
theorem own_w63 {a0 : Array Value} {Z : State} (hw : ∀ d ∈ tables_1, d.before a0 Z = true) : (Jvm.Cond.methodLink "java/lang/String" (1 : Nat) ({ cls := "java/lang/Object", name := "<init>", desc := "()V" } : Jvm.MethodName)).before a0 Z = true := hw _ (List.mem_of_getElem? (i := 63) rfl)
theorem own_w10 {a0 : Array Value} {Z : State} (hw : ∀ d ∈ tables_1, d.before a0 Z = true) : (Jvm.Cond.code ({ cls := "java/lang/Object", name := "<init>", desc := "()V" } : Jvm.MethodName) object_method_1_code (1 : Nat) (Option.none : Option Jvm.ClassFile.FieldType)).before a0 Z = true := hw _ (List.mem_of_getElem? (i := 10) rfl)
theorem own_w9 {a0 : Array Value} {Z : State} (hw : ∀ d ∈ tables_1, d.before a0 Z = true) : (Jvm.Cond.instanceMethod ({ cls := "java/lang/Object", name := "<init>", desc := "()V" } : Jvm.MethodName)).before a0 Z = true := hw _ (List.mem_of_getElem? (i := 9) rfl)
theorem own_d10_1 : decode jdk_42_method_149_code 1 = .ok (.invokespecial 1, 3) := by decide +kernel
theorem own_d10_4 : decode jdk_42_method_149_code 4 = .ok (.iload_n 3, 1) := by decide +kernel
theorem own_d10_5 : decode jdk_42_method_149_code 5 = .ok (.ifCond .ne 22, 3) := by decide +kernel
theorem own_w64 {a0 : Array Value} {Z : State} (hw : ∀ d ∈ tables_1, d.before a0 Z = true) : (Jvm.Cond.fieldLink "java/lang/String" (38 : Nat) "java/lang/String" "COMPACT_STRINGS" "Z").before a0 Z = true := hw _ (List.mem_of_getElem? (i := 64) rfl)
theorem own_d10_27 : decode jdk_42_method_149_code 27 = .ok (.getstatic 38, 3) := by decide +kernel
theorem own_d10_30 : decode jdk_42_method_149_code 30 = .ok (.ifCond .eq 28, 3) := by decide +kernel
theorem own_d10_33 : decode jdk_42_method_149_code 33 = .ok (.aload_n 1, 1) := by decide +kernel
theorem own_d10_34 : decode jdk_42_method_149_code 34 = .ok (.iload_n 2, 1) := by decide +kernel
theorem own_d10_35 : decode jdk_42_method_149_code 35 = .ok (.iload_n 3, 1) := by decide +kernel
theorem own_w65 {a0 : Array Value} {Z : State} (hw : ∀ d ∈ tables_1, d.before a0 Z = true) : (Jvm.Cond.methodLink "java/lang/String" (177 : Nat) ({ cls := "java/lang/StringUTF16", name := "compress", desc := "([CII)[B" } : Jvm.MethodName)).before a0 Z = true := hw _ (List.mem_of_getElem? (i := 65) rfl)
theorem own_pd3 : parseMethodDescriptor "([CII)[B" = some ⟨[(.array .char), .int, .int], some (.array .byte)⟩ := by decide +kernel
theorem own_d10_36 : decode jdk_42_method_149_code 36 = .ok (.invokestatic 177, 3) := by decide +kernel
theorem own_w66 {a0 : Array Value} {Z : State} (hw : ∀ d ∈ tables_1, d.before a0 Z = true) : (Jvm.Cond.static ({ cls := "java/lang/StringUTF16", name := "compress", desc := "([CII)[B" } : Jvm.MethodName)).before a0 Z = true := hw _ (List.mem_of_getElem? (i := 66) rfl)
theorem own_w68 {a0 : Array Value} {Z : State} (hw : ∀ d ∈ tables_1, d.before a0 Z = true) : (Jvm.Cond.code ({ cls := "java/lang/StringUTF16", name := "compress", desc := "([CII)[B" } : Jvm.MethodName) jdk_52_method_16_code (6 : Nat) (Option.some (Jvm.ClassFile.FieldType.array Jvm.ClassFile.FieldType.byte))).before a0 Z = true := hw _ (List.mem_of_getElem? (i := 68) rfl)
theorem own_d10_39 : decode jdk_42_method_149_code 39 = .ok (.astore 5, 2) := by decide +kernel
theorem own_w43 {a0 : Array Value} {Z : State} (hw : ∀ d ∈ tables_1, d.before a0 Z = true) : (Jvm.Cond.instantiable "java/lang/String" (4 : Nat)).before a0 Z = true := hw _ (List.mem_of_getElem? (i := 43) rfl)
theorem own_d10_41 : decode jdk_42_method_149_code 41 = .ok (.aload_n 0, 1) := by decide +kernel
theorem own_d10_42 : decode jdk_42_method_149_code 42 = .ok (.aload 5, 2) := by decide +kernel
theorem own_d10_44 : decode jdk_42_method_149_code 44 = .ok (.iload_n 3, 1) := by decide +kernel
theorem own_w73 {a0 : Array Value} {Z : State} (hw : ∀ d ∈ tables_1, d.before a0 Z = true) : (Jvm.Cond.methodLink "java/lang/String" (47 : Nat) ({ cls := "java/lang/StringUTF16", name := "coderFromArrayLen", desc := "([BI)B" } : Jvm.MethodName)).before a0 Z = true := hw _ (List.mem_of_getElem? (i := 73) rfl)
theorem own_pd4 : parseMethodDescriptor "([BI)B" = some ⟨[(.array .byte), .int], some .byte⟩ := by decide +kernel
theorem own_d10_45 : decode jdk_42_method_149_code 45 = .ok (.invokestatic 47, 3) := by decide +kernel
theorem own_w74 {a0 : Array Value} {Z : State} (hw : ∀ d ∈ tables_1, d.before a0 Z = true) : (Jvm.Cond.static ({ cls := "java/lang/StringUTF16", name := "coderFromArrayLen", desc := "([BI)B" } : Jvm.MethodName)).before a0 Z = true := hw _ (List.mem_of_getElem? (i := 74) rfl)
theorem own_w75 {a0 : Array Value} {Z : State} (hw : ∀ d ∈ tables_1, d.before a0 Z = true) : (Jvm.Cond.code ({ cls := "java/lang/StringUTF16", name := "coderFromArrayLen", desc := "([BI)B" } : Jvm.MethodName) jdk_52_method_15_code (2 : Nat) (Option.some Jvm.ClassFile.FieldType.byte)).before a0 Z = true := hw _ (List.mem_of_getElem? (i := 75) rfl)
theorem own_w76 {a0 : Array Value} {Z : State} (hw : ∀ d ∈ tables_1, d.before a0 Z = true) : (Jvm.Cond.fieldLink "java/lang/String" (15 : Nat) "java/lang/String" "coder" "B").before a0 Z = true := hw _ (List.mem_of_getElem? (i := 76) rfl)
theorem own_w77 {a0 : Array Value} {Z : State} (hw : ∀ d ∈ tables_1, d.before a0 Z = true) : (Jvm.Cond.laysFinal "java/lang/String" "java/lang/String" "coder" "B").before a0 Z = true := hw _ (List.mem_of_getElem? (i := 77) rfl)
theorem own_d10_48 : decode jdk_42_method_149_code 48 = .ok (.putfield 15, 3) := by decide +kernel
theorem own_w79 {a0 : Array Value} {Z : State} (hw : ∀ d ∈ tables_1, d.before a0 Z = true) : (Jvm.Cond.laysFinal "java/lang/String" "java/lang/String" "value" "[B").before a0 Z = true := hw _ (List.mem_of_getElem? (i := 79) rfl)
theorem own_d10_51 : decode jdk_42_method_149_code 51 = .ok (.aload_n 0, 1) := by decide +kernel
theorem own_d10_52 : decode jdk_42_method_149_code 52 = .ok (.aload 5, 2) := by decide +kernel
theorem own_w78 {a0 : Array Value} {Z : State} (hw : ∀ d ∈ tables_1, d.before a0 Z = true) : (Jvm.Cond.fieldLink "java/lang/String" (9 : Nat) "java/lang/String" "value" "[B").before a0 Z = true := hw _ (List.mem_of_getElem? (i := 78) rfl)
theorem own_d10_54 : decode jdk_42_method_149_code 54 = .ok (.putfield 9, 3) := by decide +kernel
theorem own_d10_57 : decode jdk_42_method_149_code 57 = .ok (.return_, 1) := by decide +kernel
theorem own_d6_0 : decode jdk_42_method_4_code 0 = .ok (.aload_n 0, 1) := by decide +kernel
theorem own_d6_1 : decode jdk_42_method_4_code 1 = .ok (.aload_n 1, 1) := by decide +kernel
theorem own_d6_2 : decode jdk_42_method_4_code 2 = .ok (.iload_n 2, 1) := by decide +kernel
theorem own_d6_3 : decode jdk_42_method_4_code 3 = .ok (.iload_n 3, 1) := by decide +kernel
theorem own_d6_4 : decode jdk_42_method_4_code 4 = .ok (.aload_n 1, 1) := by decide +kernel
theorem own_d6_5 : decode jdk_42_method_4_code 5 = .ok (.iload_n 2, 1) := by decide +kernel
theorem own_d6_6 : decode jdk_42_method_4_code 6 = .ok (.iload_n 3, 1) := by decide +kernel
theorem own_w48 {a0 : Array Value} {Z : State} (hw : ∀ d ∈ tables_1, d.before a0 Z = true) : (Jvm.Cond.methodLink "java/lang/String" (30 : Nat) ({ cls := "java/lang/String", name := "rangeCheck", desc := "([CII)Ljava/lang/Void;" } : Jvm.MethodName)).before a0 Z = true := hw _ (List.mem_of_getElem? (i := 48) rfl)
theorem own_pd5 : parseMethodDescriptor "([CII)Ljava/lang/Void;" = some ⟨[(.array .char), .int, .int], some (.object "java/lang/Void")⟩ := by decide +kernel
theorem own_d6_7 : decode jdk_42_method_4_code 7 = .ok (.invokestatic 30, 3) := by decide +kernel
theorem own_w49 {a0 : Array Value} {Z : State} (hw : ∀ d ∈ tables_1, d.before a0 Z = true) : (Jvm.Cond.static ({ cls := "java/lang/String", name := "rangeCheck", desc := "([CII)Ljava/lang/Void;" } : Jvm.MethodName)).before a0 Z = true := hw _ (List.mem_of_getElem? (i := 49) rfl)
theorem own_w50 {a0 : Array Value} {Z : State} (hw : ∀ d ∈ tables_1, d.before a0 Z = true) : (Jvm.Cond.code ({ cls := "java/lang/String", name := "rangeCheck", desc := "([CII)Ljava/lang/Void;" } : Jvm.MethodName) jdk_42_method_5_code (3 : Nat) (Option.some (Jvm.ClassFile.FieldType.object "java/lang/Void"))).before a0 Z = true := hw _ (List.mem_of_getElem? (i := 50) rfl)
theorem own_w59 {a0 : Array Value} {Z : State} (hw : ∀ d ∈ tables_1, d.before a0 Z = true) : (Jvm.Cond.methodLink "java/lang/String" (27 : Nat) ({ cls := "java/lang/String", name := "<init>", desc := "([CIILjava/lang/Void;)V" } : Jvm.MethodName)).before a0 Z = true := hw _ (List.mem_of_getElem? (i := 59) rfl)
theorem own_pd6 : parseMethodDescriptor "([CIILjava/lang/Void;)V" = some ⟨[(.array .char), .int, .int, (.object "java/lang/Void")], none⟩ := by decide +kernel
theorem own_d6_10 : decode jdk_42_method_4_code 10 = .ok (.invokespecial 27, 3) := by decide +kernel
theorem own_w60 {a0 : Array Value} {Z : State} (hw : ∀ d ∈ tables_1, d.before a0 Z = true) : (Jvm.Cond.instanceMethod ({ cls := "java/lang/String", name := "<init>", desc := "([CIILjava/lang/Void;)V" } : Jvm.MethodName)).before a0 Z = true := hw _ (List.mem_of_getElem? (i := 60) rfl)
theorem own_w62 {a0 : Array Value} {Z : State} (hw : ∀ d ∈ tables_1, d.before a0 Z = true) : (Jvm.Cond.code ({ cls := "java/lang/String", name := "<init>", desc := "([CIILjava/lang/Void;)V" } : Jvm.MethodName) jdk_42_method_149_code (6 : Nat) (Option.none : Option Jvm.ClassFile.FieldType)).before a0 Z = true := hw _ (List.mem_of_getElem? (i := 62) rfl)
theorem own_d6_13 : decode jdk_42_method_4_code 13 = .ok (.return_, 1) := by decide +kernel
theorem own_w42 {a0 : Array Value} {Z : State} (hw : ∀ d ∈ tables_1, d.before a0 Z = true) : (Jvm.Cond.classLink "com/example/pinsheet/pinsheet/WholeNumbers$Reading" (63 : Nat) "java/lang/String").before a0 Z = true := hw _ (List.mem_of_getElem? (i := 42) rfl)
theorem own_d5_0 : decode prog_18_method_6_code 0 = .ok (.new 63, 3) := by decide +kernel
theorem own_d5_3 : decode prog_18_method_6_code 3 = .ok (.dup, 1) := by decide +kernel
theorem own_d5_4 : decode prog_18_method_6_code 4 = .ok (.aload_n 0, 1) := by decide +kernel
theorem own_w11 {a0 : Array Value} {Z : State} (hw : ∀ d ∈ tables_1, d.before a0 Z = true) : (Jvm.Cond.fieldLink "com/example/pinsheet/pinsheet/WholeNumbers$Reading" (11 : Nat) "com/example/pinsheet/pinsheet/WholeNumbers$Reading" "quoted" "[C").before a0 Z = true := hw _ (List.mem_of_getElem? (i := 11) rfl)
theorem own_d5_5 : decode prog_18_method_6_code 5 = .ok (.getfield 11, 3) := by decide +kernel
theorem own_d5_8 : decode prog_18_method_6_code 8 = .ok (.iconst 0, 1) := by decide +kernel
theorem own_d5_9 : decode prog_18_method_6_code 9 = .ok (.aload_n 0, 1) := by decide +kernel
theorem own_w20 {a0 : Array Value} {Z : State} (hw : ∀ d ∈ tables_1, d.before a0 Z = true) : (Jvm.Cond.fieldLink "com/example/pinsheet/pinsheet/WholeNumbers$Reading" (19 : Nat) "com/example/pinsheet/pinsheet/WholeNumbers$Reading" "quotedLength" "I").before a0 Z = true := hw _ (List.mem_of_getElem? (i := 20) rfl)
theorem own_d5_10 : decode prog_18_method_6_code 10 = .ok (.getfield 19, 3) := by decide +kernel
theorem own_w45 {a0 : Array Value} {Z : State} (hw : ∀ d ∈ tables_1, d.before a0 Z = true) : (Jvm.Cond.methodLink "com/example/pinsheet/pinsheet/WholeNumbers$Reading" (65 : Nat) ({ cls := "java/lang/String", name := "<init>", desc := "([CII)V" } : Jvm.MethodName)).before a0 Z = true := hw _ (List.mem_of_getElem? (i := 45) rfl)
theorem own_pd7 : parseMethodDescriptor "([CII)V" = some ⟨[(.array .char), .int, .int], none⟩ := by decide +kernel
theorem own_d5_13 : decode prog_18_method_6_code 13 = .ok (.invokespecial 65, 3) := by decide +kernel
theorem own_w46 {a0 : Array Value} {Z : State} (hw : ∀ d ∈ tables_1, d.before a0 Z = true) : (Jvm.Cond.instanceMethod ({ cls := "java/lang/String", name := "<init>", desc := "([CII)V" } : Jvm.MethodName)).before a0 Z = true := hw _ (List.mem_of_getElem? (i := 46) rfl)
theorem own_w47 {a0 : Array Value} {Z : State} (hw : ∀ d ∈ tables_1, d.before a0 Z = true) : (Jvm.Cond.code ({ cls := "java/lang/String", name := "<init>", desc := "([CII)V" } : Jvm.MethodName) jdk_42_method_4_code (4 : Nat) (Option.none : Option Jvm.ClassFile.FieldType)).before a0 Z = true := hw _ (List.mem_of_getElem? (i := 47) rfl)
theorem own_d5_16 : decode prog_18_method_6_code 16 = .ok (.areturn, 1) := by decide +kernel
theorem own_pn3 : plainName "com/example/pinsheet/pinsheet/WholeNumbers$Reading" = true := by first | (simp [plainName, overriddenIn]; done) | decide +kernel
theorem own_d15_0 : decode jdk_42_method_152_code 0 = .ok (.getstatic 38, 3) := by decide +kernel
theorem own_d15_3 : decode jdk_42_method_152_code 3 = .ok (.ifCond .eq 10, 3) := by decide +kernel
theorem own_d15_6 : decode jdk_42_method_152_code 6 = .ok (.aload_n 0, 1) := by decide +kernel
theorem own_d15_7 : decode jdk_42_method_152_code 7 = .ok (.getfield 15, 3) := by decide +kernel
theorem own_d15_10 : decode jdk_42_method_152_code 10 = .ok (.goto 4, 3) := by decide +kernel
theorem own_d15_14 : decode jdk_42_method_152_code 14 = .ok (.ireturn, 1) := by decide +kernel
theorem own_d17_0 : decode jdk_42_method_154_code 0 = .ok (.getstatic 38, 3) := by decide +kernel
theorem own_d17_3 : decode jdk_42_method_154_code 3 = .ok (.ifCond .eq 14, 3) := by decide +kernel
theorem own_d17_6 : decode jdk_42_method_154_code 6 = .ok (.aload_n 0, 1) := by decide +kernel
theorem own_d17_7 : decode jdk_42_method_154_code 7 = .ok (.getfield 15, 3) := by decide +kernel
theorem own_d17_10 : decode jdk_42_method_154_code 10 = .ok (.ifCond .ne 7, 3) := by decide +kernel
theorem own_d17_13 : decode jdk_42_method_154_code 13 = .ok (.iconst 1, 1) := by decide +kernel
theorem own_d17_14 : decode jdk_42_method_154_code 14 = .ok (.goto 4, 3) := by decide +kernel
theorem own_d17_18 : decode jdk_42_method_154_code 18 = .ok (.ireturn, 1) := by decide +kernel
theorem own_d14_0 : decode jdk_42_method_54_code 0 = .ok (.aload_n 0, 1) := by decide +kernel
theorem own_d14_1 : decode jdk_42_method_54_code 1 = .ok (.getfield 9, 3) := by decide +kernel
theorem own_d14_4 : decode jdk_42_method_54_code 4 = .ok (.arraylength, 1) := by decide +kernel
theorem own_d14_5 : decode jdk_42_method_54_code 5 = .ok (.aload_n 0, 1) := by decide +kernel
theorem own_w85 {a0 : Array Value} {Z : State} (hw : ∀ d ∈ tables_1, d.before a0 Z = true) : (Jvm.Cond.methodLink "java/lang/String" (335 : Nat) ({ cls := "java/lang/String", name := "coder", desc := "()B" } : Jvm.MethodName)).before a0 Z = true := hw _ (List.mem_of_getElem? (i := 85) rfl)
theorem own_pd8 : parseMethodDescriptor "()B" = some ⟨[], some .byte⟩ := by decide +kernel
theorem own_d14_6 : decode jdk_42_method_54_code 6 = .ok (.invokevirtual 335, 3) := by decide +kernel
theorem own_w88 {a0 : Array Value} {Z : State} (hw : ∀ d ∈ tables_1, d.before a0 Z = true) : (Jvm.Cond.selects "java/lang/String" ({ cls := "java/lang/String", name := "coder", desc := "()B" } : Jvm.MethodName) ({ cls := "java/lang/String", name := "coder", desc := "()B" } : Jvm.MethodName)).before a0 Z = true := hw _ (List.mem_of_getElem? (i := 88) rfl)
theorem own_w86 {a0 : Array Value} {Z : State} (hw : ∀ d ∈ tables_1, d.before a0 Z = true) : (Jvm.Cond.declares ({ cls := "java/lang/String", name := "coder", desc := "()B" } : Jvm.MethodName)).before a0 Z = true := hw _ (List.mem_of_getElem? (i := 86) rfl)
theorem own_w87 {a0 : Array Value} {Z : State} (hw : ∀ d ∈ tables_1, d.before a0 Z = true) : (Jvm.Cond.instanceMethod ({ cls := "java/lang/String", name := "coder", desc := "()B" } : Jvm.MethodName)).before a0 Z = true := hw _ (List.mem_of_getElem? (i := 87) rfl)
theorem own_w89 {a0 : Array Value} {Z : State} (hw : ∀ d ∈ tables_1, d.before a0 Z = true) : (Jvm.Cond.code ({ cls := "java/lang/String", name := "coder", desc := "()B" } : Jvm.MethodName) jdk_42_method_152_code (1 : Nat) (Option.some Jvm.ClassFile.FieldType.byte)).before a0 Z = true := hw _ (List.mem_of_getElem? (i := 89) rfl)
theorem own_d14_9 : decode jdk_42_method_54_code 9 = .ok (.ishr, 1) := by decide +kernel
theorem own_d14_10 : decode jdk_42_method_54_code 10 = .ok (.ireturn, 1) := by decide +kernel
theorem own_d20_0 : decode jdk_41_method_11_code 0 = .ok (.iload_n 0, 1) := by decide +kernel
theorem own_d20_1 : decode jdk_41_method_11_code 1 = .ok (.ifCond .lt 8, 3) := by decide +kernel
theorem own_d20_4 : decode jdk_41_method_11_code 4 = .ok (.iload_n 0, 1) := by decide +kernel
theorem own_d20_5 : decode jdk_41_method_11_code 5 = .ok (.iload_n 1, 1) := by decide +kernel
theorem own_d20_6 : decode jdk_41_method_11_code 6 = .ok (.if_icmp .lt 10, 3) := by decide +kernel
theorem own_d20_16 : decode jdk_41_method_11_code 16 = .ok (.iload_n 0, 1) := by decide +kernel
theorem own_d20_17 : decode jdk_41_method_11_code 17 = .ok (.ireturn, 1) := by decide +kernel
theorem own_d19_0 : decode jdk_42_method_155_code 0 = .ok (.iload_n 0, 1) := by decide +kernel
theorem own_d19_1 : decode jdk_42_method_155_code 1 = .ok (.iload_n 1, 1) := by decide +kernel
theorem own_d19_2 : decode jdk_42_method_155_code 2 = .ok (.getstatic 1053, 3) := by decide +kernel
theorem own_w107 {a0 : Array Value} {Z : State} (hw : ∀ d ∈ tables_1, d.before a0 Z = true) : (Jvm.Cond.methodLink "java/lang/String" (1059 : Nat) ({ cls := "jdk/internal/util/Preconditions", name := "checkIndex", desc := "(IILjava/util/function/BiFunction;)I" } : Jvm.MethodName)).before a0 Z = true := hw _ (List.mem_of_getElem? (i := 107) rfl)
theorem own_pd9 : parseMethodDescriptor "(IILjava/util/function/BiFunction;)I" = some ⟨[.int, .int, (.object "java/util/function/BiFunction")], some .int⟩ := by decide +kernel
theorem own_d19_5 : decode jdk_42_method_155_code 5 = .ok (.invokestatic 1059, 3) := by decide +kernel
theorem own_w108 {a0 : Array Value} {Z : State} (hw : ∀ d ∈ tables_1, d.before a0 Z = true) : (Jvm.Cond.static ({ cls := "jdk/internal/util/Preconditions", name := "checkIndex", desc := "(IILjava/util/function/BiFunction;)I" } : Jvm.MethodName)).before a0 Z = true := hw _ (List.mem_of_getElem? (i := 108) rfl)
theorem own_w109 {a0 : Array Value} {Z : State} (hw : ∀ d ∈ tables_1, d.before a0 Z = true) : (Jvm.Cond.code ({ cls := "jdk/internal/util/Preconditions", name := "checkIndex", desc := "(IILjava/util/function/BiFunction;)I" } : Jvm.MethodName) jdk_41_method_11_code (3 : Nat) (Option.some Jvm.ClassFile.FieldType.int)).before a0 Z = true := hw _ (List.mem_of_getElem? (i := 109) rfl)
theorem own_d19_8 : decode jdk_42_method_155_code 8 = .ok (.pop, 1) := by decide +kernel
theorem own_d19_9 : decode jdk_42_method_155_code 9 = .ok (.return_, 1) := by decide +kernel
theorem own_d18_0 : decode jdk_43_method_2_code 0 = .ok (.iload_n 1, 1) := by decide +kernel
theorem own_d18_1 : decode jdk_43_method_2_code 1 = .ok (.aload_n 0, 1) := by decide +kernel
theorem own_d18_2 : decode jdk_43_method_2_code 2 = .ok (.arraylength, 1) := by decide +kernel
theorem own_w104 {a0 : Array Value} {Z : State} (hw : ∀ d ∈ tables_1, d.before a0 Z = true) : (Jvm.Cond.methodLink "java/lang/StringLatin1" (9 : Nat) ({ cls := "java/lang/String", name := "checkIndex", desc := "(II)V" } : Jvm.MethodName)).before a0 Z = true := hw _ (List.mem_of_getElem? (i := 104) rfl)
theorem own_pd10 : parseMethodDescriptor "(II)V" = some ⟨[.int, .int], none⟩ := by decide +kernel
theorem own_d18_3 : decode jdk_43_method_2_code 3 = .ok (.invokestatic 9, 3) := by decide +kernel
theorem own_w105 {a0 : Array Value} {Z : State} (hw : ∀ d ∈ tables_1, d.before a0 Z = true) : (Jvm.Cond.static ({ cls := "java/lang/String", name := "checkIndex", desc := "(II)V" } : Jvm.MethodName)).before a0 Z = true := hw _ (List.mem_of_getElem? (i := 105) rfl)
theorem own_w106 {a0 : Array Value} {Z : State} (hw : ∀ d ∈ tables_1, d.before a0 Z = true) : (Jvm.Cond.code ({ cls := "java/lang/String", name := "checkIndex", desc := "(II)V" } : Jvm.MethodName) jdk_42_method_155_code (2 : Nat) (Option.none : Option Jvm.ClassFile.FieldType)).before a0 Z = true := hw _ (List.mem_of_getElem? (i := 106) rfl)
theorem own_d18_6 : decode jdk_43_method_2_code 6 = .ok (.aload_n 0, 1) := by decide +kernel
theorem own_d18_7 : decode jdk_43_method_2_code 7 = .ok (.iload_n 1, 1) := by decide +kernel
theorem own_d18_8 : decode jdk_43_method_2_code 8 = .ok (.baload, 1) := by decide +kernel
theorem own_d18_9 : decode jdk_43_method_2_code 9 = .ok (.sipush 255, 3) := by decide +kernel
theorem own_d18_12 : decode jdk_43_method_2_code 12 = .ok (.iand, 1) := by decide +kernel
theorem own_d18_13 : decode jdk_43_method_2_code 13 = .ok (.i2c, 1) := by decide +kernel
theorem own_d18_14 : decode jdk_43_method_2_code 14 = .ok (.ireturn, 1) := by decide +kernel
theorem own_pn4 : plainName "java/lang/StringLatin1" = true := by first | (simp [plainName, overriddenIn]; done) | decide +kernel
theorem own_d16_0 : decode jdk_42_method_56_code 0 = .ok (.aload_n 0, 1) := by decide +kernel
theorem own_w95 {a0 : Array Value} {Z : State} (hw : ∀ d ∈ tables_1, d.before a0 Z = true) : (Jvm.Cond.methodLink "java/lang/String" (492 : Nat) ({ cls := "java/lang/String", name := "isLatin1", desc := "()Z" } : Jvm.MethodName)).before a0 Z = true := hw _ (List.mem_of_getElem? (i := 95) rfl)
theorem own_pd11 : parseMethodDescriptor "()Z" = some ⟨[], some .boolean⟩ := by decide +kernel
theorem own_d16_1 : decode jdk_42_method_56_code 1 = .ok (.invokevirtual 492, 3) := by decide +kernel
theorem own_w98 {a0 : Array Value} {Z : State} (hw : ∀ d ∈ tables_1, d.before a0 Z = true) : (Jvm.Cond.selects "java/lang/String" ({ cls := "java/lang/String", name := "isLatin1", desc := "()Z" } : Jvm.MethodName) ({ cls := "java/lang/String", name := "isLatin1", desc := "()Z" } : Jvm.MethodName)).before a0 Z = true := hw _ (List.mem_of_getElem? (i := 98) rfl)
theorem own_w96 {a0 : Array Value} {Z : State} (hw : ∀ d ∈ tables_1, d.before a0 Z = true) : (Jvm.Cond.declares ({ cls := "java/lang/String", name := "isLatin1", desc := "()Z" } : Jvm.MethodName)).before a0 Z = true := hw _ (List.mem_of_getElem? (i := 96) rfl)
theorem own_w97 {a0 : Array Value} {Z : State} (hw : ∀ d ∈ tables_1, d.before a0 Z = true) : (Jvm.Cond.instanceMethod ({ cls := "java/lang/String", name := "isLatin1", desc := "()Z" } : Jvm.MethodName)).before a0 Z = true := hw _ (List.mem_of_getElem? (i := 97) rfl)
theorem own_w99 {a0 : Array Value} {Z : State} (hw : ∀ d ∈ tables_1, d.before a0 Z = true) : (Jvm.Cond.code ({ cls := "java/lang/String", name := "isLatin1", desc := "()Z" } : Jvm.MethodName) jdk_42_method_154_code (1 : Nat) (Option.some Jvm.ClassFile.FieldType.boolean)).before a0 Z = true := hw _ (List.mem_of_getElem? (i := 99) rfl)
theorem own_d16_4 : decode jdk_42_method_56_code 4 = .ok (.ifCond .eq 12, 3) := by decide +kernel
theorem own_d16_7 : decode jdk_42_method_56_code 7 = .ok (.aload_n 0, 1) := by decide +kernel
theorem own_d16_8 : decode jdk_42_method_56_code 8 = .ok (.getfield 9, 3) := by decide +kernel
theorem own_d16_11 : decode jdk_42_method_56_code 11 = .ok (.iload_n 1, 1) := by decide +kernel
theorem own_w100 {a0 : Array Value} {Z : State} (hw : ∀ d ∈ tables_1, d.before a0 Z = true) : (Jvm.Cond.methodLink "java/lang/String" (495 : Nat) ({ cls := "java/lang/StringLatin1", name := "charAt", desc := "([BI)C" } : Jvm.MethodName)).before a0 Z = true := hw _ (List.mem_of_getElem? (i := 100) rfl)
theorem own_pd12 : parseMethodDescriptor "([BI)C" = some ⟨[(.array .byte), .int], some .char⟩ := by decide +kernel
theorem own_d16_12 : decode jdk_42_method_56_code 12 = .ok (.invokestatic 495, 3) := by decide +kernel
theorem own_w101 {a0 : Array Value} {Z : State} (hw : ∀ d ∈ tables_1, d.before a0 Z = true) : (Jvm.Cond.static ({ cls := "java/lang/StringLatin1", name := "charAt", desc := "([BI)C" } : Jvm.MethodName)).before a0 Z = true := hw _ (List.mem_of_getElem? (i := 101) rfl)
theorem own_w102 {a0 : Array Value} {Z : State} (hw : ∀ d ∈ tables_1, d.before a0 Z = true) : (Jvm.Cond.initialized "java/lang/StringLatin1").before a0 Z = true := hw _ (List.mem_of_getElem? (i := 102) rfl)
theorem own_w103 {a0 : Array Value} {Z : State} (hw : ∀ d ∈ tables_1, d.before a0 Z = true) : (Jvm.Cond.code ({ cls := "java/lang/StringLatin1", name := "charAt", desc := "([BI)C" } : Jvm.MethodName) jdk_43_method_2_code (2 : Nat) (Option.some Jvm.ClassFile.FieldType.char)).before a0 Z = true := hw _ (List.mem_of_getElem? (i := 103) rfl)
theorem own_d16_15 : decode jdk_42_method_56_code 15 = .ok (.ireturn, 1) := by decide +kernel
theorem own_d1_0 : decode prog_18_method_1_code 0 = .ok (.aload_n 0, 1) := by decide +kernel
theorem own_w8 {a0 : Array Value} {Z : State} (hw : ∀ d ∈ tables_1, d.before a0 Z = true) : (Jvm.Cond.methodLink "com/example/pinsheet/pinsheet/WholeNumbers$Reading" (3 : Nat) ({ cls := "java/lang/Object", name := "<init>", desc := "()V" } : Jvm.MethodName)).before a0 Z = true := hw _ (List.mem_of_getElem? (i := 8) rfl)
theorem own_d1_1 : decode prog_18_method_1_code 1 = .ok (.invokespecial 3, 3) := by decide +kernel
theorem own_d1_4 : decode prog_18_method_1_code 4 = .ok (.aload_n 0, 1) := by decide +kernel
theorem own_d1_5 : decode prog_18_method_1_code 5 = .ok (.bipush 32, 2) := by decide +kernel
theorem own_w1 {a0 : Array Value} {Z : State} (hw : ∀ d ∈ tables_1, d.before a0 Z = true) : (Jvm.Cond.arrayClass Jvm.ClassFile.FieldType.char).before a0 Z = true := hw _ (List.mem_of_getElem? (i := 1) rfl)
theorem own_d1_7 : decode prog_18_method_1_code 7 = .ok (.newarray .char, 2) := by decide +kernel
theorem own_w3 {a0 : Array Value} {Z : State} (hw : ∀ d ∈ tables_1, d.before a0 Z = true) : (Jvm.Cond.instantiable "com/example/pinsheet/pinsheet/WholeNumbers$Reading" (7 : Nat)).before a0 Z = true := hw _ (List.mem_of_getElem? (i := 3) rfl)
theorem own_w12 {a0 : Array Value} {Z : State} (hw : ∀ d ∈ tables_1, d.before a0 Z = true) : (Jvm.Cond.laysFinal "com/example/pinsheet/pinsheet/WholeNumbers$Reading" "com/example/pinsheet/pinsheet/WholeNumbers$Reading" "quoted" "[C").before a0 Z = true := hw _ (List.mem_of_getElem? (i := 12) rfl)
theorem own_d1_9 : decode prog_18_method_1_code 9 = .ok (.putfield 11, 3) := by decide +kernel
theorem own_w21 {a0 : Array Value} {Z : State} (hw : ∀ d ∈ tables_1, d.before a0 Z = true) : (Jvm.Cond.lays "com/example/pinsheet/pinsheet/WholeNumbers$Reading" "com/example/pinsheet/pinsheet/WholeNumbers$Reading" "quotedLength" "I").before a0 Z = true := hw _ (List.mem_of_getElem? (i := 21) rfl)
theorem own_w23 {a0 : Array Value} {Z : State} (hw : ∀ d ∈ tables_1, d.before a0 Z = true) : (Jvm.Cond.lays "com/example/pinsheet/pinsheet/WholeNumbers$Reading" "com/example/pinsheet/pinsheet/WholeNumbers$Reading" "cut" "Z").before a0 Z = true := hw _ (List.mem_of_getElem? (i := 23) rfl)
theorem own_w25 {a0 : Array Value} {Z : State} (hw : ∀ d ∈ tables_1, d.before a0 Z = true) : (Jvm.Cond.lays "com/example/pinsheet/pinsheet/WholeNumbers$Reading" "com/example/pinsheet/pinsheet/WholeNumbers$Reading" "negative" "Z").before a0 Z = true := hw _ (List.mem_of_getElem? (i := 25) rfl)
theorem own_w27 {a0 : Array Value} {Z : State} (hw : ∀ d ∈ tables_1, d.before a0 Z = true) : (Jvm.Cond.lays "com/example/pinsheet/pinsheet/WholeNumbers$Reading" "com/example/pinsheet/pinsheet/WholeNumbers$Reading" "digits" "Z").before a0 Z = true := hw _ (List.mem_of_getElem? (i := 27) rfl)
theorem own_w14 {a0 : Array Value} {Z : State} (hw : ∀ d ∈ tables_1, d.before a0 Z = true) : (Jvm.Cond.lays "com/example/pinsheet/pinsheet/WholeNumbers$Reading" "com/example/pinsheet/pinsheet/WholeNumbers$Reading" "wellFormed" "Z").before a0 Z = true := hw _ (List.mem_of_getElem? (i := 14) rfl)
theorem own_w29 {a0 : Array Value} {Z : State} (hw : ∀ d ∈ tables_1, d.before a0 Z = true) : (Jvm.Cond.lays "com/example/pinsheet/pinsheet/WholeNumbers$Reading" "com/example/pinsheet/pinsheet/WholeNumbers$Reading" "magnitude" "J").before a0 Z = true := hw _ (List.mem_of_getElem? (i := 29) rfl)
theorem own_d1_12 : decode prog_18_method_1_code 12 = .ok (.aload_n 0, 1) := by decide +kernel
theorem own_d1_13 : decode prog_18_method_1_code 13 = .ok (.iconst 1, 1) := by decide +kernel
theorem own_w13 {a0 : Array Value} {Z : State} (hw : ∀ d ∈ tables_1, d.before a0 Z = true) : (Jvm.Cond.fieldLink "com/example/pinsheet/pinsheet/WholeNumbers$Reading" (15 : Nat) "com/example/pinsheet/pinsheet/WholeNumbers$Reading" "wellFormed" "Z").before a0 Z = true := hw _ (List.mem_of_getElem? (i := 13) rfl)
theorem own_d1_14 : decode prog_18_method_1_code 14 = .ok (.putfield 15, 3) := by decide +kernel
theorem own_d1_17 : decode prog_18_method_1_code 17 = .ok (.return_, 1) := by decide +kernel
theorem own_d4_0 : decode prog_18_method_2_code 0 = .ok (.aload_n 0, 1) := by decide +kernel
theorem own_d4_1 : decode prog_18_method_2_code 1 = .ok (.getfield 19, 3) := by decide +kernel
theorem own_d4_4 : decode prog_18_method_2_code 4 = .ok (.ifCond .ne 14, 3) := by decide +kernel
theorem own_d4_7 : decode prog_18_method_2_code 7 = .ok (.aload_n 0, 1) := by decide +kernel
theorem own_w22 {a0 : Array Value} {Z : State} (hw : ∀ d ∈ tables_1, d.before a0 Z = true) : (Jvm.Cond.fieldLink "com/example/pinsheet/pinsheet/WholeNumbers$Reading" (23 : Nat) "com/example/pinsheet/pinsheet/WholeNumbers$Reading" "cut" "Z").before a0 Z = true := hw _ (List.mem_of_getElem? (i := 22) rfl)
theorem own_d4_8 : decode prog_18_method_2_code 8 = .ok (.getfield 23, 3) := by decide +kernel
theorem own_d4_11 : decode prog_18_method_2_code 11 = .ok (.ifCond .ne 7, 3) := by decide +kernel
theorem own_d4_14 : decode prog_18_method_2_code 14 = .ok (.iconst 1, 1) := by decide +kernel
theorem own_d4_15 : decode prog_18_method_2_code 15 = .ok (.goto 4, 3) := by decide +kernel
theorem own_d4_19 : decode prog_18_method_2_code 19 = .ok (.istore_n 2, 1) := by decide +kernel
theorem own_d4_20 : decode prog_18_method_2_code 20 = .ok (.aload_n 0, 1) := by decide +kernel
theorem own_d4_21 : decode prog_18_method_2_code 21 = .ok (.getfield 19, 3) := by decide +kernel
theorem own_d4_24 : decode prog_18_method_2_code 24 = .ok (.aload_n 0, 1) := by decide +kernel
theorem own_d4_25 : decode prog_18_method_2_code 25 = .ok (.getfield 11, 3) := by decide +kernel
theorem own_d4_28 : decode prog_18_method_2_code 28 = .ok (.arraylength, 1) := by decide +kernel
theorem own_d4_29 : decode prog_18_method_2_code 29 = .ok (.if_icmp .ge 23, 3) := by decide +kernel
theorem own_d4_32 : decode prog_18_method_2_code 32 = .ok (.aload_n 0, 1) := by decide +kernel
theorem own_d4_33 : decode prog_18_method_2_code 33 = .ok (.getfield 11, 3) := by decide +kernel
theorem own_d4_36 : decode prog_18_method_2_code 36 = .ok (.aload_n 0, 1) := by decide +kernel
theorem own_d4_37 : decode prog_18_method_2_code 37 = .ok (.dup, 1) := by decide +kernel
theorem own_d4_38 : decode prog_18_method_2_code 38 = .ok (.getfield 19, 3) := by decide +kernel
theorem own_d4_41 : decode prog_18_method_2_code 41 = .ok (.dup_x1, 1) := by decide +kernel
theorem own_d4_42 : decode prog_18_method_2_code 42 = .ok (.iconst 1, 1) := by decide +kernel
theorem own_d4_43 : decode prog_18_method_2_code 43 = .ok (.iadd, 1) := by decide +kernel
theorem own_d4_44 : decode prog_18_method_2_code 44 = .ok (.putfield 19, 3) := by decide +kernel
theorem own_d4_47 : decode prog_18_method_2_code 47 = .ok (.iload_n 1, 1) := by decide +kernel
theorem own_d4_48 : decode prog_18_method_2_code 48 = .ok (.castore, 1) := by decide +kernel
theorem own_d4_49 : decode prog_18_method_2_code 49 = .ok (.goto 8, 3) := by decide +kernel
theorem own_d4_57 : decode prog_18_method_2_code 57 = .ok (.iload_n 1, 1) := by decide +kernel
theorem own_d4_58 : decode prog_18_method_2_code 58 = .ok (.bipush 48, 2) := by decide +kernel
theorem own_d4_60 : decode prog_18_method_2_code 60 = .ok (.if_icmp .lt 46, 3) := by decide +kernel
theorem own_d4_106 : decode prog_18_method_2_code 106 = .ok (.iload_n 1, 1) := by decide +kernel
theorem own_d4_107 : decode prog_18_method_2_code 107 = .ok (.bipush 45, 2) := by decide +kernel
theorem own_d4_109 : decode prog_18_method_2_code 109 = .ok (.if_icmp .ne 15, 3) := by decide +kernel
theorem own_d4_112 : decode prog_18_method_2_code 112 = .ok (.iload_n 2, 1) := by decide +kernel
theorem own_d4_113 : decode prog_18_method_2_code 113 = .ok (.ifCond .eq 11, 3) := by decide +kernel
theorem own_d4_116 : decode prog_18_method_2_code 116 = .ok (.aload_n 0, 1) := by decide +kernel
theorem own_d4_117 : decode prog_18_method_2_code 117 = .ok (.iconst 1, 1) := by decide +kernel
theorem own_w24 {a0 : Array Value} {Z : State} (hw : ∀ d ∈ tables_1, d.before a0 Z = true) : (Jvm.Cond.fieldLink "com/example/pinsheet/pinsheet/WholeNumbers$Reading" (37 : Nat) "com/example/pinsheet/pinsheet/WholeNumbers$Reading" "negative" "Z").before a0 Z = true := hw _ (List.mem_of_getElem? (i := 24) rfl)
theorem own_d4_118 : decode prog_18_method_2_code 118 = .ok (.putfield 37, 3) := by decide +kernel
theorem own_d4_121 : decode prog_18_method_2_code 121 = .ok (.goto 8, 3) := by decide +kernel
theorem own_d4_129 : decode prog_18_method_2_code 129 = .ok (.return_, 1) := by decide +kernel
theorem own_d4_124 : decode prog_18_method_2_code 124 = .ok (.aload_n 0, 1) := by decide +kernel
theorem own_d4_125 : decode prog_18_method_2_code 125 = .ok (.iconst 0, 1) := by decide +kernel
theorem own_d4_126 : decode prog_18_method_2_code 126 = .ok (.putfield 15, 3) := by decide +kernel
theorem own_d4_63 : decode prog_18_method_2_code 63 = .ok (.iload_n 1, 1) := by decide +kernel
theorem own_d4_64 : decode prog_18_method_2_code 64 = .ok (.bipush 57, 2) := by decide +kernel
theorem own_d4_66 : decode prog_18_method_2_code 66 = .ok (.if_icmp .gt 40, 3) := by decide +kernel
theorem own_d4_69 : decode prog_18_method_2_code 69 = .ok (.aload_n 0, 1) := by decide +kernel
theorem own_d4_70 : decode prog_18_method_2_code 70 = .ok (.iconst 1, 1) := by decide +kernel
theorem own_w26 {a0 : Array Value} {Z : State} (hw : ∀ d ∈ tables_1, d.before a0 Z = true) : (Jvm.Cond.fieldLink "com/example/pinsheet/pinsheet/WholeNumbers$Reading" (26 : Nat) "com/example/pinsheet/pinsheet/WholeNumbers$Reading" "digits" "Z").before a0 Z = true := hw _ (List.mem_of_getElem? (i := 26) rfl)
theorem own_d4_71 : decode prog_18_method_2_code 71 = .ok (.putfield 26, 3) := by decide +kernel
theorem own_d4_74 : decode prog_18_method_2_code 74 = .ok (.aload_n 0, 1) := by decide +kernel
theorem own_w28 {a0 : Array Value} {Z : State} (hw : ∀ d ∈ tables_1, d.before a0 Z = true) : (Jvm.Cond.fieldLink "com/example/pinsheet/pinsheet/WholeNumbers$Reading" (29 : Nat) "com/example/pinsheet/pinsheet/WholeNumbers$Reading" "magnitude" "J").before a0 Z = true := hw _ (List.mem_of_getElem? (i := 28) rfl)
theorem own_d4_75 : decode prog_18_method_2_code 75 = .ok (.getfield 29, 3) := by decide +kernel
theorem own_w35 {a0 : Array Value} {Z : State} (hw : ∀ d ∈ tables_1, d.before a0 Z = true) : (Jvm.Cond.constantLong "com/example/pinsheet/pinsheet/WholeNumbers$Reading" (33 : Nat) (2147483648 : Int64)).before a0 Z = true := hw _ (List.mem_of_getElem? (i := 35) rfl)
theorem own_d4_78 : decode prog_18_method_2_code 78 = .ok (.ldc2_w 33, 3) := by decide +kernel
theorem own_d4_81 : decode prog_18_method_2_code 81 = .ok (.lcmp, 1) := by decide +kernel
theorem own_d4_82 : decode prog_18_method_2_code 82 = .ok (.ifCond .gt 47, 3) := by decide +kernel
theorem own_d4_85 : decode prog_18_method_2_code 85 = .ok (.aload_n 0, 1) := by decide +kernel
theorem own_d4_86 : decode prog_18_method_2_code 86 = .ok (.aload_n 0, 1) := by decide +kernel
theorem own_d4_87 : decode prog_18_method_2_code 87 = .ok (.getfield 29, 3) := by decide +kernel
theorem own_w36 {a0 : Array Value} {Z : State} (hw : ∀ d ∈ tables_1, d.before a0 Z = true) : (Jvm.Cond.constantLong "com/example/pinsheet/pinsheet/WholeNumbers$Reading" (35 : Nat) (10 : Int64)).before a0 Z = true := hw _ (List.mem_of_getElem? (i := 36) rfl)
theorem own_d4_90 : decode prog_18_method_2_code 90 = .ok (.ldc2_w 35, 3) := by decide +kernel
theorem own_d4_93 : decode prog_18_method_2_code 93 = .ok (.lmul, 1) := by decide +kernel
theorem own_d4_94 : decode prog_18_method_2_code 94 = .ok (.iload_n 1, 1) := by decide +kernel
theorem own_d4_95 : decode prog_18_method_2_code 95 = .ok (.bipush 48, 2) := by decide +kernel
theorem own_d4_97 : decode prog_18_method_2_code 97 = .ok (.isub, 1) := by decide +kernel
theorem own_d4_98 : decode prog_18_method_2_code 98 = .ok (.i2l, 1) := by decide +kernel
theorem own_d4_99 : decode prog_18_method_2_code 99 = .ok (.ladd, 1) := by decide +kernel
theorem own_d4_100 : decode prog_18_method_2_code 100 = .ok (.putfield 29, 3) := by decide +kernel
theorem own_d4_103 : decode prog_18_method_2_code 103 = .ok (.goto 26, 3) := by decide +kernel
theorem own_d4_18 : decode prog_18_method_2_code 18 = .ok (.iconst 0, 1) := by decide +kernel
theorem own_d3_0 : decode prog_18_method_4_code 0 = .ok (.aload_n 0, 1) := by decide +kernel
theorem own_d3_1 : decode prog_18_method_4_code 1 = .ok (.iconst 0, 1) := by decide +kernel
theorem own_d3_2 : decode prog_18_method_4_code 2 = .ok (.putfield 19, 3) := by decide +kernel
theorem own_d3_5 : decode prog_18_method_4_code 5 = .ok (.aload_n 0, 1) := by decide +kernel
theorem own_d3_6 : decode prog_18_method_4_code 6 = .ok (.iconst 0, 1) := by decide +kernel
theorem own_d3_7 : decode prog_18_method_4_code 7 = .ok (.putfield 23, 3) := by decide +kernel
theorem own_d3_10 : decode prog_18_method_4_code 10 = .ok (.aload_n 0, 1) := by decide +kernel
theorem own_d3_11 : decode prog_18_method_4_code 11 = .ok (.iconst 0, 1) := by decide +kernel
theorem own_d3_12 : decode prog_18_method_4_code 12 = .ok (.putfield 37, 3) := by decide +kernel
theorem own_d3_15 : decode prog_18_method_4_code 15 = .ok (.aload_n 0, 1) := by decide +kernel
theorem own_d3_16 : decode prog_18_method_4_code 16 = .ok (.iconst 0, 1) := by decide +kernel
theorem own_d3_17 : decode prog_18_method_4_code 17 = .ok (.putfield 26, 3) := by decide +kernel
theorem own_d3_20 : decode prog_18_method_4_code 20 = .ok (.aload_n 0, 1) := by decide +kernel
theorem own_d3_21 : decode prog_18_method_4_code 21 = .ok (.iconst 1, 1) := by decide +kernel
theorem own_d3_22 : decode prog_18_method_4_code 22 = .ok (.putfield 15, 3) := by decide +kernel
theorem own_d3_25 : decode prog_18_method_4_code 25 = .ok (.aload_n 0, 1) := by decide +kernel
theorem own_d3_26 : decode prog_18_method_4_code 26 = .ok (.lconst 0, 1) := by decide +kernel
theorem own_d3_27 : decode prog_18_method_4_code 27 = .ok (.putfield 29, 3) := by decide +kernel
theorem own_d3_30 : decode prog_18_method_4_code 30 = .ok (.return_, 1) := by decide +kernel
theorem own_d21_0 : decode prog_18_method_3_code 0 = .ok (.aload_n 0, 1) := by decide +kernel
theorem own_d21_1 : decode prog_18_method_3_code 1 = .ok (.getfield 15, 3) := by decide +kernel
theorem own_d21_4 : decode prog_18_method_3_code 4 = .ok (.ifCond .eq 10, 3) := by decide +kernel
theorem own_d21_7 : decode prog_18_method_3_code 7 = .ok (.aload_n 0, 1) := by decide +kernel
theorem own_d21_8 : decode prog_18_method_3_code 8 = .ok (.getfield 26, 3) := by decide +kernel
theorem own_d21_11 : decode prog_18_method_3_code 11 = .ok (.ifCond .ne 21, 3) := by decide +kernel
theorem own_d21_32 : decode prog_18_method_3_code 32 = .ok (.aload_n 0, 1) := by decide +kernel
theorem own_d21_33 : decode prog_18_method_3_code 33 = .ok (.getfield 29, 3) := by decide +kernel
theorem own_d21_36 : decode prog_18_method_3_code 36 = .ok (.aload_n 0, 1) := by decide +kernel
theorem own_d21_37 : decode prog_18_method_3_code 37 = .ok (.getfield 37, 3) := by decide +kernel
theorem own_d21_40 : decode prog_18_method_3_code 40 = .ok (.ifCond .eq 9, 3) := by decide +kernel
theorem own_w118 {a0 : Array Value} {Z : State} (hw : ∀ d ∈ tables_1, d.before a0 Z = true) : (Jvm.Cond.constantLong "com/example/pinsheet/pinsheet/WholeNumbers$Reading" (52 : Nat) (2147483647 : Int64)).before a0 Z = true := hw _ (List.mem_of_getElem? (i := 118) rfl)
theorem own_d21_49 : decode prog_18_method_3_code 49 = .ok (.ldc2_w 52, 3) := by decide +kernel
theorem own_d21_52 : decode prog_18_method_3_code 52 = .ok (.lcmp, 1) := by decide +kernel
theorem own_d21_53 : decode prog_18_method_3_code 53 = .ok (.ifCond .le 20, 3) := by decide +kernel
theorem own_d21_73 : decode prog_18_method_3_code 73 = .ok (.aload_n 0, 1) := by decide +kernel
theorem own_d21_74 : decode prog_18_method_3_code 74 = .ok (.getfield 37, 3) := by decide +kernel
theorem own_d21_77 : decode prog_18_method_3_code 77 = .ok (.ifCond .eq 11, 3) := by decide +kernel
theorem own_d21_88 : decode prog_18_method_3_code 88 = .ok (.aload_n 0, 1) := by decide +kernel
theorem own_d21_89 : decode prog_18_method_3_code 89 = .ok (.getfield 29, 3) := by decide +kernel
theorem own_d21_92 : decode prog_18_method_3_code 92 = .ok (.l2i, 1) := by decide +kernel
theorem own_d21_93 : decode prog_18_method_3_code 93 = .ok (.ireturn, 1) := by decide +kernel
theorem own_d21_43 : decode prog_18_method_3_code 43 = .ok (.ldc2_w 33, 3) := by decide +kernel
theorem own_d21_46 : decode prog_18_method_3_code 46 = .ok (.goto 6, 3) := by decide +kernel
theorem own_d21_80 : decode prog_18_method_3_code 80 = .ok (.aload_n 0, 1) := by decide +kernel
theorem own_d21_81 : decode prog_18_method_3_code 81 = .ok (.getfield 29, 3) := by decide +kernel
theorem own_d21_84 : decode prog_18_method_3_code 84 = .ok (.lneg, 1) := by decide +kernel
theorem own_d21_85 : decode prog_18_method_3_code 85 = .ok (.goto 7, 3) := by decide +kernel
theorem own_w0 {a0 : Array Value} {Z : State} (hw : ∀ d ∈ tables_1, d.before a0 Z = true) : (Jvm.Cond.constant "com/example/pinsheet/pinsheet/ReadingClearPinLaw" (7 : Nat) (2147483647 : Int32)).before a0 Z = true := hw _ (List.mem_of_getElem? (i := 0) rfl)
theorem own_w2 {a0 : Array Value} {Z : State} (hw : ∀ d ∈ tables_1, d.before a0 Z = true) : (Jvm.Cond.classLink "com/example/pinsheet/pinsheet/ReadingClearPinLaw" (8 : Nat) "com/example/pinsheet/pinsheet/WholeNumbers$Reading").before a0 Z = true := hw _ (List.mem_of_getElem? (i := 2) rfl)
theorem own_w4 {a0 : Array Value} {Z : State} (hw : ∀ d ∈ tables_1, d.before a0 Z = true) : (Jvm.Cond.initialized "com/example/pinsheet/pinsheet/WholeNumbers$Reading").before a0 Z = true := hw _ (List.mem_of_getElem? (i := 4) rfl)
theorem own_w5 {a0 : Array Value} {Z : State} (hw : ∀ d ∈ tables_1, d.before a0 Z = true) : (Jvm.Cond.methodLink "com/example/pinsheet/pinsheet/ReadingClearPinLaw" (10 : Nat) ({ cls := "com/example/pinsheet/pinsheet/WholeNumbers$Reading", name := "<init>", desc := "()V" } : Jvm.MethodName)).before a0 Z = true := hw _ (List.mem_of_getElem? (i := 5) rfl)
theorem own_pd13 : parseMethodDescriptor "()V" = some ⟨[], none⟩ := by decide +kernel
theorem own_w6 {a0 : Array Value} {Z : State} (hw : ∀ d ∈ tables_1, d.before a0 Z = true) : (Jvm.Cond.instanceMethod ({ cls := "com/example/pinsheet/pinsheet/WholeNumbers$Reading", name := "<init>", desc := "()V" } : Jvm.MethodName)).before a0 Z = true := hw _ (List.mem_of_getElem? (i := 6) rfl)
theorem own_w7 {a0 : Array Value} {Z : State} (hw : ∀ d ∈ tables_1, d.before a0 Z = true) : (Jvm.Cond.code ({ cls := "com/example/pinsheet/pinsheet/WholeNumbers$Reading", name := "<init>", desc := "()V" } : Jvm.MethodName) prog_18_method_1_code (1 : Nat) (Option.none : Option Jvm.ClassFile.FieldType)).before a0 Z = true := hw _ (List.mem_of_getElem? (i := 7) rfl)
theorem own_w30 {a0 : Array Value} {Z : State} (hw : ∀ d ∈ tables_1, d.before a0 Z = true) : (Jvm.Cond.methodLink "com/example/pinsheet/pinsheet/ReadingClearPinLaw" (11 : Nat) ({ cls := "com/example/pinsheet/pinsheet/WholeNumbers$Reading", name := "add", desc := "(C)V" } : Jvm.MethodName)).before a0 Z = true := hw _ (List.mem_of_getElem? (i := 30) rfl)
theorem own_pd14 : parseMethodDescriptor "(C)V" = some ⟨[.char], none⟩ := by decide +kernel
theorem own_w33 {a0 : Array Value} {Z : State} (hw : ∀ d ∈ tables_1, d.before a0 Z = true) : (Jvm.Cond.selects "com/example/pinsheet/pinsheet/WholeNumbers$Reading" ({ cls := "com/example/pinsheet/pinsheet/WholeNumbers$Reading", name := "add", desc := "(C)V" } : Jvm.MethodName) ({ cls := "com/example/pinsheet/pinsheet/WholeNumbers$Reading", name := "add", desc := "(C)V" } : Jvm.MethodName)).before a0 Z = true := hw _ (List.mem_of_getElem? (i := 33) rfl)
theorem own_w31 {a0 : Array Value} {Z : State} (hw : ∀ d ∈ tables_1, d.before a0 Z = true) : (Jvm.Cond.declares ({ cls := "com/example/pinsheet/pinsheet/WholeNumbers$Reading", name := "add", desc := "(C)V" } : Jvm.MethodName)).before a0 Z = true := hw _ (List.mem_of_getElem? (i := 31) rfl)
theorem own_w32 {a0 : Array Value} {Z : State} (hw : ∀ d ∈ tables_1, d.before a0 Z = true) : (Jvm.Cond.instanceMethod ({ cls := "com/example/pinsheet/pinsheet/WholeNumbers$Reading", name := "add", desc := "(C)V" } : Jvm.MethodName)).before a0 Z = true := hw _ (List.mem_of_getElem? (i := 32) rfl)
theorem own_w34 {a0 : Array Value} {Z : State} (hw : ∀ d ∈ tables_1, d.before a0 Z = true) : (Jvm.Cond.code ({ cls := "com/example/pinsheet/pinsheet/WholeNumbers$Reading", name := "add", desc := "(C)V" } : Jvm.MethodName) prog_18_method_2_code (3 : Nat) (Option.none : Option Jvm.ClassFile.FieldType)).before a0 Z = true := hw _ (List.mem_of_getElem? (i := 34) rfl)
theorem own_w15 {a0 : Array Value} {Z : State} (hw : ∀ d ∈ tables_1, d.before a0 Z = true) : (Jvm.Cond.methodLink "com/example/pinsheet/pinsheet/ReadingClearPinLaw" (15 : Nat) ({ cls := "com/example/pinsheet/pinsheet/WholeNumbers$Reading", name := "clear", desc := "()V" } : Jvm.MethodName)).before a0 Z = true := hw _ (List.mem_of_getElem? (i := 15) rfl)
theorem own_w18 {a0 : Array Value} {Z : State} (hw : ∀ d ∈ tables_1, d.before a0 Z = true) : (Jvm.Cond.selects "com/example/pinsheet/pinsheet/WholeNumbers$Reading" ({ cls := "com/example/pinsheet/pinsheet/WholeNumbers$Reading", name := "clear", desc := "()V" } : Jvm.MethodName) ({ cls := "com/example/pinsheet/pinsheet/WholeNumbers$Reading", name := "clear", desc := "()V" } : Jvm.MethodName)).before a0 Z = true := hw _ (List.mem_of_getElem? (i := 18) rfl)
theorem own_w16 {a0 : Array Value} {Z : State} (hw : ∀ d ∈ tables_1, d.before a0 Z = true) : (Jvm.Cond.declares ({ cls := "com/example/pinsheet/pinsheet/WholeNumbers$Reading", name := "clear", desc := "()V" } : Jvm.MethodName)).before a0 Z = true := hw _ (List.mem_of_getElem? (i := 16) rfl)
theorem own_w17 {a0 : Array Value} {Z : State} (hw : ∀ d ∈ tables_1, d.before a0 Z = true) : (Jvm.Cond.instanceMethod ({ cls := "com/example/pinsheet/pinsheet/WholeNumbers$Reading", name := "clear", desc := "()V" } : Jvm.MethodName)).before a0 Z = true := hw _ (List.mem_of_getElem? (i := 17) rfl)
theorem own_w19 {a0 : Array Value} {Z : State} (hw : ∀ d ∈ tables_1, d.before a0 Z = true) : (Jvm.Cond.code ({ cls := "com/example/pinsheet/pinsheet/WholeNumbers$Reading", name := "clear", desc := "()V" } : Jvm.MethodName) prog_18_method_4_code (1 : Nat) (Option.none : Option Jvm.ClassFile.FieldType)).before a0 Z = true := hw _ (List.mem_of_getElem? (i := 19) rfl)
theorem own_w37 {a0 : Array Value} {Z : State} (hw : ∀ d ∈ tables_1, d.before a0 Z = true) : (Jvm.Cond.methodLink "com/example/pinsheet/pinsheet/ReadingClearPinLaw" (18 : Nat) ({ cls := "com/example/pinsheet/pinsheet/WholeNumbers$Reading", name := "text", desc := "()Ljava/lang/String;" } : Jvm.MethodName)).before a0 Z = true := hw _ (List.mem_of_getElem? (i := 37) rfl)
theorem own_pd15 : parseMethodDescriptor "()Ljava/lang/String;" = some ⟨[], some (.object "java/lang/String")⟩ := by decide +kernel
theorem own_w40 {a0 : Array Value} {Z : State} (hw : ∀ d ∈ tables_1, d.before a0 Z = true) : (Jvm.Cond.selects "com/example/pinsheet/pinsheet/WholeNumbers$Reading" ({ cls := "com/example/pinsheet/pinsheet/WholeNumbers$Reading", name := "text", desc := "()Ljava/lang/String;" } : Jvm.MethodName) ({ cls := "com/example/pinsheet/pinsheet/WholeNumbers$Reading", name := "text", desc := "()Ljava/lang/String;" } : Jvm.MethodName)).before a0 Z = true := hw _ (List.mem_of_getElem? (i := 40) rfl)
theorem own_w38 {a0 : Array Value} {Z : State} (hw : ∀ d ∈ tables_1, d.before a0 Z = true) : (Jvm.Cond.declares ({ cls := "com/example/pinsheet/pinsheet/WholeNumbers$Reading", name := "text", desc := "()Ljava/lang/String;" } : Jvm.MethodName)).before a0 Z = true := hw _ (List.mem_of_getElem? (i := 38) rfl)
theorem own_w39 {a0 : Array Value} {Z : State} (hw : ∀ d ∈ tables_1, d.before a0 Z = true) : (Jvm.Cond.instanceMethod ({ cls := "com/example/pinsheet/pinsheet/WholeNumbers$Reading", name := "text", desc := "()Ljava/lang/String;" } : Jvm.MethodName)).before a0 Z = true := hw _ (List.mem_of_getElem? (i := 39) rfl)
theorem own_w41 {a0 : Array Value} {Z : State} (hw : ∀ d ∈ tables_1, d.before a0 Z = true) : (Jvm.Cond.code ({ cls := "com/example/pinsheet/pinsheet/WholeNumbers$Reading", name := "text", desc := "()Ljava/lang/String;" } : Jvm.MethodName) prog_18_method_6_code (1 : Nat) (Option.some (Jvm.ClassFile.FieldType.object "java/lang/String"))).before a0 Z = true := hw _ (List.mem_of_getElem? (i := 41) rfl)
theorem own_w80 {a0 : Array Value} {Z : State} (hw : ∀ d ∈ tables_1, d.before a0 Z = true) : (Jvm.Cond.methodLink "com/example/pinsheet/pinsheet/ReadingClearPinLaw" (22 : Nat) ({ cls := "java/lang/String", name := "length", desc := "()I" } : Jvm.MethodName)).before a0 Z = true := hw _ (List.mem_of_getElem? (i := 80) rfl)
theorem own_pd16 : parseMethodDescriptor "()I" = some ⟨[], some .int⟩ := by decide +kernel
theorem own_w83 {a0 : Array Value} {Z : State} (hw : ∀ d ∈ tables_1, d.before a0 Z = true) : (Jvm.Cond.selects "java/lang/String" ({ cls := "java/lang/String", name := "length", desc := "()I" } : Jvm.MethodName) ({ cls := "java/lang/String", name := "length", desc := "()I" } : Jvm.MethodName)).before a0 Z = true := hw _ (List.mem_of_getElem? (i := 83) rfl)
theorem own_w81 {a0 : Array Value} {Z : State} (hw : ∀ d ∈ tables_1, d.before a0 Z = true) : (Jvm.Cond.declares ({ cls := "java/lang/String", name := "length", desc := "()I" } : Jvm.MethodName)).before a0 Z = true := hw _ (List.mem_of_getElem? (i := 81) rfl)
theorem own_w82 {a0 : Array Value} {Z : State} (hw : ∀ d ∈ tables_1, d.before a0 Z = true) : (Jvm.Cond.instanceMethod ({ cls := "java/lang/String", name := "length", desc := "()I" } : Jvm.MethodName)).before a0 Z = true := hw _ (List.mem_of_getElem? (i := 82) rfl)
theorem own_w84 {a0 : Array Value} {Z : State} (hw : ∀ d ∈ tables_1, d.before a0 Z = true) : (Jvm.Cond.code ({ cls := "java/lang/String", name := "length", desc := "()I" } : Jvm.MethodName) jdk_42_method_54_code (1 : Nat) (Option.some Jvm.ClassFile.FieldType.int)).before a0 Z = true := hw _ (List.mem_of_getElem? (i := 84) rfl)
theorem own_w90 {a0 : Array Value} {Z : State} (hw : ∀ d ∈ tables_1, d.before a0 Z = true) : (Jvm.Cond.methodLink "com/example/pinsheet/pinsheet/ReadingClearPinLaw" (28 : Nat) ({ cls := "java/lang/String", name := "charAt", desc := "(I)C" } : Jvm.MethodName)).before a0 Z = true := hw _ (List.mem_of_getElem? (i := 90) rfl)
theorem own_pd17 : parseMethodDescriptor "(I)C" = some ⟨[.int], some .char⟩ := by decide +kernel
theorem own_w93 {a0 : Array Value} {Z : State} (hw : ∀ d ∈ tables_1, d.before a0 Z = true) : (Jvm.Cond.selects "java/lang/String" ({ cls := "java/lang/String", name := "charAt", desc := "(I)C" } : Jvm.MethodName) ({ cls := "java/lang/String", name := "charAt", desc := "(I)C" } : Jvm.MethodName)).before a0 Z = true := hw _ (List.mem_of_getElem? (i := 93) rfl)
theorem own_w91 {a0 : Array Value} {Z : State} (hw : ∀ d ∈ tables_1, d.before a0 Z = true) : (Jvm.Cond.declares ({ cls := "java/lang/String", name := "charAt", desc := "(I)C" } : Jvm.MethodName)).before a0 Z = true := hw _ (List.mem_of_getElem? (i := 91) rfl)
theorem own_w92 {a0 : Array Value} {Z : State} (hw : ∀ d ∈ tables_1, d.before a0 Z = true) : (Jvm.Cond.instanceMethod ({ cls := "java/lang/String", name := "charAt", desc := "(I)C" } : Jvm.MethodName)).before a0 Z = true := hw _ (List.mem_of_getElem? (i := 92) rfl)
theorem own_w94 {a0 : Array Value} {Z : State} (hw : ∀ d ∈ tables_1, d.before a0 Z = true) : (Jvm.Cond.code ({ cls := "java/lang/String", name := "charAt", desc := "(I)C" } : Jvm.MethodName) jdk_42_method_56_code (2 : Nat) (Option.some Jvm.ClassFile.FieldType.char)).before a0 Z = true := hw _ (List.mem_of_getElem? (i := 94) rfl)
theorem own_w110 {a0 : Array Value} {Z : State} (hw : ∀ d ∈ tables_1, d.before a0 Z = true) : (Jvm.Cond.stringLink "com/example/pinsheet/pinsheet/ReadingClearPinLaw" (32 : Nat) "pins").before a0 Z = true := hw _ (List.mem_of_getElem? (i := 110) rfl)
theorem own_w113 {a0 : Array Value} {Z : State} (hw : ∀ d ∈ tables_1, d.before a0 Z = true) : (Jvm.Cond.methodLink "com/example/pinsheet/pinsheet/ReadingClearPinLaw" (34 : Nat) ({ cls := "com/example/pinsheet/pinsheet/WholeNumbers$Reading", name := "value", desc := "(Ljava/lang/String;)I" } : Jvm.MethodName)).before a0 Z = true := hw _ (List.mem_of_getElem? (i := 113) rfl)
theorem own_pd18 : parseMethodDescriptor "(Ljava/lang/String;)I" = some ⟨[(.object "java/lang/String")], some .int⟩ := by decide +kernel
theorem own_w116 {a0 : Array Value} {Z : State} (hw : ∀ d ∈ tables_1, d.before a0 Z = true) : (Jvm.Cond.selects "com/example/pinsheet/pinsheet/WholeNumbers$Reading" ({ cls := "com/example/pinsheet/pinsheet/WholeNumbers$Reading", name := "value", desc := "(Ljava/lang/String;)I" } : Jvm.MethodName) ({ cls := "com/example/pinsheet/pinsheet/WholeNumbers$Reading", name := "value", desc := "(Ljava/lang/String;)I" } : Jvm.MethodName)).before a0 Z = true := hw _ (List.mem_of_getElem? (i := 116) rfl)
theorem own_w114 {a0 : Array Value} {Z : State} (hw : ∀ d ∈ tables_1, d.before a0 Z = true) : (Jvm.Cond.declares ({ cls := "com/example/pinsheet/pinsheet/WholeNumbers$Reading", name := "value", desc := "(Ljava/lang/String;)I" } : Jvm.MethodName)).before a0 Z = true := hw _ (List.mem_of_getElem? (i := 114) rfl)
theorem own_w115 {a0 : Array Value} {Z : State} (hw : ∀ d ∈ tables_1, d.before a0 Z = true) : (Jvm.Cond.instanceMethod ({ cls := "com/example/pinsheet/pinsheet/WholeNumbers$Reading", name := "value", desc := "(Ljava/lang/String;)I" } : Jvm.MethodName)).before a0 Z = true := hw _ (List.mem_of_getElem? (i := 115) rfl)
theorem own_w117 {a0 : Array Value} {Z : State} (hw : ∀ d ∈ tables_1, d.before a0 Z = true) : (Jvm.Cond.code ({ cls := "com/example/pinsheet/pinsheet/WholeNumbers$Reading", name := "value", desc := "(Ljava/lang/String;)I" } : Jvm.MethodName) prog_18_method_3_code (2 : Nat) (Option.some Jvm.ClassFile.FieldType.int)).before a0 Z = true := hw _ (List.mem_of_getElem? (i := 117) rfl)
theorem own_pn5 : plainName "com/example/pinsheet/pinsheet/ReadingClearPinLaw" = true := by first | (simp [plainName, overriddenIn]; done) | decide +kernel
set_option maxRecDepth 65536 in
set_option maxHeartbeats 4000000 in
theorem rm_cfi1 (l : Launch) (Z : State) (a0 : Array Value) (hw : ∀ d ∈ tables_1, d.before a0 Z = true) (fm : Value) (h : Heap) (n0 : Nat) (Ds : List Addr) (hfm : fm.isRef = true) :
    Ctr l Z (⟨"jdk/internal/util/Preconditions", "checkFromIndexSize", "(IIILjava/util/function/BiFunction;)I"⟩ : MethodName) jdk_41_method_13_code 4 (some .int) [] ({ frames := 0, cells := 0, slots := 0, locals := 0 } : Room) #[.int (0 : Int32), .int (1 : Int32), .int (32 : Int32), fm] h n0 Ds (fun v h' Ds' => v = some (.int (0 : Int32)) ∧ h = h' ∧ Ds = Ds') := by
  refine ctr_of (Ls := #[.val (.int (0 : Int32)), .val (.int (1 : Int32)), .val (.int (32 : Int32)), .val fm]) (plainFor_of_name own_pn0) (fun mm => by rcases ref_cases hfm with rfl | ⟨_, rfl⟩ <;> first | (simp [entryFrame, mkF, argsToLocals, Value.category]; done) | rfl) ?_
  intro C hl hret hnm R
  subst hl
  replace R := R.iloadN (pc' := 1) (v := (32 : Int32)) own_d9_0 rfl rfl
  replace R := R.iloadN (pc' := 2) (v := (0 : Int32)) own_d9_1 rfl rfl
  replace R := R.ior (pc' := 3) own_d9_2 rfl
  replace R := R.stk (S' := [(.int (32 : Int32))]) rfl
  replace R := R.iloadN (pc' := 4) (v := (1 : Int32)) own_d9_3 rfl rfl
  replace R := R.ior (pc' := 5) own_d9_4 rfl
  replace R := R.stk (S' := [(.int (33 : Int32))]) rfl
  replace R := R.ifN (pc' := 8) own_d9_5 (flt (by decide : ¬ ((33 : Int32) < (0 : Int32)))).1 rfl
  replace R := R.iloadN (pc' := 9) (v := (1 : Int32)) own_d9_8 rfl rfl
  replace R := R.iloadN (pc' := 10) (v := (32 : Int32)) own_d9_9 rfl rfl
  replace R := R.iloadN (pc' := 11) (v := (0 : Int32)) own_d9_10 rfl rfl
  replace R := R.isub (pc' := 12) own_d9_11 rfl
  replace R := R.stk (S' := [(.int (32 : Int32)), (.int (1 : Int32))]) rfl
  replace R := R.icmpY (pc' := 23) own_d9_12 (flt (by decide : ¬ ((32 : Int32) < (1 : Int32)))).2.2.2 (by decide) rfl
  replace R := R.iloadN (pc' := 24) (v := (0 : Int32)) own_d9_23 rfl rfl
  exact R.retI (Ds' := Ds) hret own_d9_24 (by decide) (by decide) (fun _ q => q) ⟨rfl, rfl, rfl⟩
set_option maxRecDepth 65536 in
set_option maxHeartbeats 4000000 in
theorem rm_cbo1 (l : Launch) (Z : State) (a0 : Array Value) (hw : ∀ d ∈ tables_1, d.before a0 Z = true) (h : Heap) (n0 : Nat) (Ds : List Addr) (own_si : SiooOk Z) :
    Ctr l Z (⟨"java/lang/String", "checkBoundsOffCount", "(III)I"⟩ : MethodName) jdk_42_method_157_code 3 (some .int) [] ({ frames := 1, cells := 0, slots := 0, locals := 15 } : Room) #[.int (0 : Int32), .int (1 : Int32), .int (32 : Int32)] h n0 Ds (fun v h' Ds' => v = some (.int (0 : Int32)) ∧ h = h' ∧ Ds = Ds') := by
  refine ctr_of (Ls := #[.val (.int (0 : Int32)), .val (.int (1 : Int32)), .val (.int (32 : Int32))]) (plainFor_of_name own_pn1) (fun m => by first | (simp [entryFrame, mkF, argsToLocals, Value.category]; done) | rfl) ?_
  intro C hl hret hnm R
  subst hl
  obtain ⟨fm, S_fm, hfm⟩ := id own_si
  replace R := R.iloadN (pc' := 1) (v := (0 : Int32)) own_d8_0 rfl rfl
  replace R := R.iloadN (pc' := 2) (v := (1 : Int32)) own_d8_1 rfl rfl
  replace R := R.iloadN (pc' := 3) (v := (32 : Int32)) own_d8_2 rfl rfl
  replace R := R.getS (pc' := 6) (host := "") (Or.inl (own_w54 hw)) Via.refl S_fm own_d8_3 rfl
  obtain ⟨_, _, _, ⟨rfl, rfl, rfl⟩, R⟩ := R.callS (pc' := 9) (argsL := [(.int (0 : Int32)), (.int (1 : Int32)), (.int (32 : Int32)), fm]) (rest := []) (W := 0) (own_w56 hw) (own_w57 hw) (own_w55 hw) (own_w58 hw) (by decide) (rm_cfi1 C.l Z a0 hw fm h n0 Ds hfm) rfl (lenOf own_pd0 rfl) rfl rfl own_d8_6 (by decide) (by decide) (by decide) (by decide) rfl
  replace R := R.mono (ce' := 0) (sl' := 0) (by decide) (by decide)
  replace R := R.stk (S' := [(.int (0 : Int32))]) rfl
  exact R.retI (Ds' := Ds) hret own_d8_9 (by decide) (by decide) (fun _ q => q) ⟨rfl, rfl, rfl⟩
set_option maxRecDepth 65536 in
set_option maxHeartbeats 4000000 in
theorem rm_rc1 (l : Launch) (Z : State) (a0 : Array Value) (hw : ∀ d ∈ tables_1, d.before a0 Z = true) (h : Heap) (n0 : Nat) (Ds : List Addr) (own_si : SiooOk Z) {x0 : Int32} {tl : List Value} (hok : ∀ c ∈ ([x0] : List Int32), ¬ c < 0 ∧ ¬ (255 : Int32) < c) {q : Addr} {kq : ClassId} (V_q : Arv Z h q kq .char (32 : Int32) (Value.int x0 :: tl) (.int 0)) :
    Ctr l Z (⟨"java/lang/String", "rangeCheck", "([CII)Ljava/lang/Void;"⟩ : MethodName) jdk_42_method_5_code 3 (some (.object "java/lang/Void")) [] ({ frames := 2, cells := 0, slots := 0, locals := 29 } : Room) #[.ref q, .int (0 : Int32), .int (1 : Int32)] h n0 Ds (fun v h' Ds' => v = some .null ∧ h = h' ∧ Ds = Ds') := by
  refine ctr_of (Ls := #[.val (.ref q), .val (.int (0 : Int32)), .val (.int (1 : Int32))]) (plainFor_of_name own_pn1) (fun m => by first | (simp [entryFrame, mkF, argsToLocals, Value.category]; done) | rfl) ?_
  intro C hl hret hnm R
  subst hl
  replace R := R.iloadN (pc' := 1) (v := (0 : Int32)) own_d7_0 rfl rfl
  replace R := R.iloadN (pc' := 2) (v := (1 : Int32)) own_d7_1 rfl rfl
  replace R := R.aloadN (pc' := 3) (v := (.ref q)) own_d7_2 rfl rfl rfl
  replace R := R.arraylength (pc' := 4) V_q own_d7_3 rfl
  obtain ⟨_, _, _, ⟨rfl, rfl, rfl⟩, R⟩ := R.callS (pc' := 7) (argsL := [(.int (0 : Int32)), (.int (1 : Int32)), (.int (32 : Int32))]) (rest := []) (W := 0) (own_w51 hw) (own_w52 hw) (own_w44 hw) (own_w53 hw) (by decide) (rm_cbo1 C.l Z a0 hw h n0 Ds own_si) rfl (lenOf own_pd1 rfl) rfl rfl own_d7_4 (by decide) (by decide) (by decide) (by decide) rfl
  replace R := R.mono (ce' := 0) (sl' := 0) (by decide) (by decide)
  replace R := R.stk (S' := [(.int (0 : Int32))]) rfl
  replace R := R.pop (pc' := 8) own_d7_7 rfl rfl
  replace R := R.anull (pc' := 9) own_d7_8 rfl
  exact R.retA (Ds' := Ds) hret rfl rfl rfl own_d7_9 (by decide) (by decide) (fun _ q => q) ⟨rfl, rfl, rfl⟩
set_option maxRecDepth 65536 in
set_option maxHeartbeats 4000000 in
theorem rm_c51 (l : Launch) (Z : State) (a0 : Array Value) (hw : ∀ d ∈ tables_1, d.before a0 Z = true) (h : Heap) (n0 : Nat) (Ds : List Addr) {x0 : Int32} {tl : List Value} (hok : ∀ c ∈ ([x0] : List Int32), ¬ c < 0 ∧ ¬ (255 : Int32) < c) {q : Addr} {kq : ClassId} (V_q : Arv Z h q kq .char (32 : Int32) (Value.int x0 :: tl) (.int 0)) {b : Addr} {kb : ClassId} (hb : b ∈ Ds) (nqb : q ≠ b) (V_b : Arv Z h b kb .byte (1 : Int32) [(.int (0 : Int32))] (.int 0)) :
    Ctr l Z (⟨"java/lang/StringUTF16", "compress", "([CI[BII)I"⟩ : MethodName) jdk_52_method_21_code 7 (some .int) [] ({ frames := 0, cells := 0, slots := 0, locals := 0 } : Room) #[.ref q, .int (0 : Int32), .ref b, .int (0 : Int32), .int (1 : Int32)] h n0 Ds (fun v h' Ds' => v = some (.int (1 : Int32)) ∧ Keep h h' [b] ∧ Arv Z h' b kb .byte (1 : Int32) [(.int x0.toInt8.toInt32)] (.int 0) ∧ Ds = Ds') := by
  refine ctr_of (Ls := #[.val (.ref q), .val (.int (0 : Int32)), .val (.ref b), .val (.int (0 : Int32)), .val (.int (1 : Int32)), .unset, .unset]) (plainFor_of_name own_pn2) (fun m => by first | (simp [entryFrame, mkF, argsToLocals, Value.category]; done) | rfl) ?_
  intro C hl hret hnm R
  subst hl
  replace R := R.iconst (pc' := 1) (z := (0 : Int32)) own_d12_0 rfl rfl
  replace R := R.istore (pc' := 3) (l' := #[.val (.ref q), .val (.int (0 : Int32)), .val (.ref b), .val (.int (0 : Int32)), .val (.int (1 : Int32)), .val (.int (0 : Int32)), .unset]) own_d12_1 rfl rfl
  replace R := R.iload (pc' := 5) (v := (0 : Int32)) own_d12_3 rfl rfl
  replace R := R.iload (pc' := 7) (v := (1 : Int32)) own_d12_5 rfl rfl
  replace R := R.icmpN (pc' := 10) own_d12_7 (tlt (by decide : (0 : Int32) < (1 : Int32))).2.1 rfl
  replace R := R.aloadN (pc' := 11) (v := (.ref q)) own_d12_10 rfl rfl rfl
  replace R := R.iloadN (pc' := 12) (v := (0 : Int32)) own_d12_11 rfl rfl
  replace R := R.caload (pc' := 13) (v := (.int x0)) V_q ⟨by decide, by decide⟩ rfl own_d12_12 rfl
  replace R := R.istore (pc' := 15) (l' := #[.val (.ref q), .val (.int (0 : Int32)), .val (.ref b), .val (.int (0 : Int32)), .val (.int (1 : Int32)), .val (.int (0 : Int32)), .val (.int x0)]) own_d12_13 rfl rfl
  replace R := R.iload (pc' := 17) (v := x0) own_d12_15 rfl rfl
  replace R := R.sipush (pc' := 20) (z := (255 : Int32)) own_d12_17 rfl rfl
  replace R := R.icmpY (pc' := 26) own_d12_20 (flt (hok x0 (List.mem_of_getElem? (i := 0) rfl)).2).2.2.2 (by decide) rfl
  replace R := R.aloadN (pc' := 27) (v := (.ref b)) own_d12_26 rfl rfl rfl
  replace R := R.iloadN (pc' := 28) (v := (0 : Int32)) own_d12_27 rfl rfl
  replace R := R.iload (pc' := 30) (v := x0) own_d12_28 rfl rfl
  replace R := R.i2b (pc' := 31) own_d12_30 rfl
  obtain ⟨h1, K1, V1, R⟩ := R.bastore (pc' := 32) V_b ⟨by decide, by decide⟩ 0 rfl (Nat.le_of_ble_eq_true rfl) hb own_d12_31 rfl
  have V1p : Arv Z h1 b kb .byte (1 : Int32) [(.int x0.toInt8.toInt32)] (.int 0) := by
    have q := V1
    rw [nar_i2b x0] at q
    exact q
  replace R := R.iinc (pc' := 35) (l' := #[.val (.ref q), .val (.int (1 : Int32)), .val (.ref b), .val (.int (0 : Int32)), .val (.int (1 : Int32)), .val (.int (0 : Int32)), .val (.int x0)]) own_d12_32 rfl rfl rfl
  replace R := R.iinc (pc' := 38) (l' := #[.val (.ref q), .val (.int (1 : Int32)), .val (.ref b), .val (.int (1 : Int32)), .val (.int (1 : Int32)), .val (.int (0 : Int32)), .val (.int x0)]) own_d12_35 rfl rfl rfl
  replace R := R.iinc (pc' := 41) (l' := #[.val (.ref q), .val (.int (1 : Int32)), .val (.ref b), .val (.int (1 : Int32)), .val (.int (1 : Int32)), .val (.int (1 : Int32)), .val (.int x0)]) own_d12_38 rfl rfl rfl
  replace R := R.goto (pc' := 3) own_d12_41 (by decide) rfl
  replace R := R.iload (pc' := 5) (v := (1 : Int32)) own_d12_3 rfl rfl
  replace R := R.iload (pc' := 7) (v := (1 : Int32)) own_d12_5 rfl rfl
  replace R := R.icmpY (pc' := 44) own_d12_7 (flt (by decide : ¬ ((1 : Int32) < (1 : Int32)))).2.1 (by decide) rfl
  replace R := R.iload (pc' := 46) (v := (1 : Int32)) own_d12_44 rfl rfl
  have hK := ((Keep.refl h [b]).trans K1 (allS (Or.inl (List.mem_of_getElem? (i := 0) rfl)) all0))
  exact R.retI (Ds' := Ds) hret own_d12_46 (by decide) (by decide) (fun _ q => q) ⟨rfl, hK, V1p, rfl⟩
set_option maxRecDepth 65536 in
set_option maxHeartbeats 4000000 in
theorem rm_c31 (l : Launch) (Z : State) (a0 : Array Value) (hw : ∀ d ∈ tables_1, d.before a0 Z = true) (h : Heap) (n0 : Nat) (Ds : List Addr) {x0 : Int32} {tl : List Value} (hok : ∀ c ∈ ([x0] : List Int32), ¬ c < 0 ∧ ¬ (255 : Int32) < c) {q : Addr} {kq : ClassId} (V_q : Arv Z h q kq .char (32 : Int32) (Value.int x0 :: tl) (.int 0)) :
    Ctr l Z (⟨"java/lang/StringUTF16", "compress", "([CII)[B"⟩ : MethodName) jdk_52_method_16_code 6 (some (.array .byte)) [] ({ frames := 1, cells := 1, slots := 1, locals := 18 } : Room) #[.ref q, .int (0 : Int32), .int (1 : Int32)] h n0 Ds (fun v h' Ds' => ∃ (b : Addr) (kb : ClassId), v = some (.ref b) ∧ Keep h h' [] ∧ Arv Z h' b kb .byte (1 : Int32) [(.int x0.toInt8.toInt32)] (.int 0) ∧ Ds = Ds') := by
  refine ctr_of (Ls := #[.val (.ref q), .val (.int (0 : Int32)), .val (.int (1 : Int32)), .unset, .unset, .unset]) (plainFor_of_name own_pn2) (fun m => by first | (simp [entryFrame, mkF, argsToLocals, Value.category]; done) | rfl) ?_
  intro C hl hret hnm R
  subst hl
  have hql : q < h.size := V_q.lt
  replace R := R.iloadN (pc' := 1) (v := (1 : Int32)) own_d11_0 rfl rfl
  obtain ⟨h1, b1, k1, g1, E1, V1, R⟩ := R.newP (pc' := 3) (aty := .byte) (cap := 1) (own_w69 hw) own_d11_1 (by decide) (by decide) (by decide) (by decide) (by decide) rfl
  have V1p : Arv Z h1 b1 k1 .byte (1 : Int32) [(.int (0 : Int32))] (.int (0 : Int32)) := V1.pad (pad_rep [] (.int (0 : Int32)) 1)
  replace R := R.astoreN (pc' := 4) (l' := #[.val (.ref q), .val (.int (0 : Int32)), .val (.int (1 : Int32)), .val (.ref b1), .unset, .unset]) own_d11_3 rfl rfl rfl
  replace R := R.aloadN (pc' := 5) (v := (.ref q)) own_d11_4 rfl rfl rfl
  replace R := R.iloadN (pc' := 6) (v := (0 : Int32)) own_d11_5 rfl rfl
  replace R := R.aloadN (pc' := 7) (v := (.ref b1)) own_d11_6 rfl rfl rfl
  replace R := R.iconst (pc' := 8) (z := (0 : Int32)) own_d11_7 rfl rfl
  replace R := R.iloadN (pc' := 9) (v := (1 : Int32)) own_d11_8 rfl rfl
  have K3 := ((Keep.refl h []).trans ((Keep.refl h []).ext E1) all0)
  have F4 := V_q.keep K3 nin0
  have nqb : q ≠ b1 := fun e => by rw [e, g1] at hql; exact Nat.lt_irrefl _ hql
  obtain ⟨_, h2, _, ⟨rfl, K2, V2, rfl⟩, R⟩ := R.callS (pc' := 12) (argsL := [(.ref q), (.int (0 : Int32)), (.ref b1), (.int (0 : Int32)), (.int (1 : Int32))]) (rest := []) (W := 0) (own_w70 hw) (own_w71 hw) (own_w67 hw) (own_w72 hw) (by decide) (rm_c51 C.l Z a0 hw h1 n0 (b1 :: Ds) hok F4 (List.mem_of_getElem? (i := 0) rfl) nqb V1p) rfl (lenOf own_pd2 rfl) rfl rfl own_d11_9 (by decide) (by decide) (by decide) (by decide) rfl
  replace R := R.mono (ce' := 1) (sl' := 1) (by decide) (by decide)
  replace R := R.stk (S' := [(.int (1 : Int32))]) rfl
  replace R := R.istore (pc' := 14) (l' := #[.val (.ref q), .val (.int (0 : Int32)), .val (.int (1 : Int32)), .val (.ref b1), .val (.int (1 : Int32)), .unset]) own_d11_12 rfl rfl
  replace R := R.iload (pc' := 16) (v := (1 : Int32)) own_d11_14 rfl rfl
  replace R := R.iloadN (pc' := 17) (v := (1 : Int32)) own_d11_16 rfl rfl
  replace R := R.icmpY (pc' := 57) own_d11_17 (teq (by decide : (1 : Int32) = (1 : Int32))).1 (by decide) rfl
  replace R := R.aloadN (pc' := 58) (v := (.ref b1)) own_d11_57 rfl rfl rfl
  have hK := (((Keep.refl h []).trans ((Keep.refl h []).ext E1) all0).trans K2 (allS (Or.inr (by rw [g1]; exact (Nat.le_refl _))) all0))
  exact R.retA (Ds' := Ds) hret rfl rfl rfl own_d11_58 (by decide) (by decide) (fun _ q => (fun q => (List.mem_cons_of_mem _ q)) q) ⟨b1, _, rfl, hK, V2, rfl⟩
set_option maxRecDepth 65536 in
set_option maxHeartbeats 4000000 in
theorem rm_ca1 (l : Launch) (Z : State) (a0 : Array Value) (hw : ∀ d ∈ tables_1, d.before a0 Z = true) (h : Heap) (n0 : Nat) (Ds : List Addr) {b : Addr} {kb : ClassId} {vs : List Value} (V_b : Arv Z h b kb .byte (1 : Int32) vs (.int 0)) :
    Ctr l Z (⟨"java/lang/StringUTF16", "coderFromArrayLen", "([BI)B"⟩ : MethodName) jdk_52_method_15_code 2 (some .byte) [] ({ frames := 0, cells := 0, slots := 0, locals := 0 } : Room) #[.ref b, .int (1 : Int32)] h n0 Ds (fun v h' Ds' => v = some (.int (0 : Int32)) ∧ h = h' ∧ Ds = Ds') := by
  refine ctr_of (Ls := #[.val (.ref b), .val (.int (1 : Int32))]) (plainFor_of_name own_pn2) (fun m => by first | (simp [entryFrame, mkF, argsToLocals, Value.category]; done) | rfl) ?_
  intro C hl hret hnm R
  subst hl
  replace R := R.iloadN (pc' := 1) (v := (1 : Int32)) own_d13_0 rfl rfl
  replace R := R.aloadN (pc' := 2) (v := (.ref b)) own_d13_1 rfl rfl rfl
  replace R := R.arraylength (pc' := 3) V_b own_d13_2 rfl
  replace R := R.isub (pc' := 4) own_d13_3 rfl
  replace R := R.stk (S' := [(.int (0 : Int32))]) rfl
  replace R := R.bipush (pc' := 6) (z := (31 : Int32)) own_d13_4 rfl rfl
  replace R := R.iushr (pc' := 7) own_d13_6 rfl
  replace R := R.stk (S' := [(.int (0 : Int32))]) rfl
  replace R := R.i2b (pc' := 8) own_d13_7 rfl
  replace R := R.stk (S' := [(.int (0 : Int32))]) rfl
  exact R.retN (Ds' := Ds) hret (by simp) (show nar .byte (0 : Int32) = (0 : Int32) from rfl) own_d13_8 (by decide) (by decide) (fun _ q => q) ⟨rfl, rfl, rfl⟩
set_option maxRecDepth 65536 in
set_option maxHeartbeats 4000000 in
theorem rm_i41 (l : Launch) (Z : State) (a0 : Array Value) (hw : ∀ d ∈ tables_1, d.before a0 Z = true) (a : Addr) (h : Heap) (n0 : Nat) (Ds : List Addr) (own_cs : CompactOn Z) (own_si : SiooOk Z) (ha : a ∈ Ds) {x0 : Int32} {tl : List Value} (hok : ∀ c ∈ ([x0] : List Int32), ¬ c < 0 ∧ ¬ (255 : Int32) < c) {q : Addr} {kq : ClassId} (V_q : Arv Z h q kq .char (32 : Int32) (Value.int x0 :: tl) (.int 0)) {u1 u2 : Value} (E_a : Exa Z h a "java/lang/String") (F_v : Fld Z h a "java/lang/String" "value" "[B" u1) (F_c : Fld Z h a "java/lang/String" "coder" "B" u2) :
    Ctr l Z (⟨"java/lang/String", "<init>", "([CIILjava/lang/Void;)V"⟩ : MethodName) jdk_42_method_149_code 6 none [] ({ frames := 2, cells := 1, slots := 1, locals := 35 } : Room) #[.ref a, .ref q, .int (0 : Int32), .int (1 : Int32), .null] h n0 Ds (fun v h' Ds' => v = none ∧ Keep h h' [a] ∧ IsStr Z h' a [x0] ∧ Ds = Ds') := by
  refine ctr_of (Ls := #[.val (.ref a), .val (.ref q), .val (.int (0 : Int32)), .val (.int (1 : Int32)), .val .null, .unset]) (plainFor_of_name own_pn1) (fun m => by first | (simp [entryFrame, mkF, argsToLocals, Value.category]; done) | rfl) ?_
  intro C hl hret hnm R
  subst hl
  obtain ⟨zc, S_zc, hzc⟩ := id own_cs
  replace R := R.aloadN (pc' := 1) (v := (.ref a)) own_d10_0 rfl rfl rfl
  replace R := R.initO (pc' := 4) (W := 0) (own_w63 hw) (own_w9 hw) (own_w10 hw) rfl own_d10_1 (by decide) rfl (by decide) rfl
  replace R := R.iloadN (pc' := 5) (v := (1 : Int32)) own_d10_4 rfl rfl
  replace R := R.ifY (pc' := 27) own_d10_5 (feq (by decide : ¬ ((1 : Int32) = (0 : Int32)))).2 (by decide) rfl
  replace R := R.getS (pc' := 30) (host := "") (Or.inl (own_w64 hw)) Via.refl S_zc own_d10_27 rfl
  replace R := R.ifN (pc' := 33) own_d10_30 (feq hzc).1 rfl
  replace R := R.aloadN (pc' := 34) (v := (.ref q)) own_d10_33 rfl rfl rfl
  replace R := R.iloadN (pc' := 35) (v := (0 : Int32)) own_d10_34 rfl rfl
  replace R := R.iloadN (pc' := 36) (v := (1 : Int32)) own_d10_35 rfl rfl
  obtain ⟨_, h1, _, ⟨r1, k1, rfl, K1, V1, rfl⟩, R⟩ := R.callS (pc' := 39) (argsL := [(.ref q), (.int (0 : Int32)), (.int (1 : Int32))]) (rest := []) (W := 0) (own_w65 hw) (own_w66 hw) (own_w67 hw) (own_w68 hw) (by decide) (rm_c31 C.l Z a0 hw h n0 Ds hok V_q) rfl (lenOf own_pd3 rfl) rfl rfl own_d10_36 (by decide) (by decide) (by decide) (by decide) rfl
  replace R := R.mono (ce' := 1) (sl' := 1) (by decide) (by decide)
  replace R := R.stk (S' := [(.ref r1)]) rfl
  replace R := R.astore (pc' := 41) (l' := #[.val (.ref a), .val (.ref q), .val (.int (0 : Int32)), .val (.int (1 : Int32)), .val .null, .val (.ref r1)]) own_d10_39 rfl rfl rfl
  have K2 := ((Keep.refl h []).trans K1 all0)
  have F3 := E_a.keep K2
  have nab : a ≠ r1 := Exa.neArv F3 V1 (own_w43 hw)
  replace R := R.aloadN (pc' := 42) (v := (.ref a)) own_d10_41 rfl rfl rfl
  replace R := R.aload (pc' := 44) (v := (.ref r1)) own_d10_42 rfl rfl rfl
  replace R := R.iloadN (pc' := 45) (v := (1 : Int32)) own_d10_44 rfl rfl
  obtain ⟨_, _, _, ⟨rfl, rfl, rfl⟩, R⟩ := R.callS (pc' := 48) (argsL := [(.ref r1), (.int (1 : Int32))]) (rest := [(.ref a)]) (W := 1) (own_w73 hw) (own_w74 hw) (own_w67 hw) (own_w75 hw) (by decide) (rm_ca1 C.l Z a0 hw h1 n0 Ds V1) rfl (lenOf own_pd4 rfl) rfl rfl own_d10_45 (by decide) (by decide) (by decide) (by decide) rfl
  replace R := R.mono (ce' := 1) (sl' := 1) (by decide) (by decide)
  replace R := R.stk (S' := [(.int (0 : Int32)), (.ref a)]) rfl
  have K4 := ((Keep.refl h []).trans K1 all0)
  have F5 := F_c.keep K4 nin0
  have K6 := ((Keep.refl h []).trans K1 all0)
  have F7 := F_v.keep K6 nin0
  obtain ⟨h8, W8, R⟩ := R.putFN (pc' := 51) (ty := .byte) (v' := (.int (0 : Int32))) (own_w76 hw) Via.refl F5 F3 (Or.inr ⟨(own_w77 hw), rfl, hnm⟩) (own_w43 hw) (by decide) (rfl) (rfl) ha own_d10_48 rfl
  have F8 := F5.same W8
  have F9 := F7.other W8 (Or.inr (slot_ne (Or.inr (own_w79 hw)) (Or.inr (own_w77 hw)) (by decide) (t := (.array .byte)) (t' := .byte) (by decide) (by decide)))
  replace R := R.aloadN (pc' := 52) (v := (.ref a)) own_d10_51 rfl rfl rfl
  replace R := R.aload (pc' := 54) (v := (.ref r1)) own_d10_52 rfl rfl rfl
  have K10 := ((Keep.refl h1 [a]).trans (Keep.of_wr W8) (allS (Or.inl (List.mem_of_getElem? (i := 0) rfl)) all0))
  have F11 := F3.keep K10
  obtain ⟨h12, W12, R⟩ := R.putF (pc' := 57) (ty := (.array .byte)) (host := "") (Or.inl (own_w78 hw)) Via.refl F9 F11 (Or.inr ⟨(own_w79 hw), rfl, hnm⟩) (own_w43 hw) (by decide) rfl rfl ha own_d10_54 rfl
  have F12 := F9.same W12
  have F13 := F8.other W12 (Or.inr (slot_ne (Or.inr (own_w77 hw)) (Or.inr (own_w79 hw)) (by decide) (t := .byte) (t' := (.array .byte)) (by decide) (by decide)))
  have hK := ((((Keep.refl h [a]).trans K1 all0).trans (Keep.of_wr W8) (allS (Or.inl (List.mem_of_getElem? (i := 0) rfl)) all0)).trans (Keep.of_wr W12) (allS (Or.inl (List.mem_of_getElem? (i := 0) rfl)) all0))
  have K14 := ((Keep.refl h8 [a]).trans (Keep.of_wr W12) (allS (Or.inl (List.mem_of_getElem? (i := 0) rfl)) all0))
  have F15 := F11.keep K14
  have K16 := (((Keep.refl h1 [a]).trans (Keep.of_wr W8) (allS (Or.inl (List.mem_of_getElem? (i := 0) rfl)) all0)).trans (Keep.of_wr W12) (allS (Or.inl (List.mem_of_getElem? (i := 0) rfl)) all0))
  have F17 := V1.keep K16 (ninS (Ne.symm nab) nin0)
  exact R.retV (Ds' := Ds) hret own_d10_57 (by decide) (by decide) (fun _ q => q) ⟨rfl, hK, ⟨F15, F13, hok, Nat.le_of_ble_eq_true rfl, r1, _, F12, F17⟩, rfl⟩
set_option maxRecDepth 65536 in
set_option maxHeartbeats 4000000 in
theorem rm_i31 (l : Launch) (Z : State) (a0 : Array Value) (hw : ∀ d ∈ tables_1, d.before a0 Z = true) (a : Addr) (h : Heap) (n0 : Nat) (Ds : List Addr) (own_cs : CompactOn Z) (own_si : SiooOk Z) (ha : a ∈ Ds) {x0 : Int32} {tl : List Value} (hok : ∀ c ∈ ([x0] : List Int32), ¬ c < 0 ∧ ¬ (255 : Int32) < c) {q : Addr} {kq : ClassId} (V_q : Arv Z h q kq .char (32 : Int32) (Value.int x0 :: tl) (.int 0)) {u1 u2 : Value} (E_a : Exa Z h a "java/lang/String") (F_v : Fld Z h a "java/lang/String" "value" "[B" u1) (F_c : Fld Z h a "java/lang/String" "coder" "B" u2) :
    Ctr l Z (⟨"java/lang/String", "<init>", "([CII)V"⟩ : MethodName) jdk_42_method_4_code 4 none [] ({ frames := 3, cells := 1, slots := 1, locals := 52 } : Room) #[.ref a, .ref q, .int (0 : Int32), .int (1 : Int32)] h n0 Ds (fun v h' Ds' => v = none ∧ Keep h h' [a] ∧ IsStr Z h' a [x0] ∧ Ds = Ds') := by
  refine ctr_of (Ls := #[.val (.ref a), .val (.ref q), .val (.int (0 : Int32)), .val (.int (1 : Int32))]) (plainFor_of_name own_pn1) (fun m => by first | (simp [entryFrame, mkF, argsToLocals, Value.category]; done) | rfl) ?_
  intro C hl hret hnm R
  subst hl
  replace R := R.aloadN (pc' := 1) (v := (.ref a)) own_d6_0 rfl rfl rfl
  replace R := R.aloadN (pc' := 2) (v := (.ref q)) own_d6_1 rfl rfl rfl
  replace R := R.iloadN (pc' := 3) (v := (0 : Int32)) own_d6_2 rfl rfl
  replace R := R.iloadN (pc' := 4) (v := (1 : Int32)) own_d6_3 rfl rfl
  replace R := R.aloadN (pc' := 5) (v := (.ref q)) own_d6_4 rfl rfl rfl
  replace R := R.iloadN (pc' := 6) (v := (0 : Int32)) own_d6_5 rfl rfl
  replace R := R.iloadN (pc' := 7) (v := (1 : Int32)) own_d6_6 rfl rfl
  obtain ⟨_, _, _, ⟨rfl, rfl, rfl⟩, R⟩ := R.callS (pc' := 10) (argsL := [(.ref q), (.int (0 : Int32)), (.int (1 : Int32))]) (rest := [(.int (1 : Int32)), (.int (0 : Int32)), (.ref q), (.ref a)]) (W := 4) (own_w48 hw) (own_w49 hw) (own_w44 hw) (own_w50 hw) (by decide) (rm_rc1 C.l Z a0 hw h n0 Ds own_si hok V_q) rfl (lenOf own_pd5 rfl) rfl rfl own_d6_7 (by decide) (by decide) (by decide) (by decide) rfl
  replace R := R.mono (ce' := 0) (sl' := 0) (by decide) (by decide)
  replace R := R.stk (S' := [.null, (.int (1 : Int32)), (.int (0 : Int32)), (.ref q), (.ref a)]) rfl
  obtain ⟨_, h1, _, ⟨rfl, K1, S1, rfl⟩, R⟩ := R.callI (pc' := 13) (a := a) (argsL := [(.ref q), (.int (0 : Int32)), (.int (1 : Int32)), .null]) (rest := []) (W := 0) rfl (own_w59 hw) (own_w60 hw) (own_w44 hw) (own_w62 hw) (by decide) (rm_i41 C.l Z a0 hw a h n0 Ds own_cs own_si ha hok V_q E_a F_v F_c) rfl (lenOf own_pd6 rfl) rfl rfl own_d6_10 (by decide) (by decide) (by decide) (by decide) rfl
  replace R := R.mono (ce' := 1) (sl' := 1) (by decide) (by decide)
  replace R := R.stk (S' := []) rfl
  have hK := ((Keep.refl h [a]).trans K1 (allS (Or.inl (List.mem_of_getElem? (i := 0) rfl)) all0))
  exact R.retV (Ds' := Ds) hret own_d6_13 (by decide) (by decide) (fun _ q => q) ⟨rfl, hK, S1, rfl⟩
set_option maxRecDepth 65536 in
set_option maxHeartbeats 4000000 in
theorem rm_text1 (l : Launch) (Z : State) (a0 : Array Value) (hw : ∀ d ∈ tables_1, d.before a0 Z = true) (a : Addr) (h : Heap) (n0 : Nat) (Ds : List Addr) (own_cs : CompactOn Z) (own_si : SiooOk Z) {x0 : Int32} {tl : List Value} (hok : ∀ c ∈ ([x0] : List Int32), ¬ c < 0 ∧ ¬ (255 : Int32) < c) {q : Addr} {kq : ClassId} (V_q : Arv Z h q kq .char (32 : Int32) (Value.int x0 :: tl) (.int 0)) (F_q : Fld Z h a "com/example/pinsheet/pinsheet/WholeNumbers$Reading" "quoted" "[C" (.ref q)) (F_n : Fld Z h a "com/example/pinsheet/pinsheet/WholeNumbers$Reading" "quotedLength" "I" (.int (1 : Int32))) :
    Ctr l Z (⟨"com/example/pinsheet/pinsheet/WholeNumbers$Reading", "text", "()Ljava/lang/String;"⟩ : MethodName) prog_18_method_6_code 1 (some (.object "java/lang/String")) [] ({ frames := 4, cells := 2, slots := 5, locals := 68 } : Room) #[.ref a] h n0 Ds (fun v h' Ds' => ∃ r : Addr, v = some (.ref r) ∧ IsStr Z h' r [x0] ∧ Keep h h' [] ∧ Ds = Ds') := by
  refine ctr_of (Ls := #[.val (.ref a)]) (plainFor_of_name own_pn3) (fun m => by first | (simp [entryFrame, mkF, argsToLocals, Value.category]; done) | rfl) ?_
  intro C hl hret hnm R
  subst hl
  obtain ⟨h1, b1, g1, E1, X1, D1, R⟩ := R.newO (pc' := 3) (own_w42 hw) (own_w43 hw) (own_w44 hw) own_d5_0 (by decide) (by decide) rfl
  have F1_coder : Fld Z h1 b1 "java/lang/String" "coder" "B" (.int (0 : Int32)) := D1 (Or.inr (own_w77 hw)) (ty := .byte) (by decide)
  have F1_value : Fld Z h1 b1 "java/lang/String" "value" "[B" .null := D1 (Or.inr (own_w79 hw)) (ty := (.array .byte)) (by decide)
  replace R := R.dup (pc' := 4) own_d5_3 rfl rfl
  replace R := R.aloadN (pc' := 5) (v := (.ref a)) own_d5_4 rfl rfl rfl
  have K2 := ((Keep.refl h []).trans ((Keep.refl h []).ext E1) all0)
  have F3 := F_q.keep K2 nin0
  replace R := R.getF (pc' := 8) (host := "") (Or.inl (own_w11 hw)) Via.refl F3 own_d5_5 rfl
  replace R := R.iconst (pc' := 9) (z := (0 : Int32)) own_d5_8 rfl rfl
  replace R := R.aloadN (pc' := 10) (v := (.ref a)) own_d5_9 rfl rfl rfl
  have K4 := ((Keep.refl h []).trans ((Keep.refl h []).ext E1) all0)
  have F5 := F_n.keep K4 nin0
  replace R := R.getF (pc' := 13) (host := "") (Or.inl (own_w20 hw)) Via.refl F5 own_d5_10 rfl
  have K7 := ((Keep.refl h []).trans ((Keep.refl h []).ext E1) all0)
  have F8 := V_q.keep K7 nin0
  obtain ⟨_, h6, _, ⟨rfl, K6, S6, rfl⟩, R⟩ := R.callI (pc' := 16) (a := b1) (argsL := [(.ref q), (.int (0 : Int32)), (.int (1 : Int32))]) (rest := [(.ref b1)]) (W := 1) rfl (own_w45 hw) (own_w46 hw) (own_w44 hw) (own_w47 hw) (by decide) (rm_i31 C.l Z a0 hw b1 h1 n0 (b1 :: Ds) own_cs own_si (List.mem_of_getElem? (i := 0) rfl) hok F8 X1 F1_value F1_coder) rfl (lenOf own_pd7 rfl) rfl rfl own_d5_13 (by decide) (by decide) (by decide) (by decide) rfl
  replace R := R.mono (ce' := 2) (sl' := 5) (by decide) (by decide)
  replace R := R.stk (S' := [(.ref b1)]) rfl
  have hK := (((Keep.refl h []).trans ((Keep.refl h []).ext E1) all0).trans K6 (allS (Or.inr (by rw [g1]; exact (Nat.le_refl _))) all0))
  exact R.retA (Ds' := Ds) hret rfl rfl rfl own_d5_16 (by decide) (by decide) (fun _ q => (fun q => (List.mem_cons_of_mem _ q)) q) ⟨b1, rfl, S6, hK, rfl⟩
set_option maxRecDepth 65536 in
set_option maxHeartbeats 4000000 in
theorem rm_cfi2 (l : Launch) (Z : State) (a0 : Array Value) (hw : ∀ d ∈ tables_1, d.before a0 Z = true) (fm : Value) (h : Heap) (n0 : Nat) (Ds : List Addr) (hfm : fm.isRef = true) :
    Ctr l Z (⟨"jdk/internal/util/Preconditions", "checkFromIndexSize", "(IIILjava/util/function/BiFunction;)I"⟩ : MethodName) jdk_41_method_13_code 4 (some .int) [] ({ frames := 0, cells := 0, slots := 0, locals := 0 } : Room) #[.int (0 : Int32), .int (2 : Int32), .int (32 : Int32), fm] h n0 Ds (fun v h' Ds' => v = some (.int (0 : Int32)) ∧ h = h' ∧ Ds = Ds') := by
  refine ctr_of (Ls := #[.val (.int (0 : Int32)), .val (.int (2 : Int32)), .val (.int (32 : Int32)), .val fm]) (plainFor_of_name own_pn0) (fun mm => by rcases ref_cases hfm with rfl | ⟨_, rfl⟩ <;> first | (simp [entryFrame, mkF, argsToLocals, Value.category]; done) | rfl) ?_
  intro C hl hret hnm R
  subst hl
  replace R := R.iloadN (pc' := 1) (v := (32 : Int32)) own_d9_0 rfl rfl
  replace R := R.iloadN (pc' := 2) (v := (0 : Int32)) own_d9_1 rfl rfl
  replace R := R.ior (pc' := 3) own_d9_2 rfl
  replace R := R.stk (S' := [(.int (32 : Int32))]) rfl
  replace R := R.iloadN (pc' := 4) (v := (2 : Int32)) own_d9_3 rfl rfl
  replace R := R.ior (pc' := 5) own_d9_4 rfl
  replace R := R.stk (S' := [(.int (34 : Int32))]) rfl
  replace R := R.ifN (pc' := 8) own_d9_5 (flt (by decide : ¬ ((34 : Int32) < (0 : Int32)))).1 rfl
  replace R := R.iloadN (pc' := 9) (v := (2 : Int32)) own_d9_8 rfl rfl
  replace R := R.iloadN (pc' := 10) (v := (32 : Int32)) own_d9_9 rfl rfl
  replace R := R.iloadN (pc' := 11) (v := (0 : Int32)) own_d9_10 rfl rfl
  replace R := R.isub (pc' := 12) own_d9_11 rfl
  replace R := R.stk (S' := [(.int (32 : Int32)), (.int (2 : Int32))]) rfl
  replace R := R.icmpY (pc' := 23) own_d9_12 (flt (by decide : ¬ ((32 : Int32) < (2 : Int32)))).2.2.2 (by decide) rfl
  replace R := R.iloadN (pc' := 24) (v := (0 : Int32)) own_d9_23 rfl rfl
  exact R.retI (Ds' := Ds) hret own_d9_24 (by decide) (by decide) (fun _ q => q) ⟨rfl, rfl, rfl⟩
set_option maxRecDepth 65536 in
set_option maxHeartbeats 4000000 in
theorem rm_cbo2 (l : Launch) (Z : State) (a0 : Array Value) (hw : ∀ d ∈ tables_1, d.before a0 Z = true) (h : Heap) (n0 : Nat) (Ds : List Addr) (own_si : SiooOk Z) :
    Ctr l Z (⟨"java/lang/String", "checkBoundsOffCount", "(III)I"⟩ : MethodName) jdk_42_method_157_code 3 (some .int) [] ({ frames := 1, cells := 0, slots := 0, locals := 15 } : Room) #[.int (0 : Int32), .int (2 : Int32), .int (32 : Int32)] h n0 Ds (fun v h' Ds' => v = some (.int (0 : Int32)) ∧ h = h' ∧ Ds = Ds') := by
  refine ctr_of (Ls := #[.val (.int (0 : Int32)), .val (.int (2 : Int32)), .val (.int (32 : Int32))]) (plainFor_of_name own_pn1) (fun m => by first | (simp [entryFrame, mkF, argsToLocals, Value.category]; done) | rfl) ?_
  intro C hl hret hnm R
  subst hl
  obtain ⟨fm, S_fm, hfm⟩ := id own_si
  replace R := R.iloadN (pc' := 1) (v := (0 : Int32)) own_d8_0 rfl rfl
  replace R := R.iloadN (pc' := 2) (v := (2 : Int32)) own_d8_1 rfl rfl
  replace R := R.iloadN (pc' := 3) (v := (32 : Int32)) own_d8_2 rfl rfl
  replace R := R.getS (pc' := 6) (host := "") (Or.inl (own_w54 hw)) Via.refl S_fm own_d8_3 rfl
  obtain ⟨_, _, _, ⟨rfl, rfl, rfl⟩, R⟩ := R.callS (pc' := 9) (argsL := [(.int (0 : Int32)), (.int (2 : Int32)), (.int (32 : Int32)), fm]) (rest := []) (W := 0) (own_w56 hw) (own_w57 hw) (own_w55 hw) (own_w58 hw) (by decide) (rm_cfi2 C.l Z a0 hw fm h n0 Ds hfm) rfl (lenOf own_pd0 rfl) rfl rfl own_d8_6 (by decide) (by decide) (by decide) (by decide) rfl
  replace R := R.mono (ce' := 0) (sl' := 0) (by decide) (by decide)
  replace R := R.stk (S' := [(.int (0 : Int32))]) rfl
  exact R.retI (Ds' := Ds) hret own_d8_9 (by decide) (by decide) (fun _ q => q) ⟨rfl, rfl, rfl⟩
set_option maxRecDepth 65536 in
set_option maxHeartbeats 4000000 in
theorem rm_rc2 (l : Launch) (Z : State) (a0 : Array Value) (hw : ∀ d ∈ tables_1, d.before a0 Z = true) (h : Heap) (n0 : Nat) (Ds : List Addr) (own_si : SiooOk Z) {x0 x1 : Int32} {tl : List Value} (hok : ∀ c ∈ ([x0, x1] : List Int32), ¬ c < 0 ∧ ¬ (255 : Int32) < c) {q : Addr} {kq : ClassId} (V_q : Arv Z h q kq .char (32 : Int32) (Value.int x0 :: Value.int x1 :: tl) (.int 0)) :
    Ctr l Z (⟨"java/lang/String", "rangeCheck", "([CII)Ljava/lang/Void;"⟩ : MethodName) jdk_42_method_5_code 3 (some (.object "java/lang/Void")) [] ({ frames := 2, cells := 0, slots := 0, locals := 29 } : Room) #[.ref q, .int (0 : Int32), .int (2 : Int32)] h n0 Ds (fun v h' Ds' => v = some .null ∧ h = h' ∧ Ds = Ds') := by
  refine ctr_of (Ls := #[.val (.ref q), .val (.int (0 : Int32)), .val (.int (2 : Int32))]) (plainFor_of_name own_pn1) (fun m => by first | (simp [entryFrame, mkF, argsToLocals, Value.category]; done) | rfl) ?_
  intro C hl hret hnm R
  subst hl
  replace R := R.iloadN (pc' := 1) (v := (0 : Int32)) own_d7_0 rfl rfl
  replace R := R.iloadN (pc' := 2) (v := (2 : Int32)) own_d7_1 rfl rfl
  replace R := R.aloadN (pc' := 3) (v := (.ref q)) own_d7_2 rfl rfl rfl
  replace R := R.arraylength (pc' := 4) V_q own_d7_3 rfl
  obtain ⟨_, _, _, ⟨rfl, rfl, rfl⟩, R⟩ := R.callS (pc' := 7) (argsL := [(.int (0 : Int32)), (.int (2 : Int32)), (.int (32 : Int32))]) (rest := []) (W := 0) (own_w51 hw) (own_w52 hw) (own_w44 hw) (own_w53 hw) (by decide) (rm_cbo2 C.l Z a0 hw h n0 Ds own_si) rfl (lenOf own_pd1 rfl) rfl rfl own_d7_4 (by decide) (by decide) (by decide) (by decide) rfl
  replace R := R.mono (ce' := 0) (sl' := 0) (by decide) (by decide)
  replace R := R.stk (S' := [(.int (0 : Int32))]) rfl
  replace R := R.pop (pc' := 8) own_d7_7 rfl rfl
  replace R := R.anull (pc' := 9) own_d7_8 rfl
  exact R.retA (Ds' := Ds) hret rfl rfl rfl own_d7_9 (by decide) (by decide) (fun _ q => q) ⟨rfl, rfl, rfl⟩
set_option maxRecDepth 65536 in
set_option maxHeartbeats 4000000 in
theorem rm_c52 (l : Launch) (Z : State) (a0 : Array Value) (hw : ∀ d ∈ tables_1, d.before a0 Z = true) (h : Heap) (n0 : Nat) (Ds : List Addr) {x0 x1 : Int32} {tl : List Value} (hok : ∀ c ∈ ([x0, x1] : List Int32), ¬ c < 0 ∧ ¬ (255 : Int32) < c) {q : Addr} {kq : ClassId} (V_q : Arv Z h q kq .char (32 : Int32) (Value.int x0 :: Value.int x1 :: tl) (.int 0)) {b : Addr} {kb : ClassId} (hb : b ∈ Ds) (nqb : q ≠ b) (V_b : Arv Z h b kb .byte (2 : Int32) [(.int (0 : Int32)), (.int (0 : Int32))] (.int 0)) :
    Ctr l Z (⟨"java/lang/StringUTF16", "compress", "([CI[BII)I"⟩ : MethodName) jdk_52_method_21_code 7 (some .int) [] ({ frames := 0, cells := 0, slots := 0, locals := 0 } : Room) #[.ref q, .int (0 : Int32), .ref b, .int (0 : Int32), .int (2 : Int32)] h n0 Ds (fun v h' Ds' => v = some (.int (2 : Int32)) ∧ Keep h h' [b] ∧ Arv Z h' b kb .byte (2 : Int32) [(.int x0.toInt8.toInt32), (.int x1.toInt8.toInt32)] (.int 0) ∧ Ds = Ds') := by
  refine ctr_of (Ls := #[.val (.ref q), .val (.int (0 : Int32)), .val (.ref b), .val (.int (0 : Int32)), .val (.int (2 : Int32)), .unset, .unset]) (plainFor_of_name own_pn2) (fun m => by first | (simp [entryFrame, mkF, argsToLocals, Value.category]; done) | rfl) ?_
  intro C hl hret hnm R
  subst hl
  replace R := R.iconst (pc' := 1) (z := (0 : Int32)) own_d12_0 rfl rfl
  replace R := R.istore (pc' := 3) (l' := #[.val (.ref q), .val (.int (0 : Int32)), .val (.ref b), .val (.int (0 : Int32)), .val (.int (2 : Int32)), .val (.int (0 : Int32)), .unset]) own_d12_1 rfl rfl
  replace R := R.iload (pc' := 5) (v := (0 : Int32)) own_d12_3 rfl rfl
  replace R := R.iload (pc' := 7) (v := (2 : Int32)) own_d12_5 rfl rfl
  replace R := R.icmpN (pc' := 10) own_d12_7 (tlt (by decide : (0 : Int32) < (2 : Int32))).2.1 rfl
  replace R := R.aloadN (pc' := 11) (v := (.ref q)) own_d12_10 rfl rfl rfl
  replace R := R.iloadN (pc' := 12) (v := (0 : Int32)) own_d12_11 rfl rfl
  replace R := R.caload (pc' := 13) (v := (.int x0)) V_q ⟨by decide, by decide⟩ rfl own_d12_12 rfl
  replace R := R.istore (pc' := 15) (l' := #[.val (.ref q), .val (.int (0 : Int32)), .val (.ref b), .val (.int (0 : Int32)), .val (.int (2 : Int32)), .val (.int (0 : Int32)), .val (.int x0)]) own_d12_13 rfl rfl
  replace R := R.iload (pc' := 17) (v := x0) own_d12_15 rfl rfl
  replace R := R.sipush (pc' := 20) (z := (255 : Int32)) own_d12_17 rfl rfl
  replace R := R.icmpY (pc' := 26) own_d12_20 (flt (hok x0 (List.mem_of_getElem? (i := 0) rfl)).2).2.2.2 (by decide) rfl
  replace R := R.aloadN (pc' := 27) (v := (.ref b)) own_d12_26 rfl rfl rfl
  replace R := R.iloadN (pc' := 28) (v := (0 : Int32)) own_d12_27 rfl rfl
  replace R := R.iload (pc' := 30) (v := x0) own_d12_28 rfl rfl
  replace R := R.i2b (pc' := 31) own_d12_30 rfl
  obtain ⟨h1, K1, V1, R⟩ := R.bastore (pc' := 32) V_b ⟨by decide, by decide⟩ 0 rfl (Nat.le_of_ble_eq_true rfl) hb own_d12_31 rfl
  have V1p : Arv Z h1 b kb .byte (2 : Int32) [(.int x0.toInt8.toInt32), (.int (0 : Int32))] (.int 0) := by
    have q := V1
    rw [nar_i2b x0] at q
    exact q
  replace R := R.iinc (pc' := 35) (l' := #[.val (.ref q), .val (.int (1 : Int32)), .val (.ref b), .val (.int (0 : Int32)), .val (.int (2 : Int32)), .val (.int (0 : Int32)), .val (.int x0)]) own_d12_32 rfl rfl rfl
  replace R := R.iinc (pc' := 38) (l' := #[.val (.ref q), .val (.int (1 : Int32)), .val (.ref b), .val (.int (1 : Int32)), .val (.int (2 : Int32)), .val (.int (0 : Int32)), .val (.int x0)]) own_d12_35 rfl rfl rfl
  replace R := R.iinc (pc' := 41) (l' := #[.val (.ref q), .val (.int (1 : Int32)), .val (.ref b), .val (.int (1 : Int32)), .val (.int (2 : Int32)), .val (.int (1 : Int32)), .val (.int x0)]) own_d12_38 rfl rfl rfl
  replace R := R.goto (pc' := 3) own_d12_41 (by decide) rfl
  replace R := R.iload (pc' := 5) (v := (1 : Int32)) own_d12_3 rfl rfl
  replace R := R.iload (pc' := 7) (v := (2 : Int32)) own_d12_5 rfl rfl
  replace R := R.icmpN (pc' := 10) own_d12_7 (tlt (by decide : (1 : Int32) < (2 : Int32))).2.1 rfl
  replace R := R.aloadN (pc' := 11) (v := (.ref q)) own_d12_10 rfl rfl rfl
  replace R := R.iloadN (pc' := 12) (v := (1 : Int32)) own_d12_11 rfl rfl
  have K2 := ((Keep.refl h [b]).trans K1 (allS (Or.inl (List.mem_of_getElem? (i := 0) rfl)) all0))
  have F3 := V_q.keep K2 (ninS nqb nin0)
  replace R := R.caload (pc' := 13) (v := (.int x1)) F3 ⟨by decide, by decide⟩ rfl own_d12_12 rfl
  replace R := R.istore (pc' := 15) (l' := #[.val (.ref q), .val (.int (1 : Int32)), .val (.ref b), .val (.int (1 : Int32)), .val (.int (2 : Int32)), .val (.int (1 : Int32)), .val (.int x1)]) own_d12_13 rfl rfl
  replace R := R.iload (pc' := 17) (v := x1) own_d12_15 rfl rfl
  replace R := R.sipush (pc' := 20) (z := (255 : Int32)) own_d12_17 rfl rfl
  replace R := R.icmpY (pc' := 26) own_d12_20 (flt (hok x1 (List.mem_of_getElem? (i := 1) rfl)).2).2.2.2 (by decide) rfl
  replace R := R.aloadN (pc' := 27) (v := (.ref b)) own_d12_26 rfl rfl rfl
  replace R := R.iloadN (pc' := 28) (v := (1 : Int32)) own_d12_27 rfl rfl
  replace R := R.iload (pc' := 30) (v := x1) own_d12_28 rfl rfl
  replace R := R.i2b (pc' := 31) own_d12_30 rfl
  obtain ⟨h4, K4, V4, R⟩ := R.bastore (pc' := 32) V1p ⟨by decide, by decide⟩ 1 rfl (Nat.le_of_ble_eq_true rfl) hb own_d12_31 rfl
  have V4p : Arv Z h4 b kb .byte (2 : Int32) [(.int x0.toInt8.toInt32), (.int x1.toInt8.toInt32)] (.int 0) := by
    have q := V4
    rw [nar_i2b x1] at q
    exact q
  replace R := R.iinc (pc' := 35) (l' := #[.val (.ref q), .val (.int (2 : Int32)), .val (.ref b), .val (.int (1 : Int32)), .val (.int (2 : Int32)), .val (.int (1 : Int32)), .val (.int x1)]) own_d12_32 rfl rfl rfl
  replace R := R.iinc (pc' := 38) (l' := #[.val (.ref q), .val (.int (2 : Int32)), .val (.ref b), .val (.int (2 : Int32)), .val (.int (2 : Int32)), .val (.int (1 : Int32)), .val (.int x1)]) own_d12_35 rfl rfl rfl
  replace R := R.iinc (pc' := 41) (l' := #[.val (.ref q), .val (.int (2 : Int32)), .val (.ref b), .val (.int (2 : Int32)), .val (.int (2 : Int32)), .val (.int (2 : Int32)), .val (.int x1)]) own_d12_38 rfl rfl rfl
  replace R := R.goto (pc' := 3) own_d12_41 (by decide) rfl
  replace R := R.iload (pc' := 5) (v := (2 : Int32)) own_d12_3 rfl rfl
  replace R := R.iload (pc' := 7) (v := (2 : Int32)) own_d12_5 rfl rfl
  replace R := R.icmpY (pc' := 44) own_d12_7 (flt (by decide : ¬ ((2 : Int32) < (2 : Int32)))).2.1 (by decide) rfl
  replace R := R.iload (pc' := 46) (v := (2 : Int32)) own_d12_44 rfl rfl
  have hK := (((Keep.refl h [b]).trans K1 (allS (Or.inl (List.mem_of_getElem? (i := 0) rfl)) all0)).trans K4 (allS (Or.inl (List.mem_of_getElem? (i := 0) rfl)) all0))
  exact R.retI (Ds' := Ds) hret own_d12_46 (by decide) (by decide) (fun _ q => q) ⟨rfl, hK, V4p, rfl⟩
set_option maxRecDepth 65536 in
set_option maxHeartbeats 4000000 in
theorem rm_c32 (l : Launch) (Z : State) (a0 : Array Value) (hw : ∀ d ∈ tables_1, d.before a0 Z = true) (h : Heap) (n0 : Nat) (Ds : List Addr) {x0 x1 : Int32} {tl : List Value} (hok : ∀ c ∈ ([x0, x1] : List Int32), ¬ c < 0 ∧ ¬ (255 : Int32) < c) {q : Addr} {kq : ClassId} (V_q : Arv Z h q kq .char (32 : Int32) (Value.int x0 :: Value.int x1 :: tl) (.int 0)) :
    Ctr l Z (⟨"java/lang/StringUTF16", "compress", "([CII)[B"⟩ : MethodName) jdk_52_method_16_code 6 (some (.array .byte)) [] ({ frames := 1, cells := 1, slots := 2, locals := 18 } : Room) #[.ref q, .int (0 : Int32), .int (2 : Int32)] h n0 Ds (fun v h' Ds' => ∃ (b : Addr) (kb : ClassId), v = some (.ref b) ∧ Keep h h' [] ∧ Arv Z h' b kb .byte (2 : Int32) [(.int x0.toInt8.toInt32), (.int x1.toInt8.toInt32)] (.int 0) ∧ Ds = Ds') := by
  refine ctr_of (Ls := #[.val (.ref q), .val (.int (0 : Int32)), .val (.int (2 : Int32)), .unset, .unset, .unset]) (plainFor_of_name own_pn2) (fun m => by first | (simp [entryFrame, mkF, argsToLocals, Value.category]; done) | rfl) ?_
  intro C hl hret hnm R
  subst hl
  have hql : q < h.size := V_q.lt
  replace R := R.iloadN (pc' := 1) (v := (2 : Int32)) own_d11_0 rfl rfl
  obtain ⟨h1, b1, k1, g1, E1, V1, R⟩ := R.newP (pc' := 3) (aty := .byte) (cap := 2) (own_w69 hw) own_d11_1 (by decide) (by decide) (by decide) (by decide) (by decide) rfl
  have V1p : Arv Z h1 b1 k1 .byte (2 : Int32) [(.int (0 : Int32)), (.int (0 : Int32))] (.int (0 : Int32)) := V1.pad (pad_rep [] (.int (0 : Int32)) 2)
  replace R := R.astoreN (pc' := 4) (l' := #[.val (.ref q), .val (.int (0 : Int32)), .val (.int (2 : Int32)), .val (.ref b1), .unset, .unset]) own_d11_3 rfl rfl rfl
  replace R := R.aloadN (pc' := 5) (v := (.ref q)) own_d11_4 rfl rfl rfl
  replace R := R.iloadN (pc' := 6) (v := (0 : Int32)) own_d11_5 rfl rfl
  replace R := R.aloadN (pc' := 7) (v := (.ref b1)) own_d11_6 rfl rfl rfl
  replace R := R.iconst (pc' := 8) (z := (0 : Int32)) own_d11_7 rfl rfl
  replace R := R.iloadN (pc' := 9) (v := (2 : Int32)) own_d11_8 rfl rfl
  have K3 := ((Keep.refl h []).trans ((Keep.refl h []).ext E1) all0)
  have F4 := V_q.keep K3 nin0
  have nqb : q ≠ b1 := fun e => by rw [e, g1] at hql; exact Nat.lt_irrefl _ hql
  obtain ⟨_, h2, _, ⟨rfl, K2, V2, rfl⟩, R⟩ := R.callS (pc' := 12) (argsL := [(.ref q), (.int (0 : Int32)), (.ref b1), (.int (0 : Int32)), (.int (2 : Int32))]) (rest := []) (W := 0) (own_w70 hw) (own_w71 hw) (own_w67 hw) (own_w72 hw) (by decide) (rm_c52 C.l Z a0 hw h1 n0 (b1 :: Ds) hok F4 (List.mem_of_getElem? (i := 0) rfl) nqb V1p) rfl (lenOf own_pd2 rfl) rfl rfl own_d11_9 (by decide) (by decide) (by decide) (by decide) rfl
  replace R := R.mono (ce' := 1) (sl' := 2) (by decide) (by decide)
  replace R := R.stk (S' := [(.int (2 : Int32))]) rfl
  replace R := R.istore (pc' := 14) (l' := #[.val (.ref q), .val (.int (0 : Int32)), .val (.int (2 : Int32)), .val (.ref b1), .val (.int (2 : Int32)), .unset]) own_d11_12 rfl rfl
  replace R := R.iload (pc' := 16) (v := (2 : Int32)) own_d11_14 rfl rfl
  replace R := R.iloadN (pc' := 17) (v := (2 : Int32)) own_d11_16 rfl rfl
  replace R := R.icmpY (pc' := 57) own_d11_17 (teq (by decide : (2 : Int32) = (2 : Int32))).1 (by decide) rfl
  replace R := R.aloadN (pc' := 58) (v := (.ref b1)) own_d11_57 rfl rfl rfl
  have hK := (((Keep.refl h []).trans ((Keep.refl h []).ext E1) all0).trans K2 (allS (Or.inr (by rw [g1]; exact (Nat.le_refl _))) all0))
  exact R.retA (Ds' := Ds) hret rfl rfl rfl own_d11_58 (by decide) (by decide) (fun _ q => (fun q => (List.mem_cons_of_mem _ q)) q) ⟨b1, _, rfl, hK, V2, rfl⟩
set_option maxRecDepth 65536 in
set_option maxHeartbeats 4000000 in
theorem rm_ca2 (l : Launch) (Z : State) (a0 : Array Value) (hw : ∀ d ∈ tables_1, d.before a0 Z = true) (h : Heap) (n0 : Nat) (Ds : List Addr) {b : Addr} {kb : ClassId} {vs : List Value} (V_b : Arv Z h b kb .byte (2 : Int32) vs (.int 0)) :
    Ctr l Z (⟨"java/lang/StringUTF16", "coderFromArrayLen", "([BI)B"⟩ : MethodName) jdk_52_method_15_code 2 (some .byte) [] ({ frames := 0, cells := 0, slots := 0, locals := 0 } : Room) #[.ref b, .int (2 : Int32)] h n0 Ds (fun v h' Ds' => v = some (.int (0 : Int32)) ∧ h = h' ∧ Ds = Ds') := by
  refine ctr_of (Ls := #[.val (.ref b), .val (.int (2 : Int32))]) (plainFor_of_name own_pn2) (fun m => by first | (simp [entryFrame, mkF, argsToLocals, Value.category]; done) | rfl) ?_
  intro C hl hret hnm R
  subst hl
  replace R := R.iloadN (pc' := 1) (v := (2 : Int32)) own_d13_0 rfl rfl
  replace R := R.aloadN (pc' := 2) (v := (.ref b)) own_d13_1 rfl rfl rfl
  replace R := R.arraylength (pc' := 3) V_b own_d13_2 rfl
  replace R := R.isub (pc' := 4) own_d13_3 rfl
  replace R := R.stk (S' := [(.int (0 : Int32))]) rfl
  replace R := R.bipush (pc' := 6) (z := (31 : Int32)) own_d13_4 rfl rfl
  replace R := R.iushr (pc' := 7) own_d13_6 rfl
  replace R := R.stk (S' := [(.int (0 : Int32))]) rfl
  replace R := R.i2b (pc' := 8) own_d13_7 rfl
  replace R := R.stk (S' := [(.int (0 : Int32))]) rfl
  exact R.retN (Ds' := Ds) hret (by simp) (show nar .byte (0 : Int32) = (0 : Int32) from rfl) own_d13_8 (by decide) (by decide) (fun _ q => q) ⟨rfl, rfl, rfl⟩
set_option maxRecDepth 65536 in
set_option maxHeartbeats 4000000 in
theorem rm_i42 (l : Launch) (Z : State) (a0 : Array Value) (hw : ∀ d ∈ tables_1, d.before a0 Z = true) (a : Addr) (h : Heap) (n0 : Nat) (Ds : List Addr) (own_cs : CompactOn Z) (own_si : SiooOk Z) (ha : a ∈ Ds) {x0 x1 : Int32} {tl : List Value} (hok : ∀ c ∈ ([x0, x1] : List Int32), ¬ c < 0 ∧ ¬ (255 : Int32) < c) {q : Addr} {kq : ClassId} (V_q : Arv Z h q kq .char (32 : Int32) (Value.int x0 :: Value.int x1 :: tl) (.int 0)) {u1 u2 : Value} (E_a : Exa Z h a "java/lang/String") (F_v : Fld Z h a "java/lang/String" "value" "[B" u1) (F_c : Fld Z h a "java/lang/String" "coder" "B" u2) :
    Ctr l Z (⟨"java/lang/String", "<init>", "([CIILjava/lang/Void;)V"⟩ : MethodName) jdk_42_method_149_code 6 none [] ({ frames := 2, cells := 1, slots := 2, locals := 35 } : Room) #[.ref a, .ref q, .int (0 : Int32), .int (2 : Int32), .null] h n0 Ds (fun v h' Ds' => v = none ∧ Keep h h' [a] ∧ IsStr Z h' a [x0, x1] ∧ Ds = Ds') := by
  refine ctr_of (Ls := #[.val (.ref a), .val (.ref q), .val (.int (0 : Int32)), .val (.int (2 : Int32)), .val .null, .unset]) (plainFor_of_name own_pn1) (fun m => by first | (simp [entryFrame, mkF, argsToLocals, Value.category]; done) | rfl) ?_
  intro C hl hret hnm R
  subst hl
  obtain ⟨zc, S_zc, hzc⟩ := id own_cs
  replace R := R.aloadN (pc' := 1) (v := (.ref a)) own_d10_0 rfl rfl rfl
  replace R := R.initO (pc' := 4) (W := 0) (own_w63 hw) (own_w9 hw) (own_w10 hw) rfl own_d10_1 (by decide) rfl (by decide) rfl
  replace R := R.iloadN (pc' := 5) (v := (2 : Int32)) own_d10_4 rfl rfl
  replace R := R.ifY (pc' := 27) own_d10_5 (feq (by decide : ¬ ((2 : Int32) = (0 : Int32)))).2 (by decide) rfl
  replace R := R.getS (pc' := 30) (host := "") (Or.inl (own_w64 hw)) Via.refl S_zc own_d10_27 rfl
  replace R := R.ifN (pc' := 33) own_d10_30 (feq hzc).1 rfl
  replace R := R.aloadN (pc' := 34) (v := (.ref q)) own_d10_33 rfl rfl rfl
  replace R := R.iloadN (pc' := 35) (v := (0 : Int32)) own_d10_34 rfl rfl
  replace R := R.iloadN (pc' := 36) (v := (2 : Int32)) own_d10_35 rfl rfl
  obtain ⟨_, h1, _, ⟨r1, k1, rfl, K1, V1, rfl⟩, R⟩ := R.callS (pc' := 39) (argsL := [(.ref q), (.int (0 : Int32)), (.int (2 : Int32))]) (rest := []) (W := 0) (own_w65 hw) (own_w66 hw) (own_w67 hw) (own_w68 hw) (by decide) (rm_c32 C.l Z a0 hw h n0 Ds hok V_q) rfl (lenOf own_pd3 rfl) rfl rfl own_d10_36 (by decide) (by decide) (by decide) (by decide) rfl
  replace R := R.mono (ce' := 1) (sl' := 2) (by decide) (by decide)
  replace R := R.stk (S' := [(.ref r1)]) rfl
  replace R := R.astore (pc' := 41) (l' := #[.val (.ref a), .val (.ref q), .val (.int (0 : Int32)), .val (.int (2 : Int32)), .val .null, .val (.ref r1)]) own_d10_39 rfl rfl rfl
  have K2 := ((Keep.refl h []).trans K1 all0)
  have F3 := E_a.keep K2
  have nab : a ≠ r1 := Exa.neArv F3 V1 (own_w43 hw)
  replace R := R.aloadN (pc' := 42) (v := (.ref a)) own_d10_41 rfl rfl rfl
  replace R := R.aload (pc' := 44) (v := (.ref r1)) own_d10_42 rfl rfl rfl
  replace R := R.iloadN (pc' := 45) (v := (2 : Int32)) own_d10_44 rfl rfl
  obtain ⟨_, _, _, ⟨rfl, rfl, rfl⟩, R⟩ := R.callS (pc' := 48) (argsL := [(.ref r1), (.int (2 : Int32))]) (rest := [(.ref a)]) (W := 1) (own_w73 hw) (own_w74 hw) (own_w67 hw) (own_w75 hw) (by decide) (rm_ca2 C.l Z a0 hw h1 n0 Ds V1) rfl (lenOf own_pd4 rfl) rfl rfl own_d10_45 (by decide) (by decide) (by decide) (by decide) rfl
  replace R := R.mono (ce' := 1) (sl' := 2) (by decide) (by decide)
  replace R := R.stk (S' := [(.int (0 : Int32)), (.ref a)]) rfl
  have K4 := ((Keep.refl h []).trans K1 all0)
  have F5 := F_c.keep K4 nin0
  have K6 := ((Keep.refl h []).trans K1 all0)
  have F7 := F_v.keep K6 nin0
  obtain ⟨h8, W8, R⟩ := R.putFN (pc' := 51) (ty := .byte) (v' := (.int (0 : Int32))) (own_w76 hw) Via.refl F5 F3 (Or.inr ⟨(own_w77 hw), rfl, hnm⟩) (own_w43 hw) (by decide) (rfl) (rfl) ha own_d10_48 rfl
  have F8 := F5.same W8
  have F9 := F7.other W8 (Or.inr (slot_ne (Or.inr (own_w79 hw)) (Or.inr (own_w77 hw)) (by decide) (t := (.array .byte)) (t' := .byte) (by decide) (by decide)))
  replace R := R.aloadN (pc' := 52) (v := (.ref a)) own_d10_51 rfl rfl rfl
  replace R := R.aload (pc' := 54) (v := (.ref r1)) own_d10_52 rfl rfl rfl
  have K10 := ((Keep.refl h1 [a]).trans (Keep.of_wr W8) (allS (Or.inl (List.mem_of_getElem? (i := 0) rfl)) all0))
  have F11 := F3.keep K10
  obtain ⟨h12, W12, R⟩ := R.putF (pc' := 57) (ty := (.array .byte)) (host := "") (Or.inl (own_w78 hw)) Via.refl F9 F11 (Or.inr ⟨(own_w79 hw), rfl, hnm⟩) (own_w43 hw) (by decide) rfl rfl ha own_d10_54 rfl
  have F12 := F9.same W12
  have F13 := F8.other W12 (Or.inr (slot_ne (Or.inr (own_w77 hw)) (Or.inr (own_w79 hw)) (by decide) (t := .byte) (t' := (.array .byte)) (by decide) (by decide)))
  have hK := ((((Keep.refl h [a]).trans K1 all0).trans (Keep.of_wr W8) (allS (Or.inl (List.mem_of_getElem? (i := 0) rfl)) all0)).trans (Keep.of_wr W12) (allS (Or.inl (List.mem_of_getElem? (i := 0) rfl)) all0))
  have K14 := ((Keep.refl h8 [a]).trans (Keep.of_wr W12) (allS (Or.inl (List.mem_of_getElem? (i := 0) rfl)) all0))
  have F15 := F11.keep K14
  have K16 := (((Keep.refl h1 [a]).trans (Keep.of_wr W8) (allS (Or.inl (List.mem_of_getElem? (i := 0) rfl)) all0)).trans (Keep.of_wr W12) (allS (Or.inl (List.mem_of_getElem? (i := 0) rfl)) all0))
  have F17 := V1.keep K16 (ninS (Ne.symm nab) nin0)
  exact R.retV (Ds' := Ds) hret own_d10_57 (by decide) (by decide) (fun _ q => q) ⟨rfl, hK, ⟨F15, F13, hok, Nat.le_of_ble_eq_true rfl, r1, _, F12, F17⟩, rfl⟩
set_option maxRecDepth 65536 in
set_option maxHeartbeats 4000000 in
theorem rm_i32 (l : Launch) (Z : State) (a0 : Array Value) (hw : ∀ d ∈ tables_1, d.before a0 Z = true) (a : Addr) (h : Heap) (n0 : Nat) (Ds : List Addr) (own_cs : CompactOn Z) (own_si : SiooOk Z) (ha : a ∈ Ds) {x0 x1 : Int32} {tl : List Value} (hok : ∀ c ∈ ([x0, x1] : List Int32), ¬ c < 0 ∧ ¬ (255 : Int32) < c) {q : Addr} {kq : ClassId} (V_q : Arv Z h q kq .char (32 : Int32) (Value.int x0 :: Value.int x1 :: tl) (.int 0)) {u1 u2 : Value} (E_a : Exa Z h a "java/lang/String") (F_v : Fld Z h a "java/lang/String" "value" "[B" u1) (F_c : Fld Z h a "java/lang/String" "coder" "B" u2) :
    Ctr l Z (⟨"java/lang/String", "<init>", "([CII)V"⟩ : MethodName) jdk_42_method_4_code 4 none [] ({ frames := 3, cells := 1, slots := 2, locals := 52 } : Room) #[.ref a, .ref q, .int (0 : Int32), .int (2 : Int32)] h n0 Ds (fun v h' Ds' => v = none ∧ Keep h h' [a] ∧ IsStr Z h' a [x0, x1] ∧ Ds = Ds') := by
  refine ctr_of (Ls := #[.val (.ref a), .val (.ref q), .val (.int (0 : Int32)), .val (.int (2 : Int32))]) (plainFor_of_name own_pn1) (fun m => by first | (simp [entryFrame, mkF, argsToLocals, Value.category]; done) | rfl) ?_
  intro C hl hret hnm R
  subst hl
  replace R := R.aloadN (pc' := 1) (v := (.ref a)) own_d6_0 rfl rfl rfl
  replace R := R.aloadN (pc' := 2) (v := (.ref q)) own_d6_1 rfl rfl rfl
  replace R := R.iloadN (pc' := 3) (v := (0 : Int32)) own_d6_2 rfl rfl
  replace R := R.iloadN (pc' := 4) (v := (2 : Int32)) own_d6_3 rfl rfl
  replace R := R.aloadN (pc' := 5) (v := (.ref q)) own_d6_4 rfl rfl rfl
  replace R := R.iloadN (pc' := 6) (v := (0 : Int32)) own_d6_5 rfl rfl
  replace R := R.iloadN (pc' := 7) (v := (2 : Int32)) own_d6_6 rfl rfl
  obtain ⟨_, _, _, ⟨rfl, rfl, rfl⟩, R⟩ := R.callS (pc' := 10) (argsL := [(.ref q), (.int (0 : Int32)), (.int (2 : Int32))]) (rest := [(.int (2 : Int32)), (.int (0 : Int32)), (.ref q), (.ref a)]) (W := 4) (own_w48 hw) (own_w49 hw) (own_w44 hw) (own_w50 hw) (by decide) (rm_rc2 C.l Z a0 hw h n0 Ds own_si hok V_q) rfl (lenOf own_pd5 rfl) rfl rfl own_d6_7 (by decide) (by decide) (by decide) (by decide) rfl
  replace R := R.mono (ce' := 0) (sl' := 0) (by decide) (by decide)
  replace R := R.stk (S' := [.null, (.int (2 : Int32)), (.int (0 : Int32)), (.ref q), (.ref a)]) rfl
  obtain ⟨_, h1, _, ⟨rfl, K1, S1, rfl⟩, R⟩ := R.callI (pc' := 13) (a := a) (argsL := [(.ref q), (.int (0 : Int32)), (.int (2 : Int32)), .null]) (rest := []) (W := 0) rfl (own_w59 hw) (own_w60 hw) (own_w44 hw) (own_w62 hw) (by decide) (rm_i42 C.l Z a0 hw a h n0 Ds own_cs own_si ha hok V_q E_a F_v F_c) rfl (lenOf own_pd6 rfl) rfl rfl own_d6_10 (by decide) (by decide) (by decide) (by decide) rfl
  replace R := R.mono (ce' := 1) (sl' := 2) (by decide) (by decide)
  replace R := R.stk (S' := []) rfl
  have hK := ((Keep.refl h [a]).trans K1 (allS (Or.inl (List.mem_of_getElem? (i := 0) rfl)) all0))
  exact R.retV (Ds' := Ds) hret own_d6_13 (by decide) (by decide) (fun _ q => q) ⟨rfl, hK, S1, rfl⟩
set_option maxRecDepth 65536 in
set_option maxHeartbeats 4000000 in
theorem rm_text2 (l : Launch) (Z : State) (a0 : Array Value) (hw : ∀ d ∈ tables_1, d.before a0 Z = true) (a : Addr) (h : Heap) (n0 : Nat) (Ds : List Addr) (own_cs : CompactOn Z) (own_si : SiooOk Z) {x0 x1 : Int32} {tl : List Value} (hok : ∀ c ∈ ([x0, x1] : List Int32), ¬ c < 0 ∧ ¬ (255 : Int32) < c) {q : Addr} {kq : ClassId} (V_q : Arv Z h q kq .char (32 : Int32) (Value.int x0 :: Value.int x1 :: tl) (.int 0)) (F_q : Fld Z h a "com/example/pinsheet/pinsheet/WholeNumbers$Reading" "quoted" "[C" (.ref q)) (F_n : Fld Z h a "com/example/pinsheet/pinsheet/WholeNumbers$Reading" "quotedLength" "I" (.int (2 : Int32))) :
    Ctr l Z (⟨"com/example/pinsheet/pinsheet/WholeNumbers$Reading", "text", "()Ljava/lang/String;"⟩ : MethodName) prog_18_method_6_code 1 (some (.object "java/lang/String")) [] ({ frames := 4, cells := 2, slots := 6, locals := 68 } : Room) #[.ref a] h n0 Ds (fun v h' Ds' => ∃ r : Addr, v = some (.ref r) ∧ IsStr Z h' r [x0, x1] ∧ Keep h h' [] ∧ Ds = Ds') := by
  refine ctr_of (Ls := #[.val (.ref a)]) (plainFor_of_name own_pn3) (fun m => by first | (simp [entryFrame, mkF, argsToLocals, Value.category]; done) | rfl) ?_
  intro C hl hret hnm R
  subst hl
  obtain ⟨h1, b1, g1, E1, X1, D1, R⟩ := R.newO (pc' := 3) (own_w42 hw) (own_w43 hw) (own_w44 hw) own_d5_0 (by decide) (by decide) rfl
  have F1_coder : Fld Z h1 b1 "java/lang/String" "coder" "B" (.int (0 : Int32)) := D1 (Or.inr (own_w77 hw)) (ty := .byte) (by decide)
  have F1_value : Fld Z h1 b1 "java/lang/String" "value" "[B" .null := D1 (Or.inr (own_w79 hw)) (ty := (.array .byte)) (by decide)
  replace R := R.dup (pc' := 4) own_d5_3 rfl rfl
  replace R := R.aloadN (pc' := 5) (v := (.ref a)) own_d5_4 rfl rfl rfl
  have K2 := ((Keep.refl h []).trans ((Keep.refl h []).ext E1) all0)
  have F3 := F_q.keep K2 nin0
  replace R := R.getF (pc' := 8) (host := "") (Or.inl (own_w11 hw)) Via.refl F3 own_d5_5 rfl
  replace R := R.iconst (pc' := 9) (z := (0 : Int32)) own_d5_8 rfl rfl
  replace R := R.aloadN (pc' := 10) (v := (.ref a)) own_d5_9 rfl rfl rfl
  have K4 := ((Keep.refl h []).trans ((Keep.refl h []).ext E1) all0)
  have F5 := F_n.keep K4 nin0
  replace R := R.getF (pc' := 13) (host := "") (Or.inl (own_w20 hw)) Via.refl F5 own_d5_10 rfl
  have K7 := ((Keep.refl h []).trans ((Keep.refl h []).ext E1) all0)
  have F8 := V_q.keep K7 nin0
  obtain ⟨_, h6, _, ⟨rfl, K6, S6, rfl⟩, R⟩ := R.callI (pc' := 16) (a := b1) (argsL := [(.ref q), (.int (0 : Int32)), (.int (2 : Int32))]) (rest := [(.ref b1)]) (W := 1) rfl (own_w45 hw) (own_w46 hw) (own_w44 hw) (own_w47 hw) (by decide) (rm_i32 C.l Z a0 hw b1 h1 n0 (b1 :: Ds) own_cs own_si (List.mem_of_getElem? (i := 0) rfl) hok F8 X1 F1_value F1_coder) rfl (lenOf own_pd7 rfl) rfl rfl own_d5_13 (by decide) (by decide) (by decide) (by decide) rfl
  replace R := R.mono (ce' := 2) (sl' := 6) (by decide) (by decide)
  replace R := R.stk (S' := [(.ref b1)]) rfl
  have hK := (((Keep.refl h []).trans ((Keep.refl h []).ext E1) all0).trans K6 (allS (Or.inr (by rw [g1]; exact (Nat.le_refl _))) all0))
  exact R.retA (Ds' := Ds) hret rfl rfl rfl own_d5_16 (by decide) (by decide) (fun _ q => (fun q => (List.mem_cons_of_mem _ q)) q) ⟨b1, rfl, S6, hK, rfl⟩
set_option maxRecDepth 65536 in
set_option maxHeartbeats 4000000 in
theorem rm_cfi3 (l : Launch) (Z : State) (a0 : Array Value) (hw : ∀ d ∈ tables_1, d.before a0 Z = true) (fm : Value) (h : Heap) (n0 : Nat) (Ds : List Addr) (hfm : fm.isRef = true) :
    Ctr l Z (⟨"jdk/internal/util/Preconditions", "checkFromIndexSize", "(IIILjava/util/function/BiFunction;)I"⟩ : MethodName) jdk_41_method_13_code 4 (some .int) [] ({ frames := 0, cells := 0, slots := 0, locals := 0 } : Room) #[.int (0 : Int32), .int (3 : Int32), .int (32 : Int32), fm] h n0 Ds (fun v h' Ds' => v = some (.int (0 : Int32)) ∧ h = h' ∧ Ds = Ds') := by
  refine ctr_of (Ls := #[.val (.int (0 : Int32)), .val (.int (3 : Int32)), .val (.int (32 : Int32)), .val fm]) (plainFor_of_name own_pn0) (fun mm => by rcases ref_cases hfm with rfl | ⟨_, rfl⟩ <;> first | (simp [entryFrame, mkF, argsToLocals, Value.category]; done) | rfl) ?_
  intro C hl hret hnm R
  subst hl
  replace R := R.iloadN (pc' := 1) (v := (32 : Int32)) own_d9_0 rfl rfl
  replace R := R.iloadN (pc' := 2) (v := (0 : Int32)) own_d9_1 rfl rfl
  replace R := R.ior (pc' := 3) own_d9_2 rfl
  replace R := R.stk (S' := [(.int (32 : Int32))]) rfl
  replace R := R.iloadN (pc' := 4) (v := (3 : Int32)) own_d9_3 rfl rfl
  replace R := R.ior (pc' := 5) own_d9_4 rfl
  replace R := R.stk (S' := [(.int (35 : Int32))]) rfl
  replace R := R.ifN (pc' := 8) own_d9_5 (flt (by decide : ¬ ((35 : Int32) < (0 : Int32)))).1 rfl
  replace R := R.iloadN (pc' := 9) (v := (3 : Int32)) own_d9_8 rfl rfl
  replace R := R.iloadN (pc' := 10) (v := (32 : Int32)) own_d9_9 rfl rfl
  replace R := R.iloadN (pc' := 11) (v := (0 : Int32)) own_d9_10 rfl rfl
  replace R := R.isub (pc' := 12) own_d9_11 rfl
  replace R := R.stk (S' := [(.int (32 : Int32)), (.int (3 : Int32))]) rfl
  replace R := R.icmpY (pc' := 23) own_d9_12 (flt (by decide : ¬ ((32 : Int32) < (3 : Int32)))).2.2.2 (by decide) rfl
  replace R := R.iloadN (pc' := 24) (v := (0 : Int32)) own_d9_23 rfl rfl
  exact R.retI (Ds' := Ds) hret own_d9_24 (by decide) (by decide) (fun _ q => q) ⟨rfl, rfl, rfl⟩
set_option maxRecDepth 65536 in
set_option maxHeartbeats 4000000 in
theorem rm_cbo3 (l : Launch) (Z : State) (a0 : Array Value) (hw : ∀ d ∈ tables_1, d.before a0 Z = true) (h : Heap) (n0 : Nat) (Ds : List Addr) (own_si : SiooOk Z) :
    Ctr l Z (⟨"java/lang/String", "checkBoundsOffCount", "(III)I"⟩ : MethodName) jdk_42_method_157_code 3 (some .int) [] ({ frames := 1, cells := 0, slots := 0, locals := 15 } : Room) #[.int (0 : Int32), .int (3 : Int32), .int (32 : Int32)] h n0 Ds (fun v h' Ds' => v = some (.int (0 : Int32)) ∧ h = h' ∧ Ds = Ds') := by
  refine ctr_of (Ls := #[.val (.int (0 : Int32)), .val (.int (3 : Int32)), .val (.int (32 : Int32))]) (plainFor_of_name own_pn1) (fun m => by first | (simp [entryFrame, mkF, argsToLocals, Value.category]; done) | rfl) ?_
  intro C hl hret hnm R
  subst hl
  obtain ⟨fm, S_fm, hfm⟩ := id own_si
  replace R := R.iloadN (pc' := 1) (v := (0 : Int32)) own_d8_0 rfl rfl
  replace R := R.iloadN (pc' := 2) (v := (3 : Int32)) own_d8_1 rfl rfl
  replace R := R.iloadN (pc' := 3) (v := (32 : Int32)) own_d8_2 rfl rfl
  replace R := R.getS (pc' := 6) (host := "") (Or.inl (own_w54 hw)) Via.refl S_fm own_d8_3 rfl
  obtain ⟨_, _, _, ⟨rfl, rfl, rfl⟩, R⟩ := R.callS (pc' := 9) (argsL := [(.int (0 : Int32)), (.int (3 : Int32)), (.int (32 : Int32)), fm]) (rest := []) (W := 0) (own_w56 hw) (own_w57 hw) (own_w55 hw) (own_w58 hw) (by decide) (rm_cfi3 C.l Z a0 hw fm h n0 Ds hfm) rfl (lenOf own_pd0 rfl) rfl rfl own_d8_6 (by decide) (by decide) (by decide) (by decide) rfl
  replace R := R.mono (ce' := 0) (sl' := 0) (by decide) (by decide)
  replace R := R.stk (S' := [(.int (0 : Int32))]) rfl
  exact R.retI (Ds' := Ds) hret own_d8_9 (by decide) (by decide) (fun _ q => q) ⟨rfl, rfl, rfl⟩
set_option maxRecDepth 65536 in
set_option maxHeartbeats 4000000 in
theorem rm_rc3 (l : Launch) (Z : State) (a0 : Array Value) (hw : ∀ d ∈ tables_1, d.before a0 Z = true) (h : Heap) (n0 : Nat) (Ds : List Addr) (own_si : SiooOk Z) {x0 x1 x2 : Int32} {tl : List Value} (hok : ∀ c ∈ ([x0, x1, x2] : List Int32), ¬ c < 0 ∧ ¬ (255 : Int32) < c) {q : Addr} {kq : ClassId} (V_q : Arv Z h q kq .char (32 : Int32) (Value.int x0 :: Value.int x1 :: Value.int x2 :: tl) (.int 0)) :
    Ctr l Z (⟨"java/lang/String", "rangeCheck", "([CII)Ljava/lang/Void;"⟩ : MethodName) jdk_42_method_5_code 3 (some (.object "java/lang/Void")) [] ({ frames := 2, cells := 0, slots := 0, locals := 29 } : Room) #[.ref q, .int (0 : Int32), .int (3 : Int32)] h n0 Ds (fun v h' Ds' => v = some .null ∧ h = h' ∧ Ds = Ds') := by
  refine ctr_of (Ls := #[.val (.ref q), .val (.int (0 : Int32)), .val (.int (3 : Int32))]) (plainFor_of_name own_pn1) (fun m => by first | (simp [entryFrame, mkF, argsToLocals, Value.category]; done) | rfl) ?_
  intro C hl hret hnm R
  subst hl
  replace R := R.iloadN (pc' := 1) (v := (0 : Int32)) own_d7_0 rfl rfl
  replace R := R.iloadN (pc' := 2) (v := (3 : Int32)) own_d7_1 rfl rfl
  replace R := R.aloadN (pc' := 3) (v := (.ref q)) own_d7_2 rfl rfl rfl
  replace R := R.arraylength (pc' := 4) V_q own_d7_3 rfl
  obtain ⟨_, _, _, ⟨rfl, rfl, rfl⟩, R⟩ := R.callS (pc' := 7) (argsL := [(.int (0 : Int32)), (.int (3 : Int32)), (.int (32 : Int32))]) (rest := []) (W := 0) (own_w51 hw) (own_w52 hw) (own_w44 hw) (own_w53 hw) (by decide) (rm_cbo3 C.l Z a0 hw h n0 Ds own_si) rfl (lenOf own_pd1 rfl) rfl rfl own_d7_4 (by decide) (by decide) (by decide) (by decide) rfl
  replace R := R.mono (ce' := 0) (sl' := 0) (by decide) (by decide)
  replace R := R.stk (S' := [(.int (0 : Int32))]) rfl
  replace R := R.pop (pc' := 8) own_d7_7 rfl rfl
  replace R := R.anull (pc' := 9) own_d7_8 rfl
  exact R.retA (Ds' := Ds) hret rfl rfl rfl own_d7_9 (by decide) (by decide) (fun _ q => q) ⟨rfl, rfl, rfl⟩
set_option maxRecDepth 65536 in
set_option maxHeartbeats 4000000 in
theorem rm_c53 (l : Launch) (Z : State) (a0 : Array Value) (hw : ∀ d ∈ tables_1, d.before a0 Z = true) (h : Heap) (n0 : Nat) (Ds : List Addr) {x0 x1 x2 : Int32} {tl : List Value} (hok : ∀ c ∈ ([x0, x1, x2] : List Int32), ¬ c < 0 ∧ ¬ (255 : Int32) < c) {q : Addr} {kq : ClassId} (V_q : Arv Z h q kq .char (32 : Int32) (Value.int x0 :: Value.int x1 :: Value.int x2 :: tl) (.int 0)) {b : Addr} {kb : ClassId} (hb : b ∈ Ds) (nqb : q ≠ b) (V_b : Arv Z h b kb .byte (3 : Int32) [(.int (0 : Int32)), (.int (0 : Int32)), (.int (0 : Int32))] (.int 0)) :
    Ctr l Z (⟨"java/lang/StringUTF16", "compress", "([CI[BII)I"⟩ : MethodName) jdk_52_method_21_code 7 (some .int) [] ({ frames := 0, cells := 0, slots := 0, locals := 0 } : Room) #[.ref q, .int (0 : Int32), .ref b, .int (0 : Int32), .int (3 : Int32)] h n0 Ds (fun v h' Ds' => v = some (.int (3 : Int32)) ∧ Keep h h' [b] ∧ Arv Z h' b kb .byte (3 : Int32) [(.int x0.toInt8.toInt32), (.int x1.toInt8.toInt32), (.int x2.toInt8.toInt32)] (.int 0) ∧ Ds = Ds') := by
  refine ctr_of (Ls := #[.val (.ref q), .val (.int (0 : Int32)), .val (.ref b), .val (.int (0 : Int32)), .val (.int (3 : Int32)), .unset, .unset]) (plainFor_of_name own_pn2) (fun m => by first | (simp [entryFrame, mkF, argsToLocals, Value.category]; done) | rfl) ?_
  intro C hl hret hnm R
  subst hl
  replace R := R.iconst (pc' := 1) (z := (0 : Int32)) own_d12_0 rfl rfl
  replace R := R.istore (pc' := 3) (l' := #[.val (.ref q), .val (.int (0 : Int32)), .val (.ref b), .val (.int (0 : Int32)), .val (.int (3 : Int32)), .val (.int (0 : Int32)), .unset]) own_d12_1 rfl rfl
  replace R := R.iload (pc' := 5) (v := (0 : Int32)) own_d12_3 rfl rfl
  replace R := R.iload (pc' := 7) (v := (3 : Int32)) own_d12_5 rfl rfl
  replace R := R.icmpN (pc' := 10) own_d12_7 (tlt (by decide : (0 : Int32) < (3 : Int32))).2.1 rfl
  replace R := R.aloadN (pc' := 11) (v := (.ref q)) own_d12_10 rfl rfl rfl
  replace R := R.iloadN (pc' := 12) (v := (0 : Int32)) own_d12_11 rfl rfl
  replace R := R.caload (pc' := 13) (v := (.int x0)) V_q ⟨by decide, by decide⟩ rfl own_d12_12 rfl
  replace R := R.istore (pc' := 15) (l' := #[.val (.ref q), .val (.int (0 : Int32)), .val (.ref b), .val (.int (0 : Int32)), .val (.int (3 : Int32)), .val (.int (0 : Int32)), .val (.int x0)]) own_d12_13 rfl rfl
  replace R := R.iload (pc' := 17) (v := x0) own_d12_15 rfl rfl
  replace R := R.sipush (pc' := 20) (z := (255 : Int32)) own_d12_17 rfl rfl
  replace R := R.icmpY (pc' := 26) own_d12_20 (flt (hok x0 (List.mem_of_getElem? (i := 0) rfl)).2).2.2.2 (by decide) rfl
  replace R := R.aloadN (pc' := 27) (v := (.ref b)) own_d12_26 rfl rfl rfl
  replace R := R.iloadN (pc' := 28) (v := (0 : Int32)) own_d12_27 rfl rfl
  replace R := R.iload (pc' := 30) (v := x0) own_d12_28 rfl rfl
  replace R := R.i2b (pc' := 31) own_d12_30 rfl
  obtain ⟨h1, K1, V1, R⟩ := R.bastore (pc' := 32) V_b ⟨by decide, by decide⟩ 0 rfl (Nat.le_of_ble_eq_true rfl) hb own_d12_31 rfl
  have V1p : Arv Z h1 b kb .byte (3 : Int32) [(.int x0.toInt8.toInt32), (.int (0 : Int32)), (.int (0 : Int32))] (.int 0) := by
    have q := V1
    rw [nar_i2b x0] at q
    exact q
  replace R := R.iinc (pc' := 35) (l' := #[.val (.ref q), .val (.int (1 : Int32)), .val (.ref b), .val (.int (0 : Int32)), .val (.int (3 : Int32)), .val (.int (0 : Int32)), .val (.int x0)]) own_d12_32 rfl rfl rfl
  replace R := R.iinc (pc' := 38) (l' := #[.val (.ref q), .val (.int (1 : Int32)), .val (.ref b), .val (.int (1 : Int32)), .val (.int (3 : Int32)), .val (.int (0 : Int32)), .val (.int x0)]) own_d12_35 rfl rfl rfl
  replace R := R.iinc (pc' := 41) (l' := #[.val (.ref q), .val (.int (1 : Int32)), .val (.ref b), .val (.int (1 : Int32)), .val (.int (3 : Int32)), .val (.int (1 : Int32)), .val (.int x0)]) own_d12_38 rfl rfl rfl
  replace R := R.goto (pc' := 3) own_d12_41 (by decide) rfl
  replace R := R.iload (pc' := 5) (v := (1 : Int32)) own_d12_3 rfl rfl
  replace R := R.iload (pc' := 7) (v := (3 : Int32)) own_d12_5 rfl rfl
  replace R := R.icmpN (pc' := 10) own_d12_7 (tlt (by decide : (1 : Int32) < (3 : Int32))).2.1 rfl
  replace R := R.aloadN (pc' := 11) (v := (.ref q)) own_d12_10 rfl rfl rfl
  replace R := R.iloadN (pc' := 12) (v := (1 : Int32)) own_d12_11 rfl rfl
  have K2 := ((Keep.refl h [b]).trans K1 (allS (Or.inl (List.mem_of_getElem? (i := 0) rfl)) all0))
  have F3 := V_q.keep K2 (ninS nqb nin0)
  replace R := R.caload (pc' := 13) (v := (.int x1)) F3 ⟨by decide, by decide⟩ rfl own_d12_12 rfl
  replace R := R.istore (pc' := 15) (l' := #[.val (.ref q), .val (.int (1 : Int32)), .val (.ref b), .val (.int (1 : Int32)), .val (.int (3 : Int32)), .val (.int (1 : Int32)), .val (.int x1)]) own_d12_13 rfl rfl
  replace R := R.iload (pc' := 17) (v := x1) own_d12_15 rfl rfl
  replace R := R.sipush (pc' := 20) (z := (255 : Int32)) own_d12_17 rfl rfl
  replace R := R.icmpY (pc' := 26) own_d12_20 (flt (hok x1 (List.mem_of_getElem? (i := 1) rfl)).2).2.2.2 (by decide) rfl
  replace R := R.aloadN (pc' := 27) (v := (.ref b)) own_d12_26 rfl rfl rfl
  replace R := R.iloadN (pc' := 28) (v := (1 : Int32)) own_d12_27 rfl rfl
  replace R := R.iload (pc' := 30) (v := x1) own_d12_28 rfl rfl
  replace R := R.i2b (pc' := 31) own_d12_30 rfl
  obtain ⟨h4, K4, V4, R⟩ := R.bastore (pc' := 32) V1p ⟨by decide, by decide⟩ 1 rfl (Nat.le_of_ble_eq_true rfl) hb own_d12_31 rfl
  have V4p : Arv Z h4 b kb .byte (3 : Int32) [(.int x0.toInt8.toInt32), (.int x1.toInt8.toInt32), (.int (0 : Int32))] (.int 0) := by
    have q := V4
    rw [nar_i2b x1] at q
    exact q
  replace R := R.iinc (pc' := 35) (l' := #[.val (.ref q), .val (.int (2 : Int32)), .val (.ref b), .val (.int (1 : Int32)), .val (.int (3 : Int32)), .val (.int (1 : Int32)), .val (.int x1)]) own_d12_32 rfl rfl rfl
  replace R := R.iinc (pc' := 38) (l' := #[.val (.ref q), .val (.int (2 : Int32)), .val (.ref b), .val (.int (2 : Int32)), .val (.int (3 : Int32)), .val (.int (1 : Int32)), .val (.int x1)]) own_d12_35 rfl rfl rfl
  replace R := R.iinc (pc' := 41) (l' := #[.val (.ref q), .val (.int (2 : Int32)), .val (.ref b), .val (.int (2 : Int32)), .val (.int (3 : Int32)), .val (.int (2 : Int32)), .val (.int x1)]) own_d12_38 rfl rfl rfl
  replace R := R.goto (pc' := 3) own_d12_41 (by decide) rfl
  replace R := R.iload (pc' := 5) (v := (2 : Int32)) own_d12_3 rfl rfl
  replace R := R.iload (pc' := 7) (v := (3 : Int32)) own_d12_5 rfl rfl
  replace R := R.icmpN (pc' := 10) own_d12_7 (tlt (by decide : (2 : Int32) < (3 : Int32))).2.1 rfl
  replace R := R.aloadN (pc' := 11) (v := (.ref q)) own_d12_10 rfl rfl rfl
  replace R := R.iloadN (pc' := 12) (v := (2 : Int32)) own_d12_11 rfl rfl
  have K5 := ((Keep.refl h1 [b]).trans K4 (allS (Or.inl (List.mem_of_getElem? (i := 0) rfl)) all0))
  have F6 := F3.keep K5 (ninS nqb nin0)
  replace R := R.caload (pc' := 13) (v := (.int x2)) F6 ⟨by decide, by decide⟩ rfl own_d12_12 rfl
  replace R := R.istore (pc' := 15) (l' := #[.val (.ref q), .val (.int (2 : Int32)), .val (.ref b), .val (.int (2 : Int32)), .val (.int (3 : Int32)), .val (.int (2 : Int32)), .val (.int x2)]) own_d12_13 rfl rfl
  replace R := R.iload (pc' := 17) (v := x2) own_d12_15 rfl rfl
  replace R := R.sipush (pc' := 20) (z := (255 : Int32)) own_d12_17 rfl rfl
  replace R := R.icmpY (pc' := 26) own_d12_20 (flt (hok x2 (List.mem_of_getElem? (i := 2) rfl)).2).2.2.2 (by decide) rfl
  replace R := R.aloadN (pc' := 27) (v := (.ref b)) own_d12_26 rfl rfl rfl
  replace R := R.iloadN (pc' := 28) (v := (2 : Int32)) own_d12_27 rfl rfl
  replace R := R.iload (pc' := 30) (v := x2) own_d12_28 rfl rfl
  replace R := R.i2b (pc' := 31) own_d12_30 rfl
  obtain ⟨h7, K7, V7, R⟩ := R.bastore (pc' := 32) V4p ⟨by decide, by decide⟩ 2 rfl (Nat.le_of_ble_eq_true rfl) hb own_d12_31 rfl
  have V7p : Arv Z h7 b kb .byte (3 : Int32) [(.int x0.toInt8.toInt32), (.int x1.toInt8.toInt32), (.int x2.toInt8.toInt32)] (.int 0) := by
    have q := V7
    rw [nar_i2b x2] at q
    exact q
  replace R := R.iinc (pc' := 35) (l' := #[.val (.ref q), .val (.int (3 : Int32)), .val (.ref b), .val (.int (2 : Int32)), .val (.int (3 : Int32)), .val (.int (2 : Int32)), .val (.int x2)]) own_d12_32 rfl rfl rfl
  replace R := R.iinc (pc' := 38) (l' := #[.val (.ref q), .val (.int (3 : Int32)), .val (.ref b), .val (.int (3 : Int32)), .val (.int (3 : Int32)), .val (.int (2 : Int32)), .val (.int x2)]) own_d12_35 rfl rfl rfl
  replace R := R.iinc (pc' := 41) (l' := #[.val (.ref q), .val (.int (3 : Int32)), .val (.ref b), .val (.int (3 : Int32)), .val (.int (3 : Int32)), .val (.int (3 : Int32)), .val (.int x2)]) own_d12_38 rfl rfl rfl
  replace R := R.goto (pc' := 3) own_d12_41 (by decide) rfl
  replace R := R.iload (pc' := 5) (v := (3 : Int32)) own_d12_3 rfl rfl
  replace R := R.iload (pc' := 7) (v := (3 : Int32)) own_d12_5 rfl rfl
  replace R := R.icmpY (pc' := 44) own_d12_7 (flt (by decide : ¬ ((3 : Int32) < (3 : Int32)))).2.1 (by decide) rfl
  replace R := R.iload (pc' := 46) (v := (3 : Int32)) own_d12_44 rfl rfl
  have hK := ((((Keep.refl h [b]).trans K1 (allS (Or.inl (List.mem_of_getElem? (i := 0) rfl)) all0)).trans K4 (allS (Or.inl (List.mem_of_getElem? (i := 0) rfl)) all0)).trans K7 (allS (Or.inl (List.mem_of_getElem? (i := 0) rfl)) all0))
  exact R.retI (Ds' := Ds) hret own_d12_46 (by decide) (by decide) (fun _ q => q) ⟨rfl, hK, V7p, rfl⟩
set_option maxRecDepth 65536 in
set_option maxHeartbeats 4000000 in
theorem rm_c33 (l : Launch) (Z : State) (a0 : Array Value) (hw : ∀ d ∈ tables_1, d.before a0 Z = true) (h : Heap) (n0 : Nat) (Ds : List Addr) {x0 x1 x2 : Int32} {tl : List Value} (hok : ∀ c ∈ ([x0, x1, x2] : List Int32), ¬ c < 0 ∧ ¬ (255 : Int32) < c) {q : Addr} {kq : ClassId} (V_q : Arv Z h q kq .char (32 : Int32) (Value.int x0 :: Value.int x1 :: Value.int x2 :: tl) (.int 0)) :
    Ctr l Z (⟨"java/lang/StringUTF16", "compress", "([CII)[B"⟩ : MethodName) jdk_52_method_16_code 6 (some (.array .byte)) [] ({ frames := 1, cells := 1, slots := 3, locals := 18 } : Room) #[.ref q, .int (0 : Int32), .int (3 : Int32)] h n0 Ds (fun v h' Ds' => ∃ (b : Addr) (kb : ClassId), v = some (.ref b) ∧ Keep h h' [] ∧ Arv Z h' b kb .byte (3 : Int32) [(.int x0.toInt8.toInt32), (.int x1.toInt8.toInt32), (.int x2.toInt8.toInt32)] (.int 0) ∧ Ds = Ds') := by
  refine ctr_of (Ls := #[.val (.ref q), .val (.int (0 : Int32)), .val (.int (3 : Int32)), .unset, .unset, .unset]) (plainFor_of_name own_pn2) (fun m => by first | (simp [entryFrame, mkF, argsToLocals, Value.category]; done) | rfl) ?_
  intro C hl hret hnm R
  subst hl
  have hql : q < h.size := V_q.lt
  replace R := R.iloadN (pc' := 1) (v := (3 : Int32)) own_d11_0 rfl rfl
  obtain ⟨h1, b1, k1, g1, E1, V1, R⟩ := R.newP (pc' := 3) (aty := .byte) (cap := 3) (own_w69 hw) own_d11_1 (by decide) (by decide) (by decide) (by decide) (by decide) rfl
  have V1p : Arv Z h1 b1 k1 .byte (3 : Int32) [(.int (0 : Int32)), (.int (0 : Int32)), (.int (0 : Int32))] (.int (0 : Int32)) := V1.pad (pad_rep [] (.int (0 : Int32)) 3)
  replace R := R.astoreN (pc' := 4) (l' := #[.val (.ref q), .val (.int (0 : Int32)), .val (.int (3 : Int32)), .val (.ref b1), .unset, .unset]) own_d11_3 rfl rfl rfl
  replace R := R.aloadN (pc' := 5) (v := (.ref q)) own_d11_4 rfl rfl rfl
  replace R := R.iloadN (pc' := 6) (v := (0 : Int32)) own_d11_5 rfl rfl
  replace R := R.aloadN (pc' := 7) (v := (.ref b1)) own_d11_6 rfl rfl rfl
  replace R := R.iconst (pc' := 8) (z := (0 : Int32)) own_d11_7 rfl rfl
  replace R := R.iloadN (pc' := 9) (v := (3 : Int32)) own_d11_8 rfl rfl
  have K3 := ((Keep.refl h []).trans ((Keep.refl h []).ext E1) all0)
  have F4 := V_q.keep K3 nin0
  have nqb : q ≠ b1 := fun e => by rw [e, g1] at hql; exact Nat.lt_irrefl _ hql
  obtain ⟨_, h2, _, ⟨rfl, K2, V2, rfl⟩, R⟩ := R.callS (pc' := 12) (argsL := [(.ref q), (.int (0 : Int32)), (.ref b1), (.int (0 : Int32)), (.int (3 : Int32))]) (rest := []) (W := 0) (own_w70 hw) (own_w71 hw) (own_w67 hw) (own_w72 hw) (by decide) (rm_c53 C.l Z a0 hw h1 n0 (b1 :: Ds) hok F4 (List.mem_of_getElem? (i := 0) rfl) nqb V1p) rfl (lenOf own_pd2 rfl) rfl rfl own_d11_9 (by decide) (by decide) (by decide) (by decide) rfl
  replace R := R.mono (ce' := 1) (sl' := 3) (by decide) (by decide)
  replace R := R.stk (S' := [(.int (3 : Int32))]) rfl
  replace R := R.istore (pc' := 14) (l' := #[.val (.ref q), .val (.int (0 : Int32)), .val (.int (3 : Int32)), .val (.ref b1), .val (.int (3 : Int32)), .unset]) own_d11_12 rfl rfl
  replace R := R.iload (pc' := 16) (v := (3 : Int32)) own_d11_14 rfl rfl
  replace R := R.iloadN (pc' := 17) (v := (3 : Int32)) own_d11_16 rfl rfl
  replace R := R.icmpY (pc' := 57) own_d11_17 (teq (by decide : (3 : Int32) = (3 : Int32))).1 (by decide) rfl
  replace R := R.aloadN (pc' := 58) (v := (.ref b1)) own_d11_57 rfl rfl rfl
  have hK := (((Keep.refl h []).trans ((Keep.refl h []).ext E1) all0).trans K2 (allS (Or.inr (by rw [g1]; exact (Nat.le_refl _))) all0))
  exact R.retA (Ds' := Ds) hret rfl rfl rfl own_d11_58 (by decide) (by decide) (fun _ q => (fun q => (List.mem_cons_of_mem _ q)) q) ⟨b1, _, rfl, hK, V2, rfl⟩
set_option maxRecDepth 65536 in
set_option maxHeartbeats 4000000 in
theorem rm_ca3 (l : Launch) (Z : State) (a0 : Array Value) (hw : ∀ d ∈ tables_1, d.before a0 Z = true) (h : Heap) (n0 : Nat) (Ds : List Addr) {b : Addr} {kb : ClassId} {vs : List Value} (V_b : Arv Z h b kb .byte (3 : Int32) vs (.int 0)) :
    Ctr l Z (⟨"java/lang/StringUTF16", "coderFromArrayLen", "([BI)B"⟩ : MethodName) jdk_52_method_15_code 2 (some .byte) [] ({ frames := 0, cells := 0, slots := 0, locals := 0 } : Room) #[.ref b, .int (3 : Int32)] h n0 Ds (fun v h' Ds' => v = some (.int (0 : Int32)) ∧ h = h' ∧ Ds = Ds') := by
  refine ctr_of (Ls := #[.val (.ref b), .val (.int (3 : Int32))]) (plainFor_of_name own_pn2) (fun m => by first | (simp [entryFrame, mkF, argsToLocals, Value.category]; done) | rfl) ?_
  intro C hl hret hnm R
  subst hl
  replace R := R.iloadN (pc' := 1) (v := (3 : Int32)) own_d13_0 rfl rfl
  replace R := R.aloadN (pc' := 2) (v := (.ref b)) own_d13_1 rfl rfl rfl
  replace R := R.arraylength (pc' := 3) V_b own_d13_2 rfl
  replace R := R.isub (pc' := 4) own_d13_3 rfl
  replace R := R.stk (S' := [(.int (0 : Int32))]) rfl
  replace R := R.bipush (pc' := 6) (z := (31 : Int32)) own_d13_4 rfl rfl
  replace R := R.iushr (pc' := 7) own_d13_6 rfl
  replace R := R.stk (S' := [(.int (0 : Int32))]) rfl
  replace R := R.i2b (pc' := 8) own_d13_7 rfl
  replace R := R.stk (S' := [(.int (0 : Int32))]) rfl
  exact R.retN (Ds' := Ds) hret (by simp) (show nar .byte (0 : Int32) = (0 : Int32) from rfl) own_d13_8 (by decide) (by decide) (fun _ q => q) ⟨rfl, rfl, rfl⟩
set_option maxRecDepth 65536 in
set_option maxHeartbeats 4000000 in
theorem rm_i43 (l : Launch) (Z : State) (a0 : Array Value) (hw : ∀ d ∈ tables_1, d.before a0 Z = true) (a : Addr) (h : Heap) (n0 : Nat) (Ds : List Addr) (own_cs : CompactOn Z) (own_si : SiooOk Z) (ha : a ∈ Ds) {x0 x1 x2 : Int32} {tl : List Value} (hok : ∀ c ∈ ([x0, x1, x2] : List Int32), ¬ c < 0 ∧ ¬ (255 : Int32) < c) {q : Addr} {kq : ClassId} (V_q : Arv Z h q kq .char (32 : Int32) (Value.int x0 :: Value.int x1 :: Value.int x2 :: tl) (.int 0)) {u1 u2 : Value} (E_a : Exa Z h a "java/lang/String") (F_v : Fld Z h a "java/lang/String" "value" "[B" u1) (F_c : Fld Z h a "java/lang/String" "coder" "B" u2) :
    Ctr l Z (⟨"java/lang/String", "<init>", "([CIILjava/lang/Void;)V"⟩ : MethodName) jdk_42_method_149_code 6 none [] ({ frames := 2, cells := 1, slots := 3, locals := 35 } : Room) #[.ref a, .ref q, .int (0 : Int32), .int (3 : Int32), .null] h n0 Ds (fun v h' Ds' => v = none ∧ Keep h h' [a] ∧ IsStr Z h' a [x0, x1, x2] ∧ Ds = Ds') := by
  refine ctr_of (Ls := #[.val (.ref a), .val (.ref q), .val (.int (0 : Int32)), .val (.int (3 : Int32)), .val .null, .unset]) (plainFor_of_name own_pn1) (fun m => by first | (simp [entryFrame, mkF, argsToLocals, Value.category]; done) | rfl) ?_
  intro C hl hret hnm R
  subst hl
  obtain ⟨zc, S_zc, hzc⟩ := id own_cs
  replace R := R.aloadN (pc' := 1) (v := (.ref a)) own_d10_0 rfl rfl rfl
  replace R := R.initO (pc' := 4) (W := 0) (own_w63 hw) (own_w9 hw) (own_w10 hw) rfl own_d10_1 (by decide) rfl (by decide) rfl
  replace R := R.iloadN (pc' := 5) (v := (3 : Int32)) own_d10_4 rfl rfl
  replace R := R.ifY (pc' := 27) own_d10_5 (feq (by decide : ¬ ((3 : Int32) = (0 : Int32)))).2 (by decide) rfl
  replace R := R.getS (pc' := 30) (host := "") (Or.inl (own_w64 hw)) Via.refl S_zc own_d10_27 rfl
  replace R := R.ifN (pc' := 33) own_d10_30 (feq hzc).1 rfl
  replace R := R.aloadN (pc' := 34) (v := (.ref q)) own_d10_33 rfl rfl rfl
  replace R := R.iloadN (pc' := 35) (v := (0 : Int32)) own_d10_34 rfl rfl
  replace R := R.iloadN (pc' := 36) (v := (3 : Int32)) own_d10_35 rfl rfl
  obtain ⟨_, h1, _, ⟨r1, k1, rfl, K1, V1, rfl⟩, R⟩ := R.callS (pc' := 39) (argsL := [(.ref q), (.int (0 : Int32)), (.int (3 : Int32))]) (rest := []) (W := 0) (own_w65 hw) (own_w66 hw) (own_w67 hw) (own_w68 hw) (by decide) (rm_c33 C.l Z a0 hw h n0 Ds hok V_q) rfl (lenOf own_pd3 rfl) rfl rfl own_d10_36 (by decide) (by decide) (by decide) (by decide) rfl
  replace R := R.mono (ce' := 1) (sl' := 3) (by decide) (by decide)
  replace R := R.stk (S' := [(.ref r1)]) rfl
  replace R := R.astore (pc' := 41) (l' := #[.val (.ref a), .val (.ref q), .val (.int (0 : Int32)), .val (.int (3 : Int32)), .val .null, .val (.ref r1)]) own_d10_39 rfl rfl rfl
  have K2 := ((Keep.refl h []).trans K1 all0)
  have F3 := E_a.keep K2
  have nab : a ≠ r1 := Exa.neArv F3 V1 (own_w43 hw)
  replace R := R.aloadN (pc' := 42) (v := (.ref a)) own_d10_41 rfl rfl rfl
  replace R := R.aload (pc' := 44) (v := (.ref r1)) own_d10_42 rfl rfl rfl
  replace R := R.iloadN (pc' := 45) (v := (3 : Int32)) own_d10_44 rfl rfl
  obtain ⟨_, _, _, ⟨rfl, rfl, rfl⟩, R⟩ := R.callS (pc' := 48) (argsL := [(.ref r1), (.int (3 : Int32))]) (rest := [(.ref a)]) (W := 1) (own_w73 hw) (own_w74 hw) (own_w67 hw) (own_w75 hw) (by decide) (rm_ca3 C.l Z a0 hw h1 n0 Ds V1) rfl (lenOf own_pd4 rfl) rfl rfl own_d10_45 (by decide) (by decide) (by decide) (by decide) rfl
  replace R := R.mono (ce' := 1) (sl' := 3) (by decide) (by decide)
  replace R := R.stk (S' := [(.int (0 : Int32)), (.ref a)]) rfl
  have K4 := ((Keep.refl h []).trans K1 all0)
  have F5 := F_c.keep K4 nin0
  have K6 := ((Keep.refl h []).trans K1 all0)
  have F7 := F_v.keep K6 nin0
  obtain ⟨h8, W8, R⟩ := R.putFN (pc' := 51) (ty := .byte) (v' := (.int (0 : Int32))) (own_w76 hw) Via.refl F5 F3 (Or.inr ⟨(own_w77 hw), rfl, hnm⟩) (own_w43 hw) (by decide) (rfl) (rfl) ha own_d10_48 rfl
  have F8 := F5.same W8
  have F9 := F7.other W8 (Or.inr (slot_ne (Or.inr (own_w79 hw)) (Or.inr (own_w77 hw)) (by decide) (t := (.array .byte)) (t' := .byte) (by decide) (by decide)))
  replace R := R.aloadN (pc' := 52) (v := (.ref a)) own_d10_51 rfl rfl rfl
  replace R := R.aload (pc' := 54) (v := (.ref r1)) own_d10_52 rfl rfl rfl
  have K10 := ((Keep.refl h1 [a]).trans (Keep.of_wr W8) (allS (Or.inl (List.mem_of_getElem? (i := 0) rfl)) all0))
  have F11 := F3.keep K10
  obtain ⟨h12, W12, R⟩ := R.putF (pc' := 57) (ty := (.array .byte)) (host := "") (Or.inl (own_w78 hw)) Via.refl F9 F11 (Or.inr ⟨(own_w79 hw), rfl, hnm⟩) (own_w43 hw) (by decide) rfl rfl ha own_d10_54 rfl
  have F12 := F9.same W12
  have F13 := F8.other W12 (Or.inr (slot_ne (Or.inr (own_w77 hw)) (Or.inr (own_w79 hw)) (by decide) (t := .byte) (t' := (.array .byte)) (by decide) (by decide)))
  have hK := ((((Keep.refl h [a]).trans K1 all0).trans (Keep.of_wr W8) (allS (Or.inl (List.mem_of_getElem? (i := 0) rfl)) all0)).trans (Keep.of_wr W12) (allS (Or.inl (List.mem_of_getElem? (i := 0) rfl)) all0))
  have K14 := ((Keep.refl h8 [a]).trans (Keep.of_wr W12) (allS (Or.inl (List.mem_of_getElem? (i := 0) rfl)) all0))
  have F15 := F11.keep K14
  have K16 := (((Keep.refl h1 [a]).trans (Keep.of_wr W8) (allS (Or.inl (List.mem_of_getElem? (i := 0) rfl)) all0)).trans (Keep.of_wr W12) (allS (Or.inl (List.mem_of_getElem? (i := 0) rfl)) all0))
  have F17 := V1.keep K16 (ninS (Ne.symm nab) nin0)
  exact R.retV (Ds' := Ds) hret own_d10_57 (by decide) (by decide) (fun _ q => q) ⟨rfl, hK, ⟨F15, F13, hok, Nat.le_of_ble_eq_true rfl, r1, _, F12, F17⟩, rfl⟩
set_option maxRecDepth 65536 in
set_option maxHeartbeats 4000000 in
theorem rm_i33 (l : Launch) (Z : State) (a0 : Array Value) (hw : ∀ d ∈ tables_1, d.before a0 Z = true) (a : Addr) (h : Heap) (n0 : Nat) (Ds : List Addr) (own_cs : CompactOn Z) (own_si : SiooOk Z) (ha : a ∈ Ds) {x0 x1 x2 : Int32} {tl : List Value} (hok : ∀ c ∈ ([x0, x1, x2] : List Int32), ¬ c < 0 ∧ ¬ (255 : Int32) < c) {q : Addr} {kq : ClassId} (V_q : Arv Z h q kq .char (32 : Int32) (Value.int x0 :: Value.int x1 :: Value.int x2 :: tl) (.int 0)) {u1 u2 : Value} (E_a : Exa Z h a "java/lang/String") (F_v : Fld Z h a "java/lang/String" "value" "[B" u1) (F_c : Fld Z h a "java/lang/String" "coder" "B" u2) :
    Ctr l Z (⟨"java/lang/String", "<init>", "([CII)V"⟩ : MethodName) jdk_42_method_4_code 4 none [] ({ frames := 3, cells := 1, slots := 3, locals := 52 } : Room) #[.ref a, .ref q, .int (0 : Int32), .int (3 : Int32)] h n0 Ds (fun v h' Ds' => v = none ∧ Keep h h' [a] ∧ IsStr Z h' a [x0, x1, x2] ∧ Ds = Ds') := by
  refine ctr_of (Ls := #[.val (.ref a), .val (.ref q), .val (.int (0 : Int32)), .val (.int (3 : Int32))]) (plainFor_of_name own_pn1) (fun m => by first | (simp [entryFrame, mkF, argsToLocals, Value.category]; done) | rfl) ?_
  intro C hl hret hnm R
  subst hl
  replace R := R.aloadN (pc' := 1) (v := (.ref a)) own_d6_0 rfl rfl rfl
  replace R := R.aloadN (pc' := 2) (v := (.ref q)) own_d6_1 rfl rfl rfl
  replace R := R.iloadN (pc' := 3) (v := (0 : Int32)) own_d6_2 rfl rfl
  replace R := R.iloadN (pc' := 4) (v := (3 : Int32)) own_d6_3 rfl rfl
  replace R := R.aloadN (pc' := 5) (v := (.ref q)) own_d6_4 rfl rfl rfl
  replace R := R.iloadN (pc' := 6) (v := (0 : Int32)) own_d6_5 rfl rfl
  replace R := R.iloadN (pc' := 7) (v := (3 : Int32)) own_d6_6 rfl rfl
  obtain ⟨_, _, _, ⟨rfl, rfl, rfl⟩, R⟩ := R.callS (pc' := 10) (argsL := [(.ref q), (.int (0 : Int32)), (.int (3 : Int32))]) (rest := [(.int (3 : Int32)), (.int (0 : Int32)), (.ref q), (.ref a)]) (W := 4) (own_w48 hw) (own_w49 hw) (own_w44 hw) (own_w50 hw) (by decide) (rm_rc3 C.l Z a0 hw h n0 Ds own_si hok V_q) rfl (lenOf own_pd5 rfl) rfl rfl own_d6_7 (by decide) (by decide) (by decide) (by decide) rfl
  replace R := R.mono (ce' := 0) (sl' := 0) (by decide) (by decide)
  replace R := R.stk (S' := [.null, (.int (3 : Int32)), (.int (0 : Int32)), (.ref q), (.ref a)]) rfl
  obtain ⟨_, h1, _, ⟨rfl, K1, S1, rfl⟩, R⟩ := R.callI (pc' := 13) (a := a) (argsL := [(.ref q), (.int (0 : Int32)), (.int (3 : Int32)), .null]) (rest := []) (W := 0) rfl (own_w59 hw) (own_w60 hw) (own_w44 hw) (own_w62 hw) (by decide) (rm_i43 C.l Z a0 hw a h n0 Ds own_cs own_si ha hok V_q E_a F_v F_c) rfl (lenOf own_pd6 rfl) rfl rfl own_d6_10 (by decide) (by decide) (by decide) (by decide) rfl
  replace R := R.mono (ce' := 1) (sl' := 3) (by decide) (by decide)
  replace R := R.stk (S' := []) rfl
  have hK := ((Keep.refl h [a]).trans K1 (allS (Or.inl (List.mem_of_getElem? (i := 0) rfl)) all0))
  exact R.retV (Ds' := Ds) hret own_d6_13 (by decide) (by decide) (fun _ q => q) ⟨rfl, hK, S1, rfl⟩
set_option maxRecDepth 65536 in
set_option maxHeartbeats 4000000 in
theorem rm_text3 (l : Launch) (Z : State) (a0 : Array Value) (hw : ∀ d ∈ tables_1, d.before a0 Z = true) (a : Addr) (h : Heap) (n0 : Nat) (Ds : List Addr) (own_cs : CompactOn Z) (own_si : SiooOk Z) {x0 x1 x2 : Int32} {tl : List Value} (hok : ∀ c ∈ ([x0, x1, x2] : List Int32), ¬ c < 0 ∧ ¬ (255 : Int32) < c) {q : Addr} {kq : ClassId} (V_q : Arv Z h q kq .char (32 : Int32) (Value.int x0 :: Value.int x1 :: Value.int x2 :: tl) (.int 0)) (F_q : Fld Z h a "com/example/pinsheet/pinsheet/WholeNumbers$Reading" "quoted" "[C" (.ref q)) (F_n : Fld Z h a "com/example/pinsheet/pinsheet/WholeNumbers$Reading" "quotedLength" "I" (.int (3 : Int32))) :
    Ctr l Z (⟨"com/example/pinsheet/pinsheet/WholeNumbers$Reading", "text", "()Ljava/lang/String;"⟩ : MethodName) prog_18_method_6_code 1 (some (.object "java/lang/String")) [] ({ frames := 4, cells := 2, slots := 7, locals := 68 } : Room) #[.ref a] h n0 Ds (fun v h' Ds' => ∃ r : Addr, v = some (.ref r) ∧ IsStr Z h' r [x0, x1, x2] ∧ Keep h h' [] ∧ Ds = Ds') := by
  refine ctr_of (Ls := #[.val (.ref a)]) (plainFor_of_name own_pn3) (fun m => by first | (simp [entryFrame, mkF, argsToLocals, Value.category]; done) | rfl) ?_
  intro C hl hret hnm R
  subst hl
  obtain ⟨h1, b1, g1, E1, X1, D1, R⟩ := R.newO (pc' := 3) (own_w42 hw) (own_w43 hw) (own_w44 hw) own_d5_0 (by decide) (by decide) rfl
  have F1_coder : Fld Z h1 b1 "java/lang/String" "coder" "B" (.int (0 : Int32)) := D1 (Or.inr (own_w77 hw)) (ty := .byte) (by decide)
  have F1_value : Fld Z h1 b1 "java/lang/String" "value" "[B" .null := D1 (Or.inr (own_w79 hw)) (ty := (.array .byte)) (by decide)
  replace R := R.dup (pc' := 4) own_d5_3 rfl rfl
  replace R := R.aloadN (pc' := 5) (v := (.ref a)) own_d5_4 rfl rfl rfl
  have K2 := ((Keep.refl h []).trans ((Keep.refl h []).ext E1) all0)
  have F3 := F_q.keep K2 nin0
  replace R := R.getF (pc' := 8) (host := "") (Or.inl (own_w11 hw)) Via.refl F3 own_d5_5 rfl
  replace R := R.iconst (pc' := 9) (z := (0 : Int32)) own_d5_8 rfl rfl
  replace R := R.aloadN (pc' := 10) (v := (.ref a)) own_d5_9 rfl rfl rfl
  have K4 := ((Keep.refl h []).trans ((Keep.refl h []).ext E1) all0)
  have F5 := F_n.keep K4 nin0
  replace R := R.getF (pc' := 13) (host := "") (Or.inl (own_w20 hw)) Via.refl F5 own_d5_10 rfl
  have K7 := ((Keep.refl h []).trans ((Keep.refl h []).ext E1) all0)
  have F8 := V_q.keep K7 nin0
  obtain ⟨_, h6, _, ⟨rfl, K6, S6, rfl⟩, R⟩ := R.callI (pc' := 16) (a := b1) (argsL := [(.ref q), (.int (0 : Int32)), (.int (3 : Int32))]) (rest := [(.ref b1)]) (W := 1) rfl (own_w45 hw) (own_w46 hw) (own_w44 hw) (own_w47 hw) (by decide) (rm_i33 C.l Z a0 hw b1 h1 n0 (b1 :: Ds) own_cs own_si (List.mem_of_getElem? (i := 0) rfl) hok F8 X1 F1_value F1_coder) rfl (lenOf own_pd7 rfl) rfl rfl own_d5_13 (by decide) (by decide) (by decide) (by decide) rfl
  replace R := R.mono (ce' := 2) (sl' := 7) (by decide) (by decide)
  replace R := R.stk (S' := [(.ref b1)]) rfl
  have hK := (((Keep.refl h []).trans ((Keep.refl h []).ext E1) all0).trans K6 (allS (Or.inr (by rw [g1]; exact (Nat.le_refl _))) all0))
  exact R.retA (Ds' := Ds) hret rfl rfl rfl own_d5_16 (by decide) (by decide) (fun _ q => (fun q => (List.mem_cons_of_mem _ q)) q) ⟨b1, rfl, S6, hK, rfl⟩
set_option maxRecDepth 65536 in
set_option maxHeartbeats 4000000 in
theorem rm_coder (l : Launch) (Z : State) (a0 : Array Value) (hw : ∀ d ∈ tables_1, d.before a0 Z = true) (a : Addr) (h : Heap) (n0 : Nat) (Ds : List Addr) (own_cs : CompactOn Z) (F_c : Fld Z h a "java/lang/String" "coder" "B" (.int (0 : Int32))) :
    Ctr l Z (⟨"java/lang/String", "coder", "()B"⟩ : MethodName) jdk_42_method_152_code 1 (some .byte) [] ({ frames := 0, cells := 0, slots := 0, locals := 0 } : Room) #[.ref a] h n0 Ds (fun v h' Ds' => v = some (.int (0 : Int32)) ∧ h = h' ∧ Ds = Ds') := by
  refine ctr_of (Ls := #[.val (.ref a)]) (plainFor_of_name own_pn1) (fun m => by first | (simp [entryFrame, mkF, argsToLocals, Value.category]; done) | rfl) ?_
  intro C hl hret hnm R
  subst hl
  obtain ⟨zc, S_zc, hzc⟩ := id own_cs
  replace R := R.getS (pc' := 3) (host := "") (Or.inl (own_w64 hw)) Via.refl S_zc own_d15_0 rfl
  replace R := R.ifN (pc' := 6) own_d15_3 (feq hzc).1 rfl
  replace R := R.aloadN (pc' := 7) (v := (.ref a)) own_d15_6 rfl rfl rfl
  replace R := R.getF (pc' := 10) (host := "") (Or.inl (own_w76 hw)) Via.refl F_c own_d15_7 rfl
  replace R := R.goto (pc' := 14) own_d15_10 (by decide) rfl
  exact R.retN (Ds' := Ds) hret (by simp) (show nar .byte (0 : Int32) = (0 : Int32) from rfl) own_d15_14 (by decide) (by decide) (fun _ q => q) ⟨rfl, rfl, rfl⟩
set_option maxRecDepth 65536 in
set_option maxHeartbeats 4000000 in
theorem rm_isLatin1 (l : Launch) (Z : State) (a0 : Array Value) (hw : ∀ d ∈ tables_1, d.before a0 Z = true) (a : Addr) (h : Heap) (n0 : Nat) (Ds : List Addr) (own_cs : CompactOn Z) (F_c : Fld Z h a "java/lang/String" "coder" "B" (.int (0 : Int32))) :
    Ctr l Z (⟨"java/lang/String", "isLatin1", "()Z"⟩ : MethodName) jdk_42_method_154_code 1 (some .boolean) [] ({ frames := 0, cells := 0, slots := 0, locals := 0 } : Room) #[.ref a] h n0 Ds (fun v h' Ds' => v = some (.int (1 : Int32)) ∧ h = h' ∧ Ds = Ds') := by
  refine ctr_of (Ls := #[.val (.ref a)]) (plainFor_of_name own_pn1) (fun m => by first | (simp [entryFrame, mkF, argsToLocals, Value.category]; done) | rfl) ?_
  intro C hl hret hnm R
  subst hl
  obtain ⟨zc, S_zc, hzc⟩ := id own_cs
  replace R := R.getS (pc' := 3) (host := "") (Or.inl (own_w64 hw)) Via.refl S_zc own_d17_0 rfl
  replace R := R.ifN (pc' := 6) own_d17_3 (feq hzc).1 rfl
  replace R := R.aloadN (pc' := 7) (v := (.ref a)) own_d17_6 rfl rfl rfl
  replace R := R.getF (pc' := 10) (host := "") (Or.inl (own_w76 hw)) Via.refl F_c own_d17_7 rfl
  replace R := R.ifN (pc' := 13) own_d17_10 (teq (by decide : (0 : Int32) = (0 : Int32))).2 rfl
  replace R := R.iconst (pc' := 14) (z := (1 : Int32)) own_d17_13 rfl rfl
  replace R := R.goto (pc' := 18) own_d17_14 (by decide) rfl
  exact R.retN (Ds' := Ds) hret (by simp) (show nar .boolean (1 : Int32) = (1 : Int32) from rfl) own_d17_18 (by decide) (by decide) (fun _ q => q) ⟨rfl, rfl, rfl⟩
set_option maxRecDepth 65536 in
set_option maxHeartbeats 4000000 in
theorem rm_length (l : Launch) (Z : State) (a0 : Array Value) (hw : ∀ d ∈ tables_1, d.before a0 Z = true) (a : Addr) (h : Heap) (n0 : Nat) (Ds : List Addr) (own_cs : CompactOn Z) {cs : List Int32} (S_a : IsStr Z h a cs) :
    Ctr l Z (⟨"java/lang/String", "length", "()I"⟩ : MethodName) jdk_42_method_54_code 1 (some .int) [] ({ frames := 1, cells := 0, slots := 0, locals := 13 } : Room) #[.ref a] h n0 Ds (fun v h' Ds' => v = some (.int (Int32.ofNat cs.length)) ∧ h = h' ∧ Ds = Ds') := by
  refine ctr_of (Ls := #[.val (.ref a)]) (plainFor_of_name own_pn1) (fun m => by first | (simp [entryFrame, mkF, argsToLocals, Value.category]; done) | rfl) ?_
  intro C hl hret hnm R
  subst hl
  obtain ⟨e1, e2, e3, e4, t, kb, e5, e6⟩ := S_a
  replace R := R.aloadN (pc' := 1) (v := (.ref a)) own_d14_0 rfl rfl rfl
  replace R := R.getF (pc' := 4) (host := "") (Or.inl (own_w78 hw)) Via.refl e5 own_d14_1 rfl
  replace R := R.arraylength (pc' := 5) e6 own_d14_4 rfl
  replace R := R.aloadN (pc' := 6) (v := (.ref a)) own_d14_5 rfl rfl rfl
  obtain ⟨_, _, _, ⟨rfl, rfl, rfl⟩, R⟩ := R.callV (pc' := 9) (y := (⟨"java/lang/String", "coder", "()B"⟩ : MethodName)) (z := (⟨"java/lang/String", "coder", "()B"⟩ : MethodName)) (argsL := []) (rest := [(.int (Int32.ofNat cs.length))]) (W := 1) (own_w85 hw) (own_w86 hw) (fun s' hZ' => notFace_of_selects (args := #[]) (mvT hZ' (own_w88 hw))) (own_w88 hw) (own_w87 hw) (own_w44 hw) (own_w89 hw) (by decide) e1 (rm_coder C.l Z a0 hw a h n0 Ds own_cs e2) rfl (lenOf own_pd8 rfl) rfl rfl own_d14_6 (by decide) (by decide) (by decide) (by decide) rfl
  replace R := R.mono (ce' := 0) (sl' := 0) (by decide) (by decide)
  replace R := R.stk (S' := [(.int (0 : Int32)), (.int (Int32.ofNat cs.length))]) rfl
  replace R := R.ishr (pc' := 10) own_d14_9 rfl
  replace R := R.stk (congrArg (fun z => ([Value.int z] : List Value)) (own_shr0 (Int32.ofNat cs.length)))
  exact R.retI (Ds' := Ds) hret own_d14_10 (by decide) (by decide) (fun _ q => q) ⟨rfl, rfl, rfl⟩
set_option maxRecDepth 65536 in
set_option maxHeartbeats 4000000 in
theorem rm_pci (l : Launch) (Z : State) (a0 : Array Value) (hw : ∀ d ∈ tables_1, d.before a0 Z = true) (p0 p1 : Int32) (fm : Value) (h : Heap) (n0 : Nat) (Ds : List Addr) (hfm : fm.isRef = true) (hp : ¬ p0 < 0 ∧ p0 < p1) :
    Ctr l Z (⟨"jdk/internal/util/Preconditions", "checkIndex", "(IILjava/util/function/BiFunction;)I"⟩ : MethodName) jdk_41_method_11_code 3 (some .int) [] ({ frames := 0, cells := 0, slots := 0, locals := 0 } : Room) #[.int p0, .int p1, fm] h n0 Ds (fun v h' Ds' => v = some (.int p0) ∧ h = h' ∧ Ds = Ds') := by
  refine ctr_of (Ls := #[.val (.int p0), .val (.int p1), .val fm]) (plainFor_of_name own_pn0) (fun mm => by rcases ref_cases hfm with rfl | ⟨_, rfl⟩ <;> first | (simp [entryFrame, mkF, argsToLocals, Value.category]; done) | rfl) ?_
  intro C hl hret hnm R
  subst hl
  replace R := R.iloadN (pc' := 1) (v := p0) own_d20_0 rfl rfl
  replace R := R.ifN (pc' := 4) own_d20_1 (flt hp.1).1 rfl
  replace R := R.iloadN (pc' := 5) (v := p0) own_d20_4 rfl rfl
  replace R := R.iloadN (pc' := 6) (v := p1) own_d20_5 rfl rfl
  replace R := R.icmpY (pc' := 16) own_d20_6 (tlt hp.2).1 (by decide) rfl
  replace R := R.iloadN (pc' := 17) (v := p0) own_d20_16 rfl rfl
  exact R.retI (Ds' := Ds) hret own_d20_17 (by decide) (by decide) (fun _ q => q) ⟨rfl, rfl, rfl⟩
set_option maxRecDepth 65536 in
set_option maxHeartbeats 4000000 in
theorem rm_ci (l : Launch) (Z : State) (a0 : Array Value) (hw : ∀ d ∈ tables_1, d.before a0 Z = true) (p0 p1 : Int32) (h : Heap) (n0 : Nat) (Ds : List Addr) (own_si : SiooOk Z) (hp : ¬ p0 < 0 ∧ p0 < p1) :
    Ctr l Z (⟨"java/lang/String", "checkIndex", "(II)V"⟩ : MethodName) jdk_42_method_155_code 2 none [] ({ frames := 1, cells := 0, slots := 0, locals := 14 } : Room) #[.int p0, .int p1] h n0 Ds (fun v h' Ds' => v = none ∧ h = h' ∧ Ds = Ds') := by
  refine ctr_of (Ls := #[.val (.int p0), .val (.int p1)]) (plainFor_of_name own_pn1) (fun m => by first | (simp [entryFrame, mkF, argsToLocals, Value.category]; done) | rfl) ?_
  intro C hl hret hnm R
  subst hl
  obtain ⟨fm, S_fm, hfm⟩ := id own_si
  replace R := R.iloadN (pc' := 1) (v := p0) own_d19_0 rfl rfl
  replace R := R.iloadN (pc' := 2) (v := p1) own_d19_1 rfl rfl
  replace R := R.getS (pc' := 5) (host := "") (Or.inl (own_w54 hw)) Via.refl S_fm own_d19_2 rfl
  obtain ⟨_, _, _, ⟨rfl, rfl, rfl⟩, R⟩ := R.callS (pc' := 8) (argsL := [(.int p0), (.int p1), fm]) (rest := []) (W := 0) (own_w107 hw) (own_w108 hw) (own_w55 hw) (own_w109 hw) (by decide) (rm_pci C.l Z a0 hw p0 p1 fm h n0 Ds hfm hp) rfl (lenOf own_pd9 rfl) rfl rfl own_d19_5 (by decide) (by decide) (by decide) (by decide) rfl
  replace R := R.mono (ce' := 0) (sl' := 0) (by decide) (by decide)
  replace R := R.stk (S' := [(.int p0)]) rfl
  replace R := R.pop (pc' := 9) own_d19_8 rfl rfl
  exact R.retV (Ds' := Ds) hret own_d19_9 (by decide) (by decide) (fun _ q => q) ⟨rfl, rfl, rfl⟩
set_option maxRecDepth 65536 in
set_option maxHeartbeats 4000000 in
theorem rm_lch (l : Launch) (Z : State) (a0 : Array Value) (hw : ∀ d ∈ tables_1, d.before a0 Z = true) (t : Addr) (p0 : Int32) (h : Heap) (n0 : Nat) (Ds : List Addr) (own_si : SiooOk Z) {cs : List Int32} {k : Nat} (hk : p0 = Int32.ofNat k) (hkl : k < cs.length) {kb : ClassId} (hl : cs.length ≤ 4000) (hok : ∀ c ∈ cs, ¬ c < 0 ∧ ¬ (255 : Int32) < c) (V_t : Arv Z h t kb .byte (Int32.ofNat cs.length) (bytesOfCs cs) (.int 0)) :
    Ctr l Z (⟨"java/lang/StringLatin1", "charAt", "([BI)C"⟩ : MethodName) jdk_43_method_2_code 2 (some .char) [] ({ frames := 2, cells := 0, slots := 0, locals := 27 } : Room) #[.ref t, .int p0] h n0 Ds (fun v h' Ds' => v = some (.int (cs.getD k 0)) ∧ h = h' ∧ Ds = Ds') := by
  refine ctr_of (Ls := #[.val (.ref t), .val (.int p0)]) (plainFor_of_name own_pn4) (fun m => by first | (simp [entryFrame, mkF, argsToLocals, Value.category]; done) | rfl) ?_
  intro C hl hret hnm R
  subst hl
  have hp : ¬ p0 < 0 ∧ p0 < Int32.ofNat cs.length := by rw [hk]; exact own_j hl hkl
  replace R := R.iloadN (pc' := 1) (v := p0) own_d18_0 rfl rfl
  replace R := R.aloadN (pc' := 2) (v := (.ref t)) own_d18_1 rfl rfl rfl
  replace R := R.arraylength (pc' := 3) V_t own_d18_2 rfl
  obtain ⟨_, _, _, ⟨rfl, rfl, rfl⟩, R⟩ := R.callS (pc' := 6) (argsL := [(.int p0), (.int (Int32.ofNat cs.length))]) (rest := []) (W := 0) (own_w104 hw) (own_w105 hw) (own_w44 hw) (own_w106 hw) (by decide) (rm_ci C.l Z a0 hw p0 (Int32.ofNat cs.length) h n0 Ds own_si hp) rfl (lenOf own_pd10 rfl) rfl rfl own_d18_3 (by decide) (by decide) (by decide) (by decide) rfl
  replace R := R.mono (ce' := 0) (sl' := 0) (by decide) (by decide)
  replace R := R.stk (S' := []) rfl
  replace R := R.aloadN (pc' := 7) (v := (.ref t)) own_d18_6 rfl rfl rfl
  replace R := R.iloadN (pc' := 8) (v := p0) own_d18_7 rfl rfl
  replace R := R.baload (pc' := 9) (v := .int (cs.getD k 0).toInt8.toInt32) V_t hp (by rw [hk]; exact own_bget hl hkl) own_d18_8 rfl
  replace R := R.sipush (pc' := 12) (z := (255 : Int32)) own_d18_9 rfl rfl
  replace R := R.iand (pc' := 13) own_d18_12 rfl
  replace R := R.i2c (pc' := 14) own_d18_13 rfl
  have hb := own_getD hkl hok
  replace R := R.stk (congrArg (fun z => ([Value.int z] : List Value)) (own_b2c hb))
  exact R.retN (Ds' := Ds) hret (by simp) (show nar .char (cs.getD k 0) = (cs.getD k 0) from nar_of hb) own_d18_14 (by decide) (by decide) (fun _ q => q) ⟨rfl, rfl, rfl⟩
set_option maxRecDepth 65536 in
set_option maxHeartbeats 4000000 in
theorem rm_charAt (l : Launch) (Z : State) (a0 : Array Value) (hw : ∀ d ∈ tables_1, d.before a0 Z = true) (a : Addr) (p0 : Int32) (h : Heap) (n0 : Nat) (Ds : List Addr) (own_cs : CompactOn Z) (own_si : SiooOk Z) {cs : List Int32} {k : Nat} (hk : p0 = Int32.ofNat k) (hkl : k < cs.length) (S_a : IsStr Z h a cs) :
    Ctr l Z (⟨"java/lang/String", "charAt", "(I)C"⟩ : MethodName) jdk_42_method_56_code 2 (some .char) [] ({ frames := 3, cells := 0, slots := 0, locals := 40 } : Room) #[.ref a, .int p0] h n0 Ds (fun v h' Ds' => v = some (.int (cs.getD k 0)) ∧ h = h' ∧ Ds = Ds') := by
  refine ctr_of (Ls := #[.val (.ref a), .val (.int p0)]) (plainFor_of_name own_pn1) (fun m => by first | (simp [entryFrame, mkF, argsToLocals, Value.category]; done) | rfl) ?_
  intro C hl hret hnm R
  subst hl
  obtain ⟨e1, e2, e3, e4, t, kb, e5, e6⟩ := S_a
  replace R := R.aloadN (pc' := 1) (v := (.ref a)) own_d16_0 rfl rfl rfl
  obtain ⟨_, _, _, ⟨rfl, rfl, rfl⟩, R⟩ := R.callV (pc' := 4) (y := (⟨"java/lang/String", "isLatin1", "()Z"⟩ : MethodName)) (z := (⟨"java/lang/String", "isLatin1", "()Z"⟩ : MethodName)) (argsL := []) (rest := []) (W := 0) (own_w95 hw) (own_w96 hw) (fun s' hZ' => notFace_of_selects (args := #[]) (mvT hZ' (own_w98 hw))) (own_w98 hw) (own_w97 hw) (own_w44 hw) (own_w99 hw) (by decide) e1 (rm_isLatin1 C.l Z a0 hw a h n0 Ds own_cs e2) rfl (lenOf own_pd11 rfl) rfl rfl own_d16_1 (by decide) (by decide) (by decide) (by decide) rfl
  replace R := R.mono (ce' := 0) (sl' := 0) (by decide) (by decide)
  replace R := R.stk (S' := [(.int (1 : Int32))]) rfl
  replace R := R.ifN (pc' := 7) own_d16_4 (feq (by decide : ¬ ((1 : Int32) = (0 : Int32)))).1 rfl
  replace R := R.aloadN (pc' := 8) (v := (.ref a)) own_d16_7 rfl rfl rfl
  replace R := R.getF (pc' := 11) (host := "") (Or.inl (own_w78 hw)) Via.refl e5 own_d16_8 rfl
  replace R := R.iloadN (pc' := 12) (v := p0) own_d16_11 rfl rfl
  obtain ⟨_, _, _, ⟨rfl, rfl, rfl⟩, R⟩ := R.callS (pc' := 15) (argsL := [(.ref t), (.int p0)]) (rest := []) (W := 0) (own_w100 hw) (own_w101 hw) (own_w102 hw) (own_w103 hw) (by decide) (rm_lch C.l Z a0 hw t p0 h n0 Ds own_si hk hkl e4 e3 e6) rfl (lenOf own_pd12 rfl) rfl rfl own_d16_12 (by decide) (by decide) (by decide) (by decide) rfl
  replace R := R.mono (ce' := 0) (sl' := 0) (by decide) (by decide)
  replace R := R.stk (S' := [(.int (cs.getD k 0))]) rfl
  have hb := own_getD hkl e3
  exact R.retN (Ds' := Ds) hret (by simp) (show nar .char (cs.getD k 0) = (cs.getD k 0) from nar_of hb) own_d16_15 (by decide) (by decide) (fun _ q => q) ⟨rfl, rfl, rfl⟩
set_option maxRecDepth 65536 in
set_option maxHeartbeats 4000000 in
theorem rm_rinit (l : Launch) (Z : State) (a0 : Array Value) (hw : ∀ d ∈ tables_1, d.before a0 Z = true) (a : Addr) (h : Heap) (n0 : Nat) (Ds : List Addr) (ha : a ∈ Ds) (E_a : Exa Z h a "com/example/pinsheet/pinsheet/WholeNumbers$Reading") (F_quoted : Fld Z h a "com/example/pinsheet/pinsheet/WholeNumbers$Reading" "quoted" "[C" .null) (F_quotedLength : Fld Z h a "com/example/pinsheet/pinsheet/WholeNumbers$Reading" "quotedLength" "I" (.int (0 : Int32))) (F_cut : Fld Z h a "com/example/pinsheet/pinsheet/WholeNumbers$Reading" "cut" "Z" (.int (0 : Int32))) (F_negative : Fld Z h a "com/example/pinsheet/pinsheet/WholeNumbers$Reading" "negative" "Z" (.int (0 : Int32))) (F_digits : Fld Z h a "com/example/pinsheet/pinsheet/WholeNumbers$Reading" "digits" "Z" (.int (0 : Int32))) (F_wellFormed : Fld Z h a "com/example/pinsheet/pinsheet/WholeNumbers$Reading" "wellFormed" "Z" (.int (0 : Int32))) (F_magnitude : Fld Z h a "com/example/pinsheet/pinsheet/WholeNumbers$Reading" "magnitude" "J" (.long (0 : Int64))) :
    Ctr l Z (⟨"com/example/pinsheet/pinsheet/WholeNumbers$Reading", "<init>", "()V"⟩ : MethodName) prog_18_method_1_code 1 none [] ({ frames := 1, cells := 1, slots := 32, locals := 12 } : Room) #[.ref a] h n0 Ds (fun v h' Ds' => ∃ (q : Addr) (kq : ClassId) (vs : List Value), v = none ∧ vs.length = 32 ∧ Keep h h' [a] ∧ a ≠ q ∧ h.size ≤ q ∧ Exa Z h' a "com/example/pinsheet/pinsheet/WholeNumbers$Reading" ∧ Fld Z h' a "com/example/pinsheet/pinsheet/WholeNumbers$Reading" "quoted" "[C" (.ref q) ∧ Fld Z h' a "com/example/pinsheet/pinsheet/WholeNumbers$Reading" "quotedLength" "I" (.int (0 : Int32)) ∧ Fld Z h' a "com/example/pinsheet/pinsheet/WholeNumbers$Reading" "cut" "Z" (.int (0 : Int32)) ∧ Fld Z h' a "com/example/pinsheet/pinsheet/WholeNumbers$Reading" "negative" "Z" (.int (0 : Int32)) ∧ Fld Z h' a "com/example/pinsheet/pinsheet/WholeNumbers$Reading" "digits" "Z" (.int (0 : Int32)) ∧ Fld Z h' a "com/example/pinsheet/pinsheet/WholeNumbers$Reading" "wellFormed" "Z" (.int (1 : Int32)) ∧ Fld Z h' a "com/example/pinsheet/pinsheet/WholeNumbers$Reading" "magnitude" "J" (.long (0 : Int64)) ∧ Arv Z h' q kq .char (32 : Int32) vs (.int 0) ∧ q :: Ds = Ds') := by
  refine ctr_of (Ls := #[.val (.ref a)]) (plainFor_of_name own_pn3) (fun m => by first | (simp [entryFrame, mkF, argsToLocals, Value.category]; done) | rfl) ?_
  intro C hl hret hnm R
  subst hl
  replace R := R.aloadN (pc' := 1) (v := (.ref a)) own_d1_0 rfl rfl rfl
  replace R := R.initO (pc' := 4) (W := 0) (own_w8 hw) (own_w9 hw) (own_w10 hw) rfl own_d1_1 (by decide) rfl (by decide) rfl
  replace R := R.aloadN (pc' := 5) (v := (.ref a)) own_d1_4 rfl rfl rfl
  replace R := R.bipush (pc' := 7) (z := (32 : Int32)) own_d1_5 rfl rfl
  obtain ⟨h1, b1, k1, g1, E1, V1, R⟩ := R.newP (pc' := 9) (aty := .char) (cap := 32) (own_w1 hw) own_d1_7 (by decide) (by decide) (by decide) (by decide) (by decide) rfl
  have V1p : Arv Z h1 b1 k1 .char (32 : Int32) [(.int (0 : Int32)), (.int (0 : Int32)), (.int (0 : Int32)), (.int (0 : Int32)), (.int (0 : Int32)), (.int (0 : Int32)), (.int (0 : Int32)), (.int (0 : Int32)), (.int (0 : Int32)), (.int (0 : Int32)), (.int (0 : Int32)), (.int (0 : Int32)), (.int (0 : Int32)), (.int (0 : Int32)), (.int (0 : Int32)), (.int (0 : Int32)), (.int (0 : Int32)), (.int (0 : Int32)), (.int (0 : Int32)), (.int (0 : Int32)), (.int (0 : Int32)), (.int (0 : Int32)), (.int (0 : Int32)), (.int (0 : Int32)), (.int (0 : Int32)), (.int (0 : Int32)), (.int (0 : Int32)), (.int (0 : Int32)), (.int (0 : Int32)), (.int (0 : Int32)), (.int (0 : Int32)), (.int (0 : Int32))] (.int (0 : Int32)) := V1.pad (pad_rep [] (.int (0 : Int32)) 32)
  have K2 := ((Keep.refl h []).trans ((Keep.refl h []).ext E1) all0)
  have F3 := E_a.keep K2
  have nab : a ≠ b1 := Exa.neArv F3 V1p (own_w3 hw)
  have K4 := ((Keep.refl h []).trans ((Keep.refl h []).ext E1) all0)
  have F5 := F_quoted.keep K4 nin0
  have K6 := ((Keep.refl h []).trans ((Keep.refl h []).ext E1) all0)
  have F7 := F_quotedLength.keep K6 nin0
  have K8 := ((Keep.refl h []).trans ((Keep.refl h []).ext E1) all0)
  have F9 := F_cut.keep K8 nin0
  have K10 := ((Keep.refl h []).trans ((Keep.refl h []).ext E1) all0)
  have F11 := F_negative.keep K10 nin0
  have K12 := ((Keep.refl h []).trans ((Keep.refl h []).ext E1) all0)
  have F13 := F_digits.keep K12 nin0
  have K14 := ((Keep.refl h []).trans ((Keep.refl h []).ext E1) all0)
  have F15 := F_wellFormed.keep K14 nin0
  have K16 := ((Keep.refl h []).trans ((Keep.refl h []).ext E1) all0)
  have F17 := F_magnitude.keep K16 nin0
  obtain ⟨h18, W18, R⟩ := R.putF (pc' := 12) (ty := (.array .char)) (host := "") (Or.inl (own_w11 hw)) Via.refl F5 F3 (Or.inr ⟨(own_w12 hw), rfl, hnm⟩) (own_w3 hw) (by decide) rfl rfl (List.mem_cons_of_mem _ ha) own_d1_9 rfl
  have F18 := F5.same W18
  have F19 := F7.other W18 (Or.inr (slot_ne (Or.inl (own_w21 hw)) (Or.inr (own_w12 hw)) (by decide) (t := .int) (t' := (.array .char)) (by decide) (by decide)))
  have F20 := F9.other W18 (Or.inr (slot_ne (Or.inl (own_w23 hw)) (Or.inr (own_w12 hw)) (by decide) (t := .boolean) (t' := (.array .char)) (by decide) (by decide)))
  have F21 := F11.other W18 (Or.inr (slot_ne (Or.inl (own_w25 hw)) (Or.inr (own_w12 hw)) (by decide) (t := .boolean) (t' := (.array .char)) (by decide) (by decide)))
  have F22 := F13.other W18 (Or.inr (slot_ne (Or.inl (own_w27 hw)) (Or.inr (own_w12 hw)) (by decide) (t := .boolean) (t' := (.array .char)) (by decide) (by decide)))
  have F23 := F15.other W18 (Or.inr (slot_ne (Or.inl (own_w14 hw)) (Or.inr (own_w12 hw)) (by decide) (t := .boolean) (t' := (.array .char)) (by decide) (by decide)))
  have F24 := F17.other W18 (Or.inr (slot_ne (Or.inl (own_w29 hw)) (Or.inr (own_w12 hw)) (by decide) (t := .long) (t' := (.array .char)) (by decide) (by decide)))
  replace R := R.aloadN (pc' := 13) (v := (.ref a)) own_d1_12 rfl rfl rfl
  replace R := R.iconst (pc' := 14) (z := (1 : Int32)) own_d1_13 rfl rfl
  have K25 := ((Keep.refl h1 [a]).trans (Keep.of_wr W18) (allS (Or.inl (List.mem_of_getElem? (i := 0) rfl)) all0))
  have F26 := F3.keep K25
  obtain ⟨h27, W27, R⟩ := R.putFN (pc' := 17) (ty := .boolean) (v' := (.int (1 : Int32))) (own_w13 hw) Via.refl F23 F26 (Or.inl (own_w14 hw)) (own_w3 hw) (by decide) (rfl) (rfl) (List.mem_cons_of_mem _ ha) own_d1_14 rfl
  have F27 := F23.same W27
  have F28 := F18.other W27 (Or.inr (slot_ne (Or.inr (own_w12 hw)) (Or.inl (own_w14 hw)) (by decide) (t := (.array .char)) (t' := .boolean) (by decide) (by decide)))
  have F29 := F19.other W27 (Or.inr (slot_ne (Or.inl (own_w21 hw)) (Or.inl (own_w14 hw)) (by decide) (t := .int) (t' := .boolean) (by decide) (by decide)))
  have F30 := F20.other W27 (Or.inr (slot_ne (Or.inl (own_w23 hw)) (Or.inl (own_w14 hw)) (by decide) (t := .boolean) (t' := .boolean) (by decide) (by decide)))
  have F31 := F21.other W27 (Or.inr (slot_ne (Or.inl (own_w25 hw)) (Or.inl (own_w14 hw)) (by decide) (t := .boolean) (t' := .boolean) (by decide) (by decide)))
  have F32 := F22.other W27 (Or.inr (slot_ne (Or.inl (own_w27 hw)) (Or.inl (own_w14 hw)) (by decide) (t := .boolean) (t' := .boolean) (by decide) (by decide)))
  have F33 := F24.other W27 (Or.inr (slot_ne (Or.inl (own_w29 hw)) (Or.inl (own_w14 hw)) (by decide) (t := .long) (t' := .boolean) (by decide) (by decide)))
  have hK := ((((Keep.refl h [a]).trans ((Keep.refl h []).ext E1) all0).trans (Keep.of_wr W18) (allS (Or.inl (List.mem_of_getElem? (i := 0) rfl)) all0)).trans (Keep.of_wr W27) (allS (Or.inl (List.mem_of_getElem? (i := 0) rfl)) all0))
  have K34 := ((Keep.refl h18 [a]).trans (Keep.of_wr W27) (allS (Or.inl (List.mem_of_getElem? (i := 0) rfl)) all0))
  have F35 := F26.keep K34
  have K36 := (((Keep.refl h1 [a]).trans (Keep.of_wr W18) (allS (Or.inl (List.mem_of_getElem? (i := 0) rfl)) all0)).trans (Keep.of_wr W27) (allS (Or.inl (List.mem_of_getElem? (i := 0) rfl)) all0))
  have F37 := V1p.keep K36 (ninS (Ne.symm nab) nin0)
  exact R.retV (Ds' := b1 :: Ds) hret own_d1_17 (by decide) (by decide) (fun _ q => q) ⟨b1, _, _, rfl, rfl, hK, nab, (by rw [g1]; exact (Nat.le_refl _)), F35, F28, F29, F30, F31, F32, F27, F33, F37, rfl⟩
def s_ng (n p ng dg wf : Int32) (mg : Int64) : Int32 := if n = (0 : Int32) then (if p < (48 : Int32) then (if p = (45 : Int32) then (1 : Int32) else ng) else (if (57 : Int32) < p then (if p = (45 : Int32) then (1 : Int32) else ng) else (if (0 : Int32) < (lcmpW mg (2147483648 : Int64)) then ng else ng))) else (if p < (48 : Int32) then (if p = (45 : Int32) then ng else ng) else (if (57 : Int32) < p then (if p = (45 : Int32) then ng else ng) else (if (0 : Int32) < (lcmpW mg (2147483648 : Int64)) then ng else ng)))
def s_dg (n p ng dg wf : Int32) (mg : Int64) : Int32 := if n = (0 : Int32) then (if p < (48 : Int32) then (if p = (45 : Int32) then dg else dg) else (if (57 : Int32) < p then (if p = (45 : Int32) then dg else dg) else (if (0 : Int32) < (lcmpW mg (2147483648 : Int64)) then (1 : Int32) else (1 : Int32)))) else (if p < (48 : Int32) then (if p = (45 : Int32) then dg else dg) else (if (57 : Int32) < p then (if p = (45 : Int32) then dg else dg) else (if (0 : Int32) < (lcmpW mg (2147483648 : Int64)) then (1 : Int32) else (1 : Int32))))
def s_wf (n p ng dg wf : Int32) (mg : Int64) : Int32 := if n = (0 : Int32) then (if p < (48 : Int32) then (if p = (45 : Int32) then wf else (0 : Int32)) else (if (57 : Int32) < p then (if p = (45 : Int32) then wf else (0 : Int32)) else (if (0 : Int32) < (lcmpW mg (2147483648 : Int64)) then wf else wf))) else (if p < (48 : Int32) then (if p = (45 : Int32) then (0 : Int32) else (0 : Int32)) else (if (57 : Int32) < p then (if p = (45 : Int32) then (0 : Int32) else (0 : Int32)) else (if (0 : Int32) < (lcmpW mg (2147483648 : Int64)) then wf else wf)))
def s_mg (n p ng dg wf : Int32) (mg : Int64) : Int64 := if n = (0 : Int32) then (if p < (48 : Int32) then (if p = (45 : Int32) then mg else mg) else (if (57 : Int32) < p then (if p = (45 : Int32) then mg else mg) else (if (0 : Int32) < (lcmpW mg (2147483648 : Int64)) then mg else ((mg * (10 : Int64)) + (p - (48 : Int32)).toInt64)))) else (if p < (48 : Int32) then (if p = (45 : Int32) then mg else mg) else (if (57 : Int32) < p then (if p = (45 : Int32) then mg else mg) else (if (0 : Int32) < (lcmpW mg (2147483648 : Int64)) then mg else ((mg * (10 : Int64)) + (p - (48 : Int32)).toInt64))))
set_option maxRecDepth 65536 in
set_option maxHeartbeats 4000000 in
theorem rm_add (l : Launch) (Z : State) (a0 : Array Value) (hw : ∀ d ∈ tables_1, d.before a0 Z = true) (a : Addr) (p : Int32) (h : Heap) (n0 : Nat) (Ds : List Addr) {n ng dg wf : Int32} {mg : Int64} {q : Addr} {kq : ClassId} {vs : List Value} {k : Nat} (ha : a ∈ Ds) (hq : q ∈ Ds) (naq : a ≠ q) (hn : n = Int32.ofNat k) (hk : k < 32) (hvs : vs.length = 32) (hp : nar .char p = p) (E_a : Exa Z h a "com/example/pinsheet/pinsheet/WholeNumbers$Reading") (F_quoted : Fld Z h a "com/example/pinsheet/pinsheet/WholeNumbers$Reading" "quoted" "[C" (.ref q)) (F_quotedLength : Fld Z h a "com/example/pinsheet/pinsheet/WholeNumbers$Reading" "quotedLength" "I" (.int n)) (F_cut : Fld Z h a "com/example/pinsheet/pinsheet/WholeNumbers$Reading" "cut" "Z" (.int (0 : Int32))) (F_negative : Fld Z h a "com/example/pinsheet/pinsheet/WholeNumbers$Reading" "negative" "Z" (.int ng)) (F_digits : Fld Z h a "com/example/pinsheet/pinsheet/WholeNumbers$Reading" "digits" "Z" (.int dg)) (F_wellFormed : Fld Z h a "com/example/pinsheet/pinsheet/WholeNumbers$Reading" "wellFormed" "Z" (.int wf)) (F_magnitude : Fld Z h a "com/example/pinsheet/pinsheet/WholeNumbers$Reading" "magnitude" "J" (.long mg)) (V_q : Arv Z h q kq .char (32 : Int32) vs (.int 0)) :
    Ctr l Z (⟨"com/example/pinsheet/pinsheet/WholeNumbers$Reading", "add", "(C)V"⟩ : MethodName) prog_18_method_2_code 3 none [] ({ frames := 0, cells := 0, slots := 0, locals := 0 } : Room) #[.ref a, .int p] h n0 Ds (fun v h' Ds' => ∃ (ng' dg' wf' : Int32) (mg' : Int64), ng' = s_ng n p ng dg wf mg ∧ dg' = s_dg n p ng dg wf mg ∧ wf' = s_wf n p ng dg wf mg ∧ mg' = s_mg n p ng dg wf mg ∧ v = none ∧ Keep h h' [a, q] ∧ Exa Z h' a "com/example/pinsheet/pinsheet/WholeNumbers$Reading" ∧ Fld Z h' a "com/example/pinsheet/pinsheet/WholeNumbers$Reading" "quoted" "[C" (.ref q) ∧ Fld Z h' a "com/example/pinsheet/pinsheet/WholeNumbers$Reading" "quotedLength" "I" (.int (n + (1 : Int32))) ∧ Fld Z h' a "com/example/pinsheet/pinsheet/WholeNumbers$Reading" "cut" "Z" (.int (0 : Int32)) ∧ Fld Z h' a "com/example/pinsheet/pinsheet/WholeNumbers$Reading" "negative" "Z" (.int ng') ∧ Fld Z h' a "com/example/pinsheet/pinsheet/WholeNumbers$Reading" "digits" "Z" (.int dg') ∧ Fld Z h' a "com/example/pinsheet/pinsheet/WholeNumbers$Reading" "wellFormed" "Z" (.int wf') ∧ Fld Z h' a "com/example/pinsheet/pinsheet/WholeNumbers$Reading" "magnitude" "J" (.long mg') ∧ Arv Z h' q kq .char (32 : Int32) (vs.set k (.int p)) (.int 0) ∧ Ds = Ds') := by
  refine ctr_of (Ls := #[.val (.ref a), .val (.int p), .unset]) (plainFor_of_name own_pn3) (fun m => by first | (simp [entryFrame, mkF, argsToLocals, Value.category]; done) | rfl) ?_
  intro C hl hret hnm R
  subst hl
  replace R := R.aloadN (pc' := 1) (v := (.ref a)) own_d4_0 rfl rfl rfl
  replace R := R.getF (pc' := 4) (host := "") (Or.inl (own_w20 hw)) Via.refl F_quotedLength own_d4_1 rfl
  by_cases hc1 : n = (0 : Int32)
  · replace R := R.ifN (pc' := 7) own_d4_4 (teq hc1).2 rfl
    replace R := R.aloadN (pc' := 8) (v := (.ref a)) own_d4_7 rfl rfl rfl
    replace R := R.getF (pc' := 11) (host := "") (Or.inl (own_w22 hw)) Via.refl F_cut own_d4_8 rfl
    replace R := R.ifN (pc' := 14) own_d4_11 (teq (by decide : (0 : Int32) = (0 : Int32))).2 rfl
    replace R := R.iconst (pc' := 15) (z := (1 : Int32)) own_d4_14 rfl rfl
    replace R := R.goto (pc' := 19) own_d4_15 (by decide) rfl
    replace R := R.istoreN (pc' := 20) (l' := #[.val (.ref a), .val (.int p), .val (.int (1 : Int32))]) own_d4_19 rfl rfl
    replace R := R.aloadN (pc' := 21) (v := (.ref a)) own_d4_20 rfl rfl rfl
    replace R := R.getF (pc' := 24) (host := "") (Or.inl (own_w20 hw)) Via.refl F_quotedLength own_d4_21 rfl
    replace R := R.aloadN (pc' := 25) (v := (.ref a)) own_d4_24 rfl rfl rfl
    replace R := R.getF (pc' := 28) (host := "") (Or.inl (own_w11 hw)) Via.refl F_quoted own_d4_25 rfl
    replace R := R.arraylength (pc' := 29) V_q own_d4_28 rfl
    replace R := R.icmpN (pc' := 32) own_d4_29 (tlt (by rw [hn]; exact (own_j (n := 32) (by decide) hk).2)).2.1 rfl
    replace R := R.aloadN (pc' := 33) (v := (.ref a)) own_d4_32 rfl rfl rfl
    replace R := R.getF (pc' := 36) (host := "") (Or.inl (own_w11 hw)) Via.refl F_quoted own_d4_33 rfl
    replace R := R.aloadN (pc' := 37) (v := (.ref a)) own_d4_36 rfl rfl rfl
    replace R := R.dup (pc' := 38) own_d4_37 rfl rfl
    replace R := R.getF (pc' := 41) (host := "") (Or.inl (own_w20 hw)) Via.refl F_quotedLength own_d4_38 rfl
    replace R := R.dupX1 (pc' := 42) own_d4_41 rfl rfl rfl
    replace R := R.iconst (pc' := 43) (z := (1 : Int32)) own_d4_42 rfl rfl
    replace R := R.iadd (pc' := 44) own_d4_43 rfl
    obtain ⟨h2, W2, R⟩ := R.putF (pc' := 47) (ty := .int) (host := "") (Or.inl (own_w20 hw)) Via.refl F_quotedLength E_a (Or.inl (own_w21 hw)) (own_w3 hw) (by decide) rfl rfl ha own_d4_44 rfl
    have F2 := F_quotedLength.same W2
    have F3 := F_quoted.other W2 (Or.inr (slot_ne (Or.inr (own_w12 hw)) (Or.inl (own_w21 hw)) (by decide) (t := (.array .char)) (t' := .int) (by decide) (by decide)))
    have F4 := F_cut.other W2 (Or.inr (slot_ne (Or.inl (own_w23 hw)) (Or.inl (own_w21 hw)) (by decide) (t := .boolean) (t' := .int) (by decide) (by decide)))
    have F5 := F_negative.other W2 (Or.inr (slot_ne (Or.inl (own_w25 hw)) (Or.inl (own_w21 hw)) (by decide) (t := .boolean) (t' := .int) (by decide) (by decide)))
    have F6 := F_digits.other W2 (Or.inr (slot_ne (Or.inl (own_w27 hw)) (Or.inl (own_w21 hw)) (by decide) (t := .boolean) (t' := .int) (by decide) (by decide)))
    have F7 := F_wellFormed.other W2 (Or.inr (slot_ne (Or.inl (own_w14 hw)) (Or.inl (own_w21 hw)) (by decide) (t := .boolean) (t' := .int) (by decide) (by decide)))
    have F8 := F_magnitude.other W2 (Or.inr (slot_ne (Or.inl (own_w29 hw)) (Or.inl (own_w21 hw)) (by decide) (t := .long) (t' := .int) (by decide) (by decide)))
    replace R := R.iloadN (pc' := 48) (v := p) own_d4_47 rfl rfl
    have K9 := ((Keep.refl h [a]).trans (Keep.of_wr W2) (allS (Or.inl (List.mem_of_getElem? (i := 0) rfl)) all0))
    have F10 := V_q.keep K9 (ninS (Ne.symm naq) nin0)
    obtain ⟨h11, K11, V11, R⟩ := R.castore (pc' := 49) F10 (by rw [hn]; exact own_j (n := 32) (by decide) hk) k (by rw [hn]; exact own_clamp (by omega)) (by rw [hvs]; exact hk) hq own_d4_48 rfl
    rw [hp] at V11
    replace R := R.goto (pc' := 57) own_d4_49 (by decide) rfl
    replace R := R.iloadN (pc' := 58) (v := p) own_d4_57 rfl rfl
    replace R := R.bipush (pc' := 60) (z := (48 : Int32)) own_d4_58 rfl rfl
    by_cases hc12 : p < (48 : Int32)
    · replace R := R.icmpY (pc' := 106) own_d4_60 (tlt hc12).1 (by decide) rfl
      replace R := R.iloadN (pc' := 107) (v := p) own_d4_106 rfl rfl
      replace R := R.bipush (pc' := 109) (z := (45 : Int32)) own_d4_107 rfl rfl
      by_cases hc13 : p = (45 : Int32)
      · replace R := R.icmpN (pc' := 112) own_d4_109 (teq hc13).2 rfl
        replace R := R.iloadN (pc' := 113) (v := (1 : Int32)) own_d4_112 rfl rfl
        replace R := R.ifN (pc' := 116) own_d4_113 (feq (by decide : ¬ ((1 : Int32) = (0 : Int32)))).1 rfl
        replace R := R.aloadN (pc' := 117) (v := (.ref a)) own_d4_116 rfl rfl rfl
        replace R := R.iconst (pc' := 118) (z := (1 : Int32)) own_d4_117 rfl rfl
        have K14 := (((Keep.refl h [a, q]).trans (Keep.of_wr W2) (allS (Or.inl (List.mem_of_getElem? (i := 0) rfl)) all0)).trans K11 (allS (Or.inl (List.mem_of_getElem? (i := 1) rfl)) all0))
        have F15 := E_a.keep K14
        have K16 := ((Keep.refl h2 [q]).trans K11 (allS (Or.inl (List.mem_of_getElem? (i := 0) rfl)) all0))
        have F17 := F5.keep K16 (ninS naq nin0)
        have K18 := ((Keep.refl h2 [q]).trans K11 (allS (Or.inl (List.mem_of_getElem? (i := 0) rfl)) all0))
        have F19 := F3.keep K18 (ninS naq nin0)
        have K20 := ((Keep.refl h2 [q]).trans K11 (allS (Or.inl (List.mem_of_getElem? (i := 0) rfl)) all0))
        have F21 := F2.keep K20 (ninS naq nin0)
        have K22 := ((Keep.refl h2 [q]).trans K11 (allS (Or.inl (List.mem_of_getElem? (i := 0) rfl)) all0))
        have F23 := F4.keep K22 (ninS naq nin0)
        have K24 := ((Keep.refl h2 [q]).trans K11 (allS (Or.inl (List.mem_of_getElem? (i := 0) rfl)) all0))
        have F25 := F6.keep K24 (ninS naq nin0)
        have K26 := ((Keep.refl h2 [q]).trans K11 (allS (Or.inl (List.mem_of_getElem? (i := 0) rfl)) all0))
        have F27 := F7.keep K26 (ninS naq nin0)
        have K28 := ((Keep.refl h2 [q]).trans K11 (allS (Or.inl (List.mem_of_getElem? (i := 0) rfl)) all0))
        have F29 := F8.keep K28 (ninS naq nin0)
        obtain ⟨h30, W30, R⟩ := R.putFN (pc' := 121) (ty := .boolean) (v' := (.int (1 : Int32))) (own_w24 hw) Via.refl F17 F15 (Or.inl (own_w25 hw)) (own_w3 hw) (by decide) (rfl) (rfl) ha own_d4_118 rfl
        have F30 := F17.same W30
        have F31 := F19.other W30 (Or.inr (slot_ne (Or.inr (own_w12 hw)) (Or.inl (own_w25 hw)) (by decide) (t := (.array .char)) (t' := .boolean) (by decide) (by decide)))
        have F32 := F21.other W30 (Or.inr (slot_ne (Or.inl (own_w21 hw)) (Or.inl (own_w25 hw)) (by decide) (t := .int) (t' := .boolean) (by decide) (by decide)))
        have F33 := F23.other W30 (Or.inr (slot_ne (Or.inl (own_w23 hw)) (Or.inl (own_w25 hw)) (by decide) (t := .boolean) (t' := .boolean) (by decide) (by decide)))
        have F34 := F25.other W30 (Or.inr (slot_ne (Or.inl (own_w27 hw)) (Or.inl (own_w25 hw)) (by decide) (t := .boolean) (t' := .boolean) (by decide) (by decide)))
        have F35 := F27.other W30 (Or.inr (slot_ne (Or.inl (own_w14 hw)) (Or.inl (own_w25 hw)) (by decide) (t := .boolean) (t' := .boolean) (by decide) (by decide)))
        have F36 := F29.other W30 (Or.inr (slot_ne (Or.inl (own_w29 hw)) (Or.inl (own_w25 hw)) (by decide) (t := .long) (t' := .boolean) (by decide) (by decide)))
        replace R := R.goto (pc' := 129) own_d4_121 (by decide) rfl
        have hK := ((((Keep.refl h [a, q]).trans (Keep.of_wr W2) (allS (Or.inl (List.mem_of_getElem? (i := 0) rfl)) all0)).trans K11 (allS (Or.inl (List.mem_of_getElem? (i := 1) rfl)) all0)).trans (Keep.of_wr W30) (allS (Or.inl (List.mem_of_getElem? (i := 0) rfl)) all0))
        have hv_negative : (1 : Int32) = s_ng n p ng dg wf mg := by unfold s_ng; rw [if_pos hc1, if_pos hc12, if_pos hc13]
        have G_negative := F30
        rw [hv_negative] at G_negative
        have hv_digits : dg = s_dg n p ng dg wf mg := by unfold s_dg; rw [if_pos hc1, if_pos hc12, if_pos hc13]
        have G_digits := F34
        rw [hv_digits] at G_digits
        have hv_wellFormed : wf = s_wf n p ng dg wf mg := by unfold s_wf; rw [if_pos hc1, if_pos hc12, if_pos hc13]
        have G_wellFormed := F35
        rw [hv_wellFormed] at G_wellFormed
        have hv_magnitude : mg = s_mg n p ng dg wf mg := by unfold s_mg; rw [if_pos hc1, if_pos hc12, if_pos hc13]
        have G_magnitude := F36
        rw [hv_magnitude] at G_magnitude
        have K37 := ((Keep.refl h11 [a]).trans (Keep.of_wr W30) (allS (Or.inl (List.mem_of_getElem? (i := 0) rfl)) all0))
        have F38 := F15.keep K37
        have K39 := ((Keep.refl h11 [a]).trans (Keep.of_wr W30) (allS (Or.inl (List.mem_of_getElem? (i := 0) rfl)) all0))
        have F40 := V11.keep K39 (ninS (Ne.symm naq) nin0)
        exact R.retV (Ds' := Ds) hret own_d4_129 (by decide) (by decide) (fun _ q => q) ⟨_, _, _, _, rfl, rfl, rfl, rfl, rfl, hK, F38, F31, F32, F33, G_negative, G_digits, G_wellFormed, G_magnitude, F40, rfl⟩
      · replace R := R.icmpY (pc' := 124) own_d4_109 (feq hc13).2 (by decide) rfl
        replace R := R.aloadN (pc' := 125) (v := (.ref a)) own_d4_124 rfl rfl rfl
        replace R := R.iconst (pc' := 126) (z := (0 : Int32)) own_d4_125 rfl rfl
        have K41 := (((Keep.refl h [a, q]).trans (Keep.of_wr W2) (allS (Or.inl (List.mem_of_getElem? (i := 0) rfl)) all0)).trans K11 (allS (Or.inl (List.mem_of_getElem? (i := 1) rfl)) all0))
        have F42 := E_a.keep K41
        have K43 := ((Keep.refl h2 [q]).trans K11 (allS (Or.inl (List.mem_of_getElem? (i := 0) rfl)) all0))
        have F44 := F7.keep K43 (ninS naq nin0)
        have K45 := ((Keep.refl h2 [q]).trans K11 (allS (Or.inl (List.mem_of_getElem? (i := 0) rfl)) all0))
        have F46 := F3.keep K45 (ninS naq nin0)
        have K47 := ((Keep.refl h2 [q]).trans K11 (allS (Or.inl (List.mem_of_getElem? (i := 0) rfl)) all0))
        have F48 := F2.keep K47 (ninS naq nin0)
        have K49 := ((Keep.refl h2 [q]).trans K11 (allS (Or.inl (List.mem_of_getElem? (i := 0) rfl)) all0))
        have F50 := F4.keep K49 (ninS naq nin0)
        have K51 := ((Keep.refl h2 [q]).trans K11 (allS (Or.inl (List.mem_of_getElem? (i := 0) rfl)) all0))
        have F52 := F5.keep K51 (ninS naq nin0)
        have K53 := ((Keep.refl h2 [q]).trans K11 (allS (Or.inl (List.mem_of_getElem? (i := 0) rfl)) all0))
        have F54 := F6.keep K53 (ninS naq nin0)
        have K55 := ((Keep.refl h2 [q]).trans K11 (allS (Or.inl (List.mem_of_getElem? (i := 0) rfl)) all0))
        have F56 := F8.keep K55 (ninS naq nin0)
        obtain ⟨h57, W57, R⟩ := R.putFN (pc' := 129) (ty := .boolean) (v' := (.int (0 : Int32))) (own_w13 hw) Via.refl F44 F42 (Or.inl (own_w14 hw)) (own_w3 hw) (by decide) (rfl) (rfl) ha own_d4_126 rfl
        have F57 := F44.same W57
        have F58 := F46.other W57 (Or.inr (slot_ne (Or.inr (own_w12 hw)) (Or.inl (own_w14 hw)) (by decide) (t := (.array .char)) (t' := .boolean) (by decide) (by decide)))
        have F59 := F48.other W57 (Or.inr (slot_ne (Or.inl (own_w21 hw)) (Or.inl (own_w14 hw)) (by decide) (t := .int) (t' := .boolean) (by decide) (by decide)))
        have F60 := F50.other W57 (Or.inr (slot_ne (Or.inl (own_w23 hw)) (Or.inl (own_w14 hw)) (by decide) (t := .boolean) (t' := .boolean) (by decide) (by decide)))
        have F61 := F52.other W57 (Or.inr (slot_ne (Or.inl (own_w25 hw)) (Or.inl (own_w14 hw)) (by decide) (t := .boolean) (t' := .boolean) (by decide) (by decide)))
        have F62 := F54.other W57 (Or.inr (slot_ne (Or.inl (own_w27 hw)) (Or.inl (own_w14 hw)) (by decide) (t := .boolean) (t' := .boolean) (by decide) (by decide)))
        have F63 := F56.other W57 (Or.inr (slot_ne (Or.inl (own_w29 hw)) (Or.inl (own_w14 hw)) (by decide) (t := .long) (t' := .boolean) (by decide) (by decide)))
        have hK := ((((Keep.refl h [a, q]).trans (Keep.of_wr W2) (allS (Or.inl (List.mem_of_getElem? (i := 0) rfl)) all0)).trans K11 (allS (Or.inl (List.mem_of_getElem? (i := 1) rfl)) all0)).trans (Keep.of_wr W57) (allS (Or.inl (List.mem_of_getElem? (i := 0) rfl)) all0))
        have hv_negative : ng = s_ng n p ng dg wf mg := by unfold s_ng; rw [if_pos hc1, if_pos hc12, if_neg hc13]
        have G_negative := F61
        rw [hv_negative] at G_negative
        have hv_digits : dg = s_dg n p ng dg wf mg := by unfold s_dg; rw [if_pos hc1, if_pos hc12, if_neg hc13]
        have G_digits := F62
        rw [hv_digits] at G_digits
        have hv_wellFormed : (0 : Int32) = s_wf n p ng dg wf mg := by unfold s_wf; rw [if_pos hc1, if_pos hc12, if_neg hc13]
        have G_wellFormed := F57
        rw [hv_wellFormed] at G_wellFormed
        have hv_magnitude : mg = s_mg n p ng dg wf mg := by unfold s_mg; rw [if_pos hc1, if_pos hc12, if_neg hc13]
        have G_magnitude := F63
        rw [hv_magnitude] at G_magnitude
        have K64 := ((Keep.refl h11 [a]).trans (Keep.of_wr W57) (allS (Or.inl (List.mem_of_getElem? (i := 0) rfl)) all0))
        have F65 := F42.keep K64
        have K66 := ((Keep.refl h11 [a]).trans (Keep.of_wr W57) (allS (Or.inl (List.mem_of_getElem? (i := 0) rfl)) all0))
        have F67 := V11.keep K66 (ninS (Ne.symm naq) nin0)
        exact R.retV (Ds' := Ds) hret own_d4_129 (by decide) (by decide) (fun _ q => q) ⟨_, _, _, _, rfl, rfl, rfl, rfl, rfl, hK, F65, F58, F59, F60, G_negative, G_digits, G_wellFormed, G_magnitude, F67, rfl⟩
    · replace R := R.icmpN (pc' := 63) own_d4_60 (flt hc12).1 rfl
      replace R := R.iloadN (pc' := 64) (v := p) own_d4_63 rfl rfl
      replace R := R.bipush (pc' := 66) (z := (57 : Int32)) own_d4_64 rfl rfl
      by_cases hc68 : (57 : Int32) < p
      · replace R := R.icmpY (pc' := 106) own_d4_66 (tlt hc68).2.2.1 (by decide) rfl
        replace R := R.iloadN (pc' := 107) (v := p) own_d4_106 rfl rfl
        replace R := R.bipush (pc' := 109) (z := (45 : Int32)) own_d4_107 rfl rfl
        by_cases hc69 : p = (45 : Int32)
        · replace R := R.icmpN (pc' := 112) own_d4_109 (teq hc69).2 rfl
          replace R := R.iloadN (pc' := 113) (v := (1 : Int32)) own_d4_112 rfl rfl
          replace R := R.ifN (pc' := 116) own_d4_113 (feq (by decide : ¬ ((1 : Int32) = (0 : Int32)))).1 rfl
          replace R := R.aloadN (pc' := 117) (v := (.ref a)) own_d4_116 rfl rfl rfl
          replace R := R.iconst (pc' := 118) (z := (1 : Int32)) own_d4_117 rfl rfl
          have K70 := (((Keep.refl h [a, q]).trans (Keep.of_wr W2) (allS (Or.inl (List.mem_of_getElem? (i := 0) rfl)) all0)).trans K11 (allS (Or.inl (List.mem_of_getElem? (i := 1) rfl)) all0))
          have F71 := E_a.keep K70
          have K72 := ((Keep.refl h2 [q]).trans K11 (allS (Or.inl (List.mem_of_getElem? (i := 0) rfl)) all0))
          have F73 := F5.keep K72 (ninS naq nin0)
          have K74 := ((Keep.refl h2 [q]).trans K11 (allS (Or.inl (List.mem_of_getElem? (i := 0) rfl)) all0))
          have F75 := F3.keep K74 (ninS naq nin0)
          have K76 := ((Keep.refl h2 [q]).trans K11 (allS (Or.inl (List.mem_of_getElem? (i := 0) rfl)) all0))
          have F77 := F2.keep K76 (ninS naq nin0)
          have K78 := ((Keep.refl h2 [q]).trans K11 (allS (Or.inl (List.mem_of_getElem? (i := 0) rfl)) all0))
          have F79 := F4.keep K78 (ninS naq nin0)
          have K80 := ((Keep.refl h2 [q]).trans K11 (allS (Or.inl (List.mem_of_getElem? (i := 0) rfl)) all0))
          have F81 := F6.keep K80 (ninS naq nin0)
          have K82 := ((Keep.refl h2 [q]).trans K11 (allS (Or.inl (List.mem_of_getElem? (i := 0) rfl)) all0))
          have F83 := F7.keep K82 (ninS naq nin0)
          have K84 := ((Keep.refl h2 [q]).trans K11 (allS (Or.inl (List.mem_of_getElem? (i := 0) rfl)) all0))
          have F85 := F8.keep K84 (ninS naq nin0)
          obtain ⟨h86, W86, R⟩ := R.putFN (pc' := 121) (ty := .boolean) (v' := (.int (1 : Int32))) (own_w24 hw) Via.refl F73 F71 (Or.inl (own_w25 hw)) (own_w3 hw) (by decide) (rfl) (rfl) ha own_d4_118 rfl
          have F86 := F73.same W86
          have F87 := F75.other W86 (Or.inr (slot_ne (Or.inr (own_w12 hw)) (Or.inl (own_w25 hw)) (by decide) (t := (.array .char)) (t' := .boolean) (by decide) (by decide)))
          have F88 := F77.other W86 (Or.inr (slot_ne (Or.inl (own_w21 hw)) (Or.inl (own_w25 hw)) (by decide) (t := .int) (t' := .boolean) (by decide) (by decide)))
          have F89 := F79.other W86 (Or.inr (slot_ne (Or.inl (own_w23 hw)) (Or.inl (own_w25 hw)) (by decide) (t := .boolean) (t' := .boolean) (by decide) (by decide)))
          have F90 := F81.other W86 (Or.inr (slot_ne (Or.inl (own_w27 hw)) (Or.inl (own_w25 hw)) (by decide) (t := .boolean) (t' := .boolean) (by decide) (by decide)))
          have F91 := F83.other W86 (Or.inr (slot_ne (Or.inl (own_w14 hw)) (Or.inl (own_w25 hw)) (by decide) (t := .boolean) (t' := .boolean) (by decide) (by decide)))
          have F92 := F85.other W86 (Or.inr (slot_ne (Or.inl (own_w29 hw)) (Or.inl (own_w25 hw)) (by decide) (t := .long) (t' := .boolean) (by decide) (by decide)))
          replace R := R.goto (pc' := 129) own_d4_121 (by decide) rfl
          have hK := ((((Keep.refl h [a, q]).trans (Keep.of_wr W2) (allS (Or.inl (List.mem_of_getElem? (i := 0) rfl)) all0)).trans K11 (allS (Or.inl (List.mem_of_getElem? (i := 1) rfl)) all0)).trans (Keep.of_wr W86) (allS (Or.inl (List.mem_of_getElem? (i := 0) rfl)) all0))
          have hv_negative : (1 : Int32) = s_ng n p ng dg wf mg := by unfold s_ng; rw [if_pos hc1, if_neg hc12, if_pos hc68, if_pos hc69]
          have G_negative := F86
          rw [hv_negative] at G_negative
          have hv_digits : dg = s_dg n p ng dg wf mg := by unfold s_dg; rw [if_pos hc1, if_neg hc12, if_pos hc68, if_pos hc69]
          have G_digits := F90
          rw [hv_digits] at G_digits
          have hv_wellFormed : wf = s_wf n p ng dg wf mg := by unfold s_wf; rw [if_pos hc1, if_neg hc12, if_pos hc68, if_pos hc69]
          have G_wellFormed := F91
          rw [hv_wellFormed] at G_wellFormed
          have hv_magnitude : mg = s_mg n p ng dg wf mg := by unfold s_mg; rw [if_pos hc1, if_neg hc12, if_pos hc68, if_pos hc69]
          have G_magnitude := F92
          rw [hv_magnitude] at G_magnitude
          have K93 := ((Keep.refl h11 [a]).trans (Keep.of_wr W86) (allS (Or.inl (List.mem_of_getElem? (i := 0) rfl)) all0))
          have F94 := F71.keep K93
          have K95 := ((Keep.refl h11 [a]).trans (Keep.of_wr W86) (allS (Or.inl (List.mem_of_getElem? (i := 0) rfl)) all0))
          have F96 := V11.keep K95 (ninS (Ne.symm naq) nin0)
          exact R.retV (Ds' := Ds) hret own_d4_129 (by decide) (by decide) (fun _ q => q) ⟨_, _, _, _, rfl, rfl, rfl, rfl, rfl, hK, F94, F87, F88, F89, G_negative, G_digits, G_wellFormed, G_magnitude, F96, rfl⟩
        · replace R := R.icmpY (pc' := 124) own_d4_109 (feq hc69).2 (by decide) rfl
          replace R := R.aloadN (pc' := 125) (v := (.ref a)) own_d4_124 rfl rfl rfl
          replace R := R.iconst (pc' := 126) (z := (0 : Int32)) own_d4_125 rfl rfl
          have K97 := (((Keep.refl h [a, q]).trans (Keep.of_wr W2) (allS (Or.inl (List.mem_of_getElem? (i := 0) rfl)) all0)).trans K11 (allS (Or.inl (List.mem_of_getElem? (i := 1) rfl)) all0))
          have F98 := E_a.keep K97
          have K99 := ((Keep.refl h2 [q]).trans K11 (allS (Or.inl (List.mem_of_getElem? (i := 0) rfl)) all0))
          have F100 := F7.keep K99 (ninS naq nin0)
          have K101 := ((Keep.refl h2 [q]).trans K11 (allS (Or.inl (List.mem_of_getElem? (i := 0) rfl)) all0))
          have F102 := F3.keep K101 (ninS naq nin0)
          have K103 := ((Keep.refl h2 [q]).trans K11 (allS (Or.inl (List.mem_of_getElem? (i := 0) rfl)) all0))
          have F104 := F2.keep K103 (ninS naq nin0)
          have K105 := ((Keep.refl h2 [q]).trans K11 (allS (Or.inl (List.mem_of_getElem? (i := 0) rfl)) all0))
          have F106 := F4.keep K105 (ninS naq nin0)
          have K107 := ((Keep.refl h2 [q]).trans K11 (allS (Or.inl (List.mem_of_getElem? (i := 0) rfl)) all0))
          have F108 := F5.keep K107 (ninS naq nin0)
          have K109 := ((Keep.refl h2 [q]).trans K11 (allS (Or.inl (List.mem_of_getElem? (i := 0) rfl)) all0))
          have F110 := F6.keep K109 (ninS naq nin0)
          have K111 := ((Keep.refl h2 [q]).trans K11 (allS (Or.inl (List.mem_of_getElem? (i := 0) rfl)) all0))
          have F112 := F8.keep K111 (ninS naq nin0)
          obtain ⟨h113, W113, R⟩ := R.putFN (pc' := 129) (ty := .boolean) (v' := (.int (0 : Int32))) (own_w13 hw) Via.refl F100 F98 (Or.inl (own_w14 hw)) (own_w3 hw) (by decide) (rfl) (rfl) ha own_d4_126 rfl
          have F113 := F100.same W113
          have F114 := F102.other W113 (Or.inr (slot_ne (Or.inr (own_w12 hw)) (Or.inl (own_w14 hw)) (by decide) (t := (.array .char)) (t' := .boolean) (by decide) (by decide)))
          have F115 := F104.other W113 (Or.inr (slot_ne (Or.inl (own_w21 hw)) (Or.inl (own_w14 hw)) (by decide) (t := .int) (t' := .boolean) (by decide) (by decide)))
          have F116 := F106.other W113 (Or.inr (slot_ne (Or.inl (own_w23 hw)) (Or.inl (own_w14 hw)) (by decide) (t := .boolean) (t' := .boolean) (by decide) (by decide)))
          have F117 := F108.other W113 (Or.inr (slot_ne (Or.inl (own_w25 hw)) (Or.inl (own_w14 hw)) (by decide) (t := .boolean) (t' := .boolean) (by decide) (by decide)))
          have F118 := F110.other W113 (Or.inr (slot_ne (Or.inl (own_w27 hw)) (Or.inl (own_w14 hw)) (by decide) (t := .boolean) (t' := .boolean) (by decide) (by decide)))
          have F119 := F112.other W113 (Or.inr (slot_ne (Or.inl (own_w29 hw)) (Or.inl (own_w14 hw)) (by decide) (t := .long) (t' := .boolean) (by decide) (by decide)))
          have hK := ((((Keep.refl h [a, q]).trans (Keep.of_wr W2) (allS (Or.inl (List.mem_of_getElem? (i := 0) rfl)) all0)).trans K11 (allS (Or.inl (List.mem_of_getElem? (i := 1) rfl)) all0)).trans (Keep.of_wr W113) (allS (Or.inl (List.mem_of_getElem? (i := 0) rfl)) all0))
          have hv_negative : ng = s_ng n p ng dg wf mg := by unfold s_ng; rw [if_pos hc1, if_neg hc12, if_pos hc68, if_neg hc69]
          have G_negative := F117
          rw [hv_negative] at G_negative
          have hv_digits : dg = s_dg n p ng dg wf mg := by unfold s_dg; rw [if_pos hc1, if_neg hc12, if_pos hc68, if_neg hc69]
          have G_digits := F118
          rw [hv_digits] at G_digits
          have hv_wellFormed : (0 : Int32) = s_wf n p ng dg wf mg := by unfold s_wf; rw [if_pos hc1, if_neg hc12, if_pos hc68, if_neg hc69]
          have G_wellFormed := F113
          rw [hv_wellFormed] at G_wellFormed
          have hv_magnitude : mg = s_mg n p ng dg wf mg := by unfold s_mg; rw [if_pos hc1, if_neg hc12, if_pos hc68, if_neg hc69]
          have G_magnitude := F119
          rw [hv_magnitude] at G_magnitude
          have K120 := ((Keep.refl h11 [a]).trans (Keep.of_wr W113) (allS (Or.inl (List.mem_of_getElem? (i := 0) rfl)) all0))
          have F121 := F98.keep K120
          have K122 := ((Keep.refl h11 [a]).trans (Keep.of_wr W113) (allS (Or.inl (List.mem_of_getElem? (i := 0) rfl)) all0))
          have F123 := V11.keep K122 (ninS (Ne.symm naq) nin0)
          exact R.retV (Ds' := Ds) hret own_d4_129 (by decide) (by decide) (fun _ q => q) ⟨_, _, _, _, rfl, rfl, rfl, rfl, rfl, hK, F121, F114, F115, F116, G_negative, G_digits, G_wellFormed, G_magnitude, F123, rfl⟩
      · replace R := R.icmpN (pc' := 69) own_d4_66 (flt hc68).2.2.1 rfl
        replace R := R.aloadN (pc' := 70) (v := (.ref a)) own_d4_69 rfl rfl rfl
        replace R := R.iconst (pc' := 71) (z := (1 : Int32)) own_d4_70 rfl rfl
        have K124 := (((Keep.refl h [a, q]).trans (Keep.of_wr W2) (allS (Or.inl (List.mem_of_getElem? (i := 0) rfl)) all0)).trans K11 (allS (Or.inl (List.mem_of_getElem? (i := 1) rfl)) all0))
        have F125 := E_a.keep K124
        have K126 := ((Keep.refl h2 [q]).trans K11 (allS (Or.inl (List.mem_of_getElem? (i := 0) rfl)) all0))
        have F127 := F6.keep K126 (ninS naq nin0)
        have K128 := ((Keep.refl h2 [q]).trans K11 (allS (Or.inl (List.mem_of_getElem? (i := 0) rfl)) all0))
        have F129 := F3.keep K128 (ninS naq nin0)
        have K130 := ((Keep.refl h2 [q]).trans K11 (allS (Or.inl (List.mem_of_getElem? (i := 0) rfl)) all0))
        have F131 := F2.keep K130 (ninS naq nin0)
        have K132 := ((Keep.refl h2 [q]).trans K11 (allS (Or.inl (List.mem_of_getElem? (i := 0) rfl)) all0))
        have F133 := F4.keep K132 (ninS naq nin0)
        have K134 := ((Keep.refl h2 [q]).trans K11 (allS (Or.inl (List.mem_of_getElem? (i := 0) rfl)) all0))
        have F135 := F5.keep K134 (ninS naq nin0)
        have K136 := ((Keep.refl h2 [q]).trans K11 (allS (Or.inl (List.mem_of_getElem? (i := 0) rfl)) all0))
        have F137 := F7.keep K136 (ninS naq nin0)
        have K138 := ((Keep.refl h2 [q]).trans K11 (allS (Or.inl (List.mem_of_getElem? (i := 0) rfl)) all0))
        have F139 := F8.keep K138 (ninS naq nin0)
        obtain ⟨h140, W140, R⟩ := R.putFN (pc' := 74) (ty := .boolean) (v' := (.int (1 : Int32))) (own_w26 hw) Via.refl F127 F125 (Or.inl (own_w27 hw)) (own_w3 hw) (by decide) (rfl) (rfl) ha own_d4_71 rfl
        have F140 := F127.same W140
        have F141 := F129.other W140 (Or.inr (slot_ne (Or.inr (own_w12 hw)) (Or.inl (own_w27 hw)) (by decide) (t := (.array .char)) (t' := .boolean) (by decide) (by decide)))
        have F142 := F131.other W140 (Or.inr (slot_ne (Or.inl (own_w21 hw)) (Or.inl (own_w27 hw)) (by decide) (t := .int) (t' := .boolean) (by decide) (by decide)))
        have F143 := F133.other W140 (Or.inr (slot_ne (Or.inl (own_w23 hw)) (Or.inl (own_w27 hw)) (by decide) (t := .boolean) (t' := .boolean) (by decide) (by decide)))
        have F144 := F135.other W140 (Or.inr (slot_ne (Or.inl (own_w25 hw)) (Or.inl (own_w27 hw)) (by decide) (t := .boolean) (t' := .boolean) (by decide) (by decide)))
        have F145 := F137.other W140 (Or.inr (slot_ne (Or.inl (own_w14 hw)) (Or.inl (own_w27 hw)) (by decide) (t := .boolean) (t' := .boolean) (by decide) (by decide)))
        have F146 := F139.other W140 (Or.inr (slot_ne (Or.inl (own_w29 hw)) (Or.inl (own_w27 hw)) (by decide) (t := .long) (t' := .boolean) (by decide) (by decide)))
        replace R := R.aloadN (pc' := 75) (v := (.ref a)) own_d4_74 rfl rfl rfl
        replace R := R.getF (pc' := 78) (host := "") (Or.inl (own_w28 hw)) Via.refl F146 own_d4_75 rfl
        replace R := R.ldc2L (pc' := 81) (own_w35 hw) own_d4_78 rfl
        replace R := R.lcmp (pc' := 82) own_d4_81 rfl
        by_cases hc147 : (0 : Int32) < (lcmpW mg (2147483648 : Int64))
        · replace R := R.ifY (pc' := 129) own_d4_82 (tlt hc147).2.2.1 (by decide) rfl
          have hK := ((((Keep.refl h [a, q]).trans (Keep.of_wr W2) (allS (Or.inl (List.mem_of_getElem? (i := 0) rfl)) all0)).trans K11 (allS (Or.inl (List.mem_of_getElem? (i := 1) rfl)) all0)).trans (Keep.of_wr W140) (allS (Or.inl (List.mem_of_getElem? (i := 0) rfl)) all0))
          have hv_negative : ng = s_ng n p ng dg wf mg := by unfold s_ng; rw [if_pos hc1, if_neg hc12, if_neg hc68, if_pos hc147]
          have G_negative := F144
          rw [hv_negative] at G_negative
          have hv_digits : (1 : Int32) = s_dg n p ng dg wf mg := by unfold s_dg; rw [if_pos hc1, if_neg hc12, if_neg hc68, if_pos hc147]
          have G_digits := F140
          rw [hv_digits] at G_digits
          have hv_wellFormed : wf = s_wf n p ng dg wf mg := by unfold s_wf; rw [if_pos hc1, if_neg hc12, if_neg hc68, if_pos hc147]
          have G_wellFormed := F145
          rw [hv_wellFormed] at G_wellFormed
          have hv_magnitude : mg = s_mg n p ng dg wf mg := by unfold s_mg; rw [if_pos hc1, if_neg hc12, if_neg hc68, if_pos hc147]
          have G_magnitude := F146
          rw [hv_magnitude] at G_magnitude
          have K148 := ((Keep.refl h11 [a]).trans (Keep.of_wr W140) (allS (Or.inl (List.mem_of_getElem? (i := 0) rfl)) all0))
          have F149 := F125.keep K148
          have K150 := ((Keep.refl h11 [a]).trans (Keep.of_wr W140) (allS (Or.inl (List.mem_of_getElem? (i := 0) rfl)) all0))
          have F151 := V11.keep K150 (ninS (Ne.symm naq) nin0)
          exact R.retV (Ds' := Ds) hret own_d4_129 (by decide) (by decide) (fun _ q => q) ⟨_, _, _, _, rfl, rfl, rfl, rfl, rfl, hK, F149, F141, F142, F143, G_negative, G_digits, G_wellFormed, G_magnitude, F151, rfl⟩
        · replace R := R.ifN (pc' := 85) own_d4_82 (flt hc147).2.2.1 rfl
          replace R := R.aloadN (pc' := 86) (v := (.ref a)) own_d4_85 rfl rfl rfl
          replace R := R.aloadN (pc' := 87) (v := (.ref a)) own_d4_86 rfl rfl rfl
          replace R := R.getF (pc' := 90) (host := "") (Or.inl (own_w28 hw)) Via.refl F146 own_d4_87 rfl
          replace R := R.ldc2L (pc' := 93) (own_w36 hw) own_d4_90 rfl
          replace R := R.lmul (pc' := 94) own_d4_93 rfl
          replace R := R.iloadN (pc' := 95) (v := p) own_d4_94 rfl rfl
          replace R := R.bipush (pc' := 97) (z := (48 : Int32)) own_d4_95 rfl rfl
          replace R := R.isub (pc' := 98) own_d4_97 rfl
          replace R := R.i2l (pc' := 99) own_d4_98 rfl
          replace R := R.ladd (pc' := 100) own_d4_99 rfl
          have K152 := ((Keep.refl h11 [a]).trans (Keep.of_wr W140) (allS (Or.inl (List.mem_of_getElem? (i := 0) rfl)) all0))
          have F153 := F125.keep K152
          obtain ⟨h154, W154, R⟩ := R.putF (pc' := 103) (ty := .long) (host := "") (Or.inl (own_w28 hw)) Via.refl F146 F153 (Or.inl (own_w29 hw)) (own_w3 hw) (by decide) rfl rfl ha own_d4_100 rfl
          have F154 := F146.same W154
          have F155 := F141.other W154 (Or.inr (slot_ne (Or.inr (own_w12 hw)) (Or.inl (own_w29 hw)) (by decide) (t := (.array .char)) (t' := .long) (by decide) (by decide)))
          have F156 := F142.other W154 (Or.inr (slot_ne (Or.inl (own_w21 hw)) (Or.inl (own_w29 hw)) (by decide) (t := .int) (t' := .long) (by decide) (by decide)))
          have F157 := F143.other W154 (Or.inr (slot_ne (Or.inl (own_w23 hw)) (Or.inl (own_w29 hw)) (by decide) (t := .boolean) (t' := .long) (by decide) (by decide)))
          have F158 := F144.other W154 (Or.inr (slot_ne (Or.inl (own_w25 hw)) (Or.inl (own_w29 hw)) (by decide) (t := .boolean) (t' := .long) (by decide) (by decide)))
          have F159 := F140.other W154 (Or.inr (slot_ne (Or.inl (own_w27 hw)) (Or.inl (own_w29 hw)) (by decide) (t := .boolean) (t' := .long) (by decide) (by decide)))
          have F160 := F145.other W154 (Or.inr (slot_ne (Or.inl (own_w14 hw)) (Or.inl (own_w29 hw)) (by decide) (t := .boolean) (t' := .long) (by decide) (by decide)))
          replace R := R.goto (pc' := 129) own_d4_103 (by decide) rfl
          have hK := (((((Keep.refl h [a, q]).trans (Keep.of_wr W2) (allS (Or.inl (List.mem_of_getElem? (i := 0) rfl)) all0)).trans K11 (allS (Or.inl (List.mem_of_getElem? (i := 1) rfl)) all0)).trans (Keep.of_wr W140) (allS (Or.inl (List.mem_of_getElem? (i := 0) rfl)) all0)).trans (Keep.of_wr W154) (allS (Or.inl (List.mem_of_getElem? (i := 0) rfl)) all0))
          have hv_negative : ng = s_ng n p ng dg wf mg := by unfold s_ng; rw [if_pos hc1, if_neg hc12, if_neg hc68, if_neg hc147]
          have G_negative := F158
          rw [hv_negative] at G_negative
          have hv_digits : (1 : Int32) = s_dg n p ng dg wf mg := by unfold s_dg; rw [if_pos hc1, if_neg hc12, if_neg hc68, if_neg hc147]
          have G_digits := F159
          rw [hv_digits] at G_digits
          have hv_wellFormed : wf = s_wf n p ng dg wf mg := by unfold s_wf; rw [if_pos hc1, if_neg hc12, if_neg hc68, if_neg hc147]
          have G_wellFormed := F160
          rw [hv_wellFormed] at G_wellFormed
          have hv_magnitude : ((mg * (10 : Int64)) + (p - (48 : Int32)).toInt64) = s_mg n p ng dg wf mg := by unfold s_mg; rw [if_pos hc1, if_neg hc12, if_neg hc68, if_neg hc147]
          have G_magnitude := F154
          rw [hv_magnitude] at G_magnitude
          have K161 := ((Keep.refl h140 [a]).trans (Keep.of_wr W154) (allS (Or.inl (List.mem_of_getElem? (i := 0) rfl)) all0))
          have F162 := F153.keep K161
          have K163 := (((Keep.refl h11 [a]).trans (Keep.of_wr W140) (allS (Or.inl (List.mem_of_getElem? (i := 0) rfl)) all0)).trans (Keep.of_wr W154) (allS (Or.inl (List.mem_of_getElem? (i := 0) rfl)) all0))
          have F164 := V11.keep K163 (ninS (Ne.symm naq) nin0)
          exact R.retV (Ds' := Ds) hret own_d4_129 (by decide) (by decide) (fun _ q => q) ⟨_, _, _, _, rfl, rfl, rfl, rfl, rfl, hK, F162, F155, F156, F157, G_negative, G_digits, G_wellFormed, G_magnitude, F164, rfl⟩
  · replace R := R.ifY (pc' := 18) own_d4_4 (feq hc1).2 (by decide) rfl
    replace R := R.iconst (pc' := 19) (z := (0 : Int32)) own_d4_18 rfl rfl
    replace R := R.istoreN (pc' := 20) (l' := #[.val (.ref a), .val (.int p), .val (.int (0 : Int32))]) own_d4_19 rfl rfl
    replace R := R.aloadN (pc' := 21) (v := (.ref a)) own_d4_20 rfl rfl rfl
    replace R := R.getF (pc' := 24) (host := "") (Or.inl (own_w20 hw)) Via.refl F_quotedLength own_d4_21 rfl
    replace R := R.aloadN (pc' := 25) (v := (.ref a)) own_d4_24 rfl rfl rfl
    replace R := R.getF (pc' := 28) (host := "") (Or.inl (own_w11 hw)) Via.refl F_quoted own_d4_25 rfl
    replace R := R.arraylength (pc' := 29) V_q own_d4_28 rfl
    replace R := R.icmpN (pc' := 32) own_d4_29 (tlt (by rw [hn]; exact (own_j (n := 32) (by decide) hk).2)).2.1 rfl
    replace R := R.aloadN (pc' := 33) (v := (.ref a)) own_d4_32 rfl rfl rfl
    replace R := R.getF (pc' := 36) (host := "") (Or.inl (own_w11 hw)) Via.refl F_quoted own_d4_33 rfl
    replace R := R.aloadN (pc' := 37) (v := (.ref a)) own_d4_36 rfl rfl rfl
    replace R := R.dup (pc' := 38) own_d4_37 rfl rfl
    replace R := R.getF (pc' := 41) (host := "") (Or.inl (own_w20 hw)) Via.refl F_quotedLength own_d4_38 rfl
    replace R := R.dupX1 (pc' := 42) own_d4_41 rfl rfl rfl
    replace R := R.iconst (pc' := 43) (z := (1 : Int32)) own_d4_42 rfl rfl
    replace R := R.iadd (pc' := 44) own_d4_43 rfl
    obtain ⟨h165, W165, R⟩ := R.putF (pc' := 47) (ty := .int) (host := "") (Or.inl (own_w20 hw)) Via.refl F_quotedLength E_a (Or.inl (own_w21 hw)) (own_w3 hw) (by decide) rfl rfl ha own_d4_44 rfl
    have F165 := F_quotedLength.same W165
    have F166 := F_quoted.other W165 (Or.inr (slot_ne (Or.inr (own_w12 hw)) (Or.inl (own_w21 hw)) (by decide) (t := (.array .char)) (t' := .int) (by decide) (by decide)))
    have F167 := F_cut.other W165 (Or.inr (slot_ne (Or.inl (own_w23 hw)) (Or.inl (own_w21 hw)) (by decide) (t := .boolean) (t' := .int) (by decide) (by decide)))
    have F168 := F_negative.other W165 (Or.inr (slot_ne (Or.inl (own_w25 hw)) (Or.inl (own_w21 hw)) (by decide) (t := .boolean) (t' := .int) (by decide) (by decide)))
    have F169 := F_digits.other W165 (Or.inr (slot_ne (Or.inl (own_w27 hw)) (Or.inl (own_w21 hw)) (by decide) (t := .boolean) (t' := .int) (by decide) (by decide)))
    have F170 := F_wellFormed.other W165 (Or.inr (slot_ne (Or.inl (own_w14 hw)) (Or.inl (own_w21 hw)) (by decide) (t := .boolean) (t' := .int) (by decide) (by decide)))
    have F171 := F_magnitude.other W165 (Or.inr (slot_ne (Or.inl (own_w29 hw)) (Or.inl (own_w21 hw)) (by decide) (t := .long) (t' := .int) (by decide) (by decide)))
    replace R := R.iloadN (pc' := 48) (v := p) own_d4_47 rfl rfl
    have K172 := ((Keep.refl h [a]).trans (Keep.of_wr W165) (allS (Or.inl (List.mem_of_getElem? (i := 0) rfl)) all0))
    have F173 := V_q.keep K172 (ninS (Ne.symm naq) nin0)
    obtain ⟨h174, K174, V174, R⟩ := R.castore (pc' := 49) F173 (by rw [hn]; exact own_j (n := 32) (by decide) hk) k (by rw [hn]; exact own_clamp (by omega)) (by rw [hvs]; exact hk) hq own_d4_48 rfl
    rw [hp] at V174
    replace R := R.goto (pc' := 57) own_d4_49 (by decide) rfl
    replace R := R.iloadN (pc' := 58) (v := p) own_d4_57 rfl rfl
    replace R := R.bipush (pc' := 60) (z := (48 : Int32)) own_d4_58 rfl rfl
    by_cases hc175 : p < (48 : Int32)
    · replace R := R.icmpY (pc' := 106) own_d4_60 (tlt hc175).1 (by decide) rfl
      replace R := R.iloadN (pc' := 107) (v := p) own_d4_106 rfl rfl
      replace R := R.bipush (pc' := 109) (z := (45 : Int32)) own_d4_107 rfl rfl
      by_cases hc176 : p = (45 : Int32)
      · replace R := R.icmpN (pc' := 112) own_d4_109 (teq hc176).2 rfl
        replace R := R.iloadN (pc' := 113) (v := (0 : Int32)) own_d4_112 rfl rfl
        replace R := R.ifY (pc' := 124) own_d4_113 (teq (by decide : (0 : Int32) = (0 : Int32))).1 (by decide) rfl
        replace R := R.aloadN (pc' := 125) (v := (.ref a)) own_d4_124 rfl rfl rfl
        replace R := R.iconst (pc' := 126) (z := (0 : Int32)) own_d4_125 rfl rfl
        have K177 := (((Keep.refl h [a, q]).trans (Keep.of_wr W165) (allS (Or.inl (List.mem_of_getElem? (i := 0) rfl)) all0)).trans K174 (allS (Or.inl (List.mem_of_getElem? (i := 1) rfl)) all0))
        have F178 := E_a.keep K177
        have K179 := ((Keep.refl h165 [q]).trans K174 (allS (Or.inl (List.mem_of_getElem? (i := 0) rfl)) all0))
        have F180 := F170.keep K179 (ninS naq nin0)
        have K181 := ((Keep.refl h165 [q]).trans K174 (allS (Or.inl (List.mem_of_getElem? (i := 0) rfl)) all0))
        have F182 := F166.keep K181 (ninS naq nin0)
        have K183 := ((Keep.refl h165 [q]).trans K174 (allS (Or.inl (List.mem_of_getElem? (i := 0) rfl)) all0))
        have F184 := F165.keep K183 (ninS naq nin0)
        have K185 := ((Keep.refl h165 [q]).trans K174 (allS (Or.inl (List.mem_of_getElem? (i := 0) rfl)) all0))
        have F186 := F167.keep K185 (ninS naq nin0)
        have K187 := ((Keep.refl h165 [q]).trans K174 (allS (Or.inl (List.mem_of_getElem? (i := 0) rfl)) all0))
        have F188 := F168.keep K187 (ninS naq nin0)
        have K189 := ((Keep.refl h165 [q]).trans K174 (allS (Or.inl (List.mem_of_getElem? (i := 0) rfl)) all0))
        have F190 := F169.keep K189 (ninS naq nin0)
        have K191 := ((Keep.refl h165 [q]).trans K174 (allS (Or.inl (List.mem_of_getElem? (i := 0) rfl)) all0))
        have F192 := F171.keep K191 (ninS naq nin0)
        obtain ⟨h193, W193, R⟩ := R.putFN (pc' := 129) (ty := .boolean) (v' := (.int (0 : Int32))) (own_w13 hw) Via.refl F180 F178 (Or.inl (own_w14 hw)) (own_w3 hw) (by decide) (rfl) (rfl) ha own_d4_126 rfl
        have F193 := F180.same W193
        have F194 := F182.other W193 (Or.inr (slot_ne (Or.inr (own_w12 hw)) (Or.inl (own_w14 hw)) (by decide) (t := (.array .char)) (t' := .boolean) (by decide) (by decide)))
        have F195 := F184.other W193 (Or.inr (slot_ne (Or.inl (own_w21 hw)) (Or.inl (own_w14 hw)) (by decide) (t := .int) (t' := .boolean) (by decide) (by decide)))
        have F196 := F186.other W193 (Or.inr (slot_ne (Or.inl (own_w23 hw)) (Or.inl (own_w14 hw)) (by decide) (t := .boolean) (t' := .boolean) (by decide) (by decide)))
        have F197 := F188.other W193 (Or.inr (slot_ne (Or.inl (own_w25 hw)) (Or.inl (own_w14 hw)) (by decide) (t := .boolean) (t' := .boolean) (by decide) (by decide)))
        have F198 := F190.other W193 (Or.inr (slot_ne (Or.inl (own_w27 hw)) (Or.inl (own_w14 hw)) (by decide) (t := .boolean) (t' := .boolean) (by decide) (by decide)))
        have F199 := F192.other W193 (Or.inr (slot_ne (Or.inl (own_w29 hw)) (Or.inl (own_w14 hw)) (by decide) (t := .long) (t' := .boolean) (by decide) (by decide)))
        have hK := ((((Keep.refl h [a, q]).trans (Keep.of_wr W165) (allS (Or.inl (List.mem_of_getElem? (i := 0) rfl)) all0)).trans K174 (allS (Or.inl (List.mem_of_getElem? (i := 1) rfl)) all0)).trans (Keep.of_wr W193) (allS (Or.inl (List.mem_of_getElem? (i := 0) rfl)) all0))
        have hv_negative : ng = s_ng n p ng dg wf mg := by unfold s_ng; rw [if_neg hc1, if_pos hc175, if_pos hc176]
        have G_negative := F197
        rw [hv_negative] at G_negative
        have hv_digits : dg = s_dg n p ng dg wf mg := by unfold s_dg; rw [if_neg hc1, if_pos hc175, if_pos hc176]
        have G_digits := F198
        rw [hv_digits] at G_digits
        have hv_wellFormed : (0 : Int32) = s_wf n p ng dg wf mg := by unfold s_wf; rw [if_neg hc1, if_pos hc175, if_pos hc176]
        have G_wellFormed := F193
        rw [hv_wellFormed] at G_wellFormed
        have hv_magnitude : mg = s_mg n p ng dg wf mg := by unfold s_mg; rw [if_neg hc1, if_pos hc175, if_pos hc176]
        have G_magnitude := F199
        rw [hv_magnitude] at G_magnitude
        have K200 := ((Keep.refl h174 [a]).trans (Keep.of_wr W193) (allS (Or.inl (List.mem_of_getElem? (i := 0) rfl)) all0))
        have F201 := F178.keep K200
        have K202 := ((Keep.refl h174 [a]).trans (Keep.of_wr W193) (allS (Or.inl (List.mem_of_getElem? (i := 0) rfl)) all0))
        have F203 := V174.keep K202 (ninS (Ne.symm naq) nin0)
        exact R.retV (Ds' := Ds) hret own_d4_129 (by decide) (by decide) (fun _ q => q) ⟨_, _, _, _, rfl, rfl, rfl, rfl, rfl, hK, F201, F194, F195, F196, G_negative, G_digits, G_wellFormed, G_magnitude, F203, rfl⟩
      · replace R := R.icmpY (pc' := 124) own_d4_109 (feq hc176).2 (by decide) rfl
        replace R := R.aloadN (pc' := 125) (v := (.ref a)) own_d4_124 rfl rfl rfl
        replace R := R.iconst (pc' := 126) (z := (0 : Int32)) own_d4_125 rfl rfl
        have K204 := (((Keep.refl h [a, q]).trans (Keep.of_wr W165) (allS (Or.inl (List.mem_of_getElem? (i := 0) rfl)) all0)).trans K174 (allS (Or.inl (List.mem_of_getElem? (i := 1) rfl)) all0))
        have F205 := E_a.keep K204
        have K206 := ((Keep.refl h165 [q]).trans K174 (allS (Or.inl (List.mem_of_getElem? (i := 0) rfl)) all0))
        have F207 := F170.keep K206 (ninS naq nin0)
        have K208 := ((Keep.refl h165 [q]).trans K174 (allS (Or.inl (List.mem_of_getElem? (i := 0) rfl)) all0))
        have F209 := F166.keep K208 (ninS naq nin0)
        have K210 := ((Keep.refl h165 [q]).trans K174 (allS (Or.inl (List.mem_of_getElem? (i := 0) rfl)) all0))
        have F211 := F165.keep K210 (ninS naq nin0)
        have K212 := ((Keep.refl h165 [q]).trans K174 (allS (Or.inl (List.mem_of_getElem? (i := 0) rfl)) all0))
        have F213 := F167.keep K212 (ninS naq nin0)
        have K214 := ((Keep.refl h165 [q]).trans K174 (allS (Or.inl (List.mem_of_getElem? (i := 0) rfl)) all0))
        have F215 := F168.keep K214 (ninS naq nin0)
        have K216 := ((Keep.refl h165 [q]).trans K174 (allS (Or.inl (List.mem_of_getElem? (i := 0) rfl)) all0))
        have F217 := F169.keep K216 (ninS naq nin0)
        have K218 := ((Keep.refl h165 [q]).trans K174 (allS (Or.inl (List.mem_of_getElem? (i := 0) rfl)) all0))
        have F219 := F171.keep K218 (ninS naq nin0)
        obtain ⟨h220, W220, R⟩ := R.putFN (pc' := 129) (ty := .boolean) (v' := (.int (0 : Int32))) (own_w13 hw) Via.refl F207 F205 (Or.inl (own_w14 hw)) (own_w3 hw) (by decide) (rfl) (rfl) ha own_d4_126 rfl
        have F220 := F207.same W220
        have F221 := F209.other W220 (Or.inr (slot_ne (Or.inr (own_w12 hw)) (Or.inl (own_w14 hw)) (by decide) (t := (.array .char)) (t' := .boolean) (by decide) (by decide)))
        have F222 := F211.other W220 (Or.inr (slot_ne (Or.inl (own_w21 hw)) (Or.inl (own_w14 hw)) (by decide) (t := .int) (t' := .boolean) (by decide) (by decide)))
        have F223 := F213.other W220 (Or.inr (slot_ne (Or.inl (own_w23 hw)) (Or.inl (own_w14 hw)) (by decide) (t := .boolean) (t' := .boolean) (by decide) (by decide)))
        have F224 := F215.other W220 (Or.inr (slot_ne (Or.inl (own_w25 hw)) (Or.inl (own_w14 hw)) (by decide) (t := .boolean) (t' := .boolean) (by decide) (by decide)))
        have F225 := F217.other W220 (Or.inr (slot_ne (Or.inl (own_w27 hw)) (Or.inl (own_w14 hw)) (by decide) (t := .boolean) (t' := .boolean) (by decide) (by decide)))
        have F226 := F219.other W220 (Or.inr (slot_ne (Or.inl (own_w29 hw)) (Or.inl (own_w14 hw)) (by decide) (t := .long) (t' := .boolean) (by decide) (by decide)))
        have hK := ((((Keep.refl h [a, q]).trans (Keep.of_wr W165) (allS (Or.inl (List.mem_of_getElem? (i := 0) rfl)) all0)).trans K174 (allS (Or.inl (List.mem_of_getElem? (i := 1) rfl)) all0)).trans (Keep.of_wr W220) (allS (Or.inl (List.mem_of_getElem? (i := 0) rfl)) all0))
        have hv_negative : ng = s_ng n p ng dg wf mg := by unfold s_ng; rw [if_neg hc1, if_pos hc175, if_neg hc176]
        have G_negative := F224
        rw [hv_negative] at G_negative
        have hv_digits : dg = s_dg n p ng dg wf mg := by unfold s_dg; rw [if_neg hc1, if_pos hc175, if_neg hc176]
        have G_digits := F225
        rw [hv_digits] at G_digits
        have hv_wellFormed : (0 : Int32) = s_wf n p ng dg wf mg := by unfold s_wf; rw [if_neg hc1, if_pos hc175, if_neg hc176]
        have G_wellFormed := F220
        rw [hv_wellFormed] at G_wellFormed
        have hv_magnitude : mg = s_mg n p ng dg wf mg := by unfold s_mg; rw [if_neg hc1, if_pos hc175, if_neg hc176]
        have G_magnitude := F226
        rw [hv_magnitude] at G_magnitude
        have K227 := ((Keep.refl h174 [a]).trans (Keep.of_wr W220) (allS (Or.inl (List.mem_of_getElem? (i := 0) rfl)) all0))
        have F228 := F205.keep K227
        have K229 := ((Keep.refl h174 [a]).trans (Keep.of_wr W220) (allS (Or.inl (List.mem_of_getElem? (i := 0) rfl)) all0))
        have F230 := V174.keep K229 (ninS (Ne.symm naq) nin0)
        exact R.retV (Ds' := Ds) hret own_d4_129 (by decide) (by decide) (fun _ q => q) ⟨_, _, _, _, rfl, rfl, rfl, rfl, rfl, hK, F228, F221, F222, F223, G_negative, G_digits, G_wellFormed, G_magnitude, F230, rfl⟩
    · replace R := R.icmpN (pc' := 63) own_d4_60 (flt hc175).1 rfl
      replace R := R.iloadN (pc' := 64) (v := p) own_d4_63 rfl rfl
      replace R := R.bipush (pc' := 66) (z := (57 : Int32)) own_d4_64 rfl rfl
      by_cases hc231 : (57 : Int32) < p
      · replace R := R.icmpY (pc' := 106) own_d4_66 (tlt hc231).2.2.1 (by decide) rfl
        replace R := R.iloadN (pc' := 107) (v := p) own_d4_106 rfl rfl
        replace R := R.bipush (pc' := 109) (z := (45 : Int32)) own_d4_107 rfl rfl
        by_cases hc232 : p = (45 : Int32)
        · replace R := R.icmpN (pc' := 112) own_d4_109 (teq hc232).2 rfl
          replace R := R.iloadN (pc' := 113) (v := (0 : Int32)) own_d4_112 rfl rfl
          replace R := R.ifY (pc' := 124) own_d4_113 (teq (by decide : (0 : Int32) = (0 : Int32))).1 (by decide) rfl
          replace R := R.aloadN (pc' := 125) (v := (.ref a)) own_d4_124 rfl rfl rfl
          replace R := R.iconst (pc' := 126) (z := (0 : Int32)) own_d4_125 rfl rfl
          have K233 := (((Keep.refl h [a, q]).trans (Keep.of_wr W165) (allS (Or.inl (List.mem_of_getElem? (i := 0) rfl)) all0)).trans K174 (allS (Or.inl (List.mem_of_getElem? (i := 1) rfl)) all0))
          have F234 := E_a.keep K233
          have K235 := ((Keep.refl h165 [q]).trans K174 (allS (Or.inl (List.mem_of_getElem? (i := 0) rfl)) all0))
          have F236 := F170.keep K235 (ninS naq nin0)
          have K237 := ((Keep.refl h165 [q]).trans K174 (allS (Or.inl (List.mem_of_getElem? (i := 0) rfl)) all0))
          have F238 := F166.keep K237 (ninS naq nin0)
          have K239 := ((Keep.refl h165 [q]).trans K174 (allS (Or.inl (List.mem_of_getElem? (i := 0) rfl)) all0))
          have F240 := F165.keep K239 (ninS naq nin0)
          have K241 := ((Keep.refl h165 [q]).trans K174 (allS (Or.inl (List.mem_of_getElem? (i := 0) rfl)) all0))
          have F242 := F167.keep K241 (ninS naq nin0)
          have K243 := ((Keep.refl h165 [q]).trans K174 (allS (Or.inl (List.mem_of_getElem? (i := 0) rfl)) all0))
          have F244 := F168.keep K243 (ninS naq nin0)
          have K245 := ((Keep.refl h165 [q]).trans K174 (allS (Or.inl (List.mem_of_getElem? (i := 0) rfl)) all0))
          have F246 := F169.keep K245 (ninS naq nin0)
          have K247 := ((Keep.refl h165 [q]).trans K174 (allS (Or.inl (List.mem_of_getElem? (i := 0) rfl)) all0))
          have F248 := F171.keep K247 (ninS naq nin0)
          obtain ⟨h249, W249, R⟩ := R.putFN (pc' := 129) (ty := .boolean) (v' := (.int (0 : Int32))) (own_w13 hw) Via.refl F236 F234 (Or.inl (own_w14 hw)) (own_w3 hw) (by decide) (rfl) (rfl) ha own_d4_126 rfl
          have F249 := F236.same W249
          have F250 := F238.other W249 (Or.inr (slot_ne (Or.inr (own_w12 hw)) (Or.inl (own_w14 hw)) (by decide) (t := (.array .char)) (t' := .boolean) (by decide) (by decide)))
          have F251 := F240.other W249 (Or.inr (slot_ne (Or.inl (own_w21 hw)) (Or.inl (own_w14 hw)) (by decide) (t := .int) (t' := .boolean) (by decide) (by decide)))
          have F252 := F242.other W249 (Or.inr (slot_ne (Or.inl (own_w23 hw)) (Or.inl (own_w14 hw)) (by decide) (t := .boolean) (t' := .boolean) (by decide) (by decide)))
          have F253 := F244.other W249 (Or.inr (slot_ne (Or.inl (own_w25 hw)) (Or.inl (own_w14 hw)) (by decide) (t := .boolean) (t' := .boolean) (by decide) (by decide)))
          have F254 := F246.other W249 (Or.inr (slot_ne (Or.inl (own_w27 hw)) (Or.inl (own_w14 hw)) (by decide) (t := .boolean) (t' := .boolean) (by decide) (by decide)))
          have F255 := F248.other W249 (Or.inr (slot_ne (Or.inl (own_w29 hw)) (Or.inl (own_w14 hw)) (by decide) (t := .long) (t' := .boolean) (by decide) (by decide)))
          have hK := ((((Keep.refl h [a, q]).trans (Keep.of_wr W165) (allS (Or.inl (List.mem_of_getElem? (i := 0) rfl)) all0)).trans K174 (allS (Or.inl (List.mem_of_getElem? (i := 1) rfl)) all0)).trans (Keep.of_wr W249) (allS (Or.inl (List.mem_of_getElem? (i := 0) rfl)) all0))
          have hv_negative : ng = s_ng n p ng dg wf mg := by unfold s_ng; rw [if_neg hc1, if_neg hc175, if_pos hc231, if_pos hc232]
          have G_negative := F253
          rw [hv_negative] at G_negative
          have hv_digits : dg = s_dg n p ng dg wf mg := by unfold s_dg; rw [if_neg hc1, if_neg hc175, if_pos hc231, if_pos hc232]
          have G_digits := F254
          rw [hv_digits] at G_digits
          have hv_wellFormed : (0 : Int32) = s_wf n p ng dg wf mg := by unfold s_wf; rw [if_neg hc1, if_neg hc175, if_pos hc231, if_pos hc232]
          have G_wellFormed := F249
          rw [hv_wellFormed] at G_wellFormed
          have hv_magnitude : mg = s_mg n p ng dg wf mg := by unfold s_mg; rw [if_neg hc1, if_neg hc175, if_pos hc231, if_pos hc232]
          have G_magnitude := F255
          rw [hv_magnitude] at G_magnitude
          have K256 := ((Keep.refl h174 [a]).trans (Keep.of_wr W249) (allS (Or.inl (List.mem_of_getElem? (i := 0) rfl)) all0))
          have F257 := F234.keep K256
          have K258 := ((Keep.refl h174 [a]).trans (Keep.of_wr W249) (allS (Or.inl (List.mem_of_getElem? (i := 0) rfl)) all0))
          have F259 := V174.keep K258 (ninS (Ne.symm naq) nin0)
          exact R.retV (Ds' := Ds) hret own_d4_129 (by decide) (by decide) (fun _ q => q) ⟨_, _, _, _, rfl, rfl, rfl, rfl, rfl, hK, F257, F250, F251, F252, G_negative, G_digits, G_wellFormed, G_magnitude, F259, rfl⟩
        · replace R := R.icmpY (pc' := 124) own_d4_109 (feq hc232).2 (by decide) rfl
          replace R := R.aloadN (pc' := 125) (v := (.ref a)) own_d4_124 rfl rfl rfl
          replace R := R.iconst (pc' := 126) (z := (0 : Int32)) own_d4_125 rfl rfl
          have K260 := (((Keep.refl h [a, q]).trans (Keep.of_wr W165) (allS (Or.inl (List.mem_of_getElem? (i := 0) rfl)) all0)).trans K174 (allS (Or.inl (List.mem_of_getElem? (i := 1) rfl)) all0))
          have F261 := E_a.keep K260
          have K262 := ((Keep.refl h165 [q]).trans K174 (allS (Or.inl (List.mem_of_getElem? (i := 0) rfl)) all0))
          have F263 := F170.keep K262 (ninS naq nin0)
          have K264 := ((Keep.refl h165 [q]).trans K174 (allS (Or.inl (List.mem_of_getElem? (i := 0) rfl)) all0))
          have F265 := F166.keep K264 (ninS naq nin0)
          have K266 := ((Keep.refl h165 [q]).trans K174 (allS (Or.inl (List.mem_of_getElem? (i := 0) rfl)) all0))
          have F267 := F165.keep K266 (ninS naq nin0)
          have K268 := ((Keep.refl h165 [q]).trans K174 (allS (Or.inl (List.mem_of_getElem? (i := 0) rfl)) all0))
          have F269 := F167.keep K268 (ninS naq nin0)
          have K270 := ((Keep.refl h165 [q]).trans K174 (allS (Or.inl (List.mem_of_getElem? (i := 0) rfl)) all0))
          have F271 := F168.keep K270 (ninS naq nin0)
          have K272 := ((Keep.refl h165 [q]).trans K174 (allS (Or.inl (List.mem_of_getElem? (i := 0) rfl)) all0))
          have F273 := F169.keep K272 (ninS naq nin0)
          have K274 := ((Keep.refl h165 [q]).trans K174 (allS (Or.inl (List.mem_of_getElem? (i := 0) rfl)) all0))
          have F275 := F171.keep K274 (ninS naq nin0)
          obtain ⟨h276, W276, R⟩ := R.putFN (pc' := 129) (ty := .boolean) (v' := (.int (0 : Int32))) (own_w13 hw) Via.refl F263 F261 (Or.inl (own_w14 hw)) (own_w3 hw) (by decide) (rfl) (rfl) ha own_d4_126 rfl
          have F276 := F263.same W276
          have F277 := F265.other W276 (Or.inr (slot_ne (Or.inr (own_w12 hw)) (Or.inl (own_w14 hw)) (by decide) (t := (.array .char)) (t' := .boolean) (by decide) (by decide)))
          have F278 := F267.other W276 (Or.inr (slot_ne (Or.inl (own_w21 hw)) (Or.inl (own_w14 hw)) (by decide) (t := .int) (t' := .boolean) (by decide) (by decide)))
          have F279 := F269.other W276 (Or.inr (slot_ne (Or.inl (own_w23 hw)) (Or.inl (own_w14 hw)) (by decide) (t := .boolean) (t' := .boolean) (by decide) (by decide)))
          have F280 := F271.other W276 (Or.inr (slot_ne (Or.inl (own_w25 hw)) (Or.inl (own_w14 hw)) (by decide) (t := .boolean) (t' := .boolean) (by decide) (by decide)))
          have F281 := F273.other W276 (Or.inr (slot_ne (Or.inl (own_w27 hw)) (Or.inl (own_w14 hw)) (by decide) (t := .boolean) (t' := .boolean) (by decide) (by decide)))
          have F282 := F275.other W276 (Or.inr (slot_ne (Or.inl (own_w29 hw)) (Or.inl (own_w14 hw)) (by decide) (t := .long) (t' := .boolean) (by decide) (by decide)))
          have hK := ((((Keep.refl h [a, q]).trans (Keep.of_wr W165) (allS (Or.inl (List.mem_of_getElem? (i := 0) rfl)) all0)).trans K174 (allS (Or.inl (List.mem_of_getElem? (i := 1) rfl)) all0)).trans (Keep.of_wr W276) (allS (Or.inl (List.mem_of_getElem? (i := 0) rfl)) all0))
          have hv_negative : ng = s_ng n p ng dg wf mg := by unfold s_ng; rw [if_neg hc1, if_neg hc175, if_pos hc231, if_neg hc232]
          have G_negative := F280
          rw [hv_negative] at G_negative
          have hv_digits : dg = s_dg n p ng dg wf mg := by unfold s_dg; rw [if_neg hc1, if_neg hc175, if_pos hc231, if_neg hc232]
          have G_digits := F281
          rw [hv_digits] at G_digits
          have hv_wellFormed : (0 : Int32) = s_wf n p ng dg wf mg := by unfold s_wf; rw [if_neg hc1, if_neg hc175, if_pos hc231, if_neg hc232]
          have G_wellFormed := F276
          rw [hv_wellFormed] at G_wellFormed
          have hv_magnitude : mg = s_mg n p ng dg wf mg := by unfold s_mg; rw [if_neg hc1, if_neg hc175, if_pos hc231, if_neg hc232]
          have G_magnitude := F282
          rw [hv_magnitude] at G_magnitude
          have K283 := ((Keep.refl h174 [a]).trans (Keep.of_wr W276) (allS (Or.inl (List.mem_of_getElem? (i := 0) rfl)) all0))
          have F284 := F261.keep K283
          have K285 := ((Keep.refl h174 [a]).trans (Keep.of_wr W276) (allS (Or.inl (List.mem_of_getElem? (i := 0) rfl)) all0))
          have F286 := V174.keep K285 (ninS (Ne.symm naq) nin0)
          exact R.retV (Ds' := Ds) hret own_d4_129 (by decide) (by decide) (fun _ q => q) ⟨_, _, _, _, rfl, rfl, rfl, rfl, rfl, hK, F284, F277, F278, F279, G_negative, G_digits, G_wellFormed, G_magnitude, F286, rfl⟩
      · replace R := R.icmpN (pc' := 69) own_d4_66 (flt hc231).2.2.1 rfl
        replace R := R.aloadN (pc' := 70) (v := (.ref a)) own_d4_69 rfl rfl rfl
        replace R := R.iconst (pc' := 71) (z := (1 : Int32)) own_d4_70 rfl rfl
        have K287 := (((Keep.refl h [a, q]).trans (Keep.of_wr W165) (allS (Or.inl (List.mem_of_getElem? (i := 0) rfl)) all0)).trans K174 (allS (Or.inl (List.mem_of_getElem? (i := 1) rfl)) all0))
        have F288 := E_a.keep K287
        have K289 := ((Keep.refl h165 [q]).trans K174 (allS (Or.inl (List.mem_of_getElem? (i := 0) rfl)) all0))
        have F290 := F169.keep K289 (ninS naq nin0)
        have K291 := ((Keep.refl h165 [q]).trans K174 (allS (Or.inl (List.mem_of_getElem? (i := 0) rfl)) all0))
        have F292 := F166.keep K291 (ninS naq nin0)
        have K293 := ((Keep.refl h165 [q]).trans K174 (allS (Or.inl (List.mem_of_getElem? (i := 0) rfl)) all0))
        have F294 := F165.keep K293 (ninS naq nin0)
        have K295 := ((Keep.refl h165 [q]).trans K174 (allS (Or.inl (List.mem_of_getElem? (i := 0) rfl)) all0))
        have F296 := F167.keep K295 (ninS naq nin0)
        have K297 := ((Keep.refl h165 [q]).trans K174 (allS (Or.inl (List.mem_of_getElem? (i := 0) rfl)) all0))
        have F298 := F168.keep K297 (ninS naq nin0)
        have K299 := ((Keep.refl h165 [q]).trans K174 (allS (Or.inl (List.mem_of_getElem? (i := 0) rfl)) all0))
        have F300 := F170.keep K299 (ninS naq nin0)
        have K301 := ((Keep.refl h165 [q]).trans K174 (allS (Or.inl (List.mem_of_getElem? (i := 0) rfl)) all0))
        have F302 := F171.keep K301 (ninS naq nin0)
        obtain ⟨h303, W303, R⟩ := R.putFN (pc' := 74) (ty := .boolean) (v' := (.int (1 : Int32))) (own_w26 hw) Via.refl F290 F288 (Or.inl (own_w27 hw)) (own_w3 hw) (by decide) (rfl) (rfl) ha own_d4_71 rfl
        have F303 := F290.same W303
        have F304 := F292.other W303 (Or.inr (slot_ne (Or.inr (own_w12 hw)) (Or.inl (own_w27 hw)) (by decide) (t := (.array .char)) (t' := .boolean) (by decide) (by decide)))
        have F305 := F294.other W303 (Or.inr (slot_ne (Or.inl (own_w21 hw)) (Or.inl (own_w27 hw)) (by decide) (t := .int) (t' := .boolean) (by decide) (by decide)))
        have F306 := F296.other W303 (Or.inr (slot_ne (Or.inl (own_w23 hw)) (Or.inl (own_w27 hw)) (by decide) (t := .boolean) (t' := .boolean) (by decide) (by decide)))
        have F307 := F298.other W303 (Or.inr (slot_ne (Or.inl (own_w25 hw)) (Or.inl (own_w27 hw)) (by decide) (t := .boolean) (t' := .boolean) (by decide) (by decide)))
        have F308 := F300.other W303 (Or.inr (slot_ne (Or.inl (own_w14 hw)) (Or.inl (own_w27 hw)) (by decide) (t := .boolean) (t' := .boolean) (by decide) (by decide)))
        have F309 := F302.other W303 (Or.inr (slot_ne (Or.inl (own_w29 hw)) (Or.inl (own_w27 hw)) (by decide) (t := .long) (t' := .boolean) (by decide) (by decide)))
        replace R := R.aloadN (pc' := 75) (v := (.ref a)) own_d4_74 rfl rfl rfl
        replace R := R.getF (pc' := 78) (host := "") (Or.inl (own_w28 hw)) Via.refl F309 own_d4_75 rfl
        replace R := R.ldc2L (pc' := 81) (own_w35 hw) own_d4_78 rfl
        replace R := R.lcmp (pc' := 82) own_d4_81 rfl
        by_cases hc310 : (0 : Int32) < (lcmpW mg (2147483648 : Int64))
        · replace R := R.ifY (pc' := 129) own_d4_82 (tlt hc310).2.2.1 (by decide) rfl
          have hK := ((((Keep.refl h [a, q]).trans (Keep.of_wr W165) (allS (Or.inl (List.mem_of_getElem? (i := 0) rfl)) all0)).trans K174 (allS (Or.inl (List.mem_of_getElem? (i := 1) rfl)) all0)).trans (Keep.of_wr W303) (allS (Or.inl (List.mem_of_getElem? (i := 0) rfl)) all0))
          have hv_negative : ng = s_ng n p ng dg wf mg := by unfold s_ng; rw [if_neg hc1, if_neg hc175, if_neg hc231, if_pos hc310]
          have G_negative := F307
          rw [hv_negative] at G_negative
          have hv_digits : (1 : Int32) = s_dg n p ng dg wf mg := by unfold s_dg; rw [if_neg hc1, if_neg hc175, if_neg hc231, if_pos hc310]
          have G_digits := F303
          rw [hv_digits] at G_digits
          have hv_wellFormed : wf = s_wf n p ng dg wf mg := by unfold s_wf; rw [if_neg hc1, if_neg hc175, if_neg hc231, if_pos hc310]
          have G_wellFormed := F308
          rw [hv_wellFormed] at G_wellFormed
          have hv_magnitude : mg = s_mg n p ng dg wf mg := by unfold s_mg; rw [if_neg hc1, if_neg hc175, if_neg hc231, if_pos hc310]
          have G_magnitude := F309
          rw [hv_magnitude] at G_magnitude
          have K311 := ((Keep.refl h174 [a]).trans (Keep.of_wr W303) (allS (Or.inl (List.mem_of_getElem? (i := 0) rfl)) all0))
          have F312 := F288.keep K311
          have K313 := ((Keep.refl h174 [a]).trans (Keep.of_wr W303) (allS (Or.inl (List.mem_of_getElem? (i := 0) rfl)) all0))
          have F314 := V174.keep K313 (ninS (Ne.symm naq) nin0)
          exact R.retV (Ds' := Ds) hret own_d4_129 (by decide) (by decide) (fun _ q => q) ⟨_, _, _, _, rfl, rfl, rfl, rfl, rfl, hK, F312, F304, F305, F306, G_negative, G_digits, G_wellFormed, G_magnitude, F314, rfl⟩
        · replace R := R.ifN (pc' := 85) own_d4_82 (flt hc310).2.2.1 rfl
          replace R := R.aloadN (pc' := 86) (v := (.ref a)) own_d4_85 rfl rfl rfl
          replace R := R.aloadN (pc' := 87) (v := (.ref a)) own_d4_86 rfl rfl rfl
          replace R := R.getF (pc' := 90) (host := "") (Or.inl (own_w28 hw)) Via.refl F309 own_d4_87 rfl
          replace R := R.ldc2L (pc' := 93) (own_w36 hw) own_d4_90 rfl
          replace R := R.lmul (pc' := 94) own_d4_93 rfl
          replace R := R.iloadN (pc' := 95) (v := p) own_d4_94 rfl rfl
          replace R := R.bipush (pc' := 97) (z := (48 : Int32)) own_d4_95 rfl rfl
          replace R := R.isub (pc' := 98) own_d4_97 rfl
          replace R := R.i2l (pc' := 99) own_d4_98 rfl
          replace R := R.ladd (pc' := 100) own_d4_99 rfl
          have K315 := ((Keep.refl h174 [a]).trans (Keep.of_wr W303) (allS (Or.inl (List.mem_of_getElem? (i := 0) rfl)) all0))
          have F316 := F288.keep K315
          obtain ⟨h317, W317, R⟩ := R.putF (pc' := 103) (ty := .long) (host := "") (Or.inl (own_w28 hw)) Via.refl F309 F316 (Or.inl (own_w29 hw)) (own_w3 hw) (by decide) rfl rfl ha own_d4_100 rfl
          have F317 := F309.same W317
          have F318 := F304.other W317 (Or.inr (slot_ne (Or.inr (own_w12 hw)) (Or.inl (own_w29 hw)) (by decide) (t := (.array .char)) (t' := .long) (by decide) (by decide)))
          have F319 := F305.other W317 (Or.inr (slot_ne (Or.inl (own_w21 hw)) (Or.inl (own_w29 hw)) (by decide) (t := .int) (t' := .long) (by decide) (by decide)))
          have F320 := F306.other W317 (Or.inr (slot_ne (Or.inl (own_w23 hw)) (Or.inl (own_w29 hw)) (by decide) (t := .boolean) (t' := .long) (by decide) (by decide)))
          have F321 := F307.other W317 (Or.inr (slot_ne (Or.inl (own_w25 hw)) (Or.inl (own_w29 hw)) (by decide) (t := .boolean) (t' := .long) (by decide) (by decide)))
          have F322 := F303.other W317 (Or.inr (slot_ne (Or.inl (own_w27 hw)) (Or.inl (own_w29 hw)) (by decide) (t := .boolean) (t' := .long) (by decide) (by decide)))
          have F323 := F308.other W317 (Or.inr (slot_ne (Or.inl (own_w14 hw)) (Or.inl (own_w29 hw)) (by decide) (t := .boolean) (t' := .long) (by decide) (by decide)))
          replace R := R.goto (pc' := 129) own_d4_103 (by decide) rfl
          have hK := (((((Keep.refl h [a, q]).trans (Keep.of_wr W165) (allS (Or.inl (List.mem_of_getElem? (i := 0) rfl)) all0)).trans K174 (allS (Or.inl (List.mem_of_getElem? (i := 1) rfl)) all0)).trans (Keep.of_wr W303) (allS (Or.inl (List.mem_of_getElem? (i := 0) rfl)) all0)).trans (Keep.of_wr W317) (allS (Or.inl (List.mem_of_getElem? (i := 0) rfl)) all0))
          have hv_negative : ng = s_ng n p ng dg wf mg := by unfold s_ng; rw [if_neg hc1, if_neg hc175, if_neg hc231, if_neg hc310]
          have G_negative := F321
          rw [hv_negative] at G_negative
          have hv_digits : (1 : Int32) = s_dg n p ng dg wf mg := by unfold s_dg; rw [if_neg hc1, if_neg hc175, if_neg hc231, if_neg hc310]
          have G_digits := F322
          rw [hv_digits] at G_digits
          have hv_wellFormed : wf = s_wf n p ng dg wf mg := by unfold s_wf; rw [if_neg hc1, if_neg hc175, if_neg hc231, if_neg hc310]
          have G_wellFormed := F323
          rw [hv_wellFormed] at G_wellFormed
          have hv_magnitude : ((mg * (10 : Int64)) + (p - (48 : Int32)).toInt64) = s_mg n p ng dg wf mg := by unfold s_mg; rw [if_neg hc1, if_neg hc175, if_neg hc231, if_neg hc310]
          have G_magnitude := F317
          rw [hv_magnitude] at G_magnitude
          have K324 := ((Keep.refl h303 [a]).trans (Keep.of_wr W317) (allS (Or.inl (List.mem_of_getElem? (i := 0) rfl)) all0))
          have F325 := F316.keep K324
          have K326 := (((Keep.refl h174 [a]).trans (Keep.of_wr W303) (allS (Or.inl (List.mem_of_getElem? (i := 0) rfl)) all0)).trans (Keep.of_wr W317) (allS (Or.inl (List.mem_of_getElem? (i := 0) rfl)) all0))
          have F327 := V174.keep K326 (ninS (Ne.symm naq) nin0)
          exact R.retV (Ds' := Ds) hret own_d4_129 (by decide) (by decide) (fun _ q => q) ⟨_, _, _, _, rfl, rfl, rfl, rfl, rfl, hK, F325, F318, F319, F320, G_negative, G_digits, G_wellFormed, G_magnitude, F327, rfl⟩
set_option maxRecDepth 65536 in
set_option maxHeartbeats 4000000 in
theorem rm_clear (l : Launch) (Z : State) (a0 : Array Value) (hw : ∀ d ∈ tables_1, d.before a0 Z = true) (a : Addr) (h : Heap) (n0 : Nat) (Ds : List Addr) {n ng dg wf : Int32} {mg : Int64} {q : Addr} (ha : a ∈ Ds) (E_a : Exa Z h a "com/example/pinsheet/pinsheet/WholeNumbers$Reading") (F_quoted : Fld Z h a "com/example/pinsheet/pinsheet/WholeNumbers$Reading" "quoted" "[C" (.ref q)) (F_quotedLength : Fld Z h a "com/example/pinsheet/pinsheet/WholeNumbers$Reading" "quotedLength" "I" (.int n)) (F_cut : Fld Z h a "com/example/pinsheet/pinsheet/WholeNumbers$Reading" "cut" "Z" (.int (0 : Int32))) (F_negative : Fld Z h a "com/example/pinsheet/pinsheet/WholeNumbers$Reading" "negative" "Z" (.int ng)) (F_digits : Fld Z h a "com/example/pinsheet/pinsheet/WholeNumbers$Reading" "digits" "Z" (.int dg)) (F_wellFormed : Fld Z h a "com/example/pinsheet/pinsheet/WholeNumbers$Reading" "wellFormed" "Z" (.int wf)) (F_magnitude : Fld Z h a "com/example/pinsheet/pinsheet/WholeNumbers$Reading" "magnitude" "J" (.long mg)) :
    Ctr l Z (⟨"com/example/pinsheet/pinsheet/WholeNumbers$Reading", "clear", "()V"⟩ : MethodName) prog_18_method_4_code 1 none [] ({ frames := 0, cells := 0, slots := 0, locals := 0 } : Room) #[.ref a] h n0 Ds (fun v h' Ds' => v = none ∧ Keep h h' [a] ∧ Exa Z h' a "com/example/pinsheet/pinsheet/WholeNumbers$Reading" ∧ Fld Z h' a "com/example/pinsheet/pinsheet/WholeNumbers$Reading" "quoted" "[C" (.ref q) ∧ Fld Z h' a "com/example/pinsheet/pinsheet/WholeNumbers$Reading" "quotedLength" "I" (.int (0 : Int32)) ∧ Fld Z h' a "com/example/pinsheet/pinsheet/WholeNumbers$Reading" "cut" "Z" (.int (0 : Int32)) ∧ Fld Z h' a "com/example/pinsheet/pinsheet/WholeNumbers$Reading" "negative" "Z" (.int (0 : Int32)) ∧ Fld Z h' a "com/example/pinsheet/pinsheet/WholeNumbers$Reading" "digits" "Z" (.int (0 : Int32)) ∧ Fld Z h' a "com/example/pinsheet/pinsheet/WholeNumbers$Reading" "wellFormed" "Z" (.int (1 : Int32)) ∧ Fld Z h' a "com/example/pinsheet/pinsheet/WholeNumbers$Reading" "magnitude" "J" (.long (0 : Int64)) ∧ Ds = Ds') := by
  refine ctr_of (Ls := #[.val (.ref a)]) (plainFor_of_name own_pn3) (fun m => by first | (simp [entryFrame, mkF, argsToLocals, Value.category]; done) | rfl) ?_
  intro C hl hret hnm R
  subst hl
  replace R := R.aloadN (pc' := 1) (v := (.ref a)) own_d3_0 rfl rfl rfl
  replace R := R.iconst (pc' := 2) (z := (0 : Int32)) own_d3_1 rfl rfl
  obtain ⟨h1, W1, R⟩ := R.putF (pc' := 5) (ty := .int) (host := "") (Or.inl (own_w20 hw)) Via.refl F_quotedLength E_a (Or.inl (own_w21 hw)) (own_w3 hw) (by decide) rfl rfl ha own_d3_2 rfl
  have F1 := F_quotedLength.same W1
  have F2 := F_quoted.other W1 (Or.inr (slot_ne (Or.inr (own_w12 hw)) (Or.inl (own_w21 hw)) (by decide) (t := (.array .char)) (t' := .int) (by decide) (by decide)))
  have F3 := F_cut.other W1 (Or.inr (slot_ne (Or.inl (own_w23 hw)) (Or.inl (own_w21 hw)) (by decide) (t := .boolean) (t' := .int) (by decide) (by decide)))
  have F4 := F_negative.other W1 (Or.inr (slot_ne (Or.inl (own_w25 hw)) (Or.inl (own_w21 hw)) (by decide) (t := .boolean) (t' := .int) (by decide) (by decide)))
  have F5 := F_digits.other W1 (Or.inr (slot_ne (Or.inl (own_w27 hw)) (Or.inl (own_w21 hw)) (by decide) (t := .boolean) (t' := .int) (by decide) (by decide)))
  have F6 := F_wellFormed.other W1 (Or.inr (slot_ne (Or.inl (own_w14 hw)) (Or.inl (own_w21 hw)) (by decide) (t := .boolean) (t' := .int) (by decide) (by decide)))
  have F7 := F_magnitude.other W1 (Or.inr (slot_ne (Or.inl (own_w29 hw)) (Or.inl (own_w21 hw)) (by decide) (t := .long) (t' := .int) (by decide) (by decide)))
  replace R := R.aloadN (pc' := 6) (v := (.ref a)) own_d3_5 rfl rfl rfl
  replace R := R.iconst (pc' := 7) (z := (0 : Int32)) own_d3_6 rfl rfl
  have K8 := ((Keep.refl h [a]).trans (Keep.of_wr W1) (allS (Or.inl (List.mem_of_getElem? (i := 0) rfl)) all0))
  have F9 := E_a.keep K8
  obtain ⟨h10, W10, R⟩ := R.putFN (pc' := 10) (ty := .boolean) (v' := (.int (0 : Int32))) (own_w22 hw) Via.refl F3 F9 (Or.inl (own_w23 hw)) (own_w3 hw) (by decide) (rfl) (rfl) ha own_d3_7 rfl
  have F10 := F3.same W10
  have F11 := F2.other W10 (Or.inr (slot_ne (Or.inr (own_w12 hw)) (Or.inl (own_w23 hw)) (by decide) (t := (.array .char)) (t' := .boolean) (by decide) (by decide)))
  have F12 := F1.other W10 (Or.inr (slot_ne (Or.inl (own_w21 hw)) (Or.inl (own_w23 hw)) (by decide) (t := .int) (t' := .boolean) (by decide) (by decide)))
  have F13 := F4.other W10 (Or.inr (slot_ne (Or.inl (own_w25 hw)) (Or.inl (own_w23 hw)) (by decide) (t := .boolean) (t' := .boolean) (by decide) (by decide)))
  have F14 := F5.other W10 (Or.inr (slot_ne (Or.inl (own_w27 hw)) (Or.inl (own_w23 hw)) (by decide) (t := .boolean) (t' := .boolean) (by decide) (by decide)))
  have F15 := F6.other W10 (Or.inr (slot_ne (Or.inl (own_w14 hw)) (Or.inl (own_w23 hw)) (by decide) (t := .boolean) (t' := .boolean) (by decide) (by decide)))
  have F16 := F7.other W10 (Or.inr (slot_ne (Or.inl (own_w29 hw)) (Or.inl (own_w23 hw)) (by decide) (t := .long) (t' := .boolean) (by decide) (by decide)))
  replace R := R.aloadN (pc' := 11) (v := (.ref a)) own_d3_10 rfl rfl rfl
  replace R := R.iconst (pc' := 12) (z := (0 : Int32)) own_d3_11 rfl rfl
  have K17 := ((Keep.refl h1 [a]).trans (Keep.of_wr W10) (allS (Or.inl (List.mem_of_getElem? (i := 0) rfl)) all0))
  have F18 := F9.keep K17
  obtain ⟨h19, W19, R⟩ := R.putFN (pc' := 15) (ty := .boolean) (v' := (.int (0 : Int32))) (own_w24 hw) Via.refl F13 F18 (Or.inl (own_w25 hw)) (own_w3 hw) (by decide) (rfl) (rfl) ha own_d3_12 rfl
  have F19 := F13.same W19
  have F20 := F11.other W19 (Or.inr (slot_ne (Or.inr (own_w12 hw)) (Or.inl (own_w25 hw)) (by decide) (t := (.array .char)) (t' := .boolean) (by decide) (by decide)))
  have F21 := F12.other W19 (Or.inr (slot_ne (Or.inl (own_w21 hw)) (Or.inl (own_w25 hw)) (by decide) (t := .int) (t' := .boolean) (by decide) (by decide)))
  have F22 := F10.other W19 (Or.inr (slot_ne (Or.inl (own_w23 hw)) (Or.inl (own_w25 hw)) (by decide) (t := .boolean) (t' := .boolean) (by decide) (by decide)))
  have F23 := F14.other W19 (Or.inr (slot_ne (Or.inl (own_w27 hw)) (Or.inl (own_w25 hw)) (by decide) (t := .boolean) (t' := .boolean) (by decide) (by decide)))
  have F24 := F15.other W19 (Or.inr (slot_ne (Or.inl (own_w14 hw)) (Or.inl (own_w25 hw)) (by decide) (t := .boolean) (t' := .boolean) (by decide) (by decide)))
  have F25 := F16.other W19 (Or.inr (slot_ne (Or.inl (own_w29 hw)) (Or.inl (own_w25 hw)) (by decide) (t := .long) (t' := .boolean) (by decide) (by decide)))
  replace R := R.aloadN (pc' := 16) (v := (.ref a)) own_d3_15 rfl rfl rfl
  replace R := R.iconst (pc' := 17) (z := (0 : Int32)) own_d3_16 rfl rfl
  have K26 := ((Keep.refl h10 [a]).trans (Keep.of_wr W19) (allS (Or.inl (List.mem_of_getElem? (i := 0) rfl)) all0))
  have F27 := F18.keep K26
  obtain ⟨h28, W28, R⟩ := R.putFN (pc' := 20) (ty := .boolean) (v' := (.int (0 : Int32))) (own_w26 hw) Via.refl F23 F27 (Or.inl (own_w27 hw)) (own_w3 hw) (by decide) (rfl) (rfl) ha own_d3_17 rfl
  have F28 := F23.same W28
  have F29 := F20.other W28 (Or.inr (slot_ne (Or.inr (own_w12 hw)) (Or.inl (own_w27 hw)) (by decide) (t := (.array .char)) (t' := .boolean) (by decide) (by decide)))
  have F30 := F21.other W28 (Or.inr (slot_ne (Or.inl (own_w21 hw)) (Or.inl (own_w27 hw)) (by decide) (t := .int) (t' := .boolean) (by decide) (by decide)))
  have F31 := F22.other W28 (Or.inr (slot_ne (Or.inl (own_w23 hw)) (Or.inl (own_w27 hw)) (by decide) (t := .boolean) (t' := .boolean) (by decide) (by decide)))
  have F32 := F19.other W28 (Or.inr (slot_ne (Or.inl (own_w25 hw)) (Or.inl (own_w27 hw)) (by decide) (t := .boolean) (t' := .boolean) (by decide) (by decide)))
  have F33 := F24.other W28 (Or.inr (slot_ne (Or.inl (own_w14 hw)) (Or.inl (own_w27 hw)) (by decide) (t := .boolean) (t' := .boolean) (by decide) (by decide)))
  have F34 := F25.other W28 (Or.inr (slot_ne (Or.inl (own_w29 hw)) (Or.inl (own_w27 hw)) (by decide) (t := .long) (t' := .boolean) (by decide) (by decide)))
  replace R := R.aloadN (pc' := 21) (v := (.ref a)) own_d3_20 rfl rfl rfl
  replace R := R.iconst (pc' := 22) (z := (1 : Int32)) own_d3_21 rfl rfl
  have K35 := ((Keep.refl h19 [a]).trans (Keep.of_wr W28) (allS (Or.inl (List.mem_of_getElem? (i := 0) rfl)) all0))
  have F36 := F27.keep K35
  obtain ⟨h37, W37, R⟩ := R.putFN (pc' := 25) (ty := .boolean) (v' := (.int (1 : Int32))) (own_w13 hw) Via.refl F33 F36 (Or.inl (own_w14 hw)) (own_w3 hw) (by decide) (rfl) (rfl) ha own_d3_22 rfl
  have F37 := F33.same W37
  have F38 := F29.other W37 (Or.inr (slot_ne (Or.inr (own_w12 hw)) (Or.inl (own_w14 hw)) (by decide) (t := (.array .char)) (t' := .boolean) (by decide) (by decide)))
  have F39 := F30.other W37 (Or.inr (slot_ne (Or.inl (own_w21 hw)) (Or.inl (own_w14 hw)) (by decide) (t := .int) (t' := .boolean) (by decide) (by decide)))
  have F40 := F31.other W37 (Or.inr (slot_ne (Or.inl (own_w23 hw)) (Or.inl (own_w14 hw)) (by decide) (t := .boolean) (t' := .boolean) (by decide) (by decide)))
  have F41 := F32.other W37 (Or.inr (slot_ne (Or.inl (own_w25 hw)) (Or.inl (own_w14 hw)) (by decide) (t := .boolean) (t' := .boolean) (by decide) (by decide)))
  have F42 := F28.other W37 (Or.inr (slot_ne (Or.inl (own_w27 hw)) (Or.inl (own_w14 hw)) (by decide) (t := .boolean) (t' := .boolean) (by decide) (by decide)))
  have F43 := F34.other W37 (Or.inr (slot_ne (Or.inl (own_w29 hw)) (Or.inl (own_w14 hw)) (by decide) (t := .long) (t' := .boolean) (by decide) (by decide)))
  replace R := R.aloadN (pc' := 26) (v := (.ref a)) own_d3_25 rfl rfl rfl
  replace R := R.lconst (pc' := 27) (z := (0 : Int64)) own_d3_26 rfl rfl
  have K44 := ((Keep.refl h28 [a]).trans (Keep.of_wr W37) (allS (Or.inl (List.mem_of_getElem? (i := 0) rfl)) all0))
  have F45 := F36.keep K44
  obtain ⟨h46, W46, R⟩ := R.putF (pc' := 30) (ty := .long) (host := "") (Or.inl (own_w28 hw)) Via.refl F43 F45 (Or.inl (own_w29 hw)) (own_w3 hw) (by decide) rfl rfl ha own_d3_27 rfl
  have F46 := F43.same W46
  have F47 := F38.other W46 (Or.inr (slot_ne (Or.inr (own_w12 hw)) (Or.inl (own_w29 hw)) (by decide) (t := (.array .char)) (t' := .long) (by decide) (by decide)))
  have F48 := F39.other W46 (Or.inr (slot_ne (Or.inl (own_w21 hw)) (Or.inl (own_w29 hw)) (by decide) (t := .int) (t' := .long) (by decide) (by decide)))
  have F49 := F40.other W46 (Or.inr (slot_ne (Or.inl (own_w23 hw)) (Or.inl (own_w29 hw)) (by decide) (t := .boolean) (t' := .long) (by decide) (by decide)))
  have F50 := F41.other W46 (Or.inr (slot_ne (Or.inl (own_w25 hw)) (Or.inl (own_w29 hw)) (by decide) (t := .boolean) (t' := .long) (by decide) (by decide)))
  have F51 := F42.other W46 (Or.inr (slot_ne (Or.inl (own_w27 hw)) (Or.inl (own_w29 hw)) (by decide) (t := .boolean) (t' := .long) (by decide) (by decide)))
  have F52 := F37.other W46 (Or.inr (slot_ne (Or.inl (own_w14 hw)) (Or.inl (own_w29 hw)) (by decide) (t := .boolean) (t' := .long) (by decide) (by decide)))
  have hK := (((((((Keep.refl h [a]).trans (Keep.of_wr W1) (allS (Or.inl (List.mem_of_getElem? (i := 0) rfl)) all0)).trans (Keep.of_wr W10) (allS (Or.inl (List.mem_of_getElem? (i := 0) rfl)) all0)).trans (Keep.of_wr W19) (allS (Or.inl (List.mem_of_getElem? (i := 0) rfl)) all0)).trans (Keep.of_wr W28) (allS (Or.inl (List.mem_of_getElem? (i := 0) rfl)) all0)).trans (Keep.of_wr W37) (allS (Or.inl (List.mem_of_getElem? (i := 0) rfl)) all0)).trans (Keep.of_wr W46) (allS (Or.inl (List.mem_of_getElem? (i := 0) rfl)) all0))
  have K53 := ((Keep.refl h37 [a]).trans (Keep.of_wr W46) (allS (Or.inl (List.mem_of_getElem? (i := 0) rfl)) all0))
  have F54 := F45.keep K53
  exact R.retV (Ds' := Ds) hret own_d3_30 (by decide) (by decide) (fun _ q => q) ⟨rfl, hK, F54, F47, F48, F49, F50, F51, F52, F46, rfl⟩
def s_val (ng : Int32) (mg : Int64) : Int32 := if ng = (0 : Int32) then mg.toInt32 else (-mg).toInt32
set_option maxRecDepth 65536 in
set_option maxHeartbeats 4000000 in
theorem rm_value (l : Launch) (Z : State) (a0 : Array Value) (hw : ∀ d ∈ tables_1, d.before a0 Z = true) (a b : Addr) (h : Heap) (n0 : Nat) (Ds : List Addr) {n ng dg wf : Int32} {mg : Int64} {q : Addr} (hwf : ¬ wf = 0) (hdg : ¬ dg = 0) (hm1 : ¬ (0 : Int32) < lcmpW mg (2147483648 : Int64)) (hm2 : ¬ (0 : Int32) < lcmpW mg (2147483647 : Int64)) (F_quoted : Fld Z h a "com/example/pinsheet/pinsheet/WholeNumbers$Reading" "quoted" "[C" (.ref q)) (F_quotedLength : Fld Z h a "com/example/pinsheet/pinsheet/WholeNumbers$Reading" "quotedLength" "I" (.int n)) (F_cut : Fld Z h a "com/example/pinsheet/pinsheet/WholeNumbers$Reading" "cut" "Z" (.int (0 : Int32))) (F_negative : Fld Z h a "com/example/pinsheet/pinsheet/WholeNumbers$Reading" "negative" "Z" (.int ng)) (F_digits : Fld Z h a "com/example/pinsheet/pinsheet/WholeNumbers$Reading" "digits" "Z" (.int dg)) (F_wellFormed : Fld Z h a "com/example/pinsheet/pinsheet/WholeNumbers$Reading" "wellFormed" "Z" (.int wf)) (F_magnitude : Fld Z h a "com/example/pinsheet/pinsheet/WholeNumbers$Reading" "magnitude" "J" (.long mg)) :
    Ctr l Z (⟨"com/example/pinsheet/pinsheet/WholeNumbers$Reading", "value", "(Ljava/lang/String;)I"⟩ : MethodName) prog_18_method_3_code 2 (some .int) [] ({ frames := 0, cells := 0, slots := 0, locals := 0 } : Room) #[.ref a, .ref b] h n0 Ds (fun v h' Ds' => v = some (.int (s_val ng mg)) ∧ h = h' ∧ Ds = Ds') := by
  refine ctr_of (Ls := #[.val (.ref a), .val (.ref b)]) (plainFor_of_name own_pn3) (fun m => by first | (simp [entryFrame, mkF, argsToLocals, Value.category]; done) | rfl) ?_
  intro C hl hret hnm R
  subst hl
  replace R := R.aloadN (pc' := 1) (v := (.ref a)) own_d21_0 rfl rfl rfl
  replace R := R.getF (pc' := 4) (host := "") (Or.inl (own_w13 hw)) Via.refl F_wellFormed own_d21_1 rfl
  replace R := R.ifN (pc' := 7) own_d21_4 (feq hwf).1 rfl
  replace R := R.aloadN (pc' := 8) (v := (.ref a)) own_d21_7 rfl rfl rfl
  replace R := R.getF (pc' := 11) (host := "") (Or.inl (own_w26 hw)) Via.refl F_digits own_d21_8 rfl
  replace R := R.ifY (pc' := 32) own_d21_11 (feq hdg).2 (by decide) rfl
  replace R := R.aloadN (pc' := 33) (v := (.ref a)) own_d21_32 rfl rfl rfl
  replace R := R.getF (pc' := 36) (host := "") (Or.inl (own_w28 hw)) Via.refl F_magnitude own_d21_33 rfl
  replace R := R.aloadN (pc' := 37) (v := (.ref a)) own_d21_36 rfl rfl rfl
  replace R := R.getF (pc' := 40) (host := "") (Or.inl (own_w24 hw)) Via.refl F_negative own_d21_37 rfl
  by_cases hc1 : ng = (0 : Int32)
  · replace R := R.ifY (pc' := 49) own_d21_40 (teq hc1).1 (by decide) rfl
    replace R := R.ldc2L (pc' := 52) (own_w118 hw) own_d21_49 rfl
    replace R := R.lcmp (pc' := 53) own_d21_52 rfl
    replace R := R.ifY (pc' := 73) own_d21_53 (flt hm2).2.2.2 (by decide) rfl
    replace R := R.aloadN (pc' := 74) (v := (.ref a)) own_d21_73 rfl rfl rfl
    replace R := R.getF (pc' := 77) (host := "") (Or.inl (own_w24 hw)) Via.refl F_negative own_d21_74 rfl
    replace R := R.ifY (pc' := 88) own_d21_77 (teq hc1).1 (by decide) rfl
    replace R := R.aloadN (pc' := 89) (v := (.ref a)) own_d21_88 rfl rfl rfl
    replace R := R.getF (pc' := 92) (host := "") (Or.inl (own_w28 hw)) Via.refl F_magnitude own_d21_89 rfl
    replace R := R.l2i (pc' := 93) own_d21_92 rfl
    have hv : mg.toInt32 = s_val ng mg := by unfold s_val; rw [if_pos hc1]
    exact R.retI (Ds' := Ds) hret own_d21_93 (by decide) (by decide) (fun _ q => q) ⟨congrArg (fun z => some (Value.int z)) hv, rfl, rfl⟩
  · replace R := R.ifN (pc' := 43) own_d21_40 (feq hc1).1 rfl
    replace R := R.ldc2L (pc' := 46) (own_w35 hw) own_d21_43 rfl
    replace R := R.goto (pc' := 52) own_d21_46 (by decide) rfl
    replace R := R.lcmp (pc' := 53) own_d21_52 rfl
    replace R := R.ifY (pc' := 73) own_d21_53 (flt hm1).2.2.2 (by decide) rfl
    replace R := R.aloadN (pc' := 74) (v := (.ref a)) own_d21_73 rfl rfl rfl
    replace R := R.getF (pc' := 77) (host := "") (Or.inl (own_w24 hw)) Via.refl F_negative own_d21_74 rfl
    replace R := R.ifN (pc' := 80) own_d21_77 (feq hc1).1 rfl
    replace R := R.aloadN (pc' := 81) (v := (.ref a)) own_d21_80 rfl rfl rfl
    replace R := R.getF (pc' := 84) (host := "") (Or.inl (own_w28 hw)) Via.refl F_magnitude own_d21_81 rfl
    replace R := R.lneg (pc' := 85) own_d21_84 rfl
    replace R := R.goto (pc' := 92) own_d21_85 (by decide) rfl
    replace R := R.l2i (pc' := 93) own_d21_92 rfl
    have hv : (-mg).toInt32 = s_val ng mg := by unfold s_val; rw [if_neg hc1]
    exact R.retI (Ds' := Ds) hret own_d21_93 (by decide) (by decide) (fun _ q => q) ⟨congrArg (fun z => some (Value.int z)) hv, rfl, rfl⟩
set_option maxRecDepth 65536 in
set_option maxHeartbeats 40000000 in
theorem rm_law (l : Launch) (Z : State) (a0 : Array Value) (hw : ∀ d ∈ tables_1, d.before a0 Z = true) (i0 : Int32) (i1 : Int32) (i2 : Int32) (i3 : Int32) (i4 : Int32) (h : Heap) (n0 : Nat) (Ds : List Addr) (own_cs : CompactOn Z) (own_si : SiooOk Z) (wS : ∀ d ∈ Bundle.stringAtoms, d.before a0 Z = true) :
    Ctr l Z x code maxLocals ret tables_1 room_1 #[(.int i0), (.int i1), (.int i2), (.int i3), (.int i4)] h n0 Ds (fun v h' Ds' => v = some (.int 1)) := by
  refine ctr_of (Ls := #[.val (.int i0), .val (.int i1), .val (.int i2), .val (.int i3), .val (.int i4), .unset, .unset, .unset, .unset, .unset, .unset, .unset, .unset, .unset, .unset, .unset, .unset, .unset, .unset]) (plainFor_of_name own_pn5) (fun m => by first | (simp [entryFrame, mkF, argsToLocals, Value.category, maxLocals]; done) | rfl) ?_
  intro C hl hret hnm R
  subst hl
  replace R := R.iloadN (pc' := 1) (v := i0) at_0 rfl rfl
  replace R := R.iconst (pc' := 2) (z := (3 : Int32)) at_1 rfl rfl
  replace R := R.iand (pc' := 3) at_2 rfl
  replace R := R.istore (pc' := 5) (l' := #[.val (.int i0), .val (.int i1), .val (.int i2), .val (.int i3), .val (.int i4), .val (.int (i0 &&& (3 : Int32))), .unset, .unset, .unset, .unset, .unset, .unset, .unset, .unset, .unset, .unset, .unset, .unset, .unset]) at_3 rfl rfl
  replace R := R.iloadN (pc' := 6) (v := i1) at_5 rfl rfl
  replace R := R.sipush (pc' := 9) (z := (255 : Int32)) at_6 rfl rfl
  replace R := R.iand (pc' := 10) at_9 rfl
  replace R := R.i2c (pc' := 11) at_10 rfl
  replace R := R.istore (pc' := 13) (l' := #[.val (.int i0), .val (.int i1), .val (.int i2), .val (.int i3), .val (.int i4), .val (.int (i0 &&& (3 : Int32))), .val (.int (i1 &&& (255 : Int32)).toUInt32.toUInt16.toUInt32.toInt32), .unset, .unset, .unset, .unset, .unset, .unset, .unset, .unset, .unset, .unset, .unset, .unset]) at_11 rfl rfl
  replace R := R.iloadN (pc' := 14) (v := i1) at_13 rfl rfl
  replace R := R.bipush (pc' := 16) (z := (8 : Int32)) at_14 rfl rfl
  replace R := R.iushr (pc' := 17) at_16 rfl
  replace R := R.sipush (pc' := 20) (z := (255 : Int32)) at_17 rfl rfl
  replace R := R.iand (pc' := 21) at_20 rfl
  replace R := R.i2c (pc' := 22) at_21 rfl
  replace R := R.istore (pc' := 24) (l' := #[.val (.int i0), .val (.int i1), .val (.int i2), .val (.int i3), .val (.int i4), .val (.int (i0 &&& (3 : Int32))), .val (.int (i1 &&& (255 : Int32)).toUInt32.toUInt16.toUInt32.toInt32), .val (.int (((i1.toUInt32 >>> ((8 : Int32) &&& 31).toUInt32).toInt32) &&& (255 : Int32)).toUInt32.toUInt16.toUInt32.toInt32), .unset, .unset, .unset, .unset, .unset, .unset, .unset, .unset, .unset, .unset, .unset]) at_22 rfl rfl
  replace R := R.iloadN (pc' := 25) (v := i1) at_24 rfl rfl
  replace R := R.bipush (pc' := 27) (z := (16 : Int32)) at_25 rfl rfl
  replace R := R.iushr (pc' := 28) at_27 rfl
  replace R := R.sipush (pc' := 31) (z := (255 : Int32)) at_28 rfl rfl
  replace R := R.iand (pc' := 32) at_31 rfl
  replace R := R.i2c (pc' := 33) at_32 rfl
  replace R := R.istore (pc' := 35) (l' := #[.val (.int i0), .val (.int i1), .val (.int i2), .val (.int i3), .val (.int i4), .val (.int (i0 &&& (3 : Int32))), .val (.int (i1 &&& (255 : Int32)).toUInt32.toUInt16.toUInt32.toInt32), .val (.int (((i1.toUInt32 >>> ((8 : Int32) &&& 31).toUInt32).toInt32) &&& (255 : Int32)).toUInt32.toUInt16.toUInt32.toInt32), .val (.int (((i1.toUInt32 >>> ((16 : Int32) &&& 31).toUInt32).toInt32) &&& (255 : Int32)).toUInt32.toUInt16.toUInt32.toInt32), .unset, .unset, .unset, .unset, .unset, .unset, .unset, .unset, .unset, .unset]) at_33 rfl rfl
  obtain ⟨c0, e_c0⟩ : ∃ z, z = (i1 &&& (255 : Int32)).toUInt32.toUInt16.toUInt32.toInt32 := ⟨_, rfl⟩
  rw [← e_c0] at R
  have hbc0 : ¬ c0 < 0 ∧ ¬ (255 : Int32) < c0 := by rw [e_c0]; exact c255 _
  obtain ⟨c1, e_c1⟩ : ∃ z, z = (((i1.toUInt32 >>> ((8 : Int32) &&& 31).toUInt32).toInt32) &&& (255 : Int32)).toUInt32.toUInt16.toUInt32.toInt32 := ⟨_, rfl⟩
  rw [← e_c1] at R
  have hbc1 : ¬ c1 < 0 ∧ ¬ (255 : Int32) < c1 := by rw [e_c1]; exact c255 _
  obtain ⟨c2, e_c2⟩ : ∃ z, z = (((i1.toUInt32 >>> ((16 : Int32) &&& 31).toUInt32).toInt32) &&& (255 : Int32)).toUInt32.toUInt16.toUInt32.toInt32 := ⟨_, rfl⟩
  rw [← e_c2] at R
  have hbc2 : ¬ c2 < 0 ∧ ¬ (255 : Int32) < c2 := by rw [e_c2]; exact c255 _
  replace R := R.iloadN (pc' := 36) (v := i2) at_35 rfl rfl
  replace R := R.iconst (pc' := 37) (z := (1 : Int32)) at_36 rfl rfl
  replace R := R.iand (pc' := 38) at_37 rfl
  by_cases hc1 : (i2 &&& (1 : Int32)) = (0 : Int32)
  · replace R := R.ifY (pc' := 45) at_38 (teq hc1).1 (by decide) rfl
    replace R := R.iconst (pc' := 46) (z := (0 : Int32)) at_45 rfl rfl
    replace R := R.istore (pc' := 48) (l' := #[.val (.int i0), .val (.int i1), .val (.int i2), .val (.int i3), .val (.int i4), .val (.int (i0 &&& (3 : Int32))), .val (.int c0), .val (.int c1), .val (.int c2), .val (.int (0 : Int32)), .unset, .unset, .unset, .unset, .unset, .unset, .unset, .unset, .unset]) at_46 rfl rfl
    replace R := R.iconst (pc' := 49) (z := (1 : Int32)) at_48 rfl rfl
    replace R := R.iloadN (pc' := 50) (v := i2) at_49 rfl rfl
    replace R := R.iconst (pc' := 51) (z := (1 : Int32)) at_50 rfl rfl
    replace R := R.iushr (pc' := 52) at_51 rfl
    replace R := R.iconst (pc' := 53) (z := (1 : Int32)) at_52 rfl rfl
    replace R := R.iand (pc' := 54) at_53 rfl
    replace R := R.iadd (pc' := 55) at_54 rfl
    replace R := R.istore (pc' := 57) (l' := #[.val (.int i0), .val (.int i1), .val (.int i2), .val (.int i3), .val (.int i4), .val (.int (i0 &&& (3 : Int32))), .val (.int c0), .val (.int c1), .val (.int c2), .val (.int (0 : Int32)), .val (.int ((1 : Int32) + (((i2.toUInt32 >>> ((1 : Int32) &&& 31).toUInt32).toInt32) &&& (1 : Int32)))), .unset, .unset, .unset, .unset, .unset, .unset, .unset, .unset]) at_55 rfl rfl
    replace R := R.iloadN (pc' := 58) (v := i3) at_57 rfl rfl
    replace R := R.ldcI (pc' := 60) (own_w0 hw) at_58 rfl
    replace R := R.iand (pc' := 61) at_60 rfl
    replace R := R.bipush (pc' := 63) (z := (10 : Int32)) at_61 rfl rfl
    replace R := R.irem (pc' := 64) at_63 (by decide) rfl
    replace R := R.istore (pc' := 66) (l' := #[.val (.int i0), .val (.int i1), .val (.int i2), .val (.int i3), .val (.int i4), .val (.int (i0 &&& (3 : Int32))), .val (.int c0), .val (.int c1), .val (.int c2), .val (.int (0 : Int32)), .val (.int ((1 : Int32) + (((i2.toUInt32 >>> ((1 : Int32) &&& 31).toUInt32).toInt32) &&& (1 : Int32)))), .val (.int ((i3 &&& (2147483647 : Int32)) % (10 : Int32))), .unset, .unset, .unset, .unset, .unset, .unset, .unset]) at_64 rfl rfl
    replace R := R.iload (pc' := 68) (v := i4) at_66 rfl rfl
    replace R := R.ldcI (pc' := 70) (own_w0 hw) at_68 rfl
    replace R := R.iand (pc' := 71) at_70 rfl
    replace R := R.bipush (pc' := 73) (z := (10 : Int32)) at_71 rfl rfl
    replace R := R.irem (pc' := 74) at_73 (by decide) rfl
    replace R := R.istore (pc' := 76) (l' := #[.val (.int i0), .val (.int i1), .val (.int i2), .val (.int i3), .val (.int i4), .val (.int (i0 &&& (3 : Int32))), .val (.int c0), .val (.int c1), .val (.int c2), .val (.int (0 : Int32)), .val (.int ((1 : Int32) + (((i2.toUInt32 >>> ((1 : Int32) &&& 31).toUInt32).toInt32) &&& (1 : Int32)))), .val (.int ((i3 &&& (2147483647 : Int32)) % (10 : Int32))), .val (.int ((i4 &&& (2147483647 : Int32)) % (10 : Int32))), .unset, .unset, .unset, .unset, .unset, .unset]) at_74 rfl rfl
    obtain ⟨d1, e_d1⟩ : ∃ z, z = ((i3 &&& (2147483647 : Int32)) % (10 : Int32)) := ⟨_, rfl⟩
    rw [← e_d1] at R
    obtain ⟨jd1, hd1⟩ : ∃ j : Fin 10, d1 = Int32.ofNat j.val := by rw [e_d1]; exact own_mod10 i3
    obtain ⟨d2, e_d2⟩ : ∃ z, z = ((i4 &&& (2147483647 : Int32)) % (10 : Int32)) := ⟨_, rfl⟩
    rw [← e_d2] at R
    obtain ⟨jd2, hd2⟩ : ∃ j : Fin 10, d2 = Int32.ofNat j.val := by rw [e_d2]; exact own_mod10 i4
    replace R := R.iconst (pc' := 77) (z := (3 : Int32)) at_76 rfl rfl
    obtain ⟨h2, b2, k2, g2, E2, V2, R⟩ := R.newP (pc' := 79) (aty := .char) (cap := 3) (own_w1 hw) at_77 (by decide) (by decide) (by decide) (by decide) (by decide) rfl
    have V2p : Arv Z h2 b2 k2 .char (3 : Int32) [(.int (0 : Int32)), (.int (0 : Int32)), (.int (0 : Int32))] (.int (0 : Int32)) := V2.pad (pad_rep [] (.int (0 : Int32)) 3)
    replace R := R.astore (pc' := 81) (l' := #[.val (.int i0), .val (.int i1), .val (.int i2), .val (.int i3), .val (.int i4), .val (.int (i0 &&& (3 : Int32))), .val (.int c0), .val (.int c1), .val (.int c2), .val (.int (0 : Int32)), .val (.int ((1 : Int32) + (((i2.toUInt32 >>> ((1 : Int32) &&& 31).toUInt32).toInt32) &&& (1 : Int32)))), .val (.int d1), .val (.int d2), .val (.ref b2), .unset, .unset, .unset, .unset, .unset]) at_79 rfl rfl rfl
    replace R := R.iconst (pc' := 82) (z := (0 : Int32)) at_81 rfl rfl
    replace R := R.istore (pc' := 84) (l' := #[.val (.int i0), .val (.int i1), .val (.int i2), .val (.int i3), .val (.int i4), .val (.int (i0 &&& (3 : Int32))), .val (.int c0), .val (.int c1), .val (.int c2), .val (.int (0 : Int32)), .val (.int ((1 : Int32) + (((i2.toUInt32 >>> ((1 : Int32) &&& 31).toUInt32).toInt32) &&& (1 : Int32)))), .val (.int d1), .val (.int d2), .val (.ref b2), .val (.int (0 : Int32)), .unset, .unset, .unset, .unset]) at_82 rfl rfl
    replace R := R.iload (pc' := 86) (v := (0 : Int32)) at_84 rfl rfl
    replace R := R.ifY (pc' := 99) at_86 (teq (by decide : (0 : Int32) = (0 : Int32))).1 (by decide) rfl
    replace R := R.aload (pc' := 101) (v := (.ref b2)) at_99 rfl rfl rfl
    replace R := R.iload (pc' := 103) (v := (0 : Int32)) at_101 rfl rfl
    replace R := R.bipush (pc' := 105) (z := (48 : Int32)) at_103 rfl rfl
    replace R := R.iload (pc' := 107) (v := d1) at_105 rfl rfl
    replace R := R.iadd (pc' := 108) at_107 rfl
    replace R := R.i2c (pc' := 109) at_108 rfl
    obtain ⟨x1, e_x1⟩ : ∃ z, z = ((48 : Int32) + d1).toUInt32.toUInt16.toUInt32.toInt32 := ⟨_, rfl⟩
    rw [← e_x1] at R
    have hbx1 : ¬ x1 < 0 ∧ ¬ (255 : Int32) < x1 := by rw [e_x1, hd1]; exact dig_b _
    obtain ⟨h3, K3, V3, R⟩ := R.castore (pc' := 110) V2p ⟨by decide, by decide⟩ 0 rfl (Nat.le_of_ble_eq_true rfl) (List.mem_of_getElem? (i := 0) rfl) at_109 rfl
    have V3p : Arv Z h3 b2 k2 .char (3 : Int32) [(.int x1), (.int (0 : Int32)), (.int (0 : Int32))] (.int (0 : Int32)) := by
      have q := V3
      rw [nar_of hbx1] at q
      exact q
    replace R := R.iinc (pc' := 113) (l' := #[.val (.int i0), .val (.int i1), .val (.int i2), .val (.int i3), .val (.int i4), .val (.int (i0 &&& (3 : Int32))), .val (.int c0), .val (.int c1), .val (.int c2), .val (.int (0 : Int32)), .val (.int ((1 : Int32) + (((i2.toUInt32 >>> ((1 : Int32) &&& 31).toUInt32).toInt32) &&& (1 : Int32)))), .val (.int d1), .val (.int d2), .val (.ref b2), .val (.int (1 : Int32)), .unset, .unset, .unset, .unset]) at_110 rfl rfl rfl
    replace R := R.iload (pc' := 115) (v := ((1 : Int32) + (((i2.toUInt32 >>> ((1 : Int32) &&& 31).toUInt32).toInt32) &&& (1 : Int32)))) at_113 rfl rfl
    replace R := R.iconst (pc' := 116) (z := (2 : Int32)) at_115 rfl rfl
    by_cases hc4 : ((1 : Int32) + (((i2.toUInt32 >>> ((1 : Int32) &&& 31).toUInt32).toInt32) &&& (1 : Int32))) = (2 : Int32)
    · replace R := R.icmpN (pc' := 119) at_116 (teq hc4).2 rfl
      replace R := R.aload (pc' := 121) (v := (.ref b2)) at_119 rfl rfl rfl
      replace R := R.iload (pc' := 123) (v := (1 : Int32)) at_121 rfl rfl
      replace R := R.bipush (pc' := 125) (z := (48 : Int32)) at_123 rfl rfl
      replace R := R.iload (pc' := 127) (v := d2) at_125 rfl rfl
      replace R := R.iadd (pc' := 128) at_127 rfl
      replace R := R.i2c (pc' := 129) at_128 rfl
      obtain ⟨x2, e_x2⟩ : ∃ z, z = ((48 : Int32) + d2).toUInt32.toUInt16.toUInt32.toInt32 := ⟨_, rfl⟩
      rw [← e_x2] at R
      have hbx2 : ¬ x2 < 0 ∧ ¬ (255 : Int32) < x2 := by rw [e_x2, hd2]; exact dig_b _
      obtain ⟨h5, K5, V5, R⟩ := R.castore (pc' := 130) V3p ⟨by decide, by decide⟩ 1 rfl (Nat.le_of_ble_eq_true rfl) (List.mem_of_getElem? (i := 0) rfl) at_129 rfl
      have V5p : Arv Z h5 b2 k2 .char (3 : Int32) [(.int x1), (.int x2), (.int (0 : Int32))] (.int (0 : Int32)) := by
        have q := V5
        rw [nar_of hbx2] at q
        exact q
      replace R := R.iinc (pc' := 133) (l' := #[.val (.int i0), .val (.int i1), .val (.int i2), .val (.int i3), .val (.int i4), .val (.int (i0 &&& (3 : Int32))), .val (.int c0), .val (.int c1), .val (.int c2), .val (.int (0 : Int32)), .val (.int ((1 : Int32) + (((i2.toUInt32 >>> ((1 : Int32) &&& 31).toUInt32).toInt32) &&& (1 : Int32)))), .val (.int d1), .val (.int d2), .val (.ref b2), .val (.int (2 : Int32)), .unset, .unset, .unset, .unset]) at_130 rfl rfl rfl
      replace R := R.iload (pc' := 135) (v := ((1 : Int32) + (((i2.toUInt32 >>> ((1 : Int32) &&& 31).toUInt32).toInt32) &&& (1 : Int32)))) at_133 rfl rfl
      replace R := R.iconst (pc' := 136) (z := (1 : Int32)) at_135 rfl rfl
      replace R := R.icmpY (pc' := 144) at_136 (feq (by rw [hc4]; decide)).2 (by decide) rfl
      replace R := R.iload (pc' := 146) (v := d1) at_144 rfl rfl
      replace R := R.bipush (pc' := 148) (z := (10 : Int32)) at_146 rfl rfl
      replace R := R.imul (pc' := 149) at_148 rfl
      replace R := R.iload (pc' := 151) (v := d2) at_149 rfl rfl
      replace R := R.iadd (pc' := 152) at_151 rfl
      replace R := R.istore (pc' := 154) (l' := #[.val (.int i0), .val (.int i1), .val (.int i2), .val (.int i3), .val (.int i4), .val (.int (i0 &&& (3 : Int32))), .val (.int c0), .val (.int c1), .val (.int c2), .val (.int (0 : Int32)), .val (.int ((1 : Int32) + (((i2.toUInt32 >>> ((1 : Int32) &&& 31).toUInt32).toInt32) &&& (1 : Int32)))), .val (.int d1), .val (.int d2), .val (.ref b2), .val (.int (2 : Int32)), .val (.int ((d1 * (10 : Int32)) + d2)), .unset, .unset, .unset]) at_152 rfl rfl
      replace R := R.iload (pc' := 156) (v := (0 : Int32)) at_154 rfl rfl
      replace R := R.ifY (pc' := 165) at_156 (teq (by decide : (0 : Int32) = (0 : Int32))).1 (by decide) rfl
      replace R := R.iload (pc' := 167) (v := ((d1 * (10 : Int32)) + d2)) at_165 rfl rfl
      replace R := R.istore (pc' := 169) (l' := #[.val (.int i0), .val (.int i1), .val (.int i2), .val (.int i3), .val (.int i4), .val (.int (i0 &&& (3 : Int32))), .val (.int c0), .val (.int c1), .val (.int c2), .val (.int (0 : Int32)), .val (.int ((1 : Int32) + (((i2.toUInt32 >>> ((1 : Int32) &&& 31).toUInt32).toInt32) &&& (1 : Int32)))), .val (.int d1), .val (.int d2), .val (.ref b2), .val (.int (2 : Int32)), .val (.int ((d1 * (10 : Int32)) + d2)), .val (.int ((d1 * (10 : Int32)) + d2)), .unset, .unset]) at_167 rfl rfl
      obtain ⟨h6, b6, g6, E6, X6, D6, R⟩ := R.newO (pc' := 172) (own_w2 hw) (own_w3 hw) (own_w4 hw) at_169 (by decide) (by decide) rfl
      have F6_quoted : Fld Z h6 b6 "com/example/pinsheet/pinsheet/WholeNumbers$Reading" "quoted" "[C" .null := D6 (Or.inr (own_w12 hw)) (ty := (.array .char)) (by decide)
      have F6_wellFormed : Fld Z h6 b6 "com/example/pinsheet/pinsheet/WholeNumbers$Reading" "wellFormed" "Z" (.int (0 : Int32)) := D6 (Or.inl (own_w14 hw)) (ty := .boolean) (by decide)
      have F6_quotedLength : Fld Z h6 b6 "com/example/pinsheet/pinsheet/WholeNumbers$Reading" "quotedLength" "I" (.int (0 : Int32)) := D6 (Or.inl (own_w21 hw)) (ty := .int) (by decide)
      have F6_cut : Fld Z h6 b6 "com/example/pinsheet/pinsheet/WholeNumbers$Reading" "cut" "Z" (.int (0 : Int32)) := D6 (Or.inl (own_w23 hw)) (ty := .boolean) (by decide)
      have F6_negative : Fld Z h6 b6 "com/example/pinsheet/pinsheet/WholeNumbers$Reading" "negative" "Z" (.int (0 : Int32)) := D6 (Or.inl (own_w25 hw)) (ty := .boolean) (by decide)
      have F6_digits : Fld Z h6 b6 "com/example/pinsheet/pinsheet/WholeNumbers$Reading" "digits" "Z" (.int (0 : Int32)) := D6 (Or.inl (own_w27 hw)) (ty := .boolean) (by decide)
      have F6_magnitude : Fld Z h6 b6 "com/example/pinsheet/pinsheet/WholeNumbers$Reading" "magnitude" "J" (.long (0 : Int64)) := D6 (Or.inl (own_w29 hw)) (ty := .long) (by decide)
      replace R := R.dup (pc' := 173) at_172 rfl rfl
      have K7 := ((Keep.refl h5 []).trans ((Keep.refl h5 []).ext E6) all0)
      have F8 := V5p.keep K7 nin0
      have hbt := F8.lt
      have nta : b6 ≠ b2 := Exa.neArv X6 F8 (own_w3 hw)
      obtain ⟨_, hR, _, ⟨q, kq, vs0, rfl, hvs0, KR, naq, hqs, XR, FR_quoted, FR_quotedLength, FR_cut, FR_negative, FR_digits, FR_wellFormed, FR_magnitude, VR, rfl⟩, R⟩ := R.callI (pc' := 176) (a := b6) (argsL := []) (rest := [(.ref b6)]) (W := 1) rfl (own_w5 hw) (own_w6 hw) (own_w4 hw) (own_w7 hw) (by decide) (rm_rinit C.l Z a0 hw b6 h6 n0 (b6 :: b2 :: Ds) (List.mem_of_getElem? (i := 0) rfl) X6 F6_quoted F6_quotedLength F6_cut F6_negative F6_digits F6_wellFormed F6_magnitude) rfl (lenOf own_pd13 rfl) rfl rfl at_173 (by decide) (by decide) (by decide) (by decide) rfl
      have nbq : b2 ≠ q := fun e => by rw [e] at hbt; exact Nat.lt_irrefl _ (Nat.lt_of_lt_of_le hbt hqs)
      replace R := R.mono (ce' := 3) (sl' := 42) (by decide) (by decide)
      replace R := R.stk (S' := [(.ref b6)]) rfl
      replace R := R.astore (pc' := 178) (l' := #[.val (.int i0), .val (.int i1), .val (.int i2), .val (.int i3), .val (.int i4), .val (.int (i0 &&& (3 : Int32))), .val (.int c0), .val (.int c1), .val (.int c2), .val (.int (0 : Int32)), .val (.int ((1 : Int32) + (((i2.toUInt32 >>> ((1 : Int32) &&& 31).toUInt32).toInt32) &&& (1 : Int32)))), .val (.int d1), .val (.int d2), .val (.ref b2), .val (.int (2 : Int32)), .val (.int ((d1 * (10 : Int32)) + d2)), .val (.int ((d1 * (10 : Int32)) + d2)), .val (.ref b6), .unset]) at_176 rfl rfl rfl
      obtain ⟨h9, k9, ng9, dg9, wf9, mg9, vs9, hk9, hvs9, K9, X9, F9_quoted, F9_quotedLength, F9_cut, F9_negative, F9_digits, F9_wellFormed, F9_magnitude, V9, R⟩ : ∃ (h9 : Heap) (k9 : Nat) (ng9 dg9 wf9 : Int32) (mg9 : Int64) (vs9 : List Value), k9 ≤ 1 ∧ vs9.length = 32 ∧ Keep hR h9 [b6, q] ∧ Exa Z h9 b6 "com/example/pinsheet/pinsheet/WholeNumbers$Reading" ∧ Fld Z h9 b6 "com/example/pinsheet/pinsheet/WholeNumbers$Reading" "quoted" "[C" (.ref q) ∧ Fld Z h9 b6 "com/example/pinsheet/pinsheet/WholeNumbers$Reading" "quotedLength" "I" (.int (Int32.ofNat k9)) ∧ Fld Z h9 b6 "com/example/pinsheet/pinsheet/WholeNumbers$Reading" "cut" "Z" (.int (0 : Int32)) ∧ Fld Z h9 b6 "com/example/pinsheet/pinsheet/WholeNumbers$Reading" "negative" "Z" (.int ng9) ∧ Fld Z h9 b6 "com/example/pinsheet/pinsheet/WholeNumbers$Reading" "digits" "Z" (.int dg9) ∧ Fld Z h9 b6 "com/example/pinsheet/pinsheet/WholeNumbers$Reading" "wellFormed" "Z" (.int wf9) ∧ Fld Z h9 b6 "com/example/pinsheet/pinsheet/WholeNumbers$Reading" "magnitude" "J" (.long mg9) ∧ Arv Z h9 q kq .char (32 : Int32) vs9 (.int 0) ∧ Rc C room_1 "com/example/pinsheet/pinsheet/ReadingClearPinLaw" code maxLocals Z n0 3 42 191 #[.val (.int i0), .val (.int i1), .val (.int i2), .val (.int i3), .val (.int i4), .val (.int (i0 &&& (3 : Int32))), .val (.int c0), .val (.int c1), .val (.int c2), .val (.int (0 : Int32)), .val (.int ((1 : Int32) + (((i2.toUInt32 >>> ((1 : Int32) &&& 31).toUInt32).toInt32) &&& (1 : Int32)))), .val (.int d1), .val (.int d2), .val (.ref b2), .val (.int (2 : Int32)), .val (.int ((d1 * (10 : Int32)) + d2)), .val (.int ((d1 * (10 : Int32)) + d2)), .val (.ref b6), .unset] [] h9 (q :: b6 :: b2 :: Ds) := by
        replace R := R.iload (pc' := 180) (v := (i0 &&& (3 : Int32))) at_178 rfl rfl
        replace R := R.iconst (pc' := 181) (z := (1 : Int32)) at_180 rfl rfl
        by_cases hc10 : (i0 &&& (3 : Int32)) < (1 : Int32)
        · replace R := R.icmpY (pc' := 191) at_181 (tlt hc10).1 (by decide) rfl
          have hK : Keep hR hR [b6, q] := Keep.refl hR [b6, q]
          exact ⟨hR, 0, _, _, _, _, _, (by have q := (Nat.le_refl 0); omega), hvs0, hK, XR, FR_quoted, FR_quotedLength, FR_cut, FR_negative, FR_digits, FR_wellFormed, FR_magnitude, VR, R.mono (ce' := 3) (sl' := 42) (by decide) (by decide)⟩
        · replace R := R.icmpN (pc' := 184) at_181 (flt hc10).1 rfl
          replace R := R.aload (pc' := 186) (v := (.ref b6)) at_184 rfl rfl rfl
          replace R := R.iload (pc' := 188) (v := c0) at_186 rfl rfl
          obtain ⟨_, h11, _, ⟨ng11, dg11, wf11, mg11, e_ng11, e_dg11, e_wf11, e_mg11, rfl, K11, X11, F11_quoted, F11_quotedLength, F11_cut, F11_negative, F11_digits, F11_wellFormed, F11_magnitude, V11, rfl⟩, R⟩ := R.callV (pc' := 191) (y := (⟨"com/example/pinsheet/pinsheet/WholeNumbers$Reading", "add", "(C)V"⟩ : MethodName)) (z := (⟨"com/example/pinsheet/pinsheet/WholeNumbers$Reading", "add", "(C)V"⟩ : MethodName)) (argsL := [(.int c0)]) (rest := []) (W := 0) (own_w30 hw) (own_w31 hw) (fun s' hZ' => notFace_of_selects (args := #[]) (mvT hZ' (own_w33 hw))) (own_w33 hw) (own_w32 hw) (own_w4 hw) (own_w34 hw) (by decide) XR (rm_add C.l Z a0 hw b6 c0 hR n0 (q :: b6 :: b2 :: Ds) (k := 0) (vs := vs0) (List.mem_of_getElem? (i := 1) rfl) (List.mem_of_getElem? (i := 0) rfl) naq rfl (by decide) hvs0 (nar_of hbc0) XR FR_quoted FR_quotedLength FR_cut FR_negative FR_digits FR_wellFormed FR_magnitude VR) rfl (lenOf own_pd14 rfl) rfl rfl at_188 (by decide) (by decide) (by decide) (by decide) rfl
          have G11_n : Fld Z h11 b6 "com/example/pinsheet/pinsheet/WholeNumbers$Reading" "quotedLength" "I" (.int (1 : Int32)) := F11_quotedLength
          replace R := R.mono (ce' := 3) (sl' := 42) (by decide) (by decide)
          replace R := R.stk (S' := []) rfl
          have hK : Keep hR h11 [b6, q] := ((Keep.refl hR [b6, q]).trans K11 (allS (Or.inl (List.mem_of_getElem? (i := 0) rfl)) (allS (Or.inl (List.mem_of_getElem? (i := 1) rfl)) all0)))
          exact ⟨h11, (0 + 1), _, _, _, _, _, (by have q := (Nat.le_refl 0); omega), (by rw [List.length_set]; exact hvs0), hK, X11, F11_quoted, G11_n, F11_cut, F11_negative, F11_digits, F11_wellFormed, F11_magnitude, V11, R.mono (ce' := 3) (sl' := 42) (by decide) (by decide)⟩
      obtain ⟨h12, k12, ng12, dg12, wf12, mg12, vs12, hk12, hvs12, K12, X12, F12_quoted, F12_quotedLength, F12_cut, F12_negative, F12_digits, F12_wellFormed, F12_magnitude, V12, R⟩ : ∃ (h12 : Heap) (k12 : Nat) (ng12 dg12 wf12 : Int32) (mg12 : Int64) (vs12 : List Value), k12 ≤ 2 ∧ vs12.length = 32 ∧ Keep h9 h12 [b6, q] ∧ Exa Z h12 b6 "com/example/pinsheet/pinsheet/WholeNumbers$Reading" ∧ Fld Z h12 b6 "com/example/pinsheet/pinsheet/WholeNumbers$Reading" "quoted" "[C" (.ref q) ∧ Fld Z h12 b6 "com/example/pinsheet/pinsheet/WholeNumbers$Reading" "quotedLength" "I" (.int (Int32.ofNat k12)) ∧ Fld Z h12 b6 "com/example/pinsheet/pinsheet/WholeNumbers$Reading" "cut" "Z" (.int (0 : Int32)) ∧ Fld Z h12 b6 "com/example/pinsheet/pinsheet/WholeNumbers$Reading" "negative" "Z" (.int ng12) ∧ Fld Z h12 b6 "com/example/pinsheet/pinsheet/WholeNumbers$Reading" "digits" "Z" (.int dg12) ∧ Fld Z h12 b6 "com/example/pinsheet/pinsheet/WholeNumbers$Reading" "wellFormed" "Z" (.int wf12) ∧ Fld Z h12 b6 "com/example/pinsheet/pinsheet/WholeNumbers$Reading" "magnitude" "J" (.long mg12) ∧ Arv Z h12 q kq .char (32 : Int32) vs12 (.int 0) ∧ Rc C room_1 "com/example/pinsheet/pinsheet/ReadingClearPinLaw" code maxLocals Z n0 3 42 204 #[.val (.int i0), .val (.int i1), .val (.int i2), .val (.int i3), .val (.int i4), .val (.int (i0 &&& (3 : Int32))), .val (.int c0), .val (.int c1), .val (.int c2), .val (.int (0 : Int32)), .val (.int ((1 : Int32) + (((i2.toUInt32 >>> ((1 : Int32) &&& 31).toUInt32).toInt32) &&& (1 : Int32)))), .val (.int d1), .val (.int d2), .val (.ref b2), .val (.int (2 : Int32)), .val (.int ((d1 * (10 : Int32)) + d2)), .val (.int ((d1 * (10 : Int32)) + d2)), .val (.ref b6), .unset] [] h12 (q :: b6 :: b2 :: Ds) := by
        replace R := R.iload (pc' := 193) (v := (i0 &&& (3 : Int32))) at_191 rfl rfl
        replace R := R.iconst (pc' := 194) (z := (2 : Int32)) at_193 rfl rfl
        by_cases hc13 : (i0 &&& (3 : Int32)) < (2 : Int32)
        · replace R := R.icmpY (pc' := 204) at_194 (tlt hc13).1 (by decide) rfl
          have hK : Keep h9 h9 [b6, q] := Keep.refl h9 [b6, q]
          exact ⟨h9, k9, _, _, _, _, _, (by have q := hk9; omega), hvs9, hK, X9, F9_quoted, F9_quotedLength, F9_cut, F9_negative, F9_digits, F9_wellFormed, F9_magnitude, V9, R.mono (ce' := 3) (sl' := 42) (by decide) (by decide)⟩
        · replace R := R.icmpN (pc' := 197) at_194 (flt hc13).1 rfl
          replace R := R.aload (pc' := 199) (v := (.ref b6)) at_197 rfl rfl rfl
          replace R := R.iload (pc' := 201) (v := c1) at_199 rfl rfl
          obtain ⟨_, h14, _, ⟨ng14, dg14, wf14, mg14, e_ng14, e_dg14, e_wf14, e_mg14, rfl, K14, X14, F14_quoted, F14_quotedLength, F14_cut, F14_negative, F14_digits, F14_wellFormed, F14_magnitude, V14, rfl⟩, R⟩ := R.callV (pc' := 204) (y := (⟨"com/example/pinsheet/pinsheet/WholeNumbers$Reading", "add", "(C)V"⟩ : MethodName)) (z := (⟨"com/example/pinsheet/pinsheet/WholeNumbers$Reading", "add", "(C)V"⟩ : MethodName)) (argsL := [(.int c1)]) (rest := []) (W := 0) (own_w30 hw) (own_w31 hw) (fun s' hZ' => notFace_of_selects (args := #[]) (mvT hZ' (own_w33 hw))) (own_w33 hw) (own_w32 hw) (own_w4 hw) (own_w34 hw) (by decide) X9 (rm_add C.l Z a0 hw b6 c1 h9 n0 (q :: b6 :: b2 :: Ds) (k := k9) (vs := vs9) (List.mem_of_getElem? (i := 1) rfl) (List.mem_of_getElem? (i := 0) rfl) naq rfl (by omega) hvs9 (nar_of hbc1) X9 F9_quoted F9_quotedLength F9_cut F9_negative F9_digits F9_wellFormed F9_magnitude V9) rfl (lenOf own_pd14 rfl) rfl rfl at_201 (by decide) (by decide) (by decide) (by decide) rfl
          replace R := R.mono (ce' := 3) (sl' := 42) (by decide) (by decide)
          replace R := R.stk (S' := []) rfl
          have hK : Keep h9 h14 [b6, q] := ((Keep.refl h9 [b6, q]).trans K14 (allS (Or.inl (List.mem_of_getElem? (i := 0) rfl)) (allS (Or.inl (List.mem_of_getElem? (i := 1) rfl)) all0)))
          have Fn := F14_quotedLength
          rw [i32_succ] at Fn
          exact ⟨h14, (k9 + 1), _, _, _, _, _, (by have q := hk9; omega), (by rw [List.length_set]; exact hvs9), hK, X14, F14_quoted, Fn, F14_cut, F14_negative, F14_digits, F14_wellFormed, F14_magnitude, V14, R.mono (ce' := 3) (sl' := 42) (by decide) (by decide)⟩
      obtain ⟨h15, k15, ng15, dg15, wf15, mg15, vs15, hk15, hvs15, K15, X15, F15_quoted, F15_quotedLength, F15_cut, F15_negative, F15_digits, F15_wellFormed, F15_magnitude, V15, R⟩ : ∃ (h15 : Heap) (k15 : Nat) (ng15 dg15 wf15 : Int32) (mg15 : Int64) (vs15 : List Value), k15 ≤ 3 ∧ vs15.length = 32 ∧ Keep h12 h15 [b6, q] ∧ Exa Z h15 b6 "com/example/pinsheet/pinsheet/WholeNumbers$Reading" ∧ Fld Z h15 b6 "com/example/pinsheet/pinsheet/WholeNumbers$Reading" "quoted" "[C" (.ref q) ∧ Fld Z h15 b6 "com/example/pinsheet/pinsheet/WholeNumbers$Reading" "quotedLength" "I" (.int (Int32.ofNat k15)) ∧ Fld Z h15 b6 "com/example/pinsheet/pinsheet/WholeNumbers$Reading" "cut" "Z" (.int (0 : Int32)) ∧ Fld Z h15 b6 "com/example/pinsheet/pinsheet/WholeNumbers$Reading" "negative" "Z" (.int ng15) ∧ Fld Z h15 b6 "com/example/pinsheet/pinsheet/WholeNumbers$Reading" "digits" "Z" (.int dg15) ∧ Fld Z h15 b6 "com/example/pinsheet/pinsheet/WholeNumbers$Reading" "wellFormed" "Z" (.int wf15) ∧ Fld Z h15 b6 "com/example/pinsheet/pinsheet/WholeNumbers$Reading" "magnitude" "J" (.long mg15) ∧ Arv Z h15 q kq .char (32 : Int32) vs15 (.int 0) ∧ Rc C room_1 "com/example/pinsheet/pinsheet/ReadingClearPinLaw" code maxLocals Z n0 3 42 217 #[.val (.int i0), .val (.int i1), .val (.int i2), .val (.int i3), .val (.int i4), .val (.int (i0 &&& (3 : Int32))), .val (.int c0), .val (.int c1), .val (.int c2), .val (.int (0 : Int32)), .val (.int ((1 : Int32) + (((i2.toUInt32 >>> ((1 : Int32) &&& 31).toUInt32).toInt32) &&& (1 : Int32)))), .val (.int d1), .val (.int d2), .val (.ref b2), .val (.int (2 : Int32)), .val (.int ((d1 * (10 : Int32)) + d2)), .val (.int ((d1 * (10 : Int32)) + d2)), .val (.ref b6), .unset] [] h15 (q :: b6 :: b2 :: Ds) := by
        replace R := R.iload (pc' := 206) (v := (i0 &&& (3 : Int32))) at_204 rfl rfl
        replace R := R.iconst (pc' := 207) (z := (3 : Int32)) at_206 rfl rfl
        by_cases hc16 : (i0 &&& (3 : Int32)) < (3 : Int32)
        · replace R := R.icmpY (pc' := 217) at_207 (tlt hc16).1 (by decide) rfl
          have hK : Keep h12 h12 [b6, q] := Keep.refl h12 [b6, q]
          exact ⟨h12, k12, _, _, _, _, _, (by have q := hk12; omega), hvs12, hK, X12, F12_quoted, F12_quotedLength, F12_cut, F12_negative, F12_digits, F12_wellFormed, F12_magnitude, V12, R.mono (ce' := 3) (sl' := 42) (by decide) (by decide)⟩
        · replace R := R.icmpN (pc' := 210) at_207 (flt hc16).1 rfl
          replace R := R.aload (pc' := 212) (v := (.ref b6)) at_210 rfl rfl rfl
          replace R := R.iload (pc' := 214) (v := c2) at_212 rfl rfl
          obtain ⟨_, h17, _, ⟨ng17, dg17, wf17, mg17, e_ng17, e_dg17, e_wf17, e_mg17, rfl, K17, X17, F17_quoted, F17_quotedLength, F17_cut, F17_negative, F17_digits, F17_wellFormed, F17_magnitude, V17, rfl⟩, R⟩ := R.callV (pc' := 217) (y := (⟨"com/example/pinsheet/pinsheet/WholeNumbers$Reading", "add", "(C)V"⟩ : MethodName)) (z := (⟨"com/example/pinsheet/pinsheet/WholeNumbers$Reading", "add", "(C)V"⟩ : MethodName)) (argsL := [(.int c2)]) (rest := []) (W := 0) (own_w30 hw) (own_w31 hw) (fun s' hZ' => notFace_of_selects (args := #[]) (mvT hZ' (own_w33 hw))) (own_w33 hw) (own_w32 hw) (own_w4 hw) (own_w34 hw) (by decide) X12 (rm_add C.l Z a0 hw b6 c2 h12 n0 (q :: b6 :: b2 :: Ds) (k := k12) (vs := vs12) (List.mem_of_getElem? (i := 1) rfl) (List.mem_of_getElem? (i := 0) rfl) naq rfl (by omega) hvs12 (nar_of hbc2) X12 F12_quoted F12_quotedLength F12_cut F12_negative F12_digits F12_wellFormed F12_magnitude V12) rfl (lenOf own_pd14 rfl) rfl rfl at_214 (by decide) (by decide) (by decide) (by decide) rfl
          replace R := R.mono (ce' := 3) (sl' := 42) (by decide) (by decide)
          replace R := R.stk (S' := []) rfl
          have hK : Keep h12 h17 [b6, q] := ((Keep.refl h12 [b6, q]).trans K17 (allS (Or.inl (List.mem_of_getElem? (i := 0) rfl)) (allS (Or.inl (List.mem_of_getElem? (i := 1) rfl)) all0)))
          have Fn := F17_quotedLength
          rw [i32_succ] at Fn
          exact ⟨h17, (k12 + 1), _, _, _, _, _, (by have q := hk12; omega), (by rw [List.length_set]; exact hvs12), hK, X17, F17_quoted, Fn, F17_cut, F17_negative, F17_digits, F17_wellFormed, F17_magnitude, V17, R.mono (ce' := 3) (sl' := 42) (by decide) (by decide)⟩
      replace R := R.aload (pc' := 219) (v := (.ref b6)) at_217 rfl rfl rfl
      obtain ⟨_, h18, _, ⟨rfl, K18, X18, F18_quoted, F18_quotedLength, F18_cut, F18_negative, F18_digits, F18_wellFormed, F18_magnitude, rfl⟩, R⟩ := R.callV (pc' := 222) (y := (⟨"com/example/pinsheet/pinsheet/WholeNumbers$Reading", "clear", "()V"⟩ : MethodName)) (z := (⟨"com/example/pinsheet/pinsheet/WholeNumbers$Reading", "clear", "()V"⟩ : MethodName)) (argsL := []) (rest := []) (W := 0) (own_w15 hw) (own_w16 hw) (fun s' hZ' => notFace_of_selects (args := #[]) (mvT hZ' (own_w18 hw))) (own_w18 hw) (own_w17 hw) (own_w4 hw) (own_w19 hw) (by decide) X15 (rm_clear C.l Z a0 hw b6 h15 n0 (q :: b6 :: b2 :: Ds) (List.mem_of_getElem? (i := 1) rfl) X15 F15_quoted F15_quotedLength F15_cut F15_negative F15_digits F15_wellFormed F15_magnitude) rfl (lenOf own_pd13 rfl) rfl rfl at_219 (by decide) (by decide) (by decide) (by decide) rfl
      replace R := R.mono (ce' := 3) (sl' := 42) (by decide) (by decide)
      replace R := R.stk (S' := []) rfl
      obtain ⟨v0, v1, v2, tl, rfl⟩ : ∃ v0 v1 v2 tl, vs15 = v0 :: v1 :: v2 :: tl := by
        match vs15, hvs15 with
        | v0 :: v1 :: v2 :: tl, _ => exact ⟨v0, v1, v2, tl, rfl⟩
      have hvt := hvs15
      replace R := R.iload (pc' := 224) (v := (2 : Int32)) at_222 rfl rfl
      replace R := R.iconst (pc' := 225) (z := (1 : Int32)) at_224 rfl rfl
      replace R := R.icmpN (pc' := 228) at_225 (flt (by decide : ¬ ((2 : Int32) < (1 : Int32)))).1 rfl
      replace R := R.aload (pc' := 230) (v := (.ref b6)) at_228 rfl rfl rfl
      replace R := R.aload (pc' := 232) (v := (.ref b2)) at_230 rfl rfl rfl
      replace R := R.iconst (pc' := 233) (z := (0 : Int32)) at_232 rfl rfl
      have K19 := ((((((Keep.refl h6 [b6, q]).trans KR (allS (Or.inl (List.mem_of_getElem? (i := 0) rfl)) all0)).trans K9 (allS (Or.inl (List.mem_of_getElem? (i := 0) rfl)) (allS (Or.inl (List.mem_of_getElem? (i := 1) rfl)) all0))).trans K12 (allS (Or.inl (List.mem_of_getElem? (i := 0) rfl)) (allS (Or.inl (List.mem_of_getElem? (i := 1) rfl)) all0))).trans K15 (allS (Or.inl (List.mem_of_getElem? (i := 0) rfl)) (allS (Or.inl (List.mem_of_getElem? (i := 1) rfl)) all0))).trans K18 (allS (Or.inl (List.mem_of_getElem? (i := 0) rfl)) all0))
      have F20 := F8.keep K19 (ninS (Ne.symm nta) (ninS nbq nin0))
      replace R := R.caload (pc' := 234) (v := (.int x1)) F20 ⟨by decide, by decide⟩ rfl at_233 rfl
      have K22 := ((Keep.refl h15 [b6]).trans K18 (allS (Or.inl (List.mem_of_getElem? (i := 0) rfl)) all0))
      have F23 := V15.keep K22 (ninS (Ne.symm naq) nin0)
      obtain ⟨_, h21, _, ⟨ng21, dg21, wf21, mg21, e_ng21, e_dg21, e_wf21, e_mg21, rfl, K21, X21, F21_quoted, F21_quotedLength, F21_cut, F21_negative, F21_digits, F21_wellFormed, F21_magnitude, V21, rfl⟩, R⟩ := R.callV (pc' := 237) (y := (⟨"com/example/pinsheet/pinsheet/WholeNumbers$Reading", "add", "(C)V"⟩ : MethodName)) (z := (⟨"com/example/pinsheet/pinsheet/WholeNumbers$Reading", "add", "(C)V"⟩ : MethodName)) (argsL := [(.int x1)]) (rest := []) (W := 0) (own_w30 hw) (own_w31 hw) (fun s' hZ' => notFace_of_selects (args := #[]) (mvT hZ' (own_w33 hw))) (own_w33 hw) (own_w32 hw) (own_w4 hw) (own_w34 hw) (by decide) X18 (rm_add C.l Z a0 hw b6 x1 h18 n0 (q :: b6 :: b2 :: Ds) (k := 0) (vs := (v0 :: v1 :: v2 :: tl)) (List.mem_of_getElem? (i := 1) rfl) (List.mem_of_getElem? (i := 0) rfl) naq rfl (by decide) hvt (nar_of hbx1) X18 F18_quoted F18_quotedLength F18_cut F18_negative F18_digits F18_wellFormed F18_magnitude F23) rfl (lenOf own_pd14 rfl) rfl rfl at_234 (by decide) (by decide) (by decide) (by decide) rfl
      have G21_n : Fld Z h21 b6 "com/example/pinsheet/pinsheet/WholeNumbers$Reading" "quotedLength" "I" (.int (1 : Int32)) := F21_quotedLength
      have W21 : Arv Z h21 q kq .char (32 : Int32) ((.int x1) :: v1 :: v2 :: tl) (.int 0) := V21
      replace R := R.mono (ce' := 3) (sl' := 42) (by decide) (by decide)
      replace R := R.stk (S' := []) rfl
      replace R := R.iload (pc' := 239) (v := (2 : Int32)) at_237 rfl rfl
      replace R := R.iconst (pc' := 240) (z := (2 : Int32)) at_239 rfl rfl
      replace R := R.icmpN (pc' := 243) at_240 (flt (by decide : ¬ ((2 : Int32) < (2 : Int32)))).1 rfl
      replace R := R.aload (pc' := 245) (v := (.ref b6)) at_243 rfl rfl rfl
      replace R := R.aload (pc' := 247) (v := (.ref b2)) at_245 rfl rfl rfl
      replace R := R.iconst (pc' := 248) (z := (1 : Int32)) at_247 rfl rfl
      have K24 := ((Keep.refl h18 [b6, q]).trans K21 (allS (Or.inl (List.mem_of_getElem? (i := 0) rfl)) (allS (Or.inl (List.mem_of_getElem? (i := 1) rfl)) all0)))
      have F25 := F20.keep K24 (ninS (Ne.symm nta) (ninS nbq nin0))
      replace R := R.caload (pc' := 249) (v := (.int x2)) F25 ⟨by decide, by decide⟩ rfl at_248 rfl
      obtain ⟨_, h26, _, ⟨ng26, dg26, wf26, mg26, e_ng26, e_dg26, e_wf26, e_mg26, rfl, K26, X26, F26_quoted, F26_quotedLength, F26_cut, F26_negative, F26_digits, F26_wellFormed, F26_magnitude, V26, rfl⟩, R⟩ := R.callV (pc' := 252) (y := (⟨"com/example/pinsheet/pinsheet/WholeNumbers$Reading", "add", "(C)V"⟩ : MethodName)) (z := (⟨"com/example/pinsheet/pinsheet/WholeNumbers$Reading", "add", "(C)V"⟩ : MethodName)) (argsL := [(.int x2)]) (rest := []) (W := 0) (own_w30 hw) (own_w31 hw) (fun s' hZ' => notFace_of_selects (args := #[]) (mvT hZ' (own_w33 hw))) (own_w33 hw) (own_w32 hw) (own_w4 hw) (own_w34 hw) (by decide) X21 (rm_add C.l Z a0 hw b6 x2 h21 n0 (q :: b6 :: b2 :: Ds) (k := 1) (vs := ((.int x1) :: v1 :: v2 :: tl)) (List.mem_of_getElem? (i := 1) rfl) (List.mem_of_getElem? (i := 0) rfl) naq rfl (by decide) hvt (nar_of hbx2) X21 F21_quoted G21_n F21_cut F21_negative F21_digits F21_wellFormed F21_magnitude W21) rfl (lenOf own_pd14 rfl) rfl rfl at_249 (by decide) (by decide) (by decide) (by decide) rfl
      have G26_n : Fld Z h26 b6 "com/example/pinsheet/pinsheet/WholeNumbers$Reading" "quotedLength" "I" (.int (2 : Int32)) := F26_quotedLength
      have W26 : Arv Z h26 q kq .char (32 : Int32) ((.int x1) :: (.int x2) :: v2 :: tl) (.int 0) := V26
      replace R := R.mono (ce' := 3) (sl' := 42) (by decide) (by decide)
      replace R := R.stk (S' := []) rfl
      replace R := R.iload (pc' := 254) (v := (2 : Int32)) at_252 rfl rfl
      replace R := R.iconst (pc' := 255) (z := (3 : Int32)) at_254 rfl rfl
      replace R := R.icmpY (pc' := 267) at_255 (tlt (by decide : (2 : Int32) < (3 : Int32))).1 (by decide) rfl
      replace R := R.aload (pc' := 269) (v := (.ref b6)) at_267 rfl rfl rfl
      obtain ⟨_, h27, _, ⟨r27, rfl, S27, K27, rfl⟩, R⟩ := R.callV (pc' := 272) (y := (⟨"com/example/pinsheet/pinsheet/WholeNumbers$Reading", "text", "()Ljava/lang/String;"⟩ : MethodName)) (z := (⟨"com/example/pinsheet/pinsheet/WholeNumbers$Reading", "text", "()Ljava/lang/String;"⟩ : MethodName)) (argsL := []) (rest := []) (W := 0) (own_w37 hw) (own_w38 hw) (fun s' hZ' => notFace_of_selects (args := #[]) (mvT hZ' (own_w40 hw))) (own_w40 hw) (own_w39 hw) (own_w4 hw) (own_w41 hw) (by decide) X26 (rm_text2 C.l Z a0 hw b6 h26 n0 (q :: b6 :: b2 :: Ds) own_cs own_si (chS hbx1 (chS hbx2 ch0)) W26 F26_quoted G26_n) rfl (lenOf own_pd15 rfl) rfl rfl at_269 (by decide) (by decide) (by decide) (by decide) rfl
      replace R := R.mono (ce' := 5) (sl' := 48) (by decide) (by decide)
      replace R := R.stk (S' := [(.ref r27)]) rfl
      replace R := R.astore (pc' := 274) (l' := #[.val (.int i0), .val (.int i1), .val (.int i2), .val (.int i3), .val (.int i4), .val (.int (i0 &&& (3 : Int32))), .val (.int c0), .val (.int c1), .val (.int c2), .val (.int (0 : Int32)), .val (.int ((1 : Int32) + (((i2.toUInt32 >>> ((1 : Int32) &&& 31).toUInt32).toInt32) &&& (1 : Int32)))), .val (.int d1), .val (.int d2), .val (.ref b2), .val (.int (2 : Int32)), .val (.int ((d1 * (10 : Int32)) + d2)), .val (.int ((d1 * (10 : Int32)) + d2)), .val (.ref b6), .val (.ref r27)]) at_272 rfl rfl rfl
      replace R := R.aload (pc' := 276) (v := (.ref r27)) at_274 rfl rfl rfl
      obtain ⟨_, _, _, ⟨rfl, rfl, rfl⟩, R⟩ := R.callV (pc' := 279) (y := (⟨"java/lang/String", "length", "()I"⟩ : MethodName)) (z := (⟨"java/lang/String", "length", "()I"⟩ : MethodName)) (argsL := []) (rest := []) (W := 0) (own_w80 hw) (own_w81 hw) (fun s' hZ' => notFace_of_selects (args := #[]) (mvT hZ' (own_w83 hw))) (own_w83 hw) (own_w82 hw) (own_w44 hw) (own_w84 hw) (by decide) S27.1 (rm_length C.l Z a0 hw r27 h27 n0 (q :: b6 :: b2 :: Ds) own_cs S27) rfl (lenOf own_pd16 rfl) rfl rfl at_276 (by decide) (by decide) (by decide) (by decide) rfl
      replace R := R.mono (ce' := 5) (sl' := 48) (by decide) (by decide)
      replace R := R.stk (S' := [(.int (2 : Int32))]) rfl
      replace R := R.iload (pc' := 281) (v := (2 : Int32)) at_279 rfl rfl
      replace R := R.icmpY (pc' := 286) at_281 (teq (by decide : (2 : Int32) = (2 : Int32))).1 (by decide) rfl
      replace R := R.aload (pc' := 288) (v := (.ref r27)) at_286 rfl rfl rfl
      replace R := R.iconst (pc' := 289) (z := (0 : Int32)) at_288 rfl rfl
      obtain ⟨_, _, _, ⟨rfl, rfl, rfl⟩, R⟩ := R.callV (pc' := 292) (y := (⟨"java/lang/String", "charAt", "(I)C"⟩ : MethodName)) (z := (⟨"java/lang/String", "charAt", "(I)C"⟩ : MethodName)) (argsL := [(.int (0 : Int32))]) (rest := []) (W := 0) (own_w90 hw) (own_w91 hw) (fun s' hZ' => notFace_of_selects (args := #[]) (mvT hZ' (own_w93 hw))) (own_w93 hw) (own_w92 hw) (own_w44 hw) (own_w94 hw) (by decide) S27.1 (rm_charAt C.l Z a0 hw r27 (0 : Int32) h27 n0 (q :: b6 :: b2 :: Ds) own_cs own_si (k := 0) rfl (Nat.le_of_ble_eq_true rfl) S27) rfl (lenOf own_pd17 rfl) rfl rfl at_289 (by decide) (by decide) (by decide) (by decide) rfl
      replace R := R.mono (ce' := 5) (sl' := 48) (by decide) (by decide)
      replace R := R.stk (S' := [(.int x1)]) rfl
      replace R := R.aload (pc' := 294) (v := (.ref b2)) at_292 rfl rfl rfl
      replace R := R.iconst (pc' := 295) (z := (0 : Int32)) at_294 rfl rfl
      have K28 := (((Keep.refl h21 [b6, q]).trans K26 (allS (Or.inl (List.mem_of_getElem? (i := 0) rfl)) (allS (Or.inl (List.mem_of_getElem? (i := 1) rfl)) all0))).trans K27 all0)
      have F29 := F25.keep K28 (ninS (Ne.symm nta) (ninS nbq nin0))
      replace R := R.caload (pc' := 296) (v := (.int x1)) F29 ⟨by decide, by decide⟩ rfl at_295 rfl
      replace R := R.icmpY (pc' := 301) at_296 (teq (rfl : x1 = x1)).1 (by decide) rfl
      replace R := R.iload (pc' := 303) (v := (2 : Int32)) at_301 rfl rfl
      replace R := R.iconst (pc' := 304) (z := (2 : Int32)) at_303 rfl rfl
      replace R := R.icmpN (pc' := 307) at_304 (flt (by decide : ¬ ((2 : Int32) < (2 : Int32)))).1 rfl
      replace R := R.aload (pc' := 309) (v := (.ref r27)) at_307 rfl rfl rfl
      replace R := R.iconst (pc' := 310) (z := (1 : Int32)) at_309 rfl rfl
      obtain ⟨_, _, _, ⟨rfl, rfl, rfl⟩, R⟩ := R.callV (pc' := 313) (y := (⟨"java/lang/String", "charAt", "(I)C"⟩ : MethodName)) (z := (⟨"java/lang/String", "charAt", "(I)C"⟩ : MethodName)) (argsL := [(.int (1 : Int32))]) (rest := []) (W := 0) (own_w90 hw) (own_w91 hw) (fun s' hZ' => notFace_of_selects (args := #[]) (mvT hZ' (own_w93 hw))) (own_w93 hw) (own_w92 hw) (own_w44 hw) (own_w94 hw) (by decide) S27.1 (rm_charAt C.l Z a0 hw r27 (1 : Int32) h27 n0 (q :: b6 :: b2 :: Ds) own_cs own_si (k := 1) rfl (Nat.le_of_ble_eq_true rfl) S27) rfl (lenOf own_pd17 rfl) rfl rfl at_310 (by decide) (by decide) (by decide) (by decide) rfl
      replace R := R.mono (ce' := 5) (sl' := 48) (by decide) (by decide)
      replace R := R.stk (S' := [(.int x2)]) rfl
      replace R := R.aload (pc' := 315) (v := (.ref b2)) at_313 rfl rfl rfl
      replace R := R.iconst (pc' := 316) (z := (1 : Int32)) at_315 rfl rfl
      replace R := R.caload (pc' := 317) (v := (.int x2)) F29 ⟨by decide, by decide⟩ rfl at_316 rfl
      replace R := R.icmpY (pc' := 322) at_317 (teq (rfl : x2 = x2)).1 (by decide) rfl
      replace R := R.iload (pc' := 324) (v := (2 : Int32)) at_322 rfl rfl
      replace R := R.iconst (pc' := 325) (z := (3 : Int32)) at_324 rfl rfl
      replace R := R.icmpY (pc' := 343) at_325 (tlt (by decide : (2 : Int32) < (3 : Int32))).1 (by decide) rfl
      replace R := R.aload (pc' := 345) (v := (.ref b6)) at_343 rfl rfl rfl
      obtain ⟨h30, as, E30, R⟩ := R.ldcAny (pc' := 347) (n := 16) rfl rfl (own_w110 hw) wS at_345 (by decide +kernel) (by decide) (by decide) (by decide) rfl
      have hV : (¬ wf26 = 0) ∧ (¬ dg26 = 0) ∧ (¬ (0 : Int32) < lcmpW mg26 (2147483648 : Int64)) ∧ (¬ (0 : Int32) < lcmpW mg26 (2147483647 : Int64)) ∧ (s_val ng26 mg26) = ((d1 * (10 : Int32)) + d2) := by
        subst e_ng26 e_dg26 e_wf26 e_mg26
        subst e_ng21 e_dg21 e_wf21 e_mg21
        subst e_x1 e_x2
        rw [hd1, hd2]
        clear hd1 hd2
        revert jd1 jd2
        decide +kernel
      have K31 := (((Keep.refl h26 []).trans K27 all0).trans ((Keep.refl h27 []).ext E30) all0)
      have F32 := F26_quoted.keep K31 nin0
      have K33 := (((Keep.refl h26 []).trans K27 all0).trans ((Keep.refl h27 []).ext E30) all0)
      have F34 := G26_n.keep K33 nin0
      have K35 := (((Keep.refl h26 []).trans K27 all0).trans ((Keep.refl h27 []).ext E30) all0)
      have F36 := F26_cut.keep K35 nin0
      have K37 := (((Keep.refl h26 []).trans K27 all0).trans ((Keep.refl h27 []).ext E30) all0)
      have F38 := F26_negative.keep K37 nin0
      have K39 := (((Keep.refl h26 []).trans K27 all0).trans ((Keep.refl h27 []).ext E30) all0)
      have F40 := F26_digits.keep K39 nin0
      have K41 := (((Keep.refl h26 []).trans K27 all0).trans ((Keep.refl h27 []).ext E30) all0)
      have F42 := F26_wellFormed.keep K41 nin0
      have K43 := (((Keep.refl h26 []).trans K27 all0).trans ((Keep.refl h27 []).ext E30) all0)
      have F44 := F26_magnitude.keep K43 nin0
      have K45 := (((Keep.refl h26 []).trans K27 all0).trans ((Keep.refl h27 []).ext E30) all0)
      have F46 := X26.keep K45
      obtain ⟨_, _, _, ⟨rfl, rfl, rfl⟩, R⟩ := R.callV (pc' := 350) (y := (⟨"com/example/pinsheet/pinsheet/WholeNumbers$Reading", "value", "(Ljava/lang/String;)I"⟩ : MethodName)) (z := (⟨"com/example/pinsheet/pinsheet/WholeNumbers$Reading", "value", "(Ljava/lang/String;)I"⟩ : MethodName)) (argsL := [(.ref as)]) (rest := []) (W := 0) (own_w113 hw) (own_w114 hw) (fun s' hZ' => notFace_of_selects (args := #[]) (mvT hZ' (own_w116 hw))) (own_w116 hw) (own_w115 hw) (own_w4 hw) (own_w117 hw) (by decide) F46 (rm_value C.l Z a0 hw b6 as h30 n0 (q :: b6 :: b2 :: Ds) hV.1 hV.2.1 hV.2.2.1 hV.2.2.2.1 F32 F34 F36 F38 F40 F42 F44) rfl (lenOf own_pd18 rfl) rfl rfl at_347 (by decide) (by decide) (by decide) (by decide) rfl
      replace R := R.mono (ce' := 7) (sl' := 68) (by decide) (by decide)
      replace R := R.stk (S' := [(.int (s_val ng26 mg26))]) rfl
      replace R := R.iload (pc' := 352) (v := ((d1 * (10 : Int32)) + d2)) at_350 rfl rfl
      replace R := R.icmpN (pc' := 355) at_352 (teq hV.2.2.2.2).2 rfl
      replace R := R.iconst (pc' := 356) (z := (1 : Int32)) at_355 rfl rfl
      replace R := R.goto (pc' := 360) at_356 (by decide) rfl
      exact R.retN (Ds' := []) hret (by simp) (show nar .boolean 1 = 1 from rfl) at_360 (by decide) (by decide) (fun _ q => nomatch q) rfl
    · replace R := R.icmpY (pc' := 133) at_116 (feq hc4).2 (by decide) rfl
      replace R := R.iload (pc' := 135) (v := ((1 : Int32) + (((i2.toUInt32 >>> ((1 : Int32) &&& 31).toUInt32).toInt32) &&& (1 : Int32)))) at_133 rfl rfl
      replace R := R.iconst (pc' := 136) (z := (1 : Int32)) at_135 rfl rfl
      replace R := R.icmpN (pc' := 139) at_136 (teq (own_n2 hc4)).2 rfl
      replace R := R.iload (pc' := 141) (v := d1) at_139 rfl rfl
      replace R := R.goto (pc' := 152) at_141 (by decide) rfl
      replace R := R.istore (pc' := 154) (l' := #[.val (.int i0), .val (.int i1), .val (.int i2), .val (.int i3), .val (.int i4), .val (.int (i0 &&& (3 : Int32))), .val (.int c0), .val (.int c1), .val (.int c2), .val (.int (0 : Int32)), .val (.int ((1 : Int32) + (((i2.toUInt32 >>> ((1 : Int32) &&& 31).toUInt32).toInt32) &&& (1 : Int32)))), .val (.int d1), .val (.int d2), .val (.ref b2), .val (.int (1 : Int32)), .val (.int d1), .unset, .unset, .unset]) at_152 rfl rfl
      replace R := R.iload (pc' := 156) (v := (0 : Int32)) at_154 rfl rfl
      replace R := R.ifY (pc' := 165) at_156 (teq (by decide : (0 : Int32) = (0 : Int32))).1 (by decide) rfl
      replace R := R.iload (pc' := 167) (v := d1) at_165 rfl rfl
      replace R := R.istore (pc' := 169) (l' := #[.val (.int i0), .val (.int i1), .val (.int i2), .val (.int i3), .val (.int i4), .val (.int (i0 &&& (3 : Int32))), .val (.int c0), .val (.int c1), .val (.int c2), .val (.int (0 : Int32)), .val (.int ((1 : Int32) + (((i2.toUInt32 >>> ((1 : Int32) &&& 31).toUInt32).toInt32) &&& (1 : Int32)))), .val (.int d1), .val (.int d2), .val (.ref b2), .val (.int (1 : Int32)), .val (.int d1), .val (.int d1), .unset, .unset]) at_167 rfl rfl
      obtain ⟨h47, b47, g47, E47, X47, D47, R⟩ := R.newO (pc' := 172) (own_w2 hw) (own_w3 hw) (own_w4 hw) at_169 (by decide) (by decide) rfl
      have F47_quoted : Fld Z h47 b47 "com/example/pinsheet/pinsheet/WholeNumbers$Reading" "quoted" "[C" .null := D47 (Or.inr (own_w12 hw)) (ty := (.array .char)) (by decide)
      have F47_wellFormed : Fld Z h47 b47 "com/example/pinsheet/pinsheet/WholeNumbers$Reading" "wellFormed" "Z" (.int (0 : Int32)) := D47 (Or.inl (own_w14 hw)) (ty := .boolean) (by decide)
      have F47_quotedLength : Fld Z h47 b47 "com/example/pinsheet/pinsheet/WholeNumbers$Reading" "quotedLength" "I" (.int (0 : Int32)) := D47 (Or.inl (own_w21 hw)) (ty := .int) (by decide)
      have F47_cut : Fld Z h47 b47 "com/example/pinsheet/pinsheet/WholeNumbers$Reading" "cut" "Z" (.int (0 : Int32)) := D47 (Or.inl (own_w23 hw)) (ty := .boolean) (by decide)
      have F47_negative : Fld Z h47 b47 "com/example/pinsheet/pinsheet/WholeNumbers$Reading" "negative" "Z" (.int (0 : Int32)) := D47 (Or.inl (own_w25 hw)) (ty := .boolean) (by decide)
      have F47_digits : Fld Z h47 b47 "com/example/pinsheet/pinsheet/WholeNumbers$Reading" "digits" "Z" (.int (0 : Int32)) := D47 (Or.inl (own_w27 hw)) (ty := .boolean) (by decide)
      have F47_magnitude : Fld Z h47 b47 "com/example/pinsheet/pinsheet/WholeNumbers$Reading" "magnitude" "J" (.long (0 : Int64)) := D47 (Or.inl (own_w29 hw)) (ty := .long) (by decide)
      replace R := R.dup (pc' := 173) at_172 rfl rfl
      have K48 := ((Keep.refl h3 []).trans ((Keep.refl h3 []).ext E47) all0)
      have F49 := V3p.keep K48 nin0
      have hbt := F49.lt
      have nta : b47 ≠ b2 := Exa.neArv X47 F49 (own_w3 hw)
      obtain ⟨_, hR, _, ⟨q, kq, vs0, rfl, hvs0, KR, naq, hqs, XR, FR_quoted, FR_quotedLength, FR_cut, FR_negative, FR_digits, FR_wellFormed, FR_magnitude, VR, rfl⟩, R⟩ := R.callI (pc' := 176) (a := b47) (argsL := []) (rest := [(.ref b47)]) (W := 1) rfl (own_w5 hw) (own_w6 hw) (own_w4 hw) (own_w7 hw) (by decide) (rm_rinit C.l Z a0 hw b47 h47 n0 (b47 :: b2 :: Ds) (List.mem_of_getElem? (i := 0) rfl) X47 F47_quoted F47_quotedLength F47_cut F47_negative F47_digits F47_wellFormed F47_magnitude) rfl (lenOf own_pd13 rfl) rfl rfl at_173 (by decide) (by decide) (by decide) (by decide) rfl
      have nbq : b2 ≠ q := fun e => by rw [e] at hbt; exact Nat.lt_irrefl _ (Nat.lt_of_lt_of_le hbt hqs)
      replace R := R.mono (ce' := 3) (sl' := 42) (by decide) (by decide)
      replace R := R.stk (S' := [(.ref b47)]) rfl
      replace R := R.astore (pc' := 178) (l' := #[.val (.int i0), .val (.int i1), .val (.int i2), .val (.int i3), .val (.int i4), .val (.int (i0 &&& (3 : Int32))), .val (.int c0), .val (.int c1), .val (.int c2), .val (.int (0 : Int32)), .val (.int ((1 : Int32) + (((i2.toUInt32 >>> ((1 : Int32) &&& 31).toUInt32).toInt32) &&& (1 : Int32)))), .val (.int d1), .val (.int d2), .val (.ref b2), .val (.int (1 : Int32)), .val (.int d1), .val (.int d1), .val (.ref b47), .unset]) at_176 rfl rfl rfl
      obtain ⟨h50, k50, ng50, dg50, wf50, mg50, vs50, hk50, hvs50, K50, X50, F50_quoted, F50_quotedLength, F50_cut, F50_negative, F50_digits, F50_wellFormed, F50_magnitude, V50, R⟩ : ∃ (h50 : Heap) (k50 : Nat) (ng50 dg50 wf50 : Int32) (mg50 : Int64) (vs50 : List Value), k50 ≤ 1 ∧ vs50.length = 32 ∧ Keep hR h50 [b47, q] ∧ Exa Z h50 b47 "com/example/pinsheet/pinsheet/WholeNumbers$Reading" ∧ Fld Z h50 b47 "com/example/pinsheet/pinsheet/WholeNumbers$Reading" "quoted" "[C" (.ref q) ∧ Fld Z h50 b47 "com/example/pinsheet/pinsheet/WholeNumbers$Reading" "quotedLength" "I" (.int (Int32.ofNat k50)) ∧ Fld Z h50 b47 "com/example/pinsheet/pinsheet/WholeNumbers$Reading" "cut" "Z" (.int (0 : Int32)) ∧ Fld Z h50 b47 "com/example/pinsheet/pinsheet/WholeNumbers$Reading" "negative" "Z" (.int ng50) ∧ Fld Z h50 b47 "com/example/pinsheet/pinsheet/WholeNumbers$Reading" "digits" "Z" (.int dg50) ∧ Fld Z h50 b47 "com/example/pinsheet/pinsheet/WholeNumbers$Reading" "wellFormed" "Z" (.int wf50) ∧ Fld Z h50 b47 "com/example/pinsheet/pinsheet/WholeNumbers$Reading" "magnitude" "J" (.long mg50) ∧ Arv Z h50 q kq .char (32 : Int32) vs50 (.int 0) ∧ Rc C room_1 "com/example/pinsheet/pinsheet/ReadingClearPinLaw" code maxLocals Z n0 3 42 191 #[.val (.int i0), .val (.int i1), .val (.int i2), .val (.int i3), .val (.int i4), .val (.int (i0 &&& (3 : Int32))), .val (.int c0), .val (.int c1), .val (.int c2), .val (.int (0 : Int32)), .val (.int ((1 : Int32) + (((i2.toUInt32 >>> ((1 : Int32) &&& 31).toUInt32).toInt32) &&& (1 : Int32)))), .val (.int d1), .val (.int d2), .val (.ref b2), .val (.int (1 : Int32)), .val (.int d1), .val (.int d1), .val (.ref b47), .unset] [] h50 (q :: b47 :: b2 :: Ds) := by
        replace R := R.iload (pc' := 180) (v := (i0 &&& (3 : Int32))) at_178 rfl rfl
        replace R := R.iconst (pc' := 181) (z := (1 : Int32)) at_180 rfl rfl
        by_cases hc51 : (i0 &&& (3 : Int32)) < (1 : Int32)
        · replace R := R.icmpY (pc' := 191) at_181 (tlt hc51).1 (by decide) rfl
          have hK : Keep hR hR [b47, q] := Keep.refl hR [b47, q]
          exact ⟨hR, 0, _, _, _, _, _, (by have q := (Nat.le_refl 0); omega), hvs0, hK, XR, FR_quoted, FR_quotedLength, FR_cut, FR_negative, FR_digits, FR_wellFormed, FR_magnitude, VR, R.mono (ce' := 3) (sl' := 42) (by decide) (by decide)⟩
        · replace R := R.icmpN (pc' := 184) at_181 (flt hc51).1 rfl
          replace R := R.aload (pc' := 186) (v := (.ref b47)) at_184 rfl rfl rfl
          replace R := R.iload (pc' := 188) (v := c0) at_186 rfl rfl
          obtain ⟨_, h52, _, ⟨ng52, dg52, wf52, mg52, e_ng52, e_dg52, e_wf52, e_mg52, rfl, K52, X52, F52_quoted, F52_quotedLength, F52_cut, F52_negative, F52_digits, F52_wellFormed, F52_magnitude, V52, rfl⟩, R⟩ := R.callV (pc' := 191) (y := (⟨"com/example/pinsheet/pinsheet/WholeNumbers$Reading", "add", "(C)V"⟩ : MethodName)) (z := (⟨"com/example/pinsheet/pinsheet/WholeNumbers$Reading", "add", "(C)V"⟩ : MethodName)) (argsL := [(.int c0)]) (rest := []) (W := 0) (own_w30 hw) (own_w31 hw) (fun s' hZ' => notFace_of_selects (args := #[]) (mvT hZ' (own_w33 hw))) (own_w33 hw) (own_w32 hw) (own_w4 hw) (own_w34 hw) (by decide) XR (rm_add C.l Z a0 hw b47 c0 hR n0 (q :: b47 :: b2 :: Ds) (k := 0) (vs := vs0) (List.mem_of_getElem? (i := 1) rfl) (List.mem_of_getElem? (i := 0) rfl) naq rfl (by decide) hvs0 (nar_of hbc0) XR FR_quoted FR_quotedLength FR_cut FR_negative FR_digits FR_wellFormed FR_magnitude VR) rfl (lenOf own_pd14 rfl) rfl rfl at_188 (by decide) (by decide) (by decide) (by decide) rfl
          have G52_n : Fld Z h52 b47 "com/example/pinsheet/pinsheet/WholeNumbers$Reading" "quotedLength" "I" (.int (1 : Int32)) := F52_quotedLength
          replace R := R.mono (ce' := 3) (sl' := 42) (by decide) (by decide)
          replace R := R.stk (S' := []) rfl
          have hK : Keep hR h52 [b47, q] := ((Keep.refl hR [b47, q]).trans K52 (allS (Or.inl (List.mem_of_getElem? (i := 0) rfl)) (allS (Or.inl (List.mem_of_getElem? (i := 1) rfl)) all0)))
          exact ⟨h52, (0 + 1), _, _, _, _, _, (by have q := (Nat.le_refl 0); omega), (by rw [List.length_set]; exact hvs0), hK, X52, F52_quoted, G52_n, F52_cut, F52_negative, F52_digits, F52_wellFormed, F52_magnitude, V52, R.mono (ce' := 3) (sl' := 42) (by decide) (by decide)⟩
      obtain ⟨h53, k53, ng53, dg53, wf53, mg53, vs53, hk53, hvs53, K53, X53, F53_quoted, F53_quotedLength, F53_cut, F53_negative, F53_digits, F53_wellFormed, F53_magnitude, V53, R⟩ : ∃ (h53 : Heap) (k53 : Nat) (ng53 dg53 wf53 : Int32) (mg53 : Int64) (vs53 : List Value), k53 ≤ 2 ∧ vs53.length = 32 ∧ Keep h50 h53 [b47, q] ∧ Exa Z h53 b47 "com/example/pinsheet/pinsheet/WholeNumbers$Reading" ∧ Fld Z h53 b47 "com/example/pinsheet/pinsheet/WholeNumbers$Reading" "quoted" "[C" (.ref q) ∧ Fld Z h53 b47 "com/example/pinsheet/pinsheet/WholeNumbers$Reading" "quotedLength" "I" (.int (Int32.ofNat k53)) ∧ Fld Z h53 b47 "com/example/pinsheet/pinsheet/WholeNumbers$Reading" "cut" "Z" (.int (0 : Int32)) ∧ Fld Z h53 b47 "com/example/pinsheet/pinsheet/WholeNumbers$Reading" "negative" "Z" (.int ng53) ∧ Fld Z h53 b47 "com/example/pinsheet/pinsheet/WholeNumbers$Reading" "digits" "Z" (.int dg53) ∧ Fld Z h53 b47 "com/example/pinsheet/pinsheet/WholeNumbers$Reading" "wellFormed" "Z" (.int wf53) ∧ Fld Z h53 b47 "com/example/pinsheet/pinsheet/WholeNumbers$Reading" "magnitude" "J" (.long mg53) ∧ Arv Z h53 q kq .char (32 : Int32) vs53 (.int 0) ∧ Rc C room_1 "com/example/pinsheet/pinsheet/ReadingClearPinLaw" code maxLocals Z n0 3 42 204 #[.val (.int i0), .val (.int i1), .val (.int i2), .val (.int i3), .val (.int i4), .val (.int (i0 &&& (3 : Int32))), .val (.int c0), .val (.int c1), .val (.int c2), .val (.int (0 : Int32)), .val (.int ((1 : Int32) + (((i2.toUInt32 >>> ((1 : Int32) &&& 31).toUInt32).toInt32) &&& (1 : Int32)))), .val (.int d1), .val (.int d2), .val (.ref b2), .val (.int (1 : Int32)), .val (.int d1), .val (.int d1), .val (.ref b47), .unset] [] h53 (q :: b47 :: b2 :: Ds) := by
        replace R := R.iload (pc' := 193) (v := (i0 &&& (3 : Int32))) at_191 rfl rfl
        replace R := R.iconst (pc' := 194) (z := (2 : Int32)) at_193 rfl rfl
        by_cases hc54 : (i0 &&& (3 : Int32)) < (2 : Int32)
        · replace R := R.icmpY (pc' := 204) at_194 (tlt hc54).1 (by decide) rfl
          have hK : Keep h50 h50 [b47, q] := Keep.refl h50 [b47, q]
          exact ⟨h50, k50, _, _, _, _, _, (by have q := hk50; omega), hvs50, hK, X50, F50_quoted, F50_quotedLength, F50_cut, F50_negative, F50_digits, F50_wellFormed, F50_magnitude, V50, R.mono (ce' := 3) (sl' := 42) (by decide) (by decide)⟩
        · replace R := R.icmpN (pc' := 197) at_194 (flt hc54).1 rfl
          replace R := R.aload (pc' := 199) (v := (.ref b47)) at_197 rfl rfl rfl
          replace R := R.iload (pc' := 201) (v := c1) at_199 rfl rfl
          obtain ⟨_, h55, _, ⟨ng55, dg55, wf55, mg55, e_ng55, e_dg55, e_wf55, e_mg55, rfl, K55, X55, F55_quoted, F55_quotedLength, F55_cut, F55_negative, F55_digits, F55_wellFormed, F55_magnitude, V55, rfl⟩, R⟩ := R.callV (pc' := 204) (y := (⟨"com/example/pinsheet/pinsheet/WholeNumbers$Reading", "add", "(C)V"⟩ : MethodName)) (z := (⟨"com/example/pinsheet/pinsheet/WholeNumbers$Reading", "add", "(C)V"⟩ : MethodName)) (argsL := [(.int c1)]) (rest := []) (W := 0) (own_w30 hw) (own_w31 hw) (fun s' hZ' => notFace_of_selects (args := #[]) (mvT hZ' (own_w33 hw))) (own_w33 hw) (own_w32 hw) (own_w4 hw) (own_w34 hw) (by decide) X50 (rm_add C.l Z a0 hw b47 c1 h50 n0 (q :: b47 :: b2 :: Ds) (k := k50) (vs := vs50) (List.mem_of_getElem? (i := 1) rfl) (List.mem_of_getElem? (i := 0) rfl) naq rfl (by omega) hvs50 (nar_of hbc1) X50 F50_quoted F50_quotedLength F50_cut F50_negative F50_digits F50_wellFormed F50_magnitude V50) rfl (lenOf own_pd14 rfl) rfl rfl at_201 (by decide) (by decide) (by decide) (by decide) rfl
          replace R := R.mono (ce' := 3) (sl' := 42) (by decide) (by decide)
          replace R := R.stk (S' := []) rfl
          have hK : Keep h50 h55 [b47, q] := ((Keep.refl h50 [b47, q]).trans K55 (allS (Or.inl (List.mem_of_getElem? (i := 0) rfl)) (allS (Or.inl (List.mem_of_getElem? (i := 1) rfl)) all0)))
          have Fn := F55_quotedLength
          rw [i32_succ] at Fn
          exact ⟨h55, (k50 + 1), _, _, _, _, _, (by have q := hk50; omega), (by rw [List.length_set]; exact hvs50), hK, X55, F55_quoted, Fn, F55_cut, F55_negative, F55_digits, F55_wellFormed, F55_magnitude, V55, R.mono (ce' := 3) (sl' := 42) (by decide) (by decide)⟩
      obtain ⟨h56, k56, ng56, dg56, wf56, mg56, vs56, hk56, hvs56, K56, X56, F56_quoted, F56_quotedLength, F56_cut, F56_negative, F56_digits, F56_wellFormed, F56_magnitude, V56, R⟩ : ∃ (h56 : Heap) (k56 : Nat) (ng56 dg56 wf56 : Int32) (mg56 : Int64) (vs56 : List Value), k56 ≤ 3 ∧ vs56.length = 32 ∧ Keep h53 h56 [b47, q] ∧ Exa Z h56 b47 "com/example/pinsheet/pinsheet/WholeNumbers$Reading" ∧ Fld Z h56 b47 "com/example/pinsheet/pinsheet/WholeNumbers$Reading" "quoted" "[C" (.ref q) ∧ Fld Z h56 b47 "com/example/pinsheet/pinsheet/WholeNumbers$Reading" "quotedLength" "I" (.int (Int32.ofNat k56)) ∧ Fld Z h56 b47 "com/example/pinsheet/pinsheet/WholeNumbers$Reading" "cut" "Z" (.int (0 : Int32)) ∧ Fld Z h56 b47 "com/example/pinsheet/pinsheet/WholeNumbers$Reading" "negative" "Z" (.int ng56) ∧ Fld Z h56 b47 "com/example/pinsheet/pinsheet/WholeNumbers$Reading" "digits" "Z" (.int dg56) ∧ Fld Z h56 b47 "com/example/pinsheet/pinsheet/WholeNumbers$Reading" "wellFormed" "Z" (.int wf56) ∧ Fld Z h56 b47 "com/example/pinsheet/pinsheet/WholeNumbers$Reading" "magnitude" "J" (.long mg56) ∧ Arv Z h56 q kq .char (32 : Int32) vs56 (.int 0) ∧ Rc C room_1 "com/example/pinsheet/pinsheet/ReadingClearPinLaw" code maxLocals Z n0 3 42 217 #[.val (.int i0), .val (.int i1), .val (.int i2), .val (.int i3), .val (.int i4), .val (.int (i0 &&& (3 : Int32))), .val (.int c0), .val (.int c1), .val (.int c2), .val (.int (0 : Int32)), .val (.int ((1 : Int32) + (((i2.toUInt32 >>> ((1 : Int32) &&& 31).toUInt32).toInt32) &&& (1 : Int32)))), .val (.int d1), .val (.int d2), .val (.ref b2), .val (.int (1 : Int32)), .val (.int d1), .val (.int d1), .val (.ref b47), .unset] [] h56 (q :: b47 :: b2 :: Ds) := by
        replace R := R.iload (pc' := 206) (v := (i0 &&& (3 : Int32))) at_204 rfl rfl
        replace R := R.iconst (pc' := 207) (z := (3 : Int32)) at_206 rfl rfl
        by_cases hc57 : (i0 &&& (3 : Int32)) < (3 : Int32)
        · replace R := R.icmpY (pc' := 217) at_207 (tlt hc57).1 (by decide) rfl
          have hK : Keep h53 h53 [b47, q] := Keep.refl h53 [b47, q]
          exact ⟨h53, k53, _, _, _, _, _, (by have q := hk53; omega), hvs53, hK, X53, F53_quoted, F53_quotedLength, F53_cut, F53_negative, F53_digits, F53_wellFormed, F53_magnitude, V53, R.mono (ce' := 3) (sl' := 42) (by decide) (by decide)⟩
        · replace R := R.icmpN (pc' := 210) at_207 (flt hc57).1 rfl
          replace R := R.aload (pc' := 212) (v := (.ref b47)) at_210 rfl rfl rfl
          replace R := R.iload (pc' := 214) (v := c2) at_212 rfl rfl
          obtain ⟨_, h58, _, ⟨ng58, dg58, wf58, mg58, e_ng58, e_dg58, e_wf58, e_mg58, rfl, K58, X58, F58_quoted, F58_quotedLength, F58_cut, F58_negative, F58_digits, F58_wellFormed, F58_magnitude, V58, rfl⟩, R⟩ := R.callV (pc' := 217) (y := (⟨"com/example/pinsheet/pinsheet/WholeNumbers$Reading", "add", "(C)V"⟩ : MethodName)) (z := (⟨"com/example/pinsheet/pinsheet/WholeNumbers$Reading", "add", "(C)V"⟩ : MethodName)) (argsL := [(.int c2)]) (rest := []) (W := 0) (own_w30 hw) (own_w31 hw) (fun s' hZ' => notFace_of_selects (args := #[]) (mvT hZ' (own_w33 hw))) (own_w33 hw) (own_w32 hw) (own_w4 hw) (own_w34 hw) (by decide) X53 (rm_add C.l Z a0 hw b47 c2 h53 n0 (q :: b47 :: b2 :: Ds) (k := k53) (vs := vs53) (List.mem_of_getElem? (i := 1) rfl) (List.mem_of_getElem? (i := 0) rfl) naq rfl (by omega) hvs53 (nar_of hbc2) X53 F53_quoted F53_quotedLength F53_cut F53_negative F53_digits F53_wellFormed F53_magnitude V53) rfl (lenOf own_pd14 rfl) rfl rfl at_214 (by decide) (by decide) (by decide) (by decide) rfl
          replace R := R.mono (ce' := 3) (sl' := 42) (by decide) (by decide)
          replace R := R.stk (S' := []) rfl
          have hK : Keep h53 h58 [b47, q] := ((Keep.refl h53 [b47, q]).trans K58 (allS (Or.inl (List.mem_of_getElem? (i := 0) rfl)) (allS (Or.inl (List.mem_of_getElem? (i := 1) rfl)) all0)))
          have Fn := F58_quotedLength
          rw [i32_succ] at Fn
          exact ⟨h58, (k53 + 1), _, _, _, _, _, (by have q := hk53; omega), (by rw [List.length_set]; exact hvs53), hK, X58, F58_quoted, Fn, F58_cut, F58_negative, F58_digits, F58_wellFormed, F58_magnitude, V58, R.mono (ce' := 3) (sl' := 42) (by decide) (by decide)⟩
      replace R := R.aload (pc' := 219) (v := (.ref b47)) at_217 rfl rfl rfl
      obtain ⟨_, h59, _, ⟨rfl, K59, X59, F59_quoted, F59_quotedLength, F59_cut, F59_negative, F59_digits, F59_wellFormed, F59_magnitude, rfl⟩, R⟩ := R.callV (pc' := 222) (y := (⟨"com/example/pinsheet/pinsheet/WholeNumbers$Reading", "clear", "()V"⟩ : MethodName)) (z := (⟨"com/example/pinsheet/pinsheet/WholeNumbers$Reading", "clear", "()V"⟩ : MethodName)) (argsL := []) (rest := []) (W := 0) (own_w15 hw) (own_w16 hw) (fun s' hZ' => notFace_of_selects (args := #[]) (mvT hZ' (own_w18 hw))) (own_w18 hw) (own_w17 hw) (own_w4 hw) (own_w19 hw) (by decide) X56 (rm_clear C.l Z a0 hw b47 h56 n0 (q :: b47 :: b2 :: Ds) (List.mem_of_getElem? (i := 1) rfl) X56 F56_quoted F56_quotedLength F56_cut F56_negative F56_digits F56_wellFormed F56_magnitude) rfl (lenOf own_pd13 rfl) rfl rfl at_219 (by decide) (by decide) (by decide) (by decide) rfl
      replace R := R.mono (ce' := 3) (sl' := 42) (by decide) (by decide)
      replace R := R.stk (S' := []) rfl
      obtain ⟨v0, v1, v2, tl, rfl⟩ : ∃ v0 v1 v2 tl, vs56 = v0 :: v1 :: v2 :: tl := by
        match vs56, hvs56 with
        | v0 :: v1 :: v2 :: tl, _ => exact ⟨v0, v1, v2, tl, rfl⟩
      have hvt := hvs56
      replace R := R.iload (pc' := 224) (v := (1 : Int32)) at_222 rfl rfl
      replace R := R.iconst (pc' := 225) (z := (1 : Int32)) at_224 rfl rfl
      replace R := R.icmpN (pc' := 228) at_225 (flt (by decide : ¬ ((1 : Int32) < (1 : Int32)))).1 rfl
      replace R := R.aload (pc' := 230) (v := (.ref b47)) at_228 rfl rfl rfl
      replace R := R.aload (pc' := 232) (v := (.ref b2)) at_230 rfl rfl rfl
      replace R := R.iconst (pc' := 233) (z := (0 : Int32)) at_232 rfl rfl
      have K60 := ((((((Keep.refl h47 [b47, q]).trans KR (allS (Or.inl (List.mem_of_getElem? (i := 0) rfl)) all0)).trans K50 (allS (Or.inl (List.mem_of_getElem? (i := 0) rfl)) (allS (Or.inl (List.mem_of_getElem? (i := 1) rfl)) all0))).trans K53 (allS (Or.inl (List.mem_of_getElem? (i := 0) rfl)) (allS (Or.inl (List.mem_of_getElem? (i := 1) rfl)) all0))).trans K56 (allS (Or.inl (List.mem_of_getElem? (i := 0) rfl)) (allS (Or.inl (List.mem_of_getElem? (i := 1) rfl)) all0))).trans K59 (allS (Or.inl (List.mem_of_getElem? (i := 0) rfl)) all0))
      have F61 := F49.keep K60 (ninS (Ne.symm nta) (ninS nbq nin0))
      replace R := R.caload (pc' := 234) (v := (.int x1)) F61 ⟨by decide, by decide⟩ rfl at_233 rfl
      have K63 := ((Keep.refl h56 [b47]).trans K59 (allS (Or.inl (List.mem_of_getElem? (i := 0) rfl)) all0))
      have F64 := V56.keep K63 (ninS (Ne.symm naq) nin0)
      obtain ⟨_, h62, _, ⟨ng62, dg62, wf62, mg62, e_ng62, e_dg62, e_wf62, e_mg62, rfl, K62, X62, F62_quoted, F62_quotedLength, F62_cut, F62_negative, F62_digits, F62_wellFormed, F62_magnitude, V62, rfl⟩, R⟩ := R.callV (pc' := 237) (y := (⟨"com/example/pinsheet/pinsheet/WholeNumbers$Reading", "add", "(C)V"⟩ : MethodName)) (z := (⟨"com/example/pinsheet/pinsheet/WholeNumbers$Reading", "add", "(C)V"⟩ : MethodName)) (argsL := [(.int x1)]) (rest := []) (W := 0) (own_w30 hw) (own_w31 hw) (fun s' hZ' => notFace_of_selects (args := #[]) (mvT hZ' (own_w33 hw))) (own_w33 hw) (own_w32 hw) (own_w4 hw) (own_w34 hw) (by decide) X59 (rm_add C.l Z a0 hw b47 x1 h59 n0 (q :: b47 :: b2 :: Ds) (k := 0) (vs := (v0 :: v1 :: v2 :: tl)) (List.mem_of_getElem? (i := 1) rfl) (List.mem_of_getElem? (i := 0) rfl) naq rfl (by decide) hvt (nar_of hbx1) X59 F59_quoted F59_quotedLength F59_cut F59_negative F59_digits F59_wellFormed F59_magnitude F64) rfl (lenOf own_pd14 rfl) rfl rfl at_234 (by decide) (by decide) (by decide) (by decide) rfl
      have G62_n : Fld Z h62 b47 "com/example/pinsheet/pinsheet/WholeNumbers$Reading" "quotedLength" "I" (.int (1 : Int32)) := F62_quotedLength
      have W62 : Arv Z h62 q kq .char (32 : Int32) ((.int x1) :: v1 :: v2 :: tl) (.int 0) := V62
      replace R := R.mono (ce' := 3) (sl' := 42) (by decide) (by decide)
      replace R := R.stk (S' := []) rfl
      replace R := R.iload (pc' := 239) (v := (1 : Int32)) at_237 rfl rfl
      replace R := R.iconst (pc' := 240) (z := (2 : Int32)) at_239 rfl rfl
      replace R := R.icmpY (pc' := 252) at_240 (tlt (by decide : (1 : Int32) < (2 : Int32))).1 (by decide) rfl
      replace R := R.iload (pc' := 254) (v := (1 : Int32)) at_252 rfl rfl
      replace R := R.iconst (pc' := 255) (z := (3 : Int32)) at_254 rfl rfl
      replace R := R.icmpY (pc' := 267) at_255 (tlt (by decide : (1 : Int32) < (3 : Int32))).1 (by decide) rfl
      replace R := R.aload (pc' := 269) (v := (.ref b47)) at_267 rfl rfl rfl
      obtain ⟨_, h65, _, ⟨r65, rfl, S65, K65, rfl⟩, R⟩ := R.callV (pc' := 272) (y := (⟨"com/example/pinsheet/pinsheet/WholeNumbers$Reading", "text", "()Ljava/lang/String;"⟩ : MethodName)) (z := (⟨"com/example/pinsheet/pinsheet/WholeNumbers$Reading", "text", "()Ljava/lang/String;"⟩ : MethodName)) (argsL := []) (rest := []) (W := 0) (own_w37 hw) (own_w38 hw) (fun s' hZ' => notFace_of_selects (args := #[]) (mvT hZ' (own_w40 hw))) (own_w40 hw) (own_w39 hw) (own_w4 hw) (own_w41 hw) (by decide) X62 (rm_text1 C.l Z a0 hw b47 h62 n0 (q :: b47 :: b2 :: Ds) own_cs own_si (chS hbx1 ch0) W62 F62_quoted G62_n) rfl (lenOf own_pd15 rfl) rfl rfl at_269 (by decide) (by decide) (by decide) (by decide) rfl
      replace R := R.mono (ce' := 5) (sl' := 47) (by decide) (by decide)
      replace R := R.stk (S' := [(.ref r65)]) rfl
      replace R := R.astore (pc' := 274) (l' := #[.val (.int i0), .val (.int i1), .val (.int i2), .val (.int i3), .val (.int i4), .val (.int (i0 &&& (3 : Int32))), .val (.int c0), .val (.int c1), .val (.int c2), .val (.int (0 : Int32)), .val (.int ((1 : Int32) + (((i2.toUInt32 >>> ((1 : Int32) &&& 31).toUInt32).toInt32) &&& (1 : Int32)))), .val (.int d1), .val (.int d2), .val (.ref b2), .val (.int (1 : Int32)), .val (.int d1), .val (.int d1), .val (.ref b47), .val (.ref r65)]) at_272 rfl rfl rfl
      replace R := R.aload (pc' := 276) (v := (.ref r65)) at_274 rfl rfl rfl
      obtain ⟨_, _, _, ⟨rfl, rfl, rfl⟩, R⟩ := R.callV (pc' := 279) (y := (⟨"java/lang/String", "length", "()I"⟩ : MethodName)) (z := (⟨"java/lang/String", "length", "()I"⟩ : MethodName)) (argsL := []) (rest := []) (W := 0) (own_w80 hw) (own_w81 hw) (fun s' hZ' => notFace_of_selects (args := #[]) (mvT hZ' (own_w83 hw))) (own_w83 hw) (own_w82 hw) (own_w44 hw) (own_w84 hw) (by decide) S65.1 (rm_length C.l Z a0 hw r65 h65 n0 (q :: b47 :: b2 :: Ds) own_cs S65) rfl (lenOf own_pd16 rfl) rfl rfl at_276 (by decide) (by decide) (by decide) (by decide) rfl
      replace R := R.mono (ce' := 5) (sl' := 47) (by decide) (by decide)
      replace R := R.stk (S' := [(.int (1 : Int32))]) rfl
      replace R := R.iload (pc' := 281) (v := (1 : Int32)) at_279 rfl rfl
      replace R := R.icmpY (pc' := 286) at_281 (teq (by decide : (1 : Int32) = (1 : Int32))).1 (by decide) rfl
      replace R := R.aload (pc' := 288) (v := (.ref r65)) at_286 rfl rfl rfl
      replace R := R.iconst (pc' := 289) (z := (0 : Int32)) at_288 rfl rfl
      obtain ⟨_, _, _, ⟨rfl, rfl, rfl⟩, R⟩ := R.callV (pc' := 292) (y := (⟨"java/lang/String", "charAt", "(I)C"⟩ : MethodName)) (z := (⟨"java/lang/String", "charAt", "(I)C"⟩ : MethodName)) (argsL := [(.int (0 : Int32))]) (rest := []) (W := 0) (own_w90 hw) (own_w91 hw) (fun s' hZ' => notFace_of_selects (args := #[]) (mvT hZ' (own_w93 hw))) (own_w93 hw) (own_w92 hw) (own_w44 hw) (own_w94 hw) (by decide) S65.1 (rm_charAt C.l Z a0 hw r65 (0 : Int32) h65 n0 (q :: b47 :: b2 :: Ds) own_cs own_si (k := 0) rfl (Nat.le_of_ble_eq_true rfl) S65) rfl (lenOf own_pd17 rfl) rfl rfl at_289 (by decide) (by decide) (by decide) (by decide) rfl
      replace R := R.mono (ce' := 5) (sl' := 47) (by decide) (by decide)
      replace R := R.stk (S' := [(.int x1)]) rfl
      replace R := R.aload (pc' := 294) (v := (.ref b2)) at_292 rfl rfl rfl
      replace R := R.iconst (pc' := 295) (z := (0 : Int32)) at_294 rfl rfl
      have K66 := (((Keep.refl h59 [b47, q]).trans K62 (allS (Or.inl (List.mem_of_getElem? (i := 0) rfl)) (allS (Or.inl (List.mem_of_getElem? (i := 1) rfl)) all0))).trans K65 all0)
      have F67 := F61.keep K66 (ninS (Ne.symm nta) (ninS nbq nin0))
      replace R := R.caload (pc' := 296) (v := (.int x1)) F67 ⟨by decide, by decide⟩ rfl at_295 rfl
      replace R := R.icmpY (pc' := 301) at_296 (teq (rfl : x1 = x1)).1 (by decide) rfl
      replace R := R.iload (pc' := 303) (v := (1 : Int32)) at_301 rfl rfl
      replace R := R.iconst (pc' := 304) (z := (2 : Int32)) at_303 rfl rfl
      replace R := R.icmpY (pc' := 322) at_304 (tlt (by decide : (1 : Int32) < (2 : Int32))).1 (by decide) rfl
      replace R := R.iload (pc' := 324) (v := (1 : Int32)) at_322 rfl rfl
      replace R := R.iconst (pc' := 325) (z := (3 : Int32)) at_324 rfl rfl
      replace R := R.icmpY (pc' := 343) at_325 (tlt (by decide : (1 : Int32) < (3 : Int32))).1 (by decide) rfl
      replace R := R.aload (pc' := 345) (v := (.ref b47)) at_343 rfl rfl rfl
      obtain ⟨h68, as, E68, R⟩ := R.ldcAny (pc' := 347) (n := 16) rfl rfl (own_w110 hw) wS at_345 (by decide +kernel) (by decide) (by decide) (by decide) rfl
      have hV : (¬ wf62 = 0) ∧ (¬ dg62 = 0) ∧ (¬ (0 : Int32) < lcmpW mg62 (2147483648 : Int64)) ∧ (¬ (0 : Int32) < lcmpW mg62 (2147483647 : Int64)) ∧ (s_val ng62 mg62) = d1 := by
        subst e_ng62 e_dg62 e_wf62 e_mg62
        subst e_x1
        rw [hd1]
        clear hd1
        revert jd1
        decide +kernel
      have K69 := (((Keep.refl h62 []).trans K65 all0).trans ((Keep.refl h65 []).ext E68) all0)
      have F70 := F62_quoted.keep K69 nin0
      have K71 := (((Keep.refl h62 []).trans K65 all0).trans ((Keep.refl h65 []).ext E68) all0)
      have F72 := G62_n.keep K71 nin0
      have K73 := (((Keep.refl h62 []).trans K65 all0).trans ((Keep.refl h65 []).ext E68) all0)
      have F74 := F62_cut.keep K73 nin0
      have K75 := (((Keep.refl h62 []).trans K65 all0).trans ((Keep.refl h65 []).ext E68) all0)
      have F76 := F62_negative.keep K75 nin0
      have K77 := (((Keep.refl h62 []).trans K65 all0).trans ((Keep.refl h65 []).ext E68) all0)
      have F78 := F62_digits.keep K77 nin0
      have K79 := (((Keep.refl h62 []).trans K65 all0).trans ((Keep.refl h65 []).ext E68) all0)
      have F80 := F62_wellFormed.keep K79 nin0
      have K81 := (((Keep.refl h62 []).trans K65 all0).trans ((Keep.refl h65 []).ext E68) all0)
      have F82 := F62_magnitude.keep K81 nin0
      have K83 := (((Keep.refl h62 []).trans K65 all0).trans ((Keep.refl h65 []).ext E68) all0)
      have F84 := X62.keep K83
      obtain ⟨_, _, _, ⟨rfl, rfl, rfl⟩, R⟩ := R.callV (pc' := 350) (y := (⟨"com/example/pinsheet/pinsheet/WholeNumbers$Reading", "value", "(Ljava/lang/String;)I"⟩ : MethodName)) (z := (⟨"com/example/pinsheet/pinsheet/WholeNumbers$Reading", "value", "(Ljava/lang/String;)I"⟩ : MethodName)) (argsL := [(.ref as)]) (rest := []) (W := 0) (own_w113 hw) (own_w114 hw) (fun s' hZ' => notFace_of_selects (args := #[]) (mvT hZ' (own_w116 hw))) (own_w116 hw) (own_w115 hw) (own_w4 hw) (own_w117 hw) (by decide) F84 (rm_value C.l Z a0 hw b47 as h68 n0 (q :: b47 :: b2 :: Ds) hV.1 hV.2.1 hV.2.2.1 hV.2.2.2.1 F70 F72 F74 F76 F78 F80 F82) rfl (lenOf own_pd18 rfl) rfl rfl at_347 (by decide) (by decide) (by decide) (by decide) rfl
      replace R := R.mono (ce' := 7) (sl' := 67) (by decide) (by decide)
      replace R := R.stk (S' := [(.int (s_val ng62 mg62))]) rfl
      replace R := R.iload (pc' := 352) (v := d1) at_350 rfl rfl
      replace R := R.icmpN (pc' := 355) at_352 (teq hV.2.2.2.2).2 rfl
      replace R := R.iconst (pc' := 356) (z := (1 : Int32)) at_355 rfl rfl
      replace R := R.goto (pc' := 360) at_356 (by decide) rfl
      exact R.retN (Ds' := []) hret (by simp) (show nar .boolean 1 = 1 from rfl) at_360 (by decide) (by decide) (fun _ q => nomatch q) rfl
  · replace R := R.ifN (pc' := 41) at_38 (feq hc1).1 rfl
    replace R := R.iconst (pc' := 42) (z := (1 : Int32)) at_41 rfl rfl
    replace R := R.goto (pc' := 46) at_42 (by decide) rfl
    replace R := R.istore (pc' := 48) (l' := #[.val (.int i0), .val (.int i1), .val (.int i2), .val (.int i3), .val (.int i4), .val (.int (i0 &&& (3 : Int32))), .val (.int c0), .val (.int c1), .val (.int c2), .val (.int (1 : Int32)), .unset, .unset, .unset, .unset, .unset, .unset, .unset, .unset, .unset]) at_46 rfl rfl
    replace R := R.iconst (pc' := 49) (z := (1 : Int32)) at_48 rfl rfl
    replace R := R.iloadN (pc' := 50) (v := i2) at_49 rfl rfl
    replace R := R.iconst (pc' := 51) (z := (1 : Int32)) at_50 rfl rfl
    replace R := R.iushr (pc' := 52) at_51 rfl
    replace R := R.iconst (pc' := 53) (z := (1 : Int32)) at_52 rfl rfl
    replace R := R.iand (pc' := 54) at_53 rfl
    replace R := R.iadd (pc' := 55) at_54 rfl
    replace R := R.istore (pc' := 57) (l' := #[.val (.int i0), .val (.int i1), .val (.int i2), .val (.int i3), .val (.int i4), .val (.int (i0 &&& (3 : Int32))), .val (.int c0), .val (.int c1), .val (.int c2), .val (.int (1 : Int32)), .val (.int ((1 : Int32) + (((i2.toUInt32 >>> ((1 : Int32) &&& 31).toUInt32).toInt32) &&& (1 : Int32)))), .unset, .unset, .unset, .unset, .unset, .unset, .unset, .unset]) at_55 rfl rfl
    replace R := R.iloadN (pc' := 58) (v := i3) at_57 rfl rfl
    replace R := R.ldcI (pc' := 60) (own_w0 hw) at_58 rfl
    replace R := R.iand (pc' := 61) at_60 rfl
    replace R := R.bipush (pc' := 63) (z := (10 : Int32)) at_61 rfl rfl
    replace R := R.irem (pc' := 64) at_63 (by decide) rfl
    replace R := R.istore (pc' := 66) (l' := #[.val (.int i0), .val (.int i1), .val (.int i2), .val (.int i3), .val (.int i4), .val (.int (i0 &&& (3 : Int32))), .val (.int c0), .val (.int c1), .val (.int c2), .val (.int (1 : Int32)), .val (.int ((1 : Int32) + (((i2.toUInt32 >>> ((1 : Int32) &&& 31).toUInt32).toInt32) &&& (1 : Int32)))), .val (.int ((i3 &&& (2147483647 : Int32)) % (10 : Int32))), .unset, .unset, .unset, .unset, .unset, .unset, .unset]) at_64 rfl rfl
    replace R := R.iload (pc' := 68) (v := i4) at_66 rfl rfl
    replace R := R.ldcI (pc' := 70) (own_w0 hw) at_68 rfl
    replace R := R.iand (pc' := 71) at_70 rfl
    replace R := R.bipush (pc' := 73) (z := (10 : Int32)) at_71 rfl rfl
    replace R := R.irem (pc' := 74) at_73 (by decide) rfl
    replace R := R.istore (pc' := 76) (l' := #[.val (.int i0), .val (.int i1), .val (.int i2), .val (.int i3), .val (.int i4), .val (.int (i0 &&& (3 : Int32))), .val (.int c0), .val (.int c1), .val (.int c2), .val (.int (1 : Int32)), .val (.int ((1 : Int32) + (((i2.toUInt32 >>> ((1 : Int32) &&& 31).toUInt32).toInt32) &&& (1 : Int32)))), .val (.int ((i3 &&& (2147483647 : Int32)) % (10 : Int32))), .val (.int ((i4 &&& (2147483647 : Int32)) % (10 : Int32))), .unset, .unset, .unset, .unset, .unset, .unset]) at_74 rfl rfl
    obtain ⟨d1, e_d1⟩ : ∃ z, z = ((i3 &&& (2147483647 : Int32)) % (10 : Int32)) := ⟨_, rfl⟩
    rw [← e_d1] at R
    obtain ⟨jd1, hd1⟩ : ∃ j : Fin 10, d1 = Int32.ofNat j.val := by rw [e_d1]; exact own_mod10 i3
    obtain ⟨d2, e_d2⟩ : ∃ z, z = ((i4 &&& (2147483647 : Int32)) % (10 : Int32)) := ⟨_, rfl⟩
    rw [← e_d2] at R
    obtain ⟨jd2, hd2⟩ : ∃ j : Fin 10, d2 = Int32.ofNat j.val := by rw [e_d2]; exact own_mod10 i4
    replace R := R.iconst (pc' := 77) (z := (3 : Int32)) at_76 rfl rfl
    obtain ⟨h85, b85, k85, g85, E85, V85, R⟩ := R.newP (pc' := 79) (aty := .char) (cap := 3) (own_w1 hw) at_77 (by decide) (by decide) (by decide) (by decide) (by decide) rfl
    have V85p : Arv Z h85 b85 k85 .char (3 : Int32) [(.int (0 : Int32)), (.int (0 : Int32)), (.int (0 : Int32))] (.int (0 : Int32)) := V85.pad (pad_rep [] (.int (0 : Int32)) 3)
    replace R := R.astore (pc' := 81) (l' := #[.val (.int i0), .val (.int i1), .val (.int i2), .val (.int i3), .val (.int i4), .val (.int (i0 &&& (3 : Int32))), .val (.int c0), .val (.int c1), .val (.int c2), .val (.int (1 : Int32)), .val (.int ((1 : Int32) + (((i2.toUInt32 >>> ((1 : Int32) &&& 31).toUInt32).toInt32) &&& (1 : Int32)))), .val (.int d1), .val (.int d2), .val (.ref b85), .unset, .unset, .unset, .unset, .unset]) at_79 rfl rfl rfl
    replace R := R.iconst (pc' := 82) (z := (0 : Int32)) at_81 rfl rfl
    replace R := R.istore (pc' := 84) (l' := #[.val (.int i0), .val (.int i1), .val (.int i2), .val (.int i3), .val (.int i4), .val (.int (i0 &&& (3 : Int32))), .val (.int c0), .val (.int c1), .val (.int c2), .val (.int (1 : Int32)), .val (.int ((1 : Int32) + (((i2.toUInt32 >>> ((1 : Int32) &&& 31).toUInt32).toInt32) &&& (1 : Int32)))), .val (.int d1), .val (.int d2), .val (.ref b85), .val (.int (0 : Int32)), .unset, .unset, .unset, .unset]) at_82 rfl rfl
    replace R := R.iload (pc' := 86) (v := (1 : Int32)) at_84 rfl rfl
    replace R := R.ifN (pc' := 89) at_86 (feq (by decide : ¬ ((1 : Int32) = (0 : Int32)))).1 rfl
    replace R := R.aload (pc' := 91) (v := (.ref b85)) at_89 rfl rfl rfl
    replace R := R.iload (pc' := 93) (v := (0 : Int32)) at_91 rfl rfl
    replace R := R.bipush (pc' := 95) (z := (45 : Int32)) at_93 rfl rfl
    obtain ⟨h86, K86, V86, R⟩ := R.castore (pc' := 96) V85p ⟨by decide, by decide⟩ 0 rfl (Nat.le_of_ble_eq_true rfl) (List.mem_of_getElem? (i := 0) rfl) at_95 rfl
    have V86p : Arv Z h86 b85 k85 .char (3 : Int32) [(.int (45 : Int32)), (.int (0 : Int32)), (.int (0 : Int32))] (.int (0 : Int32)) := by
      have q := V86
      rw [(rfl : nar .char (45 : Int32) = (45 : Int32))] at q
      exact q
    replace R := R.iinc (pc' := 99) (l' := #[.val (.int i0), .val (.int i1), .val (.int i2), .val (.int i3), .val (.int i4), .val (.int (i0 &&& (3 : Int32))), .val (.int c0), .val (.int c1), .val (.int c2), .val (.int (1 : Int32)), .val (.int ((1 : Int32) + (((i2.toUInt32 >>> ((1 : Int32) &&& 31).toUInt32).toInt32) &&& (1 : Int32)))), .val (.int d1), .val (.int d2), .val (.ref b85), .val (.int (1 : Int32)), .unset, .unset, .unset, .unset]) at_96 rfl rfl rfl
    replace R := R.aload (pc' := 101) (v := (.ref b85)) at_99 rfl rfl rfl
    replace R := R.iload (pc' := 103) (v := (1 : Int32)) at_101 rfl rfl
    replace R := R.bipush (pc' := 105) (z := (48 : Int32)) at_103 rfl rfl
    replace R := R.iload (pc' := 107) (v := d1) at_105 rfl rfl
    replace R := R.iadd (pc' := 108) at_107 rfl
    replace R := R.i2c (pc' := 109) at_108 rfl
    obtain ⟨x1, e_x1⟩ : ∃ z, z = ((48 : Int32) + d1).toUInt32.toUInt16.toUInt32.toInt32 := ⟨_, rfl⟩
    rw [← e_x1] at R
    have hbx1 : ¬ x1 < 0 ∧ ¬ (255 : Int32) < x1 := by rw [e_x1, hd1]; exact dig_b _
    obtain ⟨h87, K87, V87, R⟩ := R.castore (pc' := 110) V86p ⟨by decide, by decide⟩ 1 rfl (Nat.le_of_ble_eq_true rfl) (List.mem_of_getElem? (i := 0) rfl) at_109 rfl
    have V87p : Arv Z h87 b85 k85 .char (3 : Int32) [(.int (45 : Int32)), (.int x1), (.int (0 : Int32))] (.int (0 : Int32)) := by
      have q := V87
      rw [nar_of hbx1] at q
      exact q
    replace R := R.iinc (pc' := 113) (l' := #[.val (.int i0), .val (.int i1), .val (.int i2), .val (.int i3), .val (.int i4), .val (.int (i0 &&& (3 : Int32))), .val (.int c0), .val (.int c1), .val (.int c2), .val (.int (1 : Int32)), .val (.int ((1 : Int32) + (((i2.toUInt32 >>> ((1 : Int32) &&& 31).toUInt32).toInt32) &&& (1 : Int32)))), .val (.int d1), .val (.int d2), .val (.ref b85), .val (.int (2 : Int32)), .unset, .unset, .unset, .unset]) at_110 rfl rfl rfl
    replace R := R.iload (pc' := 115) (v := ((1 : Int32) + (((i2.toUInt32 >>> ((1 : Int32) &&& 31).toUInt32).toInt32) &&& (1 : Int32)))) at_113 rfl rfl
    replace R := R.iconst (pc' := 116) (z := (2 : Int32)) at_115 rfl rfl
    by_cases hc88 : ((1 : Int32) + (((i2.toUInt32 >>> ((1 : Int32) &&& 31).toUInt32).toInt32) &&& (1 : Int32))) = (2 : Int32)
    · replace R := R.icmpN (pc' := 119) at_116 (teq hc88).2 rfl
      replace R := R.aload (pc' := 121) (v := (.ref b85)) at_119 rfl rfl rfl
      replace R := R.iload (pc' := 123) (v := (2 : Int32)) at_121 rfl rfl
      replace R := R.bipush (pc' := 125) (z := (48 : Int32)) at_123 rfl rfl
      replace R := R.iload (pc' := 127) (v := d2) at_125 rfl rfl
      replace R := R.iadd (pc' := 128) at_127 rfl
      replace R := R.i2c (pc' := 129) at_128 rfl
      obtain ⟨x2, e_x2⟩ : ∃ z, z = ((48 : Int32) + d2).toUInt32.toUInt16.toUInt32.toInt32 := ⟨_, rfl⟩
      rw [← e_x2] at R
      have hbx2 : ¬ x2 < 0 ∧ ¬ (255 : Int32) < x2 := by rw [e_x2, hd2]; exact dig_b _
      obtain ⟨h89, K89, V89, R⟩ := R.castore (pc' := 130) V87p ⟨by decide, by decide⟩ 2 rfl (Nat.le_of_ble_eq_true rfl) (List.mem_of_getElem? (i := 0) rfl) at_129 rfl
      have V89p : Arv Z h89 b85 k85 .char (3 : Int32) [(.int (45 : Int32)), (.int x1), (.int x2)] (.int (0 : Int32)) := by
        have q := V89
        rw [nar_of hbx2] at q
        exact q
      replace R := R.iinc (pc' := 133) (l' := #[.val (.int i0), .val (.int i1), .val (.int i2), .val (.int i3), .val (.int i4), .val (.int (i0 &&& (3 : Int32))), .val (.int c0), .val (.int c1), .val (.int c2), .val (.int (1 : Int32)), .val (.int ((1 : Int32) + (((i2.toUInt32 >>> ((1 : Int32) &&& 31).toUInt32).toInt32) &&& (1 : Int32)))), .val (.int d1), .val (.int d2), .val (.ref b85), .val (.int (3 : Int32)), .unset, .unset, .unset, .unset]) at_130 rfl rfl rfl
      replace R := R.iload (pc' := 135) (v := ((1 : Int32) + (((i2.toUInt32 >>> ((1 : Int32) &&& 31).toUInt32).toInt32) &&& (1 : Int32)))) at_133 rfl rfl
      replace R := R.iconst (pc' := 136) (z := (1 : Int32)) at_135 rfl rfl
      replace R := R.icmpY (pc' := 144) at_136 (feq (by rw [hc88]; decide)).2 (by decide) rfl
      replace R := R.iload (pc' := 146) (v := d1) at_144 rfl rfl
      replace R := R.bipush (pc' := 148) (z := (10 : Int32)) at_146 rfl rfl
      replace R := R.imul (pc' := 149) at_148 rfl
      replace R := R.iload (pc' := 151) (v := d2) at_149 rfl rfl
      replace R := R.iadd (pc' := 152) at_151 rfl
      replace R := R.istore (pc' := 154) (l' := #[.val (.int i0), .val (.int i1), .val (.int i2), .val (.int i3), .val (.int i4), .val (.int (i0 &&& (3 : Int32))), .val (.int c0), .val (.int c1), .val (.int c2), .val (.int (1 : Int32)), .val (.int ((1 : Int32) + (((i2.toUInt32 >>> ((1 : Int32) &&& 31).toUInt32).toInt32) &&& (1 : Int32)))), .val (.int d1), .val (.int d2), .val (.ref b85), .val (.int (3 : Int32)), .val (.int ((d1 * (10 : Int32)) + d2)), .unset, .unset, .unset]) at_152 rfl rfl
      replace R := R.iload (pc' := 156) (v := (1 : Int32)) at_154 rfl rfl
      replace R := R.ifN (pc' := 159) at_156 (feq (by decide : ¬ ((1 : Int32) = (0 : Int32)))).1 rfl
      replace R := R.iload (pc' := 161) (v := ((d1 * (10 : Int32)) + d2)) at_159 rfl rfl
      replace R := R.ineg (pc' := 162) at_161 rfl
      replace R := R.goto (pc' := 167) at_162 (by decide) rfl
      replace R := R.istore (pc' := 169) (l' := #[.val (.int i0), .val (.int i1), .val (.int i2), .val (.int i3), .val (.int i4), .val (.int (i0 &&& (3 : Int32))), .val (.int c0), .val (.int c1), .val (.int c2), .val (.int (1 : Int32)), .val (.int ((1 : Int32) + (((i2.toUInt32 >>> ((1 : Int32) &&& 31).toUInt32).toInt32) &&& (1 : Int32)))), .val (.int d1), .val (.int d2), .val (.ref b85), .val (.int (3 : Int32)), .val (.int ((d1 * (10 : Int32)) + d2)), .val (.int (-((d1 * (10 : Int32)) + d2))), .unset, .unset]) at_167 rfl rfl
      obtain ⟨h90, b90, g90, E90, X90, D90, R⟩ := R.newO (pc' := 172) (own_w2 hw) (own_w3 hw) (own_w4 hw) at_169 (by decide) (by decide) rfl
      have F90_quoted : Fld Z h90 b90 "com/example/pinsheet/pinsheet/WholeNumbers$Reading" "quoted" "[C" .null := D90 (Or.inr (own_w12 hw)) (ty := (.array .char)) (by decide)
      have F90_wellFormed : Fld Z h90 b90 "com/example/pinsheet/pinsheet/WholeNumbers$Reading" "wellFormed" "Z" (.int (0 : Int32)) := D90 (Or.inl (own_w14 hw)) (ty := .boolean) (by decide)
      have F90_quotedLength : Fld Z h90 b90 "com/example/pinsheet/pinsheet/WholeNumbers$Reading" "quotedLength" "I" (.int (0 : Int32)) := D90 (Or.inl (own_w21 hw)) (ty := .int) (by decide)
      have F90_cut : Fld Z h90 b90 "com/example/pinsheet/pinsheet/WholeNumbers$Reading" "cut" "Z" (.int (0 : Int32)) := D90 (Or.inl (own_w23 hw)) (ty := .boolean) (by decide)
      have F90_negative : Fld Z h90 b90 "com/example/pinsheet/pinsheet/WholeNumbers$Reading" "negative" "Z" (.int (0 : Int32)) := D90 (Or.inl (own_w25 hw)) (ty := .boolean) (by decide)
      have F90_digits : Fld Z h90 b90 "com/example/pinsheet/pinsheet/WholeNumbers$Reading" "digits" "Z" (.int (0 : Int32)) := D90 (Or.inl (own_w27 hw)) (ty := .boolean) (by decide)
      have F90_magnitude : Fld Z h90 b90 "com/example/pinsheet/pinsheet/WholeNumbers$Reading" "magnitude" "J" (.long (0 : Int64)) := D90 (Or.inl (own_w29 hw)) (ty := .long) (by decide)
      replace R := R.dup (pc' := 173) at_172 rfl rfl
      have K91 := ((Keep.refl h89 []).trans ((Keep.refl h89 []).ext E90) all0)
      have F92 := V89p.keep K91 nin0
      have hbt := F92.lt
      have nta : b90 ≠ b85 := Exa.neArv X90 F92 (own_w3 hw)
      obtain ⟨_, hR, _, ⟨q, kq, vs0, rfl, hvs0, KR, naq, hqs, XR, FR_quoted, FR_quotedLength, FR_cut, FR_negative, FR_digits, FR_wellFormed, FR_magnitude, VR, rfl⟩, R⟩ := R.callI (pc' := 176) (a := b90) (argsL := []) (rest := [(.ref b90)]) (W := 1) rfl (own_w5 hw) (own_w6 hw) (own_w4 hw) (own_w7 hw) (by decide) (rm_rinit C.l Z a0 hw b90 h90 n0 (b90 :: b85 :: Ds) (List.mem_of_getElem? (i := 0) rfl) X90 F90_quoted F90_quotedLength F90_cut F90_negative F90_digits F90_wellFormed F90_magnitude) rfl (lenOf own_pd13 rfl) rfl rfl at_173 (by decide) (by decide) (by decide) (by decide) rfl
      have nbq : b85 ≠ q := fun e => by rw [e] at hbt; exact Nat.lt_irrefl _ (Nat.lt_of_lt_of_le hbt hqs)
      replace R := R.mono (ce' := 3) (sl' := 42) (by decide) (by decide)
      replace R := R.stk (S' := [(.ref b90)]) rfl
      replace R := R.astore (pc' := 178) (l' := #[.val (.int i0), .val (.int i1), .val (.int i2), .val (.int i3), .val (.int i4), .val (.int (i0 &&& (3 : Int32))), .val (.int c0), .val (.int c1), .val (.int c2), .val (.int (1 : Int32)), .val (.int ((1 : Int32) + (((i2.toUInt32 >>> ((1 : Int32) &&& 31).toUInt32).toInt32) &&& (1 : Int32)))), .val (.int d1), .val (.int d2), .val (.ref b85), .val (.int (3 : Int32)), .val (.int ((d1 * (10 : Int32)) + d2)), .val (.int (-((d1 * (10 : Int32)) + d2))), .val (.ref b90), .unset]) at_176 rfl rfl rfl
      obtain ⟨h93, k93, ng93, dg93, wf93, mg93, vs93, hk93, hvs93, K93, X93, F93_quoted, F93_quotedLength, F93_cut, F93_negative, F93_digits, F93_wellFormed, F93_magnitude, V93, R⟩ : ∃ (h93 : Heap) (k93 : Nat) (ng93 dg93 wf93 : Int32) (mg93 : Int64) (vs93 : List Value), k93 ≤ 1 ∧ vs93.length = 32 ∧ Keep hR h93 [b90, q] ∧ Exa Z h93 b90 "com/example/pinsheet/pinsheet/WholeNumbers$Reading" ∧ Fld Z h93 b90 "com/example/pinsheet/pinsheet/WholeNumbers$Reading" "quoted" "[C" (.ref q) ∧ Fld Z h93 b90 "com/example/pinsheet/pinsheet/WholeNumbers$Reading" "quotedLength" "I" (.int (Int32.ofNat k93)) ∧ Fld Z h93 b90 "com/example/pinsheet/pinsheet/WholeNumbers$Reading" "cut" "Z" (.int (0 : Int32)) ∧ Fld Z h93 b90 "com/example/pinsheet/pinsheet/WholeNumbers$Reading" "negative" "Z" (.int ng93) ∧ Fld Z h93 b90 "com/example/pinsheet/pinsheet/WholeNumbers$Reading" "digits" "Z" (.int dg93) ∧ Fld Z h93 b90 "com/example/pinsheet/pinsheet/WholeNumbers$Reading" "wellFormed" "Z" (.int wf93) ∧ Fld Z h93 b90 "com/example/pinsheet/pinsheet/WholeNumbers$Reading" "magnitude" "J" (.long mg93) ∧ Arv Z h93 q kq .char (32 : Int32) vs93 (.int 0) ∧ Rc C room_1 "com/example/pinsheet/pinsheet/ReadingClearPinLaw" code maxLocals Z n0 3 42 191 #[.val (.int i0), .val (.int i1), .val (.int i2), .val (.int i3), .val (.int i4), .val (.int (i0 &&& (3 : Int32))), .val (.int c0), .val (.int c1), .val (.int c2), .val (.int (1 : Int32)), .val (.int ((1 : Int32) + (((i2.toUInt32 >>> ((1 : Int32) &&& 31).toUInt32).toInt32) &&& (1 : Int32)))), .val (.int d1), .val (.int d2), .val (.ref b85), .val (.int (3 : Int32)), .val (.int ((d1 * (10 : Int32)) + d2)), .val (.int (-((d1 * (10 : Int32)) + d2))), .val (.ref b90), .unset] [] h93 (q :: b90 :: b85 :: Ds) := by
        replace R := R.iload (pc' := 180) (v := (i0 &&& (3 : Int32))) at_178 rfl rfl
        replace R := R.iconst (pc' := 181) (z := (1 : Int32)) at_180 rfl rfl
        by_cases hc94 : (i0 &&& (3 : Int32)) < (1 : Int32)
        · replace R := R.icmpY (pc' := 191) at_181 (tlt hc94).1 (by decide) rfl
          have hK : Keep hR hR [b90, q] := Keep.refl hR [b90, q]
          exact ⟨hR, 0, _, _, _, _, _, (by have q := (Nat.le_refl 0); omega), hvs0, hK, XR, FR_quoted, FR_quotedLength, FR_cut, FR_negative, FR_digits, FR_wellFormed, FR_magnitude, VR, R.mono (ce' := 3) (sl' := 42) (by decide) (by decide)⟩
        · replace R := R.icmpN (pc' := 184) at_181 (flt hc94).1 rfl
          replace R := R.aload (pc' := 186) (v := (.ref b90)) at_184 rfl rfl rfl
          replace R := R.iload (pc' := 188) (v := c0) at_186 rfl rfl
          obtain ⟨_, h95, _, ⟨ng95, dg95, wf95, mg95, e_ng95, e_dg95, e_wf95, e_mg95, rfl, K95, X95, F95_quoted, F95_quotedLength, F95_cut, F95_negative, F95_digits, F95_wellFormed, F95_magnitude, V95, rfl⟩, R⟩ := R.callV (pc' := 191) (y := (⟨"com/example/pinsheet/pinsheet/WholeNumbers$Reading", "add", "(C)V"⟩ : MethodName)) (z := (⟨"com/example/pinsheet/pinsheet/WholeNumbers$Reading", "add", "(C)V"⟩ : MethodName)) (argsL := [(.int c0)]) (rest := []) (W := 0) (own_w30 hw) (own_w31 hw) (fun s' hZ' => notFace_of_selects (args := #[]) (mvT hZ' (own_w33 hw))) (own_w33 hw) (own_w32 hw) (own_w4 hw) (own_w34 hw) (by decide) XR (rm_add C.l Z a0 hw b90 c0 hR n0 (q :: b90 :: b85 :: Ds) (k := 0) (vs := vs0) (List.mem_of_getElem? (i := 1) rfl) (List.mem_of_getElem? (i := 0) rfl) naq rfl (by decide) hvs0 (nar_of hbc0) XR FR_quoted FR_quotedLength FR_cut FR_negative FR_digits FR_wellFormed FR_magnitude VR) rfl (lenOf own_pd14 rfl) rfl rfl at_188 (by decide) (by decide) (by decide) (by decide) rfl
          have G95_n : Fld Z h95 b90 "com/example/pinsheet/pinsheet/WholeNumbers$Reading" "quotedLength" "I" (.int (1 : Int32)) := F95_quotedLength
          replace R := R.mono (ce' := 3) (sl' := 42) (by decide) (by decide)
          replace R := R.stk (S' := []) rfl
          have hK : Keep hR h95 [b90, q] := ((Keep.refl hR [b90, q]).trans K95 (allS (Or.inl (List.mem_of_getElem? (i := 0) rfl)) (allS (Or.inl (List.mem_of_getElem? (i := 1) rfl)) all0)))
          exact ⟨h95, (0 + 1), _, _, _, _, _, (by have q := (Nat.le_refl 0); omega), (by rw [List.length_set]; exact hvs0), hK, X95, F95_quoted, G95_n, F95_cut, F95_negative, F95_digits, F95_wellFormed, F95_magnitude, V95, R.mono (ce' := 3) (sl' := 42) (by decide) (by decide)⟩
      obtain ⟨h96, k96, ng96, dg96, wf96, mg96, vs96, hk96, hvs96, K96, X96, F96_quoted, F96_quotedLength, F96_cut, F96_negative, F96_digits, F96_wellFormed, F96_magnitude, V96, R⟩ : ∃ (h96 : Heap) (k96 : Nat) (ng96 dg96 wf96 : Int32) (mg96 : Int64) (vs96 : List Value), k96 ≤ 2 ∧ vs96.length = 32 ∧ Keep h93 h96 [b90, q] ∧ Exa Z h96 b90 "com/example/pinsheet/pinsheet/WholeNumbers$Reading" ∧ Fld Z h96 b90 "com/example/pinsheet/pinsheet/WholeNumbers$Reading" "quoted" "[C" (.ref q) ∧ Fld Z h96 b90 "com/example/pinsheet/pinsheet/WholeNumbers$Reading" "quotedLength" "I" (.int (Int32.ofNat k96)) ∧ Fld Z h96 b90 "com/example/pinsheet/pinsheet/WholeNumbers$Reading" "cut" "Z" (.int (0 : Int32)) ∧ Fld Z h96 b90 "com/example/pinsheet/pinsheet/WholeNumbers$Reading" "negative" "Z" (.int ng96) ∧ Fld Z h96 b90 "com/example/pinsheet/pinsheet/WholeNumbers$Reading" "digits" "Z" (.int dg96) ∧ Fld Z h96 b90 "com/example/pinsheet/pinsheet/WholeNumbers$Reading" "wellFormed" "Z" (.int wf96) ∧ Fld Z h96 b90 "com/example/pinsheet/pinsheet/WholeNumbers$Reading" "magnitude" "J" (.long mg96) ∧ Arv Z h96 q kq .char (32 : Int32) vs96 (.int 0) ∧ Rc C room_1 "com/example/pinsheet/pinsheet/ReadingClearPinLaw" code maxLocals Z n0 3 42 204 #[.val (.int i0), .val (.int i1), .val (.int i2), .val (.int i3), .val (.int i4), .val (.int (i0 &&& (3 : Int32))), .val (.int c0), .val (.int c1), .val (.int c2), .val (.int (1 : Int32)), .val (.int ((1 : Int32) + (((i2.toUInt32 >>> ((1 : Int32) &&& 31).toUInt32).toInt32) &&& (1 : Int32)))), .val (.int d1), .val (.int d2), .val (.ref b85), .val (.int (3 : Int32)), .val (.int ((d1 * (10 : Int32)) + d2)), .val (.int (-((d1 * (10 : Int32)) + d2))), .val (.ref b90), .unset] [] h96 (q :: b90 :: b85 :: Ds) := by
        replace R := R.iload (pc' := 193) (v := (i0 &&& (3 : Int32))) at_191 rfl rfl
        replace R := R.iconst (pc' := 194) (z := (2 : Int32)) at_193 rfl rfl
        by_cases hc97 : (i0 &&& (3 : Int32)) < (2 : Int32)
        · replace R := R.icmpY (pc' := 204) at_194 (tlt hc97).1 (by decide) rfl
          have hK : Keep h93 h93 [b90, q] := Keep.refl h93 [b90, q]
          exact ⟨h93, k93, _, _, _, _, _, (by have q := hk93; omega), hvs93, hK, X93, F93_quoted, F93_quotedLength, F93_cut, F93_negative, F93_digits, F93_wellFormed, F93_magnitude, V93, R.mono (ce' := 3) (sl' := 42) (by decide) (by decide)⟩
        · replace R := R.icmpN (pc' := 197) at_194 (flt hc97).1 rfl
          replace R := R.aload (pc' := 199) (v := (.ref b90)) at_197 rfl rfl rfl
          replace R := R.iload (pc' := 201) (v := c1) at_199 rfl rfl
          obtain ⟨_, h98, _, ⟨ng98, dg98, wf98, mg98, e_ng98, e_dg98, e_wf98, e_mg98, rfl, K98, X98, F98_quoted, F98_quotedLength, F98_cut, F98_negative, F98_digits, F98_wellFormed, F98_magnitude, V98, rfl⟩, R⟩ := R.callV (pc' := 204) (y := (⟨"com/example/pinsheet/pinsheet/WholeNumbers$Reading", "add", "(C)V"⟩ : MethodName)) (z := (⟨"com/example/pinsheet/pinsheet/WholeNumbers$Reading", "add", "(C)V"⟩ : MethodName)) (argsL := [(.int c1)]) (rest := []) (W := 0) (own_w30 hw) (own_w31 hw) (fun s' hZ' => notFace_of_selects (args := #[]) (mvT hZ' (own_w33 hw))) (own_w33 hw) (own_w32 hw) (own_w4 hw) (own_w34 hw) (by decide) X93 (rm_add C.l Z a0 hw b90 c1 h93 n0 (q :: b90 :: b85 :: Ds) (k := k93) (vs := vs93) (List.mem_of_getElem? (i := 1) rfl) (List.mem_of_getElem? (i := 0) rfl) naq rfl (by omega) hvs93 (nar_of hbc1) X93 F93_quoted F93_quotedLength F93_cut F93_negative F93_digits F93_wellFormed F93_magnitude V93) rfl (lenOf own_pd14 rfl) rfl rfl at_201 (by decide) (by decide) (by decide) (by decide) rfl
          replace R := R.mono (ce' := 3) (sl' := 42) (by decide) (by decide)
          replace R := R.stk (S' := []) rfl
          have hK : Keep h93 h98 [b90, q] := ((Keep.refl h93 [b90, q]).trans K98 (allS (Or.inl (List.mem_of_getElem? (i := 0) rfl)) (allS (Or.inl (List.mem_of_getElem? (i := 1) rfl)) all0)))
          have Fn := F98_quotedLength
          rw [i32_succ] at Fn
          exact ⟨h98, (k93 + 1), _, _, _, _, _, (by have q := hk93; omega), (by rw [List.length_set]; exact hvs93), hK, X98, F98_quoted, Fn, F98_cut, F98_negative, F98_digits, F98_wellFormed, F98_magnitude, V98, R.mono (ce' := 3) (sl' := 42) (by decide) (by decide)⟩
      obtain ⟨h99, k99, ng99, dg99, wf99, mg99, vs99, hk99, hvs99, K99, X99, F99_quoted, F99_quotedLength, F99_cut, F99_negative, F99_digits, F99_wellFormed, F99_magnitude, V99, R⟩ : ∃ (h99 : Heap) (k99 : Nat) (ng99 dg99 wf99 : Int32) (mg99 : Int64) (vs99 : List Value), k99 ≤ 3 ∧ vs99.length = 32 ∧ Keep h96 h99 [b90, q] ∧ Exa Z h99 b90 "com/example/pinsheet/pinsheet/WholeNumbers$Reading" ∧ Fld Z h99 b90 "com/example/pinsheet/pinsheet/WholeNumbers$Reading" "quoted" "[C" (.ref q) ∧ Fld Z h99 b90 "com/example/pinsheet/pinsheet/WholeNumbers$Reading" "quotedLength" "I" (.int (Int32.ofNat k99)) ∧ Fld Z h99 b90 "com/example/pinsheet/pinsheet/WholeNumbers$Reading" "cut" "Z" (.int (0 : Int32)) ∧ Fld Z h99 b90 "com/example/pinsheet/pinsheet/WholeNumbers$Reading" "negative" "Z" (.int ng99) ∧ Fld Z h99 b90 "com/example/pinsheet/pinsheet/WholeNumbers$Reading" "digits" "Z" (.int dg99) ∧ Fld Z h99 b90 "com/example/pinsheet/pinsheet/WholeNumbers$Reading" "wellFormed" "Z" (.int wf99) ∧ Fld Z h99 b90 "com/example/pinsheet/pinsheet/WholeNumbers$Reading" "magnitude" "J" (.long mg99) ∧ Arv Z h99 q kq .char (32 : Int32) vs99 (.int 0) ∧ Rc C room_1 "com/example/pinsheet/pinsheet/ReadingClearPinLaw" code maxLocals Z n0 3 42 217 #[.val (.int i0), .val (.int i1), .val (.int i2), .val (.int i3), .val (.int i4), .val (.int (i0 &&& (3 : Int32))), .val (.int c0), .val (.int c1), .val (.int c2), .val (.int (1 : Int32)), .val (.int ((1 : Int32) + (((i2.toUInt32 >>> ((1 : Int32) &&& 31).toUInt32).toInt32) &&& (1 : Int32)))), .val (.int d1), .val (.int d2), .val (.ref b85), .val (.int (3 : Int32)), .val (.int ((d1 * (10 : Int32)) + d2)), .val (.int (-((d1 * (10 : Int32)) + d2))), .val (.ref b90), .unset] [] h99 (q :: b90 :: b85 :: Ds) := by
        replace R := R.iload (pc' := 206) (v := (i0 &&& (3 : Int32))) at_204 rfl rfl
        replace R := R.iconst (pc' := 207) (z := (3 : Int32)) at_206 rfl rfl
        by_cases hc100 : (i0 &&& (3 : Int32)) < (3 : Int32)
        · replace R := R.icmpY (pc' := 217) at_207 (tlt hc100).1 (by decide) rfl
          have hK : Keep h96 h96 [b90, q] := Keep.refl h96 [b90, q]
          exact ⟨h96, k96, _, _, _, _, _, (by have q := hk96; omega), hvs96, hK, X96, F96_quoted, F96_quotedLength, F96_cut, F96_negative, F96_digits, F96_wellFormed, F96_magnitude, V96, R.mono (ce' := 3) (sl' := 42) (by decide) (by decide)⟩
        · replace R := R.icmpN (pc' := 210) at_207 (flt hc100).1 rfl
          replace R := R.aload (pc' := 212) (v := (.ref b90)) at_210 rfl rfl rfl
          replace R := R.iload (pc' := 214) (v := c2) at_212 rfl rfl
          obtain ⟨_, h101, _, ⟨ng101, dg101, wf101, mg101, e_ng101, e_dg101, e_wf101, e_mg101, rfl, K101, X101, F101_quoted, F101_quotedLength, F101_cut, F101_negative, F101_digits, F101_wellFormed, F101_magnitude, V101, rfl⟩, R⟩ := R.callV (pc' := 217) (y := (⟨"com/example/pinsheet/pinsheet/WholeNumbers$Reading", "add", "(C)V"⟩ : MethodName)) (z := (⟨"com/example/pinsheet/pinsheet/WholeNumbers$Reading", "add", "(C)V"⟩ : MethodName)) (argsL := [(.int c2)]) (rest := []) (W := 0) (own_w30 hw) (own_w31 hw) (fun s' hZ' => notFace_of_selects (args := #[]) (mvT hZ' (own_w33 hw))) (own_w33 hw) (own_w32 hw) (own_w4 hw) (own_w34 hw) (by decide) X96 (rm_add C.l Z a0 hw b90 c2 h96 n0 (q :: b90 :: b85 :: Ds) (k := k96) (vs := vs96) (List.mem_of_getElem? (i := 1) rfl) (List.mem_of_getElem? (i := 0) rfl) naq rfl (by omega) hvs96 (nar_of hbc2) X96 F96_quoted F96_quotedLength F96_cut F96_negative F96_digits F96_wellFormed F96_magnitude V96) rfl (lenOf own_pd14 rfl) rfl rfl at_214 (by decide) (by decide) (by decide) (by decide) rfl
          replace R := R.mono (ce' := 3) (sl' := 42) (by decide) (by decide)
          replace R := R.stk (S' := []) rfl
          have hK : Keep h96 h101 [b90, q] := ((Keep.refl h96 [b90, q]).trans K101 (allS (Or.inl (List.mem_of_getElem? (i := 0) rfl)) (allS (Or.inl (List.mem_of_getElem? (i := 1) rfl)) all0)))
          have Fn := F101_quotedLength
          rw [i32_succ] at Fn
          exact ⟨h101, (k96 + 1), _, _, _, _, _, (by have q := hk96; omega), (by rw [List.length_set]; exact hvs96), hK, X101, F101_quoted, Fn, F101_cut, F101_negative, F101_digits, F101_wellFormed, F101_magnitude, V101, R.mono (ce' := 3) (sl' := 42) (by decide) (by decide)⟩
      replace R := R.aload (pc' := 219) (v := (.ref b90)) at_217 rfl rfl rfl
      obtain ⟨_, h102, _, ⟨rfl, K102, X102, F102_quoted, F102_quotedLength, F102_cut, F102_negative, F102_digits, F102_wellFormed, F102_magnitude, rfl⟩, R⟩ := R.callV (pc' := 222) (y := (⟨"com/example/pinsheet/pinsheet/WholeNumbers$Reading", "clear", "()V"⟩ : MethodName)) (z := (⟨"com/example/pinsheet/pinsheet/WholeNumbers$Reading", "clear", "()V"⟩ : MethodName)) (argsL := []) (rest := []) (W := 0) (own_w15 hw) (own_w16 hw) (fun s' hZ' => notFace_of_selects (args := #[]) (mvT hZ' (own_w18 hw))) (own_w18 hw) (own_w17 hw) (own_w4 hw) (own_w19 hw) (by decide) X99 (rm_clear C.l Z a0 hw b90 h99 n0 (q :: b90 :: b85 :: Ds) (List.mem_of_getElem? (i := 1) rfl) X99 F99_quoted F99_quotedLength F99_cut F99_negative F99_digits F99_wellFormed F99_magnitude) rfl (lenOf own_pd13 rfl) rfl rfl at_219 (by decide) (by decide) (by decide) (by decide) rfl
      replace R := R.mono (ce' := 3) (sl' := 42) (by decide) (by decide)
      replace R := R.stk (S' := []) rfl
      obtain ⟨v0, v1, v2, tl, rfl⟩ : ∃ v0 v1 v2 tl, vs99 = v0 :: v1 :: v2 :: tl := by
        match vs99, hvs99 with
        | v0 :: v1 :: v2 :: tl, _ => exact ⟨v0, v1, v2, tl, rfl⟩
      have hvt := hvs99
      replace R := R.iload (pc' := 224) (v := (3 : Int32)) at_222 rfl rfl
      replace R := R.iconst (pc' := 225) (z := (1 : Int32)) at_224 rfl rfl
      replace R := R.icmpN (pc' := 228) at_225 (flt (by decide : ¬ ((3 : Int32) < (1 : Int32)))).1 rfl
      replace R := R.aload (pc' := 230) (v := (.ref b90)) at_228 rfl rfl rfl
      replace R := R.aload (pc' := 232) (v := (.ref b85)) at_230 rfl rfl rfl
      replace R := R.iconst (pc' := 233) (z := (0 : Int32)) at_232 rfl rfl
      have K103 := ((((((Keep.refl h90 [b90, q]).trans KR (allS (Or.inl (List.mem_of_getElem? (i := 0) rfl)) all0)).trans K93 (allS (Or.inl (List.mem_of_getElem? (i := 0) rfl)) (allS (Or.inl (List.mem_of_getElem? (i := 1) rfl)) all0))).trans K96 (allS (Or.inl (List.mem_of_getElem? (i := 0) rfl)) (allS (Or.inl (List.mem_of_getElem? (i := 1) rfl)) all0))).trans K99 (allS (Or.inl (List.mem_of_getElem? (i := 0) rfl)) (allS (Or.inl (List.mem_of_getElem? (i := 1) rfl)) all0))).trans K102 (allS (Or.inl (List.mem_of_getElem? (i := 0) rfl)) all0))
      have F104 := F92.keep K103 (ninS (Ne.symm nta) (ninS nbq nin0))
      replace R := R.caload (pc' := 234) (v := (.int (45 : Int32))) F104 ⟨by decide, by decide⟩ rfl at_233 rfl
      have K106 := ((Keep.refl h99 [b90]).trans K102 (allS (Or.inl (List.mem_of_getElem? (i := 0) rfl)) all0))
      have F107 := V99.keep K106 (ninS (Ne.symm naq) nin0)
      obtain ⟨_, h105, _, ⟨ng105, dg105, wf105, mg105, e_ng105, e_dg105, e_wf105, e_mg105, rfl, K105, X105, F105_quoted, F105_quotedLength, F105_cut, F105_negative, F105_digits, F105_wellFormed, F105_magnitude, V105, rfl⟩, R⟩ := R.callV (pc' := 237) (y := (⟨"com/example/pinsheet/pinsheet/WholeNumbers$Reading", "add", "(C)V"⟩ : MethodName)) (z := (⟨"com/example/pinsheet/pinsheet/WholeNumbers$Reading", "add", "(C)V"⟩ : MethodName)) (argsL := [(.int (45 : Int32))]) (rest := []) (W := 0) (own_w30 hw) (own_w31 hw) (fun s' hZ' => notFace_of_selects (args := #[]) (mvT hZ' (own_w33 hw))) (own_w33 hw) (own_w32 hw) (own_w4 hw) (own_w34 hw) (by decide) X102 (rm_add C.l Z a0 hw b90 (45 : Int32) h102 n0 (q :: b90 :: b85 :: Ds) (k := 0) (vs := (v0 :: v1 :: v2 :: tl)) (List.mem_of_getElem? (i := 1) rfl) (List.mem_of_getElem? (i := 0) rfl) naq rfl (by decide) hvt (rfl) X102 F102_quoted F102_quotedLength F102_cut F102_negative F102_digits F102_wellFormed F102_magnitude F107) rfl (lenOf own_pd14 rfl) rfl rfl at_234 (by decide) (by decide) (by decide) (by decide) rfl
      have G105_n : Fld Z h105 b90 "com/example/pinsheet/pinsheet/WholeNumbers$Reading" "quotedLength" "I" (.int (1 : Int32)) := F105_quotedLength
      have W105 : Arv Z h105 q kq .char (32 : Int32) ((.int (45 : Int32)) :: v1 :: v2 :: tl) (.int 0) := V105
      replace R := R.mono (ce' := 3) (sl' := 42) (by decide) (by decide)
      replace R := R.stk (S' := []) rfl
      replace R := R.iload (pc' := 239) (v := (3 : Int32)) at_237 rfl rfl
      replace R := R.iconst (pc' := 240) (z := (2 : Int32)) at_239 rfl rfl
      replace R := R.icmpN (pc' := 243) at_240 (flt (by decide : ¬ ((3 : Int32) < (2 : Int32)))).1 rfl
      replace R := R.aload (pc' := 245) (v := (.ref b90)) at_243 rfl rfl rfl
      replace R := R.aload (pc' := 247) (v := (.ref b85)) at_245 rfl rfl rfl
      replace R := R.iconst (pc' := 248) (z := (1 : Int32)) at_247 rfl rfl
      have K108 := ((Keep.refl h102 [b90, q]).trans K105 (allS (Or.inl (List.mem_of_getElem? (i := 0) rfl)) (allS (Or.inl (List.mem_of_getElem? (i := 1) rfl)) all0)))
      have F109 := F104.keep K108 (ninS (Ne.symm nta) (ninS nbq nin0))
      replace R := R.caload (pc' := 249) (v := (.int x1)) F109 ⟨by decide, by decide⟩ rfl at_248 rfl
      obtain ⟨_, h110, _, ⟨ng110, dg110, wf110, mg110, e_ng110, e_dg110, e_wf110, e_mg110, rfl, K110, X110, F110_quoted, F110_quotedLength, F110_cut, F110_negative, F110_digits, F110_wellFormed, F110_magnitude, V110, rfl⟩, R⟩ := R.callV (pc' := 252) (y := (⟨"com/example/pinsheet/pinsheet/WholeNumbers$Reading", "add", "(C)V"⟩ : MethodName)) (z := (⟨"com/example/pinsheet/pinsheet/WholeNumbers$Reading", "add", "(C)V"⟩ : MethodName)) (argsL := [(.int x1)]) (rest := []) (W := 0) (own_w30 hw) (own_w31 hw) (fun s' hZ' => notFace_of_selects (args := #[]) (mvT hZ' (own_w33 hw))) (own_w33 hw) (own_w32 hw) (own_w4 hw) (own_w34 hw) (by decide) X105 (rm_add C.l Z a0 hw b90 x1 h105 n0 (q :: b90 :: b85 :: Ds) (k := 1) (vs := ((.int (45 : Int32)) :: v1 :: v2 :: tl)) (List.mem_of_getElem? (i := 1) rfl) (List.mem_of_getElem? (i := 0) rfl) naq rfl (by decide) hvt (nar_of hbx1) X105 F105_quoted G105_n F105_cut F105_negative F105_digits F105_wellFormed F105_magnitude W105) rfl (lenOf own_pd14 rfl) rfl rfl at_249 (by decide) (by decide) (by decide) (by decide) rfl
      have G110_n : Fld Z h110 b90 "com/example/pinsheet/pinsheet/WholeNumbers$Reading" "quotedLength" "I" (.int (2 : Int32)) := F110_quotedLength
      have W110 : Arv Z h110 q kq .char (32 : Int32) ((.int (45 : Int32)) :: (.int x1) :: v2 :: tl) (.int 0) := V110
      replace R := R.mono (ce' := 3) (sl' := 42) (by decide) (by decide)
      replace R := R.stk (S' := []) rfl
      replace R := R.iload (pc' := 254) (v := (3 : Int32)) at_252 rfl rfl
      replace R := R.iconst (pc' := 255) (z := (3 : Int32)) at_254 rfl rfl
      replace R := R.icmpN (pc' := 258) at_255 (flt (by decide : ¬ ((3 : Int32) < (3 : Int32)))).1 rfl
      replace R := R.aload (pc' := 260) (v := (.ref b90)) at_258 rfl rfl rfl
      replace R := R.aload (pc' := 262) (v := (.ref b85)) at_260 rfl rfl rfl
      replace R := R.iconst (pc' := 263) (z := (2 : Int32)) at_262 rfl rfl
      have K111 := ((Keep.refl h105 [b90, q]).trans K110 (allS (Or.inl (List.mem_of_getElem? (i := 0) rfl)) (allS (Or.inl (List.mem_of_getElem? (i := 1) rfl)) all0)))
      have F112 := F109.keep K111 (ninS (Ne.symm nta) (ninS nbq nin0))
      replace R := R.caload (pc' := 264) (v := (.int x2)) F112 ⟨by decide, by decide⟩ rfl at_263 rfl
      obtain ⟨_, h113, _, ⟨ng113, dg113, wf113, mg113, e_ng113, e_dg113, e_wf113, e_mg113, rfl, K113, X113, F113_quoted, F113_quotedLength, F113_cut, F113_negative, F113_digits, F113_wellFormed, F113_magnitude, V113, rfl⟩, R⟩ := R.callV (pc' := 267) (y := (⟨"com/example/pinsheet/pinsheet/WholeNumbers$Reading", "add", "(C)V"⟩ : MethodName)) (z := (⟨"com/example/pinsheet/pinsheet/WholeNumbers$Reading", "add", "(C)V"⟩ : MethodName)) (argsL := [(.int x2)]) (rest := []) (W := 0) (own_w30 hw) (own_w31 hw) (fun s' hZ' => notFace_of_selects (args := #[]) (mvT hZ' (own_w33 hw))) (own_w33 hw) (own_w32 hw) (own_w4 hw) (own_w34 hw) (by decide) X110 (rm_add C.l Z a0 hw b90 x2 h110 n0 (q :: b90 :: b85 :: Ds) (k := 2) (vs := ((.int (45 : Int32)) :: (.int x1) :: v2 :: tl)) (List.mem_of_getElem? (i := 1) rfl) (List.mem_of_getElem? (i := 0) rfl) naq rfl (by decide) hvt (nar_of hbx2) X110 F110_quoted G110_n F110_cut F110_negative F110_digits F110_wellFormed F110_magnitude W110) rfl (lenOf own_pd14 rfl) rfl rfl at_264 (by decide) (by decide) (by decide) (by decide) rfl
      have G113_n : Fld Z h113 b90 "com/example/pinsheet/pinsheet/WholeNumbers$Reading" "quotedLength" "I" (.int (3 : Int32)) := F113_quotedLength
      have W113 : Arv Z h113 q kq .char (32 : Int32) ((.int (45 : Int32)) :: (.int x1) :: (.int x2) :: tl) (.int 0) := V113
      replace R := R.mono (ce' := 3) (sl' := 42) (by decide) (by decide)
      replace R := R.stk (S' := []) rfl
      replace R := R.aload (pc' := 269) (v := (.ref b90)) at_267 rfl rfl rfl
      obtain ⟨_, h114, _, ⟨r114, rfl, S114, K114, rfl⟩, R⟩ := R.callV (pc' := 272) (y := (⟨"com/example/pinsheet/pinsheet/WholeNumbers$Reading", "text", "()Ljava/lang/String;"⟩ : MethodName)) (z := (⟨"com/example/pinsheet/pinsheet/WholeNumbers$Reading", "text", "()Ljava/lang/String;"⟩ : MethodName)) (argsL := []) (rest := []) (W := 0) (own_w37 hw) (own_w38 hw) (fun s' hZ' => notFace_of_selects (args := #[]) (mvT hZ' (own_w40 hw))) (own_w40 hw) (own_w39 hw) (own_w4 hw) (own_w41 hw) (by decide) X113 (rm_text3 C.l Z a0 hw b90 h113 n0 (q :: b90 :: b85 :: Ds) own_cs own_si (chS ⟨by decide, by decide⟩ (chS hbx1 (chS hbx2 ch0))) W113 F113_quoted G113_n) rfl (lenOf own_pd15 rfl) rfl rfl at_269 (by decide) (by decide) (by decide) (by decide) rfl
      replace R := R.mono (ce' := 5) (sl' := 49) (by decide) (by decide)
      replace R := R.stk (S' := [(.ref r114)]) rfl
      replace R := R.astore (pc' := 274) (l' := #[.val (.int i0), .val (.int i1), .val (.int i2), .val (.int i3), .val (.int i4), .val (.int (i0 &&& (3 : Int32))), .val (.int c0), .val (.int c1), .val (.int c2), .val (.int (1 : Int32)), .val (.int ((1 : Int32) + (((i2.toUInt32 >>> ((1 : Int32) &&& 31).toUInt32).toInt32) &&& (1 : Int32)))), .val (.int d1), .val (.int d2), .val (.ref b85), .val (.int (3 : Int32)), .val (.int ((d1 * (10 : Int32)) + d2)), .val (.int (-((d1 * (10 : Int32)) + d2))), .val (.ref b90), .val (.ref r114)]) at_272 rfl rfl rfl
      replace R := R.aload (pc' := 276) (v := (.ref r114)) at_274 rfl rfl rfl
      obtain ⟨_, _, _, ⟨rfl, rfl, rfl⟩, R⟩ := R.callV (pc' := 279) (y := (⟨"java/lang/String", "length", "()I"⟩ : MethodName)) (z := (⟨"java/lang/String", "length", "()I"⟩ : MethodName)) (argsL := []) (rest := []) (W := 0) (own_w80 hw) (own_w81 hw) (fun s' hZ' => notFace_of_selects (args := #[]) (mvT hZ' (own_w83 hw))) (own_w83 hw) (own_w82 hw) (own_w44 hw) (own_w84 hw) (by decide) S114.1 (rm_length C.l Z a0 hw r114 h114 n0 (q :: b90 :: b85 :: Ds) own_cs S114) rfl (lenOf own_pd16 rfl) rfl rfl at_276 (by decide) (by decide) (by decide) (by decide) rfl
      replace R := R.mono (ce' := 5) (sl' := 49) (by decide) (by decide)
      replace R := R.stk (S' := [(.int (3 : Int32))]) rfl
      replace R := R.iload (pc' := 281) (v := (3 : Int32)) at_279 rfl rfl
      replace R := R.icmpY (pc' := 286) at_281 (teq (by decide : (3 : Int32) = (3 : Int32))).1 (by decide) rfl
      replace R := R.aload (pc' := 288) (v := (.ref r114)) at_286 rfl rfl rfl
      replace R := R.iconst (pc' := 289) (z := (0 : Int32)) at_288 rfl rfl
      obtain ⟨_, _, _, ⟨rfl, rfl, rfl⟩, R⟩ := R.callV (pc' := 292) (y := (⟨"java/lang/String", "charAt", "(I)C"⟩ : MethodName)) (z := (⟨"java/lang/String", "charAt", "(I)C"⟩ : MethodName)) (argsL := [(.int (0 : Int32))]) (rest := []) (W := 0) (own_w90 hw) (own_w91 hw) (fun s' hZ' => notFace_of_selects (args := #[]) (mvT hZ' (own_w93 hw))) (own_w93 hw) (own_w92 hw) (own_w44 hw) (own_w94 hw) (by decide) S114.1 (rm_charAt C.l Z a0 hw r114 (0 : Int32) h114 n0 (q :: b90 :: b85 :: Ds) own_cs own_si (k := 0) rfl (Nat.le_of_ble_eq_true rfl) S114) rfl (lenOf own_pd17 rfl) rfl rfl at_289 (by decide) (by decide) (by decide) (by decide) rfl
      replace R := R.mono (ce' := 5) (sl' := 49) (by decide) (by decide)
      replace R := R.stk (S' := [(.int (45 : Int32))]) rfl
      replace R := R.aload (pc' := 294) (v := (.ref b85)) at_292 rfl rfl rfl
      replace R := R.iconst (pc' := 295) (z := (0 : Int32)) at_294 rfl rfl
      have K115 := (((Keep.refl h110 [b90, q]).trans K113 (allS (Or.inl (List.mem_of_getElem? (i := 0) rfl)) (allS (Or.inl (List.mem_of_getElem? (i := 1) rfl)) all0))).trans K114 all0)
      have F116 := F112.keep K115 (ninS (Ne.symm nta) (ninS nbq nin0))
      replace R := R.caload (pc' := 296) (v := (.int (45 : Int32))) F116 ⟨by decide, by decide⟩ rfl at_295 rfl
      replace R := R.icmpY (pc' := 301) at_296 (teq (by decide : (45 : Int32) = (45 : Int32))).1 (by decide) rfl
      replace R := R.iload (pc' := 303) (v := (3 : Int32)) at_301 rfl rfl
      replace R := R.iconst (pc' := 304) (z := (2 : Int32)) at_303 rfl rfl
      replace R := R.icmpN (pc' := 307) at_304 (flt (by decide : ¬ ((3 : Int32) < (2 : Int32)))).1 rfl
      replace R := R.aload (pc' := 309) (v := (.ref r114)) at_307 rfl rfl rfl
      replace R := R.iconst (pc' := 310) (z := (1 : Int32)) at_309 rfl rfl
      obtain ⟨_, _, _, ⟨rfl, rfl, rfl⟩, R⟩ := R.callV (pc' := 313) (y := (⟨"java/lang/String", "charAt", "(I)C"⟩ : MethodName)) (z := (⟨"java/lang/String", "charAt", "(I)C"⟩ : MethodName)) (argsL := [(.int (1 : Int32))]) (rest := []) (W := 0) (own_w90 hw) (own_w91 hw) (fun s' hZ' => notFace_of_selects (args := #[]) (mvT hZ' (own_w93 hw))) (own_w93 hw) (own_w92 hw) (own_w44 hw) (own_w94 hw) (by decide) S114.1 (rm_charAt C.l Z a0 hw r114 (1 : Int32) h114 n0 (q :: b90 :: b85 :: Ds) own_cs own_si (k := 1) rfl (Nat.le_of_ble_eq_true rfl) S114) rfl (lenOf own_pd17 rfl) rfl rfl at_310 (by decide) (by decide) (by decide) (by decide) rfl
      replace R := R.mono (ce' := 5) (sl' := 49) (by decide) (by decide)
      replace R := R.stk (S' := [(.int x1)]) rfl
      replace R := R.aload (pc' := 315) (v := (.ref b85)) at_313 rfl rfl rfl
      replace R := R.iconst (pc' := 316) (z := (1 : Int32)) at_315 rfl rfl
      replace R := R.caload (pc' := 317) (v := (.int x1)) F116 ⟨by decide, by decide⟩ rfl at_316 rfl
      replace R := R.icmpY (pc' := 322) at_317 (teq (rfl : x1 = x1)).1 (by decide) rfl
      replace R := R.iload (pc' := 324) (v := (3 : Int32)) at_322 rfl rfl
      replace R := R.iconst (pc' := 325) (z := (3 : Int32)) at_324 rfl rfl
      replace R := R.icmpN (pc' := 328) at_325 (flt (by decide : ¬ ((3 : Int32) < (3 : Int32)))).1 rfl
      replace R := R.aload (pc' := 330) (v := (.ref r114)) at_328 rfl rfl rfl
      replace R := R.iconst (pc' := 331) (z := (2 : Int32)) at_330 rfl rfl
      obtain ⟨_, _, _, ⟨rfl, rfl, rfl⟩, R⟩ := R.callV (pc' := 334) (y := (⟨"java/lang/String", "charAt", "(I)C"⟩ : MethodName)) (z := (⟨"java/lang/String", "charAt", "(I)C"⟩ : MethodName)) (argsL := [(.int (2 : Int32))]) (rest := []) (W := 0) (own_w90 hw) (own_w91 hw) (fun s' hZ' => notFace_of_selects (args := #[]) (mvT hZ' (own_w93 hw))) (own_w93 hw) (own_w92 hw) (own_w44 hw) (own_w94 hw) (by decide) S114.1 (rm_charAt C.l Z a0 hw r114 (2 : Int32) h114 n0 (q :: b90 :: b85 :: Ds) own_cs own_si (k := 2) rfl (Nat.le_of_ble_eq_true rfl) S114) rfl (lenOf own_pd17 rfl) rfl rfl at_331 (by decide) (by decide) (by decide) (by decide) rfl
      replace R := R.mono (ce' := 5) (sl' := 49) (by decide) (by decide)
      replace R := R.stk (S' := [(.int x2)]) rfl
      replace R := R.aload (pc' := 336) (v := (.ref b85)) at_334 rfl rfl rfl
      replace R := R.iconst (pc' := 337) (z := (2 : Int32)) at_336 rfl rfl
      replace R := R.caload (pc' := 338) (v := (.int x2)) F116 ⟨by decide, by decide⟩ rfl at_337 rfl
      replace R := R.icmpY (pc' := 343) at_338 (teq (rfl : x2 = x2)).1 (by decide) rfl
      replace R := R.aload (pc' := 345) (v := (.ref b90)) at_343 rfl rfl rfl
      obtain ⟨h117, as, E117, R⟩ := R.ldcAny (pc' := 347) (n := 16) rfl rfl (own_w110 hw) wS at_345 (by decide +kernel) (by decide) (by decide) (by decide) rfl
      have hV : (¬ wf113 = 0) ∧ (¬ dg113 = 0) ∧ (¬ (0 : Int32) < lcmpW mg113 (2147483648 : Int64)) ∧ (¬ (0 : Int32) < lcmpW mg113 (2147483647 : Int64)) ∧ (s_val ng113 mg113) = (-((d1 * (10 : Int32)) + d2)) := by
        subst e_ng113 e_dg113 e_wf113 e_mg113
        subst e_ng110 e_dg110 e_wf110 e_mg110
        subst e_ng105 e_dg105 e_wf105 e_mg105
        subst e_x1 e_x2
        rw [hd1, hd2]
        clear hd1 hd2
        revert jd1 jd2
        decide +kernel
      have K118 := (((Keep.refl h113 []).trans K114 all0).trans ((Keep.refl h114 []).ext E117) all0)
      have F119 := F113_quoted.keep K118 nin0
      have K120 := (((Keep.refl h113 []).trans K114 all0).trans ((Keep.refl h114 []).ext E117) all0)
      have F121 := G113_n.keep K120 nin0
      have K122 := (((Keep.refl h113 []).trans K114 all0).trans ((Keep.refl h114 []).ext E117) all0)
      have F123 := F113_cut.keep K122 nin0
      have K124 := (((Keep.refl h113 []).trans K114 all0).trans ((Keep.refl h114 []).ext E117) all0)
      have F125 := F113_negative.keep K124 nin0
      have K126 := (((Keep.refl h113 []).trans K114 all0).trans ((Keep.refl h114 []).ext E117) all0)
      have F127 := F113_digits.keep K126 nin0
      have K128 := (((Keep.refl h113 []).trans K114 all0).trans ((Keep.refl h114 []).ext E117) all0)
      have F129 := F113_wellFormed.keep K128 nin0
      have K130 := (((Keep.refl h113 []).trans K114 all0).trans ((Keep.refl h114 []).ext E117) all0)
      have F131 := F113_magnitude.keep K130 nin0
      have K132 := (((Keep.refl h113 []).trans K114 all0).trans ((Keep.refl h114 []).ext E117) all0)
      have F133 := X113.keep K132
      obtain ⟨_, _, _, ⟨rfl, rfl, rfl⟩, R⟩ := R.callV (pc' := 350) (y := (⟨"com/example/pinsheet/pinsheet/WholeNumbers$Reading", "value", "(Ljava/lang/String;)I"⟩ : MethodName)) (z := (⟨"com/example/pinsheet/pinsheet/WholeNumbers$Reading", "value", "(Ljava/lang/String;)I"⟩ : MethodName)) (argsL := [(.ref as)]) (rest := []) (W := 0) (own_w113 hw) (own_w114 hw) (fun s' hZ' => notFace_of_selects (args := #[]) (mvT hZ' (own_w116 hw))) (own_w116 hw) (own_w115 hw) (own_w4 hw) (own_w117 hw) (by decide) F133 (rm_value C.l Z a0 hw b90 as h117 n0 (q :: b90 :: b85 :: Ds) hV.1 hV.2.1 hV.2.2.1 hV.2.2.2.1 F119 F121 F123 F125 F127 F129 F131) rfl (lenOf own_pd18 rfl) rfl rfl at_347 (by decide) (by decide) (by decide) (by decide) rfl
      replace R := R.mono (ce' := 7) (sl' := 69) (by decide) (by decide)
      replace R := R.stk (S' := [(.int (s_val ng113 mg113))]) rfl
      replace R := R.iload (pc' := 352) (v := (-((d1 * (10 : Int32)) + d2))) at_350 rfl rfl
      replace R := R.icmpN (pc' := 355) at_352 (teq hV.2.2.2.2).2 rfl
      replace R := R.iconst (pc' := 356) (z := (1 : Int32)) at_355 rfl rfl
      replace R := R.goto (pc' := 360) at_356 (by decide) rfl
      exact R.retN (Ds' := []) hret (by simp) (show nar .boolean 1 = 1 from rfl) at_360 (by decide) (by decide) (fun _ q => nomatch q) rfl
    · replace R := R.icmpY (pc' := 133) at_116 (feq hc88).2 (by decide) rfl
      replace R := R.iload (pc' := 135) (v := ((1 : Int32) + (((i2.toUInt32 >>> ((1 : Int32) &&& 31).toUInt32).toInt32) &&& (1 : Int32)))) at_133 rfl rfl
      replace R := R.iconst (pc' := 136) (z := (1 : Int32)) at_135 rfl rfl
      replace R := R.icmpN (pc' := 139) at_136 (teq (own_n2 hc88)).2 rfl
      replace R := R.iload (pc' := 141) (v := d1) at_139 rfl rfl
      replace R := R.goto (pc' := 152) at_141 (by decide) rfl
      replace R := R.istore (pc' := 154) (l' := #[.val (.int i0), .val (.int i1), .val (.int i2), .val (.int i3), .val (.int i4), .val (.int (i0 &&& (3 : Int32))), .val (.int c0), .val (.int c1), .val (.int c2), .val (.int (1 : Int32)), .val (.int ((1 : Int32) + (((i2.toUInt32 >>> ((1 : Int32) &&& 31).toUInt32).toInt32) &&& (1 : Int32)))), .val (.int d1), .val (.int d2), .val (.ref b85), .val (.int (2 : Int32)), .val (.int d1), .unset, .unset, .unset]) at_152 rfl rfl
      replace R := R.iload (pc' := 156) (v := (1 : Int32)) at_154 rfl rfl
      replace R := R.ifN (pc' := 159) at_156 (feq (by decide : ¬ ((1 : Int32) = (0 : Int32)))).1 rfl
      replace R := R.iload (pc' := 161) (v := d1) at_159 rfl rfl
      replace R := R.ineg (pc' := 162) at_161 rfl
      replace R := R.goto (pc' := 167) at_162 (by decide) rfl
      replace R := R.istore (pc' := 169) (l' := #[.val (.int i0), .val (.int i1), .val (.int i2), .val (.int i3), .val (.int i4), .val (.int (i0 &&& (3 : Int32))), .val (.int c0), .val (.int c1), .val (.int c2), .val (.int (1 : Int32)), .val (.int ((1 : Int32) + (((i2.toUInt32 >>> ((1 : Int32) &&& 31).toUInt32).toInt32) &&& (1 : Int32)))), .val (.int d1), .val (.int d2), .val (.ref b85), .val (.int (2 : Int32)), .val (.int d1), .val (.int (-d1)), .unset, .unset]) at_167 rfl rfl
      obtain ⟨h134, b134, g134, E134, X134, D134, R⟩ := R.newO (pc' := 172) (own_w2 hw) (own_w3 hw) (own_w4 hw) at_169 (by decide) (by decide) rfl
      have F134_quoted : Fld Z h134 b134 "com/example/pinsheet/pinsheet/WholeNumbers$Reading" "quoted" "[C" .null := D134 (Or.inr (own_w12 hw)) (ty := (.array .char)) (by decide)
      have F134_wellFormed : Fld Z h134 b134 "com/example/pinsheet/pinsheet/WholeNumbers$Reading" "wellFormed" "Z" (.int (0 : Int32)) := D134 (Or.inl (own_w14 hw)) (ty := .boolean) (by decide)
      have F134_quotedLength : Fld Z h134 b134 "com/example/pinsheet/pinsheet/WholeNumbers$Reading" "quotedLength" "I" (.int (0 : Int32)) := D134 (Or.inl (own_w21 hw)) (ty := .int) (by decide)
      have F134_cut : Fld Z h134 b134 "com/example/pinsheet/pinsheet/WholeNumbers$Reading" "cut" "Z" (.int (0 : Int32)) := D134 (Or.inl (own_w23 hw)) (ty := .boolean) (by decide)
      have F134_negative : Fld Z h134 b134 "com/example/pinsheet/pinsheet/WholeNumbers$Reading" "negative" "Z" (.int (0 : Int32)) := D134 (Or.inl (own_w25 hw)) (ty := .boolean) (by decide)
      have F134_digits : Fld Z h134 b134 "com/example/pinsheet/pinsheet/WholeNumbers$Reading" "digits" "Z" (.int (0 : Int32)) := D134 (Or.inl (own_w27 hw)) (ty := .boolean) (by decide)
      have F134_magnitude : Fld Z h134 b134 "com/example/pinsheet/pinsheet/WholeNumbers$Reading" "magnitude" "J" (.long (0 : Int64)) := D134 (Or.inl (own_w29 hw)) (ty := .long) (by decide)
      replace R := R.dup (pc' := 173) at_172 rfl rfl
      have K135 := ((Keep.refl h87 []).trans ((Keep.refl h87 []).ext E134) all0)
      have F136 := V87p.keep K135 nin0
      have hbt := F136.lt
      have nta : b134 ≠ b85 := Exa.neArv X134 F136 (own_w3 hw)
      obtain ⟨_, hR, _, ⟨q, kq, vs0, rfl, hvs0, KR, naq, hqs, XR, FR_quoted, FR_quotedLength, FR_cut, FR_negative, FR_digits, FR_wellFormed, FR_magnitude, VR, rfl⟩, R⟩ := R.callI (pc' := 176) (a := b134) (argsL := []) (rest := [(.ref b134)]) (W := 1) rfl (own_w5 hw) (own_w6 hw) (own_w4 hw) (own_w7 hw) (by decide) (rm_rinit C.l Z a0 hw b134 h134 n0 (b134 :: b85 :: Ds) (List.mem_of_getElem? (i := 0) rfl) X134 F134_quoted F134_quotedLength F134_cut F134_negative F134_digits F134_wellFormed F134_magnitude) rfl (lenOf own_pd13 rfl) rfl rfl at_173 (by decide) (by decide) (by decide) (by decide) rfl
      have nbq : b85 ≠ q := fun e => by rw [e] at hbt; exact Nat.lt_irrefl _ (Nat.lt_of_lt_of_le hbt hqs)
      replace R := R.mono (ce' := 3) (sl' := 42) (by decide) (by decide)
      replace R := R.stk (S' := [(.ref b134)]) rfl
      replace R := R.astore (pc' := 178) (l' := #[.val (.int i0), .val (.int i1), .val (.int i2), .val (.int i3), .val (.int i4), .val (.int (i0 &&& (3 : Int32))), .val (.int c0), .val (.int c1), .val (.int c2), .val (.int (1 : Int32)), .val (.int ((1 : Int32) + (((i2.toUInt32 >>> ((1 : Int32) &&& 31).toUInt32).toInt32) &&& (1 : Int32)))), .val (.int d1), .val (.int d2), .val (.ref b85), .val (.int (2 : Int32)), .val (.int d1), .val (.int (-d1)), .val (.ref b134), .unset]) at_176 rfl rfl rfl
      obtain ⟨h137, k137, ng137, dg137, wf137, mg137, vs137, hk137, hvs137, K137, X137, F137_quoted, F137_quotedLength, F137_cut, F137_negative, F137_digits, F137_wellFormed, F137_magnitude, V137, R⟩ : ∃ (h137 : Heap) (k137 : Nat) (ng137 dg137 wf137 : Int32) (mg137 : Int64) (vs137 : List Value), k137 ≤ 1 ∧ vs137.length = 32 ∧ Keep hR h137 [b134, q] ∧ Exa Z h137 b134 "com/example/pinsheet/pinsheet/WholeNumbers$Reading" ∧ Fld Z h137 b134 "com/example/pinsheet/pinsheet/WholeNumbers$Reading" "quoted" "[C" (.ref q) ∧ Fld Z h137 b134 "com/example/pinsheet/pinsheet/WholeNumbers$Reading" "quotedLength" "I" (.int (Int32.ofNat k137)) ∧ Fld Z h137 b134 "com/example/pinsheet/pinsheet/WholeNumbers$Reading" "cut" "Z" (.int (0 : Int32)) ∧ Fld Z h137 b134 "com/example/pinsheet/pinsheet/WholeNumbers$Reading" "negative" "Z" (.int ng137) ∧ Fld Z h137 b134 "com/example/pinsheet/pinsheet/WholeNumbers$Reading" "digits" "Z" (.int dg137) ∧ Fld Z h137 b134 "com/example/pinsheet/pinsheet/WholeNumbers$Reading" "wellFormed" "Z" (.int wf137) ∧ Fld Z h137 b134 "com/example/pinsheet/pinsheet/WholeNumbers$Reading" "magnitude" "J" (.long mg137) ∧ Arv Z h137 q kq .char (32 : Int32) vs137 (.int 0) ∧ Rc C room_1 "com/example/pinsheet/pinsheet/ReadingClearPinLaw" code maxLocals Z n0 3 42 191 #[.val (.int i0), .val (.int i1), .val (.int i2), .val (.int i3), .val (.int i4), .val (.int (i0 &&& (3 : Int32))), .val (.int c0), .val (.int c1), .val (.int c2), .val (.int (1 : Int32)), .val (.int ((1 : Int32) + (((i2.toUInt32 >>> ((1 : Int32) &&& 31).toUInt32).toInt32) &&& (1 : Int32)))), .val (.int d1), .val (.int d2), .val (.ref b85), .val (.int (2 : Int32)), .val (.int d1), .val (.int (-d1)), .val (.ref b134), .unset] [] h137 (q :: b134 :: b85 :: Ds) := by
        replace R := R.iload (pc' := 180) (v := (i0 &&& (3 : Int32))) at_178 rfl rfl
        replace R := R.iconst (pc' := 181) (z := (1 : Int32)) at_180 rfl rfl
        by_cases hc138 : (i0 &&& (3 : Int32)) < (1 : Int32)
        · replace R := R.icmpY (pc' := 191) at_181 (tlt hc138).1 (by decide) rfl
          have hK : Keep hR hR [b134, q] := Keep.refl hR [b134, q]
          exact ⟨hR, 0, _, _, _, _, _, (by have q := (Nat.le_refl 0); omega), hvs0, hK, XR, FR_quoted, FR_quotedLength, FR_cut, FR_negative, FR_digits, FR_wellFormed, FR_magnitude, VR, R.mono (ce' := 3) (sl' := 42) (by decide) (by decide)⟩
        · replace R := R.icmpN (pc' := 184) at_181 (flt hc138).1 rfl
          replace R := R.aload (pc' := 186) (v := (.ref b134)) at_184 rfl rfl rfl
          replace R := R.iload (pc' := 188) (v := c0) at_186 rfl rfl
          obtain ⟨_, h139, _, ⟨ng139, dg139, wf139, mg139, e_ng139, e_dg139, e_wf139, e_mg139, rfl, K139, X139, F139_quoted, F139_quotedLength, F139_cut, F139_negative, F139_digits, F139_wellFormed, F139_magnitude, V139, rfl⟩, R⟩ := R.callV (pc' := 191) (y := (⟨"com/example/pinsheet/pinsheet/WholeNumbers$Reading", "add", "(C)V"⟩ : MethodName)) (z := (⟨"com/example/pinsheet/pinsheet/WholeNumbers$Reading", "add", "(C)V"⟩ : MethodName)) (argsL := [(.int c0)]) (rest := []) (W := 0) (own_w30 hw) (own_w31 hw) (fun s' hZ' => notFace_of_selects (args := #[]) (mvT hZ' (own_w33 hw))) (own_w33 hw) (own_w32 hw) (own_w4 hw) (own_w34 hw) (by decide) XR (rm_add C.l Z a0 hw b134 c0 hR n0 (q :: b134 :: b85 :: Ds) (k := 0) (vs := vs0) (List.mem_of_getElem? (i := 1) rfl) (List.mem_of_getElem? (i := 0) rfl) naq rfl (by decide) hvs0 (nar_of hbc0) XR FR_quoted FR_quotedLength FR_cut FR_negative FR_digits FR_wellFormed FR_magnitude VR) rfl (lenOf own_pd14 rfl) rfl rfl at_188 (by decide) (by decide) (by decide) (by decide) rfl
          have G139_n : Fld Z h139 b134 "com/example/pinsheet/pinsheet/WholeNumbers$Reading" "quotedLength" "I" (.int (1 : Int32)) := F139_quotedLength
          replace R := R.mono (ce' := 3) (sl' := 42) (by decide) (by decide)
          replace R := R.stk (S' := []) rfl
          have hK : Keep hR h139 [b134, q] := ((Keep.refl hR [b134, q]).trans K139 (allS (Or.inl (List.mem_of_getElem? (i := 0) rfl)) (allS (Or.inl (List.mem_of_getElem? (i := 1) rfl)) all0)))
          exact ⟨h139, (0 + 1), _, _, _, _, _, (by have q := (Nat.le_refl 0); omega), (by rw [List.length_set]; exact hvs0), hK, X139, F139_quoted, G139_n, F139_cut, F139_negative, F139_digits, F139_wellFormed, F139_magnitude, V139, R.mono (ce' := 3) (sl' := 42) (by decide) (by decide)⟩
      obtain ⟨h140, k140, ng140, dg140, wf140, mg140, vs140, hk140, hvs140, K140, X140, F140_quoted, F140_quotedLength, F140_cut, F140_negative, F140_digits, F140_wellFormed, F140_magnitude, V140, R⟩ : ∃ (h140 : Heap) (k140 : Nat) (ng140 dg140 wf140 : Int32) (mg140 : Int64) (vs140 : List Value), k140 ≤ 2 ∧ vs140.length = 32 ∧ Keep h137 h140 [b134, q] ∧ Exa Z h140 b134 "com/example/pinsheet/pinsheet/WholeNumbers$Reading" ∧ Fld Z h140 b134 "com/example/pinsheet/pinsheet/WholeNumbers$Reading" "quoted" "[C" (.ref q) ∧ Fld Z h140 b134 "com/example/pinsheet/pinsheet/WholeNumbers$Reading" "quotedLength" "I" (.int (Int32.ofNat k140)) ∧ Fld Z h140 b134 "com/example/pinsheet/pinsheet/WholeNumbers$Reading" "cut" "Z" (.int (0 : Int32)) ∧ Fld Z h140 b134 "com/example/pinsheet/pinsheet/WholeNumbers$Reading" "negative" "Z" (.int ng140) ∧ Fld Z h140 b134 "com/example/pinsheet/pinsheet/WholeNumbers$Reading" "digits" "Z" (.int dg140) ∧ Fld Z h140 b134 "com/example/pinsheet/pinsheet/WholeNumbers$Reading" "wellFormed" "Z" (.int wf140) ∧ Fld Z h140 b134 "com/example/pinsheet/pinsheet/WholeNumbers$Reading" "magnitude" "J" (.long mg140) ∧ Arv Z h140 q kq .char (32 : Int32) vs140 (.int 0) ∧ Rc C room_1 "com/example/pinsheet/pinsheet/ReadingClearPinLaw" code maxLocals Z n0 3 42 204 #[.val (.int i0), .val (.int i1), .val (.int i2), .val (.int i3), .val (.int i4), .val (.int (i0 &&& (3 : Int32))), .val (.int c0), .val (.int c1), .val (.int c2), .val (.int (1 : Int32)), .val (.int ((1 : Int32) + (((i2.toUInt32 >>> ((1 : Int32) &&& 31).toUInt32).toInt32) &&& (1 : Int32)))), .val (.int d1), .val (.int d2), .val (.ref b85), .val (.int (2 : Int32)), .val (.int d1), .val (.int (-d1)), .val (.ref b134), .unset] [] h140 (q :: b134 :: b85 :: Ds) := by
        replace R := R.iload (pc' := 193) (v := (i0 &&& (3 : Int32))) at_191 rfl rfl
        replace R := R.iconst (pc' := 194) (z := (2 : Int32)) at_193 rfl rfl
        by_cases hc141 : (i0 &&& (3 : Int32)) < (2 : Int32)
        · replace R := R.icmpY (pc' := 204) at_194 (tlt hc141).1 (by decide) rfl
          have hK : Keep h137 h137 [b134, q] := Keep.refl h137 [b134, q]
          exact ⟨h137, k137, _, _, _, _, _, (by have q := hk137; omega), hvs137, hK, X137, F137_quoted, F137_quotedLength, F137_cut, F137_negative, F137_digits, F137_wellFormed, F137_magnitude, V137, R.mono (ce' := 3) (sl' := 42) (by decide) (by decide)⟩
        · replace R := R.icmpN (pc' := 197) at_194 (flt hc141).1 rfl
          replace R := R.aload (pc' := 199) (v := (.ref b134)) at_197 rfl rfl rfl
          replace R := R.iload (pc' := 201) (v := c1) at_199 rfl rfl
          obtain ⟨_, h142, _, ⟨ng142, dg142, wf142, mg142, e_ng142, e_dg142, e_wf142, e_mg142, rfl, K142, X142, F142_quoted, F142_quotedLength, F142_cut, F142_negative, F142_digits, F142_wellFormed, F142_magnitude, V142, rfl⟩, R⟩ := R.callV (pc' := 204) (y := (⟨"com/example/pinsheet/pinsheet/WholeNumbers$Reading", "add", "(C)V"⟩ : MethodName)) (z := (⟨"com/example/pinsheet/pinsheet/WholeNumbers$Reading", "add", "(C)V"⟩ : MethodName)) (argsL := [(.int c1)]) (rest := []) (W := 0) (own_w30 hw) (own_w31 hw) (fun s' hZ' => notFace_of_selects (args := #[]) (mvT hZ' (own_w33 hw))) (own_w33 hw) (own_w32 hw) (own_w4 hw) (own_w34 hw) (by decide) X137 (rm_add C.l Z a0 hw b134 c1 h137 n0 (q :: b134 :: b85 :: Ds) (k := k137) (vs := vs137) (List.mem_of_getElem? (i := 1) rfl) (List.mem_of_getElem? (i := 0) rfl) naq rfl (by omega) hvs137 (nar_of hbc1) X137 F137_quoted F137_quotedLength F137_cut F137_negative F137_digits F137_wellFormed F137_magnitude V137) rfl (lenOf own_pd14 rfl) rfl rfl at_201 (by decide) (by decide) (by decide) (by decide) rfl
          replace R := R.mono (ce' := 3) (sl' := 42) (by decide) (by decide)
          replace R := R.stk (S' := []) rfl
          have hK : Keep h137 h142 [b134, q] := ((Keep.refl h137 [b134, q]).trans K142 (allS (Or.inl (List.mem_of_getElem? (i := 0) rfl)) (allS (Or.inl (List.mem_of_getElem? (i := 1) rfl)) all0)))
          have Fn := F142_quotedLength
          rw [i32_succ] at Fn
          exact ⟨h142, (k137 + 1), _, _, _, _, _, (by have q := hk137; omega), (by rw [List.length_set]; exact hvs137), hK, X142, F142_quoted, Fn, F142_cut, F142_negative, F142_digits, F142_wellFormed, F142_magnitude, V142, R.mono (ce' := 3) (sl' := 42) (by decide) (by decide)⟩
      obtain ⟨h143, k143, ng143, dg143, wf143, mg143, vs143, hk143, hvs143, K143, X143, F143_quoted, F143_quotedLength, F143_cut, F143_negative, F143_digits, F143_wellFormed, F143_magnitude, V143, R⟩ : ∃ (h143 : Heap) (k143 : Nat) (ng143 dg143 wf143 : Int32) (mg143 : Int64) (vs143 : List Value), k143 ≤ 3 ∧ vs143.length = 32 ∧ Keep h140 h143 [b134, q] ∧ Exa Z h143 b134 "com/example/pinsheet/pinsheet/WholeNumbers$Reading" ∧ Fld Z h143 b134 "com/example/pinsheet/pinsheet/WholeNumbers$Reading" "quoted" "[C" (.ref q) ∧ Fld Z h143 b134 "com/example/pinsheet/pinsheet/WholeNumbers$Reading" "quotedLength" "I" (.int (Int32.ofNat k143)) ∧ Fld Z h143 b134 "com/example/pinsheet/pinsheet/WholeNumbers$Reading" "cut" "Z" (.int (0 : Int32)) ∧ Fld Z h143 b134 "com/example/pinsheet/pinsheet/WholeNumbers$Reading" "negative" "Z" (.int ng143) ∧ Fld Z h143 b134 "com/example/pinsheet/pinsheet/WholeNumbers$Reading" "digits" "Z" (.int dg143) ∧ Fld Z h143 b134 "com/example/pinsheet/pinsheet/WholeNumbers$Reading" "wellFormed" "Z" (.int wf143) ∧ Fld Z h143 b134 "com/example/pinsheet/pinsheet/WholeNumbers$Reading" "magnitude" "J" (.long mg143) ∧ Arv Z h143 q kq .char (32 : Int32) vs143 (.int 0) ∧ Rc C room_1 "com/example/pinsheet/pinsheet/ReadingClearPinLaw" code maxLocals Z n0 3 42 217 #[.val (.int i0), .val (.int i1), .val (.int i2), .val (.int i3), .val (.int i4), .val (.int (i0 &&& (3 : Int32))), .val (.int c0), .val (.int c1), .val (.int c2), .val (.int (1 : Int32)), .val (.int ((1 : Int32) + (((i2.toUInt32 >>> ((1 : Int32) &&& 31).toUInt32).toInt32) &&& (1 : Int32)))), .val (.int d1), .val (.int d2), .val (.ref b85), .val (.int (2 : Int32)), .val (.int d1), .val (.int (-d1)), .val (.ref b134), .unset] [] h143 (q :: b134 :: b85 :: Ds) := by
        replace R := R.iload (pc' := 206) (v := (i0 &&& (3 : Int32))) at_204 rfl rfl
        replace R := R.iconst (pc' := 207) (z := (3 : Int32)) at_206 rfl rfl
        by_cases hc144 : (i0 &&& (3 : Int32)) < (3 : Int32)
        · replace R := R.icmpY (pc' := 217) at_207 (tlt hc144).1 (by decide) rfl
          have hK : Keep h140 h140 [b134, q] := Keep.refl h140 [b134, q]
          exact ⟨h140, k140, _, _, _, _, _, (by have q := hk140; omega), hvs140, hK, X140, F140_quoted, F140_quotedLength, F140_cut, F140_negative, F140_digits, F140_wellFormed, F140_magnitude, V140, R.mono (ce' := 3) (sl' := 42) (by decide) (by decide)⟩
        · replace R := R.icmpN (pc' := 210) at_207 (flt hc144).1 rfl
          replace R := R.aload (pc' := 212) (v := (.ref b134)) at_210 rfl rfl rfl
          replace R := R.iload (pc' := 214) (v := c2) at_212 rfl rfl
          obtain ⟨_, h145, _, ⟨ng145, dg145, wf145, mg145, e_ng145, e_dg145, e_wf145, e_mg145, rfl, K145, X145, F145_quoted, F145_quotedLength, F145_cut, F145_negative, F145_digits, F145_wellFormed, F145_magnitude, V145, rfl⟩, R⟩ := R.callV (pc' := 217) (y := (⟨"com/example/pinsheet/pinsheet/WholeNumbers$Reading", "add", "(C)V"⟩ : MethodName)) (z := (⟨"com/example/pinsheet/pinsheet/WholeNumbers$Reading", "add", "(C)V"⟩ : MethodName)) (argsL := [(.int c2)]) (rest := []) (W := 0) (own_w30 hw) (own_w31 hw) (fun s' hZ' => notFace_of_selects (args := #[]) (mvT hZ' (own_w33 hw))) (own_w33 hw) (own_w32 hw) (own_w4 hw) (own_w34 hw) (by decide) X140 (rm_add C.l Z a0 hw b134 c2 h140 n0 (q :: b134 :: b85 :: Ds) (k := k140) (vs := vs140) (List.mem_of_getElem? (i := 1) rfl) (List.mem_of_getElem? (i := 0) rfl) naq rfl (by omega) hvs140 (nar_of hbc2) X140 F140_quoted F140_quotedLength F140_cut F140_negative F140_digits F140_wellFormed F140_magnitude V140) rfl (lenOf own_pd14 rfl) rfl rfl at_214 (by decide) (by decide) (by decide) (by decide) rfl
          replace R := R.mono (ce' := 3) (sl' := 42) (by decide) (by decide)
          replace R := R.stk (S' := []) rfl
          have hK : Keep h140 h145 [b134, q] := ((Keep.refl h140 [b134, q]).trans K145 (allS (Or.inl (List.mem_of_getElem? (i := 0) rfl)) (allS (Or.inl (List.mem_of_getElem? (i := 1) rfl)) all0)))
          have Fn := F145_quotedLength
          rw [i32_succ] at Fn
          exact ⟨h145, (k140 + 1), _, _, _, _, _, (by have q := hk140; omega), (by rw [List.length_set]; exact hvs140), hK, X145, F145_quoted, Fn, F145_cut, F145_negative, F145_digits, F145_wellFormed, F145_magnitude, V145, R.mono (ce' := 3) (sl' := 42) (by decide) (by decide)⟩
      replace R := R.aload (pc' := 219) (v := (.ref b134)) at_217 rfl rfl rfl
      obtain ⟨_, h146, _, ⟨rfl, K146, X146, F146_quoted, F146_quotedLength, F146_cut, F146_negative, F146_digits, F146_wellFormed, F146_magnitude, rfl⟩, R⟩ := R.callV (pc' := 222) (y := (⟨"com/example/pinsheet/pinsheet/WholeNumbers$Reading", "clear", "()V"⟩ : MethodName)) (z := (⟨"com/example/pinsheet/pinsheet/WholeNumbers$Reading", "clear", "()V"⟩ : MethodName)) (argsL := []) (rest := []) (W := 0) (own_w15 hw) (own_w16 hw) (fun s' hZ' => notFace_of_selects (args := #[]) (mvT hZ' (own_w18 hw))) (own_w18 hw) (own_w17 hw) (own_w4 hw) (own_w19 hw) (by decide) X143 (rm_clear C.l Z a0 hw b134 h143 n0 (q :: b134 :: b85 :: Ds) (List.mem_of_getElem? (i := 1) rfl) X143 F143_quoted F143_quotedLength F143_cut F143_negative F143_digits F143_wellFormed F143_magnitude) rfl (lenOf own_pd13 rfl) rfl rfl at_219 (by decide) (by decide) (by decide) (by decide) rfl
      replace R := R.mono (ce' := 3) (sl' := 42) (by decide) (by decide)
      replace R := R.stk (S' := []) rfl
      obtain ⟨v0, v1, v2, tl, rfl⟩ : ∃ v0 v1 v2 tl, vs143 = v0 :: v1 :: v2 :: tl := by
        match vs143, hvs143 with
        | v0 :: v1 :: v2 :: tl, _ => exact ⟨v0, v1, v2, tl, rfl⟩
      have hvt := hvs143
      replace R := R.iload (pc' := 224) (v := (2 : Int32)) at_222 rfl rfl
      replace R := R.iconst (pc' := 225) (z := (1 : Int32)) at_224 rfl rfl
      replace R := R.icmpN (pc' := 228) at_225 (flt (by decide : ¬ ((2 : Int32) < (1 : Int32)))).1 rfl
      replace R := R.aload (pc' := 230) (v := (.ref b134)) at_228 rfl rfl rfl
      replace R := R.aload (pc' := 232) (v := (.ref b85)) at_230 rfl rfl rfl
      replace R := R.iconst (pc' := 233) (z := (0 : Int32)) at_232 rfl rfl
      have K147 := ((((((Keep.refl h134 [b134, q]).trans KR (allS (Or.inl (List.mem_of_getElem? (i := 0) rfl)) all0)).trans K137 (allS (Or.inl (List.mem_of_getElem? (i := 0) rfl)) (allS (Or.inl (List.mem_of_getElem? (i := 1) rfl)) all0))).trans K140 (allS (Or.inl (List.mem_of_getElem? (i := 0) rfl)) (allS (Or.inl (List.mem_of_getElem? (i := 1) rfl)) all0))).trans K143 (allS (Or.inl (List.mem_of_getElem? (i := 0) rfl)) (allS (Or.inl (List.mem_of_getElem? (i := 1) rfl)) all0))).trans K146 (allS (Or.inl (List.mem_of_getElem? (i := 0) rfl)) all0))
      have F148 := F136.keep K147 (ninS (Ne.symm nta) (ninS nbq nin0))
      replace R := R.caload (pc' := 234) (v := (.int (45 : Int32))) F148 ⟨by decide, by decide⟩ rfl at_233 rfl
      have K150 := ((Keep.refl h143 [b134]).trans K146 (allS (Or.inl (List.mem_of_getElem? (i := 0) rfl)) all0))
      have F151 := V143.keep K150 (ninS (Ne.symm naq) nin0)
      obtain ⟨_, h149, _, ⟨ng149, dg149, wf149, mg149, e_ng149, e_dg149, e_wf149, e_mg149, rfl, K149, X149, F149_quoted, F149_quotedLength, F149_cut, F149_negative, F149_digits, F149_wellFormed, F149_magnitude, V149, rfl⟩, R⟩ := R.callV (pc' := 237) (y := (⟨"com/example/pinsheet/pinsheet/WholeNumbers$Reading", "add", "(C)V"⟩ : MethodName)) (z := (⟨"com/example/pinsheet/pinsheet/WholeNumbers$Reading", "add", "(C)V"⟩ : MethodName)) (argsL := [(.int (45 : Int32))]) (rest := []) (W := 0) (own_w30 hw) (own_w31 hw) (fun s' hZ' => notFace_of_selects (args := #[]) (mvT hZ' (own_w33 hw))) (own_w33 hw) (own_w32 hw) (own_w4 hw) (own_w34 hw) (by decide) X146 (rm_add C.l Z a0 hw b134 (45 : Int32) h146 n0 (q :: b134 :: b85 :: Ds) (k := 0) (vs := (v0 :: v1 :: v2 :: tl)) (List.mem_of_getElem? (i := 1) rfl) (List.mem_of_getElem? (i := 0) rfl) naq rfl (by decide) hvt (rfl) X146 F146_quoted F146_quotedLength F146_cut F146_negative F146_digits F146_wellFormed F146_magnitude F151) rfl (lenOf own_pd14 rfl) rfl rfl at_234 (by decide) (by decide) (by decide) (by decide) rfl
      have G149_n : Fld Z h149 b134 "com/example/pinsheet/pinsheet/WholeNumbers$Reading" "quotedLength" "I" (.int (1 : Int32)) := F149_quotedLength
      have W149 : Arv Z h149 q kq .char (32 : Int32) ((.int (45 : Int32)) :: v1 :: v2 :: tl) (.int 0) := V149
      replace R := R.mono (ce' := 3) (sl' := 42) (by decide) (by decide)
      replace R := R.stk (S' := []) rfl
      replace R := R.iload (pc' := 239) (v := (2 : Int32)) at_237 rfl rfl
      replace R := R.iconst (pc' := 240) (z := (2 : Int32)) at_239 rfl rfl
      replace R := R.icmpN (pc' := 243) at_240 (flt (by decide : ¬ ((2 : Int32) < (2 : Int32)))).1 rfl
      replace R := R.aload (pc' := 245) (v := (.ref b134)) at_243 rfl rfl rfl
      replace R := R.aload (pc' := 247) (v := (.ref b85)) at_245 rfl rfl rfl
      replace R := R.iconst (pc' := 248) (z := (1 : Int32)) at_247 rfl rfl
      have K152 := ((Keep.refl h146 [b134, q]).trans K149 (allS (Or.inl (List.mem_of_getElem? (i := 0) rfl)) (allS (Or.inl (List.mem_of_getElem? (i := 1) rfl)) all0)))
      have F153 := F148.keep K152 (ninS (Ne.symm nta) (ninS nbq nin0))
      replace R := R.caload (pc' := 249) (v := (.int x1)) F153 ⟨by decide, by decide⟩ rfl at_248 rfl
      obtain ⟨_, h154, _, ⟨ng154, dg154, wf154, mg154, e_ng154, e_dg154, e_wf154, e_mg154, rfl, K154, X154, F154_quoted, F154_quotedLength, F154_cut, F154_negative, F154_digits, F154_wellFormed, F154_magnitude, V154, rfl⟩, R⟩ := R.callV (pc' := 252) (y := (⟨"com/example/pinsheet/pinsheet/WholeNumbers$Reading", "add", "(C)V"⟩ : MethodName)) (z := (⟨"com/example/pinsheet/pinsheet/WholeNumbers$Reading", "add", "(C)V"⟩ : MethodName)) (argsL := [(.int x1)]) (rest := []) (W := 0) (own_w30 hw) (own_w31 hw) (fun s' hZ' => notFace_of_selects (args := #[]) (mvT hZ' (own_w33 hw))) (own_w33 hw) (own_w32 hw) (own_w4 hw) (own_w34 hw) (by decide) X149 (rm_add C.l Z a0 hw b134 x1 h149 n0 (q :: b134 :: b85 :: Ds) (k := 1) (vs := ((.int (45 : Int32)) :: v1 :: v2 :: tl)) (List.mem_of_getElem? (i := 1) rfl) (List.mem_of_getElem? (i := 0) rfl) naq rfl (by decide) hvt (nar_of hbx1) X149 F149_quoted G149_n F149_cut F149_negative F149_digits F149_wellFormed F149_magnitude W149) rfl (lenOf own_pd14 rfl) rfl rfl at_249 (by decide) (by decide) (by decide) (by decide) rfl
      have G154_n : Fld Z h154 b134 "com/example/pinsheet/pinsheet/WholeNumbers$Reading" "quotedLength" "I" (.int (2 : Int32)) := F154_quotedLength
      have W154 : Arv Z h154 q kq .char (32 : Int32) ((.int (45 : Int32)) :: (.int x1) :: v2 :: tl) (.int 0) := V154
      replace R := R.mono (ce' := 3) (sl' := 42) (by decide) (by decide)
      replace R := R.stk (S' := []) rfl
      replace R := R.iload (pc' := 254) (v := (2 : Int32)) at_252 rfl rfl
      replace R := R.iconst (pc' := 255) (z := (3 : Int32)) at_254 rfl rfl
      replace R := R.icmpY (pc' := 267) at_255 (tlt (by decide : (2 : Int32) < (3 : Int32))).1 (by decide) rfl
      replace R := R.aload (pc' := 269) (v := (.ref b134)) at_267 rfl rfl rfl
      obtain ⟨_, h155, _, ⟨r155, rfl, S155, K155, rfl⟩, R⟩ := R.callV (pc' := 272) (y := (⟨"com/example/pinsheet/pinsheet/WholeNumbers$Reading", "text", "()Ljava/lang/String;"⟩ : MethodName)) (z := (⟨"com/example/pinsheet/pinsheet/WholeNumbers$Reading", "text", "()Ljava/lang/String;"⟩ : MethodName)) (argsL := []) (rest := []) (W := 0) (own_w37 hw) (own_w38 hw) (fun s' hZ' => notFace_of_selects (args := #[]) (mvT hZ' (own_w40 hw))) (own_w40 hw) (own_w39 hw) (own_w4 hw) (own_w41 hw) (by decide) X154 (rm_text2 C.l Z a0 hw b134 h154 n0 (q :: b134 :: b85 :: Ds) own_cs own_si (chS ⟨by decide, by decide⟩ (chS hbx1 ch0)) W154 F154_quoted G154_n) rfl (lenOf own_pd15 rfl) rfl rfl at_269 (by decide) (by decide) (by decide) (by decide) rfl
      replace R := R.mono (ce' := 5) (sl' := 48) (by decide) (by decide)
      replace R := R.stk (S' := [(.ref r155)]) rfl
      replace R := R.astore (pc' := 274) (l' := #[.val (.int i0), .val (.int i1), .val (.int i2), .val (.int i3), .val (.int i4), .val (.int (i0 &&& (3 : Int32))), .val (.int c0), .val (.int c1), .val (.int c2), .val (.int (1 : Int32)), .val (.int ((1 : Int32) + (((i2.toUInt32 >>> ((1 : Int32) &&& 31).toUInt32).toInt32) &&& (1 : Int32)))), .val (.int d1), .val (.int d2), .val (.ref b85), .val (.int (2 : Int32)), .val (.int d1), .val (.int (-d1)), .val (.ref b134), .val (.ref r155)]) at_272 rfl rfl rfl
      replace R := R.aload (pc' := 276) (v := (.ref r155)) at_274 rfl rfl rfl
      obtain ⟨_, _, _, ⟨rfl, rfl, rfl⟩, R⟩ := R.callV (pc' := 279) (y := (⟨"java/lang/String", "length", "()I"⟩ : MethodName)) (z := (⟨"java/lang/String", "length", "()I"⟩ : MethodName)) (argsL := []) (rest := []) (W := 0) (own_w80 hw) (own_w81 hw) (fun s' hZ' => notFace_of_selects (args := #[]) (mvT hZ' (own_w83 hw))) (own_w83 hw) (own_w82 hw) (own_w44 hw) (own_w84 hw) (by decide) S155.1 (rm_length C.l Z a0 hw r155 h155 n0 (q :: b134 :: b85 :: Ds) own_cs S155) rfl (lenOf own_pd16 rfl) rfl rfl at_276 (by decide) (by decide) (by decide) (by decide) rfl
      replace R := R.mono (ce' := 5) (sl' := 48) (by decide) (by decide)
      replace R := R.stk (S' := [(.int (2 : Int32))]) rfl
      replace R := R.iload (pc' := 281) (v := (2 : Int32)) at_279 rfl rfl
      replace R := R.icmpY (pc' := 286) at_281 (teq (by decide : (2 : Int32) = (2 : Int32))).1 (by decide) rfl
      replace R := R.aload (pc' := 288) (v := (.ref r155)) at_286 rfl rfl rfl
      replace R := R.iconst (pc' := 289) (z := (0 : Int32)) at_288 rfl rfl
      obtain ⟨_, _, _, ⟨rfl, rfl, rfl⟩, R⟩ := R.callV (pc' := 292) (y := (⟨"java/lang/String", "charAt", "(I)C"⟩ : MethodName)) (z := (⟨"java/lang/String", "charAt", "(I)C"⟩ : MethodName)) (argsL := [(.int (0 : Int32))]) (rest := []) (W := 0) (own_w90 hw) (own_w91 hw) (fun s' hZ' => notFace_of_selects (args := #[]) (mvT hZ' (own_w93 hw))) (own_w93 hw) (own_w92 hw) (own_w44 hw) (own_w94 hw) (by decide) S155.1 (rm_charAt C.l Z a0 hw r155 (0 : Int32) h155 n0 (q :: b134 :: b85 :: Ds) own_cs own_si (k := 0) rfl (Nat.le_of_ble_eq_true rfl) S155) rfl (lenOf own_pd17 rfl) rfl rfl at_289 (by decide) (by decide) (by decide) (by decide) rfl
      replace R := R.mono (ce' := 5) (sl' := 48) (by decide) (by decide)
      replace R := R.stk (S' := [(.int (45 : Int32))]) rfl
      replace R := R.aload (pc' := 294) (v := (.ref b85)) at_292 rfl rfl rfl
      replace R := R.iconst (pc' := 295) (z := (0 : Int32)) at_294 rfl rfl
      have K156 := (((Keep.refl h149 [b134, q]).trans K154 (allS (Or.inl (List.mem_of_getElem? (i := 0) rfl)) (allS (Or.inl (List.mem_of_getElem? (i := 1) rfl)) all0))).trans K155 all0)
      have F157 := F153.keep K156 (ninS (Ne.symm nta) (ninS nbq nin0))
      replace R := R.caload (pc' := 296) (v := (.int (45 : Int32))) F157 ⟨by decide, by decide⟩ rfl at_295 rfl
      replace R := R.icmpY (pc' := 301) at_296 (teq (by decide : (45 : Int32) = (45 : Int32))).1 (by decide) rfl
      replace R := R.iload (pc' := 303) (v := (2 : Int32)) at_301 rfl rfl
      replace R := R.iconst (pc' := 304) (z := (2 : Int32)) at_303 rfl rfl
      replace R := R.icmpN (pc' := 307) at_304 (flt (by decide : ¬ ((2 : Int32) < (2 : Int32)))).1 rfl
      replace R := R.aload (pc' := 309) (v := (.ref r155)) at_307 rfl rfl rfl
      replace R := R.iconst (pc' := 310) (z := (1 : Int32)) at_309 rfl rfl
      obtain ⟨_, _, _, ⟨rfl, rfl, rfl⟩, R⟩ := R.callV (pc' := 313) (y := (⟨"java/lang/String", "charAt", "(I)C"⟩ : MethodName)) (z := (⟨"java/lang/String", "charAt", "(I)C"⟩ : MethodName)) (argsL := [(.int (1 : Int32))]) (rest := []) (W := 0) (own_w90 hw) (own_w91 hw) (fun s' hZ' => notFace_of_selects (args := #[]) (mvT hZ' (own_w93 hw))) (own_w93 hw) (own_w92 hw) (own_w44 hw) (own_w94 hw) (by decide) S155.1 (rm_charAt C.l Z a0 hw r155 (1 : Int32) h155 n0 (q :: b134 :: b85 :: Ds) own_cs own_si (k := 1) rfl (Nat.le_of_ble_eq_true rfl) S155) rfl (lenOf own_pd17 rfl) rfl rfl at_310 (by decide) (by decide) (by decide) (by decide) rfl
      replace R := R.mono (ce' := 5) (sl' := 48) (by decide) (by decide)
      replace R := R.stk (S' := [(.int x1)]) rfl
      replace R := R.aload (pc' := 315) (v := (.ref b85)) at_313 rfl rfl rfl
      replace R := R.iconst (pc' := 316) (z := (1 : Int32)) at_315 rfl rfl
      replace R := R.caload (pc' := 317) (v := (.int x1)) F157 ⟨by decide, by decide⟩ rfl at_316 rfl
      replace R := R.icmpY (pc' := 322) at_317 (teq (rfl : x1 = x1)).1 (by decide) rfl
      replace R := R.iload (pc' := 324) (v := (2 : Int32)) at_322 rfl rfl
      replace R := R.iconst (pc' := 325) (z := (3 : Int32)) at_324 rfl rfl
      replace R := R.icmpY (pc' := 343) at_325 (tlt (by decide : (2 : Int32) < (3 : Int32))).1 (by decide) rfl
      replace R := R.aload (pc' := 345) (v := (.ref b134)) at_343 rfl rfl rfl
      obtain ⟨h158, as, E158, R⟩ := R.ldcAny (pc' := 347) (n := 16) rfl rfl (own_w110 hw) wS at_345 (by decide +kernel) (by decide) (by decide) (by decide) rfl
      have hV : (¬ wf154 = 0) ∧ (¬ dg154 = 0) ∧ (¬ (0 : Int32) < lcmpW mg154 (2147483648 : Int64)) ∧ (¬ (0 : Int32) < lcmpW mg154 (2147483647 : Int64)) ∧ (s_val ng154 mg154) = (-d1) := by
        subst e_ng154 e_dg154 e_wf154 e_mg154
        subst e_ng149 e_dg149 e_wf149 e_mg149
        subst e_x1
        rw [hd1]
        clear hd1
        revert jd1
        decide +kernel
      have K159 := (((Keep.refl h154 []).trans K155 all0).trans ((Keep.refl h155 []).ext E158) all0)
      have F160 := F154_quoted.keep K159 nin0
      have K161 := (((Keep.refl h154 []).trans K155 all0).trans ((Keep.refl h155 []).ext E158) all0)
      have F162 := G154_n.keep K161 nin0
      have K163 := (((Keep.refl h154 []).trans K155 all0).trans ((Keep.refl h155 []).ext E158) all0)
      have F164 := F154_cut.keep K163 nin0
      have K165 := (((Keep.refl h154 []).trans K155 all0).trans ((Keep.refl h155 []).ext E158) all0)
      have F166 := F154_negative.keep K165 nin0
      have K167 := (((Keep.refl h154 []).trans K155 all0).trans ((Keep.refl h155 []).ext E158) all0)
      have F168 := F154_digits.keep K167 nin0
      have K169 := (((Keep.refl h154 []).trans K155 all0).trans ((Keep.refl h155 []).ext E158) all0)
      have F170 := F154_wellFormed.keep K169 nin0
      have K171 := (((Keep.refl h154 []).trans K155 all0).trans ((Keep.refl h155 []).ext E158) all0)
      have F172 := F154_magnitude.keep K171 nin0
      have K173 := (((Keep.refl h154 []).trans K155 all0).trans ((Keep.refl h155 []).ext E158) all0)
      have F174 := X154.keep K173
      obtain ⟨_, _, _, ⟨rfl, rfl, rfl⟩, R⟩ := R.callV (pc' := 350) (y := (⟨"com/example/pinsheet/pinsheet/WholeNumbers$Reading", "value", "(Ljava/lang/String;)I"⟩ : MethodName)) (z := (⟨"com/example/pinsheet/pinsheet/WholeNumbers$Reading", "value", "(Ljava/lang/String;)I"⟩ : MethodName)) (argsL := [(.ref as)]) (rest := []) (W := 0) (own_w113 hw) (own_w114 hw) (fun s' hZ' => notFace_of_selects (args := #[]) (mvT hZ' (own_w116 hw))) (own_w116 hw) (own_w115 hw) (own_w4 hw) (own_w117 hw) (by decide) F174 (rm_value C.l Z a0 hw b134 as h158 n0 (q :: b134 :: b85 :: Ds) hV.1 hV.2.1 hV.2.2.1 hV.2.2.2.1 F160 F162 F164 F166 F168 F170 F172) rfl (lenOf own_pd18 rfl) rfl rfl at_347 (by decide) (by decide) (by decide) (by decide) rfl
      replace R := R.mono (ce' := 7) (sl' := 68) (by decide) (by decide)
      replace R := R.stk (S' := [(.int (s_val ng154 mg154))]) rfl
      replace R := R.iload (pc' := 352) (v := (-d1)) at_350 rfl rfl
      replace R := R.icmpN (pc' := 355) at_352 (teq hV.2.2.2.2).2 rfl
      replace R := R.iconst (pc' := 356) (z := (1 : Int32)) at_355 rfl rfl
      replace R := R.goto (pc' := 360) at_356 (by decide) rfl
      exact R.retN (Ds' := []) hret (by simp) (show nar .boolean 1 = 1 from rfl) at_360 (by decide) (by decide) (fun _ q => nomatch q) rfl
set_option maxRecDepth 65536 in
set_option maxHeartbeats 40000000 in
theorem comes_1 {Post : Tables → Env → Array Value → State → Outcome → State → Prop} (hpost : ∀ tb e args s v u, (limb_1_1.after args s (.returned v) u = true ∧ limb_1_2.after args s (.returned v) u = true ∧ True) → ReturnedEndW s (.returned v) u (Jvm.fieldLocs frame_1_writes args s ++ Jvm.arrayLocs frame_1_arrays args s ++ Jvm.staticLocs frame_1_statics s) 24 1216 → Post tb e args s (.returned v) u) :
    ArmFor flags0 classFile x code maxLocals ret World_1 tables_1 room_1 Calls_1 rest_1 Pre_1 Post := by
  intro l hfl _ _ p e ha hc hk s m args below hf hA hF happ hP
  obtain ⟨hcalls, hrest, hpre⟩ := hP
  obtain ⟨-, -, -, hnamed, -, -, -, hat⟩ := (Spec.applies_iff hf).mp happ
  obtain ⟨hg, hn⟩ := and_e (Cond.before_iff.mp (show (Jvm.Cond.and given_1 narrow_1).before args s = true from hpre))
  obtain ⟨g1, g2⟩ := and_e hg
  obtain ⟨g3, g4⟩ := and_e g2
  obtain ⟨g5, g6⟩ := and_e g4
  obtain ⟨g7, g8⟩ := and_e g6
  obtain ⟨g9, g10⟩ := and_e g8
  obtain ⟨w0, w1, w2, w3, w4, rfl⟩ : ∃ w0 w1 w2 w3 w4 : Value, args = #[w0, w1, w2, w3, w4] := by
    have hs : args.size = 5 := by simpa [Cond.value, given_1] using g1
    obtain ⟨L⟩ := args
    match L, hs with
    | [w0, w1, w2, w3, w4], _ => exact ⟨w0, w1, w2, w3, w4, rfl⟩
  have hw := fun d (hd : d ∈ tables_1) => atoms_spec (ws := Jvm.Cond.code x code maxLocals ret :: tables_1) hat d (List.mem_cons_of_mem _ hd)
  have hfit : Fit s := fun {y c} hc i hi => by
    obtain ⟨ha, rfl⟩ := Array.getElem?_eq_some_iff.mp hc
    have q := List.all_eq_true.mp ((Array.all_eq_true_iff_forall_mem.mp hF) _ (Array.getElem_mem ha)) i (List.mem_range.mpr hi)
    simpa [Array.getElem?_eq_getElem hi] using q
  obtain ⟨hsets, hown0⟩ := atoms_of _ (rest_1_c_eq ▸ (show rest_1_c.before _ s = true from hrest))
  have hr0 := Cond.before_iff.mp hown0
  have own_cs : CompactOn s := by
    have n3 := not_v (Cond.before_iff.mp (hsets _ (List.mem_of_getElem? (i := 2) rfl)))
    obtain ⟨i7, e6⟩ := is_v (Cond.before_iff.mp (hsets _ (List.mem_of_getElem? (i := 1) rfl)))
    refine ⟨i7, Sta.start e6 (Or.inl (hsets _ (List.mem_of_getElem? (i := 0) rfl))), fun e0 => ?_⟩
    subst e0
    have q := eq_i e6 (Term.int_eval (0 : Int32)) rfl
    rw [q] at n3; cases n3
  have own_si : SiooOk s := by
    obtain ⟨v9, e10, r11⟩ := isR_v (Cond.before_iff.mp (hsets _ (List.mem_of_getElem? (i := 8) rfl)))
    exact ⟨v9, Sta.start e10 (Or.inl (hsets _ (List.mem_of_getElem? (i := 7) rfl))), r11⟩
  obtain ⟨i0, ei0⟩ := is_v g3
  obtain rfl : w0 = (.int i0) := Option.some.inj ei0
  obtain ⟨i1, ei1⟩ := is_v g5
  obtain rfl : w1 = (.int i1) := Option.some.inj ei1
  obtain ⟨i2, ei2⟩ := is_v g7
  obtain rfl : w2 = (.int i2) := Option.some.inj ei2
  obtain ⟨i3, ei3⟩ := is_v g9
  obtain rfl : w3 = (.int i3) := Option.some.inj ei3
  obtain ⟨i4, ei4⟩ := is_v g10
  obtain rfl : w4 = (.int i4) := Option.some.inj ei4
  have J0 : JJ s s.heap.size s.vm s.heap [] := ⟨Old.start s, fun e0 => (nomatch e0), fun x hx => (nomatch hx), fun o i hm => (nomatch hm), fun o i hm => (nomatch hm)⟩
  obtain ⟨n, o, h1, h2, h3, v, L, Ds', rfl, hQ, hJ, hFr, hE⟩ := rm_law l s _ hw i0 i1 i2 i3 i4 s.heap s.heap.size [] own_cs own_si (fun d hd => hw d ((by decide +kernel : ∀ d ∈ Bundle.stringAtoms, d ∈ tables_1) d hd)) p e ha hc hk s m _ below hf ((Spec.applies_iff_loose hf).mp happ).1 ⟨rfl, State.Warmed39.refl s, rfl, J0⟩ trivial
  subst hQ
  refine ⟨n, _, h1, h2, h3, hpost _ _ _ _ _ _ ⟨Cond.after_iff.mpr rfl, Cond.after_iff.mpr (eq_i res_at (Term.int_eval (1)) rfl), trivial⟩ ⟨hE.1, hE.2.1, hE.2.2.1, (hE.2.2.2.sift fun y hy => Or.inr (hFr y hy)).mono (by decide) (by decide)⟩⟩
theorem main_1_1 : Claimed_1_1 := comes_1 fun _ _ _ _ _ _ h hF => ⟨h.1, hF⟩
theorem main_1_2 : Claimed_1_2 := comes_1 fun _ _ _ _ _ _ h hF => ⟨h.2.1, hF⟩
end Jvm.Pilot.@@N@@
namespace Jvm.Pilot.@@N@@
open Jvm Jvm.ClassFile Sem Op Lib Jvm.Free Jvm.Stand Jvm.Pilot.@@N@@.Jvm.D
/-! MADE BY PROGRAM (witnessworld.py) out of the Statement's table words and the real class files: 20 classes; the members and pool entries that the words name. The judged class is class 1, her method 1. -/
namespace start1
open Jvm.ClassFile
def u (s : String) : CpInfo := .utf8 (stringToUtf16 s)
/-- a pool by its gaps: so many unusable entries, then the entry; so many at the end -/
def gap : Nat → List CpInfo → List CpInfo
  | 0, r => r
  | n + 1, r => .unusable :: gap n r
def poolList (es : List (Nat × CpInfo)) (last : Nat) : List CpInfo := es.foldr (fun e r => gap e.1 (e.2 :: r)) (gap last [])
def pool (es : List (Nat × CpInfo)) (last : Nat) : Array CpInfo := ⟨poolList es last⟩
def fileOf (pool : Array CpInfo) (this : Nat) (attrs : Array Attribute := #[]) (ms : Array MethodInfo := #[]) (fl : Nat := 33) (sup : Nat := 0) (ifs : Array Nat := #[]) (fds : Array FieldInfo := #[]) : ClassFile where
  minorVersion := 0
  majorVersion := 65
  constantPool := pool
  accessFlags := fl
  thisClass := this
  superClass := sup
  interfaces := ifs
  fields := fds
  methods := ms
  attributes := attrs
def plain (name : String) (sup : Option ClassId) : Class where
  name := name
  kind := .ordinary
  loader := none
  accessFlags := 33
  super := sup
  interfaces := #[]
  cf := none
  fields := #[]
  methods := #[]
  instanceTypes := #[]
  staticTypes := #[]
  resolved := #[]
  callSites := []
  init := .initialized
  statics := none
  mirror := none

def pool0 : Array CpInfo := pool [(5, u "<init>"), (0, u "()V"), (1, .class_ 10), (1, u "java/lang/Object")] 113

def k0c0 : Code := { maxStack := 0, maxLocals := 1, code := object_method_1_code, exceptionTable := #[], attributes := #[] }
def k0m0 : Method := { name := "<init>", desc := "()V", sig := { parameters := [], returnType := none }, accessFlags := 1, code := some k0c0 }
/-- java/lang/Object -/
def k0 : Class := { plain "java/lang/Object" none with
  accessFlags := 33
  interfaces := #[]
  cf := some (fileOf pool0 8 #[] #[{ accessFlags := 1, nameIndex := 5, descriptorIndex := 6, attributes := #[] }] 33 0 #[] #[])
  fields := #[]
  methods := #[k0m0]
  instanceTypes := #[]
  staticTypes := #[]
  resolved := Array.replicate 124 none
  statics := none }

def pool1 : Array CpInfo := pool [(2, .class_ 4), (0, .nameAndType 5 6), (0, u "java/lang/Object"), (0, u "<init>"), (0, u "()V"), (0, .integer 2147483647), (0, .class_ 9), (0, u "com/example/pinsheet/pinsheet/WholeNumbers$Reading"), (0, .methodref 8 3), (0, .methodref 8 12), (0, .nameAndType 13 14), (0, u "add"), (0, u "(C)V"), (0, .methodref 8 16), (0, .nameAndType 17 6), (0, u "clear"), (0, .methodref 8 19), (0, .nameAndType 20 21), (0, u "text"), (0, u "()Ljava/lang/String;"), (0, .methodref 23 24), (0, .class_ 25), (0, .nameAndType 26 27), (0, u "java/lang/String"), (0, u "length"), (0, u "()I"), (0, .methodref 23 29), (0, .nameAndType 30 31), (0, u "charAt"), (0, u "(I)C"), (0, .string 33), (0, u "pins"), (0, .methodref 8 35), (0, .nameAndType 36 37), (0, u "value"), (0, u "(Ljava/lang/String;)I"), (0, .class_ 39), (0, u "com/example/pinsheet/pinsheet/ReadingClearPinLaw"), (2, u "law"), (0, u "(IIIII)Z")] 9

def k1m0 : Method := { name := "<init>", desc := "()V", sig := { parameters := [], returnType := none }, accessFlags := 1, code := none }
def k1c1 : Code := { maxStack := 4, maxLocals := 19, code := code, exceptionTable := #[], attributes := #[] }
def k1m1 : Method := { name := "law", desc := "(IIIII)Z", sig := { parameters := [.int, .int, .int, .int, .int], returnType := some .boolean }, accessFlags := 9, code := some k1c1 }
/-- com/example/pinsheet/pinsheet/ReadingClearPinLaw -/
def k1 : Class := { plain "com/example/pinsheet/pinsheet/ReadingClearPinLaw" (some 0) with
  accessFlags := 49
  interfaces := #[]
  cf := some (fileOf pool1 38 #[] #[{ accessFlags := 1, nameIndex := 5, descriptorIndex := 6, attributes := #[] }, { accessFlags := 9, nameIndex := 42, descriptorIndex := 43, attributes := #[] }] 49 2 #[] #[])
  fields := #[]
  methods := #[k1m0, k1m1]
  instanceTypes := #[]
  staticTypes := #[]
  resolved := Array.replicate 53 none
  statics := none }

def pool2 : Array CpInfo := pool [(3, .methodref 4 5), (0, .class_ 6), (0, .nameAndType 7 8), (0, u "java/lang/Object"), (0, u "<init>"), (0, u "()V"), (0, .class_ 10), (0, u "com/example/pinsheet/pinsheet/WholeNumbers$Reading"), (0, .fieldref 9 12), (0, .nameAndType 13 14), (0, u "quoted"), (0, u "[C"), (0, .fieldref 9 16), (0, .nameAndType 17 18), (0, u "wellFormed"), (0, u "Z"), (0, .fieldref 9 20), (0, .nameAndType 21 22), (0, u "quotedLength"), (0, u "I"), (0, .fieldref 9 24), (0, .nameAndType 25 18), (0, u "cut"), (0, .fieldref 9 27), (0, .nameAndType 28 18), (0, u "digits"), (0, .fieldref 9 30), (0, .nameAndType 31 32), (0, u "magnitude"), (0, u "J"), (0, .long 2147483648), (1, .long 10), (1, .fieldref 9 38), (0, .nameAndType 39 18), (0, u "negative"), (4, u "()Ljava/lang/String;"), (7, .long 2147483647), (5, .class_ 60), (1, u "com/example/pinsheet/pinsheet/WholeNumbers"), (2, .class_ 64), (0, u "java/lang/String"), (0, .methodref 63 66), (0, .nameAndType 7 67), (0, u "([CII)V"), (10, u "text"), (1, u "QUOTED"), (2, u "MAX_MAGNITUDE"), (2, u "add"), (0, u "(C)V"), (1, u "value"), (0, u "(Ljava/lang/String;)I"), (0, u "clear")] 23

def k2c0 : Code := { maxStack := 2, maxLocals := 1, code := prog_18_method_1_code, exceptionTable := #[], attributes := #[] }
def k2m0 : Method := { name := "<init>", desc := "()V", sig := { parameters := [], returnType := none }, accessFlags := 0, code := some k2c0 }
def k2c1 : Code := { maxStack := 5, maxLocals := 3, code := prog_18_method_2_code, exceptionTable := #[], attributes := #[] }
def k2m1 : Method := { name := "add", desc := "(C)V", sig := { parameters := [.char], returnType := none }, accessFlags := 0, code := some k2c1 }
def k2c2 : Code := { maxStack := 4, maxLocals := 2, code := prog_18_method_3_code, exceptionTable := #[], attributes := #[] }
def k2m2 : Method := { name := "value", desc := "(Ljava/lang/String;)I", sig := { parameters := [(.object "java/lang/String")], returnType := some .int }, accessFlags := 0, code := some k2c2 }
def k2c3 : Code := { maxStack := 3, maxLocals := 1, code := prog_18_method_4_code, exceptionTable := #[], attributes := #[] }
def k2m3 : Method := { name := "clear", desc := "()V", sig := { parameters := [], returnType := none }, accessFlags := 0, code := some k2c3 }
def k2c4 : Code := { maxStack := 5, maxLocals := 1, code := prog_18_method_6_code, exceptionTable := #[], attributes := #[] }
def k2m4 : Method := { name := "text", desc := "()Ljava/lang/String;", sig := { parameters := [], returnType := some (.object "java/lang/String") }, accessFlags := 0, code := some k2c4 }
/-- com/example/pinsheet/pinsheet/WholeNumbers$Reading -/
def k2 : Class := { plain "com/example/pinsheet/pinsheet/WholeNumbers$Reading" (some 0) with
  accessFlags := 48
  interfaces := #[]
  cf := some (fileOf pool2 9 #[.nestHost 58] #[{ accessFlags := 0, nameIndex := 7, descriptorIndex := 8, attributes := #[] }, { accessFlags := 0, nameIndex := 86, descriptorIndex := 87, attributes := #[] }, { accessFlags := 0, nameIndex := 89, descriptorIndex := 90, attributes := #[] }, { accessFlags := 0, nameIndex := 91, descriptorIndex := 8, attributes := #[] }, { accessFlags := 0, nameIndex := 78, descriptorIndex := 44, attributes := #[] }] 48 4 #[] #[{ accessFlags := 24, nameIndex := 80, descriptorIndex := 22, attributes := #[] }, { accessFlags := 26, nameIndex := 83, descriptorIndex := 32, attributes := #[] }, { accessFlags := 18, nameIndex := 13, descriptorIndex := 14, attributes := #[] }, { accessFlags := 2, nameIndex := 21, descriptorIndex := 22, attributes := #[] }, { accessFlags := 2, nameIndex := 25, descriptorIndex := 18, attributes := #[] }, { accessFlags := 2, nameIndex := 39, descriptorIndex := 18, attributes := #[] }, { accessFlags := 2, nameIndex := 28, descriptorIndex := 18, attributes := #[] }, { accessFlags := 2, nameIndex := 17, descriptorIndex := 18, attributes := #[] }, { accessFlags := 2, nameIndex := 31, descriptorIndex := 32, attributes := #[] }])
  fields := #[{ name := "QUOTED", type := .int, accessFlags := 24, slot := 0, constantValue := 0 }, { name := "MAX_MAGNITUDE", type := .long, accessFlags := 26, slot := 1, constantValue := 0 }, { name := "quoted", type := (.array .char), accessFlags := 18, slot := 0, constantValue := 0 }, { name := "quotedLength", type := .int, accessFlags := 2, slot := 1, constantValue := 0 }, { name := "cut", type := .boolean, accessFlags := 2, slot := 2, constantValue := 0 }, { name := "negative", type := .boolean, accessFlags := 2, slot := 3, constantValue := 0 }, { name := "digits", type := .boolean, accessFlags := 2, slot := 4, constantValue := 0 }, { name := "wellFormed", type := .boolean, accessFlags := 2, slot := 5, constantValue := 0 }, { name := "magnitude", type := .long, accessFlags := 2, slot := 6, constantValue := 0 }]
  methods := #[k2m0, k2m1, k2m2, k2m3, k2m4]
  instanceTypes := #[(.array .char), .int, .boolean, .boolean, .boolean, .boolean, .long]
  staticTypes := #[.int, .long]
  resolved := Array.replicate 115 none
  statics := none }

def pool3 : Array CpInfo := pool [(1, .class_ 2), (0, u "java/io/Serializable"), (0, .class_ 4), (0, u "java/lang/Object")] 2

/-- java/io/Serializable -/
def k3 : Class := { plain "java/io/Serializable" (some 0) with
  accessFlags := 1537
  interfaces := #[]
  cf := some (fileOf pool3 1 #[] #[] 1537 3 #[] #[])
  fields := #[]
  methods := #[]
  instanceTypes := #[]
  staticTypes := #[]
  resolved := Array.replicate 7 none
  statics := none }

def pool4 : Array CpInfo := pool [(1, .class_ 2), (0, u "java/lang/Comparable"), (0, .class_ 4), (0, u "java/lang/Object")] 7

/-- java/lang/Comparable -/
def k4 : Class := { plain "java/lang/Comparable" (some 0) with
  accessFlags := 1537
  interfaces := #[]
  cf := some (fileOf pool4 1 #[] #[] 1537 3 #[] #[])
  fields := #[]
  methods := #[]
  instanceTypes := #[]
  staticTypes := #[]
  resolved := Array.replicate 12 none
  statics := none }

def pool5 : Array CpInfo := pool [(2, .class_ 4), (1, u "java/lang/CharSequence"), (42, .class_ 48), (0, u "java/lang/CharSequence$1CodePointIterator"), (10, .class_ 60), (0, u "java/lang/CharSequence$1CharIterator"), (5, .class_ 67), (0, u "java/lang/Object")] 63

/-- java/lang/CharSequence -/
def k5 : Class := { plain "java/lang/CharSequence" (some 0) with
  accessFlags := 1537
  interfaces := #[]
  cf := some (fileOf pool5 2 #[.nestMembers #[47, 59]] #[] 1537 66 #[] #[])
  fields := #[]
  methods := #[]
  instanceTypes := #[]
  staticTypes := #[]
  resolved := Array.replicate 131 none
  statics := none }

def pool6 : Array CpInfo := pool [(1, .class_ 2), (0, u "java/lang/constant/Constable"), (0, .class_ 4), (0, u "java/lang/Object")] 6

/-- java/lang/constant/Constable -/
def k6 : Class := { plain "java/lang/constant/Constable" (some 0) with
  accessFlags := 1537
  interfaces := #[]
  cf := some (fileOf pool6 1 #[] #[] 1537 3 #[] #[])
  fields := #[]
  methods := #[]
  instanceTypes := #[]
  staticTypes := #[]
  resolved := Array.replicate 11 none
  statics := none }

def pool7 : Array CpInfo := pool [(1, .class_ 2), (0, u "java/lang/constant/ConstantDesc"), (0, .class_ 4), (0, u "java/lang/Object")] 32

/-- java/lang/constant/ConstantDesc -/
def k7 : Class := { plain "java/lang/constant/ConstantDesc" (some 0) with
  accessFlags := 1537
  interfaces := #[]
  cf := some (fileOf pool7 1 #[] #[] 1537 3 #[] #[])
  fields := #[]
  methods := #[]
  instanceTypes := #[]
  staticTypes := #[]
  resolved := Array.replicate 37 none
  statics := none }

def pool8 : Array CpInfo := pool [(1, .methodref 2 3), (0, .class_ 4), (0, .nameAndType 5 6), (0, u "java/lang/Object"), (0, u "<init>"), (0, u "()V"), (2, .fieldref 10 11), (0, .class_ 12), (0, .nameAndType 13 14), (0, u "java/lang/String"), (0, u "value"), (0, u "[B"), (0, .fieldref 10 16), (0, .nameAndType 17 18), (0, u "coder"), (0, u "B"), (2, u "hash"), (0, u "I"), (2, u "hashIsZero"), (0, u "Z"), (0, .methodref 10 28), (0, .nameAndType 5 29), (0, u "([CIILjava/lang/Void;)V"), (0, .methodref 10 31), (0, .nameAndType 32 33), (0, u "rangeCheck"), (0, u "([CII)Ljava/lang/Void;"), (0, .methodref 10 35), (0, .nameAndType 36 37), (0, u "checkBoundsOffCount"), (0, u "(III)I"), (0, .fieldref 10 39), (0, .nameAndType 40 26), (0, u "COMPACT_STRINGS"), (1, .class_ 44), (1, u "java/lang/StringUTF16"), (0, u "compress"), (1, .methodref 42 48), (0, .nameAndType 49 50), (0, u "coderFromArrayLen"), (0, u "([BI)B"), (56, .class_ 109), (1, u "java/lang/StringLatin1"), (32, u "()Z"), (34, .methodref 42 178), (0, .nameAndType 45 179), (0, u "([CII)[B"), (154, u "()I"), (0, .methodref 10 336), (0, .nameAndType 17 337), (0, u "()B"), (25, u "([BI)C"), (27, u "(II)V"), (35, u "(I)C"), (64, .methodref 10 493), (0, .nameAndType 494 142), (0, u "isLatin1"), (0, .methodref 107 496), (0, .nameAndType 497 363), (0, u "charAt"), (3, u "checkIndex"), (5, u "length"), (67, .class_ 576), (0, u "java/lang/CharSequence"), (22, u "CASE_INSENSITIVE_ORDER"), (0, u "Ljava/util/Comparator;"), (371, u "([CII)V"), (80, .fieldref 1054 1055), (0, .class_ 1056), (0, .nameAndType 1057 1058), (0, u "jdk/internal/util/Preconditions"), (0, u "SIOOBE_FORMATTER"), (0, u "Ljava/util/function/BiFunction;"), (0, .methodref 1054 1060), (0, .nameAndType 501 1061), (0, u "(IILjava/util/function/BiFunction;)I"), (2, u "(IIILjava/util/function/BiFunction;)I"), (0, .methodref 1054 1066), (0, .nameAndType 1067 1064), (0, u "checkFromIndexSize"), (33, u "serialPersistentFields"), (0, u "[Ljava/io/ObjectStreamField;"), (0, .class_ 1104), (0, u "java/lang/String$CaseInsensitiveComparator"), (1, .class_ 1107), (0, u "java/io/Serializable"), (0, .class_ 1109), (0, u "java/lang/Comparable"), (0, .class_ 1111), (0, u "java/lang/constant/Constable"), (0, .class_ 1113), (0, u "java/lang/constant/ConstantDesc"), (2, u "serialVersionUID"), (0, u "J"), (3, u "REPL"), (0, u "C"), (2, u "LATIN1"), (1, u "UTF16")] 323

def k8m0 : Method := { name := "<init>", desc := "()V", sig := { parameters := [], returnType := none }, accessFlags := 1, code := none }
def k8c1 : Code := { maxStack := 7, maxLocals := 4, code := jdk_42_method_4_code, exceptionTable := #[], attributes := #[] }
def k8m1 : Method := { name := "<init>", desc := "([CII)V", sig := { parameters := [(.array .char), .int, .int], returnType := none }, accessFlags := 1, code := some k8c1 }
def k8c2 : Code := { maxStack := 3, maxLocals := 3, code := jdk_42_method_5_code, exceptionTable := #[], attributes := #[] }
def k8m2 : Method := { name := "rangeCheck", desc := "([CII)Ljava/lang/Void;", sig := { parameters := [(.array .char), .int, .int], returnType := some (.object "java/lang/Void") }, accessFlags := 10, code := some k8c2 }
def k8c3 : Code := { maxStack := 2, maxLocals := 1, code := jdk_42_method_54_code, exceptionTable := #[], attributes := #[] }
def k8m3 : Method := { name := "length", desc := "()I", sig := { parameters := [], returnType := some .int }, accessFlags := 1, code := some k8c3 }
def k8c4 : Code := { maxStack := 2, maxLocals := 2, code := jdk_42_method_56_code, exceptionTable := #[], attributes := #[] }
def k8m4 : Method := { name := "charAt", desc := "(I)C", sig := { parameters := [.int], returnType := some .char }, accessFlags := 1, code := some k8c4 }
def k8c5 : Code := { maxStack := 4, maxLocals := 6, code := jdk_42_method_149_code, exceptionTable := #[], attributes := #[] }
def k8m5 : Method := { name := "<init>", desc := "([CIILjava/lang/Void;)V", sig := { parameters := [(.array .char), .int, .int, (.object "java/lang/Void")], returnType := none }, accessFlags := 2, code := some k8c5 }
def k8c6 : Code := { maxStack := 1, maxLocals := 1, code := jdk_42_method_152_code, exceptionTable := #[], attributes := #[] }
def k8m6 : Method := { name := "coder", desc := "()B", sig := { parameters := [], returnType := some .byte }, accessFlags := 0, code := some k8c6 }
def k8c7 : Code := { maxStack := 1, maxLocals := 1, code := jdk_42_method_154_code, exceptionTable := #[], attributes := #[] }
def k8m7 : Method := { name := "isLatin1", desc := "()Z", sig := { parameters := [], returnType := some .boolean }, accessFlags := 0, code := some k8c7 }
def k8c8 : Code := { maxStack := 3, maxLocals := 2, code := jdk_42_method_155_code, exceptionTable := #[], attributes := #[] }
def k8m8 : Method := { name := "checkIndex", desc := "(II)V", sig := { parameters := [.int, .int], returnType := none }, accessFlags := 8, code := some k8c8 }
def k8c9 : Code := { maxStack := 4, maxLocals := 3, code := jdk_42_method_157_code, exceptionTable := #[], attributes := #[] }
def k8m9 : Method := { name := "checkBoundsOffCount", desc := "(III)I", sig := { parameters := [.int, .int, .int], returnType := some .int }, accessFlags := 8, code := some k8c9 }
/-- java/lang/String -/
def k8 : Class := { plain "java/lang/String" (some 0) with
  accessFlags := 49
  interfaces := #[3, 4, 5, 6, 7]
  cf := some (fileOf pool8 10 #[.nestMembers #[1103]] #[{ accessFlags := 1, nameIndex := 5, descriptorIndex := 6, attributes := #[] }, { accessFlags := 1, nameIndex := 5, descriptorIndex := 972, attributes := #[] }, { accessFlags := 10, nameIndex := 32, descriptorIndex := 33, attributes := #[] }, { accessFlags := 1, nameIndex := 507, descriptorIndex := 334, attributes := #[] }, { accessFlags := 1, nameIndex := 497, descriptorIndex := 427, attributes := #[] }, { accessFlags := 2, nameIndex := 5, descriptorIndex := 29, attributes := #[] }, { accessFlags := 0, nameIndex := 17, descriptorIndex := 337, attributes := #[] }, { accessFlags := 0, nameIndex := 494, descriptorIndex := 142, attributes := #[] }, { accessFlags := 8, nameIndex := 501, descriptorIndex := 391, attributes := #[] }, { accessFlags := 8, nameIndex := 36, descriptorIndex := 37, attributes := #[] }] 49 2 #[1106, 1108, 575, 1110, 1112] #[{ accessFlags := 18, nameIndex := 13, descriptorIndex := 14, attributes := #[] }, { accessFlags := 18, nameIndex := 17, descriptorIndex := 18, attributes := #[] }, { accessFlags := 2, nameIndex := 21, descriptorIndex := 22, attributes := #[] }, { accessFlags := 2, nameIndex := 25, descriptorIndex := 26, attributes := #[] }, { accessFlags := 26, nameIndex := 1116, descriptorIndex := 1117, attributes := #[] }, { accessFlags := 24, nameIndex := 40, descriptorIndex := 26, attributes := #[] }, { accessFlags := 26, nameIndex := 1101, descriptorIndex := 1102, attributes := #[] }, { accessFlags := 26, nameIndex := 1121, descriptorIndex := 1122, attributes := #[] }, { accessFlags := 25, nameIndex := 599, descriptorIndex := 600, attributes := #[] }, { accessFlags := 24, nameIndex := 1125, descriptorIndex := 18, attributes := #[] }, { accessFlags := 24, nameIndex := 1127, descriptorIndex := 18, attributes := #[] }])
  fields := #[{ name := "value", type := (.array .byte), accessFlags := 18, slot := 0, constantValue := 0 }, { name := "coder", type := .byte, accessFlags := 18, slot := 1, constantValue := 0 }, { name := "hash", type := .int, accessFlags := 2, slot := 2, constantValue := 0 }, { name := "hashIsZero", type := .boolean, accessFlags := 2, slot := 3, constantValue := 0 }, { name := "serialVersionUID", type := .long, accessFlags := 26, slot := 0, constantValue := 0 }, { name := "COMPACT_STRINGS", type := .boolean, accessFlags := 24, slot := 1, constantValue := 0 }, { name := "serialPersistentFields", type := (.array (.object "java/io/ObjectStreamField")), accessFlags := 26, slot := 2, constantValue := 0 }, { name := "REPL", type := .char, accessFlags := 26, slot := 3, constantValue := 0 }, { name := "CASE_INSENSITIVE_ORDER", type := (.object "java/util/Comparator"), accessFlags := 25, slot := 4, constantValue := 0 }, { name := "LATIN1", type := .byte, accessFlags := 24, slot := 5, constantValue := 0 }, { name := "UTF16", type := .byte, accessFlags := 24, slot := 6, constantValue := 0 }]
  methods := #[k8m0, k8m1, k8m2, k8m3, k8m4, k8m5, k8m6, k8m7, k8m8, k8m9]
  instanceTypes := #[(.array .byte), .byte, .int, .boolean]
  staticTypes := #[.long, .boolean, (.array (.object "java/io/ObjectStreamField")), .char, (.object "java/util/Comparator"), .byte, .byte]
  resolved := Array.replicate 1451 none
  statics := some 0 }

def pool9 : Array CpInfo := pool [(2, .class_ 4), (1, u "java/lang/Object"), (0, u "<init>"), (0, u "()V"), (17, .class_ 26), (1, u "jdk/internal/util/Preconditions"), (6, u "checkIndex"), (15, u "checkFromIndexSize"), (5, .class_ 56), (0, u "jdk/internal/util/Preconditions$4"), (57, .class_ 115), (0, u "jdk/internal/util/Preconditions$1"), (7, u "SIOOBE_FORMATTER"), (0, u "Ljava/util/function/BiFunction;"), (0, .class_ 126), (0, u "jdk/internal/util/Preconditions$2"), (3, u "AIOOBE_FORMATTER"), (0, .class_ 132), (0, u "jdk/internal/util/Preconditions$3"), (3, u "IOOBE_FORMATTER"), (41, u "(IILjava/util/function/BiFunction;)I"), (4, u "(IIILjava/util/function/BiFunction;)I")] 10

def k9m0 : Method := { name := "<init>", desc := "()V", sig := { parameters := [], returnType := none }, accessFlags := 1, code := none }
def k9c1 : Code := { maxStack := 3, maxLocals := 3, code := jdk_41_method_11_code, exceptionTable := #[], attributes := #[] }
def k9m1 : Method := { name := "checkIndex", desc := "(IILjava/util/function/BiFunction;)I", sig := { parameters := [.int, .int, (.object "java/util/function/BiFunction")], returnType := some .int }, accessFlags := 9, code := some k9c1 }
def k9c2 : Code := { maxStack := 4, maxLocals := 4, code := jdk_41_method_13_code, exceptionTable := #[], attributes := #[] }
def k9m2 : Method := { name := "checkFromIndexSize", desc := "(IIILjava/util/function/BiFunction;)I", sig := { parameters := [.int, .int, .int, (.object "java/util/function/BiFunction")], returnType := some .int }, accessFlags := 9, code := some k9c2 }
/-- jdk/internal/util/Preconditions -/
def k9 : Class := { plain "jdk/internal/util/Preconditions" (some 0) with
  accessFlags := 33
  interfaces := #[]
  cf := some (fileOf pool9 24 #[.nestMembers #[55, 131, 125, 114]] #[{ accessFlags := 1, nameIndex := 5, descriptorIndex := 6, attributes := #[] }, { accessFlags := 9, nameIndex := 33, descriptorIndex := 178, attributes := #[] }, { accessFlags := 9, nameIndex := 49, descriptorIndex := 183, attributes := #[] }] 33 2 #[] #[{ accessFlags := 25, nameIndex := 123, descriptorIndex := 124, attributes := #[] }, { accessFlags := 25, nameIndex := 130, descriptorIndex := 124, attributes := #[] }, { accessFlags := 25, nameIndex := 136, descriptorIndex := 124, attributes := #[] }])
  fields := #[{ name := "SIOOBE_FORMATTER", type := (.object "java/util/function/BiFunction"), accessFlags := 25, slot := 0, constantValue := 0 }, { name := "AIOOBE_FORMATTER", type := (.object "java/util/function/BiFunction"), accessFlags := 25, slot := 1, constantValue := 0 }, { name := "IOOBE_FORMATTER", type := (.object "java/util/function/BiFunction"), accessFlags := 25, slot := 2, constantValue := 0 }]
  methods := #[k9m0, k9m1, k9m2]
  instanceTypes := #[]
  staticTypes := #[(.object "java/util/function/BiFunction"), (.object "java/util/function/BiFunction"), (.object "java/util/function/BiFunction")]
  resolved := Array.replicate 194 none
  statics := some 1 }

def pool10 : Array CpInfo := pool [(6, .class_ 8), (1, u "java/lang/Object"), (0, u "<init>"), (0, u "()V"), (1, .class_ 14), (1, u "java/lang/StringUTF16"), (31, u "$assertionsDisabled"), (0, u "Z"), (13, u "HI_BYTE_SHIFT"), (0, u "I"), (2, u "LO_BYTE_SHIFT"), (49, .methodref 12 116), (0, .nameAndType 117 118), (0, u "compress"), (0, u "([CI[BII)I"), (3, u "([CII)[B"), (138, u "coderFromArrayLen"), (0, u "([BI)B"), (106, .class_ 371), (1, u "java/lang/StringUTF16$LinesSpliterator"), (58, u "MAX_LENGTH"), (196, .class_ 628), (0, u "java/lang/StringUTF16$CodePointsSpliterator"), (0, .class_ 630), (0, u "java/lang/StringUTF16$CharsSpliterator")] 4

def k10m0 : Method := { name := "<init>", desc := "()V", sig := { parameters := [], returnType := none }, accessFlags := 0, code := none }
def k10c1 : Code := { maxStack := 2, maxLocals := 2, code := jdk_52_method_15_code, exceptionTable := #[], attributes := #[] }
def k10m1 : Method := { name := "coderFromArrayLen", desc := "([BI)B", sig := { parameters := [(.array .byte), .int], returnType := some .byte }, accessFlags := 8, code := some k10c1 }
def k10c2 : Code := { maxStack := 5, maxLocals := 6, code := jdk_52_method_16_code, exceptionTable := #[], attributes := #[] }
def k10m2 : Method := { name := "compress", desc := "([CII)[B", sig := { parameters := [(.array .char), .int, .int], returnType := some (.array .byte) }, accessFlags := 9, code := some k10c2 }
def k10c3 : Code := { maxStack := 3, maxLocals := 7, code := jdk_52_method_21_code, exceptionTable := #[], attributes := #[] }
def k10m3 : Method := { name := "compress", desc := "([CI[BII)I", sig := { parameters := [(.array .char), .int, (.array .byte), .int, .int], returnType := some .int }, accessFlags := 9, code := some k10c3 }
/-- java/lang/StringUTF16 -/
def k10 : Class := { plain "java/lang/StringUTF16" (some 0) with
  accessFlags := 48
  interfaces := #[]
  cf := some (fileOf pool10 12 #[.nestMembers #[627, 629, 369]] #[{ accessFlags := 0, nameIndex := 9, descriptorIndex := 10, attributes := #[] }, { accessFlags := 8, nameIndex := 261, descriptorIndex := 262, attributes := #[] }, { accessFlags := 9, nameIndex := 117, descriptorIndex := 122, attributes := #[] }, { accessFlags := 9, nameIndex := 117, descriptorIndex := 118, attributes := #[] }] 48 6 #[] #[{ accessFlags := 26, nameIndex := 61, descriptorIndex := 62, attributes := #[] }, { accessFlags := 26, nameIndex := 65, descriptorIndex := 62, attributes := #[] }, { accessFlags := 24, nameIndex := 430, descriptorIndex := 62, attributes := #[] }, { accessFlags := 4120, nameIndex := 46, descriptorIndex := 47, attributes := #[] }])
  fields := #[{ name := "HI_BYTE_SHIFT", type := .int, accessFlags := 26, slot := 0, constantValue := 0 }, { name := "LO_BYTE_SHIFT", type := .int, accessFlags := 26, slot := 1, constantValue := 0 }, { name := "MAX_LENGTH", type := .int, accessFlags := 24, slot := 2, constantValue := 0 }, { name := "$assertionsDisabled", type := .boolean, accessFlags := 4120, slot := 3, constantValue := 0 }]
  methods := #[k10m0, k10m1, k10m2, k10m3]
  instanceTypes := #[]
  staticTypes := #[.int, .int, .int, .boolean]
  resolved := Array.replicate 635 none
  statics := none }

def pool11 : Array CpInfo := pool [(1, .class_ 2), (0, u "java/lang/String"), (1, .class_ 6), (1, u "java/lang/Object"), (0, u "<init>"), (0, u "()V"), (0, .methodref 1 10), (0, .nameAndType 11 12), (0, u "checkIndex"), (0, u "(II)V"), (1, .class_ 16), (1, u "java/lang/StringLatin1"), (36, u "([BI)C"), (67, u "$assertionsDisabled"), (0, u "Z"), (98, .class_ 223), (1, u "java/lang/StringLatin1$LinesSpliterator"), (28, u "charAt"), (137, .class_ 391), (0, u "java/lang/StringLatin1$CharsSpliterator")] 3

def k11m0 : Method := { name := "<init>", desc := "()V", sig := { parameters := [], returnType := none }, accessFlags := 0, code := none }
def k11c1 : Code := { maxStack := 2, maxLocals := 2, code := jdk_43_method_2_code, exceptionTable := #[], attributes := #[] }
def k11m1 : Method := { name := "charAt", desc := "([BI)C", sig := { parameters := [(.array .byte), .int], returnType := some .char }, accessFlags := 9, code := some k11c1 }
/-- java/lang/StringLatin1 -/
def k11 : Class := { plain "java/lang/StringLatin1" (some 0) with
  accessFlags := 48
  interfaces := #[]
  cf := some (fileOf pool11 14 #[.nestMembers #[390, 221]] #[{ accessFlags := 0, nameIndex := 7, descriptorIndex := 8, attributes := #[] }, { accessFlags := 9, nameIndex := 252, descriptorIndex := 53, attributes := #[] }] 48 4 #[] #[{ accessFlags := 4120, nameIndex := 121, descriptorIndex := 122, attributes := #[] }])
  fields := #[{ name := "$assertionsDisabled", type := .boolean, accessFlags := 4120, slot := 0, constantValue := 0 }]
  methods := #[k11m0, k11m1]
  instanceTypes := #[]
  staticTypes := #[.boolean]
  resolved := Array.replicate 395 none
  statics := none }

def pool12 : Array CpInfo := pool [(9, u "<init>"), (6, .class_ 18), (1, u "java/lang/Object"), (0, u "()V"), (1, .class_ 23), (1, u "jdk/internal/util/ArraysSupport"), (0, u "LOG2_ARRAY_LONG_INDEX_SCALE"), (0, u "I"), (2, u "U"), (0, u "Ljdk/internal/misc/Unsafe;"), (8, u "BIG_ENDIAN"), (0, u "Z"), (8, u "LOG2_BYTE_BIT_SIZE"), (4, u "LOG2_ARRAY_INT_INDEX_SCALE"), (54, u "JLA"), (0, u "Ljdk/internal/access/JavaLangAccess;"), (11, u "LOG2_ARRAY_BOOLEAN_INDEX_SCALE"), (9, u "LOG2_ARRAY_BYTE_INDEX_SCALE"), (5, u "LOG2_ARRAY_CHAR_INDEX_SCALE"), (5, u "LOG2_ARRAY_SHORT_INDEX_SCALE"), (18, u "LOG2_ARRAY_FLOAT_INDEX_SCALE"), (24, u "LOG2_ARRAY_DOUBLE_INDEX_SCALE"), (89, u "T_BOOLEAN"), (2, u "T_CHAR"), (1, u "T_FLOAT"), (1, u "T_DOUBLE"), (1, u "T_BYTE"), (1, u "T_SHORT"), (1, u "T_INT"), (1, u "T_LONG"), (1, u "SOFT_MAX_ARRAY_LENGTH")] 83

def k12m0 : Method := { name := "<init>", desc := "()V", sig := { parameters := [], returnType := none }, accessFlags := 2, code := none }
/-- jdk/internal/util/ArraysSupport -/
def k12 : Class := { plain "jdk/internal/util/ArraysSupport" (some 0) with
  accessFlags := 33
  interfaces := #[]
  cf := some (fileOf pool12 21 #[] #[{ accessFlags := 2, nameIndex := 9, descriptorIndex := 19, attributes := #[] }] 33 16 #[] #[{ accessFlags := 24, nameIndex := 28, descriptorIndex := 29, attributes := #[] }, { accessFlags := 26, nameIndex := 38, descriptorIndex := 39, attributes := #[] }, { accessFlags := 25, nameIndex := 121, descriptorIndex := 25, attributes := #[] }, { accessFlags := 25, nameIndex := 131, descriptorIndex := 25, attributes := #[] }, { accessFlags := 25, nameIndex := 137, descriptorIndex := 25, attributes := #[] }, { accessFlags := 25, nameIndex := 143, descriptorIndex := 25, attributes := #[] }, { accessFlags := 25, nameIndex := 53, descriptorIndex := 25, attributes := #[] }, { accessFlags := 25, nameIndex := 24, descriptorIndex := 25, attributes := #[] }, { accessFlags := 25, nameIndex := 162, descriptorIndex := 25, attributes := #[] }, { accessFlags := 25, nameIndex := 187, descriptorIndex := 25, attributes := #[] }, { accessFlags := 26, nameIndex := 48, descriptorIndex := 25, attributes := #[] }, { accessFlags := 25, nameIndex := 277, descriptorIndex := 25, attributes := #[] }, { accessFlags := 25, nameIndex := 280, descriptorIndex := 25, attributes := #[] }, { accessFlags := 25, nameIndex := 282, descriptorIndex := 25, attributes := #[] }, { accessFlags := 25, nameIndex := 284, descriptorIndex := 25, attributes := #[] }, { accessFlags := 25, nameIndex := 286, descriptorIndex := 25, attributes := #[] }, { accessFlags := 25, nameIndex := 288, descriptorIndex := 25, attributes := #[] }, { accessFlags := 25, nameIndex := 290, descriptorIndex := 25, attributes := #[] }, { accessFlags := 25, nameIndex := 292, descriptorIndex := 25, attributes := #[] }, { accessFlags := 26, nameIndex := 108, descriptorIndex := 109, attributes := #[] }, { accessFlags := 25, nameIndex := 294, descriptorIndex := 25, attributes := #[] }])
  fields := #[{ name := "U", type := (.object "jdk/internal/misc/Unsafe"), accessFlags := 24, slot := 0, constantValue := 0 }, { name := "BIG_ENDIAN", type := .boolean, accessFlags := 26, slot := 1, constantValue := 0 }, { name := "LOG2_ARRAY_BOOLEAN_INDEX_SCALE", type := .int, accessFlags := 25, slot := 2, constantValue := 0 }, { name := "LOG2_ARRAY_BYTE_INDEX_SCALE", type := .int, accessFlags := 25, slot := 3, constantValue := 0 }, { name := "LOG2_ARRAY_CHAR_INDEX_SCALE", type := .int, accessFlags := 25, slot := 4, constantValue := 0 }, { name := "LOG2_ARRAY_SHORT_INDEX_SCALE", type := .int, accessFlags := 25, slot := 5, constantValue := 0 }, { name := "LOG2_ARRAY_INT_INDEX_SCALE", type := .int, accessFlags := 25, slot := 6, constantValue := 0 }, { name := "LOG2_ARRAY_LONG_INDEX_SCALE", type := .int, accessFlags := 25, slot := 7, constantValue := 0 }, { name := "LOG2_ARRAY_FLOAT_INDEX_SCALE", type := .int, accessFlags := 25, slot := 8, constantValue := 0 }, { name := "LOG2_ARRAY_DOUBLE_INDEX_SCALE", type := .int, accessFlags := 25, slot := 9, constantValue := 0 }, { name := "LOG2_BYTE_BIT_SIZE", type := .int, accessFlags := 26, slot := 10, constantValue := 0 }, { name := "T_BOOLEAN", type := .int, accessFlags := 25, slot := 11, constantValue := 0 }, { name := "T_CHAR", type := .int, accessFlags := 25, slot := 12, constantValue := 0 }, { name := "T_FLOAT", type := .int, accessFlags := 25, slot := 13, constantValue := 0 }, { name := "T_DOUBLE", type := .int, accessFlags := 25, slot := 14, constantValue := 0 }, { name := "T_BYTE", type := .int, accessFlags := 25, slot := 15, constantValue := 0 }, { name := "T_SHORT", type := .int, accessFlags := 25, slot := 16, constantValue := 0 }, { name := "T_INT", type := .int, accessFlags := 25, slot := 17, constantValue := 0 }, { name := "T_LONG", type := .int, accessFlags := 25, slot := 18, constantValue := 0 }, { name := "JLA", type := (.object "jdk/internal/access/JavaLangAccess"), accessFlags := 26, slot := 19, constantValue := 0 }, { name := "SOFT_MAX_ARRAY_LENGTH", type := .int, accessFlags := 25, slot := 20, constantValue := 0 }]
  methods := #[k12m0]
  instanceTypes := #[]
  staticTypes := #[(.object "jdk/internal/misc/Unsafe"), .boolean, .int, .int, .int, .int, .int, .int, .int, .int, .int, .int, .int, .int, .int, .int, .int, .int, .int, (.object "jdk/internal/access/JavaLangAccess"), .int]
  resolved := Array.replicate 378 none
  statics := none }

def pool13 : Array CpInfo := pool [(1, u "java/lang/Cloneable"), (0, .class_ 1), (0, u "java/lang/Object"), (0, .class_ 3)] 3

/-- java/lang/Cloneable -/
def k13 : Class := { plain "java/lang/Cloneable" (some 0) with
  accessFlags := 1537
  interfaces := #[]
  cf := some (fileOf pool13 2 #[] #[] 1537 4 #[] #[])
  fields := #[]
  methods := #[]
  instanceTypes := #[]
  staticTypes := #[]
  resolved := Array.replicate 8 none
  statics := none }

/-- the primitive byte -/
def k14 : Class := { plain "byte" none with kind := .primitive 'B', accessFlags := 0x411 }
/-- [B -/
def k15 : Class := { plain "[B" (some 0) with kind := .array 14 .byte, interfaces := #[13, 3], accessFlags := 1041 }

/-- the primitive char -/
def k16 : Class := { plain "char" none with kind := .primitive 'C', accessFlags := 0x411 }
/-- [C -/
def k17 : Class := { plain "[C" (some 0) with kind := .array 16 .char, interfaces := #[13, 3], accessFlags := 1041 }

/-- the primitive int -/
def k18 : Class := { plain "int" none with kind := .primitive 'I', accessFlags := 0x411 }
/-- [I -/
def k19 : Class := { plain "[I" (some 0) with kind := .array 18 .int, interfaces := #[13, 3], accessFlags := 1041 }

def heap : Heap := #[{ cls := 8, slots := #[.long 0, .int 1, .null, .int 0, .null, .int 0, .int 0], vm := .statics 8 },
  { cls := 9, slots := #[.null, .null, .null], vm := .statics 9 }]
def classes : Array Class := #[k0, k1, k2, k3, k4, k5, k6, k7, k8, k9, k10, k11, k12, k13, k14, k15, k16, k17, k18, k19]
def interned : List (Array UInt16 × Addr) := []
def slotsUsed : Nat := 10
def theMethod : MethodId := ⟨1, 1⟩
def args0 : Array Value := #[.int 5, .int 5, .int 5, .int 5, .int 5]
def aboutOver (below : List Frame) : State where
  vm := { classes := classes, interned := interned.toArray }
  heap := heap
  slotsUsed := slotsUsed
  threads := #[{ frames := .invoking theMethod args0 :: below }]
def below0 : List Frame := [.native { method := ⟨0, 0⟩, args := #[] }]
def about1 : State := aboutOver below0
def p0 : Program := .bare "" "" ""
def e0 : Env := launch0.env 0 0 0
theorem w_frames : about1.frames = Frame.invoking theMethod args0 :: below0 := rfl
set_option maxRecDepth 65536 in
theorem w_args : argsFit about1.vm theMethod args0 = true := by decide +kernel
set_option maxRecDepth 65536 in
theorem w_heap : heapFits about1 = true := by decide +kernel
set_option maxRecDepth 65536 in
theorem w_runnable : about1.curStatus? = some .runnable := by decide +kernel
set_option maxRecDepth 65536 in
theorem w_alone : about1.alone = true := by decide +kernel
set_option maxRecDepth 65536 in
theorem w_named : about1.methodNamed? x = some theMethod := by decide +kernel
set_option maxRecDepth 65536 in
theorem w_hears : about1.hears theMethod below0 = true := by decide +kernel
set_option maxRecDepth 65536 in
theorem w_ripe : about1.ripe theMethod args0 below0 = true := by decide +kernel
theorem w_running : about1.status = .running := rfl
set_option maxRecDepth 65536 in
theorem w_room : about1.hasRoom e0.platform room_1 = true :=
  launch0.hasRoom_least _ room_1 (by decide +kernel) (by decide +kernel) (by decide +kernel) (by decide +kernel) (by decide +kernel) (by decide +kernel)
theorem allAtoms_all (ts : List Jvm.Cond) (a : Array Jvm.Value) (st : Jvm.State) : (allAtoms ts).before a st = ts.all (fun c => c.before a st) := by
  induction ts with
  | nil => rfl
  | cons c t ih =>
    show (Jvm.Cond.and c (allAtoms t)).before a st = _
    rw [Jvm.Cond.before_and, ih, List.all_cons]
def words1 : List Jvm.Cond := Jvm.Cond.code x code maxLocals ret :: tables_1
/-- a 'code' word, met by the world's own term for the bytes: nothing is compared byte by byte -/
theorem code_word {y : MethodName} {bytes : ByteArray} {mx : Nat} {rt : Option FieldType} {a : Array Value} {s : State} {m : MethodId} {meth : Method} {c : Code} (h1 : s.methodNamed? y = some m) (h2 : s.vm.method? m = some meth) (h3 : meth.code = some c) (h4 : c.code = bytes)
    (h5 : (c.maxLocals == mx && c.exceptionTable.isEmpty && decide (c.maxStack ≤ mostOperands) && decide (meth.sig.returnType = rt) && !meth.locks && decide (parseMethodDescriptor y.desc = some meth.sig)) = true) : (Jvm.Cond.code y bytes mx rt).before a s = true := by
  simp only [Bool.and_eq_true, beq_iff_eq, Bool.not_eq_true', decide_eq_true_eq] at h5
  obtain ⟨⟨⟨⟨⟨g1, g2⟩, g3⟩, g4⟩, g5⟩, g6⟩ := h5
  simp [Cond.before, Cond.holds, Cond.value, h1, h2, h3, h4, g1, g2, g3, g4, g5, g6]
def isCode : Jvm.Cond → Bool
  | .code _ _ _ _ => true
  | _ => false
theorem all_split {L : List Jvm.Cond} {P : Jvm.Cond → Bool} (h1 : L.all (fun c => isCode c || P c) = true) (h2 : ∀ c ∈ L.filter isCode, P c = true) : L.all P = true := by
  refine List.all_eq_true.mpr fun c hc => ?_
  have h := List.all_eq_true.mp h1 c hc
  rcases Bool.eq_false_or_eq_true (isCode c) with hi | hi
  · exact h2 c (List.mem_filter.mpr ⟨hc, hi⟩)
  · simpa [hi] using h
set_option maxRecDepth 65536 in
theorem w_c0 : (Jvm.Cond.code x code maxLocals ret).before args0 about1 = true := code_word (m := ⟨1, 1⟩) (meth := k1m1) (c := k1c1) (by decide +kernel) rfl rfl rfl (by decide +kernel)
set_option maxRecDepth 65536 in
theorem w_c1 : (Jvm.Cond.code ({ cls := "com/example/pinsheet/pinsheet/WholeNumbers$Reading", name := "<init>", desc := "()V" } : Jvm.MethodName) prog_18_method_1_code (1 : Nat) (Option.none : Option Jvm.ClassFile.FieldType)).before args0 about1 = true := code_word (m := ⟨2, 0⟩) (meth := k2m0) (c := k2c0) (by decide +kernel) rfl rfl rfl (by decide +kernel)
set_option maxRecDepth 65536 in
theorem w_c2 : (Jvm.Cond.code ({ cls := "java/lang/Object", name := "<init>", desc := "()V" } : Jvm.MethodName) object_method_1_code (1 : Nat) (Option.none : Option Jvm.ClassFile.FieldType)).before args0 about1 = true := code_word (m := ⟨0, 0⟩) (meth := k0m0) (c := k0c0) (by decide +kernel) rfl rfl rfl (by decide +kernel)
set_option maxRecDepth 65536 in
theorem w_c3 : (Jvm.Cond.code ({ cls := "com/example/pinsheet/pinsheet/WholeNumbers$Reading", name := "clear", desc := "()V" } : Jvm.MethodName) prog_18_method_4_code (1 : Nat) (Option.none : Option Jvm.ClassFile.FieldType)).before args0 about1 = true := code_word (m := ⟨2, 3⟩) (meth := k2m3) (c := k2c3) (by decide +kernel) rfl rfl rfl (by decide +kernel)
set_option maxRecDepth 65536 in
theorem w_c4 : (Jvm.Cond.code ({ cls := "com/example/pinsheet/pinsheet/WholeNumbers$Reading", name := "add", desc := "(C)V" } : Jvm.MethodName) prog_18_method_2_code (3 : Nat) (Option.none : Option Jvm.ClassFile.FieldType)).before args0 about1 = true := code_word (m := ⟨2, 1⟩) (meth := k2m1) (c := k2c1) (by decide +kernel) rfl rfl rfl (by decide +kernel)
set_option maxRecDepth 65536 in
theorem w_c5 : (Jvm.Cond.code ({ cls := "com/example/pinsheet/pinsheet/WholeNumbers$Reading", name := "text", desc := "()Ljava/lang/String;" } : Jvm.MethodName) prog_18_method_6_code (1 : Nat) (Option.some (Jvm.ClassFile.FieldType.object "java/lang/String"))).before args0 about1 = true := code_word (m := ⟨2, 4⟩) (meth := k2m4) (c := k2c4) (by decide +kernel) rfl rfl rfl (by decide +kernel)
set_option maxRecDepth 65536 in
theorem w_c6 : (Jvm.Cond.code ({ cls := "java/lang/String", name := "<init>", desc := "([CII)V" } : Jvm.MethodName) jdk_42_method_4_code (4 : Nat) (Option.none : Option Jvm.ClassFile.FieldType)).before args0 about1 = true := code_word (m := ⟨8, 1⟩) (meth := k8m1) (c := k8c1) (by decide +kernel) rfl rfl rfl (by decide +kernel)
set_option maxRecDepth 65536 in
theorem w_c7 : (Jvm.Cond.code ({ cls := "java/lang/String", name := "rangeCheck", desc := "([CII)Ljava/lang/Void;" } : Jvm.MethodName) jdk_42_method_5_code (3 : Nat) (Option.some (Jvm.ClassFile.FieldType.object "java/lang/Void"))).before args0 about1 = true := code_word (m := ⟨8, 2⟩) (meth := k8m2) (c := k8c2) (by decide +kernel) rfl rfl rfl (by decide +kernel)
set_option maxRecDepth 65536 in
theorem w_c8 : (Jvm.Cond.code ({ cls := "java/lang/String", name := "checkBoundsOffCount", desc := "(III)I" } : Jvm.MethodName) jdk_42_method_157_code (3 : Nat) (Option.some Jvm.ClassFile.FieldType.int)).before args0 about1 = true := code_word (m := ⟨8, 9⟩) (meth := k8m9) (c := k8c9) (by decide +kernel) rfl rfl rfl (by decide +kernel)
set_option maxRecDepth 65536 in
theorem w_c9 : (Jvm.Cond.code ({ cls := "jdk/internal/util/Preconditions", name := "checkFromIndexSize", desc := "(IIILjava/util/function/BiFunction;)I" } : Jvm.MethodName) jdk_41_method_13_code (4 : Nat) (Option.some Jvm.ClassFile.FieldType.int)).before args0 about1 = true := code_word (m := ⟨9, 2⟩) (meth := k9m2) (c := k9c2) (by decide +kernel) rfl rfl rfl (by decide +kernel)
set_option maxRecDepth 65536 in
theorem w_c10 : (Jvm.Cond.code ({ cls := "java/lang/String", name := "<init>", desc := "([CIILjava/lang/Void;)V" } : Jvm.MethodName) jdk_42_method_149_code (6 : Nat) (Option.none : Option Jvm.ClassFile.FieldType)).before args0 about1 = true := code_word (m := ⟨8, 5⟩) (meth := k8m5) (c := k8c5) (by decide +kernel) rfl rfl rfl (by decide +kernel)
set_option maxRecDepth 65536 in
theorem w_c11 : (Jvm.Cond.code ({ cls := "java/lang/StringUTF16", name := "compress", desc := "([CII)[B" } : Jvm.MethodName) jdk_52_method_16_code (6 : Nat) (Option.some (Jvm.ClassFile.FieldType.array Jvm.ClassFile.FieldType.byte))).before args0 about1 = true := code_word (m := ⟨10, 2⟩) (meth := k10m2) (c := k10c2) (by decide +kernel) rfl rfl rfl (by decide +kernel)
set_option maxRecDepth 65536 in
theorem w_c12 : (Jvm.Cond.code ({ cls := "java/lang/StringUTF16", name := "compress", desc := "([CI[BII)I" } : Jvm.MethodName) jdk_52_method_21_code (7 : Nat) (Option.some Jvm.ClassFile.FieldType.int)).before args0 about1 = true := code_word (m := ⟨10, 3⟩) (meth := k10m3) (c := k10c3) (by decide +kernel) rfl rfl rfl (by decide +kernel)
set_option maxRecDepth 65536 in
theorem w_c13 : (Jvm.Cond.code ({ cls := "java/lang/StringUTF16", name := "coderFromArrayLen", desc := "([BI)B" } : Jvm.MethodName) jdk_52_method_15_code (2 : Nat) (Option.some Jvm.ClassFile.FieldType.byte)).before args0 about1 = true := code_word (m := ⟨10, 1⟩) (meth := k10m1) (c := k10c1) (by decide +kernel) rfl rfl rfl (by decide +kernel)
set_option maxRecDepth 65536 in
theorem w_c14 : (Jvm.Cond.code ({ cls := "java/lang/String", name := "length", desc := "()I" } : Jvm.MethodName) jdk_42_method_54_code (1 : Nat) (Option.some Jvm.ClassFile.FieldType.int)).before args0 about1 = true := code_word (m := ⟨8, 3⟩) (meth := k8m3) (c := k8c3) (by decide +kernel) rfl rfl rfl (by decide +kernel)
set_option maxRecDepth 65536 in
theorem w_c15 : (Jvm.Cond.code ({ cls := "java/lang/String", name := "coder", desc := "()B" } : Jvm.MethodName) jdk_42_method_152_code (1 : Nat) (Option.some Jvm.ClassFile.FieldType.byte)).before args0 about1 = true := code_word (m := ⟨8, 6⟩) (meth := k8m6) (c := k8c6) (by decide +kernel) rfl rfl rfl (by decide +kernel)
set_option maxRecDepth 65536 in
theorem w_c16 : (Jvm.Cond.code ({ cls := "java/lang/String", name := "charAt", desc := "(I)C" } : Jvm.MethodName) jdk_42_method_56_code (2 : Nat) (Option.some Jvm.ClassFile.FieldType.char)).before args0 about1 = true := code_word (m := ⟨8, 4⟩) (meth := k8m4) (c := k8c4) (by decide +kernel) rfl rfl rfl (by decide +kernel)
set_option maxRecDepth 65536 in
theorem w_c17 : (Jvm.Cond.code ({ cls := "java/lang/String", name := "isLatin1", desc := "()Z" } : Jvm.MethodName) jdk_42_method_154_code (1 : Nat) (Option.some Jvm.ClassFile.FieldType.boolean)).before args0 about1 = true := code_word (m := ⟨8, 7⟩) (meth := k8m7) (c := k8c7) (by decide +kernel) rfl rfl rfl (by decide +kernel)
set_option maxRecDepth 65536 in
theorem w_c18 : (Jvm.Cond.code ({ cls := "java/lang/StringLatin1", name := "charAt", desc := "([BI)C" } : Jvm.MethodName) jdk_43_method_2_code (2 : Nat) (Option.some Jvm.ClassFile.FieldType.char)).before args0 about1 = true := code_word (m := ⟨11, 1⟩) (meth := k11m1) (c := k11c1) (by decide +kernel) rfl rfl rfl (by decide +kernel)
set_option maxRecDepth 65536 in
theorem w_c19 : (Jvm.Cond.code ({ cls := "java/lang/String", name := "checkIndex", desc := "(II)V" } : Jvm.MethodName) jdk_42_method_155_code (2 : Nat) (Option.none : Option Jvm.ClassFile.FieldType)).before args0 about1 = true := code_word (m := ⟨8, 8⟩) (meth := k8m8) (c := k8c8) (by decide +kernel) rfl rfl rfl (by decide +kernel)
set_option maxRecDepth 65536 in
theorem w_c20 : (Jvm.Cond.code ({ cls := "jdk/internal/util/Preconditions", name := "checkIndex", desc := "(IILjava/util/function/BiFunction;)I" } : Jvm.MethodName) jdk_41_method_11_code (3 : Nat) (Option.some Jvm.ClassFile.FieldType.int)).before args0 about1 = true := code_word (m := ⟨9, 1⟩) (meth := k9m1) (c := k9c1) (by decide +kernel) rfl rfl rfl (by decide +kernel)
set_option maxRecDepth 65536 in
theorem w_c21 : (Jvm.Cond.code ({ cls := "com/example/pinsheet/pinsheet/WholeNumbers$Reading", name := "value", desc := "(Ljava/lang/String;)I" } : Jvm.MethodName) prog_18_method_3_code (2 : Nat) (Option.some Jvm.ClassFile.FieldType.int)).before args0 about1 = true := code_word (m := ⟨2, 2⟩) (meth := k2m2) (c := k2c2) (by decide +kernel) rfl rfl rfl (by decide +kernel)
def codes1 : List Jvm.Cond := [Jvm.Cond.code x code maxLocals ret, Jvm.Cond.code ({ cls := "com/example/pinsheet/pinsheet/WholeNumbers$Reading", name := "<init>", desc := "()V" } : Jvm.MethodName) prog_18_method_1_code (1 : Nat) (Option.none : Option Jvm.ClassFile.FieldType), Jvm.Cond.code ({ cls := "java/lang/Object", name := "<init>", desc := "()V" } : Jvm.MethodName) object_method_1_code (1 : Nat) (Option.none : Option Jvm.ClassFile.FieldType), Jvm.Cond.code ({ cls := "com/example/pinsheet/pinsheet/WholeNumbers$Reading", name := "clear", desc := "()V" } : Jvm.MethodName) prog_18_method_4_code (1 : Nat) (Option.none : Option Jvm.ClassFile.FieldType), Jvm.Cond.code ({ cls := "com/example/pinsheet/pinsheet/WholeNumbers$Reading", name := "add", desc := "(C)V" } : Jvm.MethodName) prog_18_method_2_code (3 : Nat) (Option.none : Option Jvm.ClassFile.FieldType), Jvm.Cond.code ({ cls := "com/example/pinsheet/pinsheet/WholeNumbers$Reading", name := "text", desc := "()Ljava/lang/String;" } : Jvm.MethodName) prog_18_method_6_code (1 : Nat) (Option.some (Jvm.ClassFile.FieldType.object "java/lang/String")), Jvm.Cond.code ({ cls := "java/lang/String", name := "<init>", desc := "([CII)V" } : Jvm.MethodName) jdk_42_method_4_code (4 : Nat) (Option.none : Option Jvm.ClassFile.FieldType), Jvm.Cond.code ({ cls := "java/lang/String", name := "rangeCheck", desc := "([CII)Ljava/lang/Void;" } : Jvm.MethodName) jdk_42_method_5_code (3 : Nat) (Option.some (Jvm.ClassFile.FieldType.object "java/lang/Void")), Jvm.Cond.code ({ cls := "java/lang/String", name := "checkBoundsOffCount", desc := "(III)I" } : Jvm.MethodName) jdk_42_method_157_code (3 : Nat) (Option.some Jvm.ClassFile.FieldType.int), Jvm.Cond.code ({ cls := "jdk/internal/util/Preconditions", name := "checkFromIndexSize", desc := "(IIILjava/util/function/BiFunction;)I" } : Jvm.MethodName) jdk_41_method_13_code (4 : Nat) (Option.some Jvm.ClassFile.FieldType.int), Jvm.Cond.code ({ cls := "java/lang/String", name := "<init>", desc := "([CIILjava/lang/Void;)V" } : Jvm.MethodName) jdk_42_method_149_code (6 : Nat) (Option.none : Option Jvm.ClassFile.FieldType), Jvm.Cond.code ({ cls := "java/lang/StringUTF16", name := "compress", desc := "([CII)[B" } : Jvm.MethodName) jdk_52_method_16_code (6 : Nat) (Option.some (Jvm.ClassFile.FieldType.array Jvm.ClassFile.FieldType.byte)), Jvm.Cond.code ({ cls := "java/lang/StringUTF16", name := "compress", desc := "([CI[BII)I" } : Jvm.MethodName) jdk_52_method_21_code (7 : Nat) (Option.some Jvm.ClassFile.FieldType.int), Jvm.Cond.code ({ cls := "java/lang/StringUTF16", name := "coderFromArrayLen", desc := "([BI)B" } : Jvm.MethodName) jdk_52_method_15_code (2 : Nat) (Option.some Jvm.ClassFile.FieldType.byte), Jvm.Cond.code ({ cls := "java/lang/String", name := "length", desc := "()I" } : Jvm.MethodName) jdk_42_method_54_code (1 : Nat) (Option.some Jvm.ClassFile.FieldType.int), Jvm.Cond.code ({ cls := "java/lang/String", name := "coder", desc := "()B" } : Jvm.MethodName) jdk_42_method_152_code (1 : Nat) (Option.some Jvm.ClassFile.FieldType.byte), Jvm.Cond.code ({ cls := "java/lang/String", name := "charAt", desc := "(I)C" } : Jvm.MethodName) jdk_42_method_56_code (2 : Nat) (Option.some Jvm.ClassFile.FieldType.char), Jvm.Cond.code ({ cls := "java/lang/String", name := "isLatin1", desc := "()Z" } : Jvm.MethodName) jdk_42_method_154_code (1 : Nat) (Option.some Jvm.ClassFile.FieldType.boolean), Jvm.Cond.code ({ cls := "java/lang/StringLatin1", name := "charAt", desc := "([BI)C" } : Jvm.MethodName) jdk_43_method_2_code (2 : Nat) (Option.some Jvm.ClassFile.FieldType.char), Jvm.Cond.code ({ cls := "java/lang/String", name := "checkIndex", desc := "(II)V" } : Jvm.MethodName) jdk_42_method_155_code (2 : Nat) (Option.none : Option Jvm.ClassFile.FieldType), Jvm.Cond.code ({ cls := "jdk/internal/util/Preconditions", name := "checkIndex", desc := "(IILjava/util/function/BiFunction;)I" } : Jvm.MethodName) jdk_41_method_11_code (3 : Nat) (Option.some Jvm.ClassFile.FieldType.int), Jvm.Cond.code ({ cls := "com/example/pinsheet/pinsheet/WholeNumbers$Reading", name := "value", desc := "(Ljava/lang/String;)I" } : Jvm.MethodName) prog_18_method_3_code (2 : Nat) (Option.some Jvm.ClassFile.FieldType.int)]
set_option maxRecDepth 65536 in
theorem codes_eq : words1.filter isCode = codes1 := rfl
theorem w_codes : ∀ c ∈ words1.filter isCode, c.before args0 about1 = true := by
  rw [codes_eq]
  intro c hc
  simp only [codes1, List.mem_cons, List.not_mem_nil, or_false] at hc
  rcases hc with rfl | rfl | rfl | rfl | rfl | rfl | rfl | rfl | rfl | rfl | rfl | rfl | rfl | rfl | rfl | rfl | rfl | rfl | rfl | rfl | rfl | rfl
  · exact w_c0
  · exact w_c1
  · exact w_c2
  · exact w_c3
  · exact w_c4
  · exact w_c5
  · exact w_c6
  · exact w_c7
  · exact w_c8
  · exact w_c9
  · exact w_c10
  · exact w_c11
  · exact w_c12
  · exact w_c13
  · exact w_c14
  · exact w_c15
  · exact w_c16
  · exact w_c17
  · exact w_c18
  · exact w_c19
  · exact w_c20
  · exact w_c21
set_option maxRecDepth 65536 in
theorem w_t1 : (words1.take 24).all (fun c => isCode c || c.before args0 about1) = true := by decide +kernel
set_option maxRecDepth 65536 in
theorem w_t2 : ((words1.drop 24).take 24).all (fun c => isCode c || c.before args0 about1) = true := by decide +kernel
set_option maxRecDepth 65536 in
theorem w_t3 : (((words1.drop 24).drop 24).take 24).all (fun c => isCode c || c.before args0 about1) = true := by decide +kernel
set_option maxRecDepth 65536 in
theorem w_t4 : ((((words1.drop 24).drop 24).drop 24).take 24).all (fun c => isCode c || c.before args0 about1) = true := by decide +kernel
set_option maxRecDepth 65536 in
theorem w_t5 : ((((words1.drop 24).drop 24).drop 24).drop 24).all (fun c => isCode c || c.before args0 about1) = true := by decide +kernel
theorem w_tables : (allAtoms (Jvm.Cond.code x code maxLocals ret :: tables_1)).before args0 about1 = true := by
  rw [allAtoms_all]
  show words1.all (fun c => c.before args0 about1) = true
  refine all_split ?_ w_codes
  rw [← List.take_append_drop 24 words1, List.all_append, w_t1, ← List.take_append_drop 24 (words1.drop 24), List.all_append, w_t2, ← List.take_append_drop 24 ((words1.drop 24).drop 24), List.all_append, w_t3, ← List.take_append_drop 24 (((words1.drop 24).drop 24).drop 24), List.all_append, w_t4, w_t5]
  rfl
set_option maxRecDepth 65536 in
theorem w_rest : rest_1_c.before args0 about1 = true := by decide +kernel
set_option maxRecDepth 65536 in
theorem w_case : (Jvm.Cond.and given_1 narrow_1).before args0 about1 = true := by decide +kernel
theorem w_applies : (headSpec (Jvm.Cond.code x code maxLocals ret :: tables_1) room_1).applies x e0.platform about1 = true :=
  (Spec.applies_iff w_frames).mpr ⟨w_running, w_runnable, w_alone, w_named, w_hears, w_ripe, w_room, w_tables⟩
theorem atStart : AtStart classFile x code maxLocals ret World_1 tables_1 room_1 Calls_1 rest_1 Pre_1 launch0 p0 e0 about1 theMethod args0 below0 :=
  ⟨lists_1, trivial, launch0.admits_env _ _ _, launch0.least_env, fairChoices_fair.cas, fairChoices_fair.clock, w_frames, w_args, w_heap, w_applies, trivial, w_rest, w_case⟩
end start1
theorem witness_1 : WitnessClaimed_1 := ⟨start1.p0, start1.e0, start1.about1, start1.theMethod, start1.args0, start1.below0, start1.atStart⟩
end Jvm.Pilot.@@N@@
