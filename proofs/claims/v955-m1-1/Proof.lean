import JvmDerived
import JvmDerived.Pilot.@@N@@Statement
import JvmDerived.Pilot.@@N@@Code
set_option linter.unusedVariables false
set_option linter.unusedSimpArgs false
/- laws to paste: pair_says (cut by pick.py; bodies as the Statement names them) -/
namespace Jvm.Pilot.@@N@@
namespace StrChars
open Jvm Sem ClassFile Op Lib Jvm.Stand Jvm.Free.XT Jvm.Free.ALB Jvm.Free.JM Jvm.Free
open Jvm.Lib.Cold (StaticIs)
/-- the byte that i2b leaves of a char -/
def lo8 (x : Int32) : Int32 := x.toInt8.toInt32
end StrChars
namespace StrChars
open Jvm Sem ClassFile Op Lib Jvm.Stand Jvm.Free.XT Jvm.Free.ALB Jvm.Free.JM Jvm.Free
open Jvm.Lib.Cold (StaticIs)
def hi8 (x : Int32) : Int32 := lo8 (x >>> ((8 : Int32) &&& 31))
/-- what StringUTF16.getChar makes of two bytes -/
def pairCh (u v : Int32) : Int32 := (((u &&& 255) <<< ((0 : Int32) &&& 31)) ||| ((v &&& 255) <<< ((8 : Int32) &&& 31))).toUInt32.toUInt16.toUInt32.toInt32
theorem lo8_and (x : Int32) : (lo8 x &&& 255).toBitVec.toNat = x.toBitVec.toNat % 256 := by
  have h : (lo8 x).toBitVec = (x.toBitVec.signExtend 8).signExtend 32 := by rw [lo8, Int8.toBitVec_toInt32, Int32.toBitVec_toInt8]
  rw [Int32.toBitVec_and, BitVec.toNat_and, h]
  have e : ((x.toBitVec.signExtend 8).signExtend 32).toNat % 256 = x.toBitVec.toNat % 256 := by
    rw [BitVec.toNat_signExtend]
    have hlt := x.toBitVec.isLt
    simp only [BitVec.toNat_setWidth, BitVec.toNat_signExtend]
    split <;> split <;> omega
  rw [← e]
  exact Nat.and_two_pow_sub_one_eq_mod _ 8
theorem pair_says {c : Int32} (h0 : ¬ c < 0) (h1 : ¬ 65535 < c) : pairCh (lo8 c) (hi8 c) = c := by
  rw [Int32.lt_iff_toInt_lt] at h0 h1
  have e0 : (0 : Int32).toInt = 0 := rfl
  have e1 : (65535 : Int32).toInt = 65535 := rfl
  have hc : c.toInt = c.toBitVec.toNat := by
    have := c.toBitVec.isLt
    have e : c.toInt = c.toBitVec.toInt := rfl
    rw [e] at h0 h1
    rw [e]
    rw [BitVec.toInt_eq_toNat_cond] at h0 h1 ⊢
    split at h0 <;> split <;> omega
  have hn : c.toBitVec.toNat < 65536 := by omega
  have a1 := lo8_and c
  have a2 : (hi8 c &&& 255).toBitVec.toNat = c.toBitVec.toNat / 256 := by
    rw [hi8, lo8_and]
    have e : ((8 : Int32) &&& 31) = 8 := by decide
    rw [e, Int32.toBitVec_shiftRight]
    have e2 : ((8 : Int32).toBitVec.smod 32) = 8#32 := by decide
    rw [e2, BitVec.sshiftRight_eq', BitVec.toNat_sshiftRight_of_msb_false (by rw [BitVec.msb_eq_false_iff_two_mul_lt]; omega)]
    show c.toBitVec.toNat >>> 8 % 256 = _
    rw [Nat.shiftRight_eq_div_pow]
    omega
  unfold pairCh
  apply Int32.toBitVec_inj.mp
  apply BitVec.eq_of_toNat_eq
  have f0 : ((0 : Int32) &&& 31) = 0 := by decide
  have f8 : ((8 : Int32) &&& 31) = 8 := by decide
  rw [f0, f8]
  have g : (((lo8 c &&& 255) <<< (0 : Int32)) ||| ((hi8 c &&& 255) <<< (8 : Int32))).toBitVec.toNat = c.toBitVec.toNat := by
    rw [Int32.toBitVec_or, Int32.toBitVec_shiftLeft, Int32.toBitVec_shiftLeft]
    have s0 : ((0 : Int32).toBitVec.smod 32) = 0#32 := by decide
    have s8 : ((8 : Int32).toBitVec.smod 32) = 8#32 := by decide
    rw [s0, s8, BitVec.toNat_or]
    simp only [BitVec.shiftLeft_eq', BitVec.toNat_shiftLeft, a1, a2]
    show (c.toBitVec.toNat % 256) <<< 0 % 2 ^ 32 ||| (c.toBitVec.toNat / 256) <<< 8 % 2 ^ 32 = _
    rw [Nat.shiftLeft_zero, Nat.mod_eq_of_lt (show c.toBitVec.toNat % 256 < 2 ^ 32 by omega), Nat.mod_eq_of_lt (show (c.toBitVec.toNat / 256) <<< 8 < 2 ^ 32 by rw [Nat.shiftLeft_eq]; omega), Nat.or_comm, ← Nat.shiftLeft_add_eq_or_of_lt (by omega), Nat.shiftLeft_eq]
    omega
  show BitVec.toNat (((((lo8 c &&& 255) <<< (0 : Int32)) ||| ((hi8 c &&& 255) <<< (8 : Int32))).toBitVec.setWidth 16).setWidth 32) = _
  rw [BitVec.toNat_setWidth, BitVec.toNat_setWidth, g]
  omega
end StrChars
end Jvm.Pilot.@@N@@
namespace Jvm.Pilot.@@N@@
open Jvm Jvm.ClassFile Sem Op Lib Jvm.Free Jvm.Stand Jvm.LawKit Jvm.RoadKit Bundle Jvm.Pilot.@@N@@.Jvm.D
abbrev CL : List (String × Nat) := consts_1
abbrev NL : Bool := false
/-! OWN KIT: a forward form of the walk (Rc: the run has come to pc with these locals, this stack and this heap), over the library's Stand. -/
section OwnKit
open Jvm.Free.SB Jvm.Free.SBG
def Sx (Z : State) (h : Heap) (Ds : List Addr) (a : Addr) (units : Array UInt16) : Prop :=
  ∃ (q : SQ) (cS : ClassId), q.sa = a ∧ Sl q cS ({ Z with heap := h } : State) ∧ (∃ kS : Class, Z.vm.classes[cS]? = some kS ∧ kS.kind = .ordinary ∧ q.sC.slots.size = kS.instanceTypes.size) ∧ Z.vm.findClass "[B" = some q.SA.cls ∧ q.SA.slots = stringBytes units ∧ q.sa ∉ Ds ∧ q.sd ∉ Ds
theorem own_al (Z : State) : Z.vm.Alike Z.vm := (State.Warmed39.refl Z).alike
theorem Sx.keep {Z : State} {h h' : Heap} {Ds ws : List Addr} {a : Addr} {u : Array UInt16} (F : Sx Z h Ds a u) (K : Keep h h' ws) (q : ∀ x ∈ ws, x ∈ Ds) : Sx Z h' Ds a u := by
  obtain ⟨s, cS, h1, h2, h3, h4, h5, h6, h7⟩ := F
  exact ⟨s, cS, h1, Sl.carry (U := ({ Z with heap := h } : State)) (U' := ({ Z with heap := h' } : State)) (own_al Z) (K.2.1 _ _ h2.1.1 (fun m => h6 (q _ m))) (K.2.1 _ _ h2.1.2.2.2.2.2.2.2.2.2.1 (fun m => h7 (q _ m))) h2, h3, h4, h5, h6, h7⟩
theorem Sx.less {Z : State} {h : Heap} {Ds Ds' : List Addr} {a : Addr} {u : Array UInt16} (F : Sx Z h Ds a u) (q : ∀ x ∈ Ds', x ∈ Ds) : Sx Z h Ds' a u := by
  obtain ⟨s, cS, h1, h2, h3, h4, h5, h6, h7⟩ := F
  exact ⟨s, cS, h1, h2, h3, h4, h5, fun m => h6 (q _ m), fun m => h7 (q _ m)⟩
theorem Sx.more {Z : State} {h : Heap} {Ds : List Addr} {a b : Addr} {u : Array UInt16} (F : Sx Z h Ds a u) (hb : h.size ≤ b) : Sx Z h (b :: Ds) a u := by
  obtain ⟨s, cS, h1, h2, h3, h4, h5, h6, h7⟩ := F
  have l1 : s.sa < h.size := (Array.getElem?_eq_some_iff.mp h2.1.1).1
  have l2 : s.sd < h.size := (Array.getElem?_eq_some_iff.mp h2.1.2.2.2.2.2.2.2.2.2.1).1
  refine ⟨s, cS, h1, h2, h3, h4, h5, fun m => ?_, fun m => ?_⟩
  · rcases List.mem_cons.mp m with e | e
    · exact absurd e (Nat.ne_of_lt (Nat.lt_of_lt_of_le l1 hb))
    · exact h6 e
  · rcases List.mem_cons.mp m with e | e
    · exact absurd e (Nat.ne_of_lt (Nat.lt_of_lt_of_le l2 hb))
    · exact h7 e
def Lk (Z : State) : Prop := ∀ (own : String) (idx : Nat), (own, idx) ∈ CL → ∃ (a0 : Array Value) (text : String), (Jvm.Cond.stringLink own idx text).before a0 Z = true ∧ (∀ c ∈ text.toList, c.toNat < 256) ∧ ∀ d ∈ Bundle.stringAtoms, d.before a0 Z = true
def JJ (Z : State) (n0 : Nat) (vm : Vm) (h : Heap) (Ds : List Addr) : Prop :=
  Old Z n0 h ∧ (NL = true → Z.WarmedH vm) ∧ (∀ x ∈ Ds, n0 ≤ x ∧ x < h.size) ∧ Lk Z ∧
    ∀ (own : String) (idx : Nat), (own, idx) ∈ CL → ∀ (c : ClassId) (k : Class) (cf : ClassFile) (i : Nat) (units : Array UInt16) (a : Addr), vm.findClass own = some c → vm.classes[c]? = some k → k.cf = some cf →
      cf.constantPool[idx]? = some (.string i) → cf.constantPool[i]? = some (.utf8 units) →
      (k.resolved[idx]? = some (some (.string a)) ∨ (k.resolved[idx]? = some none ∧ vm.interned.find? (fun p => p.1 == units) = some (units, a))) → Sx Z h Ds a units
theorem JJ.keep {Z : State} {n0 : Nat} {vm : Vm} {h h' : Heap} {Ds ws : List Addr} (J : JJ Z n0 vm h Ds) (K : Keep h h' ws) (q : ∀ x ∈ ws, x ∈ Ds) : JJ Z n0 vm h' Ds :=
  ⟨J.1.keep K (fun x hx => (J.2.2.1 x (q x hx)).1), J.2.1, fun x hx => ⟨(J.2.2.1 x hx).1, Nat.lt_of_lt_of_le (J.2.2.1 x hx).2 K.1⟩, J.2.2.2.1, fun o i hm c k cf j u a q1 q2 q3 q4 q5 q6 => (J.2.2.2.2 o i hm c k cf j u a q1 q2 q3 q4 q5 q6).keep K q⟩
theorem JJ.ext {Z : State} {n0 : Nat} {vm : Vm} {h h' : Heap} {Ds : List Addr} (J : JJ Z n0 vm h Ds) (E : Ext h h') : JJ Z n0 vm h' Ds := J.keep ((Keep.refl h []).ext E) (fun x hx => nomatch hx)
theorem JJ.less {Z : State} {n0 : Nat} {vm : Vm} {h : Heap} {Ds Ds' : List Addr} (J : JJ Z n0 vm h Ds) (q : ∀ x ∈ Ds', x ∈ Ds) : JJ Z n0 vm h Ds' :=
  ⟨J.1, J.2.1, fun x hx => J.2.2.1 x (q x hx), J.2.2.2.1, fun o i hm c k cf j u a q1 q2 q3 q4 q5 q6 => (J.2.2.2.2 o i hm c k cf j u a q1 q2 q3 q4 q5 q6).less q⟩
theorem own_n0 {Z : State} {n0 : Nat} {h : Heap} (X : Old Z n0 h) : n0 ≤ h.size := X.1 ▸ X.2.1
theorem JJ.born {Z : State} {n0 : Nat} {vm : Vm} {h h' : Heap} {Ds : List Addr} (J : JJ Z n0 vm h Ds) (E : Ext h h') (hb : h.size < h'.size) : JJ Z n0 vm h' (h.size :: Ds) := by
  refine ⟨J.1.ext E, J.2.1, fun x hx => ?_, J.2.2.2.1, fun o i hm c k cf j u a q1 q2 q3 q4 q5 q6 => ((J.2.2.2.2 o i hm c k cf j u a q1 q2 q3 q4 q5 q6).more (Nat.le_refl _)).keep ((Keep.refl h []).ext E) (fun x hx => nomatch hx)⟩
  rcases List.mem_cons.mp hx with e | e
  · subst e; exact ⟨own_n0 J.1, hb⟩
  · exact ⟨(J.2.2.1 x e).1, Nat.lt_of_lt_of_le (J.2.2.1 x e).2 E.1⟩
theorem JJ.step {Z t : State} {n0 : Nat} {vm' : Vm} {h : Heap} {Ds : List Addr} (J : JJ Z n0 t.vm h Ds) (hZ : Z.Warmed39 t.vm) (hW : t.Warmed39 vm')
    (hint : vm'.interned = t.vm.interned ∨ ∃ (u : Array UInt16) (a' : Addr), vm'.interned = t.vm.interned.push (u, a') ∧ (t.vm.interned.find? (fun p => p.1 == u) = none → Sx Z h Ds a' u)) (hcl : NL = true → Z.WarmedH vm') : JJ Z n0 vm' h Ds := by
  refine ⟨J.1, hcl, J.2.2.1, J.2.2.2.1, fun own idx hm c k' cf i units a hc' hk' hcf' hp hu hor => ?_⟩
  obtain ⟨a0, text, w, hlat, -⟩ := J.2.2.2.1 own idx hm
  have hal : t.vm.Alike vm' := hW.alike
  have hc : t.vm.findClass own = some c := by rw [← hal.findClass]; exact hc'
  have wt : (Jvm.Cond.stringLink own idx text).before a0 t = true := mvS (s := t) (vm0 := t.vm) hZ w
  obtain ⟨k, cf0, i0, units0, hk, hcf, hp0, hu0, hnm, htext, -⟩ := Cond.stringLink_spec hc wt
  obtain ⟨k'', hk'', hke, -, ee, -⟩ := hW.2.2.2 c k hk
  cases hk'.symm.trans hk''
  have hcfk : k'.cf = k.cf := by rw [hke]
  cases (hcfk ▸ hcf').symm.trans hcf
  cases hp.symm.trans hp0
  cases hu.symm.trans hu0
  have base := fun a => J.2.2.2.2 own idx hm c k cf i units a hc hk hcf hp hu
  have hfind : ∀ a, vm'.interned.find? (fun p => p.1 == units) = some (units, a) → k.resolved[idx]? = some none → Sx Z h Ds a units := by
    intro a hf hop
    rcases hint with e | ⟨u, a', e, hS⟩
    · rw [e] at hf; exact base a (Or.inr ⟨hop, hf⟩)
    · rw [e, Array.find?_push] at hf
      cases hs : t.vm.interned.find? (fun p => p.1 == units) with
      | some pr =>
        rw [hs] at hf
        have hpr : pr = (units, a) := by simpa using hf
        exact base a (Or.inr ⟨hop, by rw [hs, hpr]⟩)
      | none =>
        rw [hs, Option.none_or] at hf
        by_cases hb : (u == units) = true
        · have hu' : u = units := by simpa using hb
          subst hu'
          have : a' = a := by simpa using hf
          subst this
          exact hS hs
        · simp [hb] at hf
  rcases ee idx with e0 | ⟨hop, r, e1, hr | ⟨a3, t', si, us, rfl, -, q3, q4, q5⟩⟩
  · rcases hor with h0 | ⟨h0, hf⟩
    · exact base a (Or.inl (e0 ▸ h0))
    · exact hfind a hf (e0 ▸ h0)
  · exfalso
    cases r <;> simp [State.rightAt, hk, hcf, hnm] at hr
  · rw [hcf] at q3 q4
    have e3 : si = i := by
      have := q3.symm.trans hp
      simpa using this
    subst e3
    have e4 : us = units := by simpa [ConstantPool.utf8?, hu] using q4.symm
    subst e4
    rcases hor with h0 | ⟨h0, -⟩
    · have ea : a3 = a := by have := e1.symm.trans h0; simpa using this
      subst ea
      exact hfind a3 q5 hop
    · have := e1.symm.trans h0; simp at this
theorem JJ.warm {Z t : State} {n0 : Nat} {vm' : Vm} {h : Heap} {Ds : List Addr} (J : JJ Z n0 t.vm h Ds) (hZ : Z.Warmed39 t.vm) (hW : t.WarmedH vm') : JJ Z n0 vm' h Ds :=
  J.step hZ hW.wide (Or.inl hW.interned_eq) (fun e => State.WarmedH.trans (J.2.1 e) hW)
abbrev Cx : Type := Program × Launch × Env × State × MethodId × Array Value × List Frame × Method × Code × State
abbrev Cx.p (C : Cx) : Program := C.1
abbrev Cx.l (C : Cx) : Launch := C.2.1
abbrev Cx.e (C : Cx) : Env := C.2.2.1
abbrev Cx.s (C : Cx) : State := C.2.2.2.1
abbrev Cx.m (C : Cx) : MethodId := C.2.2.2.2.1
abbrev Cx.args (C : Cx) : Array Value := C.2.2.2.2.2.1
abbrev Cx.below (C : Cx) : List Frame := C.2.2.2.2.2.2.1
abbrev Cx.meth (C : Cx) : Method := C.2.2.2.2.2.2.2.1
abbrev Cx.c (C : Cx) : Code := C.2.2.2.2.2.2.2.2.1
abbrev Cx.s0 (C : Cx) : State := C.2.2.2.2.2.2.2.2.2
/-- the run has come to pc -/
def Rc (C : Cx) (R : Room) (own : String) (bs : ByteArray) (ml : Nat) (Z : State) (n0 ce sl pc : Nat) (Ls : Array Slot) (S : List Value) (h : Heap) (Ds : List Addr) : Prop :=
  ∃ (T : State) (locs : List Loc) (vm0 : Vm) (k0 : Nat), Stand C.p C.l C.e R (C.s.setVm vm0) C.m C.args C.below C.meth C.c T locs ce sl ∧ C.s.Since vm0 k0 ∧ k0 ≤ h.size ∧ Z.Warmed39 vm0 ∧ JJ Z n0 vm0 h Ds ∧ T.heap = h ∧ Fr n0 locs ∧
    (C.p.tables.exec = Jvm.exec ∧ C.c.code = bs ∧ C.c.maxLocals = ml ∧ vm0.findClass own = some C.m.cls ∧ C.meth.locks = false) ∧
    ∀ t, Steps C.p.tables C.e C.below (T.setTop (mkF C.m pc Ls S)) t → Steps C.p.tables C.e C.below C.s0 t
/-- the invocation has ended -/
def Done (C : Cx) (Z : State) (n0 : Nat) (Q : Option Value → Heap → List Addr → Prop) (kc ks : Nat) : Prop :=
  ∃ (t : State) (o : Outcome), Steps C.p.tables C.e C.below C.s0 t ∧ t.status = .running ∧ Ended t C.below o ∧ ∃ (v : Option Value) (L : List Loc) (Ds : List Addr), o = .returned v ∧ Q v t.heap Ds ∧ JJ Z n0 t.vm t.heap Ds ∧ Fr n0 L ∧ ReturnedEndW C.s o t L kc ks
/-- a contract -/
def Ctr (l : Launch) (Z : State) (y : MethodName) (bytes : ByteArray) (maxL : Nat) (ret : Option FieldType) (ws : List Jvm.Cond) (rm : Room) (as' : Array Value) (h : Heap) (n0 : Nat) (Ds : List Addr) (Q : Option Value → Heap → List Addr → Prop) : Prop :=
  MetFree l y (head1 (Jvm.Cond.code y bytes maxL ret :: ws) rm) (fun a U => a = as' ∧ Z.Warmed39 U.vm ∧ U.heap = h ∧ JJ Z n0 U.vm h Ds) (fun _ _ _ _ _ => True)
    (fun _ U o U' => ∃ (v : Option Value) (L : List Loc) (Ds' : List Addr), o = .returned v ∧ Q v U'.heap Ds' ∧ JJ Z n0 U'.vm U'.heap Ds' ∧ Fr n0 L ∧ ReturnedEndW U o U' L rm.cells rm.slots)
theorem ctr_of {l : Launch} {Z : State} {y : MethodName} {bytes : ByteArray} {maxL : Nat} {ret : Option FieldType} {ws : List Jvm.Cond} {rm : Room} {as' : Array Value} {h : Heap} {n0 : Nat} {Ds : List Addr} {Q : Option Value → Heap → List Addr → Prop} {Ls : Array Slot}
    (pf : plainFor y = true) (ef : ∀ m : MethodId, entryFrame m as' maxL = mkF m 0 Ls [])
    (wk : ∀ C : Cx, C.l = l → C.meth.sig.returnType = ret → C.meth.name = y.name → Rc C rm y.cls bytes maxL Z n0 0 0 0 Ls [] h Ds → Done C Z n0 Q rm.cells rm.slots) : Ctr l Z y bytes maxL ret ws rm as' h n0 Ds Q := by
  refine MetFree.of_bodySF pf hisR ?_
  intro p e s m args below meth c s₁ Bd hml0 hP hK
  obtain ⟨rfl, hZ, hh, hJ⟩ := hP
  have X0 : Stand p l e rm s m args below meth c s₁ [] 0 0 := Stand.of_body Bd
  have e0 : s₁.heap = h := by rw [← hh, Bd.state]; rfl
  have hown : s.vm.findClass y.cls = some m.cls := findClass_of_methodNamed Bd.named
  have hnm := (name_of_methodNamed Bd.named Bd.method).1
  have hlk : meth.locks = false := BodyLoose.notSynchronized Bd
  exact wk (p, l, e, s, m, args, below, meth, c, s₁.setTop (entryFrame m args maxL)) rfl Bd.returns hnm
    ⟨s₁, [], s.vm, 0, X0, (State.WarmedH.refl s).since 0, Nat.zero_le _, hZ, hJ, e0, Fr.nil n0, ⟨Bd.exec, Bd.bytes, hml0, hown, hlk⟩, fun t k => castTop (ef m) k⟩
theorem ctrBack {l : Launch} {R : Room} {p : Program} {e : Env} {below : List Frame} {s : State} {args : Array Value} {Z : State} {a0 : Array Value} {h : Heap} {n0 : Nat} {Ds : List Addr} {y : MethodName} {bytes : ByteArray} {maxL : Nat} {ret : Option FieldType} {rm : Room} {len W : Nat} {as' : Array Value} {Q : Option Value → Heap → List Addr → Prop}
    (hM : Ctr l Z y bytes maxL ret [] rm as' h n0 Ds Q) (hZ : Z.Warmed39 s.vm) (hJ : JJ Z n0 s.vm h Ds) (wc : (Jvm.Cond.code y bytes maxL ret).before a0 Z = true) (wz : (Jvm.Cond.initialized y.cls).before a0 Z = true) (hf : rm.frames + 1 ≤ R.frames) (hl : W + (maxL + 11) + rm.locals ≤ R.locals) :
    BackS l R p e below s args y len W (fun A a => a = as' ∧ A.U.heap = h ∧ A.cells + rm.cells ≤ R.cells ∧ A.slots + rm.slots ≤ R.slots)
      (fun A _ v B => ∃ (L : List Loc) (Ds' : List Addr), Q v B.U.heap Ds' ∧ JJ Z n0 B.U.vm B.U.heap Ds' ∧ Fr n0 L ∧ B.locs = A.locs ++ L ∧ B.cells = A.cells + rm.cells ∧ B.slots = A.slots + rm.slots) :=
  BackS.of_freeW (bytes := bytes) (maxL := maxL) (ret := ret) (E := fun _ _ o t L k n => k = rm.cells ∧ n = rm.slots ∧ ∃ (v : Option Value) (Ds' : List Addr), o = .returned v ∧ Q v t.heap Ds' ∧ JJ Z n0 t.vm t.heap Ds' ∧ Fr n0 L) hM hf hl
    (fun m meth c A a Y hp => have hU : Z.Warmed39 A.U.vm := wtrans hZ Y.warmed
      ⟨by show (Jvm.Cond.and _ .tt).before a A.U = true; rw [Cond.before_and, mv hU wc]; rfl, mv hU wc, mv hU wz, hp.2.2.1, hp.2.2.2⟩)
    (fun m meth c A a g mk Y hp => ⟨hp.1, wtrans hZ Y.warmed, hp.2.1, hJ.warm hZ Y.warmed⟩) (fun _ _ _ _ _ _ _ _ _ => trivial)
    (fun _ _ _ _ ⟨v, L, Ds', h1, h2, h3, h4, h5⟩ => ⟨L, _, _, h5, rfl, rfl, v, Ds', h1, h2, h3, h4⟩)
    (fun m meth c A a g mk v t L k n Y hp _ _ ⟨e1, e2, v', Ds', e3, e4, e5, e6⟩ => by cases e3; subst e1 e2; exact ⟨L, Ds', e4, e5, e6, rfl, rfl, rfl⟩)
variable {C : Cx} {R : Room} {own : String} {bs : ByteArray} {ml : Nat} {Z : State} {n0 ce sl pc : Nat} {Ls : Array Slot} {S rest : List Value} {h : Heap} {Ds : List Addr} {a0 : Array Value}
theorem Rc.go {pc' : Nat} {Ls' : Array Slot} {S' : List Value} (H : Rc C R own bs ml Z n0 ce sl pc Ls S h Ds) (f : ∀ T t, At T C.m C.c C.below → C.p.tables.exec = Jvm.exec → C.c.code = bs → Steps C.p.tables C.e C.below (T.setTop (mkF C.m pc' Ls' S')) t → Steps C.p.tables C.e C.below (T.setTop (mkF C.m pc Ls S)) t) : Rc C R own bs ml Z n0 ce sl pc' Ls' S' h Ds := by
  obtain ⟨T, locs, vm0, k0, X, h1, h2, h3, h4, h5, h6, h7, k⟩ := H
  exact ⟨T, locs, vm0, k0, X, h1, h2, h3, h4, h5, h6, h7, fun t ht => k _ (f T t X.here h7.1 h7.2.1 ht)⟩
theorem Rc.goX {pc' : Nat} {Ls' : Array Slot} {S' : List Value} (H : Rc C R own bs ml Z n0 ce sl pc Ls S h Ds) (f : ∀ (s : State) (T : State) (locs : List Loc) t, Stand C.p C.l C.e R s C.m C.args C.below C.meth C.c T locs ce sl → Z.Warmed39 s.vm → s.vm.findClass own = some C.m.cls → T.heap = h → C.p.tables.exec = Jvm.exec → C.c.code = bs → Steps C.p.tables C.e C.below (T.setTop (mkF C.m pc' Ls' S')) t → Steps C.p.tables C.e C.below (T.setTop (mkF C.m pc Ls S)) t) : Rc C R own bs ml Z n0 ce sl pc' Ls' S' h Ds := by
  obtain ⟨T, locs, vm0, k0, X, h1, h2, h3, h4, h5, h6, h7, k⟩ := H
  exact ⟨T, locs, vm0, k0, X, h1, h2, h3, h4, h5, h6, h7, fun t ht => k _ (f _ T locs t X h3 h7.2.2.2.1 h5 h7.1 h7.2.1 ht)⟩
theorem Rc.stk {S' : List Value} (H : Rc C R own bs ml Z n0 ce sl pc Ls S h Ds) (e : S = S') : Rc C R own bs ml Z n0 ce sl pc Ls S' h Ds := e ▸ H
theorem Rc.loc {Ls' : Array Slot} (H : Rc C R own bs ml Z n0 ce sl pc Ls S h Ds) (e : Ls = Ls') : Rc C R own bs ml Z n0 ce sl pc Ls' S h Ds := e ▸ H
theorem Rc.old (H : Rc C R own bs ml Z n0 ce sl pc Ls S h Ds) : Old Z n0 h := by
  obtain ⟨T, locs, vm0, k0, X, h1, h2, h3, h4, h5, h6, h7, k⟩ := H
  exact h4.1
theorem Rc.mem (H : Rc C R own bs ml Z n0 ce sl pc Ls S h Ds) {x : Addr} (hx : x ∈ Ds) : n0 ≤ x ∧ x < h.size := by
  obtain ⟨T, locs, vm0, k0, X, h1, h2, h3, h4, h5, h6, h7, k⟩ := H
  exact h4.2.2.1 x hx
theorem Rc.mono {ce' sl' : Nat} (H : Rc C R own bs ml Z n0 ce sl pc Ls S h Ds) (h1 : ce ≤ ce') (h2 : sl ≤ sl') : Rc C R own bs ml Z n0 ce' sl' pc Ls S h Ds := by
  obtain ⟨T, locs, vm0, k0, X, r⟩ := H
  exact ⟨T, locs, vm0, k0, X.mono h1 h2, r⟩
theorem Rc.less {Ds' : List Addr} (H : Rc C R own bs ml Z n0 ce sl pc Ls S h Ds) (q : ∀ x ∈ Ds', x ∈ Ds) : Rc C R own bs ml Z n0 ce sl pc Ls S h Ds' := by
  obtain ⟨T, locs, vm0, k0, X, h1, h2, h3, h4, r⟩ := H
  exact ⟨T, locs, vm0, k0, X, h1, h2, h3, h4.less q, r⟩
theorem Rc.iload {pc' : Nat} {k : Nat} {v : Int32} (H : Rc C R own bs ml Z n0 ce sl pc Ls S h Ds) (hd : decode bs pc = .ok (.iload k, 2)) (hl : Ls[k]? = some (.val (.int v))) (hp : pc + 2 = pc') : Rc C R own bs ml Z n0 ce sl pc' Ls (.int v :: S) h Ds := by
  subst hp
  exact H.go fun T t hA hx hby kk => XS.iload hA hx rfl (hb hby hd) hl kk
theorem Rc.iloadN {pc' : Nat} {k : Fin 4} {v : Int32} (H : Rc C R own bs ml Z n0 ce sl pc Ls S h Ds) (hd : decode bs pc = .ok (.iload_n k, 1)) (hl : Ls[k.val]? = some (.val (.int v))) (hp : pc + 1 = pc') : Rc C R own bs ml Z n0 ce sl pc' Ls (.int v :: S) h Ds := by
  subst hp
  exact H.go fun T t hA hx hby kk => XS.iloadN hA hx rfl (hb hby hd) hl kk
theorem Rc.aload {pc' : Nat} {k : Nat} {v : Value} (H : Rc C R own bs ml Z n0 ce sl pc Ls S h Ds) (hd : decode bs pc = .ok (.aload k, 2)) (hl : Ls[k]? = some (.val v)) (hv : v.isRef = true) (hp : pc + 2 = pc') : Rc C R own bs ml Z n0 ce sl pc' Ls (v :: S) h Ds := by
  subst hp
  exact H.go fun T t hA hx hby kk => XS.aload hA hx rfl (hb hby hd) hl hv kk
theorem Rc.aloadN {pc' : Nat} {k : Fin 4} {v : Value} (H : Rc C R own bs ml Z n0 ce sl pc Ls S h Ds) (hd : decode bs pc = .ok (.aload_n k, 1)) (hl : Ls[k.val]? = some (.val v)) (hv : v.isRef = true) (hp : pc + 1 = pc') : Rc C R own bs ml Z n0 ce sl pc' Ls (v :: S) h Ds := by
  subst hp
  exact H.go fun T t hA hx hby kk => XS.aloadN hA hx rfl (hb hby hd) hl hv kk
theorem Rc.lload {pc' : Nat} {k : Nat} {v : Int64} (H : Rc C R own bs ml Z n0 ce sl pc Ls S h Ds) (hd : decode bs pc = .ok (.lload k, 2)) (hl : Ls[k]? = some (.val (.long v))) (hp : pc + 2 = pc') : Rc C R own bs ml Z n0 ce sl pc' Ls (.long v :: S) h Ds := by
  subst hp
  exact H.go fun T t hA hx hby kk => XS.lload hA hx rfl (hb hby hd) hl kk
theorem Rc.lloadN {pc' : Nat} {k : Fin 4} {v : Int64} (H : Rc C R own bs ml Z n0 ce sl pc Ls S h Ds) (hd : decode bs pc = .ok (.lload_n k, 1)) (hl : Ls[k.val]? = some (.val (.long v))) (hp : pc + 1 = pc') : Rc C R own bs ml Z n0 ce sl pc' Ls (.long v :: S) h Ds := by
  subst hp
  exact H.go fun T t hA hx hby kk => XS.lloadN hA hx rfl (hb hby hd) hl kk
theorem Rc.istore {pc' : Nat} {k : Nat} {x : Int32} {l' : Array Slot} (H : Rc C R own bs ml Z n0 ce sl pc Ls (.int x :: rest) h Ds) (hd : decode bs pc = .ok (.istore k, 2)) (hl : storeLocals Ls k (.int x) = some l') (hp : pc + 2 = pc') : Rc C R own bs ml Z n0 ce sl pc' l' rest h Ds := by
  subst hp
  exact H.go fun T t hA hx hby kk => XS.istore hA hx rfl (hb hby hd) rfl hl kk
theorem Rc.istoreN {pc' : Nat} {k : Fin 4} {x : Int32} {l' : Array Slot} (H : Rc C R own bs ml Z n0 ce sl pc Ls (.int x :: rest) h Ds) (hd : decode bs pc = .ok (.istore_n k, 1)) (hl : storeLocals Ls k.val (.int x) = some l') (hp : pc + 1 = pc') : Rc C R own bs ml Z n0 ce sl pc' l' rest h Ds := by
  subst hp
  exact H.go fun T t hA hx hby kk => XS.istoreN hA hx rfl (hb hby hd) rfl hl kk
theorem Rc.astore {pc' : Nat} {k : Nat} {x : Value} {l' : Array Slot} (H : Rc C R own bs ml Z n0 ce sl pc Ls (x :: rest) h Ds) (hd : decode bs pc = .ok (.astore k, 2)) (hv : x.isRef = true) (hl : storeLocals Ls k x = some l') (hp : pc + 2 = pc') : Rc C R own bs ml Z n0 ce sl pc' l' rest h Ds := by
  subst hp
  exact H.go fun T t hA hx hby kk => XS.astore hA hx rfl (hb hby hd) rfl hv hl kk
theorem Rc.astoreN {pc' : Nat} {k : Fin 4} {x : Value} {l' : Array Slot} (H : Rc C R own bs ml Z n0 ce sl pc Ls (x :: rest) h Ds) (hd : decode bs pc = .ok (.astore_n k, 1)) (hv : x.isRef = true) (hl : storeLocals Ls k.val x = some l') (hp : pc + 1 = pc') : Rc C R own bs ml Z n0 ce sl pc' l' rest h Ds := by
  subst hp
  exact H.go fun T t hA hx hby kk => XS.astoreN hA hx rfl (hb hby hd) rfl hv hl kk
theorem Rc.lstore {pc' : Nat} {k : Nat} {x : Int64} {l' : Array Slot} (H : Rc C R own bs ml Z n0 ce sl pc Ls (.long x :: rest) h Ds) (hd : decode bs pc = .ok (.lstore k, 2)) (hl : storeLocals Ls k (.long x) = some l') (hp : pc + 2 = pc') : Rc C R own bs ml Z n0 ce sl pc' l' rest h Ds := by
  subst hp
  exact H.go fun T t hA hx hby kk => XS.lstore hA hx rfl (hb hby hd) rfl hl kk
theorem Rc.lstoreN {pc' : Nat} {k : Fin 4} {x : Int64} {l' : Array Slot} (H : Rc C R own bs ml Z n0 ce sl pc Ls (.long x :: rest) h Ds) (hd : decode bs pc = .ok (.lstore_n k, 1)) (hl : storeLocals Ls k.val (.long x) = some l') (hp : pc + 1 = pc') : Rc C R own bs ml Z n0 ce sl pc' l' rest h Ds := by
  subst hp
  exact H.go fun T t hA hx hby kk => XS.lstoreN hA hx rfl (hb hby hd) rfl hl kk
theorem Rc.iconst {pc' : Nat} {i : Int} {z : Int32} (H : Rc C R own bs ml Z n0 ce sl pc Ls S h Ds) (hd : decode bs pc = .ok (.iconst i, 1)) (hz : Int32.ofInt i = z) (hp : pc + 1 = pc') : Rc C R own bs ml Z n0 ce sl pc' Ls (.int z :: S) h Ds := by
  subst hp hz
  exact H.go fun T t hA hx hby kk => XS.iconst hA hx rfl (hb hby hd) kk
theorem Rc.bipush {pc' : Nat} {i : Int} {z : Int32} (H : Rc C R own bs ml Z n0 ce sl pc Ls S h Ds) (hd : decode bs pc = .ok (.bipush i, 2)) (hz : (Int8.ofInt i).toInt32 = z) (hp : pc + 2 = pc') : Rc C R own bs ml Z n0 ce sl pc' Ls (.int z :: S) h Ds := by
  subst hp hz
  exact H.go fun T t hA hx hby kk => XS.bipush hA hx rfl (hb hby hd) kk
theorem Rc.sipush {pc' : Nat} {i : Int} {z : Int32} (H : Rc C R own bs ml Z n0 ce sl pc Ls S h Ds) (hd : decode bs pc = .ok (.sipush i, 3)) (hz : (Int16.ofInt i).toInt32 = z) (hp : pc + 3 = pc') : Rc C R own bs ml Z n0 ce sl pc' Ls (.int z :: S) h Ds := by
  subst hp hz
  exact H.go fun T t hA hx hby kk => XS.sipush hA hx rfl (hb hby hd) kk
theorem Rc.lconst {pc' : Nat} {i : Fin 2} {z : Int64} (H : Rc C R own bs ml Z n0 ce sl pc Ls S h Ds) (hd : decode bs pc = .ok (.lconst i, 1)) (hz : Int64.ofNat i = z) (hp : pc + 1 = pc') : Rc C R own bs ml Z n0 ce sl pc' Ls (.long z :: S) h Ds := by
  subst hp hz
  exact H.go fun T t hA hx hby kk => XS.lconst hA hx rfl (hb hby hd) kk
theorem Rc.anull {pc' : Nat}  (H : Rc C R own bs ml Z n0 ce sl pc Ls S h Ds) (hd : decode bs pc = .ok (.aconst_null, 1)) (hp : pc + 1 = pc') : Rc C R own bs ml Z n0 ce sl pc' Ls (.null :: S) h Ds := by
  subst hp
  exact H.go fun T t hA hx hby kk => XS.aconstNull hA hx rfl (hb hby hd) kk
theorem Rc.iadd {pc' : Nat} {x y : Int32} (H : Rc C R own bs ml Z n0 ce sl pc Ls (.int y :: .int x :: rest) h Ds) (hd : decode bs pc = .ok (.iadd, 1)) (hp : pc + 1 = pc') : Rc C R own bs ml Z n0 ce sl pc' Ls (.int (x + y) :: rest) h Ds := by
  subst hp
  exact H.go fun T t hA hx hby kk => XS.iadd hA hx rfl (hb hby hd) rfl kk
theorem Rc.ladd {pc' : Nat} {x y : Int64} (H : Rc C R own bs ml Z n0 ce sl pc Ls (.long y :: .long x :: rest) h Ds) (hd : decode bs pc = .ok (.ladd, 1)) (hp : pc + 1 = pc') : Rc C R own bs ml Z n0 ce sl pc' Ls (.long (x + y) :: rest) h Ds := by
  subst hp
  exact H.go fun T t hA hx hby kk => XS.ladd hA hx rfl (hb hby hd) rfl kk
theorem Rc.isub {pc' : Nat} {x y : Int32} (H : Rc C R own bs ml Z n0 ce sl pc Ls (.int y :: .int x :: rest) h Ds) (hd : decode bs pc = .ok (.isub, 1)) (hp : pc + 1 = pc') : Rc C R own bs ml Z n0 ce sl pc' Ls (.int (x - y) :: rest) h Ds := by
  subst hp
  exact H.go fun T t hA hx hby kk => XS.isub hA hx rfl (hb hby hd) rfl kk
theorem Rc.lsub {pc' : Nat} {x y : Int64} (H : Rc C R own bs ml Z n0 ce sl pc Ls (.long y :: .long x :: rest) h Ds) (hd : decode bs pc = .ok (.lsub, 1)) (hp : pc + 1 = pc') : Rc C R own bs ml Z n0 ce sl pc' Ls (.long (x - y) :: rest) h Ds := by
  subst hp
  exact H.go fun T t hA hx hby kk => XS.lsub hA hx rfl (hb hby hd) rfl kk
theorem Rc.imul {pc' : Nat} {x y : Int32} (H : Rc C R own bs ml Z n0 ce sl pc Ls (.int y :: .int x :: rest) h Ds) (hd : decode bs pc = .ok (.imul, 1)) (hp : pc + 1 = pc') : Rc C R own bs ml Z n0 ce sl pc' Ls (.int (x * y) :: rest) h Ds := by
  subst hp
  exact H.go fun T t hA hx hby kk => XS.imul hA hx rfl (hb hby hd) rfl kk
theorem Rc.lmul {pc' : Nat} {x y : Int64} (H : Rc C R own bs ml Z n0 ce sl pc Ls (.long y :: .long x :: rest) h Ds) (hd : decode bs pc = .ok (.lmul, 1)) (hp : pc + 1 = pc') : Rc C R own bs ml Z n0 ce sl pc' Ls (.long (x * y) :: rest) h Ds := by
  subst hp
  exact H.go fun T t hA hx hby kk => XS.lmul hA hx rfl (hb hby hd) rfl kk
theorem Rc.iand {pc' : Nat} {x y : Int32} (H : Rc C R own bs ml Z n0 ce sl pc Ls (.int y :: .int x :: rest) h Ds) (hd : decode bs pc = .ok (.iand, 1)) (hp : pc + 1 = pc') : Rc C R own bs ml Z n0 ce sl pc' Ls (.int (x &&& y) :: rest) h Ds := by
  subst hp
  exact H.go fun T t hA hx hby kk => XS.iand hA hx rfl (hb hby hd) rfl kk
theorem Rc.land {pc' : Nat} {x y : Int64} (H : Rc C R own bs ml Z n0 ce sl pc Ls (.long y :: .long x :: rest) h Ds) (hd : decode bs pc = .ok (.land, 1)) (hp : pc + 1 = pc') : Rc C R own bs ml Z n0 ce sl pc' Ls (.long (x &&& y) :: rest) h Ds := by
  subst hp
  exact H.go fun T t hA hx hby kk => XS.land hA hx rfl (hb hby hd) rfl kk
theorem Rc.ior {pc' : Nat} {x y : Int32} (H : Rc C R own bs ml Z n0 ce sl pc Ls (.int y :: .int x :: rest) h Ds) (hd : decode bs pc = .ok (.ior, 1)) (hp : pc + 1 = pc') : Rc C R own bs ml Z n0 ce sl pc' Ls (.int (x ||| y) :: rest) h Ds := by
  subst hp
  exact H.go fun T t hA hx hby kk => XS.ior hA hx rfl (hb hby hd) rfl kk
theorem Rc.lor {pc' : Nat} {x y : Int64} (H : Rc C R own bs ml Z n0 ce sl pc Ls (.long y :: .long x :: rest) h Ds) (hd : decode bs pc = .ok (.lor, 1)) (hp : pc + 1 = pc') : Rc C R own bs ml Z n0 ce sl pc' Ls (.long (x ||| y) :: rest) h Ds := by
  subst hp
  exact H.go fun T t hA hx hby kk => XS.lor hA hx rfl (hb hby hd) rfl kk
theorem Rc.ixor {pc' : Nat} {x y : Int32} (H : Rc C R own bs ml Z n0 ce sl pc Ls (.int y :: .int x :: rest) h Ds) (hd : decode bs pc = .ok (.ixor, 1)) (hp : pc + 1 = pc') : Rc C R own bs ml Z n0 ce sl pc' Ls (.int (x ^^^ y) :: rest) h Ds := by
  subst hp
  exact H.go fun T t hA hx hby kk => XS.ixor hA hx rfl (hb hby hd) rfl kk
theorem Rc.lxor {pc' : Nat} {x y : Int64} (H : Rc C R own bs ml Z n0 ce sl pc Ls (.long y :: .long x :: rest) h Ds) (hd : decode bs pc = .ok (.lxor, 1)) (hp : pc + 1 = pc') : Rc C R own bs ml Z n0 ce sl pc' Ls (.long (x ^^^ y) :: rest) h Ds := by
  subst hp
  exact H.go fun T t hA hx hby kk => XS.lxor hA hx rfl (hb hby hd) rfl kk
theorem Rc.ishl {pc' : Nat} {x : Int32} {y : Int32} (H : Rc C R own bs ml Z n0 ce sl pc Ls (.int y :: .int x :: rest) h Ds) (hd : decode bs pc = .ok (.ishl, 1)) (hp : pc + 1 = pc') : Rc C R own bs ml Z n0 ce sl pc' Ls (.int (x <<< (y &&& 31)) :: rest) h Ds := by
  subst hp
  exact H.go fun T t hA hx hby kk => XS.ishl hA hx rfl (hb hby hd) rfl kk
theorem Rc.ishr {pc' : Nat} {x : Int32} {y : Int32} (H : Rc C R own bs ml Z n0 ce sl pc Ls (.int y :: .int x :: rest) h Ds) (hd : decode bs pc = .ok (.ishr, 1)) (hp : pc + 1 = pc') : Rc C R own bs ml Z n0 ce sl pc' Ls (.int (x >>> (y &&& 31)) :: rest) h Ds := by
  subst hp
  exact H.go fun T t hA hx hby kk => XS.ishr hA hx rfl (hb hby hd) rfl kk
theorem Rc.iushr {pc' : Nat} {x : Int32} {y : Int32} (H : Rc C R own bs ml Z n0 ce sl pc Ls (.int y :: .int x :: rest) h Ds) (hd : decode bs pc = .ok (.iushr, 1)) (hp : pc + 1 = pc') : Rc C R own bs ml Z n0 ce sl pc' Ls (.int ((x.toUInt32 >>> (y &&& 31).toUInt32).toInt32) :: rest) h Ds := by
  subst hp
  exact H.go fun T t hA hx hby kk => XS.iushr hA hx rfl (hb hby hd) rfl kk
theorem Rc.lshl {pc' : Nat} {x : Int64} {y : Int32} (H : Rc C R own bs ml Z n0 ce sl pc Ls (.int y :: .long x :: rest) h Ds) (hd : decode bs pc = .ok (.lshl, 1)) (hp : pc + 1 = pc') : Rc C R own bs ml Z n0 ce sl pc' Ls (.long (x <<< (y &&& 0x3f).toInt64) :: rest) h Ds := by
  subst hp
  exact H.go fun T t hA hx hby kk => XS.lshl hA hx rfl (hb hby hd) rfl kk
theorem Rc.lshr {pc' : Nat} {x : Int64} {y : Int32} (H : Rc C R own bs ml Z n0 ce sl pc Ls (.int y :: .long x :: rest) h Ds) (hd : decode bs pc = .ok (.lshr, 1)) (hp : pc + 1 = pc') : Rc C R own bs ml Z n0 ce sl pc' Ls (.long (x >>> (y &&& 0x3f).toInt64) :: rest) h Ds := by
  subst hp
  exact H.go fun T t hA hx hby kk => XS.lshr hA hx rfl (hb hby hd) rfl kk
theorem Rc.lushr {pc' : Nat} {x : Int64} {y : Int32} (H : Rc C R own bs ml Z n0 ce sl pc Ls (.int y :: .long x :: rest) h Ds) (hd : decode bs pc = .ok (.lushr, 1)) (hp : pc + 1 = pc') : Rc C R own bs ml Z n0 ce sl pc' Ls (.long ((x.toUInt64 >>> (y &&& 0x3f).toInt64.toUInt64).toInt64) :: rest) h Ds := by
  subst hp
  exact H.go fun T t hA hx hby kk => XS.lushr hA hx rfl (hb hby hd) rfl kk
theorem Rc.ineg {pc' : Nat} {x : Int32} (H : Rc C R own bs ml Z n0 ce sl pc Ls (.int x :: rest) h Ds) (hd : decode bs pc = .ok (.ineg, 1)) (hp : pc + 1 = pc') : Rc C R own bs ml Z n0 ce sl pc' Ls (.int (-x) :: rest) h Ds := by
  subst hp
  exact H.go fun T t hA hx hby kk => XS.ineg hA hx rfl (hb hby hd) rfl kk
theorem Rc.lneg {pc' : Nat} {x : Int64} (H : Rc C R own bs ml Z n0 ce sl pc Ls (.long x :: rest) h Ds) (hd : decode bs pc = .ok (.lneg, 1)) (hp : pc + 1 = pc') : Rc C R own bs ml Z n0 ce sl pc' Ls (.long (-x) :: rest) h Ds := by
  subst hp
  exact H.go fun T t hA hx hby kk => XS.lneg hA hx rfl (hb hby hd) rfl kk
theorem Rc.i2l {pc' : Nat} {x : Int32} (H : Rc C R own bs ml Z n0 ce sl pc Ls (.int x :: rest) h Ds) (hd : decode bs pc = .ok (.i2l, 1)) (hp : pc + 1 = pc') : Rc C R own bs ml Z n0 ce sl pc' Ls (.long x.toInt64 :: rest) h Ds := by
  subst hp
  exact H.go fun T t hA hx hby kk => XS.i2l hA hx rfl (hb hby hd) rfl kk
theorem Rc.l2i {pc' : Nat} {x : Int64} (H : Rc C R own bs ml Z n0 ce sl pc Ls (.long x :: rest) h Ds) (hd : decode bs pc = .ok (.l2i, 1)) (hp : pc + 1 = pc') : Rc C R own bs ml Z n0 ce sl pc' Ls (.int x.toInt32 :: rest) h Ds := by
  subst hp
  exact H.go fun T t hA hx hby kk => XS.l2i hA hx rfl (hb hby hd) rfl kk
theorem Rc.i2b {pc' : Nat} {x : Int32} (H : Rc C R own bs ml Z n0 ce sl pc Ls (.int x :: rest) h Ds) (hd : decode bs pc = .ok (.i2b, 1)) (hp : pc + 1 = pc') : Rc C R own bs ml Z n0 ce sl pc' Ls (.int x.toInt8.toInt32 :: rest) h Ds := by
  subst hp
  exact H.go fun T t hA hx hby kk => XS.i2b hA hx rfl (hb hby hd) rfl kk
theorem Rc.i2s {pc' : Nat} {x : Int32} (H : Rc C R own bs ml Z n0 ce sl pc Ls (.int x :: rest) h Ds) (hd : decode bs pc = .ok (.i2s, 1)) (hp : pc + 1 = pc') : Rc C R own bs ml Z n0 ce sl pc' Ls (.int x.toInt16.toInt32 :: rest) h Ds := by
  subst hp
  exact H.go fun T t hA hx hby kk => XS.i2s hA hx rfl (hb hby hd) rfl kk
theorem Rc.i2c {pc' : Nat} {x : Int32} (H : Rc C R own bs ml Z n0 ce sl pc Ls (.int x :: rest) h Ds) (hd : decode bs pc = .ok (.i2c, 1)) (hp : pc + 1 = pc') : Rc C R own bs ml Z n0 ce sl pc' Ls (.int x.toUInt32.toUInt16.toUInt32.toInt32 :: rest) h Ds := by
  subst hp
  exact H.go fun T t hA hx hby kk => XS.i2c hA hx rfl (hb hby hd) rfl kk
theorem Rc.lcmp {pc' : Nat} {x y : Int64} (H : Rc C R own bs ml Z n0 ce sl pc Ls (.long y :: .long x :: rest) h Ds) (hd : decode bs pc = .ok (.lcmp, 1)) (hp : pc + 1 = pc') : Rc C R own bs ml Z n0 ce sl pc' Ls (.int (lcmpW x y) :: rest) h Ds := by
  subst hp
  exact H.go fun T t hA hx hby kk => XS.lcmp hA hx rfl (hb hby hd) rfl kk
theorem Rc.idiv {pc' : Nat} {x y : Int32} (H : Rc C R own bs ml Z n0 ce sl pc Ls (.int y :: .int x :: rest) h Ds) (hd : decode bs pc = .ok (.idiv, 1)) (hy : y ≠ 0) (hp : pc + 1 = pc') : Rc C R own bs ml Z n0 ce sl pc' Ls (.int (x / y) :: rest) h Ds := by
  subst hp
  exact H.go fun T t hA hx hby kk => XS.idiv hA hx rfl (hb hby hd) rfl hy kk
theorem Rc.dup {pc' : Nat} {x : Value} (H : Rc C R own bs ml Z n0 ce sl pc Ls (x :: rest) h Ds) (hd : decode bs pc = .ok (.dup, 1)) (hc : x.category = 1) (hp : pc + 1 = pc') : Rc C R own bs ml Z n0 ce sl pc' Ls (x :: x :: rest) h Ds := by
  subst hp
  exact H.go fun T t hA hx hby kk => XS.dup hA hx rfl (hb hby hd) rfl hc kk
theorem Rc.pop {pc' : Nat} {x : Value} (H : Rc C R own bs ml Z n0 ce sl pc Ls (x :: rest) h Ds) (hd : decode bs pc = .ok (.pop, 1)) (hc : x.category = 1) (hp : pc + 1 = pc') : Rc C R own bs ml Z n0 ce sl pc' Ls rest h Ds := by
  subst hp
  exact H.go fun T t hA hx hby kk => XS.pop hA hx rfl (hb hby hd) rfl hc kk
theorem Rc.dupX1 {pc' : Nat} {x y : Value} (H : Rc C R own bs ml Z n0 ce sl pc Ls (x :: y :: rest) h Ds) (hd : decode bs pc = .ok (.dup_x1, 1)) (hc : x.category = 1) (hc' : y.category = 1) (hp : pc + 1 = pc') : Rc C R own bs ml Z n0 ce sl pc' Ls (x :: y :: x :: rest) h Ds := by
  subst hp
  exact H.go fun T t hA hx hby kk => XS.dupX1 hA hx rfl (hb hby hd) rfl hc hc' kk
theorem Rc.iinc {pc' : Nat} {k : Nat} {cst : Int} {x : Int32} {l' : Array Slot} (H : Rc C R own bs ml Z n0 ce sl pc Ls S h Ds) (hd : decode bs pc = .ok (.iinc k cst, 3)) (hl : Ls[k]? = some (.val (.int x))) (hl' : storeLocals Ls k (.int (x + Int32.ofInt cst)) = some l') (hp : pc + 3 = pc') : Rc C R own bs ml Z n0 ce sl pc' l' S h Ds := by
  subst hp
  exact H.go fun T t hA hx hby kk => XS.iinc hA hx rfl (hb hby hd) hl hl' kk
theorem Rc.irem {pc' : Nat} {x y : Int32} (H : Rc C R own bs ml Z n0 ce sl pc Ls (.int y :: .int x :: rest) h Ds) (hd : decode bs pc = .ok (.irem, 1)) (hy : y ≠ 0) (hp : pc + 1 = pc') : Rc C R own bs ml Z n0 ce sl pc' Ls (.int (x % y) :: rest) h Ds := by
  subst hp
  exact H.goX fun s T locs t X hZ hown eT hx hby kk => iremM X hx rfl (hb hby hd) rfl hy kk
theorem Rc.goto {pc' : Nat} {o : Int} (H : Rc C R own bs ml Z n0 ce sl pc Ls S h Ds) (hd : decode bs pc = .ok (.goto o, 3)) (ho : 0 ≤ (pc : Int) + o) (hp : ((pc : Int) + o).toNat = pc') : Rc C R own bs ml Z n0 ce sl pc' Ls S h Ds :=
  H.go fun T t hA hx hby kk => XS.goto hA hx rfl (pc0 := pc) rfl (hb hby hd) ho hp kk
theorem Rc.ifY {pc' : Nat} {o : Int} {cd : ClassFile.Cond} {x : Int32} (H : Rc C R own bs ml Z n0 ce sl pc Ls (.int x :: rest) h Ds) (hd : decode bs pc = .ok (.ifCond cd o, 3)) (hc : if_icmp.holds cd x 0 = true) (ho : 0 ≤ (pc : Int) + o) (hp : ((pc : Int) + o).toNat = pc') : Rc C R own bs ml Z n0 ce sl pc' Ls rest h Ds :=
  H.go fun T t hA hx hby kk => XS.ifYes hA hx rfl (pc0 := pc) rfl (hb hby hd) rfl ((if0 _ _).trans hc) ho hp kk
theorem Rc.ifN {pc' : Nat} {o : Int} {cd : ClassFile.Cond} {x : Int32} (H : Rc C R own bs ml Z n0 ce sl pc Ls (.int x :: rest) h Ds) (hd : decode bs pc = .ok (.ifCond cd o, 3)) (hc : if_icmp.holds cd x 0 = false) (hp : pc + 3 = pc') : Rc C R own bs ml Z n0 ce sl pc' Ls rest h Ds := by
  subst hp
  exact H.go fun T t hA hx hby kk => XS.ifNo hA hx rfl (hb hby hd) rfl ((if0 _ _).trans hc) kk
theorem Rc.icmpY {pc' : Nat} {o : Int} {cd : ClassFile.Cond} {x y : Int32} (H : Rc C R own bs ml Z n0 ce sl pc Ls (.int y :: .int x :: rest) h Ds) (hd : decode bs pc = .ok (.if_icmp cd o, 3)) (hc : if_icmp.holds cd x y = true) (ho : 0 ≤ (pc : Int) + o) (hp : ((pc : Int) + o).toNat = pc') : Rc C R own bs ml Z n0 ce sl pc' Ls rest h Ds :=
  H.go fun T t hA hx hby kk => XS.icmpYes hA hx rfl (pc0 := pc) rfl (hb hby hd) rfl hc ho hp kk
theorem Rc.icmpN {pc' : Nat} {o : Int} {cd : ClassFile.Cond} {x y : Int32} (H : Rc C R own bs ml Z n0 ce sl pc Ls (.int y :: .int x :: rest) h Ds) (hd : decode bs pc = .ok (.if_icmp cd o, 3)) (hc : if_icmp.holds cd x y = false) (hp : pc + 3 = pc') : Rc C R own bs ml Z n0 ce sl pc' Ls rest h Ds := by
  subst hp
  exact H.go fun T t hA hx hby kk => XS.icmpNo hA hx rfl (hb hby hd) rfl hc kk
theorem Rc.ifnullY {pc' : Nat} {o : Int} (H : Rc C R own bs ml Z n0 ce sl pc Ls (.null :: rest) h Ds) (hd : decode bs pc = .ok (.ifnull o, 3)) (ho : 0 ≤ (pc : Int) + o) (hp : ((pc : Int) + o).toNat = pc') : Rc C R own bs ml Z n0 ce sl pc' Ls rest h Ds :=
  H.go fun T t hA hx hby kk => XS.ifnullYes hA hx rfl (pc0 := pc) rfl (hb hby hd) rfl ho hp kk
theorem Rc.ifnullN {pc' : Nat} {b : Addr} {o : Int} (H : Rc C R own bs ml Z n0 ce sl pc Ls (.ref b :: rest) h Ds) (hd : decode bs pc = .ok (.ifnull o, 3)) (hp : pc + 3 = pc') : Rc C R own bs ml Z n0 ce sl pc' Ls rest h Ds := by
  subst hp
  exact H.go fun T t hA hx hby kk => XS.ifnullNo hA hx rfl (hb hby hd) rfl kk
theorem Rc.ifnonnullY {pc' : Nat} {b : Addr} {o : Int} (H : Rc C R own bs ml Z n0 ce sl pc Ls (.ref b :: rest) h Ds) (hd : decode bs pc = .ok (.ifnonnull o, 3)) (ho : 0 ≤ (pc : Int) + o) (hp : ((pc : Int) + o).toNat = pc') : Rc C R own bs ml Z n0 ce sl pc' Ls rest h Ds :=
  H.go fun T t hA hx hby kk => XS.ifnonnullYes hA hx rfl (pc0 := pc) rfl (hb hby hd) rfl ho hp kk
theorem Rc.ifnonnullN {pc' : Nat} {o : Int} (H : Rc C R own bs ml Z n0 ce sl pc Ls (.null :: rest) h Ds) (hd : decode bs pc = .ok (.ifnonnull o, 3)) (hp : pc + 3 = pc') : Rc C R own bs ml Z n0 ce sl pc' Ls rest h Ds := by
  subst hp
  exact H.go fun T t hA hx hby kk => XS.ifnonnullNo hA hx rfl (hb hby hd) rfl kk
theorem Rc.acmp {pc' : Nat} {o : Int} {cd : ACond} {x y : Value} {same : Bool} (H : Rc C R own bs ml Z n0 ce sl pc Ls (y :: x :: rest) h Ds) (hd : decode bs pc = .ok (.if_acmp cd o, 3)) (h1 : x.isRef = true) (h2 : y.isRef = true) (hq : decide (x = y) = same) (ho : 0 ≤ (pc : Int) + o) (hp : pc' = if acV cd same = true then ((pc : Int) + o).toNat else pc + 3) : Rc C R own bs ml Z n0 ce sl pc' Ls rest h Ds :=
  H.goX fun s T locs t X hZ hown eT hx hby kk => Jvm.RoadKit.acmp X hx rfl h1 h2 (pc0 := pc) rfl (hb hby hd) rfl hq ho hp kk

theorem own_ws1 {a : Addr} {Ds : List Addr} (ha : a ∈ Ds) : ∀ x ∈ [a], x ∈ Ds := fun x hx => by rw [List.mem_singleton.mp hx]; exact ha
theorem Rc.getF {pc' : Nat} {a : Addr} {v : Value} {R0 O n d host : String} {idx : Nat} (H : Rc C R own bs ml Z n0 ce sl pc Ls (.ref a :: rest) h Ds) (w : (Jvm.Cond.fieldLink own idx R0 n d).before a0 Z = true ∨ (Jvm.Cond.fieldLinkNest own idx R0 n d host).before a0 Z = true) (via : Via Z R0 O n d) (F : Fld Z h a O n d v) (hd : decode bs pc = .ok (.getfield idx, 3)) (hp : pc + 3 = pc') : Rc C R own bs ml Z n0 ce sl pc' Ls (v :: rest) h Ds := by
  subst hp
  obtain ⟨T, locs, vm0, k0, X, h1, h2, h3, h4, h5, h6, h7, k⟩ := H
  obtain ⟨T', X', e', st⟩ := RoadKit.getF X h7.1 (Z := Z) h3 h7.2.2.2.1 w via h5 F (g := mkF C.m pc Ls (.ref a :: rest)) rfl rfl (hb h7.2.1 hd)
  exact ⟨T', locs, vm0, k0, X', h1, h2, h3, h4, e', h6, h7, fun t ht => k _ (st _ ht)⟩
theorem Rc.getS {pc' : Nat} {v : Value} {R0 O n d host : String} {idx : Nat} (H : Rc C R own bs ml Z n0 ce sl pc Ls S h Ds) (w : (Jvm.Cond.fieldLink own idx R0 n d).before a0 Z = true ∨ (Jvm.Cond.fieldLinkNest own idx R0 n d host).before a0 Z = true) (via : Via Z R0 O n d) (F : Sta Z Z.heap O n d v) (hd : decode bs pc = .ok (.getstatic idx, 3)) (hp : pc + 3 = pc') : Rc C R own bs ml Z n0 ce sl pc' Ls (v :: S) h Ds := by
  subst hp
  obtain ⟨T, locs, vm0, k0, X, h1, h2, h3, h4, h5, h6, h7, k⟩ := H
  obtain ⟨T', X', e', st⟩ := getS2 X h7.1 (Z := Z) h3 h7.2.2.2.1 w via h5 (F.ext h4.1.2) (g := mkF C.m pc Ls S) rfl (hb h7.2.1 hd)
  exact ⟨T', locs, vm0, k0, X', h1, h2, h3, h4, e', h6, h7, fun t ht => k _ (st _ ht)⟩
theorem Rc.putF {pc' : Nat} {a : Addr} {v old : Value} {R0 O n d host Cc : String} {idx kk : Nat} {ty : FieldType} (H : Rc C R own bs ml Z n0 ce sl pc Ls (v :: .ref a :: rest) h Ds) (w : (Jvm.Cond.fieldLink own idx R0 n d).before a0 Z = true ∨ (Jvm.Cond.fieldLinkNest own idx R0 n d host).before a0 Z = true) (via : Via Z R0 O n d) (F : Fld Z h a O n d old) (E : Exa Z h a Cc)
    (L : (Jvm.Cond.lays Cc O n d).before a0 Z = true ∨ ((Jvm.Cond.laysFinal Cc O n d).before a0 Z = true ∧ own = O ∧ C.meth.name = "<init>")) (wi : (Jvm.Cond.instantiable Cc kk).before a0 Z = true) (hty : parseFieldDescriptor d = some ty) (hn : narrow ty v = v) (hf : fits ty v = true) (ha : a ∈ Ds) (hd : decode bs pc = .ok (.putfield idx, 3)) (hp : pc + 3 = pc') :
    ∃ h', Wr h h' a (RoadKit.slotOf Z O n d) v ∧ Rc C R own bs ml Z n0 ce sl pc' Ls rest h' Ds := by
  subst hp
  obtain ⟨T, locs, vm0, k0, X, h1, h2, h3, h4, h5, h6, h7, k⟩ := H
  obtain ⟨T', h', X', e', W', st⟩ := RoadKit.putF X h7.1 (Z := Z) h3 h7.2.2.2.1 w via h5 F E L wi hty hn hf (g := mkF C.m pc Ls (v :: .ref a :: rest)) rfl rfl (hb h7.2.1 hd)
  exact ⟨h', W', T', _, vm0, k0, X', h1, by rw [W'.size]; exact h2, h3, h4.keep (Keep.of_wr W') (own_ws1 ha), e', Fr.snoc X' h6 (h4.2.2.1 a ha).1, h7, fun t ht => k _ (st _ ht)⟩
theorem Rc.putFN {pc' : Nat} {a : Addr} {v v' old : Value} {R0 O n d Cc : String} {idx kk : Nat} {ty : FieldType} (H : Rc C R own bs ml Z n0 ce sl pc Ls (v :: .ref a :: rest) h Ds) (w : (Jvm.Cond.fieldLink own idx R0 n d).before a0 Z = true) (via : Via Z R0 O n d) (F : Fld Z h a O n d old) (E : Exa Z h a Cc)
    (L : (Jvm.Cond.lays Cc O n d).before a0 Z = true ∨ ((Jvm.Cond.laysFinal Cc O n d).before a0 Z = true ∧ own = O ∧ C.meth.name = "<init>")) (wi : (Jvm.Cond.instantiable Cc kk).before a0 Z = true) (hty : parseFieldDescriptor d = some ty) (hn : narrow ty v = v') (hf : fits ty v' = true) (ha : a ∈ Ds) (hd : decode bs pc = .ok (.putfield idx, 3)) (hp : pc + 3 = pc') :
    ∃ h', Wr h h' a (RoadKit.slotOf Z O n d) v' ∧ Rc C R own bs ml Z n0 ce sl pc' Ls rest h' Ds := by
  subst hp
  obtain ⟨T, locs, vm0, k0, X, h1, h2, h3, h4, h5, h6, h7, k⟩ := H
  obtain ⟨T', h', X', e', W', st⟩ := RoadKit.putFN X h7.1 (Z := Z) h3 h7.2.2.2.1 w via h5 F E L wi hty hn hf (g := mkF C.m pc Ls (v :: .ref a :: rest)) rfl rfl (hb h7.2.1 hd)
  exact ⟨h', W', T', _, vm0, k0, X', h1, by rw [W'.size]; exact h2, h3, h4.keep (Keep.of_wr W') (own_ws1 ha), e', Fr.snoc X' h6 (h4.2.2.1 a ha).1, h7, fun t ht => k _ (st _ ht)⟩
theorem Rc.newO {pc' : Nat} {Cc : String} {idx n : Nat} (H : Rc C R own bs ml Z n0 ce sl pc Ls S h Ds) (w : (Jvm.Cond.classLink own idx Cc).before a0 Z = true) (wi : (Jvm.Cond.instantiable Cc n).before a0 Z = true) (wz : (Jvm.Cond.initialized Cc).before a0 Z = true) (hd : decode bs pc = .ok (.new idx, 3)) (hc : ce + 1 ≤ R.cells) (hl : sl + n ≤ R.slots) (hp : pc + 3 = pc') :
    ∃ (h' : Heap) (b : Addr), b = h.size ∧ Ext h h' ∧ Exa Z h' b Cc ∧ (∀ {O nm d : String} {ty : FieldType}, Laid Z a0 Cc O nm d → parseFieldDescriptor d = some ty → Fld Z h' b O nm d (defaultValue ty)) ∧ Rc C R own bs ml Z n0 (ce + 1) (sl + n) pc' Ls (.ref b :: S) h' (b :: Ds) := by
  subst hp
  obtain ⟨T, locs, vm0, k0, X, h1, h2, h3, h4, h5, h6, h7, k⟩ := H
  obtain ⟨T', h', X', e', E', A', D', -, st⟩ := RoadKit.newO X h7.1 (Z := Z) h3 h7.2.2.2.1 w wi wz h5 (g := mkF C.m pc Ls S) rfl (hb h7.2.1 hd) hc hl
  exact ⟨h', h.size, rfl, E', A', D', T', _, vm0, k0, X', h1, Nat.le_trans h2 E'.1, h3, h4.born E' A'.lt, e', h6, h7, fun t ht => k _ (st _ ht)⟩
theorem Rc.newP {pc' : Nat} {aty : ArrayType} {n : Int32} {cap : Nat} (H : Rc C R own bs ml Z n0 ce sl pc Ls (.int n :: rest) h Ds) (w : (Jvm.Cond.arrayClass (newarray.typeOf aty)).before a0 Z = true) (hd : decode bs pc = .ok (.newarray aty, 2)) (hn : ¬ n < 0) (hcap : n.toNatClampNeg ≤ cap) (hb' : cap * 8 ≤ 536870912) (hc : ce + 1 ≤ R.cells) (hl : sl + cap ≤ R.slots) (hp : pc + 2 = pc') :
    ∃ (h' : Heap) (b : Addr) (kA : ClassId), b = h.size ∧ Ext h h' ∧ Arv Z h' b kA (newarray.typeOf aty) n [] (defaultValue (newarray.typeOf aty)) ∧ Rc C R own bs ml Z n0 (ce + 1) (sl + cap) pc' Ls (.ref b :: rest) h' (b :: Ds) := by
  subst hp
  obtain ⟨T, locs, vm0, k0, X, h1, h2, h3, h4, h5, h6, h7, k⟩ := H
  obtain ⟨T', h', kA, X', e', E', A', st⟩ := RoadKit.newP X h7.1 (Z := Z) h3 w h5 (g := mkF C.m pc Ls (.int n :: rest)) rfl (hb h7.2.1 hd) rfl hn hcap hb' hc hl
  exact ⟨h', h.size, kA, rfl, E', Arv.new A' hn, T', _, vm0, k0, X', h1, Nat.le_trans h2 E'.1, h3, h4.born E' A'.lt, e', h6, h7, fun t ht => k _ (st _ ht)⟩
theorem Rc.castore {pc' : Nat} {a : Addr} {x j z : Int32} {kA : ClassId} {vs : List Value} {dv : Value} (H : Rc C R own bs ml Z n0 ce sl pc Ls (.int x :: .int j :: .ref a :: rest) h Ds) (V : Arv Z h a kA .char z vs dv) (hj : ¬ j < 0 ∧ j < z) (i : Nat) (hi : j.toNatClampNeg = i) (hl : i < vs.length) (ha : a ∈ Ds) (hd : decode bs pc = .ok (.castore, 1)) (hp : pc + 1 = pc') :
    ∃ h', Keep h h' [a] ∧ Arv Z h' a kA .char z (vs.set i (.int (nar .char x))) dv ∧ Rc C R own bs ml Z n0 ce sl pc' Ls rest h' Ds := by
  subst hp
  obtain ⟨T, locs, vm0, k0, X, h1, h2, h3, h4, h5, h6, h7, k⟩ := H
  obtain ⟨cl, Ar, q1, q2, q3, q4, q5⟩ := V
  obtain ⟨T', h', X', e', W', st⟩ := stC X h7.1 (Z := Z) h3 h5 Ar (j := j) (inb_of q2 hj) (g := mkF C.m pc Ls (.int x :: .int j :: .ref a :: rest)) rfl rfl (hb h7.2.1 hd)
  exact ⟨h', Keep.of_wr W', Arv.set Ar q1 q2 q3 q4 q5 (fits_nar_char _) W' i hi hl, T', _, vm0, k0, X', h1, by rw [W'.size]; exact h2, h3, h4.keep (Keep.of_wr W') (own_ws1 ha), e', Fr.snoc X' h6 (h4.2.2.1 a ha).1, h7, fun t ht => k _ (st _ ht)⟩
theorem Rc.bastore {pc' : Nat} {a : Addr} {x j z : Int32} {kA : ClassId} {vs : List Value} {dv : Value} (H : Rc C R own bs ml Z n0 ce sl pc Ls (.int x :: .int j :: .ref a :: rest) h Ds) (V : Arv Z h a kA .byte z vs dv) (hj : ¬ j < 0 ∧ j < z) (i : Nat) (hi : j.toNatClampNeg = i) (hl : i < vs.length) (ha : a ∈ Ds) (hd : decode bs pc = .ok (.bastore, 1)) (hp : pc + 1 = pc') :
    ∃ h', Keep h h' [a] ∧ Arv Z h' a kA .byte z (vs.set i (.int (nar .byte x))) dv ∧ Rc C R own bs ml Z n0 ce sl pc' Ls rest h' Ds := by
  subst hp
  obtain ⟨T, locs, vm0, k0, X, h1, h2, h3, h4, h5, h6, h7, k⟩ := H
  obtain ⟨cl, Ar, q1, q2, q3, q4, q5⟩ := V
  obtain ⟨T', h', X', e', W', st⟩ := stB X h7.1 (Z := Z) h3 h5 Ar (j := j) (inb_of q2 hj) (g := mkF C.m pc Ls (.int x :: .int j :: .ref a :: rest)) rfl rfl (hb h7.2.1 hd)
  exact ⟨h', Keep.of_wr W', Arv.set Ar q1 q2 q3 q4 q5 (fits_nar_byte _) W' i hi hl, T', _, vm0, k0, X', h1, by rw [W'.size]; exact h2, h3, h4.keep (Keep.of_wr W') (own_ws1 ha), e', Fr.snoc X' h6 (h4.2.2.1 a ha).1, h7, fun t ht => k _ (st _ ht)⟩
theorem Rc.caload {pc' : Nat} {a : Addr} {j z : Int32} {v : Value} {kA : ClassId} {vs : List Value} {dv : Value} (H : Rc C R own bs ml Z n0 ce sl pc Ls (.int j :: .ref a :: rest) h Ds) (V : Arv Z h a kA .char z vs dv) (hj : ¬ j < 0 ∧ j < z) (hv : vs.getD j.toNatClampNeg dv = v) (hd : decode bs pc = .ok (.caload, 1)) (hp : pc + 1 = pc') : Rc C R own bs ml Z n0 ce sl pc' Ls (v :: rest) h Ds := by
  subst hp
  obtain ⟨cl, Ar, q1, q2, q3, q4, q5⟩ := V
  exact H.goX fun s T locs t X hZ hown eT hx hby kk => X.caload hx (j := j) (v := v) (by rw [eT]; exact Ar.1) (State.isArrayOf_alike hZ.alike Ar.2.1) Ar.2.2 (inb_of q2 hj) (q4.at (inb_of q2 hj) hv) (g := mkF C.m pc Ls (.int j :: .ref a :: rest)) rfl rfl (hb hby hd) _ kk
theorem Rc.baload {pc' : Nat} {a : Addr} {j z : Int32} {v : Value} {kA : ClassId} {vs : List Value} {dv : Value} (H : Rc C R own bs ml Z n0 ce sl pc Ls (.int j :: .ref a :: rest) h Ds) (V : Arv Z h a kA .byte z vs dv) (hj : ¬ j < 0 ∧ j < z) (hv : vs.getD j.toNatClampNeg dv = v) (hd : decode bs pc = .ok (.baload, 1)) (hp : pc + 1 = pc') : Rc C R own bs ml Z n0 ce sl pc' Ls (v :: rest) h Ds := by
  subst hp
  obtain ⟨cl, Ar, q1, q2, q3, q4, q5⟩ := V
  exact H.goX fun s T locs t X hZ hown eT hx hby kk => X.baloadBytes hx (j := j) (v := v) (by rw [eT]; exact Ar.1) (State.isArrayOf_alike hZ.alike Ar.2.1) Ar.2.2 (inb_of q2 hj) (q4.at (inb_of q2 hj) hv) (g := mkF C.m pc Ls (.int j :: .ref a :: rest)) rfl rfl (hb hby hd) _ kk
theorem Rc.aaload {pc' : Nat} {a : Addr} {j z : Int32} {v : Value} {kA : ClassId} {ty : FieldType} {vs : List Value} {dv : Value} (H : Rc C R own bs ml Z n0 ce sl pc Ls (.int j :: .ref a :: rest) h Ds) (V : Arv Z h a kA ty z vs dv) (hty : ty.isReference = true) (hj : ¬ j < 0 ∧ j < z) (hv : vs.getD j.toNatClampNeg dv = v) (hd : decode bs pc = .ok (.aaload, 1)) (hp : pc + 1 = pc') : Rc C R own bs ml Z n0 ce sl pc' Ls (v :: rest) h Ds := by
  subst hp
  obtain ⟨cl, Ar, q1, q2, q3, q4, q5⟩ := V
  exact H.goX fun s T locs t X hZ hown eT hx hby kk => X.aaload hx (j := j) (v := v) (by rw [eT]; exact Ar.1) (State.isArrayOf_alike hZ.alike Ar.2.1) hty Ar.2.2 (inb_of q2 hj) (q4.at (inb_of q2 hj) hv) (g := mkF C.m pc Ls (.int j :: .ref a :: rest)) rfl rfl (hb hby hd) _ kk
theorem Rc.arraylength {pc' : Nat} {a : Addr} {z : Int32} {kA : ClassId} {ty : FieldType} {vs : List Value} {dv : Value} (H : Rc C R own bs ml Z n0 ce sl pc Ls (.ref a :: rest) h Ds) (V : Arv Z h a kA ty z vs dv) (hd : decode bs pc = .ok (.arraylength, 1)) (hp : pc + 1 = pc') : Rc C R own bs ml Z n0 ce sl pc' Ls (.int z :: rest) h Ds := by
  subst hp
  obtain ⟨cl, Ar, q1, q2, q3, q4, q5⟩ := V
  have e := len_of q2 q3
  exact H.goX fun s T locs t X hZ hown eT hx hby kk => X.arraylength hx (by rw [eT]; exact Ar.1) (State.isArrayOf_alike hZ.alike Ar.2.1) (g := mkF C.m pc Ls (.ref a :: rest)) rfl rfl (hb hby hd) _ (by rw [e]; exact kk)
theorem Rc.initO {pc' : Nat} {a : Addr} {idx W : Nat} (H : Rc C R own bs ml Z n0 ce sl pc Ls (.ref a :: rest) h Ds) (w1 : (Jvm.Cond.methodLink own idx Lib.objectInit).before a0 Z = true) (w2 : (Jvm.Cond.instanceMethod Lib.objectInit).before a0 Z = true) (w3 : (Jvm.Cond.code Lib.objectInit ⟨#[0xb1]⟩ 1 none).before a0 Z = true) (hsz : Ls.size = ml) (hd : decode bs pc = .ok (.invokespecial idx, 3)) (hf : 1 ≤ R.frames) (hW : (rest.map fun v => v.category).sum = W) (hl : W + 12 ≤ R.locals) (hp : pc + 3 = pc') : Rc C R own bs ml Z n0 ce sl pc' Ls rest h Ds := by
  subst hp
  obtain ⟨T, locs, vm0, k0, X, h1, h2, h3, h4, h5, h6, h7, k⟩ := H
  obtain ⟨T', X', e', st⟩ := RoadKit.initO X h7.1 (Z := Z) h3 h7.2.2.2.1 w1 w2 w3 h5 (g := mkF C.m pc Ls (.ref a :: rest)) rfl (hsz.trans h7.2.2.1.symm) rfl (hb h7.2.1 hd) hf (W := W) (by show 2 * 0 + _ ≤ _; omega) hl
  exact ⟨T', locs, vm0, k0, X', h1, h2, h3, h4, e', h6, h7, fun t ht => k _ (st _ ht)⟩
theorem Rc.castY {pc' : Nat} {a : Addr} {K : String} {idx : Nat} (H : Rc C R own bs ml Z n0 ce sl pc Ls (.ref a :: rest) h Ds) (w : (Jvm.Cond.classLink own idx K).before a0 Z = true) (F : Ins Z h a K true) (hd : decode bs pc = .ok (.checkcast idx, 3)) (hp : pc + 3 = pc') : Rc C R own bs ml Z n0 ce sl pc' Ls (.ref a :: rest) h Ds := by
  subst hp
  obtain ⟨T, locs, vm0, k0, X, h1, h2, h3, h4, h5, h6, h7, k⟩ := H
  obtain ⟨T', X', e', st⟩ := RoadKit.castY X h7.1 (Z := Z) h3 h7.2.2.2.1 w h5 F (g := mkF C.m pc Ls (.ref a :: rest)) rfl rfl (hb h7.2.1 hd)
  exact ⟨T', locs, vm0, k0, X', h1, h2, h3, h4, e', h6, h7, fun t ht => k _ (st _ ht)⟩
theorem Rc.castNull {pc' : Nat} {idx : Nat} (H : Rc C R own bs ml Z n0 ce sl pc Ls (.null :: rest) h Ds) (hd : decode bs pc = .ok (.checkcast idx, 3)) (hp : pc + 3 = pc') : Rc C R own bs ml Z n0 ce sl pc' Ls (.null :: rest) h Ds := by
  subst hp
  exact H.goX fun s T locs t X hZ hown eT hx hby kk => X.checkcastNull hx (g := mkF C.m pc Ls (.null :: rest)) rfl rfl (hb hby hd) _ kk
theorem Rc.instNull {pc' : Nat} {idx : Nat} (H : Rc C R own bs ml Z n0 ce sl pc Ls (.null :: rest) h Ds) (hd : decode bs pc = .ok (.instanceof idx, 3)) (hp : pc + 3 = pc') : Rc C R own bs ml Z n0 ce sl pc' Ls (.int 0 :: rest) h Ds := by
  subst hp
  exact H.goX fun s T locs t X hZ hown eT hx hby kk => X.instanceofNull hx (g := mkF C.m pc Ls (.null :: rest)) rfl rfl (hb hby hd) _ kk
theorem Rc.instY {pc' : Nat} {a : Addr} {K : String} {idx : Nat} (H : Rc C R own bs ml Z n0 ce sl pc Ls (.ref a :: rest) h Ds) (w : (Jvm.Cond.classLink own idx K).before a0 Z = true) (F : Ins Z h a K true) (hd : decode bs pc = .ok (.instanceof idx, 3)) (hp : pc + 3 = pc') : Rc C R own bs ml Z n0 ce sl pc' Ls (.int 1 :: rest) h Ds := by
  subst hp
  obtain ⟨T, locs, vm0, k0, X, h1, h2, h3, h4, h5, h6, h7, k⟩ := H
  obtain ⟨T', X', e', st⟩ := RoadKit.instY X h7.1 (Z := Z) h3 h7.2.2.2.1 w h5 F (g := mkF C.m pc Ls (.ref a :: rest)) rfl rfl (hb h7.2.1 hd)
  exact ⟨T', locs, vm0, k0, X', h1, h2, h3, h4, e', h6, h7, fun t ht => k _ (st _ ht)⟩
theorem Rc.instNo {pc' : Nat} {a : Addr} {K Cc : String} {idx : Nat} (H : Rc C R own bs ml Z n0 ce sl pc Ls (.ref a :: rest) h Ds) (w : (Jvm.Cond.classLink own idx K).before a0 Z = true) (E : Exa Z h a Cc) (F : ∃ c t, Z.vm.findClass Cc = some c ∧ Z.vm.findClass K = some t ∧ Z.vm.assignable c t = false) (hd : decode bs pc = .ok (.instanceof idx, 3)) (hp : pc + 3 = pc') : Rc C R own bs ml Z n0 ce sl pc' Ls (.int 0 :: rest) h Ds := by
  subst hp
  obtain ⟨T, locs, vm0, k0, X, h1, h2, h3, h4, h5, h6, h7, k⟩ := H
  obtain ⟨T', X', e', st⟩ := RoadKit.instNo X h7.1 (Z := Z) h3 h7.2.2.2.1 w h5 E F (g := mkF C.m pc Ls (.ref a :: rest)) rfl rfl (hb h7.2.1 hd)
  exact ⟨T', locs, vm0, k0, X', h1, h2, h3, h4, e', h6, h7, fun t ht => k _ (st _ ht)⟩
/-! calls by a contract -/
abbrev NoMH (y : MethodName) : Prop := y.cls ≠ "java/lang/invoke/MethodHandle" ∧ y.cls ≠ "java/lang/invoke/VarHandle"
theorem own_fin {Q : Option Value → Heap → List Addr → Prop} {T : State} {locs : List Loc} {vm0 : Vm} {k0 pc' : Nat} {g : JFrame} {rm : Room} {v : Option Value} {B : Pt} {rest : List Value}
    (h1 : C.s.Since vm0 k0) (h2 : k0 ≤ h.size) (h3 : Z.Warmed39 vm0) (h5 : T.heap = h) (h6 : Fr n0 locs) (h7 : C.p.tables.exec = Jvm.exec ∧ C.c.code = bs ∧ C.c.maxLocals = ml ∧ vm0.findClass own = some C.m.cls ∧ C.meth.locks = false)
    (k : ∀ t, Steps C.p.tables C.e C.below (T.setTop g) t → Steps C.p.tables C.e C.below C.s0 t)
    (X' : Stand C.p C.l C.e R ((C.s.setVm vm0).setVm B.U.vm) C.m C.args C.below C.meth C.c B.U B.locs B.cells B.slots) (hS' : (C.s.setVm vm0).Since B.U.vm B.U.heap.size) (hgr : T.heap.size ≤ B.U.heap.size)
    (hq : ∃ (L : List Loc) (Ds' : List Addr), Q v B.U.heap Ds' ∧ JJ Z n0 B.U.vm B.U.heap Ds' ∧ Fr n0 L ∧ B.locs = locs ++ L ∧ B.cells = ce + rm.cells ∧ B.slots = sl + rm.slots)
    (st : Steps C.p.tables C.e C.below (T.setTop g) (B.U.setTop (mkF C.m pc' Ls (v.toList ++ rest)))) :
    ∃ (v : Option Value) (h' : Heap) (Ds' : List Addr), Q v h' Ds' ∧ Rc C R own bs ml Z n0 (ce + rm.cells) (sl + rm.slots) pc' Ls (v.toList ++ rest) h' Ds' := by
  obtain ⟨L, Ds', hQ, hJ, hFr, e1, e2, e3⟩ := hq
  refine ⟨v, B.U.heap, Ds', hQ, B.U, B.locs, B.U.vm, B.U.heap.size, ?_, h1.trans hS' (by rw [h5] at hgr; exact Nat.le_trans h2 hgr), Nat.le_refl _, State.Warmed39.trans (t := C.s.setVm vm0) h3 hS'.1, hJ, rfl, ?_, ⟨h7.1, h7.2.1, h7.2.2.1, ?_, h7.2.2.2.2⟩, fun t ht => k _ (st.trans ht)⟩
  · rw [← e2, ← e3]; exact X'
  · rw [e1]; exact Fr.app h6 hFr
  · rw [hS'.1.alike.findClass]; exact h7.2.2.2.1
theorem Rc.callS {pc' : Nat} {y : MethodName} {idx ml' W : Nat} {by' : ByteArray} {ret' : Option FieldType} {rm : Room} {argsL : List Value} {Q : Option Value → Heap → List Addr → Prop} (H : Rc C R own bs ml Z n0 ce sl pc Ls S h Ds)
    (hlink : (Jvm.Cond.methodLink own idx y).before a0 Z = true) (hstat : (Jvm.Cond.static y).before a0 Z = true) (hinit : (Jvm.Cond.initialized y.cls).before a0 Z = true) (hcode : (Jvm.Cond.code y by' ml' ret').before a0 Z = true) (hy : NoMH y)
    (K : Ctr C.l Z y by' ml' ret' [] rm argsL.toArray h n0 Ds Q) (hsz : Ls.size = ml) (hlen : ∀ sig, parseMethodDescriptor y.desc = some sig → argsL.length = sig.parameters.length) (hst : S = argsL.reverse ++ rest) (hW : (rest.map fun v => v.category).sum = W)
    (hd : decode bs pc = .ok (.invokestatic idx, 3)) (hfr : rm.frames + 1 ≤ R.frames) (hlo : W + (ml' + 11) + rm.locals ≤ R.locals) (hce : ce + rm.cells ≤ R.cells) (hsl : sl + rm.slots ≤ R.slots) (hp : pc + 3 = pc') :
    ∃ (v : Option Value) (h' : Heap) (Ds' : List Addr), Q v h' Ds' ∧ Rc C R own bs ml Z n0 (ce + rm.cells) (sl + rm.slots) pc' Ls (v.toList ++ rest) h' Ds' := by
  subst hp hst
  obtain ⟨T, locs, vm0, k0, X, h1, h2, h3, h4, h5, h6, h7, k⟩ := H
  obtain ⟨v, vm₁, B, hw1, X', hS', hgr, hq, st⟩ := callSS X h7.1 h7.2.2.2.1 (mvT (s := C.s.setVm vm0) h3 hlink) (mvT (s := C.s.setVm vm0) h3 hstat) (mvT (s := C.s.setVm vm0) h3 hinit) (mvT (s := C.s.setVm vm0) h3 hcode) hy (ctrBack (s := C.s.setVm vm0) (W := W) K h3 h4 hcode hinit hfr hlo) (g := mkF C.m pc Ls (argsL.reverse ++ rest)) rfl (hsz.trans h7.2.2.1.symm) hlen rfl (by show 2 * 0 + _ ≤ _; omega) (hb h7.2.1 hd) (fun vm₁ hw => ⟨rfl, h5, hce, hsl⟩)
  exact own_fin h1 h2 h3 h5 h6 h7 k X' hS' hgr hq st
theorem Rc.callSN {pc' : Nat} {y : MethodName} {host : String} {idx ml' W : Nat} {by' : ByteArray} {ret' : Option FieldType} {rm : Room} {argsL : List Value} {Q : Option Value → Heap → List Addr → Prop} (H : Rc C R own bs ml Z n0 ce sl pc Ls S h Ds)
    (hlink : (Jvm.Cond.methodLinkNest own idx y host).before a0 Z = true) (hstat : (Jvm.Cond.static y).before a0 Z = true) (hinit : (Jvm.Cond.initialized y.cls).before a0 Z = true) (hcode : (Jvm.Cond.code y by' ml' ret').before a0 Z = true) (hy : NoMH y)
    (K : Ctr C.l Z y by' ml' ret' [] rm argsL.toArray h n0 Ds Q) (hsz : Ls.size = ml) (hlen : ∀ sig, parseMethodDescriptor y.desc = some sig → argsL.length = sig.parameters.length) (hst : S = argsL.reverse ++ rest) (hW : (rest.map fun v => v.category).sum = W)
    (hd : decode bs pc = .ok (.invokestatic idx, 3)) (hfr : rm.frames + 1 ≤ R.frames) (hlo : W + (ml' + 11) + rm.locals ≤ R.locals) (hce : ce + rm.cells ≤ R.cells) (hsl : sl + rm.slots ≤ R.slots) (hp : pc + 3 = pc') :
    ∃ (v : Option Value) (h' : Heap) (Ds' : List Addr), Q v h' Ds' ∧ Rc C R own bs ml Z n0 (ce + rm.cells) (sl + rm.slots) pc' Ls (v.toList ++ rest) h' Ds' := by
  subst hp hst
  obtain ⟨T, locs, vm0, k0, X, h1, h2, h3, h4, h5, h6, h7, k⟩ := H
  obtain ⟨v, vm₁, B, hw1, X', hS', hgr, hq, st⟩ := callSNS X h7.1 h7.2.2.2.1 (Jvm.Cond.methodLinkNest_wide h3 hlink) (mvT (s := C.s.setVm vm0) h3 hstat) (mvT (s := C.s.setVm vm0) h3 hinit) (mvT (s := C.s.setVm vm0) h3 hcode) hy (ctrBack (s := C.s.setVm vm0) (W := W) K h3 h4 hcode hinit hfr hlo) (g := mkF C.m pc Ls (argsL.reverse ++ rest)) rfl (hsz.trans h7.2.2.1.symm) hlen rfl (by show 2 * 0 + _ ≤ _; omega) (hb h7.2.1 hd) (fun vm₁ hw => ⟨rfl, h5, hce, hsl⟩)
  exact own_fin h1 h2 h3 h5 h6 h7 k X' hS' hgr hq st
theorem Rc.callI {pc' : Nat} {y : MethodName} {idx ml' W : Nat} {by' : ByteArray} {rm : Room} {a : Addr} {argsL : List Value} {Q : Option Value → Heap → List Addr → Prop} (H : Rc C R own bs ml Z n0 ce sl pc Ls S h Ds) (hy1 : y.name = "<init>")
    (hlink : (Jvm.Cond.methodLink own idx y).before a0 Z = true) (hinst : (Jvm.Cond.instanceMethod y).before a0 Z = true) (hinit : (Jvm.Cond.initialized y.cls).before a0 Z = true) (hcode : (Jvm.Cond.code y by' ml' none).before a0 Z = true) (hy : NoMH y)
    (K : Ctr C.l Z y by' ml' none [] rm (.ref a :: argsL).toArray h n0 Ds Q) (hsz : Ls.size = ml) (hlen : ∀ sig, parseMethodDescriptor y.desc = some sig → argsL.length = sig.parameters.length) (hst : S = argsL.reverse ++ .ref a :: rest) (hW : (rest.map fun v => v.category).sum = W)
    (hd : decode bs pc = .ok (.invokespecial idx, 3)) (hfr : rm.frames + 1 ≤ R.frames) (hlo : W + (ml' + 11) + rm.locals ≤ R.locals) (hce : ce + rm.cells ≤ R.cells) (hsl : sl + rm.slots ≤ R.slots) (hp : pc + 3 = pc') :
    ∃ (v : Option Value) (h' : Heap) (Ds' : List Addr), Q v h' Ds' ∧ Rc C R own bs ml Z n0 (ce + rm.cells) (sl + rm.slots) pc' Ls (v.toList ++ rest) h' Ds' := by
  subst hp hst
  obtain ⟨T, locs, vm0, k0, X, h1, h2, h3, h4, h5, h6, h7, k⟩ := H
  obtain ⟨v, vm₁, B, hw1, X', hS', hgr, hq, st⟩ := X.specialBackS h7.1 hy1 h7.2.2.2.1 (mvT (s := C.s.setVm vm0) h3 hlink) (mvT (s := C.s.setVm vm0) h3 hinst) (mvT (s := C.s.setVm vm0) h3 hcode) hy (ctrBack (s := C.s.setVm vm0) (W := W) K h3 h4 hcode hinit hfr hlo) (g := mkF C.m pc Ls (argsL.reverse ++ .ref a :: rest)) rfl (hsz.trans h7.2.2.1.symm) (Steps.refl _) hlen rfl (by show 2 * 0 + _ ≤ _; omega) (hb h7.2.1 hd) (fun vm₁ hw => ⟨rfl, h5, hce, hsl⟩)
  exact own_fin h1 h2 h3 h5 h6 h7 k X' hS' hgr hq st
theorem Rc.callV {pc' : Nat} {y z : MethodName} {Cc : String} {idx ml' W : Nat} {by' : ByteArray} {ret' : Option FieldType} {rm : Room} {a : Addr} {argsL : List Value} {Q : Option Value → Heap → List Addr → Prop} (H : Rc C R own bs ml Z n0 ce sl pc Ls S h Ds)
    (hlink : (Jvm.Cond.methodLink own idx y).before a0 Z = true) (hdecl : (Jvm.Cond.declares y).before a0 Z = true) (hnf : ∀ s' : State, Z.Warmed39 s'.vm → NotFace s' y) (hsel : (Jvm.Cond.selects Cc y z).before a0 Z = true) (hinst : (Jvm.Cond.instanceMethod z).before a0 Z = true) (hinit : (Jvm.Cond.initialized z.cls).before a0 Z = true) (hcode : (Jvm.Cond.code z by' ml' ret').before a0 Z = true) (hy : NoMH y)
    (E : Exa Z h a Cc) (K : Ctr C.l Z z by' ml' ret' [] rm (.ref a :: argsL).toArray h n0 Ds Q) (hsz : Ls.size = ml) (hlen : ∀ sig, parseMethodDescriptor y.desc = some sig → argsL.length = sig.parameters.length) (hst : S = argsL.reverse ++ .ref a :: rest) (hW : (rest.map fun v => v.category).sum = W)
    (hd : decode bs pc = .ok (.invokevirtual idx, 3)) (hfr : rm.frames + 1 ≤ R.frames) (hlo : W + (ml' + 11) + rm.locals ≤ R.locals) (hce : ce + rm.cells ≤ R.cells) (hsl : sl + rm.slots ≤ R.slots) (hp : pc + 3 = pc') :
    ∃ (v : Option Value) (h' : Heap) (Ds' : List Addr), Q v h' Ds' ∧ Rc C R own bs ml Z n0 (ce + rm.cells) (sl + rm.slots) pc' Ls (v.toList ++ rest) h' Ds' := by
  subst hp hst
  obtain ⟨T, locs, vm0, k0, X, h1, h2, h3, h4, h5, h6, h7, k⟩ := H
  obtain ⟨cq, kq, qa, qb, qc⟩ := isOf (s := C.s.setVm vm0) h3 h5 E
  obtain ⟨v, vm₁, B, hw1, X', hS', hgr, hq, st⟩ := X.virtualBackS h7.1 (y := y) (z := z) h7.2.2.2.1 (mvT (s := C.s.setVm vm0) h3 hlink) (mvT (s := C.s.setVm vm0) h3 hdecl) (hnf _ h3) (mvT (s := C.s.setVm vm0) h3 hsel) (mvT (s := C.s.setVm vm0) h3 hinst) hy (ctrBack (s := C.s.setVm vm0) (W := W) K h3 h4 hcode hinit hfr hlo) qa qc (g := mkF C.m pc Ls (argsL.reverse ++ .ref a :: rest)) rfl (hsz.trans h7.2.2.1.symm) (Steps.refl _) hlen rfl (by show 2 * 0 + _ ≤ _; omega) (hb h7.2.1 hd) (fun vm₁ hw => ⟨rfl, h5, hce, hsl⟩)
  exact own_fin h1 h2 h3 h5 h6 h7 k X' hS' hgr hq st
/-! calls by a Back (a law of the library's) -/
theorem own_finB {Qb : Option Value → Heap → List Loc → Prop} {T : State} {locs : List Loc} {vm0 : Vm} {k0 pc' kc ks : Nat} {g : JFrame} {v : Option Value} {B : Pt} {rest : List Value}
    (h1 : C.s.Since vm0 k0) (h2 : k0 ≤ h.size) (h3 : Z.Warmed39 vm0) (h4 : JJ Z n0 vm0 h Ds) (h6 : Fr n0 locs) (h7 : C.p.tables.exec = Jvm.exec ∧ C.c.code = bs ∧ C.c.maxLocals = ml ∧ vm0.findClass own = some C.m.cls ∧ C.meth.locks = false)
    (k : ∀ t, Steps C.p.tables C.e C.below (T.setTop g) t → Steps C.p.tables C.e C.below C.s0 t)
    (hQ : ∀ v h' L, Qb v h' L → Fr n0 L ∧ ∃ ws, Keep h h' ws ∧ ∀ x ∈ ws, x ∈ Ds)
    (X' : Stand C.p C.l C.e R (C.s.setVm vm0) C.m C.args C.below C.meth C.c B.U B.locs B.cells B.slots)
    (hq : ∃ (L : List Loc), Qb v B.U.heap L ∧ B.locs = locs ++ L ∧ B.cells = ce + kc ∧ B.slots = sl + ks)
    (st : ∀ t, Steps C.p.tables C.e C.below (B.U.setTop (mkF C.m pc' Ls (v.toList ++ rest))) t → Steps C.p.tables C.e C.below (T.setTop g) t) :
    ∃ (v : Option Value) (h' : Heap) (L : List Loc), Qb v h' L ∧ Rc C R own bs ml Z n0 (ce + kc) (sl + ks) pc' Ls (v.toList ++ rest) h' Ds := by
  obtain ⟨L, hQb, e1, e2, e3⟩ := hq
  obtain ⟨hFr, ws, K, hws⟩ := hQ _ _ _ hQb
  refine ⟨v, B.U.heap, L, hQb, B.U, B.locs, vm0, k0, ?_, h1, Nat.le_trans h2 K.1, h3, h4.keep K hws, rfl, ?_, h7, fun t ht => k _ (st _ ht)⟩
  · rw [← e2, ← e3]; exact X'
  · rw [e1]; exact Fr.app h6 hFr
theorem Rc.backI {pc' : Nat} {y : MethodName} {idx ml' W kc ks : Nat} {by' : ByteArray} {a : Addr} {argsL : List Value} {Qb : Option Value → Heap → List Loc → Prop} (H : Rc C R own bs ml Z n0 ce sl pc Ls S h Ds) (hy1 : y.name = "<init>")
    (hlink : (Jvm.Cond.methodLink own idx y).before a0 Z = true) (hinst : (Jvm.Cond.instanceMethod y).before a0 Z = true) (hcode : (Jvm.Cond.code y by' ml' none).before a0 Z = true) (hy : NoMH y)
    (K : ∀ s' : State, Z.Warmed39 s'.vm → Back C.l R C.p C.e C.below s' C.args y 3 W (fun P a' => a' = (.ref a :: argsL).toArray ∧ P.U.heap = h ∧ P.cells + kc ≤ R.cells ∧ P.slots + ks ≤ R.slots) (fun P _ v B => ∃ L, Qb v B.U.heap L ∧ B.locs = P.locs ++ L ∧ B.cells = P.cells + kc ∧ B.slots = P.slots + ks))
    (hQ : ∀ v h' L, Qb v h' L → Fr n0 L ∧ ∃ ws, Keep h h' ws ∧ ∀ x ∈ ws, x ∈ Ds) (hsz : Ls.size = ml) (hlen : ∀ sig, parseMethodDescriptor y.desc = some sig → argsL.length = sig.parameters.length) (hst : S = argsL.reverse ++ .ref a :: rest) (hW : (rest.map fun v => v.category).sum = W)
    (hd : decode bs pc = .ok (.invokespecial idx, 3)) (hce : ce + kc ≤ R.cells) (hsl : sl + ks ≤ R.slots) (hp : pc + 3 = pc') :
    ∃ (v : Option Value) (h' : Heap) (L : List Loc), Qb v h' L ∧ Rc C R own bs ml Z n0 (ce + kc) (sl + ks) pc' Ls (v.toList ++ rest) h' Ds := by
  subst hp hst
  obtain ⟨T, locs, vm0, k0, X, h1, h2, h3, h4, h5, h6, h7, k⟩ := H
  obtain ⟨v, vm₁, B, hw1, X', hq, st⟩ := X.specialBack h7.1 hy1 h7.2.2.2.1 (mvT (s := C.s.setVm vm0) h3 hlink) (mvT (s := C.s.setVm vm0) h3 hinst) (mvT (s := C.s.setVm vm0) h3 hcode) hy (K _ h3) (g := mkF C.m pc Ls (argsL.reverse ++ .ref a :: rest)) rfl (hsz.trans h7.2.2.1.symm) (Steps.refl _) hlen rfl (by show 2 * 0 + _ ≤ _; omega) (hb h7.2.1 hd) (fun vm₁ hw => ⟨rfl, h5, hce, hsl⟩)
  exact own_finB h1 h2 h3 h4 h6 h7 k hQ X' hq (fun t ht => st.trans ht)
theorem Rc.backV {pc' : Nat} {y z : MethodName} {Cc : String} {idx W kc ks : Nat} {a : Addr} {argsL : List Value} {Qb : Option Value → Heap → List Loc → Prop} (H : Rc C R own bs ml Z n0 ce sl pc Ls S h Ds)
    (hlink : (Jvm.Cond.methodLink own idx y).before a0 Z = true) (hdecl : (Jvm.Cond.declares y).before a0 Z = true) (hnf : ∀ s' : State, Z.Warmed39 s'.vm → NotFace s' y) (hsel : (Jvm.Cond.selects Cc y z).before a0 Z = true) (hinst : (Jvm.Cond.instanceMethod z).before a0 Z = true) (hy : NoMH y) (E : Exa Z h a Cc)
    (K : ∀ s' : State, Z.Warmed39 s'.vm → Back C.l R C.p C.e C.below s' C.args z 3 W (fun P a' => a' = (.ref a :: argsL).toArray ∧ P.U.heap = h ∧ P.cells + kc ≤ R.cells ∧ P.slots + ks ≤ R.slots) (fun P _ v B => ∃ L, Qb v B.U.heap L ∧ B.locs = P.locs ++ L ∧ B.cells = P.cells + kc ∧ B.slots = P.slots + ks))
    (hQ : ∀ v h' L, Qb v h' L → Fr n0 L ∧ ∃ ws, Keep h h' ws ∧ ∀ x ∈ ws, x ∈ Ds) (hsz : Ls.size = ml) (hlen : ∀ sig, parseMethodDescriptor y.desc = some sig → argsL.length = sig.parameters.length) (hst : S = argsL.reverse ++ .ref a :: rest) (hW : (rest.map fun v => v.category).sum = W)
    (hd : decode bs pc = .ok (.invokevirtual idx, 3)) (hce : ce + kc ≤ R.cells) (hsl : sl + ks ≤ R.slots) (hp : pc + 3 = pc') :
    ∃ (v : Option Value) (h' : Heap) (L : List Loc), Qb v h' L ∧ Rc C R own bs ml Z n0 (ce + kc) (sl + ks) pc' Ls (v.toList ++ rest) h' Ds := by
  subst hp hst
  obtain ⟨T, locs, vm0, k0, X, h1, h2, h3, h4, h5, h6, h7, k⟩ := H
  obtain ⟨cq, kq, qa, qb, qc⟩ := isOf (s := C.s.setVm vm0) h3 h5 E
  obtain ⟨v, vm₁, B, hw1, X', hq, st⟩ := X.virtualBack h7.1 (y := y) (z := z) h7.2.2.2.1 (mvT (s := C.s.setVm vm0) h3 hlink) (mvT (s := C.s.setVm vm0) h3 hdecl) (hnf _ h3) (mvT (s := C.s.setVm vm0) h3 hsel) (mvT (s := C.s.setVm vm0) h3 hinst) hy (K _ h3) qa qc (g := mkF C.m pc Ls (argsL.reverse ++ .ref a :: rest)) rfl (hsz.trans h7.2.2.1.symm) (Steps.refl _) hlen rfl (by show 2 * 0 + _ ≤ _; omega) (hb h7.2.1 hd) (fun vm₁ hw => ⟨rfl, h5, hce, hsl⟩)
  exact own_finB h1 h2 h3 h4 h6 h7 k hQ X' hq (fun t ht => st.trans ht)
/-! returns -/
theorem Rc.retX {Q : Option Value → Heap → List Addr → Prop} {v : Option Value} {kc ks : Nat} {Ds' : List Addr} (H : Rc C R own bs ml Z n0 ce sl pc Ls S h Ds) (hv : C.meth.sig.returnType = none → v = none)
    (f : ∀ (s T : State) (locs : List Loc) (fs : List Frame), Stand C.p C.l C.e R s C.m C.args C.below C.meth C.c T locs ce sl → C.p.tables.exec = Jvm.exec → C.c.code = bs → (∀ (f : JFrame) (acts : List Action), f.method = C.m → f.locked = none → f.entered = [] → (doReturn C.e (T.setTop f) acts v).1 = T.setFrames fs) → Steps C.p.tables C.e C.below (T.setTop (mkF C.m pc Ls S)) (T.setFrames fs))
    (hk : ce ≤ kc) (hs : sl ≤ ks) (hds : ∀ x ∈ Ds', x ∈ Ds) (hq : Q v h Ds') : Done C Z n0 Q kc ks := by
  obtain ⟨T, locs, vm0, k0, X, h1, h2, h3, h4, h5, h6, h7, k⟩ := H
  obtain ⟨fs, hr, hrun, hend, hE⟩ := X.leaveW h1 (by rw [h5]; exact h2) hv h7.2.2.2.2
  refine ⟨T.setFrames fs, .returned v, k _ (f _ T locs fs X h7.1 h7.2.1 hr), hrun, hend, v, locs, Ds', rfl, ?_, ?_, h6, hE.1, hE.2.1, hE.2.2.1, hE.2.2.2.mono hk hs⟩
  · show Q v T.heap Ds'
    rw [h5]; exact hq
  · show JJ Z n0 T.vm T.heap Ds'
    rw [h5]
    exact (JJ.warm (t := C.s.setVm vm0) h4 h3 X.warmed).less hds
theorem Rc.retI {Q : Option Value → Heap → List Addr → Prop} {z : Int32} {kc ks : Nat} {Ds' : List Addr} (H : Rc C R own bs ml Z n0 ce sl pc Ls (.int z :: rest) h Ds) (hret : C.meth.sig.returnType = some .int) (hd : decode bs pc = .ok (.ireturn, 1)) (hk : ce ≤ kc) (hs : sl ≤ ks) (hds : ∀ x ∈ Ds', x ∈ Ds) (hq : Q (some (.int z)) h Ds') : Done C Z n0 Q kc ks :=
  H.retX (v := some (.int z)) (fun e => by rw [hret] at e; cases e) (fun s T locs fs X hx hby hr => retOut X hx hret rfl (Or.inl ⟨rfl, Or.inl rfl, z, rfl⟩) (hb hby hd) hr) hk hs hds hq
theorem Rc.retN {Q : Option Value → Heap → List Addr → Prop} {z z' : Int32} {t : FieldType} {kc ks : Nat} {Ds' : List Addr} (H : Rc C R own bs ml Z n0 ce sl pc Ls (.int z :: rest) h Ds) (hret : C.meth.sig.returnType = some t) (ht : t = .boolean ∨ t = .byte ∨ t = .char ∨ t = .short) (hz : nar t z = z') (hd : decode bs pc = .ok (.ireturn, 1)) (hk : ce ≤ kc) (hs : sl ≤ ks) (hds : ∀ x ∈ Ds', x ∈ Ds) (hq : Q (some (.int z')) h Ds') : Done C Z n0 Q kc ks := by
  subst hz
  exact H.retX (v := some (.int (nar t z))) (fun e => by rw [hret] at e; cases e) (fun s T locs fs X hx hby hr => RoadKit.retN X hx hret ht (hb hby hd) hr) hk hs hds hq
theorem Rc.retA {Q : Option Value → Heap → List Addr → Prop} {w : Value} {t : FieldType} {kc ks : Nat} {Ds' : List Addr} (H : Rc C R own bs ml Z n0 ce sl pc Ls (w :: rest) h Ds) (hret : C.meth.sig.returnType = some t) (ht : t.isReference = true) (hn : narrow t w = w) (hw : w.isRef = true) (hd : decode bs pc = .ok (.areturn, 1)) (hk : ce ≤ kc) (hs : sl ≤ ks) (hds : ∀ x ∈ Ds', x ∈ Ds) (hq : Q (some w) h Ds') : Done C Z n0 Q kc ks :=
  H.retX (v := some w) (fun e => by rw [hret] at e; cases e) (fun s T locs fs X hx hby hr => retOut X hx hret hn (Or.inr (Or.inr (Or.inr (Or.inr ⟨rfl, ht, hw⟩)))) (hb hby hd) hr) hk hs hds hq
theorem Rc.retV {Q : Option Value → Heap → List Addr → Prop} {kc ks : Nat} {Ds' : List Addr} (H : Rc C R own bs ml Z n0 ce sl pc Ls [] h Ds) (hret : C.meth.sig.returnType = none) (hd : decode bs pc = .ok (.return_, 1)) (hk : ce ≤ kc) (hs : sl ≤ ks) (hds : ∀ x ∈ Ds', x ∈ Ds) (hq : Q none h Ds') : Done C Z n0 Q kc ks :=
  H.retX (v := none) (fun _ => rfl) (fun s T locs fs X hx hby hr => X.returnOut hx hret (hb hby hd) hr) hk hs hds hq
/-! Strings -/
abbrev STR0 : String := "java/lang/String"
def bytesOfCs (cs : List Int32) : List Value := (cs.map fun c => c.toInt8.toInt32).map Value.int
def IsStr (Z : State) (h : Heap) (a : Addr) (cs : List Int32) : Prop :=
  Exa Z h a "java/lang/String" ∧ Fld Z h a "java/lang/String" "coder" "B" (.int 0) ∧ (∀ c ∈ cs, ¬ c < 0 ∧ ¬ (255 : Int32) < c) ∧ cs.length ≤ 4000 ∧
    ∃ (t : Addr) (kb : ClassId), Fld Z h a "java/lang/String" "value" "[B" (.ref t) ∧ Arv Z h t kb .byte (Int32.ofNat cs.length) (bytesOfCs cs) (.int 0)
def NotB (Z : State) (h : Heap) (w : Addr) : Prop := ∀ (t : Addr) (kb : ClassId) (z : Int32) (vs : List Value) (d : Value), Arv Z h t kb .byte z vs d → t ≠ w
theorem notB_exa {Z : State} {h : Heap} {w : Addr} {Cc : String} {n : Nat} {a0 : Array Value} (E : Exa Z h w Cc) (wi : (Jvm.Cond.instantiable Cc n).before a0 Z = true) : NotB Z h w := fun t kb z vs d F e => (E.neArv F wi) e.symm
theorem notB_arv {Z : State} {h : Heap} {w : Addr} {k : ClassId} {ty : FieldType} {z : Int32} {vs : List Value} {dv : Value} (V : Arv Z h w k ty z vs dv) (hty : ty ≠ .byte) : NotB Z h w := fun t kb z' vs' d F e => by
  subst e
  obtain ⟨c1, A1, -⟩ := F
  obtain ⟨c2, A2, -⟩ := V
  cases A1.1.symm.trans A2.1
  obtain ⟨-, k1, p1, comp1, q1⟩ := A1.2.1
  obtain ⟨-, k2, p2, comp2, q2⟩ := A2.2.1
  cases p1.symm.trans p2
  rw [q1] at q2
  cases q2
  exact hty rfl
theorem notB_new {Z : State} {h : Heap} {w : Addr} (e : h.size ≤ w) : NotB Z h w := fun t kb z vs d F q => by subst q; exact absurd F.lt (Nat.not_lt.mpr e)
theorem IsStr.keep {Z : State} {h h' : Heap} {a : Addr} {cs : List Int32} {ws : List Addr} (F : IsStr Z h a cs) (K : Keep h h' ws) (q : a ∉ ws) (q' : ∀ w ∈ ws, NotB Z h w) : IsStr Z h' a cs := by
  obtain ⟨f1, f2, f3, f4, t, kb, f5, f6⟩ := F
  exact ⟨f1.keep K, f2.keep K q, f3, f4, t, kb, f5.keep K q, f6.keep K (fun m => q' t m t kb _ _ _ f6 rfl)⟩
theorem IsStr.ext {Z : State} {h h' : Heap} {a : Addr} {cs : List Int32} (F : IsStr Z h a cs) (E : Ext h h') : IsStr Z h' a cs := F.keep ((Keep.refl h []).ext E) (fun m => nomatch m) (fun w m => nomatch m)
theorem IsStr.lt {Z : State} {h : Heap} {a : Addr} {cs : List Int32} (F : IsStr Z h a cs) : a < h.size := F.1.lt
theorem byte_of (n : Nat) (h : n < 256) : Jvm.Lit.byteI n.toUInt16 = (Int32.ofNat n).toInt8.toInt32 := by
  have t : ∀ k : Fin 256, Jvm.Lit.byteI k.val.toUInt16 = (Int32.ofNat k.val).toInt8.toInt32 := by decide +kernel
  exact t ⟨n, h⟩
theorem chr_of (n : Nat) (h : n < 256) : ¬ Int32.ofNat n < 0 ∧ ¬ (255 : Int32) < Int32.ofNat n := by
  have t : ∀ k : Fin 256, ¬ Int32.ofNat k.val < 0 ∧ ¬ (255 : Int32) < Int32.ofNat k.val := by decide +kernel
  exact t ⟨n, h⟩
theorem Sx.slOf {Z T : State} {h : Heap} {Ds : List Addr} {a : Addr} {u : Array UInt16} (F : Sx Z h Ds a u) (hal : Z.vm.Alike T.vm) (e : T.heap = h) : SlOf T a u := by
  obtain ⟨q, cS, h1, h2, ⟨kS, k1, k2, k3⟩, h4, h5, -, -⟩ := F
  obtain ⟨kS', hk', ek⟩ := hal.2.2 _ _ k1
  exact ⟨q, cS, h1, Sl.carry (U := ({ Z with heap := h } : State)) hal (by rw [e]; exact h2.1.1) (by rw [e]; exact h2.1.2.2.2.2.2.2.2.2.2.1) h2, ⟨kS', hk', by rw [ek]; exact k2, by rw [ek]; exact k3⟩, by rw [hal.findClass]; exact h4, h5⟩
theorem Sx.of_in {Z T : State} {Ds : List Addr} {a : Addr} {u : Array UInt16} {lo hi : Nat} (F : SlIn lo hi T a u) (hal : T.vm.Alike Z.vm) (hlo : lo ≤ hi) (ha : hi ≤ a) (hD : ∀ x ∈ Ds, x < hi) : Sx Z T.heap Ds a u := by
  obtain ⟨q, cS, h1, h2, ⟨kS, k1, k2, k3⟩, h4, h5, h6⟩ := F
  obtain ⟨kS', hk', ek⟩ := hal.2.2 _ _ k1
  subst h1
  have hb : hi ≤ q.sd := by
    rcases h6 with ⟨x, -⟩ | ⟨-, y⟩
    · exact absurd (Nat.lt_of_lt_of_le x hlo) (Nat.not_lt.mpr ha)
    · exact y
  exact ⟨q, cS, rfl, Sl.carry (U' := ({ Z with heap := T.heap } : State)) hal h2.1.1 h2.1.2.2.2.2.2.2.2.2.2.1 h2, ⟨kS', hk', by rw [ek]; exact k2, by rw [ek]; exact k3⟩, by rw [hal.findClass]; exact h4, h5, fun m => absurd (hD _ m) (Nat.not_lt.mpr ha), fun m => absurd (hD _ m) (Nat.not_lt.mpr hb)⟩
theorem Sx.str {Z : State} {h : Heap} {Ds : List Addr} {a : Addr} {units : Array UInt16} {text : String} {cs : List Int32} (F : Sx Z h Ds a units) (htext : utf16ToString? units = some text) (hlat : ∀ c ∈ text.toList, c.toNat < 256) (hcs : text.toList.map (fun c => Int32.ofNat c.toNat) = cs) (hlen : cs.length ≤ 4000) : IsStr Z h a cs ∧ a ∉ Ds := by
  obtain ⟨q, cS, hqa, ⟨⟨s1, s2, s3, ⟨cv, kv, iv, s4, s4'⟩, ⟨cc, kc, ic, s5, s5'⟩, s6, s7, s8, s9, s10, s11, s12, s13, s14, s15, s16⟩, hfS, hcS⟩, ⟨kS, k1, k2, k3⟩, hB, hbyt, hn1, hn2⟩ := F
  subst hqa
  have hl := Jvm.ClassFile.lat_of_text htext hlat
  have eu : bytesOfCs cs = units.toList.map fun u => Value.int (Jvm.Lit.byteI u) := by
    rw [Jvm.ClassFile.units_of_text htext hlat, List.map_map, ← hcs]
    show List.map Value.int (List.map (fun c => c.toInt8.toInt32) (List.map (fun c => Int32.ofNat c.toNat) text.toList)) = _
    rw [List.map_map, List.map_map]
    refine List.map_congr_left fun c hc => ?_
    show Value.int ((Int32.ofNat c.toNat).toInt8.toInt32) = Value.int (Jvm.Lit.byteI c.toNat.toUInt16)
    rw [byte_of _ (hlat c hc)]
  have el : cs.length = units.size := by
    have := congrArg List.length eu
    simpa [bytesOfCs] using this
  have hsl : q.SA.slots = units.map fun u => Value.int (Jvm.Lit.byteI u) := by rw [hbyt, SBG.stringBytes_lat hl]; rfl
  have hsz : q.SA.slots.size = units.size := by rw [hsl, Array.size_map]
  have Hh : Has q.SA (bytesOfCs cs) (.int 0) := fun j hj => by
    have hj' : j < units.size := by omega
    rw [hsl, eu]; simp [hj']
  have n32 : (Int32.ofNat cs.length).toNatClampNeg = cs.length := by
    have t : (Int32.ofNat cs.length).toInt = (cs.length : Int) := Int32.toInt_ofNat_small (by omega)
    show (Int32.ofNat cs.length).toInt.toNat = cs.length
    omega
  have nneg : ¬ Int32.ofNat cs.length < 0 := by
    have t : (Int32.ofNat cs.length).toInt = (cs.length : Int) := Int32.toInt_ofNat_small (by omega)
    rw [Int32.lt_iff_toInt_lt]
    have z0 : (0 : Int32).toInt = 0 := rfl
    omega
  refine ⟨⟨⟨q.sC, kS, s1, by rw [hcS]; exact hfS, by rw [hcS]; exact k1, s3, fun _ => k3⟩, ⟨q.sC, cc, kc, ic, q.fSC, s1, s5, s7, s2, s3, s5', s9⟩, ?_, hlen, q.sd, q.SA.cls, ⟨q.sC, cv, kv, iv, q.fSV, s1, s4, s6, s2, s3, s4', s8⟩, ⟨q.SA, ⟨s10, s11, s12⟩, rfl, by rw [hsz, n32, el], nneg, Hh, fun j hj => ?_⟩⟩, hn1⟩
  · intro c hc
    rw [← hcs] at hc
    obtain ⟨ch, h1, rfl⟩ := List.mem_map.mp hc
    exact chr_of _ (hlat ch h1)
  · have e1 := s16 j hj
    have e2 := Hh j hj
    rw [SBG.getD_of e2] at e1
    exact e1
theorem own_atoms {Z s : State} {a0 args : Array Value} (hZ : Z.Warmed39 s.vm) (wS : ∀ a ∈ Bundle.stringAtoms, a.before a0 Z = true) : ∀ a ∈ Bundle.stringAtoms, a.before args s = true := fun d hd => by
  have q := wS d hd
  simp only [Bundle.stringAtoms, List.mem_cons, List.not_mem_nil, or_false] at hd
  rcases hd with rfl | rfl | rfl | rfl | rfl | rfl | rfl
  · exact mv hZ q
  · exact mv hZ q
  · exact mvA hZ q
  · exact mv hZ q
  · exact mv hZ q
  · exact mv hZ q
  · exact mv hZ q
theorem open_stays {s : State} {vm' : Vm} (hW : s.WarmedH vm') {c : ClassId} {k k' : Class} {cf : ClassFile} {idx : Nat} {text : String} (hk : s.vm.classes[c]? = some k) (hk' : vm'.classes[c]? = some k') (hcf : k.cf = some cf) (hnm : namesOf? cf.constantPool idx = some (.string text)) (ho : k.resolved[idx]? = some none) : k'.resolved[idx]? = some none := by
  obtain ⟨-, -, hfw⟩ := hW
  obtain ⟨k2, hk2, -, -, ee, -⟩ := hfw _ k hk
  cases hk2.symm.trans hk'
  rcases ee idx with e0 | ⟨-, r, -, hr⟩
  · exact e0.trans ho
  · exfalso
    cases r <;> simp [State.rightAt, hk, hcf, hnm] at hr
/-- 'ldc' of a String constant at the state at hand -/
theorem ldcNow {p : Program} {l : Launch} {e : Env} {R : Room} {s : State} {m : MethodId} {args : Array Value} {below : List Frame} {meth : Method} {c : Code} {T : State} {locs : List Loc} {cells slots : Nat}
    (X : Stand p l e R s m args below meth c T locs cells slots) (hexec : p.tables.exec = Jvm.exec) {own text : String} {index : Nat} (hown : T.vm.findClass own = some m.cls)
    (hlink : (Jvm.Cond.stringLink own index text).before args T = true) (hS : ∀ a ∈ Bundle.stringAtoms, a.before args T = true) (hheld : ConstHeldL T own index) (hlat : ∀ units : Array UInt16, utf16ToString? units = some text → units.all (· < 256) = true)
    {g : JFrame} (hg : g.method = m) (hdg : decode c.code g.pc = .ok (.ldc index, 2)) {n : Nat} (hn : 4 * text.toList.length ≤ n) (hbig : n ≤ 536870912) (hRcells : cells + 2 ≤ R.cells) (hRslots : slots + (n + 4) ≤ R.slots) :
    ∃ (a : Addr) (T₂ : State), Stand p l e R (s.setVm T₂.vm) m args below meth c T₂ locs (cells + 2) (slots + (n + 4)) ∧ s.Since T₂.vm T₂.heap.size ∧ (∃ k₂, T₂.vm.classes[m.cls]? = some k₂ ∧ k₂.resolved[index]? = some (some (.string a))) ∧
      (∀ a0, a0 < T.heap.size → T₂.heap[a0]? = T.heap[a0]?) ∧ T.heap.size ≤ T₂.heap.size ∧ T.Warmed39 T₂.vm ∧ T.Interned1 T₂ ∧ (T₂.vm.interned = T.vm.interned ∨ ∃ (units : Array UInt16) (a' : Addr), utf16ToString? units = some text ∧ T₂.vm.interned = T.vm.interned.push (units, a')) ∧
      (∃ units : Array UInt16, utf16ToString? units = some text ∧ SlIn T.heap.size T.heap.size T₂ a units) ∧
      ∀ target, Steps p.tables e below (T₂.setTop { g with pc := g.pc + 2, stack := .ref a :: g.stack }) target → Steps p.tables e below (T.setTop g) target := by
  obtain ⟨g₀, hf0⟩ := X.frames_eq
  have hcur : T.cur < T.threads.size := State.cur_lt_of_frames hf0
  obtain ⟨th, hth, -⟩ := State.frames_cons hf0
  have hF : (T.setFrames (.invoking m args :: below)).frames = .invoking m args :: below := State.frames_setFrames _ hcur
  have hme : (T.setFrames (.invoking m args :: below)).me.stackBytes = T.me.stackBytes := by
    simp [State.me, State.setFrames, Array.getElem_modify, hcur]
  have hlim : e.platform.stackLimits (T.setFrames (.invoking m args :: below)).me = e.platform.stackLimits T.me := by
    show e.platform.limitsFor _ = e.platform.limitsFor _
    rw [hme]
  have hroom : (T.setFrames (.invoking m args :: below)).hasRoom e.platform ({ R with cells := R.cells - cells, slots := R.slots - slots } : Room) = true := by
    have h0 := X.room
    have hb := X.book
    have hsz := X.heapSize
    have hus := X.used
    have hU : (T.setFrames (.invoking m args :: below)).localsInUse = s.localsInUse := by
      rw [State.localsInUse_invoking hF (show (T.setFrames (.invoking m args :: below)).vm.method? m = some meth from X.method') X.code, State.localsInUse_invoking X.frames X.method X.code]
    have hfl : (T.setFrames (.invoking m args :: below)).frames.length = s.frames.length := by rw [hF, X.frames]
    unfold State.hasRoom at h0 ⊢
    rw [hU, hfl, hlim, X.limits, hme, X.bytes]
    simp only [Bool.and_eq_true, decide_eq_true_eq] at h0 ⊢
    obtain ⟨⟨⟨⟨q1, q2⟩, q3⟩, q4⟩, q5⟩ := h0
    refine ⟨⟨⟨⟨q1, q2⟩, ?_⟩, ?_⟩, hb⟩
    · show T.heap.size + (R.cells - cells) ≤ _
      omega
    · show T.slotsUsed + (R.slots - slots) ≤ _
      omega
  have hhears : (T.setFrames (.invoking m args :: below)).hears m below = true := by
    have h0 := X.hears
    have hmeth : ∀ mm : MethodId, (T.setFrames (.invoking m args :: below)).vm.method? mm = s.vm.method? mm := fun mm => X.warmed.alike.method? mm
    have hcode : ∀ mm : MethodId, (T.setFrames (.invoking m args :: below)).code? mm = s.code? mm := fun mm => by rw [State.code?_eq, State.code?_eq, hmeth]
    cases hb : below with
    | nil => rw [hb] at h0 hmeth; simp only [State.hears] at h0 ⊢; rw [hmeth]; exact h0
    | cons f r =>
      rw [hb] at h0 hmeth hcode
      cases f <;> simp only [State.hears] at h0 ⊢ <;> first | (rw [hcode]; exact h0) | (rw [hmeth]; exact h0) | exact h0
  have hsame : (T.setFrames (.invoking m args :: below)).sameButNew (T.setVm (T.setFrames (.invoking m args :: below)).vm) [] 0 0 := by
    have hd0 : T.heap.toList.drop T.heap.size = [] := List.drop_eq_nil_of_le (by simp)
    refine ⟨?_, Nat.le_refl _, Nat.le_refl _, ?_, ?_, fun a cl hcl => ⟨cl, hcl, rfl, rfl, fun _ _ => rfl⟩⟩
    · show T = { (T.setFrames (.invoking m args :: below)).setFrames T.frames with heap := T.heap, slotsUsed := T.slotsUsed }
      rw [State.setFrames_setFrames, State.setFrames_self hth]
    · show T.slotsUsed = T.slotsUsed + ((T.heap.toList.drop T.heap.size).map (·.slots.size)).sum
      rw [hd0]; rfl
    · show ((T.heap.toList.drop T.heap.size).map (·.slots.size)).sum ≤ 0
      rw [hd0]; exact Nat.le_refl _
  have X' : Stand p l e ({ R with cells := R.cells - cells, slots := R.slots - slots } : Room) (T.setFrames (.invoking m args :: below)) m args below meth c T [] 0 0 :=
    ⟨X.admits, X.cas, X.clock, hF, hroom, hhears, X.method', X.code, X.here, X.tail, State.WarmedH.refl (T.setFrames (.invoking m args :: below)), hlim.symm, hme.symm, hsame⟩
  obtain ⟨a, T₂, X2, hS2, hres, hkeep, hint1, hint, hin, st⟩ := X'.ldcColdF (fun b cl h => h) hexec (own := own) (text := text) (index := index) hown hlink (own_atoms (Z := T) (s := T.setFrames (.invoking m args :: below)) (State.Warmed39.refl T) hS) hheld hlat hg hdg hn hbig (by show 0 + 2 ≤ R.cells - cells; omega) (by show 0 + (n + 4) ≤ R.slots - slots; omega)
  have hsm : T.sameButNew (T₂.setVm T.vm) [] 2 (n + 4) := by
    have q := X2.same.setVm T.vm
    obtain ⟨r1, r2, r3, r4, r5, r6⟩ := q
    refine ⟨?_, r2, by simpa using r3, r4, by simpa using r5, r6⟩
    refine r1.trans ?_
    show ({ (T.setFrames (.invoking m args :: below)).setFrames T₂.frames with heap := T₂.heap, slotsUsed := T₂.slotsUsed } : State) = _
    rw [State.setFrames_setFrames]
    rfl
  obtain ⟨Y, hSY⟩ := X.movedW (T₂ := T₂) X2.here X2.tail (X2.limits.trans hlim) (X2.bytes.trans hme) hS2.1 hS2.2 hsm
  rw [List.append_nil] at Y
  exact ⟨a, T₂, Y, hSY, hres, hkeep, hint1.1, hS2.1, hint1, hint, hin, st⟩
theorem Rc.ldcS {pc' idx n : Nat} {text : String} {cs : List Int32} (H : Rc C R own bs ml Z n0 ce sl pc Ls S h Ds) (hm : (own, idx) ∈ CL) (w : (Jvm.Cond.stringLink own idx text).before a0 Z = true) (hlat : ∀ c ∈ text.toList, c.toNat < 256) (hcs : text.toList.map (fun c => Int32.ofNat c.toNat) = cs) (hlen : cs.length ≤ 4000)
    (hd : decode bs pc = .ok (.ldc idx, 2)) (hn : 4 * text.toList.length ≤ n) (hbig : n ≤ 536870912) (hc : ce + 2 ≤ R.cells) (hl : sl + (n + 4) ≤ R.slots) (hp : pc + 2 = pc') :
    ∃ (h' : Heap) (a : Addr), Ext h h' ∧ IsStr Z h' a cs ∧ a ∉ Ds ∧ Rc C R own bs ml Z n0 (ce + 2) (sl + (n + 4)) pc' Ls (.ref a :: S) h' Ds := by
  subst hp
  obtain ⟨T, locs, vm0, k0, X, h1, h2, h3, h4, h5, h6, h7, k⟩ := H
  obtain ⟨aS, -, -, -, wS⟩ := h4.2.2.2.1 own idx hm
  have hownB : (C.s.setVm vm0).vm.findClass own = some C.m.cls := h7.2.2.2.1
  have wB : (Jvm.Cond.stringLink own idx text).before C.args (C.s.setVm vm0) = true := mvS (s := C.s) h3 w
  obtain ⟨kB, cf, i, units, hkB, hcf, hpB, hu, hnm, htext, hres⟩ := Cond.stringLink_spec hownB wB
  rcases hres with hopen | ⟨a, hra⟩
  · -- open: the rebased cold law
    have hZT : Z.Warmed39 T.vm := State.Warmed39.trans (t := C.s.setVm vm0) h3 X.warmed.wide
    have JT : JJ Z n0 T.vm h Ds := JJ.warm (t := C.s.setVm vm0) h4 h3 X.warmed
    have hownT : T.vm.findClass own = some C.m.cls := by rw [X.warmed.alike.findClass]; exact hownB
    have wT : (Jvm.Cond.stringLink own idx text).before C.args T = true := mvS (s := T) (vm0 := T.vm) hZT w
    have hheld : ConstHeldL T own idx := fun c k cf i units a q1 q2 q3 q4 q5 q6 => (JT.2.2.2.2 own idx hm c k cf i units a q1 q2 q3 q4 q5 q6).slOf hZT.alike h5
    obtain ⟨a, T₂, X2, hS2, ⟨kk, hkk, hrr⟩, hkeep, hgr, hW2, hint1, hint, ⟨us, htu, hin⟩, st⟩ := ldcNow X h7.1 hownT wT (own_atoms hZT wS) hheld (fun units hu => Jvm.ClassFile.lat_of_text hu hlat) (g := mkF C.m pc Ls S) rfl (hb h7.2.1 hd) hn hbig hc hl
    have E : Ext h T₂.heap := by rw [← h5]; exact ext_of hkeep
    have sameU : ∀ u v : Array UInt16, utf16ToString? u = some text → utf16ToString? v = some text → u = v := fun u v hu hv => by
      apply Array.toList_inj.mp
      rw [Jvm.ClassFile.units_of_text hu hlat, Jvm.ClassFile.units_of_text hv hlat]
    -- the entry, as T and as T₂ have it
    obtain ⟨kT, cfT, iT, unT, hkT, hcfT, hpT, huT, hnmT, htT, hresT⟩ := Cond.stringLink_spec hownT wT
    obtain ⟨k2, hk2, hke2, -, ee2, -⟩ := hW2.2.2.2 _ kT hkT
    cases hk2.symm.trans hkk
    have hcl : NL = true → Z.WarmedH T₂.vm := fun e => by first | exact absurd e (by decide) | exact absurd hm (List.not_mem_nil)
    have hintJ : T₂.vm.interned = T.vm.interned ∨ ∃ (u : Array UInt16) (a' : Addr), T₂.vm.interned = T.vm.interned.push (u, a') ∧ (T.vm.interned.find? (fun p => p.1 == u) = none → Sx Z T₂.heap Ds a' u) := by
      rcases hint with e | ⟨u, a', hu', e⟩
      · exact Or.inl e
      · refine Or.inr ⟨u, a', e, fun hnone => ?_⟩
        have ha' : T.heap.size ≤ a' := by
          rcases hint1.2 with q | ⟨u2, a2, q, r1, -⟩
          · rw [q] at e
            have := congrArg Array.size e
            simp at this
          · have := q.symm.trans e
            have := Array.push_inj_right.mp this
            cases this
            exact r1
        -- a is a'
        have hopT : kT.resolved[idx]? = some none := open_stays X.warmed hkB hkT hcf hnm hopen
        have eu : u = unT := sameU _ _ hu' htT
        have eus : us = u := sameU _ _ htu hu'
        have haa : a = a' := by
          rcases ee2 idx with e0 | ⟨-, r, e1, hr | ⟨a3, t3, si, us3, rfl, -, z3, z4, z5⟩⟩
          · have := (e0.trans hopT).symm.trans hrr
            simp at this
          · exfalso
            cases r <;> simp [State.rightAt, hkT, hcfT, hnmT] at hr
          · rw [hcfT] at z3 z4
            have e3 : si = iT := by
              have := z3.symm.trans hpT
              simpa using this
            subst e3
            have e4 : us3 = unT := by simpa [ConstantPool.utf8?, huT] using z4.symm
            subst e4
            have ea : a3 = a := by have := e1.symm.trans hrr; simpa using this
            subst ea
            rw [e, Array.find?_push, ← eu, hnone, Option.none_or] at z5
            simp at z5
            exact z5.symm
        subst haa
        rw [← eus]
        exact Sx.of_in hin (State.Warmed39.trans hZT hW2).alike.symm (Nat.le_refl _) ha' (fun x hx => by rw [h5]; exact (h4.2.2.1 x hx).2)
    have J2 : JJ Z n0 T₂.vm T₂.heap Ds := (JT.ext E).step hZT hW2 hintJ hcl
    have hcf2 : kk.cf = some cfT := by rw [hke2]; exact hcfT
    have hown2 : T₂.vm.findClass own = some C.m.cls := by rw [hW2.alike.findClass]; exact hownT
    have SX := J2.2.2.2.2 own idx hm _ kk cfT iT unT a hown2 hkk hcf2 hpT huT (Or.inl hrr)
    obtain ⟨hstr, hnin⟩ := SX.str htT hlat hcs hlen
    exact ⟨T₂.heap, a, E, hstr, hnin, T₂, locs, T₂.vm, T₂.heap.size, X2, h1.trans hS2 (Nat.le_trans h2 E.1), Nat.le_refl _, State.Warmed39.trans hZT hW2, J2, rfl, h6, ⟨h7.1, h7.2.1, h7.2.2.1, hown2, h7.2.2.2.2⟩, fun t ht => k _ (st _ ht)⟩
  · -- resolved already
    have SX := h4.2.2.2.2 own idx hm _ kB cf i units a hownB hkB hcf hpB hu (Or.inl hra)
    obtain ⟨hstr, hnin⟩ := SX.str htext hlat hcs hlen
    have L : Lit (C.s.setVm vm0) own idx a := by
      have hkB' : vm0.classes[C.m.cls]? = some kB := hkB
      have hown' : vm0.findClass own = some C.m.cls := hownB
      simp [Lit, State.resolvedAt?, State.setVm, hown', hkB', hra]
    have st := ldcAgain X h7.1 h3 h7.2.2.2.1 w L (g := mkF C.m pc Ls S) rfl (hb h7.2.1 hd)
    exact ⟨h, a, ⟨Nat.le_refl _, fun _ _ q => q⟩, hstr, hnin, T, locs, vm0, k0, X.mono (by omega) (by omega), h1, h2, h3, h4, h5, h6, h7, fun t ht => k _ (st _ ht)⟩
theorem own_sx0 {s : State} {a : Addr} {units : Array UInt16} (F : SlOf s a units) : Sx s s.heap [] a units := by
  obtain ⟨q, cS, h1, h2, h3, h4, h5⟩ := F
  exact ⟨q, cS, h1, h2, h3, h4, h5, by simp, by simp⟩
theorem ch0 : ∀ c ∈ ([] : List Int32), ¬ c < 0 ∧ ¬ (255 : Int32) < c := fun c hc => nomatch hc
theorem chS {x : Int32} {cs : List Int32} (p : ¬ x < 0 ∧ ¬ (255 : Int32) < x) (q : ∀ c ∈ cs, ¬ c < 0 ∧ ¬ (255 : Int32) < c) : ∀ c ∈ x :: cs, ¬ c < 0 ∧ ¬ (255 : Int32) < c := fun c hc => by
  rcases List.mem_cons.mp hc with e | e
  · rw [e]; exact p
  · exact q c e
def bi (b : Bool) : Int32 := if b then 1 else 0
theorem bi_nar (b : Bool) : nar .boolean (bi b) = bi b := by cases b <;> rfl
theorem memS {n : Addr} {Ns Ds : List Addr} (h : n ∈ Ds) (f : ∀ x ∈ Ns, x ∈ Ds) : ∀ x ∈ n :: Ns, x ∈ Ds := fun x hx => by
  rcases List.mem_cons.mp hx with e | e
  · rw [e]; exact h
  · exact f x e
theorem own_toInt {x : Int32} (h : ¬ x < 0 ∧ ¬ (255 : Int32) < x) : 0 ≤ x.toInt ∧ x.toInt ≤ 255 := by
  obtain ⟨h1, h2⟩ := h
  rw [Int32.lt_iff_toInt_lt] at h1 h2
  have e0 : (0 : Int32).toInt = 0 := rfl
  have e1 : (255 : Int32).toInt = 255 := rfl
  omega
theorem ofFin {x : Int32} (h : ¬ x < 0 ∧ ¬ (255 : Int32) < x) : ∃ k : Fin 256, x = Int32.ofNat k.val := by
  have b := own_toInt h
  refine ⟨⟨x.toInt.toNat, by omega⟩, ?_⟩
  apply Int32.toInt_inj.mp
  rw [Int32.toInt_ofNat_of_lt (by show x.toInt.toNat < _; omega)]
  show x.toInt = (x.toInt.toNat : Int)
  omega
theorem nar_of {x : Int32} (h : ¬ x < 0 ∧ ¬ (255 : Int32) < x) : nar .char x = x := by
  obtain ⟨k, rfl⟩ := ofFin h
  revert k; decide +kernel
theorem own_nr {ty : FieldType} {v : Value} (ht : ty.isReference = true) (hv : v.isRef = true) : narrow ty v = v := by
  rcases ref_cases hv with rfl | ⟨_, rfl⟩ <;> cases ty <;> first | rfl | cases ht
theorem own_fr {ty : FieldType} {v : Value} (ht : ty.isReference = true) (hv : v.isRef = true) : fits ty v = true := by
  rcases ref_cases hv with rfl | ⟨_, rfl⟩ <;> cases ty <;> first | rfl | cases ht
theorem own_nsroot {Z : State} {a0 : Array Value} {O K : String} {n : Nat} (w : (Jvm.Cond.noSuperclass O).before a0 Z = true) (wi : (Jvm.Cond.instantiable K n).before a0 Z = true) (hn : O ≠ K) : NS Z O K := by
  obtain ⟨c, k, h1, h2, h3, -, -⟩ := Cond.noSuperclass_spec w
  obtain ⟨t, kt, g1, -⟩ := Cond.instantiable_spec wi
  have ne := ids_ne h1 g1 hn
  refine ⟨c, t, h1, g1, fun fuel => ?_⟩
  cases fuel with
  | zero => rfl
  | succ f => simp [Vm.isSubclassAux, ne, h2, h3]
theorem own_nsno {Z : State} {a0 : Array Value} {Cc S K : String} {m : Nat} (w : (Jvm.Cond.superclass Cc S).before a0 Z = true) (wi : (Jvm.Cond.instantiable K m).before a0 Z = true) (n : NS Z Cc K) (hn : Cc ≠ K) : ∃ c t, Z.vm.findClass Cc = some c ∧ Z.vm.findClass K = some t ∧ Z.vm.assignable c t = false := by
  obtain ⟨c, t, h0, g0, n3⟩ := n
  obtain ⟨p, k, kp, h1, h2, h3, h4, h5, -, h7⟩ := Cond.superclass_spec h0 w
  obtain ⟨t', k', g1, g2, g5, g7, -⟩ := Cond.instantiable_spec wi
  cases g0.symm.trans g1
  have g8 : k'.isInterface = false := by simp only [Bool.or_eq_false_iff] at g7; exact g7.1
  have ne := ids_ne h0 g0 hn
  refine ⟨c, t, h0, g0, ?_⟩
  show Z.vm.assignableAux (255 + 1) c t = false
  simp [Vm.assignableAux, ne, h2, g2, h5, g5, g8, Vm.isSubclass, n3]
/-! clones of arrays; more steps -/
theorem arv_of_arh {Z : State} {h : Heap} {a : Addr} {k : ClassId} {ty : FieldType} {z : Int32} {vs : List Value} {dv : Value} (F : Arh Z h a k ty z [] vs dv) : Arv Z h a k ty z vs dv := F
theorem Rc.clone {pc' idx W cap : Nat} {ad : String} {a : Addr} {kA : ClassId} {ty : FieldType} {z : Int32} {vs : List Value} {dv : Value} (H : Rc C R own bs ml Z n0 ce sl pc Ls (.ref a :: rest) h Ds)
    (w1 : (Jvm.Cond.methodLink own idx ⟨ad, "clone", "()Ljava/lang/Object;"⟩).before a0 Z = true) (w2 : (Jvm.Cond.sameMethod ad "java/lang/Object" "clone" "()Ljava/lang/Object;").before a0 Z = true) (w3 : (Jvm.Cond.native ⟨"java/lang/Object", "clone", "()Ljava/lang/Object;"⟩).before a0 Z = true)
    (w4 : (Jvm.Cond.instanceMethod ⟨"java/lang/Object", "clone", "()Ljava/lang/Object;"⟩).before a0 Z = true) (w5 : (Jvm.Cond.selects ad ⟨ad, "clone", "()Ljava/lang/Object;"⟩ ⟨"java/lang/Object", "clone", "()Ljava/lang/Object;"⟩).before a0 Z = true) (w6 : (Jvm.Cond.castable ad "java/lang/Cloneable").before a0 Z = true)
    (V : Arv Z h a kA ty z vs dv) (E : Exa Z h a ad) (hsz : Ls.size = ml) (hd : decode bs pc = .ok (.invokevirtual idx, 3)) (hf : 1 ≤ R.frames) (hW : (rest.map fun v => v.category).sum = W) (hl : W + 14 ≤ R.locals) (hcap : z.toNatClampNeg ≤ cap) (hc : ce + 1 ≤ R.cells) (hsl : sl + cap ≤ R.slots) (hp : pc + 3 = pc') :
    ∃ (h' : Heap) (b : Addr), b = h.size ∧ Ext h h' ∧ Arv Z h' b kA ty z vs dv ∧ Exa Z h' b ad ∧ Rc C R own bs ml Z n0 (ce + 1) (sl + cap) pc' Ls (.ref b :: rest) h' (b :: Ds) := by
  subst hp
  obtain ⟨T, locs, vm0, k0, X, h1, h2, h3, h4, h5, h6, h7, k⟩ := H
  obtain ⟨T', h', X', e', E', A', F', st⟩ := RoadKit.cloneH X h7.1 (Z := Z) h3 h7.2.2.2.1 w1 w2 w3 w4 w5 w6 h5 V.arh E (g := mkF C.m pc Ls (.ref a :: rest)) rfl (hsz.trans h7.2.2.1.symm) rfl (hb h7.2.1 hd) hf (W := W) (by show 2 * 0 + _ ≤ _; omega) hl hcap hc hsl
  exact ⟨h', h.size, rfl, E', arv_of_arh A', F', T', _, vm0, k0, X', h1, Nat.le_trans h2 E'.1, h3, h4.born E' F'.lt, e', h6, h7, fun t ht => k _ (st _ ht)⟩
theorem Rc.ldc2L {pc' idx : Nat} {v : Int64} (H : Rc C R own bs ml Z n0 ce sl pc Ls S h Ds) (w : (Jvm.Cond.constantLong own idx v).before a0 Z = true) (hd : decode bs pc = .ok (.ldc2_w idx, 3)) (hp : pc + 3 = pc') : Rc C R own bs ml Z n0 ce sl pc' Ls (.long v :: S) h Ds := by
  subst hp
  exact H.goX fun s T locs t X hZ hown eT hx hby kk => X.ldc2Long hx hown (mvT hZ w) (g := mkF C.m pc Ls S) rfl (hb hby hd) _ kk
theorem Rc.ldcI {pc' idx : Nat} {v : Int32} (H : Rc C R own bs ml Z n0 ce sl pc Ls S h Ds) (w : (Jvm.Cond.constant own idx v).before a0 Z = true) (hd : decode bs pc = .ok (.ldc idx, 2)) (hp : pc + 2 = pc') : Rc C R own bs ml Z n0 ce sl pc' Ls (.int v :: S) h Ds := by
  subst hp
  exact H.goX fun s T locs t X hZ hown eT hx hby kk => X.ldcInt hx hown (mvT hZ w) (g := mkF C.m pc Ls S) rfl (hb hby hd) _ kk
/-! the case's words, read -/
section GivenWords
variable {s : State} {args : Array Value} {t u : Term} {a b : Addr} {cl : Cell} {ty : FieldType} {i k : Int32} {v : Value} {Cc n d : String}
theorem g_int (h : (Jvm.Cond.eq t (.int k)).value args s none s [] = some true) : t.eval args s none [] s = some (.int k) := Cond.eq_int (Cond.before_iff.mpr h) rfl
theorem g_ref (h : (Jvm.Cond.eq t u).value args s none s [] = some true) (hu : u.eval args s none [] s = some (.ref b)) : t.eval args s none [] s = some (.ref b) := by
  obtain ⟨x, y, h1, h2, h3, h4⟩ := cmp_v (Or.inl h)
  rw [hu] at h2
  cases h2
  have hx : x.isRef = true := by
    cases x <;> simp_all [Kin, Value.isRef]
  have q := gotT (eq_R h1 hu hx rfl) h
  rw [h1, q]
theorem g_fld (ht : t.eval args s none [] s = some (.ref a)) (e : (Term.field t Cc n d).eval args s none [] s = some v) : Fld s s.heap a Cc n d v := Fld.start (by rw [← fld_at (args := args) (first := s) (o := none) (idx := []) (C := Cc) (n := n) (dd := d) ht]; exact e)
theorem g_elem (e : (Term.elem t (.int i)).eval args s none [] s = some v) (ht : t.eval args s none [] s = some (.ref a)) (A : Arr s s.heap a cl ty) : cl.slots[i.toNatClampNeg]? = some v := (elem_in e ht rfl A.1).2
theorem g_len (e : (Term.length t).eval args s none [] s = some (.int k)) (ht : t.eval args s none [] s = some (.ref a)) (A : Arr s s.heap a cl ty) : cl.slots.size < 2 ^ 31 ∧ cl.slots.size.toInt32 = k := by
  have ha : s.arrayAt? a = some cl := A.fin (own_al s)
  have hl : cl.slots.size < 2 ^ 31 := SBG.length_lt ht ha e
  have q := len_f ht ha hl
  rw [q] at e
  exact ⟨hl, by simpa using e⟩
theorem g_str {cs : List Int32} {kb : ClassId} {b' : Addr} (X : Exa s s.heap a "java/lang/String") (Fc : Fld s s.heap a "java/lang/String" "coder" "B" (.int 0)) (Fv : Fld s s.heap a "java/lang/String" "value" "[B" (.ref b')) (V : Arv s s.heap b' kb .byte (Int32.ofNat cs.length) (bytesOfCs cs) (.int 0)) (h1 : ∀ c ∈ cs, ¬ c < 0 ∧ ¬ (255 : Int32) < c) (h2 : cs.length ≤ 4000) : IsStr s s.heap a cs := ⟨X, Fc, h1, h2, b', kb, Fv, V⟩
end GivenWords
/-! iaload; a call of a private instance method -/
theorem Rc.iaload {pc' : Nat} {a : Addr} {j z : Int32} {v : Value} {kA : ClassId} {vs : List Value} {dv : Value} (H : Rc C R own bs ml Z n0 ce sl pc Ls (.int j :: .ref a :: rest) h Ds) (V : Arv Z h a kA .int z vs dv) (hj : ¬ j < 0 ∧ j < z) (hv : vs.getD j.toNatClampNeg dv = v) (hd : decode bs pc = .ok (.iaload, 1)) (hp : pc + 1 = pc') : Rc C R own bs ml Z n0 ce sl pc' Ls (v :: rest) h Ds := by
  subst hp
  obtain ⟨cl, Ar, q1, q2, q3, q4, q5⟩ := V
  exact H.goX fun s T locs t X hZ hown eT hx hby kk => X.iaload hx (j := j) (v := v) (by rw [eT]; exact Ar.1) (State.isArrayOf_alike hZ.alike Ar.2.1) Ar.2.2 (inb_of q2 hj) (q4.at (inb_of q2 hj) hv) (g := mkF C.m pc Ls (.int j :: .ref a :: rest)) rfl rfl (hb hby hd) _ kk
theorem Rc.callP {pc' : Nat} {y : MethodName} {idx ml' W : Nat} {by' : ByteArray} {ret' : Option FieldType} {rm : Room} {a : Addr} {argsL : List Value} {Q : Option Value → Heap → List Addr → Prop} (H : Rc C R own bs ml Z n0 ce sl pc Ls S h Ds)
    (hlink : (Jvm.Cond.methodLink own idx y).before a0 Z = true) (hpriv : (Jvm.Cond.privateMethod y).before a0 Z = true) (hsel : (Jvm.Cond.selects y.cls y y).before a0 Z = true) (hinst : (Jvm.Cond.instanceMethod y).before a0 Z = true) (hinit : (Jvm.Cond.initialized y.cls).before a0 Z = true) (hcode : (Jvm.Cond.code y by' ml' ret').before a0 Z = true) (hy : NoMH y)
    (E : Exa Z h a y.cls) (K : Ctr C.l Z y by' ml' ret' [] rm (.ref a :: argsL).toArray h n0 Ds Q) (hsz : Ls.size = ml) (hlen : ∀ sig, parseMethodDescriptor y.desc = some sig → argsL.length = sig.parameters.length) (hst : S = argsL.reverse ++ .ref a :: rest) (hW : (rest.map fun v => v.category).sum = W)
    (hd : decode bs pc = .ok (.invokevirtual idx, 3)) (hfr : rm.frames + 1 ≤ R.frames) (hlo : W + (ml' + 11) + rm.locals ≤ R.locals) (hce : ce + rm.cells ≤ R.cells) (hsl : sl + rm.slots ≤ R.slots) (hp : pc + 3 = pc') :
    ∃ (v : Option Value) (h' : Heap) (Ds' : List Addr), Q v h' Ds' ∧ Rc C R own bs ml Z n0 (ce + rm.cells) (sl + rm.slots) pc' Ls (v.toList ++ rest) h' Ds' := by
  subst hp hst
  obtain ⟨T, locs, vm0, k0, X, h1, h2, h3, h4, h5, h6, h7, k⟩ := H
  obtain ⟨cq, kq, qa, qb, ⟨cellB, hcellT, hclsB, hstatB⟩⟩ := isOf (s := C.s.setVm vm0) h3 h5 E
  obtain ⟨v, vm₁, B, hw1, X', hS', hgr, hq, st⟩ := X.privateBackS h7.1 (y := y) h7.2.2.2.1 (mvT (s := C.s.setVm vm0) h3 hlink) (mvT (s := C.s.setVm vm0) h3 hinst) (mvT (s := C.s.setVm vm0) h3 hsel) (Cond.privateMethod_at (args := C.args) (mvT (s := C.s.setVm vm0) h3 hpriv)) (mvT (s := C.s.setVm vm0) h3 hcode) hy (ctrBack (s := C.s.setVm vm0) (W := W) K h3 h4 hcode hinit hfr hlo) (g := mkF C.m pc Ls (argsL.reverse ++ .ref a :: rest)) rfl (hsz.trans h7.2.2.1.symm) (Steps.refl _) hcellT (fun z h => by rw [h] at hstatB; cases hstatB) hlen rfl (by show 2 * 0 + _ ≤ _; omega) (hb h7.2.1 hd) (fun vm₁ hw => ⟨rfl, h5, hce, hsl⟩)
  exact own_fin h1 h2 h3 h5 h6 h7 k X' hS' hgr hq st
/-! the String laws of the paste, in the forward form -/
abbrev CompactOn (Z : State) : Prop := ∃ z : Int32, Sta Z Z.heap "java/lang/String" "COMPACT_STRINGS" "Z" (.int z) ∧ ¬ z = 0
abbrev SiooOk (Z : State) : Prop := ∃ fm : Value, Sta Z Z.heap "jdk/internal/util/Preconditions" "SIOOBE_FORMATTER" "Ljava/util/function/BiFunction;" fm ∧ fm.isRef = true
theorem own_up {cs : List Int32} (h : ∀ c ∈ cs, ¬ c < 0 ∧ ¬ (255 : Int32) < c) : ∀ c ∈ cs, ¬ c < 0 ∧ ¬ (65535 : Int32) < c := fun c hc => ⟨(h c hc).1, fun q => (h c hc).2 (by rw [Int32.lt_iff_toInt_lt] at q ⊢; have e1 : (65535 : Int32).toInt = 65535 := rfl; have e2 : (255 : Int32).toInt = 255 := rfl; omega)⟩
end OwnKit
theorem own_and255 (x : Int32) : ∃ k : Fin 256, x &&& 255 = Int32.ofNat k.val := by
  have h : (x &&& 255).toBitVec.toNat < 256 := by
    simp only [Int32.toBitVec_and, BitVec.toNat_and]
    exact Nat.lt_succ_of_le Nat.and_le_right
  refine ⟨⟨_, h⟩, ?_⟩
  apply Int32.toBitVec_inj.mp
  show _ = BitVec.ofNat 32 _
  rw [BitVec.ofNat_toNat]; simp
theorem own_and7 (x : Int32) : ∃ k : Fin 8, x &&& 7 = Int32.ofNat k.val := by
  have h : (x &&& 7).toBitVec.toNat < 8 := by
    simp only [Int32.toBitVec_and, BitVec.toNat_and]
    exact Nat.lt_succ_of_le Nat.and_le_right
  refine ⟨⟨_, h⟩, ?_⟩
  apply Int32.toBitVec_inj.mp
  show _ = BitVec.ofNat 32 _
  rw [BitVec.ofNat_toNat]; simp
theorem own_and3 (x : Int32) : ∃ k : Fin 4, x &&& 3 = Int32.ofNat k.val := by
  have h : (x &&& 3).toBitVec.toNat < 4 := by
    simp only [Int32.toBitVec_and, BitVec.toNat_and]
    exact Nat.lt_succ_of_le Nat.and_le_right
  refine ⟨⟨_, h⟩, ?_⟩
  apply Int32.toBitVec_inj.mp
  show _ = BitVec.ofNat 32 _
  rw [BitVec.ofNat_toNat]; simp
theorem own_and1 (x : Int32) : ∃ k : Fin 2, x &&& 1 = Int32.ofNat k.val := by
  have h : (x &&& 1).toBitVec.toNat < 2 := by
    simp only [Int32.toBitVec_and, BitVec.toNat_and]
    exact Nat.lt_succ_of_le Nat.and_le_right
  refine ⟨⟨_, h⟩, ?_⟩
  apply Int32.toBitVec_inj.mp
  show _ = BitVec.ofNat 32 _
  rw [BitVec.ofNat_toNat]; simp
theorem own_lt {i j : Nat} (hj : j ≤ 4000) (h : i < j) : Int32.ofNat i < Int32.ofNat j := by
  rw [Int32.lt_iff_toInt_lt, Int32.toInt_ofNat_of_lt (by omega), Int32.toInt_ofNat_of_lt (by omega)]; omega
theorem own_nlt {i j : Nat} (hi : i ≤ 4000) (h : j ≤ i) : ¬ Int32.ofNat i < Int32.ofNat j := by
  rw [Int32.lt_iff_toInt_lt, Int32.toInt_ofNat_of_lt (by omega), Int32.toInt_ofNat_of_lt (by omega)]; omega
theorem i32_succ (i : Nat) : Int32.ofNat i + 1 = Int32.ofNat (i + 1) := by
  apply Int32.toBitVec_inj.mp
  show BitVec.ofNat 32 i + 1#32 = BitVec.ofNat 32 (i + 1)
  rw [BitVec.ofNat_add]
theorem nar_i2c (x : Int32) : nar .char x.toUInt32.toUInt16.toUInt32.toInt32 = x.toUInt32.toUInt16.toUInt32.toInt32 := by
  generalize x.toUInt32.toUInt16 = y
  simp [nar]
theorem c255 (x : Int32) : ¬ (x &&& (255 : Int32)).toUInt32.toUInt16.toUInt32.toInt32 < 0 ∧ ¬ (255 : Int32) < (x &&& (255 : Int32)).toUInt32.toUInt16.toUInt32.toInt32 := by
  obtain ⟨k, hk⟩ := own_and255 x
  rw [hk]
  clear hk; revert k; decide +kernel
theorem own_ltI {k n : Nat} (hk : k ≤ 4000) (hn : n ≤ 4000) (h : Int32.ofNat k < Int32.ofNat n) : k < n := by
  apply Classical.byContradiction; intro q
  exact own_nlt hk (by omega) h
theorem own_getD {cs : List Int32} {k : Nat} (h : k < cs.length) (p : ∀ c ∈ cs, ¬ c < 0 ∧ ¬ (255 : Int32) < c) : ¬ cs.getD k 0 < 0 ∧ ¬ (255 : Int32) < cs.getD k 0 := by
  rw [List.getD_eq_getElem?_getD, List.getElem?_eq_getElem h]
  exact p _ (List.getElem_mem h)
theorem own_l255 (x : Int64) : ∃ k : Fin 256, x &&& 255 = Int64.ofNat k.val := by
  have h : (x &&& 255).toBitVec.toNat < 256 := by
    simp only [Int64.toBitVec_and, BitVec.toNat_and]
    exact Nat.lt_succ_of_le Nat.and_le_right
  refine ⟨⟨_, h⟩, ?_⟩
  apply Int64.toBitVec_inj.mp
  show _ = BitVec.ofNat 64 _
  rw [BitVec.ofNat_toNat]; simp
theorem cl255 (x : Int64) : ¬ (x &&& (255 : Int64)).toInt32.toUInt32.toUInt16.toUInt32.toInt32 < 0 ∧ ¬ (255 : Int32) < (x &&& (255 : Int64)).toInt32.toUInt32.toUInt16.toUInt32.toInt32 := by
  obtain ⟨k, hk⟩ := own_l255 x
  rw [hk]
  clear hk; revert k; decide +kernel
theorem own_clamp {k : Nat} (h : k < 2147483648) : (Int32.ofNat k).toNatClampNeg = k := by
  show (Int32.ofNat k).toInt.toNat = k
  rw [Int32.toInt_ofNat_of_lt (by omega)]; omega
theorem own_j {k n : Nat} (hn : n ≤ 4000) (h : k < n) : ¬ Int32.ofNat k < 0 ∧ Int32.ofNat k < Int32.ofNat n := ⟨own_nlt (j := 0) (by omega) (Nat.zero_le _), own_lt hn h⟩
theorem own_bget {cs : List Int32} {k : Nat} (hl : cs.length ≤ 4000) (h : k < cs.length) : (bytesOfCs cs).getD (Int32.ofNat k).toNatClampNeg (.int 0) = .int (cs.getD k 0).toInt8.toInt32 := by
  rw [own_clamp (by omega)]
  simp only [bytesOfCs, List.getD_eq_getElem?_getD, List.getElem?_map, List.getElem?_eq_getElem h]
  rfl
theorem own_b2c {c : Int32} (h : ¬ c < 0 ∧ ¬ (255 : Int32) < c) : (c.toInt8.toInt32 &&& (255 : Int32)).toUInt32.toUInt16.toUInt32.toInt32 = c := by
  obtain ⟨k, rfl⟩ := ofFin h
  clear h; revert k; decide +kernel
theorem nar_i2b (x : Int32) : nar .byte x.toInt8.toInt32 = x.toInt8.toInt32 := by
  generalize x.toInt8 = y
  simp [nar]
theorem own_shr0 (c : Int32) : c >>> ((0 : Int32) &&& 31) = c := by
  apply Int32.toBitVec_inj.mp
  simp
def bytes16 : List Int32 → List Value
  | [] => []
  | c :: cs => .int (StrChars.lo8 c) :: .int (StrChars.hi8 c) :: bytes16 cs
theorem b16_lo : ∀ {cs : List Int32} {k : Nat}, k < cs.length → (bytes16 cs).getD (2 * k) (.int 0) = .int (StrChars.lo8 (cs.getD k 0))
  | [], k, h => absurd h (Nat.not_lt_zero k)
  | c :: cs, 0, _ => rfl
  | c :: cs, k + 1, h => by
    have q := b16_lo (cs := cs) (k := k) (Nat.lt_of_succ_lt_succ h)
    exact q
theorem b16_hi : ∀ {cs : List Int32} {k : Nat}, k < cs.length → (bytes16 cs).getD (2 * k + 1) (.int 0) = .int (StrChars.hi8 (cs.getD k 0))
  | [], k, h => absurd h (Nat.not_lt_zero k)
  | c :: cs, 0, _ => rfl
  | c :: cs, k + 1, h => by
    have q := b16_hi (cs := cs) (k := k) (Nat.lt_of_succ_lt_succ h)
    exact q
def Is16 (Z : State) (h : Heap) (a : Addr) (cs : List Int32) : Prop :=
  Exa Z h a "java/lang/String" ∧ Fld Z h a "java/lang/String" "coder" "B" (.int 1) ∧ (∀ c ∈ cs, ¬ c < 0 ∧ ¬ (65535 : Int32) < c) ∧ cs.length < 8 ∧
    ∃ (t : Addr) (kb : ClassId), Fld Z h a "java/lang/String" "value" "[B" (.ref t) ∧ Arv Z h t kb .byte (Int32.ofNat (2 * cs.length)) (bytes16 cs) (.int 0)
theorem Is16.keep {Z : State} {h h' : Heap} {a : Addr} {cs : List Int32} {ws : List Addr} (F : Is16 Z h a cs) (K : Keep h h' ws) (q : a ∉ ws) (q' : ∀ w ∈ ws, NotB Z h w) : Is16 Z h' a cs := by
  obtain ⟨f1, f2, f3, f4, t, kb, f5, f6⟩ := F
  exact ⟨f1.keep K, f2.keep K q, f3, f4, t, kb, f5.keep K q, f6.keep K (fun m => q' t m t kb _ _ _ f6 rfl)⟩
def IsTx (Z : State) (h : Heap) (a : Addr) (cs : List Int32) : Prop := IsStr Z h a cs ∨ Is16 Z h a cs
theorem IsTx.keep {Z : State} {h h' : Heap} {a : Addr} {cs : List Int32} {ws : List Addr} (F : IsTx Z h a cs) (K : Keep h h' ws) (q : a ∉ ws) (q' : ∀ w ∈ ws, NotB Z h w) : IsTx Z h' a cs := F.imp (fun f => f.keep K q q') (fun f => f.keep K q q')
theorem IsTx.exa {Z : State} {h : Heap} {a : Addr} {cs : List Int32} (F : IsTx Z h a cs) : Exa Z h a "java/lang/String" := F.elim (fun f => f.1) (fun f => f.1)
def U16ok (Z : State) : Prop := Sta Z Z.heap "java/lang/StringUTF16" "$assertionsDisabled" "Z" (.int (1 : Int32)) ∧ Sta Z Z.heap "java/lang/StringUTF16" "HI_BYTE_SHIFT" "I" (.int (0 : Int32)) ∧ Sta Z Z.heap "java/lang/StringUTF16" "LO_BYTE_SHIFT" "I" (.int (8 : Int32))
theorem nar_ch {c : Int32} (h : ¬ c < 0 ∧ ¬ (65535 : Int32) < c) : nar .char c = c := by
  have e := StrChars.pair_says h.1 h.2
  have q := nar_i2c (((StrChars.lo8 c &&& 255) <<< ((0 : Int32) &&& 31)) ||| ((StrChars.hi8 c &&& 255) <<< ((8 : Int32) &&& 31)))
  unfold StrChars.pairCh at e
  rw [e] at q
  exact q
theorem own_getD16 {cs : List Int32} {k : Nat} (h : k < cs.length) (p : ∀ c ∈ cs, ¬ c < 0 ∧ ¬ (65535 : Int32) < c) : ¬ cs.getD k 0 < 0 ∧ ¬ (65535 : Int32) < cs.getD k 0 := by
  rw [List.getD_eq_getElem?_getD, List.getElem?_eq_getElem h]
  exact p _ (List.getElem_mem h)
theorem ch16 (x : Int32) : ¬ x.toUInt32.toUInt16.toUInt32.toInt32 < 0 ∧ ¬ (65535 : Int32) < x.toUInt32.toUInt16.toUInt32.toInt32 := by
  generalize x.toUInt32.toUInt16 = y
  have h : y.toBitVec.toNat < 65536 := y.toBitVec.isLt
  have e : (y.toUInt32.toInt32).toInt = (y.toBitVec.toNat : Int) := by
    show BitVec.toInt (y.toBitVec.setWidth 32) = _
    rw [BitVec.toInt_eq_toNat_cond, BitVec.toNat_setWidth]
    have : y.toBitVec.toNat % 2 ^ 32 = y.toBitVec.toNat := Nat.mod_eq_of_lt (by omega)
    rw [this]
    split <;> omega
  have e0 : (0 : Int32).toInt = 0 := rfl
  have e1 : (65535 : Int32).toInt = 65535 := rfl
  constructor
  · rw [Int32.lt_iff_toInt_lt, e, e0]; omega
  · rw [Int32.lt_iff_toInt_lt, e, e1]; omega
theorem own_shl1 {k : Nat} (h : k < 8) : Int32.ofNat k <<< ((1 : Int32) &&& 31) = Int32.ofNat (2 * k) := by
  have t : ∀ k : Fin 8, Int32.ofNat k.val <<< ((1 : Int32) &&& 31) = Int32.ofNat (2 * k.val) := by decide +kernel
  exact t ⟨k, h⟩
theorem own_shr1 {k : Nat} (h : k < 8) : Int32.ofNat (2 * k) >>> ((1 : Int32) &&& 31) = Int32.ofNat k := by
  have t : ∀ k : Fin 8, Int32.ofNat (2 * k.val) >>> ((1 : Int32) &&& 31) = Int32.ofNat k.val := by decide +kernel
  exact t ⟨k, h⟩
theorem cu0 : ∀ c ∈ ([] : List Int32), ¬ c < 0 ∧ ¬ (65535 : Int32) < c := fun c hc => nomatch hc
theorem cuS {x : Int32} {cs : List Int32} (p : ¬ x < 0 ∧ ¬ (65535 : Int32) < x) (q : ∀ c ∈ cs, ¬ c < 0 ∧ ¬ (65535 : Int32) < c) : ∀ c ∈ x :: cs, ¬ c < 0 ∧ ¬ (65535 : Int32) < c := fun c hc => by
  rcases List.mem_cons.mp hc with e | e
  · rw [e]; exact p
  · exact q c e
theorem own_w46 {a0 : Array Value} {Z : State} (hw : ∀ d ∈ tables_1, d.before a0 Z = true) : (Jvm.Cond.fieldLink "java/lang/String" (38 : Nat) "java/lang/String" "COMPACT_STRINGS" "Z").before a0 Z = true := hw _ (List.mem_of_getElem? (i := 46) rfl)
theorem own_d8_0 : decode jdk_42_method_152_code 0 = .ok (.getstatic 38, 3) := by decide +kernel
theorem own_d8_3 : decode jdk_42_method_152_code 3 = .ok (.ifCond .eq 10, 3) := by decide +kernel
theorem own_d8_6 : decode jdk_42_method_152_code 6 = .ok (.aload_n 0, 1) := by decide +kernel
theorem own_w31 {a0 : Array Value} {Z : State} (hw : ∀ d ∈ tables_1, d.before a0 Z = true) : (Jvm.Cond.fieldLink "java/lang/String" (15 : Nat) "java/lang/String" "coder" "B").before a0 Z = true := hw _ (List.mem_of_getElem? (i := 31) rfl)
theorem own_d8_7 : decode jdk_42_method_152_code 7 = .ok (.getfield 15, 3) := by decide +kernel
theorem own_d8_10 : decode jdk_42_method_152_code 10 = .ok (.goto 4, 3) := by decide +kernel
theorem own_d8_14 : decode jdk_42_method_152_code 14 = .ok (.ireturn, 1) := by decide +kernel
theorem own_pn0 : plainName "java/lang/String" = true := by first | (simp [plainName, overriddenIn]; done) | decide +kernel
theorem own_d16_0 : decode jdk_42_method_154_code 0 = .ok (.getstatic 38, 3) := by decide +kernel
theorem own_d16_3 : decode jdk_42_method_154_code 3 = .ok (.ifCond .eq 14, 3) := by decide +kernel
theorem own_d16_6 : decode jdk_42_method_154_code 6 = .ok (.aload_n 0, 1) := by decide +kernel
theorem own_d16_7 : decode jdk_42_method_154_code 7 = .ok (.getfield 15, 3) := by decide +kernel
theorem own_d16_10 : decode jdk_42_method_154_code 10 = .ok (.ifCond .ne 7, 3) := by decide +kernel
theorem own_d16_13 : decode jdk_42_method_154_code 13 = .ok (.iconst 1, 1) := by decide +kernel
theorem own_d16_14 : decode jdk_42_method_154_code 14 = .ok (.goto 4, 3) := by decide +kernel
theorem own_d16_18 : decode jdk_42_method_154_code 18 = .ok (.ireturn, 1) := by decide +kernel
theorem own_d7_0 : decode jdk_42_method_54_code 0 = .ok (.aload_n 0, 1) := by decide +kernel
theorem own_w30 {a0 : Array Value} {Z : State} (hw : ∀ d ∈ tables_1, d.before a0 Z = true) : (Jvm.Cond.fieldLink "java/lang/String" (9 : Nat) "java/lang/String" "value" "[B").before a0 Z = true := hw _ (List.mem_of_getElem? (i := 30) rfl)
theorem own_d7_1 : decode jdk_42_method_54_code 1 = .ok (.getfield 9, 3) := by decide +kernel
theorem own_d7_4 : decode jdk_42_method_54_code 4 = .ok (.arraylength, 1) := by decide +kernel
theorem own_d7_5 : decode jdk_42_method_54_code 5 = .ok (.aload_n 0, 1) := by decide +kernel
theorem own_w41 {a0 : Array Value} {Z : State} (hw : ∀ d ∈ tables_1, d.before a0 Z = true) : (Jvm.Cond.methodLink "java/lang/String" (335 : Nat) ({ cls := "java/lang/String", name := "coder", desc := "()B" } : Jvm.MethodName)).before a0 Z = true := hw _ (List.mem_of_getElem? (i := 41) rfl)
theorem own_pd0 : parseMethodDescriptor "()B" = some ⟨[], some .byte⟩ := by decide +kernel
theorem own_d7_6 : decode jdk_42_method_54_code 6 = .ok (.invokevirtual 335, 3) := by decide +kernel
theorem own_w44 {a0 : Array Value} {Z : State} (hw : ∀ d ∈ tables_1, d.before a0 Z = true) : (Jvm.Cond.selects "java/lang/String" ({ cls := "java/lang/String", name := "coder", desc := "()B" } : Jvm.MethodName) ({ cls := "java/lang/String", name := "coder", desc := "()B" } : Jvm.MethodName)).before a0 Z = true := hw _ (List.mem_of_getElem? (i := 44) rfl)
theorem own_w42 {a0 : Array Value} {Z : State} (hw : ∀ d ∈ tables_1, d.before a0 Z = true) : (Jvm.Cond.declares ({ cls := "java/lang/String", name := "coder", desc := "()B" } : Jvm.MethodName)).before a0 Z = true := hw _ (List.mem_of_getElem? (i := 42) rfl)
theorem own_w43 {a0 : Array Value} {Z : State} (hw : ∀ d ∈ tables_1, d.before a0 Z = true) : (Jvm.Cond.instanceMethod ({ cls := "java/lang/String", name := "coder", desc := "()B" } : Jvm.MethodName)).before a0 Z = true := hw _ (List.mem_of_getElem? (i := 43) rfl)
theorem own_w12 {a0 : Array Value} {Z : State} (hw : ∀ d ∈ tables_1, d.before a0 Z = true) : (Jvm.Cond.initialized "java/lang/String").before a0 Z = true := hw _ (List.mem_of_getElem? (i := 12) rfl)
theorem own_w45 {a0 : Array Value} {Z : State} (hw : ∀ d ∈ tables_1, d.before a0 Z = true) : (Jvm.Cond.code ({ cls := "java/lang/String", name := "coder", desc := "()B" } : Jvm.MethodName) jdk_42_method_152_code (1 : Nat) (Option.some Jvm.ClassFile.FieldType.byte)).before a0 Z = true := hw _ (List.mem_of_getElem? (i := 45) rfl)
theorem own_d7_9 : decode jdk_42_method_54_code 9 = .ok (.ishr, 1) := by decide +kernel
theorem own_d7_10 : decode jdk_42_method_54_code 10 = .ok (.ireturn, 1) := by decide +kernel
theorem own_d19_0 : decode jdk_41_method_11_code 0 = .ok (.iload_n 0, 1) := by decide +kernel
theorem own_d19_1 : decode jdk_41_method_11_code 1 = .ok (.ifCond .lt 8, 3) := by decide +kernel
theorem own_d19_4 : decode jdk_41_method_11_code 4 = .ok (.iload_n 0, 1) := by decide +kernel
theorem own_d19_5 : decode jdk_41_method_11_code 5 = .ok (.iload_n 1, 1) := by decide +kernel
theorem own_d19_6 : decode jdk_41_method_11_code 6 = .ok (.if_icmp .lt 10, 3) := by decide +kernel
theorem own_d19_16 : decode jdk_41_method_11_code 16 = .ok (.iload_n 0, 1) := by decide +kernel
theorem own_d19_17 : decode jdk_41_method_11_code 17 = .ok (.ireturn, 1) := by decide +kernel
theorem own_pn1 : plainName "jdk/internal/util/Preconditions" = true := by first | (simp [plainName, overriddenIn]; done) | decide +kernel
theorem own_d18_0 : decode jdk_42_method_155_code 0 = .ok (.iload_n 0, 1) := by decide +kernel
theorem own_d18_1 : decode jdk_42_method_155_code 1 = .ok (.iload_n 1, 1) := by decide +kernel
theorem own_w83 {a0 : Array Value} {Z : State} (hw : ∀ d ∈ tables_1, d.before a0 Z = true) : (Jvm.Cond.fieldLink "java/lang/String" (1053 : Nat) "jdk/internal/util/Preconditions" "SIOOBE_FORMATTER" "Ljava/util/function/BiFunction;").before a0 Z = true := hw _ (List.mem_of_getElem? (i := 83) rfl)
theorem own_d18_2 : decode jdk_42_method_155_code 2 = .ok (.getstatic 1053, 3) := by decide +kernel
theorem own_w85 {a0 : Array Value} {Z : State} (hw : ∀ d ∈ tables_1, d.before a0 Z = true) : (Jvm.Cond.methodLink "java/lang/String" (1059 : Nat) ({ cls := "jdk/internal/util/Preconditions", name := "checkIndex", desc := "(IILjava/util/function/BiFunction;)I" } : Jvm.MethodName)).before a0 Z = true := hw _ (List.mem_of_getElem? (i := 85) rfl)
theorem own_pd1 : parseMethodDescriptor "(IILjava/util/function/BiFunction;)I" = some ⟨[.int, .int, (.object "java/util/function/BiFunction")], some .int⟩ := by decide +kernel
theorem own_d18_5 : decode jdk_42_method_155_code 5 = .ok (.invokestatic 1059, 3) := by decide +kernel
theorem own_w86 {a0 : Array Value} {Z : State} (hw : ∀ d ∈ tables_1, d.before a0 Z = true) : (Jvm.Cond.static ({ cls := "jdk/internal/util/Preconditions", name := "checkIndex", desc := "(IILjava/util/function/BiFunction;)I" } : Jvm.MethodName)).before a0 Z = true := hw _ (List.mem_of_getElem? (i := 86) rfl)
theorem own_w84 {a0 : Array Value} {Z : State} (hw : ∀ d ∈ tables_1, d.before a0 Z = true) : (Jvm.Cond.initialized "jdk/internal/util/Preconditions").before a0 Z = true := hw _ (List.mem_of_getElem? (i := 84) rfl)
theorem own_w87 {a0 : Array Value} {Z : State} (hw : ∀ d ∈ tables_1, d.before a0 Z = true) : (Jvm.Cond.code ({ cls := "jdk/internal/util/Preconditions", name := "checkIndex", desc := "(IILjava/util/function/BiFunction;)I" } : Jvm.MethodName) jdk_41_method_11_code (3 : Nat) (Option.some Jvm.ClassFile.FieldType.int)).before a0 Z = true := hw _ (List.mem_of_getElem? (i := 87) rfl)
theorem own_d18_8 : decode jdk_42_method_155_code 8 = .ok (.pop, 1) := by decide +kernel
theorem own_d18_9 : decode jdk_42_method_155_code 9 = .ok (.return_, 1) := by decide +kernel
theorem own_d17_0 : decode jdk_43_method_2_code 0 = .ok (.iload_n 1, 1) := by decide +kernel
theorem own_d17_1 : decode jdk_43_method_2_code 1 = .ok (.aload_n 0, 1) := by decide +kernel
theorem own_d17_2 : decode jdk_43_method_2_code 2 = .ok (.arraylength, 1) := by decide +kernel
theorem own_w80 {a0 : Array Value} {Z : State} (hw : ∀ d ∈ tables_1, d.before a0 Z = true) : (Jvm.Cond.methodLink "java/lang/StringLatin1" (9 : Nat) ({ cls := "java/lang/String", name := "checkIndex", desc := "(II)V" } : Jvm.MethodName)).before a0 Z = true := hw _ (List.mem_of_getElem? (i := 80) rfl)
theorem own_pd2 : parseMethodDescriptor "(II)V" = some ⟨[.int, .int], none⟩ := by decide +kernel
theorem own_d17_3 : decode jdk_43_method_2_code 3 = .ok (.invokestatic 9, 3) := by decide +kernel
theorem own_w81 {a0 : Array Value} {Z : State} (hw : ∀ d ∈ tables_1, d.before a0 Z = true) : (Jvm.Cond.static ({ cls := "java/lang/String", name := "checkIndex", desc := "(II)V" } : Jvm.MethodName)).before a0 Z = true := hw _ (List.mem_of_getElem? (i := 81) rfl)
theorem own_w82 {a0 : Array Value} {Z : State} (hw : ∀ d ∈ tables_1, d.before a0 Z = true) : (Jvm.Cond.code ({ cls := "java/lang/String", name := "checkIndex", desc := "(II)V" } : Jvm.MethodName) jdk_42_method_155_code (2 : Nat) (Option.none : Option Jvm.ClassFile.FieldType)).before a0 Z = true := hw _ (List.mem_of_getElem? (i := 82) rfl)
theorem own_d17_6 : decode jdk_43_method_2_code 6 = .ok (.aload_n 0, 1) := by decide +kernel
theorem own_d17_7 : decode jdk_43_method_2_code 7 = .ok (.iload_n 1, 1) := by decide +kernel
theorem own_d17_8 : decode jdk_43_method_2_code 8 = .ok (.baload, 1) := by decide +kernel
theorem own_d17_9 : decode jdk_43_method_2_code 9 = .ok (.sipush 255, 3) := by decide +kernel
theorem own_d17_12 : decode jdk_43_method_2_code 12 = .ok (.iand, 1) := by decide +kernel
theorem own_d17_13 : decode jdk_43_method_2_code 13 = .ok (.i2c, 1) := by decide +kernel
theorem own_d17_14 : decode jdk_43_method_2_code 14 = .ok (.ireturn, 1) := by decide +kernel
theorem own_pn2 : plainName "java/lang/StringLatin1" = true := by first | (simp [plainName, overriddenIn]; done) | decide +kernel
theorem own_d15_0 : decode jdk_42_method_56_code 0 = .ok (.aload_n 0, 1) := by decide +kernel
theorem own_w71 {a0 : Array Value} {Z : State} (hw : ∀ d ∈ tables_1, d.before a0 Z = true) : (Jvm.Cond.methodLink "java/lang/String" (492 : Nat) ({ cls := "java/lang/String", name := "isLatin1", desc := "()Z" } : Jvm.MethodName)).before a0 Z = true := hw _ (List.mem_of_getElem? (i := 71) rfl)
theorem own_pd3 : parseMethodDescriptor "()Z" = some ⟨[], some .boolean⟩ := by decide +kernel
theorem own_d15_1 : decode jdk_42_method_56_code 1 = .ok (.invokevirtual 492, 3) := by decide +kernel
theorem own_w74 {a0 : Array Value} {Z : State} (hw : ∀ d ∈ tables_1, d.before a0 Z = true) : (Jvm.Cond.selects "java/lang/String" ({ cls := "java/lang/String", name := "isLatin1", desc := "()Z" } : Jvm.MethodName) ({ cls := "java/lang/String", name := "isLatin1", desc := "()Z" } : Jvm.MethodName)).before a0 Z = true := hw _ (List.mem_of_getElem? (i := 74) rfl)
theorem own_w72 {a0 : Array Value} {Z : State} (hw : ∀ d ∈ tables_1, d.before a0 Z = true) : (Jvm.Cond.declares ({ cls := "java/lang/String", name := "isLatin1", desc := "()Z" } : Jvm.MethodName)).before a0 Z = true := hw _ (List.mem_of_getElem? (i := 72) rfl)
theorem own_w73 {a0 : Array Value} {Z : State} (hw : ∀ d ∈ tables_1, d.before a0 Z = true) : (Jvm.Cond.instanceMethod ({ cls := "java/lang/String", name := "isLatin1", desc := "()Z" } : Jvm.MethodName)).before a0 Z = true := hw _ (List.mem_of_getElem? (i := 73) rfl)
theorem own_w75 {a0 : Array Value} {Z : State} (hw : ∀ d ∈ tables_1, d.before a0 Z = true) : (Jvm.Cond.code ({ cls := "java/lang/String", name := "isLatin1", desc := "()Z" } : Jvm.MethodName) jdk_42_method_154_code (1 : Nat) (Option.some Jvm.ClassFile.FieldType.boolean)).before a0 Z = true := hw _ (List.mem_of_getElem? (i := 75) rfl)
theorem own_d15_4 : decode jdk_42_method_56_code 4 = .ok (.ifCond .eq 12, 3) := by decide +kernel
theorem own_d15_7 : decode jdk_42_method_56_code 7 = .ok (.aload_n 0, 1) := by decide +kernel
theorem own_d15_8 : decode jdk_42_method_56_code 8 = .ok (.getfield 9, 3) := by decide +kernel
theorem own_d15_11 : decode jdk_42_method_56_code 11 = .ok (.iload_n 1, 1) := by decide +kernel
theorem own_w76 {a0 : Array Value} {Z : State} (hw : ∀ d ∈ tables_1, d.before a0 Z = true) : (Jvm.Cond.methodLink "java/lang/String" (495 : Nat) ({ cls := "java/lang/StringLatin1", name := "charAt", desc := "([BI)C" } : Jvm.MethodName)).before a0 Z = true := hw _ (List.mem_of_getElem? (i := 76) rfl)
theorem own_pd4 : parseMethodDescriptor "([BI)C" = some ⟨[(.array .byte), .int], some .char⟩ := by decide +kernel
theorem own_d15_12 : decode jdk_42_method_56_code 12 = .ok (.invokestatic 495, 3) := by decide +kernel
theorem own_w77 {a0 : Array Value} {Z : State} (hw : ∀ d ∈ tables_1, d.before a0 Z = true) : (Jvm.Cond.static ({ cls := "java/lang/StringLatin1", name := "charAt", desc := "([BI)C" } : Jvm.MethodName)).before a0 Z = true := hw _ (List.mem_of_getElem? (i := 77) rfl)
theorem own_w78 {a0 : Array Value} {Z : State} (hw : ∀ d ∈ tables_1, d.before a0 Z = true) : (Jvm.Cond.initialized "java/lang/StringLatin1").before a0 Z = true := hw _ (List.mem_of_getElem? (i := 78) rfl)
theorem own_w79 {a0 : Array Value} {Z : State} (hw : ∀ d ∈ tables_1, d.before a0 Z = true) : (Jvm.Cond.code ({ cls := "java/lang/StringLatin1", name := "charAt", desc := "([BI)C" } : Jvm.MethodName) jdk_43_method_2_code (2 : Nat) (Option.some Jvm.ClassFile.FieldType.char)).before a0 Z = true := hw _ (List.mem_of_getElem? (i := 79) rfl)
theorem own_d15_15 : decode jdk_42_method_56_code 15 = .ok (.ireturn, 1) := by decide +kernel
theorem own_d27_0 : decode jdk_52_method_6_code 0 = .ok (.aload_n 0, 1) := by decide +kernel
theorem own_d27_1 : decode jdk_52_method_6_code 1 = .ok (.arraylength, 1) := by decide +kernel
theorem own_d27_2 : decode jdk_52_method_6_code 2 = .ok (.iconst 1, 1) := by decide +kernel
theorem own_d27_3 : decode jdk_52_method_6_code 3 = .ok (.ishr, 1) := by decide +kernel
theorem own_d27_4 : decode jdk_52_method_6_code 4 = .ok (.ireturn, 1) := by decide +kernel
theorem own_pn3 : plainName "java/lang/StringUTF16" = true := by first | (simp [plainName, overriddenIn]; done) | decide +kernel
theorem own_w101 {a0 : Array Value} {Z : State} (hw : ∀ d ∈ tables_1, d.before a0 Z = true) : (Jvm.Cond.fieldLink "java/lang/StringUTF16" (44 : Nat) "java/lang/StringUTF16" "$assertionsDisabled" "Z").before a0 Z = true := hw _ (List.mem_of_getElem? (i := 101) rfl)
theorem own_d24_0 : decode jdk_52_method_5_code 0 = .ok (.getstatic 44, 3) := by decide +kernel
theorem own_d24_3 : decode jdk_52_method_5_code 3 = .ok (.ifCond .ne 25, 3) := by decide +kernel
theorem own_d24_28 : decode jdk_52_method_5_code 28 = .ok (.iload_n 1, 1) := by decide +kernel
theorem own_d24_29 : decode jdk_52_method_5_code 29 = .ok (.iconst 1, 1) := by decide +kernel
theorem own_d24_30 : decode jdk_52_method_5_code 30 = .ok (.ishl, 1) := by decide +kernel
theorem own_d24_31 : decode jdk_52_method_5_code 31 = .ok (.istore_n 1, 1) := by decide +kernel
theorem own_d24_32 : decode jdk_52_method_5_code 32 = .ok (.aload_n 0, 1) := by decide +kernel
theorem own_d24_33 : decode jdk_52_method_5_code 33 = .ok (.iload_n 1, 1) := by decide +kernel
theorem own_d24_34 : decode jdk_52_method_5_code 34 = .ok (.iinc 1 1, 3) := by decide +kernel
theorem own_d24_37 : decode jdk_52_method_5_code 37 = .ok (.baload, 1) := by decide +kernel
theorem own_d24_38 : decode jdk_52_method_5_code 38 = .ok (.sipush 255, 3) := by decide +kernel
theorem own_d24_41 : decode jdk_52_method_5_code 41 = .ok (.iand, 1) := by decide +kernel
theorem own_w102 {a0 : Array Value} {Z : State} (hw : ∀ d ∈ tables_1, d.before a0 Z = true) : (Jvm.Cond.fieldLink "java/lang/StringUTF16" (59 : Nat) "java/lang/StringUTF16" "HI_BYTE_SHIFT" "I").before a0 Z = true := hw _ (List.mem_of_getElem? (i := 102) rfl)
theorem own_d24_42 : decode jdk_52_method_5_code 42 = .ok (.getstatic 59, 3) := by decide +kernel
theorem own_d24_45 : decode jdk_52_method_5_code 45 = .ok (.ishl, 1) := by decide +kernel
theorem own_d24_46 : decode jdk_52_method_5_code 46 = .ok (.aload_n 0, 1) := by decide +kernel
theorem own_d24_47 : decode jdk_52_method_5_code 47 = .ok (.iload_n 1, 1) := by decide +kernel
theorem own_d24_48 : decode jdk_52_method_5_code 48 = .ok (.baload, 1) := by decide +kernel
theorem own_d24_49 : decode jdk_52_method_5_code 49 = .ok (.sipush 255, 3) := by decide +kernel
theorem own_d24_52 : decode jdk_52_method_5_code 52 = .ok (.iand, 1) := by decide +kernel
theorem own_w103 {a0 : Array Value} {Z : State} (hw : ∀ d ∈ tables_1, d.before a0 Z = true) : (Jvm.Cond.fieldLink "java/lang/StringUTF16" (63 : Nat) "java/lang/StringUTF16" "LO_BYTE_SHIFT" "I").before a0 Z = true := hw _ (List.mem_of_getElem? (i := 103) rfl)
theorem own_d24_53 : decode jdk_52_method_5_code 53 = .ok (.getstatic 63, 3) := by decide +kernel
theorem own_d24_56 : decode jdk_52_method_5_code 56 = .ok (.ishl, 1) := by decide +kernel
theorem own_d24_57 : decode jdk_52_method_5_code 57 = .ok (.ior, 1) := by decide +kernel
theorem own_d24_58 : decode jdk_52_method_5_code 58 = .ok (.i2c, 1) := by decide +kernel
theorem own_d24_59 : decode jdk_52_method_5_code 59 = .ok (.ireturn, 1) := by decide +kernel
theorem own_d23_0 : decode jdk_52_method_4_code 0 = .ok (.getstatic 44, 3) := by decide +kernel
theorem own_d23_3 : decode jdk_52_method_4_code 3 = .ok (.ifCond .ne 25, 3) := by decide +kernel
theorem own_d23_28 : decode jdk_52_method_4_code 28 = .ok (.iload_n 1, 1) := by decide +kernel
theorem own_d23_29 : decode jdk_52_method_4_code 29 = .ok (.iconst 1, 1) := by decide +kernel
theorem own_d23_30 : decode jdk_52_method_4_code 30 = .ok (.ishl, 1) := by decide +kernel
theorem own_d23_31 : decode jdk_52_method_4_code 31 = .ok (.istore_n 1, 1) := by decide +kernel
theorem own_d23_32 : decode jdk_52_method_4_code 32 = .ok (.aload_n 0, 1) := by decide +kernel
theorem own_d23_33 : decode jdk_52_method_4_code 33 = .ok (.iload_n 1, 1) := by decide +kernel
theorem own_d23_34 : decode jdk_52_method_4_code 34 = .ok (.iinc 1 1, 3) := by decide +kernel
theorem own_d23_37 : decode jdk_52_method_4_code 37 = .ok (.iload_n 2, 1) := by decide +kernel
theorem own_d23_38 : decode jdk_52_method_4_code 38 = .ok (.getstatic 59, 3) := by decide +kernel
theorem own_d23_41 : decode jdk_52_method_4_code 41 = .ok (.ishr, 1) := by decide +kernel
theorem own_d23_42 : decode jdk_52_method_4_code 42 = .ok (.i2b, 1) := by decide +kernel
theorem own_d23_43 : decode jdk_52_method_4_code 43 = .ok (.bastore, 1) := by decide +kernel
theorem own_d23_44 : decode jdk_52_method_4_code 44 = .ok (.aload_n 0, 1) := by decide +kernel
theorem own_d23_45 : decode jdk_52_method_4_code 45 = .ok (.iload_n 1, 1) := by decide +kernel
theorem own_d23_46 : decode jdk_52_method_4_code 46 = .ok (.iload_n 2, 1) := by decide +kernel
theorem own_d23_47 : decode jdk_52_method_4_code 47 = .ok (.getstatic 63, 3) := by decide +kernel
theorem own_d23_50 : decode jdk_52_method_4_code 50 = .ok (.ishr, 1) := by decide +kernel
theorem own_d23_51 : decode jdk_52_method_4_code 51 = .ok (.i2b, 1) := by decide +kernel
theorem own_d23_52 : decode jdk_52_method_4_code 52 = .ok (.bastore, 1) := by decide +kernel
theorem own_d23_53 : decode jdk_52_method_4_code 53 = .ok (.return_, 1) := by decide +kernel
theorem own_d16_17 : decode jdk_42_method_154_code 17 = .ok (.iconst 0, 1) := by decide +kernel
theorem own_d26_0 : decode jdk_52_method_91_code 0 = .ok (.iload_n 0, 1) := by decide +kernel
theorem own_d26_1 : decode jdk_52_method_91_code 1 = .ok (.aload_n 1, 1) := by decide +kernel
theorem own_w113 {a0 : Array Value} {Z : State} (hw : ∀ d ∈ tables_1, d.before a0 Z = true) : (Jvm.Cond.methodLink "java/lang/StringUTF16" (48 : Nat) ({ cls := "java/lang/StringUTF16", name := "length", desc := "([B)I" } : Jvm.MethodName)).before a0 Z = true := hw _ (List.mem_of_getElem? (i := 113) rfl)
theorem own_pd5 : parseMethodDescriptor "([B)I" = some ⟨[(.array .byte)], some .int⟩ := by decide +kernel
theorem own_d26_2 : decode jdk_52_method_91_code 2 = .ok (.invokestatic 48, 3) := by decide +kernel
theorem own_w114 {a0 : Array Value} {Z : State} (hw : ∀ d ∈ tables_1, d.before a0 Z = true) : (Jvm.Cond.static ({ cls := "java/lang/StringUTF16", name := "length", desc := "([B)I" } : Jvm.MethodName)).before a0 Z = true := hw _ (List.mem_of_getElem? (i := 114) rfl)
theorem own_w49 {a0 : Array Value} {Z : State} (hw : ∀ d ∈ tables_1, d.before a0 Z = true) : (Jvm.Cond.initialized "java/lang/StringUTF16").before a0 Z = true := hw _ (List.mem_of_getElem? (i := 49) rfl)
theorem own_w115 {a0 : Array Value} {Z : State} (hw : ∀ d ∈ tables_1, d.before a0 Z = true) : (Jvm.Cond.code ({ cls := "java/lang/StringUTF16", name := "length", desc := "([B)I" } : Jvm.MethodName) jdk_52_method_6_code (1 : Nat) (Option.some Jvm.ClassFile.FieldType.int)).before a0 Z = true := hw _ (List.mem_of_getElem? (i := 115) rfl)
theorem own_w116 {a0 : Array Value} {Z : State} (hw : ∀ d ∈ tables_1, d.before a0 Z = true) : (Jvm.Cond.methodLink "java/lang/StringUTF16" (414 : Nat) ({ cls := "java/lang/String", name := "checkIndex", desc := "(II)V" } : Jvm.MethodName)).before a0 Z = true := hw _ (List.mem_of_getElem? (i := 116) rfl)
theorem own_d26_5 : decode jdk_52_method_91_code 5 = .ok (.invokestatic 414, 3) := by decide +kernel
theorem own_d26_8 : decode jdk_52_method_91_code 8 = .ok (.return_, 1) := by decide +kernel
theorem own_d25_0 : decode jdk_52_method_83_code 0 = .ok (.iload_n 1, 1) := by decide +kernel
theorem own_d25_1 : decode jdk_52_method_83_code 1 = .ok (.aload_n 0, 1) := by decide +kernel
theorem own_w110 {a0 : Array Value} {Z : State} (hw : ∀ d ∈ tables_1, d.before a0 Z = true) : (Jvm.Cond.methodLink "java/lang/StringUTF16" (67 : Nat) ({ cls := "java/lang/StringUTF16", name := "checkIndex", desc := "(I[B)V" } : Jvm.MethodName)).before a0 Z = true := hw _ (List.mem_of_getElem? (i := 110) rfl)
theorem own_pd6 : parseMethodDescriptor "(I[B)V" = some ⟨[.int, (.array .byte)], none⟩ := by decide +kernel
theorem own_d25_2 : decode jdk_52_method_83_code 2 = .ok (.invokestatic 67, 3) := by decide +kernel
theorem own_w111 {a0 : Array Value} {Z : State} (hw : ∀ d ∈ tables_1, d.before a0 Z = true) : (Jvm.Cond.static ({ cls := "java/lang/StringUTF16", name := "checkIndex", desc := "(I[B)V" } : Jvm.MethodName)).before a0 Z = true := hw _ (List.mem_of_getElem? (i := 111) rfl)
theorem own_w112 {a0 : Array Value} {Z : State} (hw : ∀ d ∈ tables_1, d.before a0 Z = true) : (Jvm.Cond.code ({ cls := "java/lang/StringUTF16", name := "checkIndex", desc := "(I[B)V" } : Jvm.MethodName) jdk_52_method_91_code (2 : Nat) (Option.none : Option Jvm.ClassFile.FieldType)).before a0 Z = true := hw _ (List.mem_of_getElem? (i := 112) rfl)
theorem own_d25_5 : decode jdk_52_method_83_code 5 = .ok (.aload_n 0, 1) := by decide +kernel
theorem own_d25_6 : decode jdk_52_method_83_code 6 = .ok (.iload_n 1, 1) := by decide +kernel
theorem own_w104 {a0 : Array Value} {Z : State} (hw : ∀ d ∈ tables_1, d.before a0 Z = true) : (Jvm.Cond.methodLink "java/lang/StringUTF16" (71 : Nat) ({ cls := "java/lang/StringUTF16", name := "getChar", desc := "([BI)C" } : Jvm.MethodName)).before a0 Z = true := hw _ (List.mem_of_getElem? (i := 104) rfl)
theorem own_d25_7 : decode jdk_52_method_83_code 7 = .ok (.invokestatic 71, 3) := by decide +kernel
theorem own_w105 {a0 : Array Value} {Z : State} (hw : ∀ d ∈ tables_1, d.before a0 Z = true) : (Jvm.Cond.static ({ cls := "java/lang/StringUTF16", name := "getChar", desc := "([BI)C" } : Jvm.MethodName)).before a0 Z = true := hw _ (List.mem_of_getElem? (i := 105) rfl)
theorem own_w106 {a0 : Array Value} {Z : State} (hw : ∀ d ∈ tables_1, d.before a0 Z = true) : (Jvm.Cond.code ({ cls := "java/lang/StringUTF16", name := "getChar", desc := "([BI)C" } : Jvm.MethodName) jdk_52_method_5_code (2 : Nat) (Option.some Jvm.ClassFile.FieldType.char)).before a0 Z = true := hw _ (List.mem_of_getElem? (i := 106) rfl)
theorem own_d25_10 : decode jdk_52_method_83_code 10 = .ok (.ireturn, 1) := by decide +kernel
theorem own_d15_16 : decode jdk_42_method_56_code 16 = .ok (.aload_n 0, 1) := by decide +kernel
theorem own_d15_17 : decode jdk_42_method_56_code 17 = .ok (.getfield 9, 3) := by decide +kernel
theorem own_d15_20 : decode jdk_42_method_56_code 20 = .ok (.iload_n 1, 1) := by decide +kernel
theorem own_w107 {a0 : Array Value} {Z : State} (hw : ∀ d ∈ tables_1, d.before a0 Z = true) : (Jvm.Cond.methodLink "java/lang/String" (498 : Nat) ({ cls := "java/lang/StringUTF16", name := "charAt", desc := "([BI)C" } : Jvm.MethodName)).before a0 Z = true := hw _ (List.mem_of_getElem? (i := 107) rfl)
theorem own_d15_21 : decode jdk_42_method_56_code 21 = .ok (.invokestatic 498, 3) := by decide +kernel
theorem own_w108 {a0 : Array Value} {Z : State} (hw : ∀ d ∈ tables_1, d.before a0 Z = true) : (Jvm.Cond.static ({ cls := "java/lang/StringUTF16", name := "charAt", desc := "([BI)C" } : Jvm.MethodName)).before a0 Z = true := hw _ (List.mem_of_getElem? (i := 108) rfl)
theorem own_w109 {a0 : Array Value} {Z : State} (hw : ∀ d ∈ tables_1, d.before a0 Z = true) : (Jvm.Cond.code ({ cls := "java/lang/StringUTF16", name := "charAt", desc := "([BI)C" } : Jvm.MethodName) jdk_52_method_83_code (2 : Nat) (Option.some Jvm.ClassFile.FieldType.char)).before a0 Z = true := hw _ (List.mem_of_getElem? (i := 109) rfl)
theorem own_d15_24 : decode jdk_42_method_56_code 24 = .ok (.ireturn, 1) := by decide +kernel
theorem own_d4_0 : decode jdk_42_method_149_code 0 = .ok (.aload_n 0, 1) := by decide +kernel
theorem own_w21 {a0 : Array Value} {Z : State} (hw : ∀ d ∈ tables_1, d.before a0 Z = true) : (Jvm.Cond.methodLink "java/lang/String" (1 : Nat) ({ cls := "java/lang/Object", name := "<init>", desc := "()V" } : Jvm.MethodName)).before a0 Z = true := hw _ (List.mem_of_getElem? (i := 21) rfl)
theorem own_w23 {a0 : Array Value} {Z : State} (hw : ∀ d ∈ tables_1, d.before a0 Z = true) : (Jvm.Cond.code ({ cls := "java/lang/Object", name := "<init>", desc := "()V" } : Jvm.MethodName) object_method_1_code (1 : Nat) (Option.none : Option Jvm.ClassFile.FieldType)).before a0 Z = true := hw _ (List.mem_of_getElem? (i := 23) rfl)
theorem own_w22 {a0 : Array Value} {Z : State} (hw : ∀ d ∈ tables_1, d.before a0 Z = true) : (Jvm.Cond.instanceMethod ({ cls := "java/lang/Object", name := "<init>", desc := "()V" } : Jvm.MethodName)).before a0 Z = true := hw _ (List.mem_of_getElem? (i := 22) rfl)
theorem own_d4_1 : decode jdk_42_method_149_code 1 = .ok (.invokespecial 1, 3) := by decide +kernel
theorem own_d4_4 : decode jdk_42_method_149_code 4 = .ok (.iload_n 3, 1) := by decide +kernel
theorem own_d4_5 : decode jdk_42_method_149_code 5 = .ok (.ifCond .ne 22, 3) := by decide +kernel
theorem own_d4_8 : decode jdk_42_method_149_code 8 = .ok (.aload_n 0, 1) := by decide +kernel
theorem own_w24 {a0 : Array Value} {Z : State} (hw : ∀ d ∈ tables_1, d.before a0 Z = true) : (Jvm.Cond.stringLink "java/lang/String" (7 : Nat) "").before a0 Z = true := hw _ (List.mem_of_getElem? (i := 24) rfl)
theorem own_d4_9 : decode jdk_42_method_149_code 9 = .ok (.ldc 7, 2) := by decide +kernel
theorem own_w11 {a0 : Array Value} {Z : State} (hw : ∀ d ∈ tables_1, d.before a0 Z = true) : (Jvm.Cond.instantiable "java/lang/String" (4 : Nat)).before a0 Z = true := hw _ (List.mem_of_getElem? (i := 11) rfl)
theorem own_d4_11 : decode jdk_42_method_149_code 11 = .ok (.getfield 9, 3) := by decide +kernel
theorem own_w26 {a0 : Array Value} {Z : State} (hw : ∀ d ∈ tables_1, d.before a0 Z = true) : (Jvm.Cond.laysFinal "java/lang/String" "java/lang/String" "value" "[B").before a0 Z = true := hw _ (List.mem_of_getElem? (i := 26) rfl)
theorem own_d4_14 : decode jdk_42_method_149_code 14 = .ok (.putfield 9, 3) := by decide +kernel
theorem own_w27 {a0 : Array Value} {Z : State} (hw : ∀ d ∈ tables_1, d.before a0 Z = true) : (Jvm.Cond.laysFinal "java/lang/String" "java/lang/String" "coder" "B").before a0 Z = true := hw _ (List.mem_of_getElem? (i := 27) rfl)
theorem own_d4_17 : decode jdk_42_method_149_code 17 = .ok (.aload_n 0, 1) := by decide +kernel
theorem own_d4_18 : decode jdk_42_method_149_code 18 = .ok (.ldc 7, 2) := by decide +kernel
theorem own_d4_20 : decode jdk_42_method_149_code 20 = .ok (.getfield 15, 3) := by decide +kernel
theorem own_d4_23 : decode jdk_42_method_149_code 23 = .ok (.putfield 15, 3) := by decide +kernel
theorem own_d4_26 : decode jdk_42_method_149_code 26 = .ok (.return_, 1) := by decide +kernel
theorem own_d3_0 : decode jdk_42_method_3_code 0 = .ok (.aload_n 0, 1) := by decide +kernel
theorem own_d3_1 : decode jdk_42_method_3_code 1 = .ok (.aload_n 1, 1) := by decide +kernel
theorem own_d3_2 : decode jdk_42_method_3_code 2 = .ok (.iconst 0, 1) := by decide +kernel
theorem own_d3_3 : decode jdk_42_method_3_code 3 = .ok (.aload_n 1, 1) := by decide +kernel
theorem own_d3_4 : decode jdk_42_method_3_code 4 = .ok (.arraylength, 1) := by decide +kernel
theorem own_d3_5 : decode jdk_42_method_3_code 5 = .ok (.aconst_null, 1) := by decide +kernel
theorem own_w17 {a0 : Array Value} {Z : State} (hw : ∀ d ∈ tables_1, d.before a0 Z = true) : (Jvm.Cond.methodLink "java/lang/String" (27 : Nat) ({ cls := "java/lang/String", name := "<init>", desc := "([CIILjava/lang/Void;)V" } : Jvm.MethodName)).before a0 Z = true := hw _ (List.mem_of_getElem? (i := 17) rfl)
theorem own_pd7 : parseMethodDescriptor "([CIILjava/lang/Void;)V" = some ⟨[(.array .char), .int, .int, (.object "java/lang/Void")], none⟩ := by decide +kernel
theorem own_d3_6 : decode jdk_42_method_3_code 6 = .ok (.invokespecial 27, 3) := by decide +kernel
theorem own_w18 {a0 : Array Value} {Z : State} (hw : ∀ d ∈ tables_1, d.before a0 Z = true) : (Jvm.Cond.instanceMethod ({ cls := "java/lang/String", name := "<init>", desc := "([CIILjava/lang/Void;)V" } : Jvm.MethodName)).before a0 Z = true := hw _ (List.mem_of_getElem? (i := 18) rfl)
theorem own_w20 {a0 : Array Value} {Z : State} (hw : ∀ d ∈ tables_1, d.before a0 Z = true) : (Jvm.Cond.code ({ cls := "java/lang/String", name := "<init>", desc := "([CIILjava/lang/Void;)V" } : Jvm.MethodName) jdk_42_method_149_code (6 : Nat) (Option.none : Option Jvm.ClassFile.FieldType)).before a0 Z = true := hw _ (List.mem_of_getElem? (i := 20) rfl)
theorem own_d3_9 : decode jdk_42_method_3_code 9 = .ok (.return_, 1) := by decide +kernel
theorem own_d22_0 : decode jdk_52_method_3_code 0 = .ok (.iload_n 0, 1) := by decide +kernel
theorem own_d22_1 : decode jdk_52_method_3_code 1 = .ok (.ifCond .ge 11, 3) := by decide +kernel
theorem own_d22_12 : decode jdk_52_method_3_code 12 = .ok (.iload_n 0, 1) := by decide +kernel
theorem own_w97 {a0 : Array Value} {Z : State} (hw : ∀ d ∈ tables_1, d.before a0 Z = true) : (Jvm.Cond.constant "java/lang/StringUTF16" (20 : Nat) (1073741823 : Int32)).before a0 Z = true := hw _ (List.mem_of_getElem? (i := 97) rfl)
theorem own_d22_13 : decode jdk_52_method_3_code 13 = .ok (.ldc 20, 2) := by decide +kernel
theorem own_d22_15 : decode jdk_52_method_3_code 15 = .ok (.if_icmp .lt 40, 3) := by decide +kernel
theorem own_d22_55 : decode jdk_52_method_3_code 55 = .ok (.iload_n 0, 1) := by decide +kernel
theorem own_d22_56 : decode jdk_52_method_3_code 56 = .ok (.iconst 1, 1) := by decide +kernel
theorem own_d22_57 : decode jdk_52_method_3_code 57 = .ok (.ishl, 1) := by decide +kernel
theorem own_d22_58 : decode jdk_52_method_3_code 58 = .ok (.ireturn, 1) := by decide +kernel
theorem own_d21_0 : decode jdk_52_method_2_code 0 = .ok (.iload_n 0, 1) := by decide +kernel
theorem own_w94 {a0 : Array Value} {Z : State} (hw : ∀ d ∈ tables_1, d.before a0 Z = true) : (Jvm.Cond.methodLink "java/lang/StringUTF16" (11 : Nat) ({ cls := "java/lang/StringUTF16", name := "newBytesLength", desc := "(I)I" } : Jvm.MethodName)).before a0 Z = true := hw _ (List.mem_of_getElem? (i := 94) rfl)
theorem own_pd8 : parseMethodDescriptor "(I)I" = some ⟨[.int], some .int⟩ := by decide +kernel
theorem own_d21_1 : decode jdk_52_method_2_code 1 = .ok (.invokestatic 11, 3) := by decide +kernel
theorem own_w95 {a0 : Array Value} {Z : State} (hw : ∀ d ∈ tables_1, d.before a0 Z = true) : (Jvm.Cond.static ({ cls := "java/lang/StringUTF16", name := "newBytesLength", desc := "(I)I" } : Jvm.MethodName)).before a0 Z = true := hw _ (List.mem_of_getElem? (i := 95) rfl)
theorem own_w96 {a0 : Array Value} {Z : State} (hw : ∀ d ∈ tables_1, d.before a0 Z = true) : (Jvm.Cond.code ({ cls := "java/lang/StringUTF16", name := "newBytesLength", desc := "(I)I" } : Jvm.MethodName) jdk_52_method_3_code (1 : Nat) (Option.some Jvm.ClassFile.FieldType.int)).before a0 Z = true := hw _ (List.mem_of_getElem? (i := 96) rfl)
theorem own_w25 {a0 : Array Value} {Z : State} (hw : ∀ d ∈ tables_1, d.before a0 Z = true) : (Jvm.Cond.arrayClass Jvm.ClassFile.FieldType.byte).before a0 Z = true := hw _ (List.mem_of_getElem? (i := 25) rfl)
theorem own_d21_4 : decode jdk_52_method_2_code 4 = .ok (.newarray .byte, 2) := by decide +kernel
theorem own_d21_6 : decode jdk_52_method_2_code 6 = .ok (.areturn, 1) := by decide +kernel
theorem own_d20_0 : decode jdk_52_method_14_code 0 = .ok (.iload_n 2, 1) := by decide +kernel
theorem own_w91 {a0 : Array Value} {Z : State} (hw : ∀ d ∈ tables_1, d.before a0 Z = true) : (Jvm.Cond.methodLink "java/lang/StringUTF16" (107 : Nat) ({ cls := "java/lang/StringUTF16", name := "newBytesFor", desc := "(I)[B" } : Jvm.MethodName)).before a0 Z = true := hw _ (List.mem_of_getElem? (i := 91) rfl)
theorem own_pd9 : parseMethodDescriptor "(I)[B" = some ⟨[.int], some (.array .byte)⟩ := by decide +kernel
theorem own_d20_1 : decode jdk_52_method_14_code 1 = .ok (.invokestatic 107, 3) := by decide +kernel
theorem own_w92 {a0 : Array Value} {Z : State} (hw : ∀ d ∈ tables_1, d.before a0 Z = true) : (Jvm.Cond.static ({ cls := "java/lang/StringUTF16", name := "newBytesFor", desc := "(I)[B" } : Jvm.MethodName)).before a0 Z = true := hw _ (List.mem_of_getElem? (i := 92) rfl)
theorem own_w93 {a0 : Array Value} {Z : State} (hw : ∀ d ∈ tables_1, d.before a0 Z = true) : (Jvm.Cond.code ({ cls := "java/lang/StringUTF16", name := "newBytesFor", desc := "(I)[B" } : Jvm.MethodName) jdk_52_method_2_code (1 : Nat) (Option.some (Jvm.ClassFile.FieldType.array Jvm.ClassFile.FieldType.byte))).before a0 Z = true := hw _ (List.mem_of_getElem? (i := 93) rfl)
theorem own_d20_4 : decode jdk_52_method_14_code 4 = .ok (.astore_n 3, 1) := by decide +kernel
theorem own_d20_5 : decode jdk_52_method_14_code 5 = .ok (.iconst 0, 1) := by decide +kernel
theorem own_d20_6 : decode jdk_52_method_14_code 6 = .ok (.istore 4, 2) := by decide +kernel
theorem own_d20_8 : decode jdk_52_method_14_code 8 = .ok (.iload 4, 2) := by decide +kernel
theorem own_d20_10 : decode jdk_52_method_14_code 10 = .ok (.iload_n 2, 1) := by decide +kernel
theorem own_d20_11 : decode jdk_52_method_14_code 11 = .ok (.if_icmp .ge 21, 3) := by decide +kernel
theorem own_d20_14 : decode jdk_52_method_14_code 14 = .ok (.aload_n 3, 1) := by decide +kernel
theorem own_d20_15 : decode jdk_52_method_14_code 15 = .ok (.iload 4, 2) := by decide +kernel
theorem own_d20_17 : decode jdk_52_method_14_code 17 = .ok (.aload_n 0, 1) := by decide +kernel
theorem own_d20_18 : decode jdk_52_method_14_code 18 = .ok (.iload_n 1, 1) := by decide +kernel
theorem own_d20_19 : decode jdk_52_method_14_code 19 = .ok (.caload, 1) := by decide +kernel
theorem own_w98 {a0 : Array Value} {Z : State} (hw : ∀ d ∈ tables_1, d.before a0 Z = true) : (Jvm.Cond.methodLink "java/lang/StringUTF16" (111 : Nat) ({ cls := "java/lang/StringUTF16", name := "putChar", desc := "([BII)V" } : Jvm.MethodName)).before a0 Z = true := hw _ (List.mem_of_getElem? (i := 98) rfl)
theorem own_pd10 : parseMethodDescriptor "([BII)V" = some ⟨[(.array .byte), .int, .int], none⟩ := by decide +kernel
theorem own_d20_20 : decode jdk_52_method_14_code 20 = .ok (.invokestatic 111, 3) := by decide +kernel
theorem own_w99 {a0 : Array Value} {Z : State} (hw : ∀ d ∈ tables_1, d.before a0 Z = true) : (Jvm.Cond.static ({ cls := "java/lang/StringUTF16", name := "putChar", desc := "([BII)V" } : Jvm.MethodName)).before a0 Z = true := hw _ (List.mem_of_getElem? (i := 99) rfl)
theorem own_w100 {a0 : Array Value} {Z : State} (hw : ∀ d ∈ tables_1, d.before a0 Z = true) : (Jvm.Cond.code ({ cls := "java/lang/StringUTF16", name := "putChar", desc := "([BII)V" } : Jvm.MethodName) jdk_52_method_4_code (3 : Nat) (Option.none : Option Jvm.ClassFile.FieldType)).before a0 Z = true := hw _ (List.mem_of_getElem? (i := 100) rfl)
theorem own_d20_23 : decode jdk_52_method_14_code 23 = .ok (.iinc 1 1, 3) := by decide +kernel
theorem own_d20_26 : decode jdk_52_method_14_code 26 = .ok (.iinc 4 1, 3) := by decide +kernel
theorem own_d20_29 : decode jdk_52_method_14_code 29 = .ok (.goto (-21), 3) := by decide +kernel
theorem own_d20_32 : decode jdk_52_method_14_code 32 = .ok (.aload_n 3, 1) := by decide +kernel
theorem own_d20_33 : decode jdk_52_method_14_code 33 = .ok (.areturn, 1) := by decide +kernel
theorem own_d10_0 : decode jdk_52_method_21_code 0 = .ok (.iconst 0, 1) := by decide +kernel
theorem own_d10_1 : decode jdk_52_method_21_code 1 = .ok (.istore 5, 2) := by decide +kernel
theorem own_d10_3 : decode jdk_52_method_21_code 3 = .ok (.iload 5, 2) := by decide +kernel
theorem own_d10_5 : decode jdk_52_method_21_code 5 = .ok (.iload 4, 2) := by decide +kernel
theorem own_d10_7 : decode jdk_52_method_21_code 7 = .ok (.if_icmp .ge 37, 3) := by decide +kernel
theorem own_d10_10 : decode jdk_52_method_21_code 10 = .ok (.aload_n 0, 1) := by decide +kernel
theorem own_d10_11 : decode jdk_52_method_21_code 11 = .ok (.iload_n 1, 1) := by decide +kernel
theorem own_d10_12 : decode jdk_52_method_21_code 12 = .ok (.caload, 1) := by decide +kernel
theorem own_d10_13 : decode jdk_52_method_21_code 13 = .ok (.istore 6, 2) := by decide +kernel
theorem own_d10_15 : decode jdk_52_method_21_code 15 = .ok (.iload 6, 2) := by decide +kernel
theorem own_d10_17 : decode jdk_52_method_21_code 17 = .ok (.sipush 255, 3) := by decide +kernel
theorem own_d10_20 : decode jdk_52_method_21_code 20 = .ok (.if_icmp .le 6, 3) := by decide +kernel
theorem own_d10_23 : decode jdk_52_method_21_code 23 = .ok (.iload 5, 2) := by decide +kernel
theorem own_d10_25 : decode jdk_52_method_21_code 25 = .ok (.ireturn, 1) := by decide +kernel
theorem own_d10_26 : decode jdk_52_method_21_code 26 = .ok (.aload_n 2, 1) := by decide +kernel
theorem own_d10_27 : decode jdk_52_method_21_code 27 = .ok (.iload_n 3, 1) := by decide +kernel
theorem own_d10_28 : decode jdk_52_method_21_code 28 = .ok (.iload 6, 2) := by decide +kernel
theorem own_d10_30 : decode jdk_52_method_21_code 30 = .ok (.i2b, 1) := by decide +kernel
theorem own_d10_31 : decode jdk_52_method_21_code 31 = .ok (.bastore, 1) := by decide +kernel
theorem own_d10_32 : decode jdk_52_method_21_code 32 = .ok (.iinc 1 1, 3) := by decide +kernel
theorem own_d10_35 : decode jdk_52_method_21_code 35 = .ok (.iinc 3 1, 3) := by decide +kernel
theorem own_d10_38 : decode jdk_52_method_21_code 38 = .ok (.iinc 5 1, 3) := by decide +kernel
theorem own_d10_41 : decode jdk_52_method_21_code 41 = .ok (.goto (-38), 3) := by decide +kernel
theorem own_d10_44 : decode jdk_52_method_21_code 44 = .ok (.iload 4, 2) := by decide +kernel
theorem own_d10_46 : decode jdk_52_method_21_code 46 = .ok (.ireturn, 1) := by decide +kernel
theorem own_d9_0 : decode jdk_52_method_16_code 0 = .ok (.iload_n 2, 1) := by decide +kernel
theorem own_d9_1 : decode jdk_52_method_16_code 1 = .ok (.newarray .byte, 2) := by decide +kernel
theorem own_d9_3 : decode jdk_52_method_16_code 3 = .ok (.astore_n 3, 1) := by decide +kernel
theorem own_d9_4 : decode jdk_52_method_16_code 4 = .ok (.aload_n 0, 1) := by decide +kernel
theorem own_d9_5 : decode jdk_52_method_16_code 5 = .ok (.iload_n 1, 1) := by decide +kernel
theorem own_d9_6 : decode jdk_52_method_16_code 6 = .ok (.aload_n 3, 1) := by decide +kernel
theorem own_d9_7 : decode jdk_52_method_16_code 7 = .ok (.iconst 0, 1) := by decide +kernel
theorem own_d9_8 : decode jdk_52_method_16_code 8 = .ok (.iload_n 2, 1) := by decide +kernel
theorem own_w51 {a0 : Array Value} {Z : State} (hw : ∀ d ∈ tables_1, d.before a0 Z = true) : (Jvm.Cond.methodLink "java/lang/StringUTF16" (115 : Nat) ({ cls := "java/lang/StringUTF16", name := "compress", desc := "([CI[BII)I" } : Jvm.MethodName)).before a0 Z = true := hw _ (List.mem_of_getElem? (i := 51) rfl)
theorem own_pd11 : parseMethodDescriptor "([CI[BII)I" = some ⟨[(.array .char), .int, (.array .byte), .int, .int], some .int⟩ := by decide +kernel
theorem own_d9_9 : decode jdk_52_method_16_code 9 = .ok (.invokestatic 115, 3) := by decide +kernel
theorem own_w52 {a0 : Array Value} {Z : State} (hw : ∀ d ∈ tables_1, d.before a0 Z = true) : (Jvm.Cond.static ({ cls := "java/lang/StringUTF16", name := "compress", desc := "([CI[BII)I" } : Jvm.MethodName)).before a0 Z = true := hw _ (List.mem_of_getElem? (i := 52) rfl)
theorem own_w53 {a0 : Array Value} {Z : State} (hw : ∀ d ∈ tables_1, d.before a0 Z = true) : (Jvm.Cond.code ({ cls := "java/lang/StringUTF16", name := "compress", desc := "([CI[BII)I" } : Jvm.MethodName) jdk_52_method_21_code (7 : Nat) (Option.some Jvm.ClassFile.FieldType.int)).before a0 Z = true := hw _ (List.mem_of_getElem? (i := 53) rfl)
theorem own_d9_12 : decode jdk_52_method_16_code 12 = .ok (.istore 4, 2) := by decide +kernel
theorem own_d9_14 : decode jdk_52_method_16_code 14 = .ok (.iload 4, 2) := by decide +kernel
theorem own_d9_16 : decode jdk_52_method_16_code 16 = .ok (.iload_n 2, 1) := by decide +kernel
theorem own_d9_17 : decode jdk_52_method_16_code 17 = .ok (.if_icmp .eq 40, 3) := by decide +kernel
theorem own_d9_57 : decode jdk_52_method_16_code 57 = .ok (.aload_n 3, 1) := by decide +kernel
theorem own_d9_58 : decode jdk_52_method_16_code 58 = .ok (.areturn, 1) := by decide +kernel
theorem own_d9_20 : decode jdk_52_method_16_code 20 = .ok (.aload_n 0, 1) := by decide +kernel
theorem own_d9_21 : decode jdk_52_method_16_code 21 = .ok (.iload_n 1, 1) := by decide +kernel
theorem own_d9_22 : decode jdk_52_method_16_code 22 = .ok (.iload_n 2, 1) := by decide +kernel
theorem own_w88 {a0 : Array Value} {Z : State} (hw : ∀ d ∈ tables_1, d.before a0 Z = true) : (Jvm.Cond.methodLink "java/lang/StringUTF16" (119 : Nat) ({ cls := "java/lang/StringUTF16", name := "toBytes", desc := "([CII)[B" } : Jvm.MethodName)).before a0 Z = true := hw _ (List.mem_of_getElem? (i := 88) rfl)
theorem own_pd12 : parseMethodDescriptor "([CII)[B" = some ⟨[(.array .char), .int, .int], some (.array .byte)⟩ := by decide +kernel
theorem own_d9_23 : decode jdk_52_method_16_code 23 = .ok (.invokestatic 119, 3) := by decide +kernel
theorem own_w89 {a0 : Array Value} {Z : State} (hw : ∀ d ∈ tables_1, d.before a0 Z = true) : (Jvm.Cond.static ({ cls := "java/lang/StringUTF16", name := "toBytes", desc := "([CII)[B" } : Jvm.MethodName)).before a0 Z = true := hw _ (List.mem_of_getElem? (i := 89) rfl)
theorem own_w90 {a0 : Array Value} {Z : State} (hw : ∀ d ∈ tables_1, d.before a0 Z = true) : (Jvm.Cond.code ({ cls := "java/lang/StringUTF16", name := "toBytes", desc := "([CII)[B" } : Jvm.MethodName) jdk_52_method_14_code (5 : Nat) (Option.some (Jvm.ClassFile.FieldType.array Jvm.ClassFile.FieldType.byte))).before a0 Z = true := hw _ (List.mem_of_getElem? (i := 90) rfl)
theorem own_d9_26 : decode jdk_52_method_16_code 26 = .ok (.astore 5, 2) := by decide +kernel
theorem own_d9_28 : decode jdk_52_method_16_code 28 = .ok (.aload 5, 2) := by decide +kernel
theorem own_d9_30 : decode jdk_52_method_16_code 30 = .ok (.iload 4, 2) := by decide +kernel
theorem own_d9_32 : decode jdk_52_method_16_code 32 = .ok (.invokestatic 71, 3) := by decide +kernel
theorem own_d9_35 : decode jdk_52_method_16_code 35 = .ok (.sipush 255, 3) := by decide +kernel
theorem own_d9_38 : decode jdk_52_method_16_code 38 = .ok (.if_icmp .gt 16, 3) := by decide +kernel
theorem own_d9_54 : decode jdk_52_method_16_code 54 = .ok (.aload 5, 2) := by decide +kernel
theorem own_d9_56 : decode jdk_52_method_16_code 56 = .ok (.areturn, 1) := by decide +kernel
theorem own_d11_0 : decode jdk_52_method_15_code 0 = .ok (.iload_n 1, 1) := by decide +kernel
theorem own_d11_1 : decode jdk_52_method_15_code 1 = .ok (.aload_n 0, 1) := by decide +kernel
theorem own_d11_2 : decode jdk_52_method_15_code 2 = .ok (.arraylength, 1) := by decide +kernel
theorem own_d11_3 : decode jdk_52_method_15_code 3 = .ok (.isub, 1) := by decide +kernel
theorem own_d11_4 : decode jdk_52_method_15_code 4 = .ok (.bipush 31, 2) := by decide +kernel
theorem own_d11_6 : decode jdk_52_method_15_code 6 = .ok (.iushr, 1) := by decide +kernel
theorem own_d11_7 : decode jdk_52_method_15_code 7 = .ok (.i2b, 1) := by decide +kernel
theorem own_d11_8 : decode jdk_52_method_15_code 8 = .ok (.ireturn, 1) := by decide +kernel
theorem own_d4_27 : decode jdk_42_method_149_code 27 = .ok (.getstatic 38, 3) := by decide +kernel
theorem own_d4_30 : decode jdk_42_method_149_code 30 = .ok (.ifCond .eq 28, 3) := by decide +kernel
theorem own_d4_33 : decode jdk_42_method_149_code 33 = .ok (.aload_n 1, 1) := by decide +kernel
theorem own_d4_34 : decode jdk_42_method_149_code 34 = .ok (.iload_n 2, 1) := by decide +kernel
theorem own_d4_35 : decode jdk_42_method_149_code 35 = .ok (.iload_n 3, 1) := by decide +kernel
theorem own_w47 {a0 : Array Value} {Z : State} (hw : ∀ d ∈ tables_1, d.before a0 Z = true) : (Jvm.Cond.methodLink "java/lang/String" (177 : Nat) ({ cls := "java/lang/StringUTF16", name := "compress", desc := "([CII)[B" } : Jvm.MethodName)).before a0 Z = true := hw _ (List.mem_of_getElem? (i := 47) rfl)
theorem own_d4_36 : decode jdk_42_method_149_code 36 = .ok (.invokestatic 177, 3) := by decide +kernel
theorem own_w48 {a0 : Array Value} {Z : State} (hw : ∀ d ∈ tables_1, d.before a0 Z = true) : (Jvm.Cond.static ({ cls := "java/lang/StringUTF16", name := "compress", desc := "([CII)[B" } : Jvm.MethodName)).before a0 Z = true := hw _ (List.mem_of_getElem? (i := 48) rfl)
theorem own_w50 {a0 : Array Value} {Z : State} (hw : ∀ d ∈ tables_1, d.before a0 Z = true) : (Jvm.Cond.code ({ cls := "java/lang/StringUTF16", name := "compress", desc := "([CII)[B" } : Jvm.MethodName) jdk_52_method_16_code (6 : Nat) (Option.some (Jvm.ClassFile.FieldType.array Jvm.ClassFile.FieldType.byte))).before a0 Z = true := hw _ (List.mem_of_getElem? (i := 50) rfl)
theorem own_d4_39 : decode jdk_42_method_149_code 39 = .ok (.astore 5, 2) := by decide +kernel
theorem own_d4_41 : decode jdk_42_method_149_code 41 = .ok (.aload_n 0, 1) := by decide +kernel
theorem own_d4_42 : decode jdk_42_method_149_code 42 = .ok (.aload 5, 2) := by decide +kernel
theorem own_d4_44 : decode jdk_42_method_149_code 44 = .ok (.iload_n 3, 1) := by decide +kernel
theorem own_w54 {a0 : Array Value} {Z : State} (hw : ∀ d ∈ tables_1, d.before a0 Z = true) : (Jvm.Cond.methodLink "java/lang/String" (47 : Nat) ({ cls := "java/lang/StringUTF16", name := "coderFromArrayLen", desc := "([BI)B" } : Jvm.MethodName)).before a0 Z = true := hw _ (List.mem_of_getElem? (i := 54) rfl)
theorem own_pd13 : parseMethodDescriptor "([BI)B" = some ⟨[(.array .byte), .int], some .byte⟩ := by decide +kernel
theorem own_d4_45 : decode jdk_42_method_149_code 45 = .ok (.invokestatic 47, 3) := by decide +kernel
theorem own_w55 {a0 : Array Value} {Z : State} (hw : ∀ d ∈ tables_1, d.before a0 Z = true) : (Jvm.Cond.static ({ cls := "java/lang/StringUTF16", name := "coderFromArrayLen", desc := "([BI)B" } : Jvm.MethodName)).before a0 Z = true := hw _ (List.mem_of_getElem? (i := 55) rfl)
theorem own_w56 {a0 : Array Value} {Z : State} (hw : ∀ d ∈ tables_1, d.before a0 Z = true) : (Jvm.Cond.code ({ cls := "java/lang/StringUTF16", name := "coderFromArrayLen", desc := "([BI)B" } : Jvm.MethodName) jdk_52_method_15_code (2 : Nat) (Option.some Jvm.ClassFile.FieldType.byte)).before a0 Z = true := hw _ (List.mem_of_getElem? (i := 56) rfl)
theorem own_d4_48 : decode jdk_42_method_149_code 48 = .ok (.putfield 15, 3) := by decide +kernel
theorem own_d4_51 : decode jdk_42_method_149_code 51 = .ok (.aload_n 0, 1) := by decide +kernel
theorem own_d4_52 : decode jdk_42_method_149_code 52 = .ok (.aload 5, 2) := by decide +kernel
theorem own_d4_54 : decode jdk_42_method_149_code 54 = .ok (.putfield 9, 3) := by decide +kernel
theorem own_d4_57 : decode jdk_42_method_149_code 57 = .ok (.return_, 1) := by decide +kernel
theorem own_d1_0 : decode method_2_code 0 = .ok (.iload_n 0, 1) := by decide +kernel
theorem own_w5 {a0 : Array Value} {Z : State} (hw : ∀ d ∈ tables_1, d.before a0 Z = true) : (Jvm.Cond.constant "com/example/vestbook/vestbook/WholeNumbersIsPlanYearPinLaw" (7 : Nat) (65536 : Int32)).before a0 Z = true := hw _ (List.mem_of_getElem? (i := 5) rfl)
theorem own_d1_1 : decode method_2_code 1 = .ok (.ldc 7, 2) := by decide +kernel
theorem own_d1_3 : decode method_2_code 3 = .ok (.iand, 1) := by decide +kernel
theorem own_d1_4 : decode method_2_code 4 = .ok (.ifCond .eq 15, 3) := by decide +kernel
theorem own_d1_19 : decode method_2_code 19 = .ok (.iload_n 0, 1) := by decide +kernel
theorem own_w6 {a0 : Array Value} {Z : State} (hw : ∀ d ∈ tables_1, d.before a0 Z = true) : (Jvm.Cond.constant "com/example/vestbook/vestbook/WholeNumbersIsPlanYearPinLaw" (8 : Nat) (65535 : Int32)).before a0 Z = true := hw _ (List.mem_of_getElem? (i := 6) rfl)
theorem own_d1_20 : decode method_2_code 20 = .ok (.ldc 8, 2) := by decide +kernel
theorem own_d1_22 : decode method_2_code 22 = .ok (.iand, 1) := by decide +kernel
theorem own_d1_23 : decode method_2_code 23 = .ok (.i2c, 1) := by decide +kernel
theorem own_d1_24 : decode method_2_code 24 = .ok (.ireturn, 1) := by decide +kernel
theorem own_d1_7 : decode method_2_code 7 = .ok (.bipush 47, 2) := by decide +kernel
theorem own_d1_9 : decode method_2_code 9 = .ok (.iload_n 0, 1) := by decide +kernel
theorem own_d1_10 : decode method_2_code 10 = .ok (.ldc 8, 2) := by decide +kernel
theorem own_d1_12 : decode method_2_code 12 = .ok (.iand, 1) := by decide +kernel
theorem own_d1_13 : decode method_2_code 13 = .ok (.bipush 12, 2) := by decide +kernel
theorem own_d1_15 : decode method_2_code 15 = .ok (.irem, 1) := by decide +kernel
theorem own_d1_16 : decode method_2_code 16 = .ok (.iadd, 1) := by decide +kernel
theorem own_d1_17 : decode method_2_code 17 = .ok (.i2c, 1) := by decide +kernel
theorem own_d1_18 : decode method_2_code 18 = .ok (.ireturn, 1) := by decide +kernel
theorem own_pn4 : plainName "com/example/vestbook/vestbook/WholeNumbersIsPlanYearPinLaw" = true := by first | (simp [plainName, overriddenIn]; done) | decide +kernel
theorem own_d12_0 : decode method_3_code 0 = .ok (.iload_n 0, 1) := by decide +kernel
theorem own_d12_1 : decode method_3_code 1 = .ok (.bipush 48, 2) := by decide +kernel
theorem own_d12_3 : decode method_3_code 3 = .ok (.if_icmp .lt 13, 3) := by decide +kernel
theorem own_d12_16 : decode method_3_code 16 = .ok (.iconst 0, 1) := by decide +kernel
theorem own_d12_17 : decode method_3_code 17 = .ok (.ireturn, 1) := by decide +kernel
theorem own_d12_6 : decode method_3_code 6 = .ok (.iload_n 0, 1) := by decide +kernel
theorem own_d12_7 : decode method_3_code 7 = .ok (.bipush 57, 2) := by decide +kernel
theorem own_d12_9 : decode method_3_code 9 = .ok (.if_icmp .gt 7, 3) := by decide +kernel
theorem own_d12_12 : decode method_3_code 12 = .ok (.iconst 1, 1) := by decide +kernel
theorem own_d12_13 : decode method_3_code 13 = .ok (.goto 4, 3) := by decide +kernel
theorem own_d2_0 : decode method_4_code 0 = .ok (.iload_n 0, 1) := by decide +kernel
theorem own_d2_1 : decode method_4_code 1 = .ok (.ifCond .ne 14, 3) := by decide +kernel
theorem own_w10 {a0 : Array Value} {Z : State} (hw : ∀ d ∈ tables_1, d.before a0 Z = true) : (Jvm.Cond.classLink "com/example/vestbook/vestbook/WholeNumbersIsPlanYearPinLaw" (9 : Nat) "java/lang/String").before a0 Z = true := hw _ (List.mem_of_getElem? (i := 10) rfl)
theorem own_d2_4 : decode method_4_code 4 = .ok (.new 9, 3) := by decide +kernel
theorem own_d2_7 : decode method_4_code 7 = .ok (.dup, 1) := by decide +kernel
theorem own_d2_8 : decode method_4_code 8 = .ok (.iconst 0, 1) := by decide +kernel
theorem own_w13 {a0 : Array Value} {Z : State} (hw : ∀ d ∈ tables_1, d.before a0 Z = true) : (Jvm.Cond.arrayClass Jvm.ClassFile.FieldType.char).before a0 Z = true := hw _ (List.mem_of_getElem? (i := 13) rfl)
theorem own_d2_9 : decode method_4_code 9 = .ok (.newarray .char, 2) := by decide +kernel
theorem own_w14 {a0 : Array Value} {Z : State} (hw : ∀ d ∈ tables_1, d.before a0 Z = true) : (Jvm.Cond.methodLink "com/example/vestbook/vestbook/WholeNumbersIsPlanYearPinLaw" (11 : Nat) ({ cls := "java/lang/String", name := "<init>", desc := "([C)V" } : Jvm.MethodName)).before a0 Z = true := hw _ (List.mem_of_getElem? (i := 14) rfl)
theorem own_pd14 : parseMethodDescriptor "([C)V" = some ⟨[(.array .char)], none⟩ := by decide +kernel
theorem own_d2_11 : decode method_4_code 11 = .ok (.invokespecial 11, 3) := by decide +kernel
theorem own_w15 {a0 : Array Value} {Z : State} (hw : ∀ d ∈ tables_1, d.before a0 Z = true) : (Jvm.Cond.instanceMethod ({ cls := "java/lang/String", name := "<init>", desc := "([C)V" } : Jvm.MethodName)).before a0 Z = true := hw _ (List.mem_of_getElem? (i := 15) rfl)
theorem own_w16 {a0 : Array Value} {Z : State} (hw : ∀ d ∈ tables_1, d.before a0 Z = true) : (Jvm.Cond.code ({ cls := "java/lang/String", name := "<init>", desc := "([C)V" } : Jvm.MethodName) jdk_42_method_3_code (2 : Nat) (Option.none : Option Jvm.ClassFile.FieldType)).before a0 Z = true := hw _ (List.mem_of_getElem? (i := 16) rfl)
theorem own_d2_14 : decode method_4_code 14 = .ok (.areturn, 1) := by decide +kernel
theorem own_d2_15 : decode method_4_code 15 = .ok (.iload_n 0, 1) := by decide +kernel
theorem own_d2_16 : decode method_4_code 16 = .ok (.iconst 1, 1) := by decide +kernel
theorem own_d2_17 : decode method_4_code 17 = .ok (.if_icmp .ne 18, 3) := by decide +kernel
theorem own_d2_20 : decode method_4_code 20 = .ok (.new 9, 3) := by decide +kernel
theorem own_d2_23 : decode method_4_code 23 = .ok (.dup, 1) := by decide +kernel
theorem own_d2_24 : decode method_4_code 24 = .ok (.iconst 1, 1) := by decide +kernel
theorem own_d2_25 : decode method_4_code 25 = .ok (.newarray .char, 2) := by decide +kernel
theorem own_d2_27 : decode method_4_code 27 = .ok (.dup, 1) := by decide +kernel
theorem own_d2_28 : decode method_4_code 28 = .ok (.iconst 0, 1) := by decide +kernel
theorem own_d2_29 : decode method_4_code 29 = .ok (.iload_n 1, 1) := by decide +kernel
theorem own_d2_30 : decode method_4_code 30 = .ok (.castore, 1) := by decide +kernel
theorem own_d2_31 : decode method_4_code 31 = .ok (.invokespecial 11, 3) := by decide +kernel
theorem own_d2_34 : decode method_4_code 34 = .ok (.areturn, 1) := by decide +kernel
theorem own_d2_35 : decode method_4_code 35 = .ok (.iload_n 0, 1) := by decide +kernel
theorem own_d2_36 : decode method_4_code 36 = .ok (.iconst 2, 1) := by decide +kernel
theorem own_d2_37 : decode method_4_code 37 = .ok (.if_icmp .ne 22, 3) := by decide +kernel
theorem own_d2_40 : decode method_4_code 40 = .ok (.new 9, 3) := by decide +kernel
theorem own_d2_43 : decode method_4_code 43 = .ok (.dup, 1) := by decide +kernel
theorem own_d2_44 : decode method_4_code 44 = .ok (.iconst 2, 1) := by decide +kernel
theorem own_d2_45 : decode method_4_code 45 = .ok (.newarray .char, 2) := by decide +kernel
theorem own_d2_47 : decode method_4_code 47 = .ok (.dup, 1) := by decide +kernel
theorem own_d2_48 : decode method_4_code 48 = .ok (.iconst 0, 1) := by decide +kernel
theorem own_d2_49 : decode method_4_code 49 = .ok (.iload_n 1, 1) := by decide +kernel
theorem own_d2_50 : decode method_4_code 50 = .ok (.castore, 1) := by decide +kernel
theorem own_d2_51 : decode method_4_code 51 = .ok (.dup, 1) := by decide +kernel
theorem own_d2_52 : decode method_4_code 52 = .ok (.iconst 1, 1) := by decide +kernel
theorem own_d2_53 : decode method_4_code 53 = .ok (.iload_n 2, 1) := by decide +kernel
theorem own_d2_54 : decode method_4_code 54 = .ok (.castore, 1) := by decide +kernel
theorem own_d2_55 : decode method_4_code 55 = .ok (.invokespecial 11, 3) := by decide +kernel
theorem own_d2_58 : decode method_4_code 58 = .ok (.areturn, 1) := by decide +kernel
theorem own_d2_59 : decode method_4_code 59 = .ok (.iload_n 0, 1) := by decide +kernel
theorem own_d2_60 : decode method_4_code 60 = .ok (.iconst 3, 1) := by decide +kernel
theorem own_d2_61 : decode method_4_code 61 = .ok (.if_icmp .ne 26, 3) := by decide +kernel
theorem own_d2_64 : decode method_4_code 64 = .ok (.new 9, 3) := by decide +kernel
theorem own_d2_67 : decode method_4_code 67 = .ok (.dup, 1) := by decide +kernel
theorem own_d2_68 : decode method_4_code 68 = .ok (.iconst 3, 1) := by decide +kernel
theorem own_d2_69 : decode method_4_code 69 = .ok (.newarray .char, 2) := by decide +kernel
theorem own_d2_71 : decode method_4_code 71 = .ok (.dup, 1) := by decide +kernel
theorem own_d2_72 : decode method_4_code 72 = .ok (.iconst 0, 1) := by decide +kernel
theorem own_d2_73 : decode method_4_code 73 = .ok (.iload_n 1, 1) := by decide +kernel
theorem own_d2_74 : decode method_4_code 74 = .ok (.castore, 1) := by decide +kernel
theorem own_d2_75 : decode method_4_code 75 = .ok (.dup, 1) := by decide +kernel
theorem own_d2_76 : decode method_4_code 76 = .ok (.iconst 1, 1) := by decide +kernel
theorem own_d2_77 : decode method_4_code 77 = .ok (.iload_n 2, 1) := by decide +kernel
theorem own_d2_78 : decode method_4_code 78 = .ok (.castore, 1) := by decide +kernel
theorem own_d2_79 : decode method_4_code 79 = .ok (.dup, 1) := by decide +kernel
theorem own_d2_80 : decode method_4_code 80 = .ok (.iconst 2, 1) := by decide +kernel
theorem own_d2_81 : decode method_4_code 81 = .ok (.iload_n 3, 1) := by decide +kernel
theorem own_d2_82 : decode method_4_code 82 = .ok (.castore, 1) := by decide +kernel
theorem own_d2_83 : decode method_4_code 83 = .ok (.invokespecial 11, 3) := by decide +kernel
theorem own_d2_86 : decode method_4_code 86 = .ok (.areturn, 1) := by decide +kernel
theorem own_d2_87 : decode method_4_code 87 = .ok (.iload_n 0, 1) := by decide +kernel
theorem own_d2_88 : decode method_4_code 88 = .ok (.iconst 4, 1) := by decide +kernel
theorem own_d2_89 : decode method_4_code 89 = .ok (.if_icmp .ne 31, 3) := by decide +kernel
theorem own_d2_92 : decode method_4_code 92 = .ok (.new 9, 3) := by decide +kernel
theorem own_d2_95 : decode method_4_code 95 = .ok (.dup, 1) := by decide +kernel
theorem own_d2_96 : decode method_4_code 96 = .ok (.iconst 4, 1) := by decide +kernel
theorem own_d2_97 : decode method_4_code 97 = .ok (.newarray .char, 2) := by decide +kernel
theorem own_d2_99 : decode method_4_code 99 = .ok (.dup, 1) := by decide +kernel
theorem own_d2_100 : decode method_4_code 100 = .ok (.iconst 0, 1) := by decide +kernel
theorem own_d2_101 : decode method_4_code 101 = .ok (.iload_n 1, 1) := by decide +kernel
theorem own_d2_102 : decode method_4_code 102 = .ok (.castore, 1) := by decide +kernel
theorem own_d2_103 : decode method_4_code 103 = .ok (.dup, 1) := by decide +kernel
theorem own_d2_104 : decode method_4_code 104 = .ok (.iconst 1, 1) := by decide +kernel
theorem own_d2_105 : decode method_4_code 105 = .ok (.iload_n 2, 1) := by decide +kernel
theorem own_d2_106 : decode method_4_code 106 = .ok (.castore, 1) := by decide +kernel
theorem own_d2_107 : decode method_4_code 107 = .ok (.dup, 1) := by decide +kernel
theorem own_d2_108 : decode method_4_code 108 = .ok (.iconst 2, 1) := by decide +kernel
theorem own_d2_109 : decode method_4_code 109 = .ok (.iload_n 3, 1) := by decide +kernel
theorem own_d2_110 : decode method_4_code 110 = .ok (.castore, 1) := by decide +kernel
theorem own_d2_111 : decode method_4_code 111 = .ok (.dup, 1) := by decide +kernel
theorem own_d2_112 : decode method_4_code 112 = .ok (.iconst 3, 1) := by decide +kernel
theorem own_d2_113 : decode method_4_code 113 = .ok (.iload 4, 2) := by decide +kernel
theorem own_d2_115 : decode method_4_code 115 = .ok (.castore, 1) := by decide +kernel
theorem own_d2_116 : decode method_4_code 116 = .ok (.invokespecial 11, 3) := by decide +kernel
theorem own_d2_119 : decode method_4_code 119 = .ok (.areturn, 1) := by decide +kernel
theorem own_d2_120 : decode method_4_code 120 = .ok (.new 9, 3) := by decide +kernel
theorem own_d2_123 : decode method_4_code 123 = .ok (.dup, 1) := by decide +kernel
theorem own_d2_124 : decode method_4_code 124 = .ok (.iconst 5, 1) := by decide +kernel
theorem own_d2_125 : decode method_4_code 125 = .ok (.newarray .char, 2) := by decide +kernel
theorem own_d2_127 : decode method_4_code 127 = .ok (.dup, 1) := by decide +kernel
theorem own_d2_128 : decode method_4_code 128 = .ok (.iconst 0, 1) := by decide +kernel
theorem own_d2_129 : decode method_4_code 129 = .ok (.iload_n 1, 1) := by decide +kernel
theorem own_d2_130 : decode method_4_code 130 = .ok (.castore, 1) := by decide +kernel
theorem own_d2_131 : decode method_4_code 131 = .ok (.dup, 1) := by decide +kernel
theorem own_d2_132 : decode method_4_code 132 = .ok (.iconst 1, 1) := by decide +kernel
theorem own_d2_133 : decode method_4_code 133 = .ok (.iload_n 2, 1) := by decide +kernel
theorem own_d2_134 : decode method_4_code 134 = .ok (.castore, 1) := by decide +kernel
theorem own_d2_135 : decode method_4_code 135 = .ok (.dup, 1) := by decide +kernel
theorem own_d2_136 : decode method_4_code 136 = .ok (.iconst 2, 1) := by decide +kernel
theorem own_d2_137 : decode method_4_code 137 = .ok (.iload_n 3, 1) := by decide +kernel
theorem own_d2_138 : decode method_4_code 138 = .ok (.castore, 1) := by decide +kernel
theorem own_d2_139 : decode method_4_code 139 = .ok (.dup, 1) := by decide +kernel
theorem own_d2_140 : decode method_4_code 140 = .ok (.iconst 3, 1) := by decide +kernel
theorem own_d2_141 : decode method_4_code 141 = .ok (.iload 4, 2) := by decide +kernel
theorem own_d2_143 : decode method_4_code 143 = .ok (.castore, 1) := by decide +kernel
theorem own_d2_144 : decode method_4_code 144 = .ok (.dup, 1) := by decide +kernel
theorem own_d2_145 : decode method_4_code 145 = .ok (.iconst 4, 1) := by decide +kernel
theorem own_d2_146 : decode method_4_code 146 = .ok (.iload 5, 2) := by decide +kernel
theorem own_d2_148 : decode method_4_code 148 = .ok (.castore, 1) := by decide +kernel
theorem own_d2_149 : decode method_4_code 149 = .ok (.invokespecial 11, 3) := by decide +kernel
theorem own_d2_152 : decode method_4_code 152 = .ok (.areturn, 1) := by decide +kernel
theorem own_d14_0 : decode prog_7_method_6_code 0 = .ok (.iload_n 1, 1) := by decide +kernel
theorem own_d14_1 : decode prog_7_method_6_code 1 = .ok (.iload_n 2, 1) := by decide +kernel
theorem own_d14_2 : decode prog_7_method_6_code 2 = .ok (.if_icmp .ne 5, 3) := by decide +kernel
theorem own_d14_7 : decode prog_7_method_6_code 7 = .ok (.iload_n 1, 1) := by decide +kernel
theorem own_d14_8 : decode prog_7_method_6_code 8 = .ok (.istore_n 3, 1) := by decide +kernel
theorem own_d14_9 : decode prog_7_method_6_code 9 = .ok (.iload_n 3, 1) := by decide +kernel
theorem own_d14_10 : decode prog_7_method_6_code 10 = .ok (.iload_n 2, 1) := by decide +kernel
theorem own_d14_11 : decode prog_7_method_6_code 11 = .ok (.if_icmp .ge 32, 3) := by decide +kernel
theorem own_d14_14 : decode prog_7_method_6_code 14 = .ok (.aload_n 0, 1) := by decide +kernel
theorem own_d14_15 : decode prog_7_method_6_code 15 = .ok (.iload_n 3, 1) := by decide +kernel
theorem own_w66 {a0 : Array Value} {Z : State} (hw : ∀ d ∈ tables_1, d.before a0 Z = true) : (Jvm.Cond.methodLink "com/example/vestbook/vestbook/WholeNumbers" (22 : Nat) ({ cls := "java/lang/String", name := "charAt", desc := "(I)C" } : Jvm.MethodName)).before a0 Z = true := hw _ (List.mem_of_getElem? (i := 66) rfl)
theorem own_pd15 : parseMethodDescriptor "(I)C" = some ⟨[.int], some .char⟩ := by decide +kernel
theorem own_d14_16 : decode prog_7_method_6_code 16 = .ok (.invokevirtual 22, 3) := by decide +kernel
theorem own_w69 {a0 : Array Value} {Z : State} (hw : ∀ d ∈ tables_1, d.before a0 Z = true) : (Jvm.Cond.selects "java/lang/String" ({ cls := "java/lang/String", name := "charAt", desc := "(I)C" } : Jvm.MethodName) ({ cls := "java/lang/String", name := "charAt", desc := "(I)C" } : Jvm.MethodName)).before a0 Z = true := hw _ (List.mem_of_getElem? (i := 69) rfl)
theorem own_w67 {a0 : Array Value} {Z : State} (hw : ∀ d ∈ tables_1, d.before a0 Z = true) : (Jvm.Cond.declares ({ cls := "java/lang/String", name := "charAt", desc := "(I)C" } : Jvm.MethodName)).before a0 Z = true := hw _ (List.mem_of_getElem? (i := 67) rfl)
theorem own_w68 {a0 : Array Value} {Z : State} (hw : ∀ d ∈ tables_1, d.before a0 Z = true) : (Jvm.Cond.instanceMethod ({ cls := "java/lang/String", name := "charAt", desc := "(I)C" } : Jvm.MethodName)).before a0 Z = true := hw _ (List.mem_of_getElem? (i := 68) rfl)
theorem own_w70 {a0 : Array Value} {Z : State} (hw : ∀ d ∈ tables_1, d.before a0 Z = true) : (Jvm.Cond.code ({ cls := "java/lang/String", name := "charAt", desc := "(I)C" } : Jvm.MethodName) jdk_42_method_56_code (2 : Nat) (Option.some Jvm.ClassFile.FieldType.char)).before a0 Z = true := hw _ (List.mem_of_getElem? (i := 70) rfl)
theorem own_d14_19 : decode prog_7_method_6_code 19 = .ok (.istore 4, 2) := by decide +kernel
theorem own_d14_21 : decode prog_7_method_6_code 21 = .ok (.iload 4, 2) := by decide +kernel
theorem own_d14_23 : decode prog_7_method_6_code 23 = .ok (.bipush 48, 2) := by decide +kernel
theorem own_d14_25 : decode prog_7_method_6_code 25 = .ok (.if_icmp .lt 10, 3) := by decide +kernel
theorem own_d14_35 : decode prog_7_method_6_code 35 = .ok (.iconst 0, 1) := by decide +kernel
theorem own_d14_36 : decode prog_7_method_6_code 36 = .ok (.ireturn, 1) := by decide +kernel
theorem own_d14_28 : decode prog_7_method_6_code 28 = .ok (.iload 4, 2) := by decide +kernel
theorem own_d14_30 : decode prog_7_method_6_code 30 = .ok (.bipush 57, 2) := by decide +kernel
theorem own_d14_32 : decode prog_7_method_6_code 32 = .ok (.if_icmp .le 5, 3) := by decide +kernel
theorem own_d14_37 : decode prog_7_method_6_code 37 = .ok (.iinc 3 1, 3) := by decide +kernel
theorem own_d14_40 : decode prog_7_method_6_code 40 = .ok (.goto (-31), 3) := by decide +kernel
theorem own_d14_43 : decode prog_7_method_6_code 43 = .ok (.iconst 1, 1) := by decide +kernel
theorem own_d14_44 : decode prog_7_method_6_code 44 = .ok (.ireturn, 1) := by decide +kernel
theorem own_pn5 : plainName "com/example/vestbook/vestbook/WholeNumbers" = true := by first | (simp [plainName, overriddenIn]; done) | decide +kernel
theorem own_d13_0 : decode prog_7_method_5_code 0 = .ok (.aload_n 0, 1) := by decide +kernel
theorem own_d13_1 : decode prog_7_method_5_code 1 = .ok (.iconst 0, 1) := by decide +kernel
theorem own_d13_2 : decode prog_7_method_5_code 2 = .ok (.aload_n 0, 1) := by decide +kernel
theorem own_w36 {a0 : Array Value} {Z : State} (hw : ∀ d ∈ tables_1, d.before a0 Z = true) : (Jvm.Cond.methodLink "com/example/vestbook/vestbook/WholeNumbers" (7 : Nat) ({ cls := "java/lang/String", name := "length", desc := "()I" } : Jvm.MethodName)).before a0 Z = true := hw _ (List.mem_of_getElem? (i := 36) rfl)
theorem own_pd16 : parseMethodDescriptor "()I" = some ⟨[], some .int⟩ := by decide +kernel
theorem own_d13_3 : decode prog_7_method_5_code 3 = .ok (.invokevirtual 7, 3) := by decide +kernel
theorem own_w39 {a0 : Array Value} {Z : State} (hw : ∀ d ∈ tables_1, d.before a0 Z = true) : (Jvm.Cond.selects "java/lang/String" ({ cls := "java/lang/String", name := "length", desc := "()I" } : Jvm.MethodName) ({ cls := "java/lang/String", name := "length", desc := "()I" } : Jvm.MethodName)).before a0 Z = true := hw _ (List.mem_of_getElem? (i := 39) rfl)
theorem own_w37 {a0 : Array Value} {Z : State} (hw : ∀ d ∈ tables_1, d.before a0 Z = true) : (Jvm.Cond.declares ({ cls := "java/lang/String", name := "length", desc := "()I" } : Jvm.MethodName)).before a0 Z = true := hw _ (List.mem_of_getElem? (i := 37) rfl)
theorem own_w38 {a0 : Array Value} {Z : State} (hw : ∀ d ∈ tables_1, d.before a0 Z = true) : (Jvm.Cond.instanceMethod ({ cls := "java/lang/String", name := "length", desc := "()I" } : Jvm.MethodName)).before a0 Z = true := hw _ (List.mem_of_getElem? (i := 38) rfl)
theorem own_w40 {a0 : Array Value} {Z : State} (hw : ∀ d ∈ tables_1, d.before a0 Z = true) : (Jvm.Cond.code ({ cls := "java/lang/String", name := "length", desc := "()I" } : Jvm.MethodName) jdk_42_method_54_code (1 : Nat) (Option.some Jvm.ClassFile.FieldType.int)).before a0 Z = true := hw _ (List.mem_of_getElem? (i := 40) rfl)
theorem own_w63 {a0 : Array Value} {Z : State} (hw : ∀ d ∈ tables_1, d.before a0 Z = true) : (Jvm.Cond.methodLink "com/example/vestbook/vestbook/WholeNumbers" (19 : Nat) ({ cls := "com/example/vestbook/vestbook/WholeNumbers", name := "isDigits", desc := "(Ljava/lang/String;II)Z" } : Jvm.MethodName)).before a0 Z = true := hw _ (List.mem_of_getElem? (i := 63) rfl)
theorem own_pd17 : parseMethodDescriptor "(Ljava/lang/String;II)Z" = some ⟨[(.object "java/lang/String"), .int, .int], some .boolean⟩ := by decide +kernel
theorem own_d13_6 : decode prog_7_method_5_code 6 = .ok (.invokestatic 19, 3) := by decide +kernel
theorem own_w64 {a0 : Array Value} {Z : State} (hw : ∀ d ∈ tables_1, d.before a0 Z = true) : (Jvm.Cond.static ({ cls := "com/example/vestbook/vestbook/WholeNumbers", name := "isDigits", desc := "(Ljava/lang/String;II)Z" } : Jvm.MethodName)).before a0 Z = true := hw _ (List.mem_of_getElem? (i := 64) rfl)
theorem own_w34 {a0 : Array Value} {Z : State} (hw : ∀ d ∈ tables_1, d.before a0 Z = true) : (Jvm.Cond.initialized "com/example/vestbook/vestbook/WholeNumbers").before a0 Z = true := hw _ (List.mem_of_getElem? (i := 34) rfl)
theorem own_w65 {a0 : Array Value} {Z : State} (hw : ∀ d ∈ tables_1, d.before a0 Z = true) : (Jvm.Cond.code ({ cls := "com/example/vestbook/vestbook/WholeNumbers", name := "isDigits", desc := "(Ljava/lang/String;II)Z" } : Jvm.MethodName) prog_7_method_6_code (5 : Nat) (Option.some Jvm.ClassFile.FieldType.boolean)).before a0 Z = true := hw _ (List.mem_of_getElem? (i := 65) rfl)
theorem own_d13_9 : decode prog_7_method_5_code 9 = .ok (.ireturn, 1) := by decide +kernel
theorem own_d6_0 : decode prog_7_method_2_code 0 = .ok (.aload_n 0, 1) := by decide +kernel
theorem own_d6_1 : decode prog_7_method_2_code 1 = .ok (.invokevirtual 7, 3) := by decide +kernel
theorem own_d6_4 : decode prog_7_method_2_code 4 = .ok (.iconst 4, 1) := by decide +kernel
theorem own_d6_5 : decode prog_7_method_2_code 5 = .ok (.if_icmp .ne 14, 3) := by decide +kernel
theorem own_d6_8 : decode prog_7_method_2_code 8 = .ok (.aload_n 0, 1) := by decide +kernel
theorem own_w60 {a0 : Array Value} {Z : State} (hw : ∀ d ∈ tables_1, d.before a0 Z = true) : (Jvm.Cond.methodLink "com/example/vestbook/vestbook/WholeNumbers" (13 : Nat) ({ cls := "com/example/vestbook/vestbook/WholeNumbers", name := "isDigits", desc := "(Ljava/lang/String;)Z" } : Jvm.MethodName)).before a0 Z = true := hw _ (List.mem_of_getElem? (i := 60) rfl)
theorem own_pd18 : parseMethodDescriptor "(Ljava/lang/String;)Z" = some ⟨[(.object "java/lang/String")], some .boolean⟩ := by decide +kernel
theorem own_d6_9 : decode prog_7_method_2_code 9 = .ok (.invokestatic 13, 3) := by decide +kernel
theorem own_w61 {a0 : Array Value} {Z : State} (hw : ∀ d ∈ tables_1, d.before a0 Z = true) : (Jvm.Cond.static ({ cls := "com/example/vestbook/vestbook/WholeNumbers", name := "isDigits", desc := "(Ljava/lang/String;)Z" } : Jvm.MethodName)).before a0 Z = true := hw _ (List.mem_of_getElem? (i := 61) rfl)
theorem own_w62 {a0 : Array Value} {Z : State} (hw : ∀ d ∈ tables_1, d.before a0 Z = true) : (Jvm.Cond.code ({ cls := "com/example/vestbook/vestbook/WholeNumbers", name := "isDigits", desc := "(Ljava/lang/String;)Z" } : Jvm.MethodName) prog_7_method_5_code (1 : Nat) (Option.some Jvm.ClassFile.FieldType.boolean)).before a0 Z = true := hw _ (List.mem_of_getElem? (i := 62) rfl)
theorem own_d6_12 : decode prog_7_method_2_code 12 = .ok (.ifCond .eq 7, 3) := by decide +kernel
theorem own_d6_19 : decode prog_7_method_2_code 19 = .ok (.iconst 0, 1) := by decide +kernel
theorem own_d6_20 : decode prog_7_method_2_code 20 = .ok (.ireturn, 1) := by decide +kernel
theorem own_d6_15 : decode prog_7_method_2_code 15 = .ok (.iconst 1, 1) := by decide +kernel
theorem own_d6_16 : decode prog_7_method_2_code 16 = .ok (.goto 4, 3) := by decide +kernel
theorem own_w0 {a0 : Array Value} {Z : State} (hw : ∀ d ∈ tables_1, d.before a0 Z = true) : (Jvm.Cond.constant "com/example/vestbook/vestbook/WholeNumbersIsPlanYearPinLaw" (14 : Nat) (2147483647 : Int32)).before a0 Z = true := hw _ (List.mem_of_getElem? (i := 0) rfl)
theorem own_w1 {a0 : Array Value} {Z : State} (hw : ∀ d ∈ tables_1, d.before a0 Z = true) : (Jvm.Cond.methodLink "com/example/vestbook/vestbook/WholeNumbersIsPlanYearPinLaw" (15 : Nat) ({ cls := "com/example/vestbook/vestbook/WholeNumbersIsPlanYearPinLaw", name := "draw", desc := "(I)C" } : Jvm.MethodName)).before a0 Z = true := hw _ (List.mem_of_getElem? (i := 1) rfl)
theorem own_w2 {a0 : Array Value} {Z : State} (hw : ∀ d ∈ tables_1, d.before a0 Z = true) : (Jvm.Cond.static ({ cls := "com/example/vestbook/vestbook/WholeNumbersIsPlanYearPinLaw", name := "draw", desc := "(I)C" } : Jvm.MethodName)).before a0 Z = true := hw _ (List.mem_of_getElem? (i := 2) rfl)
theorem own_w3 {a0 : Array Value} {Z : State} (hw : ∀ d ∈ tables_1, d.before a0 Z = true) : (Jvm.Cond.initialized "com/example/vestbook/vestbook/WholeNumbersIsPlanYearPinLaw").before a0 Z = true := hw _ (List.mem_of_getElem? (i := 3) rfl)
theorem own_w4 {a0 : Array Value} {Z : State} (hw : ∀ d ∈ tables_1, d.before a0 Z = true) : (Jvm.Cond.code ({ cls := "com/example/vestbook/vestbook/WholeNumbersIsPlanYearPinLaw", name := "draw", desc := "(I)C" } : Jvm.MethodName) method_2_code (1 : Nat) (Option.some Jvm.ClassFile.FieldType.char)).before a0 Z = true := hw _ (List.mem_of_getElem? (i := 4) rfl)
theorem own_w7 {a0 : Array Value} {Z : State} (hw : ∀ d ∈ tables_1, d.before a0 Z = true) : (Jvm.Cond.methodLink "com/example/vestbook/vestbook/WholeNumbersIsPlanYearPinLaw" (21 : Nat) ({ cls := "com/example/vestbook/vestbook/WholeNumbersIsPlanYearPinLaw", name := "make", desc := "(ICCCCC)Ljava/lang/String;" } : Jvm.MethodName)).before a0 Z = true := hw _ (List.mem_of_getElem? (i := 7) rfl)
theorem own_pd19 : parseMethodDescriptor "(ICCCCC)Ljava/lang/String;" = some ⟨[.int, .char, .char, .char, .char, .char], some (.object "java/lang/String")⟩ := by decide +kernel
theorem own_w8 {a0 : Array Value} {Z : State} (hw : ∀ d ∈ tables_1, d.before a0 Z = true) : (Jvm.Cond.static ({ cls := "com/example/vestbook/vestbook/WholeNumbersIsPlanYearPinLaw", name := "make", desc := "(ICCCCC)Ljava/lang/String;" } : Jvm.MethodName)).before a0 Z = true := hw _ (List.mem_of_getElem? (i := 8) rfl)
theorem own_w9 {a0 : Array Value} {Z : State} (hw : ∀ d ∈ tables_1, d.before a0 Z = true) : (Jvm.Cond.code ({ cls := "com/example/vestbook/vestbook/WholeNumbersIsPlanYearPinLaw", name := "make", desc := "(ICCCCC)Ljava/lang/String;" } : Jvm.MethodName) method_4_code (6 : Nat) (Option.some (Jvm.ClassFile.FieldType.object "java/lang/String"))).before a0 Z = true := hw _ (List.mem_of_getElem? (i := 9) rfl)
theorem own_w57 {a0 : Array Value} {Z : State} (hw : ∀ d ∈ tables_1, d.before a0 Z = true) : (Jvm.Cond.methodLink "com/example/vestbook/vestbook/WholeNumbersIsPlanYearPinLaw" (25 : Nat) ({ cls := "com/example/vestbook/vestbook/WholeNumbersIsPlanYearPinLaw", name := "dig", desc := "(C)Z" } : Jvm.MethodName)).before a0 Z = true := hw _ (List.mem_of_getElem? (i := 57) rfl)
theorem own_w58 {a0 : Array Value} {Z : State} (hw : ∀ d ∈ tables_1, d.before a0 Z = true) : (Jvm.Cond.static ({ cls := "com/example/vestbook/vestbook/WholeNumbersIsPlanYearPinLaw", name := "dig", desc := "(C)Z" } : Jvm.MethodName)).before a0 Z = true := hw _ (List.mem_of_getElem? (i := 58) rfl)
theorem own_w59 {a0 : Array Value} {Z : State} (hw : ∀ d ∈ tables_1, d.before a0 Z = true) : (Jvm.Cond.code ({ cls := "com/example/vestbook/vestbook/WholeNumbersIsPlanYearPinLaw", name := "dig", desc := "(C)Z" } : Jvm.MethodName) method_3_code (1 : Nat) (Option.some Jvm.ClassFile.FieldType.boolean)).before a0 Z = true := hw _ (List.mem_of_getElem? (i := 59) rfl)
theorem own_pd20 : parseMethodDescriptor "(C)Z" = some ⟨[.char], some .boolean⟩ := by decide +kernel
theorem own_w32 {a0 : Array Value} {Z : State} (hw : ∀ d ∈ tables_1, d.before a0 Z = true) : (Jvm.Cond.methodLink "com/example/vestbook/vestbook/WholeNumbersIsPlanYearPinLaw" (29 : Nat) ({ cls := "com/example/vestbook/vestbook/WholeNumbers", name := "isPlanYear", desc := "(Ljava/lang/String;)Z" } : Jvm.MethodName)).before a0 Z = true := hw _ (List.mem_of_getElem? (i := 32) rfl)
theorem own_w33 {a0 : Array Value} {Z : State} (hw : ∀ d ∈ tables_1, d.before a0 Z = true) : (Jvm.Cond.static ({ cls := "com/example/vestbook/vestbook/WholeNumbers", name := "isPlanYear", desc := "(Ljava/lang/String;)Z" } : Jvm.MethodName)).before a0 Z = true := hw _ (List.mem_of_getElem? (i := 33) rfl)
theorem own_w35 {a0 : Array Value} {Z : State} (hw : ∀ d ∈ tables_1, d.before a0 Z = true) : (Jvm.Cond.code ({ cls := "com/example/vestbook/vestbook/WholeNumbers", name := "isPlanYear", desc := "(Ljava/lang/String;)Z" } : Jvm.MethodName) prog_7_method_2_code (1 : Nat) (Option.some Jvm.ClassFile.FieldType.boolean)).before a0 Z = true := hw _ (List.mem_of_getElem? (i := 35) rfl)
set_option maxRecDepth 65536 in
set_option maxHeartbeats 4000000 in
theorem rm_coder (l : Launch) (Z : State) (a0 : Array Value) (hw : ∀ d ∈ tables_1, d.before a0 Z = true) (a : Addr) (h : Heap) (n0 : Nat) (Ds : List Addr) (own_cs : CompactOn Z) (F_c : Fld Z h a "java/lang/String" "coder" "B" (.int (0 : Int32))) :
    Ctr l Z (⟨"java/lang/String", "coder", "()B"⟩ : MethodName) jdk_42_method_152_code 1 (some .byte) [] ({ frames := 0, cells := 0, slots := 0, locals := 0 } : Room) #[.ref a] h n0 Ds (fun v h' Ds' => v = some (.int (0 : Int32)) ∧ h = h' ∧ Ds = Ds') := by
  refine ctr_of (Ls := #[.val (.ref a)]) (plainFor_of_name own_pn0) (fun m => by first | (simp [entryFrame, mkF, argsToLocals, Value.category]; done) | rfl) ?_
  intro C hl hret hnm R
  subst hl
  obtain ⟨zc, S_zc, hzc⟩ := id own_cs
  replace R := R.getS (pc' := 3) (host := "") (Or.inl (own_w46 hw)) Via.refl S_zc own_d8_0 rfl
  replace R := R.ifN (pc' := 6) own_d8_3 (feq hzc).1 rfl
  replace R := R.aloadN (pc' := 7) (v := (.ref a)) own_d8_6 rfl rfl rfl
  replace R := R.getF (pc' := 10) (host := "") (Or.inl (own_w31 hw)) Via.refl F_c own_d8_7 rfl
  replace R := R.goto (pc' := 14) own_d8_10 (by decide) rfl
  exact R.retN (Ds' := Ds) hret (by simp) (show nar .byte (0 : Int32) = (0 : Int32) from rfl) own_d8_14 (by decide) (by decide) (fun _ q => q) ⟨rfl, rfl, rfl⟩
set_option maxRecDepth 65536 in
set_option maxHeartbeats 4000000 in
theorem rm_isLatin1 (l : Launch) (Z : State) (a0 : Array Value) (hw : ∀ d ∈ tables_1, d.before a0 Z = true) (a : Addr) (h : Heap) (n0 : Nat) (Ds : List Addr) (own_cs : CompactOn Z) (F_c : Fld Z h a "java/lang/String" "coder" "B" (.int (0 : Int32))) :
    Ctr l Z (⟨"java/lang/String", "isLatin1", "()Z"⟩ : MethodName) jdk_42_method_154_code 1 (some .boolean) [] ({ frames := 0, cells := 0, slots := 0, locals := 0 } : Room) #[.ref a] h n0 Ds (fun v h' Ds' => v = some (.int (1 : Int32)) ∧ h = h' ∧ Ds = Ds') := by
  refine ctr_of (Ls := #[.val (.ref a)]) (plainFor_of_name own_pn0) (fun m => by first | (simp [entryFrame, mkF, argsToLocals, Value.category]; done) | rfl) ?_
  intro C hl hret hnm R
  subst hl
  obtain ⟨zc, S_zc, hzc⟩ := id own_cs
  replace R := R.getS (pc' := 3) (host := "") (Or.inl (own_w46 hw)) Via.refl S_zc own_d16_0 rfl
  replace R := R.ifN (pc' := 6) own_d16_3 (feq hzc).1 rfl
  replace R := R.aloadN (pc' := 7) (v := (.ref a)) own_d16_6 rfl rfl rfl
  replace R := R.getF (pc' := 10) (host := "") (Or.inl (own_w31 hw)) Via.refl F_c own_d16_7 rfl
  replace R := R.ifN (pc' := 13) own_d16_10 (teq (by decide : (0 : Int32) = (0 : Int32))).2 rfl
  replace R := R.iconst (pc' := 14) (z := (1 : Int32)) own_d16_13 rfl rfl
  replace R := R.goto (pc' := 18) own_d16_14 (by decide) rfl
  exact R.retN (Ds' := Ds) hret (by simp) (show nar .boolean (1 : Int32) = (1 : Int32) from rfl) own_d16_18 (by decide) (by decide) (fun _ q => q) ⟨rfl, rfl, rfl⟩
set_option maxRecDepth 65536 in
set_option maxHeartbeats 4000000 in
theorem rm_length (l : Launch) (Z : State) (a0 : Array Value) (hw : ∀ d ∈ tables_1, d.before a0 Z = true) (a : Addr) (h : Heap) (n0 : Nat) (Ds : List Addr) (own_cs : CompactOn Z) {cs : List Int32} (S_a : IsStr Z h a cs) :
    Ctr l Z (⟨"java/lang/String", "length", "()I"⟩ : MethodName) jdk_42_method_54_code 1 (some .int) [] ({ frames := 1, cells := 0, slots := 0, locals := 13 } : Room) #[.ref a] h n0 Ds (fun v h' Ds' => v = some (.int (Int32.ofNat cs.length)) ∧ h = h' ∧ Ds = Ds') := by
  refine ctr_of (Ls := #[.val (.ref a)]) (plainFor_of_name own_pn0) (fun m => by first | (simp [entryFrame, mkF, argsToLocals, Value.category]; done) | rfl) ?_
  intro C hl hret hnm R
  subst hl
  obtain ⟨e1, e2, e3, e4, t, kb, e5, e6⟩ := S_a
  replace R := R.aloadN (pc' := 1) (v := (.ref a)) own_d7_0 rfl rfl rfl
  replace R := R.getF (pc' := 4) (host := "") (Or.inl (own_w30 hw)) Via.refl e5 own_d7_1 rfl
  replace R := R.arraylength (pc' := 5) e6 own_d7_4 rfl
  replace R := R.aloadN (pc' := 6) (v := (.ref a)) own_d7_5 rfl rfl rfl
  obtain ⟨_, _, _, ⟨rfl, rfl, rfl⟩, R⟩ := R.callV (pc' := 9) (y := (⟨"java/lang/String", "coder", "()B"⟩ : MethodName)) (z := (⟨"java/lang/String", "coder", "()B"⟩ : MethodName)) (argsL := []) (rest := [(.int (Int32.ofNat cs.length))]) (W := 1) (own_w41 hw) (own_w42 hw) (fun s' hZ' => notFace_of_selects (args := #[]) (mvT hZ' (own_w44 hw))) (own_w44 hw) (own_w43 hw) (own_w12 hw) (own_w45 hw) (by decide) e1 (rm_coder C.l Z a0 hw a h n0 Ds own_cs e2) rfl (lenOf own_pd0 rfl) rfl rfl own_d7_6 (by decide) (by decide) (by decide) (by decide) rfl
  replace R := R.mono (ce' := 0) (sl' := 0) (by decide) (by decide)
  replace R := R.stk (S' := [(.int (0 : Int32)), (.int (Int32.ofNat cs.length))]) rfl
  replace R := R.ishr (pc' := 10) own_d7_9 rfl
  replace R := R.stk (congrArg (fun z => ([Value.int z] : List Value)) (own_shr0 (Int32.ofNat cs.length)))
  exact R.retI (Ds' := Ds) hret own_d7_10 (by decide) (by decide) (fun _ q => q) ⟨rfl, rfl, rfl⟩
set_option maxRecDepth 65536 in
set_option maxHeartbeats 4000000 in
theorem rm_pci (l : Launch) (Z : State) (a0 : Array Value) (hw : ∀ d ∈ tables_1, d.before a0 Z = true) (p0 p1 : Int32) (fm : Value) (h : Heap) (n0 : Nat) (Ds : List Addr) (hfm : fm.isRef = true) (hp : ¬ p0 < 0 ∧ p0 < p1) :
    Ctr l Z (⟨"jdk/internal/util/Preconditions", "checkIndex", "(IILjava/util/function/BiFunction;)I"⟩ : MethodName) jdk_41_method_11_code 3 (some .int) [] ({ frames := 0, cells := 0, slots := 0, locals := 0 } : Room) #[.int p0, .int p1, fm] h n0 Ds (fun v h' Ds' => v = some (.int p0) ∧ h = h' ∧ Ds = Ds') := by
  refine ctr_of (Ls := #[.val (.int p0), .val (.int p1), .val fm]) (plainFor_of_name own_pn1) (fun mm => by rcases ref_cases hfm with rfl | ⟨_, rfl⟩ <;> first | (simp [entryFrame, mkF, argsToLocals, Value.category]; done) | rfl) ?_
  intro C hl hret hnm R
  subst hl
  replace R := R.iloadN (pc' := 1) (v := p0) own_d19_0 rfl rfl
  replace R := R.ifN (pc' := 4) own_d19_1 (flt hp.1).1 rfl
  replace R := R.iloadN (pc' := 5) (v := p0) own_d19_4 rfl rfl
  replace R := R.iloadN (pc' := 6) (v := p1) own_d19_5 rfl rfl
  replace R := R.icmpY (pc' := 16) own_d19_6 (tlt hp.2).1 (by decide) rfl
  replace R := R.iloadN (pc' := 17) (v := p0) own_d19_16 rfl rfl
  exact R.retI (Ds' := Ds) hret own_d19_17 (by decide) (by decide) (fun _ q => q) ⟨rfl, rfl, rfl⟩
set_option maxRecDepth 65536 in
set_option maxHeartbeats 4000000 in
theorem rm_ci (l : Launch) (Z : State) (a0 : Array Value) (hw : ∀ d ∈ tables_1, d.before a0 Z = true) (p0 p1 : Int32) (h : Heap) (n0 : Nat) (Ds : List Addr) (own_si : SiooOk Z) (hp : ¬ p0 < 0 ∧ p0 < p1) :
    Ctr l Z (⟨"java/lang/String", "checkIndex", "(II)V"⟩ : MethodName) jdk_42_method_155_code 2 none [] ({ frames := 1, cells := 0, slots := 0, locals := 14 } : Room) #[.int p0, .int p1] h n0 Ds (fun v h' Ds' => v = none ∧ h = h' ∧ Ds = Ds') := by
  refine ctr_of (Ls := #[.val (.int p0), .val (.int p1)]) (plainFor_of_name own_pn0) (fun m => by first | (simp [entryFrame, mkF, argsToLocals, Value.category]; done) | rfl) ?_
  intro C hl hret hnm R
  subst hl
  obtain ⟨fm, S_fm, hfm⟩ := id own_si
  replace R := R.iloadN (pc' := 1) (v := p0) own_d18_0 rfl rfl
  replace R := R.iloadN (pc' := 2) (v := p1) own_d18_1 rfl rfl
  replace R := R.getS (pc' := 5) (host := "") (Or.inl (own_w83 hw)) Via.refl S_fm own_d18_2 rfl
  obtain ⟨_, _, _, ⟨rfl, rfl, rfl⟩, R⟩ := R.callS (pc' := 8) (argsL := [(.int p0), (.int p1), fm]) (rest := []) (W := 0) (own_w85 hw) (own_w86 hw) (own_w84 hw) (own_w87 hw) (by decide) (rm_pci C.l Z a0 hw p0 p1 fm h n0 Ds hfm hp) rfl (lenOf own_pd1 rfl) rfl rfl own_d18_5 (by decide) (by decide) (by decide) (by decide) rfl
  replace R := R.mono (ce' := 0) (sl' := 0) (by decide) (by decide)
  replace R := R.stk (S' := [(.int p0)]) rfl
  replace R := R.pop (pc' := 9) own_d18_8 rfl rfl
  exact R.retV (Ds' := Ds) hret own_d18_9 (by decide) (by decide) (fun _ q => q) ⟨rfl, rfl, rfl⟩
set_option maxRecDepth 65536 in
set_option maxHeartbeats 4000000 in
theorem rm_lch (l : Launch) (Z : State) (a0 : Array Value) (hw : ∀ d ∈ tables_1, d.before a0 Z = true) (t : Addr) (p0 : Int32) (h : Heap) (n0 : Nat) (Ds : List Addr) (own_si : SiooOk Z) {cs : List Int32} {k : Nat} (hk : p0 = Int32.ofNat k) (hkl : k < cs.length) {kb : ClassId} (hl : cs.length ≤ 4000) (hok : ∀ c ∈ cs, ¬ c < 0 ∧ ¬ (255 : Int32) < c) (V_t : Arv Z h t kb .byte (Int32.ofNat cs.length) (bytesOfCs cs) (.int 0)) :
    Ctr l Z (⟨"java/lang/StringLatin1", "charAt", "([BI)C"⟩ : MethodName) jdk_43_method_2_code 2 (some .char) [] ({ frames := 2, cells := 0, slots := 0, locals := 27 } : Room) #[.ref t, .int p0] h n0 Ds (fun v h' Ds' => v = some (.int (cs.getD k 0)) ∧ h = h' ∧ Ds = Ds') := by
  refine ctr_of (Ls := #[.val (.ref t), .val (.int p0)]) (plainFor_of_name own_pn2) (fun m => by first | (simp [entryFrame, mkF, argsToLocals, Value.category]; done) | rfl) ?_
  intro C hl hret hnm R
  subst hl
  have hp : ¬ p0 < 0 ∧ p0 < Int32.ofNat cs.length := by rw [hk]; exact own_j hl hkl
  replace R := R.iloadN (pc' := 1) (v := p0) own_d17_0 rfl rfl
  replace R := R.aloadN (pc' := 2) (v := (.ref t)) own_d17_1 rfl rfl rfl
  replace R := R.arraylength (pc' := 3) V_t own_d17_2 rfl
  obtain ⟨_, _, _, ⟨rfl, rfl, rfl⟩, R⟩ := R.callS (pc' := 6) (argsL := [(.int p0), (.int (Int32.ofNat cs.length))]) (rest := []) (W := 0) (own_w80 hw) (own_w81 hw) (own_w12 hw) (own_w82 hw) (by decide) (rm_ci C.l Z a0 hw p0 (Int32.ofNat cs.length) h n0 Ds own_si hp) rfl (lenOf own_pd2 rfl) rfl rfl own_d17_3 (by decide) (by decide) (by decide) (by decide) rfl
  replace R := R.mono (ce' := 0) (sl' := 0) (by decide) (by decide)
  replace R := R.stk (S' := []) rfl
  replace R := R.aloadN (pc' := 7) (v := (.ref t)) own_d17_6 rfl rfl rfl
  replace R := R.iloadN (pc' := 8) (v := p0) own_d17_7 rfl rfl
  replace R := R.baload (pc' := 9) (v := .int (cs.getD k 0).toInt8.toInt32) V_t hp (by rw [hk]; exact own_bget hl hkl) own_d17_8 rfl
  replace R := R.sipush (pc' := 12) (z := (255 : Int32)) own_d17_9 rfl rfl
  replace R := R.iand (pc' := 13) own_d17_12 rfl
  replace R := R.i2c (pc' := 14) own_d17_13 rfl
  have hb := own_getD hkl hok
  replace R := R.stk (congrArg (fun z => ([Value.int z] : List Value)) (own_b2c hb))
  exact R.retN (Ds' := Ds) hret (by simp) (show nar .char (cs.getD k 0) = (cs.getD k 0) from nar_of hb) own_d17_14 (by decide) (by decide) (fun _ q => q) ⟨rfl, rfl, rfl⟩
set_option maxRecDepth 65536 in
set_option maxHeartbeats 4000000 in
theorem rm_charAt (l : Launch) (Z : State) (a0 : Array Value) (hw : ∀ d ∈ tables_1, d.before a0 Z = true) (a : Addr) (p0 : Int32) (h : Heap) (n0 : Nat) (Ds : List Addr) (own_cs : CompactOn Z) (own_si : SiooOk Z) {cs : List Int32} {k : Nat} (hk : p0 = Int32.ofNat k) (hkl : k < cs.length) (S_a : IsStr Z h a cs) :
    Ctr l Z (⟨"java/lang/String", "charAt", "(I)C"⟩ : MethodName) jdk_42_method_56_code 2 (some .char) [] ({ frames := 3, cells := 0, slots := 0, locals := 40 } : Room) #[.ref a, .int p0] h n0 Ds (fun v h' Ds' => v = some (.int (cs.getD k 0)) ∧ h = h' ∧ Ds = Ds') := by
  refine ctr_of (Ls := #[.val (.ref a), .val (.int p0)]) (plainFor_of_name own_pn0) (fun m => by first | (simp [entryFrame, mkF, argsToLocals, Value.category]; done) | rfl) ?_
  intro C hl hret hnm R
  subst hl
  obtain ⟨e1, e2, e3, e4, t, kb, e5, e6⟩ := S_a
  replace R := R.aloadN (pc' := 1) (v := (.ref a)) own_d15_0 rfl rfl rfl
  obtain ⟨_, _, _, ⟨rfl, rfl, rfl⟩, R⟩ := R.callV (pc' := 4) (y := (⟨"java/lang/String", "isLatin1", "()Z"⟩ : MethodName)) (z := (⟨"java/lang/String", "isLatin1", "()Z"⟩ : MethodName)) (argsL := []) (rest := []) (W := 0) (own_w71 hw) (own_w72 hw) (fun s' hZ' => notFace_of_selects (args := #[]) (mvT hZ' (own_w74 hw))) (own_w74 hw) (own_w73 hw) (own_w12 hw) (own_w75 hw) (by decide) e1 (rm_isLatin1 C.l Z a0 hw a h n0 Ds own_cs e2) rfl (lenOf own_pd3 rfl) rfl rfl own_d15_1 (by decide) (by decide) (by decide) (by decide) rfl
  replace R := R.mono (ce' := 0) (sl' := 0) (by decide) (by decide)
  replace R := R.stk (S' := [(.int (1 : Int32))]) rfl
  replace R := R.ifN (pc' := 7) own_d15_4 (feq (by decide : ¬ ((1 : Int32) = (0 : Int32)))).1 rfl
  replace R := R.aloadN (pc' := 8) (v := (.ref a)) own_d15_7 rfl rfl rfl
  replace R := R.getF (pc' := 11) (host := "") (Or.inl (own_w30 hw)) Via.refl e5 own_d15_8 rfl
  replace R := R.iloadN (pc' := 12) (v := p0) own_d15_11 rfl rfl
  obtain ⟨_, _, _, ⟨rfl, rfl, rfl⟩, R⟩ := R.callS (pc' := 15) (argsL := [(.ref t), (.int p0)]) (rest := []) (W := 0) (own_w76 hw) (own_w77 hw) (own_w78 hw) (own_w79 hw) (by decide) (rm_lch C.l Z a0 hw t p0 h n0 Ds own_si hk hkl e4 e3 e6) rfl (lenOf own_pd4 rfl) rfl rfl own_d15_12 (by decide) (by decide) (by decide) (by decide) rfl
  replace R := R.mono (ce' := 0) (sl' := 0) (by decide) (by decide)
  replace R := R.stk (S' := [(.int (cs.getD k 0))]) rfl
  have hb := own_getD hkl e3
  exact R.retN (Ds' := Ds) hret (by simp) (show nar .char (cs.getD k 0) = (cs.getD k 0) from nar_of hb) own_d15_15 (by decide) (by decide) (fun _ q => q) ⟨rfl, rfl, rfl⟩
set_option maxRecDepth 65536 in
set_option maxHeartbeats 4000000 in
theorem rm_ul (l : Launch) (Z : State) (a0 : Array Value) (hw : ∀ d ∈ tables_1, d.before a0 Z = true) (t : Addr) (h : Heap) (n0 : Nat) (Ds : List Addr) {m : Nat} (hm : m < 8) {kb : ClassId} {vs : List Value} (V_t : Arv Z h t kb .byte (Int32.ofNat (2 * m)) vs (.int 0)) :
    Ctr l Z (⟨"java/lang/StringUTF16", "length", "([B)I"⟩ : MethodName) jdk_52_method_6_code 1 (some .int) [] ({ frames := 0, cells := 0, slots := 0, locals := 0 } : Room) #[.ref t] h n0 Ds (fun v h' Ds' => v = some (.int (Int32.ofNat m)) ∧ h = h' ∧ Ds = Ds') := by
  refine ctr_of (Ls := #[.val (.ref t)]) (plainFor_of_name own_pn3) (fun m => by first | (simp [entryFrame, mkF, argsToLocals, Value.category]; done) | rfl) ?_
  intro C hl hret hnm R
  subst hl
  replace R := R.aloadN (pc' := 1) (v := (.ref t)) own_d27_0 rfl rfl rfl
  replace R := R.arraylength (pc' := 2) V_t own_d27_1 rfl
  replace R := R.iconst (pc' := 3) (z := (1 : Int32)) own_d27_2 rfl rfl
  replace R := R.ishr (pc' := 4) own_d27_3 rfl
  replace R := R.stk (congrArg (fun z => ([Value.int z] : List Value)) (own_shr1 hm))
  exact R.retI (Ds' := Ds) hret own_d27_4 (by decide) (by decide) (fun _ q => q) ⟨rfl, rfl, rfl⟩
set_option maxRecDepth 65536 in
set_option maxHeartbeats 4000000 in
theorem rm_gc (l : Launch) (Z : State) (a0 : Array Value) (hw : ∀ d ∈ tables_1, d.before a0 Z = true) (t : Addr) (p0 : Int32) (h : Heap) (n0 : Nat) (Ds : List Addr) (own_u : U16ok Z) {k m : Nat} (hk : p0 = Int32.ofNat k) (hkm : k < m) (hm : m < 8) {c : Int32} (hc : ¬ c < 0 ∧ ¬ (65535 : Int32) < c) {kb : ClassId} {vs : List Value} (e1 : vs.getD (2 * k) (.int 0) = .int (StrChars.lo8 c)) (e2 : vs.getD (2 * k + 1) (.int 0) = .int (StrChars.hi8 c)) (V_t : Arv Z h t kb .byte (Int32.ofNat (2 * m)) vs (.int 0)) :
    Ctr l Z (⟨"java/lang/StringUTF16", "getChar", "([BI)C"⟩ : MethodName) jdk_52_method_5_code 2 (some .char) [] ({ frames := 0, cells := 0, slots := 0, locals := 0 } : Room) #[.ref t, .int p0] h n0 Ds (fun v h' Ds' => v = some (.int c) ∧ h = h' ∧ Ds = Ds') := by
  refine ctr_of (Ls := #[.val (.ref t), .val (.int p0)]) (plainFor_of_name own_pn3) (fun m => by first | (simp [entryFrame, mkF, argsToLocals, Value.category]; done) | rfl) ?_
  intro C hl hret hnm R
  subst hl
  have hk8 : k < 8 := Nat.lt_trans hkm hm
  replace R := R.getS (pc' := 3) (host := "") (Or.inl (own_w101 hw)) Via.refl own_u.1 own_d24_0 rfl
  replace R := R.ifY (pc' := 28) own_d24_3 (feq (by decide : ¬ ((1 : Int32) = (0 : Int32)))).2 (by decide) rfl
  replace R := R.iloadN (pc' := 29) (v := p0) own_d24_28 rfl rfl
  replace R := R.iconst (pc' := 30) (z := (1 : Int32)) own_d24_29 rfl rfl
  replace R := R.ishl (pc' := 31) own_d24_30 rfl
  replace R := R.stk (congrArg (fun z => ([Value.int z] : List Value)) (show (p0 <<< ((1 : Int32) &&& 31)) = Int32.ofNat (2 * k) by rw [hk]; exact own_shl1 hk8))
  replace R := R.istoreN (pc' := 32) (l' := #[.val (.ref t), .val (.int (Int32.ofNat (2 * k)))]) own_d24_31 rfl rfl
  replace R := R.aloadN (pc' := 33) (v := (.ref t)) own_d24_32 rfl rfl rfl
  replace R := R.iloadN (pc' := 34) (v := (Int32.ofNat (2 * k))) own_d24_33 rfl rfl
  replace R := R.iinc (pc' := 37) (l' := #[.val (.ref t), .val (.int ((Int32.ofNat (2 * k)) + (1 : Int32)))]) own_d24_34 rfl rfl rfl
  replace R := R.loc (congrArg (fun z => (#[.val (.ref t), .val (.int z)] : Array Slot)) (i32_succ (2 * k)))
  replace R := R.baload (pc' := 38) (v := .int (StrChars.lo8 c)) V_t (own_j (k := 2 * k) (n := 2 * m) (by omega) (by omega)) (by rw [own_clamp (by omega)]; exact e1) own_d24_37 rfl
  replace R := R.sipush (pc' := 41) (z := (255 : Int32)) own_d24_38 rfl rfl
  replace R := R.iand (pc' := 42) own_d24_41 rfl
  replace R := R.getS (pc' := 45) (host := "") (Or.inl (own_w102 hw)) Via.refl own_u.2.1 own_d24_42 rfl
  replace R := R.ishl (pc' := 46) own_d24_45 rfl
  replace R := R.aloadN (pc' := 47) (v := (.ref t)) own_d24_46 rfl rfl rfl
  replace R := R.iloadN (pc' := 48) (v := (Int32.ofNat (2 * k + 1))) own_d24_47 rfl rfl
  replace R := R.baload (pc' := 49) (v := .int (StrChars.hi8 c)) V_t (own_j (k := 2 * k + 1) (n := 2 * m) (by omega) (by omega)) (by rw [own_clamp (by omega)]; exact e2) own_d24_48 rfl
  replace R := R.sipush (pc' := 52) (z := (255 : Int32)) own_d24_49 rfl rfl
  replace R := R.iand (pc' := 53) own_d24_52 rfl
  replace R := R.getS (pc' := 56) (host := "") (Or.inl (own_w103 hw)) Via.refl own_u.2.2 own_d24_53 rfl
  replace R := R.ishl (pc' := 57) own_d24_56 rfl
  replace R := R.ior (pc' := 58) own_d24_57 rfl
  replace R := R.i2c (pc' := 59) own_d24_58 rfl
  replace R := R.stk (congrArg (fun z => ([Value.int z] : List Value)) (StrChars.pair_says hc.1 hc.2))
  exact R.retN (Ds' := Ds) hret (by simp) (show nar .char c = c from nar_ch hc) own_d24_59 (by decide) (by decide) (fun _ q => q) ⟨rfl, rfl, rfl⟩
set_option maxRecDepth 65536 in
set_option maxHeartbeats 4000000 in
theorem rm_pch (l : Launch) (Z : State) (a0 : Array Value) (hw : ∀ d ∈ tables_1, d.before a0 Z = true) (b : Addr) (p1 c : Int32) (h : Heap) (n0 : Nat) (Ds : List Addr) (own_u : U16ok Z) {k m : Nat} (hk : p1 = Int32.ofNat k) (hkm : k < m) (hm : m < 8) {kb : ClassId} {vs : List Value} (hvl : vs.length = 2 * m) (hb : b ∈ Ds) (V_b : Arv Z h b kb .byte (Int32.ofNat (2 * m)) vs (.int 0)) :
    Ctr l Z (⟨"java/lang/StringUTF16", "putChar", "([BII)V"⟩ : MethodName) jdk_52_method_4_code 3 none [] ({ frames := 0, cells := 0, slots := 0, locals := 0 } : Room) #[.ref b, .int p1, .int c] h n0 Ds (fun v h' Ds' => v = none ∧ Keep h h' [b] ∧ Arv Z h' b kb .byte (Int32.ofNat (2 * m)) ((vs.set (2 * k) (.int (StrChars.lo8 c))).set (2 * k + 1) (.int (StrChars.hi8 c))) (.int 0) ∧ Ds = Ds') := by
  refine ctr_of (Ls := #[.val (.ref b), .val (.int p1), .val (.int c)]) (plainFor_of_name own_pn3) (fun m => by first | (simp [entryFrame, mkF, argsToLocals, Value.category]; done) | rfl) ?_
  intro C hl hret hnm R
  subst hl
  have hk8 : k < 8 := Nat.lt_trans hkm hm
  replace R := R.getS (pc' := 3) (host := "") (Or.inl (own_w101 hw)) Via.refl own_u.1 own_d23_0 rfl
  replace R := R.ifY (pc' := 28) own_d23_3 (feq (by decide : ¬ ((1 : Int32) = (0 : Int32)))).2 (by decide) rfl
  replace R := R.iloadN (pc' := 29) (v := p1) own_d23_28 rfl rfl
  replace R := R.iconst (pc' := 30) (z := (1 : Int32)) own_d23_29 rfl rfl
  replace R := R.ishl (pc' := 31) own_d23_30 rfl
  replace R := R.stk (congrArg (fun z => ([Value.int z] : List Value)) (show (p1 <<< ((1 : Int32) &&& 31)) = Int32.ofNat (2 * k) by rw [hk]; exact own_shl1 hk8))
  replace R := R.istoreN (pc' := 32) (l' := #[.val (.ref b), .val (.int (Int32.ofNat (2 * k))), .val (.int c)]) own_d23_31 rfl rfl
  replace R := R.aloadN (pc' := 33) (v := (.ref b)) own_d23_32 rfl rfl rfl
  replace R := R.iloadN (pc' := 34) (v := (Int32.ofNat (2 * k))) own_d23_33 rfl rfl
  replace R := R.iinc (pc' := 37) (l' := #[.val (.ref b), .val (.int ((Int32.ofNat (2 * k)) + (1 : Int32))), .val (.int c)]) own_d23_34 rfl rfl rfl
  replace R := R.loc (congrArg (fun z => (#[.val (.ref b), .val (.int z), .val (.int c)] : Array Slot)) (i32_succ (2 * k)))
  replace R := R.iloadN (pc' := 38) (v := c) own_d23_37 rfl rfl
  replace R := R.getS (pc' := 41) (host := "") (Or.inl (own_w102 hw)) Via.refl own_u.2.1 own_d23_38 rfl
  replace R := R.ishr (pc' := 42) own_d23_41 rfl
  replace R := R.i2b (pc' := 43) own_d23_42 rfl
  obtain ⟨h1, K1, V1, R⟩ := R.bastore (pc' := 44) V_b (own_j (k := 2 * k) (n := 2 * m) (by omega) (by omega)) (2 * k) (own_clamp (by omega)) (by omega) hb own_d23_43 rfl
  rw [nar_i2b, own_shr0] at V1
  replace R := R.aloadN (pc' := 45) (v := (.ref b)) own_d23_44 rfl rfl rfl
  replace R := R.iloadN (pc' := 46) (v := (Int32.ofNat (2 * k + 1))) own_d23_45 rfl rfl
  replace R := R.iloadN (pc' := 47) (v := c) own_d23_46 rfl rfl
  replace R := R.getS (pc' := 50) (host := "") (Or.inl (own_w103 hw)) Via.refl own_u.2.2 own_d23_47 rfl
  replace R := R.ishr (pc' := 51) own_d23_50 rfl
  replace R := R.i2b (pc' := 52) own_d23_51 rfl
  obtain ⟨h2, K2, V2, R⟩ := R.bastore (pc' := 53) V1 (own_j (k := 2 * k + 1) (n := 2 * m) (by omega) (by omega)) (2 * k + 1) (own_clamp (by omega)) (by simp only [List.length_set]; omega) hb own_d23_52 rfl
  rw [nar_i2b] at V2
  have hK := (((Keep.refl h [b]).trans K1 (allS (Or.inl (List.mem_of_getElem? (i := 0) rfl)) all0)).trans K2 (allS (Or.inl (List.mem_of_getElem? (i := 0) rfl)) all0))
  exact R.retV (Ds' := Ds) hret own_d23_53 (by decide) (by decide) (fun _ q => q) ⟨rfl, hK, V2, rfl⟩
set_option maxRecDepth 65536 in
set_option maxHeartbeats 4000000 in
theorem rm_coder_u (l : Launch) (Z : State) (a0 : Array Value) (hw : ∀ d ∈ tables_1, d.before a0 Z = true) (a : Addr) (h : Heap) (n0 : Nat) (Ds : List Addr) (own_cs : CompactOn Z) (F_c : Fld Z h a "java/lang/String" "coder" "B" (.int (1 : Int32))) :
    Ctr l Z (⟨"java/lang/String", "coder", "()B"⟩ : MethodName) jdk_42_method_152_code 1 (some .byte) [] ({ frames := 0, cells := 0, slots := 0, locals := 0 } : Room) #[.ref a] h n0 Ds (fun v h' Ds' => v = some (.int (1 : Int32)) ∧ h = h' ∧ Ds = Ds') := by
  refine ctr_of (Ls := #[.val (.ref a)]) (plainFor_of_name own_pn0) (fun m => by first | (simp [entryFrame, mkF, argsToLocals, Value.category]; done) | rfl) ?_
  intro C hl hret hnm R
  subst hl
  obtain ⟨zc, S_zc, hzc⟩ := id own_cs
  replace R := R.getS (pc' := 3) (host := "") (Or.inl (own_w46 hw)) Via.refl S_zc own_d8_0 rfl
  replace R := R.ifN (pc' := 6) own_d8_3 (feq hzc).1 rfl
  replace R := R.aloadN (pc' := 7) (v := (.ref a)) own_d8_6 rfl rfl rfl
  replace R := R.getF (pc' := 10) (host := "") (Or.inl (own_w31 hw)) Via.refl F_c own_d8_7 rfl
  replace R := R.goto (pc' := 14) own_d8_10 (by decide) rfl
  exact R.retN (Ds' := Ds) hret (by simp) (show nar .byte (1 : Int32) = (1 : Int32) from rfl) own_d8_14 (by decide) (by decide) (fun _ q => q) ⟨rfl, rfl, rfl⟩
set_option maxRecDepth 65536 in
set_option maxHeartbeats 4000000 in
theorem rm_isLatin1_u (l : Launch) (Z : State) (a0 : Array Value) (hw : ∀ d ∈ tables_1, d.before a0 Z = true) (a : Addr) (h : Heap) (n0 : Nat) (Ds : List Addr) (own_cs : CompactOn Z) (F_c : Fld Z h a "java/lang/String" "coder" "B" (.int (1 : Int32))) :
    Ctr l Z (⟨"java/lang/String", "isLatin1", "()Z"⟩ : MethodName) jdk_42_method_154_code 1 (some .boolean) [] ({ frames := 0, cells := 0, slots := 0, locals := 0 } : Room) #[.ref a] h n0 Ds (fun v h' Ds' => v = some (.int (0 : Int32)) ∧ h = h' ∧ Ds = Ds') := by
  refine ctr_of (Ls := #[.val (.ref a)]) (plainFor_of_name own_pn0) (fun m => by first | (simp [entryFrame, mkF, argsToLocals, Value.category]; done) | rfl) ?_
  intro C hl hret hnm R
  subst hl
  obtain ⟨zc, S_zc, hzc⟩ := id own_cs
  replace R := R.getS (pc' := 3) (host := "") (Or.inl (own_w46 hw)) Via.refl S_zc own_d16_0 rfl
  replace R := R.ifN (pc' := 6) own_d16_3 (feq hzc).1 rfl
  replace R := R.aloadN (pc' := 7) (v := (.ref a)) own_d16_6 rfl rfl rfl
  replace R := R.getF (pc' := 10) (host := "") (Or.inl (own_w31 hw)) Via.refl F_c own_d16_7 rfl
  replace R := R.ifY (pc' := 17) own_d16_10 (feq (by decide : ¬ ((1 : Int32) = (0 : Int32)))).2 (by decide) rfl
  replace R := R.iconst (pc' := 18) (z := (0 : Int32)) own_d16_17 rfl rfl
  exact R.retN (Ds' := Ds) hret (by simp) (show nar .boolean (0 : Int32) = (0 : Int32) from rfl) own_d16_18 (by decide) (by decide) (fun _ q => q) ⟨rfl, rfl, rfl⟩
set_option maxRecDepth 65536 in
set_option maxHeartbeats 4000000 in
theorem rm_length_u (l : Launch) (Z : State) (a0 : Array Value) (hw : ∀ d ∈ tables_1, d.before a0 Z = true) (a : Addr) (h : Heap) (n0 : Nat) (Ds : List Addr) (own_cs : CompactOn Z) {cs : List Int32} (U_a : Is16 Z h a cs) :
    Ctr l Z (⟨"java/lang/String", "length", "()I"⟩ : MethodName) jdk_42_method_54_code 1 (some .int) [] ({ frames := 1, cells := 0, slots := 0, locals := 13 } : Room) #[.ref a] h n0 Ds (fun v h' Ds' => v = some (.int (Int32.ofNat cs.length)) ∧ h = h' ∧ Ds = Ds') := by
  refine ctr_of (Ls := #[.val (.ref a)]) (plainFor_of_name own_pn0) (fun m => by first | (simp [entryFrame, mkF, argsToLocals, Value.category]; done) | rfl) ?_
  intro C hl hret hnm R
  subst hl
  obtain ⟨e1, e2, e3, e4, t, kb, e5, e6⟩ := U_a
  replace R := R.aloadN (pc' := 1) (v := (.ref a)) own_d7_0 rfl rfl rfl
  replace R := R.getF (pc' := 4) (host := "") (Or.inl (own_w30 hw)) Via.refl e5 own_d7_1 rfl
  replace R := R.arraylength (pc' := 5) e6 own_d7_4 rfl
  replace R := R.aloadN (pc' := 6) (v := (.ref a)) own_d7_5 rfl rfl rfl
  obtain ⟨_, _, _, ⟨rfl, rfl, rfl⟩, R⟩ := R.callV (pc' := 9) (y := (⟨"java/lang/String", "coder", "()B"⟩ : MethodName)) (z := (⟨"java/lang/String", "coder", "()B"⟩ : MethodName)) (argsL := []) (rest := [(.int (Int32.ofNat (2 * cs.length)))]) (W := 1) (own_w41 hw) (own_w42 hw) (fun s' hZ' => notFace_of_selects (args := #[]) (mvT hZ' (own_w44 hw))) (own_w44 hw) (own_w43 hw) (own_w12 hw) (own_w45 hw) (by decide) e1 (rm_coder_u C.l Z a0 hw a h n0 Ds own_cs e2) rfl (lenOf own_pd0 rfl) rfl rfl own_d7_6 (by decide) (by decide) (by decide) (by decide) rfl
  replace R := R.mono (ce' := 0) (sl' := 0) (by decide) (by decide)
  replace R := R.stk (S' := [(.int (1 : Int32)), (.int (Int32.ofNat (2 * cs.length)))]) rfl
  replace R := R.ishr (pc' := 10) own_d7_9 rfl
  replace R := R.stk (congrArg (fun z => ([Value.int z] : List Value)) (own_shr1 e4))
  exact R.retI (Ds' := Ds) hret own_d7_10 (by decide) (by decide) (fun _ q => q) ⟨rfl, rfl, rfl⟩
set_option maxRecDepth 65536 in
set_option maxHeartbeats 4000000 in
theorem rm_uci (l : Launch) (Z : State) (a0 : Array Value) (hw : ∀ d ∈ tables_1, d.before a0 Z = true) (t : Addr) (p0 : Int32) (h : Heap) (n0 : Nat) (Ds : List Addr) (own_si : SiooOk Z) {k m : Nat} (hk : p0 = Int32.ofNat k) (hkm : k < m) (hm : m < 8) {kb : ClassId} {vs : List Value} (V_t : Arv Z h t kb .byte (Int32.ofNat (2 * m)) vs (.int 0)) :
    Ctr l Z (⟨"java/lang/StringUTF16", "checkIndex", "(I[B)V"⟩ : MethodName) jdk_52_method_91_code 2 none [] ({ frames := 2, cells := 0, slots := 0, locals := 27 } : Room) #[.int p0, .ref t] h n0 Ds (fun v h' Ds' => v = none ∧ h = h' ∧ Ds = Ds') := by
  refine ctr_of (Ls := #[.val (.int p0), .val (.ref t)]) (plainFor_of_name own_pn3) (fun m => by first | (simp [entryFrame, mkF, argsToLocals, Value.category]; done) | rfl) ?_
  intro C hl hret hnm R
  subst hl
  have hp : ¬ p0 < 0 ∧ p0 < Int32.ofNat m := by rw [hk]; exact own_j (by omega) hkm
  replace R := R.iloadN (pc' := 1) (v := p0) own_d26_0 rfl rfl
  replace R := R.aloadN (pc' := 2) (v := (.ref t)) own_d26_1 rfl rfl rfl
  obtain ⟨_, _, _, ⟨rfl, rfl, rfl⟩, R⟩ := R.callS (pc' := 5) (argsL := [(.ref t)]) (rest := [(.int p0)]) (W := 1) (own_w113 hw) (own_w114 hw) (own_w49 hw) (own_w115 hw) (by decide) (rm_ul C.l Z a0 hw t h n0 Ds hm V_t) rfl (lenOf own_pd5 rfl) rfl rfl own_d26_2 (by decide) (by decide) (by decide) (by decide) rfl
  replace R := R.mono (ce' := 0) (sl' := 0) (by decide) (by decide)
  replace R := R.stk (S' := [(.int (Int32.ofNat m)), (.int p0)]) rfl
  obtain ⟨_, _, _, ⟨rfl, rfl, rfl⟩, R⟩ := R.callS (pc' := 8) (argsL := [(.int p0), (.int (Int32.ofNat m))]) (rest := []) (W := 0) (own_w116 hw) (own_w81 hw) (own_w12 hw) (own_w82 hw) (by decide) (rm_ci C.l Z a0 hw p0 (Int32.ofNat m) h n0 Ds own_si hp) rfl (lenOf own_pd2 rfl) rfl rfl own_d26_5 (by decide) (by decide) (by decide) (by decide) rfl
  replace R := R.mono (ce' := 0) (sl' := 0) (by decide) (by decide)
  replace R := R.stk (S' := []) rfl
  exact R.retV (Ds' := Ds) hret own_d26_8 (by decide) (by decide) (fun _ q => q) ⟨rfl, rfl, rfl⟩
set_option maxRecDepth 65536 in
set_option maxHeartbeats 4000000 in
theorem rm_uch (l : Launch) (Z : State) (a0 : Array Value) (hw : ∀ d ∈ tables_1, d.before a0 Z = true) (t : Addr) (p0 : Int32) (h : Heap) (n0 : Nat) (Ds : List Addr) (own_si : SiooOk Z) (own_u : U16ok Z) {cs : List Int32} {k : Nat} (hk : p0 = Int32.ofNat k) (hkl : k < cs.length) (hl8 : cs.length < 8) (hok : ∀ c ∈ cs, ¬ c < 0 ∧ ¬ (65535 : Int32) < c) {kb : ClassId} (V_t : Arv Z h t kb .byte (Int32.ofNat (2 * cs.length)) (bytes16 cs) (.int 0)) :
    Ctr l Z (⟨"java/lang/StringUTF16", "charAt", "([BI)C"⟩ : MethodName) jdk_52_method_83_code 2 (some .char) [] ({ frames := 3, cells := 0, slots := 0, locals := 40 } : Room) #[.ref t, .int p0] h n0 Ds (fun v h' Ds' => v = some (.int (cs.getD k 0)) ∧ h = h' ∧ Ds = Ds') := by
  refine ctr_of (Ls := #[.val (.ref t), .val (.int p0)]) (plainFor_of_name own_pn3) (fun m => by first | (simp [entryFrame, mkF, argsToLocals, Value.category]; done) | rfl) ?_
  intro C hl hret hnm R
  subst hl
  replace R := R.iloadN (pc' := 1) (v := p0) own_d25_0 rfl rfl
  replace R := R.aloadN (pc' := 2) (v := (.ref t)) own_d25_1 rfl rfl rfl
  obtain ⟨_, _, _, ⟨rfl, rfl, rfl⟩, R⟩ := R.callS (pc' := 5) (argsL := [(.int p0), (.ref t)]) (rest := []) (W := 0) (own_w110 hw) (own_w111 hw) (own_w49 hw) (own_w112 hw) (by decide) (rm_uci C.l Z a0 hw t p0 h n0 Ds own_si hk hkl hl8 V_t) rfl (lenOf own_pd6 rfl) rfl rfl own_d25_2 (by decide) (by decide) (by decide) (by decide) rfl
  replace R := R.mono (ce' := 0) (sl' := 0) (by decide) (by decide)
  replace R := R.stk (S' := []) rfl
  replace R := R.aloadN (pc' := 6) (v := (.ref t)) own_d25_5 rfl rfl rfl
  replace R := R.iloadN (pc' := 7) (v := p0) own_d25_6 rfl rfl
  obtain ⟨_, _, _, ⟨rfl, rfl, rfl⟩, R⟩ := R.callS (pc' := 10) (argsL := [(.ref t), (.int p0)]) (rest := []) (W := 0) (own_w104 hw) (own_w105 hw) (own_w49 hw) (own_w106 hw) (by decide) (rm_gc C.l Z a0 hw t p0 h n0 Ds own_u (k := k) (m := cs.length) hk hkl hl8 (c := (cs.getD k 0)) (own_getD16 hkl hok) (b16_lo hkl) (b16_hi hkl) V_t) rfl (lenOf own_pd4 rfl) rfl rfl own_d25_7 (by decide) (by decide) (by decide) (by decide) rfl
  replace R := R.mono (ce' := 0) (sl' := 0) (by decide) (by decide)
  replace R := R.stk (S' := [(.int (cs.getD k 0))]) rfl
  exact R.retN (Ds' := Ds) hret (by simp) (show nar .char (cs.getD k 0) = (cs.getD k 0) from nar_ch (own_getD16 hkl hok)) own_d25_10 (by decide) (by decide) (fun _ q => q) ⟨rfl, rfl, rfl⟩
set_option maxRecDepth 65536 in
set_option maxHeartbeats 4000000 in
theorem rm_charAt_u (l : Launch) (Z : State) (a0 : Array Value) (hw : ∀ d ∈ tables_1, d.before a0 Z = true) (a : Addr) (p0 : Int32) (h : Heap) (n0 : Nat) (Ds : List Addr) (own_cs : CompactOn Z) (own_si : SiooOk Z) (own_u : U16ok Z) {cs : List Int32} {k : Nat} (hk : p0 = Int32.ofNat k) (hkl : k < cs.length) (U_a : Is16 Z h a cs) :
    Ctr l Z (⟨"java/lang/String", "charAt", "(I)C"⟩ : MethodName) jdk_42_method_56_code 2 (some .char) [] ({ frames := 4, cells := 0, slots := 0, locals := 53 } : Room) #[.ref a, .int p0] h n0 Ds (fun v h' Ds' => v = some (.int (cs.getD k 0)) ∧ h = h' ∧ Ds = Ds') := by
  refine ctr_of (Ls := #[.val (.ref a), .val (.int p0)]) (plainFor_of_name own_pn0) (fun m => by first | (simp [entryFrame, mkF, argsToLocals, Value.category]; done) | rfl) ?_
  intro C hl hret hnm R
  subst hl
  obtain ⟨e1, e2, e3, e4, t, kb, e5, e6⟩ := U_a
  replace R := R.aloadN (pc' := 1) (v := (.ref a)) own_d15_0 rfl rfl rfl
  obtain ⟨_, _, _, ⟨rfl, rfl, rfl⟩, R⟩ := R.callV (pc' := 4) (y := (⟨"java/lang/String", "isLatin1", "()Z"⟩ : MethodName)) (z := (⟨"java/lang/String", "isLatin1", "()Z"⟩ : MethodName)) (argsL := []) (rest := []) (W := 0) (own_w71 hw) (own_w72 hw) (fun s' hZ' => notFace_of_selects (args := #[]) (mvT hZ' (own_w74 hw))) (own_w74 hw) (own_w73 hw) (own_w12 hw) (own_w75 hw) (by decide) e1 (rm_isLatin1_u C.l Z a0 hw a h n0 Ds own_cs e2) rfl (lenOf own_pd3 rfl) rfl rfl own_d15_1 (by decide) (by decide) (by decide) (by decide) rfl
  replace R := R.mono (ce' := 0) (sl' := 0) (by decide) (by decide)
  replace R := R.stk (S' := [(.int (0 : Int32))]) rfl
  replace R := R.ifY (pc' := 16) own_d15_4 (teq (by decide : (0 : Int32) = (0 : Int32))).1 (by decide) rfl
  replace R := R.aloadN (pc' := 17) (v := (.ref a)) own_d15_16 rfl rfl rfl
  replace R := R.getF (pc' := 20) (host := "") (Or.inl (own_w30 hw)) Via.refl e5 own_d15_17 rfl
  replace R := R.iloadN (pc' := 21) (v := p0) own_d15_20 rfl rfl
  obtain ⟨_, _, _, ⟨rfl, rfl, rfl⟩, R⟩ := R.callS (pc' := 24) (argsL := [(.ref t), (.int p0)]) (rest := []) (W := 0) (own_w107 hw) (own_w108 hw) (own_w49 hw) (own_w109 hw) (by decide) (rm_uch C.l Z a0 hw t p0 h n0 Ds own_si own_u hk hkl e4 e3 e6) rfl (lenOf own_pd4 rfl) rfl rfl own_d15_21 (by decide) (by decide) (by decide) (by decide) rfl
  replace R := R.mono (ce' := 0) (sl' := 0) (by decide) (by decide)
  replace R := R.stk (S' := [(.int (cs.getD k 0))]) rfl
  exact R.retN (Ds' := Ds) hret (by simp) (show nar .char (cs.getD k 0) = (cs.getD k 0) from nar_ch (own_getD16 hkl e3)) own_d15_24 (by decide) (by decide) (fun _ q => q) ⟨rfl, rfl, rfl⟩
set_option maxRecDepth 65536 in
set_option maxHeartbeats 4000000 in
theorem rm_i4_0 (l : Launch) (Z : State) (a0 : Array Value) (hw : ∀ d ∈ tables_1, d.before a0 Z = true) (a : Addr) (h : Heap) (n0 : Nat) (Ds : List Addr) (own_cs : CompactOn Z) (own_si : SiooOk Z) (own_u : U16ok Z) (ha : a ∈ Ds) (hok : ∀ c ∈ ([] : List Int32), ¬ c < 0 ∧ ¬ (65535 : Int32) < c) {q : Addr} {kq : ClassId} (V_q : Arv Z h q kq .char (0 : Int32) ([]) (.int 0)) {u1 u2 : Value} (E_a : Exa Z h a "java/lang/String") (F_v : Fld Z h a "java/lang/String" "value" "[B" u1) (F_c : Fld Z h a "java/lang/String" "coder" "B" u2) :
    Ctr l Z (⟨"java/lang/String", "<init>", "([CIILjava/lang/Void;)V"⟩ : MethodName) jdk_42_method_149_code 6 none [] ({ frames := 1, cells := 4, slots := 8, locals := 12 } : Room) #[.ref a, .ref q, .int (0 : Int32), .int (0 : Int32), .null] h n0 Ds (fun v h' Ds' => v = none ∧ Keep h h' [a] ∧ IsTx Z h' a [] ∧ Ds = Ds') := by
  refine ctr_of (Ls := #[.val (.ref a), .val (.ref q), .val (.int (0 : Int32)), .val (.int (0 : Int32)), .val .null, .unset]) (plainFor_of_name own_pn0) (fun m => by first | (simp [entryFrame, mkF, argsToLocals, Value.category]; done) | rfl) ?_
  intro C hl hret hnm R
  subst hl
  replace R := R.aloadN (pc' := 1) (v := (.ref a)) own_d4_0 rfl rfl rfl
  replace R := R.initO (pc' := 4) (W := 0) (own_w21 hw) (own_w22 hw) (own_w23 hw) rfl own_d4_1 (by decide) rfl (by decide) rfl
  replace R := R.iloadN (pc' := 5) (v := (0 : Int32)) own_d4_4 rfl rfl
  replace R := R.ifN (pc' := 8) own_d4_5 (teq (by decide : (0 : Int32) = (0 : Int32))).2 rfl
  replace R := R.aloadN (pc' := 9) (v := (.ref a)) own_d4_8 rfl rfl rfl
  obtain ⟨h1, a1, E1, S1, N1, R⟩ := R.ldcS (pc' := 11) (n := 0) (cs := []) (by decide) (own_w24 hw) (by decide +kernel) (by decide +kernel) (by decide) own_d4_9 (by decide +kernel) (by decide) (by decide) (by decide) rfl
  obtain ⟨e11, e21, e31, e41, t1, kb1, e51, e61⟩ := S1
  have K2 := ((Keep.refl h []).trans ((Keep.refl h []).ext E1) all0)
  have F3 := E_a.keep K2
  have nabt1 : a ≠ t1 := Exa.neArv F3 e61 (own_w11 hw)
  replace R := R.getF (pc' := 14) (host := "") (Or.inl (own_w30 hw)) Via.refl e51 own_d4_11 rfl
  have K4 := ((Keep.refl h []).trans ((Keep.refl h []).ext E1) all0)
  have F5 := F_v.keep K4 nin0
  have K6 := ((Keep.refl h []).trans ((Keep.refl h []).ext E1) all0)
  have F7 := F_c.keep K6 nin0
  obtain ⟨h8, W8, R⟩ := R.putF (pc' := 17) (ty := (.array .byte)) (host := "") (Or.inl (own_w30 hw)) Via.refl F5 F3 (Or.inr ⟨(own_w26 hw), rfl, hnm⟩) (own_w11 hw) (by decide) rfl rfl ha own_d4_14 rfl
  have F8 := F5.same W8
  have F9 := F7.other W8 (Or.inr (slot_ne (Or.inr (own_w27 hw)) (Or.inr (own_w26 hw)) (by decide) (t := .byte) (t' := (.array .byte)) (by decide) (by decide)))
  replace R := R.aloadN (pc' := 18) (v := (.ref a)) own_d4_17 rfl rfl rfl
  obtain ⟨h10, a10, E10, S10, N10, R⟩ := R.ldcS (pc' := 20) (n := 0) (cs := []) (by decide) (own_w24 hw) (by decide +kernel) (by decide +kernel) (by decide) own_d4_18 (by decide +kernel) (by decide) (by decide) (by decide) rfl
  obtain ⟨e110, e210, e310, e410, t10, kb10, e510, e610⟩ := S10
  have K11 := (((Keep.refl h1 [a]).trans (Keep.of_wr W8) (allS (Or.inl (List.mem_of_getElem? (i := 0) rfl)) all0)).trans ((Keep.refl h8 []).ext E10) all0)
  have F12 := F3.keep K11
  have nabt10 : a ≠ t10 := Exa.neArv F12 e610 (own_w11 hw)
  replace R := R.getF (pc' := 23) (host := "") (Or.inl (own_w31 hw)) Via.refl e210 own_d4_20 rfl
  have K13 := ((Keep.refl h8 []).trans ((Keep.refl h8 []).ext E10) all0)
  have F14 := F9.keep K13 nin0
  have K15 := ((Keep.refl h8 []).trans ((Keep.refl h8 []).ext E10) all0)
  have F16 := F8.keep K15 nin0
  obtain ⟨h17, W17, R⟩ := R.putFN (pc' := 26) (ty := .byte) (v' := (.int (0 : Int32))) (own_w31 hw) Via.refl F14 F12 (Or.inr ⟨(own_w27 hw), rfl, hnm⟩) (own_w11 hw) (by decide) (rfl) (rfl) ha own_d4_23 rfl
  have F17 := F14.same W17
  have F18 := F16.other W17 (Or.inr (slot_ne (Or.inr (own_w26 hw)) (Or.inr (own_w27 hw)) (by decide) (t := (.array .byte)) (t' := .byte) (by decide) (by decide)))
  have hK := (((((Keep.refl h [a]).trans ((Keep.refl h []).ext E1) all0).trans (Keep.of_wr W8) (allS (Or.inl (List.mem_of_getElem? (i := 0) rfl)) all0)).trans ((Keep.refl h8 []).ext E10) all0).trans (Keep.of_wr W17) (allS (Or.inl (List.mem_of_getElem? (i := 0) rfl)) all0))
  have K19 := ((Keep.refl h10 [a]).trans (Keep.of_wr W17) (allS (Or.inl (List.mem_of_getElem? (i := 0) rfl)) all0))
  have F20 := F12.keep K19
  have K21 := ((((Keep.refl h1 [a]).trans (Keep.of_wr W8) (allS (Or.inl (List.mem_of_getElem? (i := 0) rfl)) all0)).trans ((Keep.refl h8 []).ext E10) all0).trans (Keep.of_wr W17) (allS (Or.inl (List.mem_of_getElem? (i := 0) rfl)) all0))
  have F22 := e61.keep K21 (ninS (Ne.symm nabt1) nin0)
  exact R.retV (Ds' := Ds) hret own_d4_26 (by decide) (by decide) (fun _ q => q) ⟨rfl, hK, Or.inl ⟨F20, F17, (fun c hc => nomatch hc), Nat.le_of_ble_eq_true rfl, t1, _, F18, F22⟩, rfl⟩
set_option maxRecDepth 65536 in
set_option maxHeartbeats 4000000 in
theorem rm_i1_0 (l : Launch) (Z : State) (a0 : Array Value) (hw : ∀ d ∈ tables_1, d.before a0 Z = true) (a : Addr) (h : Heap) (n0 : Nat) (Ds : List Addr) (own_cs : CompactOn Z) (own_si : SiooOk Z) (own_u : U16ok Z) (ha : a ∈ Ds) (hok : ∀ c ∈ ([] : List Int32), ¬ c < 0 ∧ ¬ (65535 : Int32) < c) {q : Addr} {kq : ClassId} (V_q : Arv Z h q kq .char (0 : Int32) ([]) (.int 0)) {u1 u2 : Value} (E_a : Exa Z h a "java/lang/String") (F_v : Fld Z h a "java/lang/String" "value" "[B" u1) (F_c : Fld Z h a "java/lang/String" "coder" "B" u2) :
    Ctr l Z (⟨"java/lang/String", "<init>", "([C)V"⟩ : MethodName) jdk_42_method_3_code 2 none [] ({ frames := 2, cells := 4, slots := 8, locals := 29 } : Room) #[.ref a, .ref q] h n0 Ds (fun v h' Ds' => v = none ∧ Keep h h' [a] ∧ IsTx Z h' a [] ∧ Ds = Ds') := by
  refine ctr_of (Ls := #[.val (.ref a), .val (.ref q)]) (plainFor_of_name own_pn0) (fun m => by first | (simp [entryFrame, mkF, argsToLocals, Value.category]; done) | rfl) ?_
  intro C hl hret hnm R
  subst hl
  replace R := R.aloadN (pc' := 1) (v := (.ref a)) own_d3_0 rfl rfl rfl
  replace R := R.aloadN (pc' := 2) (v := (.ref q)) own_d3_1 rfl rfl rfl
  replace R := R.iconst (pc' := 3) (z := (0 : Int32)) own_d3_2 rfl rfl
  replace R := R.aloadN (pc' := 4) (v := (.ref q)) own_d3_3 rfl rfl rfl
  replace R := R.arraylength (pc' := 5) V_q own_d3_4 rfl
  replace R := R.anull (pc' := 6) own_d3_5 rfl
  obtain ⟨_, h1, _, ⟨rfl, K1, T1, rfl⟩, R⟩ := R.callI (pc' := 9) (a := a) (argsL := [(.ref q), (.int (0 : Int32)), (.int (0 : Int32)), .null]) (rest := []) (W := 0) rfl (own_w17 hw) (own_w18 hw) (own_w12 hw) (own_w20 hw) (by decide) (rm_i4_0 C.l Z a0 hw a h n0 Ds own_cs own_si own_u ha hok V_q E_a F_v F_c) rfl (lenOf own_pd7 rfl) rfl rfl own_d3_6 (by decide) (by decide) (by decide) (by decide) rfl
  replace R := R.mono (ce' := 4) (sl' := 8) (by decide) (by decide)
  replace R := R.stk (S' := []) rfl
  have hK := ((Keep.refl h [a]).trans K1 (allS (Or.inl (List.mem_of_getElem? (i := 0) rfl)) all0))
  exact R.retV (Ds' := Ds) hret own_d3_9 (by decide) (by decide) (fun _ q => q) ⟨rfl, hK, T1, rfl⟩
set_option maxRecDepth 65536 in
set_option maxHeartbeats 4000000 in
theorem rm_nbl1 (l : Launch) (Z : State) (a0 : Array Value) (hw : ∀ d ∈ tables_1, d.before a0 Z = true) (h : Heap) (n0 : Nat) (Ds : List Addr) :
    Ctr l Z (⟨"java/lang/StringUTF16", "newBytesLength", "(I)I"⟩ : MethodName) jdk_52_method_3_code 1 (some .int) [] ({ frames := 0, cells := 0, slots := 0, locals := 0 } : Room) #[.int (1 : Int32)] h n0 Ds (fun v h' Ds' => v = some (.int (2 : Int32)) ∧ h = h' ∧ Ds = Ds') := by
  refine ctr_of (Ls := #[.val (.int (1 : Int32))]) (plainFor_of_name own_pn3) (fun m => by first | (simp [entryFrame, mkF, argsToLocals, Value.category]; done) | rfl) ?_
  intro C hl hret hnm R
  subst hl
  replace R := R.iloadN (pc' := 1) (v := (1 : Int32)) own_d22_0 rfl rfl
  replace R := R.ifY (pc' := 12) own_d22_1 (flt (by decide : ¬ ((1 : Int32) < (0 : Int32)))).2.1 (by decide) rfl
  replace R := R.iloadN (pc' := 13) (v := (1 : Int32)) own_d22_12 rfl rfl
  replace R := R.ldcI (pc' := 15) (own_w97 hw) own_d22_13 rfl
  replace R := R.icmpY (pc' := 55) own_d22_15 (tlt (by decide : (1 : Int32) < (1073741823 : Int32))).1 (by decide) rfl
  replace R := R.iloadN (pc' := 56) (v := (1 : Int32)) own_d22_55 rfl rfl
  replace R := R.iconst (pc' := 57) (z := (1 : Int32)) own_d22_56 rfl rfl
  replace R := R.ishl (pc' := 58) own_d22_57 rfl
  replace R := R.stk (S' := [(.int (2 : Int32))]) rfl
  exact R.retI (Ds' := Ds) hret own_d22_58 (by decide) (by decide) (fun _ q => q) ⟨rfl, rfl, rfl⟩
set_option maxRecDepth 65536 in
set_option maxHeartbeats 4000000 in
theorem rm_nbf1 (l : Launch) (Z : State) (a0 : Array Value) (hw : ∀ d ∈ tables_1, d.before a0 Z = true) (h : Heap) (n0 : Nat) (Ds : List Addr) :
    Ctr l Z (⟨"java/lang/StringUTF16", "newBytesFor", "(I)[B"⟩ : MethodName) jdk_52_method_2_code 1 (some (.array .byte)) [] ({ frames := 1, cells := 1, slots := 2, locals := 12 } : Room) #[.int (1 : Int32)] h n0 Ds (fun v h' Ds' => ∃ (r : Addr) (kb : ClassId), v = some (.ref r) ∧ Keep h h' [] ∧ r = h.size ∧ Arv Z h' r kb .byte (2 : Int32) [(.int (0 : Int32)), (.int (0 : Int32))] (.int 0) ∧ r :: Ds = Ds') := by
  refine ctr_of (Ls := #[.val (.int (1 : Int32))]) (plainFor_of_name own_pn3) (fun m => by first | (simp [entryFrame, mkF, argsToLocals, Value.category]; done) | rfl) ?_
  intro C hl hret hnm R
  subst hl
  replace R := R.iloadN (pc' := 1) (v := (1 : Int32)) own_d21_0 rfl rfl
  obtain ⟨_, _, _, ⟨rfl, rfl, rfl⟩, R⟩ := R.callS (pc' := 4) (argsL := [(.int (1 : Int32))]) (rest := []) (W := 0) (own_w94 hw) (own_w95 hw) (own_w49 hw) (own_w96 hw) (by decide) (rm_nbl1 C.l Z a0 hw h n0 Ds) rfl (lenOf own_pd8 rfl) rfl rfl own_d21_1 (by decide) (by decide) (by decide) (by decide) rfl
  replace R := R.mono (ce' := 0) (sl' := 0) (by decide) (by decide)
  replace R := R.stk (S' := [(.int (2 : Int32))]) rfl
  obtain ⟨h1, b1, k1, g1, E1, V1, R⟩ := R.newP (pc' := 6) (aty := .byte) (cap := 2) (own_w25 hw) own_d21_4 (by decide) (by decide) (by decide) (by decide) (by decide) rfl
  have V1p : Arv Z h1 b1 k1 .byte (2 : Int32) [(.int (0 : Int32)), (.int (0 : Int32))] (.int (0 : Int32)) := V1.pad (pad_rep [] (.int (0 : Int32)) 2)
  have hK := ((Keep.refl h []).trans ((Keep.refl h []).ext E1) all0)
  exact R.retA (Ds' := b1 :: Ds) hret rfl rfl rfl own_d21_6 (by decide) (by decide) (fun _ q => q) ⟨b1, _, rfl, hK, g1, V1p, rfl⟩
set_option maxRecDepth 65536 in
set_option maxHeartbeats 4000000 in
theorem rm_tb1 (l : Launch) (Z : State) (a0 : Array Value) (hw : ∀ d ∈ tables_1, d.before a0 Z = true) (h : Heap) (n0 : Nat) (Ds : List Addr) (own_u : U16ok Z) {x0 : Int32} (hok : ∀ c ∈ ([x0] : List Int32), ¬ c < 0 ∧ ¬ (65535 : Int32) < c) {q : Addr} {kq : ClassId} (V_q : Arv Z h q kq .char (1 : Int32) ([Value.int x0]) (.int 0)) :
    Ctr l Z (⟨"java/lang/StringUTF16", "toBytes", "([CII)[B"⟩ : MethodName) jdk_52_method_14_code 5 (some (.array .byte)) [] ({ frames := 2, cells := 1, slots := 2, locals := 24 } : Room) #[.ref q, .int (0 : Int32), .int (1 : Int32)] h n0 Ds (fun v h' Ds' => ∃ (r : Addr) (kb : ClassId), v = some (.ref r) ∧ Keep h h' [] ∧ Arv Z h' r kb .byte (2 : Int32) [(.int (StrChars.lo8 x0)), (.int (StrChars.hi8 x0))] (.int 0) ∧ Ds = Ds') := by
  refine ctr_of (Ls := #[.val (.ref q), .val (.int (0 : Int32)), .val (.int (1 : Int32)), .unset, .unset]) (plainFor_of_name own_pn3) (fun m => by first | (simp [entryFrame, mkF, argsToLocals, Value.category]; done) | rfl) ?_
  intro C hl hret hnm R
  subst hl
  have hql : q < h.size := V_q.lt
  replace R := R.iloadN (pc' := 1) (v := (1 : Int32)) own_d20_0 rfl rfl
  obtain ⟨_, h1, _, ⟨r1, k1, rfl, K1, g1, V1, rfl⟩, R⟩ := R.callS (pc' := 4) (argsL := [(.int (1 : Int32))]) (rest := []) (W := 0) (own_w91 hw) (own_w92 hw) (own_w49 hw) (own_w93 hw) (by decide) (rm_nbf1 C.l Z a0 hw h n0 Ds) rfl (lenOf own_pd9 rfl) rfl rfl own_d20_1 (by decide) (by decide) (by decide) (by decide) rfl
  have nqb : q ≠ r1 := fun e => by rw [e, g1] at hql; exact Nat.lt_irrefl _ hql
  replace R := R.mono (ce' := 1) (sl' := 2) (by decide) (by decide)
  replace R := R.stk (S' := [(.ref r1)]) rfl
  replace R := R.astoreN (pc' := 5) (l' := #[.val (.ref q), .val (.int (0 : Int32)), .val (.int (1 : Int32)), .val (.ref r1), .unset]) own_d20_4 rfl rfl rfl
  replace R := R.iconst (pc' := 6) (z := (0 : Int32)) own_d20_5 rfl rfl
  replace R := R.istore (pc' := 8) (l' := #[.val (.ref q), .val (.int (0 : Int32)), .val (.int (1 : Int32)), .val (.ref r1), .val (.int (0 : Int32))]) own_d20_6 rfl rfl
  replace R := R.iload (pc' := 10) (v := (0 : Int32)) own_d20_8 rfl rfl
  replace R := R.iloadN (pc' := 11) (v := (1 : Int32)) own_d20_10 rfl rfl
  replace R := R.icmpN (pc' := 14) own_d20_11 (tlt (by decide : (0 : Int32) < (1 : Int32))).2.1 rfl
  replace R := R.aloadN (pc' := 15) (v := (.ref r1)) own_d20_14 rfl rfl rfl
  replace R := R.iload (pc' := 17) (v := (0 : Int32)) own_d20_15 rfl rfl
  replace R := R.aloadN (pc' := 18) (v := (.ref q)) own_d20_17 rfl rfl rfl
  replace R := R.iloadN (pc' := 19) (v := (0 : Int32)) own_d20_18 rfl rfl
  have K2 := ((Keep.refl h []).trans K1 all0)
  have F3 := V_q.keep K2 nin0
  replace R := R.caload (pc' := 20) (v := (.int x0)) F3 ⟨by decide, by decide⟩ rfl own_d20_19 rfl
  obtain ⟨_, h4, _, ⟨rfl, K4, V4, rfl⟩, R⟩ := R.callS (pc' := 23) (argsL := [(.ref r1), (.int (0 : Int32)), (.int x0)]) (rest := []) (W := 0) (own_w98 hw) (own_w99 hw) (own_w49 hw) (own_w100 hw) (by decide) (rm_pch C.l Z a0 hw r1 (0 : Int32) x0 h1 n0 (r1 :: Ds) own_u (k := 0) (m := 1) rfl (by decide) (by decide) rfl (List.mem_of_getElem? (i := 0) rfl) V1) rfl (lenOf own_pd10 rfl) rfl rfl own_d20_20 (by decide) (by decide) (by decide) (by decide) rfl
  have V4p : Arv Z h4 r1 k1 .byte (2 : Int32) [(.int (StrChars.lo8 x0)), (.int (StrChars.hi8 x0))] (.int 0) := V4
  replace R := R.mono (ce' := 1) (sl' := 2) (by decide) (by decide)
  replace R := R.stk (S' := []) rfl
  replace R := R.iinc (pc' := 26) (l' := #[.val (.ref q), .val (.int (1 : Int32)), .val (.int (1 : Int32)), .val (.ref r1), .val (.int (0 : Int32))]) own_d20_23 rfl rfl rfl
  replace R := R.iinc (pc' := 29) (l' := #[.val (.ref q), .val (.int (1 : Int32)), .val (.int (1 : Int32)), .val (.ref r1), .val (.int (1 : Int32))]) own_d20_26 rfl rfl rfl
  replace R := R.goto (pc' := 8) own_d20_29 (by decide) rfl
  replace R := R.iload (pc' := 10) (v := (1 : Int32)) own_d20_8 rfl rfl
  replace R := R.iloadN (pc' := 11) (v := (1 : Int32)) own_d20_10 rfl rfl
  replace R := R.icmpY (pc' := 32) own_d20_11 (flt (by decide : ¬ ((1 : Int32) < (1 : Int32)))).2.1 (by decide) rfl
  replace R := R.aloadN (pc' := 33) (v := (.ref r1)) own_d20_32 rfl rfl rfl
  have hK := (((Keep.refl h []).trans K1 all0).trans K4 (allS (Or.inr (by rw [g1]; exact (Nat.le_refl _))) all0))
  exact R.retA (Ds' := Ds) hret rfl rfl rfl own_d20_33 (by decide) (by decide) (fun _ q => (fun q => (List.mem_cons_of_mem _ q)) q) ⟨r1, _, rfl, hK, V4p, rfl⟩
set_option maxRecDepth 65536 in
set_option maxHeartbeats 4000000 in
theorem rm_c51 (l : Launch) (Z : State) (a0 : Array Value) (hw : ∀ d ∈ tables_1, d.before a0 Z = true) (h : Heap) (n0 : Nat) (Ds : List Addr) {x0 : Int32} (hok : ∀ c ∈ ([x0] : List Int32), ¬ c < 0 ∧ ¬ (65535 : Int32) < c) {q : Addr} {kq : ClassId} (V_q : Arv Z h q kq .char (1 : Int32) ([Value.int x0]) (.int 0)) {b : Addr} {kb : ClassId} (hb : b ∈ Ds) (nqb : q ≠ b) (V_b : Arv Z h b kb .byte (1 : Int32) [(.int (0 : Int32))] (.int 0)) :
    Ctr l Z (⟨"java/lang/StringUTF16", "compress", "([CI[BII)I"⟩ : MethodName) jdk_52_method_21_code 7 (some .int) [] ({ frames := 0, cells := 0, slots := 0, locals := 0 } : Room) #[.ref q, .int (0 : Int32), .ref b, .int (0 : Int32), .int (1 : Int32)] h n0 Ds (fun v h' Ds' => Keep h h' [b] ∧ Ds = Ds' ∧ ((v = some (.int (1 : Int32)) ∧ (∀ c ∈ ([x0] : List Int32), ¬ c < 0 ∧ ¬ (255 : Int32) < c) ∧ Arv Z h' b kb .byte (1 : Int32) [(.int x0.toInt8.toInt32)] (.int 0)) ∨ (v = some (.int (0 : Int32)) ∧ (255 : Int32) < x0))) := by
  refine ctr_of (Ls := #[.val (.ref q), .val (.int (0 : Int32)), .val (.ref b), .val (.int (0 : Int32)), .val (.int (1 : Int32)), .unset, .unset]) (plainFor_of_name own_pn3) (fun m => by first | (simp [entryFrame, mkF, argsToLocals, Value.category]; done) | rfl) ?_
  intro C hl hret hnm R
  subst hl
  replace R := R.iconst (pc' := 1) (z := (0 : Int32)) own_d10_0 rfl rfl
  replace R := R.istore (pc' := 3) (l' := #[.val (.ref q), .val (.int (0 : Int32)), .val (.ref b), .val (.int (0 : Int32)), .val (.int (1 : Int32)), .val (.int (0 : Int32)), .unset]) own_d10_1 rfl rfl
  replace R := R.iload (pc' := 5) (v := (0 : Int32)) own_d10_3 rfl rfl
  replace R := R.iload (pc' := 7) (v := (1 : Int32)) own_d10_5 rfl rfl
  replace R := R.icmpN (pc' := 10) own_d10_7 (tlt (by decide : (0 : Int32) < (1 : Int32))).2.1 rfl
  replace R := R.aloadN (pc' := 11) (v := (.ref q)) own_d10_10 rfl rfl rfl
  replace R := R.iloadN (pc' := 12) (v := (0 : Int32)) own_d10_11 rfl rfl
  replace R := R.caload (pc' := 13) (v := (.int x0)) V_q ⟨by decide, by decide⟩ rfl own_d10_12 rfl
  replace R := R.istore (pc' := 15) (l' := #[.val (.ref q), .val (.int (0 : Int32)), .val (.ref b), .val (.int (0 : Int32)), .val (.int (1 : Int32)), .val (.int (0 : Int32)), .val (.int x0)]) own_d10_13 rfl rfl
  replace R := R.iload (pc' := 17) (v := x0) own_d10_15 rfl rfl
  replace R := R.sipush (pc' := 20) (z := (255 : Int32)) own_d10_17 rfl rfl
  by_cases hc1 : (255 : Int32) < x0
  · replace R := R.icmpN (pc' := 23) own_d10_20 (tlt hc1).2.2.2 rfl
    replace R := R.iload (pc' := 25) (v := (0 : Int32)) own_d10_23 rfl rfl
    have hK : Keep h h [b] := Keep.refl h [b]
    exact R.retI (Ds' := Ds) hret own_d10_25 (by decide) (by decide) (fun _ q => q) ⟨hK, rfl, Or.inr (⟨rfl, hc1⟩)⟩
  · replace R := R.icmpY (pc' := 26) own_d10_20 (flt hc1).2.2.2 (by decide) rfl
    replace R := R.aloadN (pc' := 27) (v := (.ref b)) own_d10_26 rfl rfl rfl
    replace R := R.iloadN (pc' := 28) (v := (0 : Int32)) own_d10_27 rfl rfl
    replace R := R.iload (pc' := 30) (v := x0) own_d10_28 rfl rfl
    replace R := R.i2b (pc' := 31) own_d10_30 rfl
    obtain ⟨h2, K2, V2, R⟩ := R.bastore (pc' := 32) V_b ⟨by decide, by decide⟩ 0 rfl (Nat.le_of_ble_eq_true rfl) hb own_d10_31 rfl
    have V2p : Arv Z h2 b kb .byte (1 : Int32) [(.int x0.toInt8.toInt32)] (.int 0) := by
      have q := V2
      rw [nar_i2b x0] at q
      exact q
    replace R := R.iinc (pc' := 35) (l' := #[.val (.ref q), .val (.int (1 : Int32)), .val (.ref b), .val (.int (0 : Int32)), .val (.int (1 : Int32)), .val (.int (0 : Int32)), .val (.int x0)]) own_d10_32 rfl rfl rfl
    replace R := R.iinc (pc' := 38) (l' := #[.val (.ref q), .val (.int (1 : Int32)), .val (.ref b), .val (.int (1 : Int32)), .val (.int (1 : Int32)), .val (.int (0 : Int32)), .val (.int x0)]) own_d10_35 rfl rfl rfl
    replace R := R.iinc (pc' := 41) (l' := #[.val (.ref q), .val (.int (1 : Int32)), .val (.ref b), .val (.int (1 : Int32)), .val (.int (1 : Int32)), .val (.int (1 : Int32)), .val (.int x0)]) own_d10_38 rfl rfl rfl
    replace R := R.goto (pc' := 3) own_d10_41 (by decide) rfl
    replace R := R.iload (pc' := 5) (v := (1 : Int32)) own_d10_3 rfl rfl
    replace R := R.iload (pc' := 7) (v := (1 : Int32)) own_d10_5 rfl rfl
    replace R := R.icmpY (pc' := 44) own_d10_7 (flt (by decide : ¬ ((1 : Int32) < (1 : Int32)))).2.1 (by decide) rfl
    replace R := R.iload (pc' := 46) (v := (1 : Int32)) own_d10_44 rfl rfl
    have hK : Keep h h2 [b] := ((Keep.refl h [b]).trans K2 (allS (Or.inl (List.mem_of_getElem? (i := 0) rfl)) all0))
    exact R.retI (Ds' := Ds) hret own_d10_46 (by decide) (by decide) (fun _ q => q) ⟨hK, rfl, Or.inl ⟨rfl, (chS ⟨(hok x0 (List.mem_of_getElem? (i := 0) rfl)).1, hc1⟩ ch0), V2p⟩⟩
set_option maxRecDepth 65536 in
set_option maxHeartbeats 4000000 in
theorem rm_c31 (l : Launch) (Z : State) (a0 : Array Value) (hw : ∀ d ∈ tables_1, d.before a0 Z = true) (h : Heap) (n0 : Nat) (Ds : List Addr) (own_u : U16ok Z) {x0 : Int32} (hok : ∀ c ∈ ([x0] : List Int32), ¬ c < 0 ∧ ¬ (65535 : Int32) < c) {q : Addr} {kq : ClassId} (V_q : Arv Z h q kq .char (1 : Int32) ([Value.int x0]) (.int 0)) :
    Ctr l Z (⟨"java/lang/StringUTF16", "compress", "([CII)[B"⟩ : MethodName) jdk_52_method_16_code 6 (some (.array .byte)) [] ({ frames := 3, cells := 2, slots := 3, locals := 40 } : Room) #[.ref q, .int (0 : Int32), .int (1 : Int32)] h n0 Ds (fun v h' Ds' => ∃ (b : Addr) (kb : ClassId), v = some (.ref b) ∧ Keep h h' [] ∧ Ds = Ds' ∧ (((∀ c ∈ ([x0] : List Int32), ¬ c < 0 ∧ ¬ (255 : Int32) < c) ∧ Arv Z h' b kb .byte (1 : Int32) [(.int x0.toInt8.toInt32)] (.int 0)) ∨ Arv Z h' b kb .byte (2 : Int32) [(.int (StrChars.lo8 x0)), (.int (StrChars.hi8 x0))] (.int 0))) := by
  refine ctr_of (Ls := #[.val (.ref q), .val (.int (0 : Int32)), .val (.int (1 : Int32)), .unset, .unset, .unset]) (plainFor_of_name own_pn3) (fun m => by first | (simp [entryFrame, mkF, argsToLocals, Value.category]; done) | rfl) ?_
  intro C hl hret hnm R
  subst hl
  have hql : q < h.size := V_q.lt
  replace R := R.iloadN (pc' := 1) (v := (1 : Int32)) own_d9_0 rfl rfl
  obtain ⟨h1, b1, k1, g1, E1, V1, R⟩ := R.newP (pc' := 3) (aty := .byte) (cap := 1) (own_w25 hw) own_d9_1 (by decide) (by decide) (by decide) (by decide) (by decide) rfl
  have V1p : Arv Z h1 b1 k1 .byte (1 : Int32) [(.int (0 : Int32))] (.int (0 : Int32)) := V1.pad (pad_rep [] (.int (0 : Int32)) 1)
  replace R := R.astoreN (pc' := 4) (l' := #[.val (.ref q), .val (.int (0 : Int32)), .val (.int (1 : Int32)), .val (.ref b1), .unset, .unset]) own_d9_3 rfl rfl rfl
  replace R := R.aloadN (pc' := 5) (v := (.ref q)) own_d9_4 rfl rfl rfl
  replace R := R.iloadN (pc' := 6) (v := (0 : Int32)) own_d9_5 rfl rfl
  replace R := R.aloadN (pc' := 7) (v := (.ref b1)) own_d9_6 rfl rfl rfl
  replace R := R.iconst (pc' := 8) (z := (0 : Int32)) own_d9_7 rfl rfl
  replace R := R.iloadN (pc' := 9) (v := (1 : Int32)) own_d9_8 rfl rfl
  have K3 := ((Keep.refl h []).trans ((Keep.refl h []).ext E1) all0)
  have F4 := V_q.keep K3 nin0
  have nqb : q ≠ b1 := fun e => by rw [e, g1] at hql; exact Nat.lt_irrefl _ hql
  obtain ⟨v2, h2, _, ⟨K2, rfl, hD2⟩, R⟩ := R.callS (pc' := 12) (argsL := [(.ref q), (.int (0 : Int32)), (.ref b1), (.int (0 : Int32)), (.int (1 : Int32))]) (rest := []) (W := 0) (own_w51 hw) (own_w52 hw) (own_w49 hw) (own_w53 hw) (by decide) (rm_c51 C.l Z a0 hw h1 n0 (b1 :: Ds) hok F4 (List.mem_of_getElem? (i := 0) rfl) nqb V1p) rfl (lenOf own_pd11 rfl) rfl rfl own_d9_9 (by decide) (by decide) (by decide) (by decide) rfl
  replace R := R.mono (ce' := 1) (sl' := 1) (by decide) (by decide)
  rcases hD2 with ⟨rfl, hL, V2⟩ | ⟨rfl, hj⟩
  · replace R := R.stk (S' := [(.int (1 : Int32))]) rfl
    replace R := R.istore (pc' := 14) (l' := #[.val (.ref q), .val (.int (0 : Int32)), .val (.int (1 : Int32)), .val (.ref b1), .val (.int (1 : Int32)), .unset]) own_d9_12 rfl rfl
    replace R := R.iload (pc' := 16) (v := (1 : Int32)) own_d9_14 rfl rfl
    replace R := R.iloadN (pc' := 17) (v := (1 : Int32)) own_d9_16 rfl rfl
    replace R := R.icmpY (pc' := 57) own_d9_17 (teq (by decide : (1 : Int32) = (1 : Int32))).1 (by decide) rfl
    replace R := R.aloadN (pc' := 58) (v := (.ref b1)) own_d9_57 rfl rfl rfl
    have hK := (((Keep.refl h []).trans ((Keep.refl h []).ext E1) all0).trans K2 (allS (Or.inr (by rw [g1]; exact (Nat.le_refl _))) all0))
    exact R.retA (Ds' := Ds) hret rfl rfl rfl own_d9_58 (by decide) (by decide) (fun _ q => (fun q => (List.mem_cons_of_mem _ q)) q) ⟨b1, _, rfl, hK, rfl, Or.inl ⟨hL, V2⟩⟩
  · replace R := R.stk (S' := [(.int (0 : Int32))]) rfl
    replace R := R.istore (pc' := 14) (l' := #[.val (.ref q), .val (.int (0 : Int32)), .val (.int (1 : Int32)), .val (.ref b1), .val (.int (0 : Int32)), .unset]) own_d9_12 rfl rfl
    replace R := R.iload (pc' := 16) (v := (0 : Int32)) own_d9_14 rfl rfl
    replace R := R.iloadN (pc' := 17) (v := (1 : Int32)) own_d9_16 rfl rfl
    replace R := R.icmpN (pc' := 20) own_d9_17 (feq (by decide : ¬ ((0 : Int32) = (1 : Int32)))).1 rfl
    replace R := R.aloadN (pc' := 21) (v := (.ref q)) own_d9_20 rfl rfl rfl
    replace R := R.iloadN (pc' := 22) (v := (0 : Int32)) own_d9_21 rfl rfl
    replace R := R.iloadN (pc' := 23) (v := (1 : Int32)) own_d9_22 rfl rfl
    have K6 := ((Keep.refl h1 [b1]).trans K2 (allS (Or.inl (List.mem_of_getElem? (i := 0) rfl)) all0))
    have F7 := F4.keep K6 (ninS nqb nin0)
    obtain ⟨_, h5, _, ⟨r5, k5, rfl, K5, V5, rfl⟩, R⟩ := R.callS (pc' := 26) (argsL := [(.ref q), (.int (0 : Int32)), (.int (1 : Int32))]) (rest := []) (W := 0) (own_w88 hw) (own_w89 hw) (own_w49 hw) (own_w90 hw) (by decide) (rm_tb1 C.l Z a0 hw h2 n0 (b1 :: Ds) own_u hok F7) rfl (lenOf own_pd12 rfl) rfl rfl own_d9_23 (by decide) (by decide) (by decide) (by decide) rfl
    replace R := R.mono (ce' := 2) (sl' := 3) (by decide) (by decide)
    replace R := R.stk (S' := [(.ref r5)]) rfl
    replace R := R.astore (pc' := 28) (l' := #[.val (.ref q), .val (.int (0 : Int32)), .val (.int (1 : Int32)), .val (.ref b1), .val (.int (0 : Int32)), .val (.ref r5)]) own_d9_26 rfl rfl rfl
    replace R := R.aload (pc' := 30) (v := (.ref r5)) own_d9_28 rfl rfl rfl
    replace R := R.iload (pc' := 32) (v := (0 : Int32)) own_d9_30 rfl rfl
    obtain ⟨_, _, _, ⟨rfl, rfl, rfl⟩, R⟩ := R.callS (pc' := 35) (argsL := [(.ref r5), (.int (0 : Int32))]) (rest := []) (W := 0) (own_w104 hw) (own_w105 hw) (own_w49 hw) (own_w106 hw) (by decide) (rm_gc C.l Z a0 hw r5 (0 : Int32) h5 n0 (b1 :: Ds) own_u (k := 0) (m := 1) rfl (by decide) (by decide) (c := x0) (hok x0 (List.mem_of_getElem? (i := 0) rfl)) rfl rfl V5) rfl (lenOf own_pd4 rfl) rfl rfl own_d9_32 (by decide) (by decide) (by decide) (by decide) rfl
    replace R := R.mono (ce' := 2) (sl' := 3) (by decide) (by decide)
    replace R := R.stk (S' := [(.int x0)]) rfl
    replace R := R.sipush (pc' := 38) (z := (255 : Int32)) own_d9_35 rfl rfl
    replace R := R.icmpY (pc' := 54) own_d9_38 (tlt hj).2.2.1 (by decide) rfl
    replace R := R.aload (pc' := 56) (v := (.ref r5)) own_d9_54 rfl rfl rfl
    have hK := ((((Keep.refl h []).trans ((Keep.refl h []).ext E1) all0).trans K2 (allS (Or.inr (by rw [g1]; exact (Nat.le_refl _))) all0)).trans K5 all0)
    exact R.retA (Ds' := Ds) hret rfl rfl rfl own_d9_56 (by decide) (by decide) (fun _ q => (fun q => (List.mem_cons_of_mem _ q)) q) ⟨r5, _, rfl, hK, rfl, Or.inr V5⟩
set_option maxRecDepth 65536 in
set_option maxHeartbeats 4000000 in
theorem rm_ca1_1 (l : Launch) (Z : State) (a0 : Array Value) (hw : ∀ d ∈ tables_1, d.before a0 Z = true) (h : Heap) (n0 : Nat) (Ds : List Addr) {b : Addr} {kb : ClassId} {vs : List Value} (V_b : Arv Z h b kb .byte (1 : Int32) vs (.int 0)) :
    Ctr l Z (⟨"java/lang/StringUTF16", "coderFromArrayLen", "([BI)B"⟩ : MethodName) jdk_52_method_15_code 2 (some .byte) [] ({ frames := 0, cells := 0, slots := 0, locals := 0 } : Room) #[.ref b, .int (1 : Int32)] h n0 Ds (fun v h' Ds' => v = some (.int (0 : Int32)) ∧ h = h' ∧ Ds = Ds') := by
  refine ctr_of (Ls := #[.val (.ref b), .val (.int (1 : Int32))]) (plainFor_of_name own_pn3) (fun m => by first | (simp [entryFrame, mkF, argsToLocals, Value.category]; done) | rfl) ?_
  intro C hl hret hnm R
  subst hl
  replace R := R.iloadN (pc' := 1) (v := (1 : Int32)) own_d11_0 rfl rfl
  replace R := R.aloadN (pc' := 2) (v := (.ref b)) own_d11_1 rfl rfl rfl
  replace R := R.arraylength (pc' := 3) V_b own_d11_2 rfl
  replace R := R.isub (pc' := 4) own_d11_3 rfl
  replace R := R.stk (S' := [(.int (0 : Int32))]) rfl
  replace R := R.bipush (pc' := 6) (z := (31 : Int32)) own_d11_4 rfl rfl
  replace R := R.iushr (pc' := 7) own_d11_6 rfl
  replace R := R.stk (S' := [(.int (0 : Int32))]) rfl
  replace R := R.i2b (pc' := 8) own_d11_7 rfl
  replace R := R.stk (S' := [(.int (0 : Int32))]) rfl
  exact R.retN (Ds' := Ds) hret (by simp) (show nar .byte (0 : Int32) = (0 : Int32) from rfl) own_d11_8 (by decide) (by decide) (fun _ q => q) ⟨rfl, rfl, rfl⟩
set_option maxRecDepth 65536 in
set_option maxHeartbeats 4000000 in
theorem rm_ca1_2 (l : Launch) (Z : State) (a0 : Array Value) (hw : ∀ d ∈ tables_1, d.before a0 Z = true) (h : Heap) (n0 : Nat) (Ds : List Addr) {b : Addr} {kb : ClassId} {vs : List Value} (V_b : Arv Z h b kb .byte (2 : Int32) vs (.int 0)) :
    Ctr l Z (⟨"java/lang/StringUTF16", "coderFromArrayLen", "([BI)B"⟩ : MethodName) jdk_52_method_15_code 2 (some .byte) [] ({ frames := 0, cells := 0, slots := 0, locals := 0 } : Room) #[.ref b, .int (1 : Int32)] h n0 Ds (fun v h' Ds' => v = some (.int (1 : Int32)) ∧ h = h' ∧ Ds = Ds') := by
  refine ctr_of (Ls := #[.val (.ref b), .val (.int (1 : Int32))]) (plainFor_of_name own_pn3) (fun m => by first | (simp [entryFrame, mkF, argsToLocals, Value.category]; done) | rfl) ?_
  intro C hl hret hnm R
  subst hl
  replace R := R.iloadN (pc' := 1) (v := (1 : Int32)) own_d11_0 rfl rfl
  replace R := R.aloadN (pc' := 2) (v := (.ref b)) own_d11_1 rfl rfl rfl
  replace R := R.arraylength (pc' := 3) V_b own_d11_2 rfl
  replace R := R.isub (pc' := 4) own_d11_3 rfl
  replace R := R.stk (S' := [(.int (-1 : Int32))]) rfl
  replace R := R.bipush (pc' := 6) (z := (31 : Int32)) own_d11_4 rfl rfl
  replace R := R.iushr (pc' := 7) own_d11_6 rfl
  replace R := R.stk (S' := [(.int (1 : Int32))]) rfl
  replace R := R.i2b (pc' := 8) own_d11_7 rfl
  replace R := R.stk (S' := [(.int (1 : Int32))]) rfl
  exact R.retN (Ds' := Ds) hret (by simp) (show nar .byte (1 : Int32) = (1 : Int32) from rfl) own_d11_8 (by decide) (by decide) (fun _ q => q) ⟨rfl, rfl, rfl⟩
set_option maxRecDepth 65536 in
set_option maxHeartbeats 4000000 in
theorem rm_i4_1 (l : Launch) (Z : State) (a0 : Array Value) (hw : ∀ d ∈ tables_1, d.before a0 Z = true) (a : Addr) (h : Heap) (n0 : Nat) (Ds : List Addr) (own_cs : CompactOn Z) (own_si : SiooOk Z) (own_u : U16ok Z) (ha : a ∈ Ds) {x0 : Int32} (hok : ∀ c ∈ ([x0] : List Int32), ¬ c < 0 ∧ ¬ (65535 : Int32) < c) {q : Addr} {kq : ClassId} (V_q : Arv Z h q kq .char (1 : Int32) ([Value.int x0]) (.int 0)) {u1 u2 : Value} (E_a : Exa Z h a "java/lang/String") (F_v : Fld Z h a "java/lang/String" "value" "[B" u1) (F_c : Fld Z h a "java/lang/String" "coder" "B" u2) :
    Ctr l Z (⟨"java/lang/String", "<init>", "([CIILjava/lang/Void;)V"⟩ : MethodName) jdk_42_method_149_code 6 none [] ({ frames := 4, cells := 2, slots := 3, locals := 57 } : Room) #[.ref a, .ref q, .int (0 : Int32), .int (1 : Int32), .null] h n0 Ds (fun v h' Ds' => v = none ∧ Keep h h' [a] ∧ IsTx Z h' a [x0] ∧ Ds = Ds') := by
  refine ctr_of (Ls := #[.val (.ref a), .val (.ref q), .val (.int (0 : Int32)), .val (.int (1 : Int32)), .val .null, .unset]) (plainFor_of_name own_pn0) (fun m => by first | (simp [entryFrame, mkF, argsToLocals, Value.category]; done) | rfl) ?_
  intro C hl hret hnm R
  subst hl
  obtain ⟨zc, S_zc, hzc⟩ := id own_cs
  replace R := R.aloadN (pc' := 1) (v := (.ref a)) own_d4_0 rfl rfl rfl
  replace R := R.initO (pc' := 4) (W := 0) (own_w21 hw) (own_w22 hw) (own_w23 hw) rfl own_d4_1 (by decide) rfl (by decide) rfl
  replace R := R.iloadN (pc' := 5) (v := (1 : Int32)) own_d4_4 rfl rfl
  replace R := R.ifY (pc' := 27) own_d4_5 (feq (by decide : ¬ ((1 : Int32) = (0 : Int32)))).2 (by decide) rfl
  replace R := R.getS (pc' := 30) (host := "") (Or.inl (own_w46 hw)) Via.refl S_zc own_d4_27 rfl
  replace R := R.ifN (pc' := 33) own_d4_30 (feq hzc).1 rfl
  replace R := R.aloadN (pc' := 34) (v := (.ref q)) own_d4_33 rfl rfl rfl
  replace R := R.iloadN (pc' := 35) (v := (0 : Int32)) own_d4_34 rfl rfl
  replace R := R.iloadN (pc' := 36) (v := (1 : Int32)) own_d4_35 rfl rfl
  obtain ⟨_, h1, _, ⟨r1, k1, rfl, K1, rfl, hB1⟩, R⟩ := R.callS (pc' := 39) (argsL := [(.ref q), (.int (0 : Int32)), (.int (1 : Int32))]) (rest := []) (W := 0) (own_w47 hw) (own_w48 hw) (own_w49 hw) (own_w50 hw) (by decide) (rm_c31 C.l Z a0 hw h n0 Ds own_u hok V_q) rfl (lenOf own_pd12 rfl) rfl rfl own_d4_36 (by decide) (by decide) (by decide) (by decide) rfl
  replace R := R.mono (ce' := 2) (sl' := 3) (by decide) (by decide)
  replace R := R.stk (S' := [(.ref r1)]) rfl
  rcases hB1 with ⟨hL, V1⟩ | V1
  · have hV := V1
    have K2 := ((Keep.refl h []).trans K1 all0)
    have F3 := E_a.keep K2
    have nabr1 : a ≠ r1 := Exa.neArv F3 hV (own_w11 hw)
    replace R := R.astore (pc' := 41) (l' := #[.val (.ref a), .val (.ref q), .val (.int (0 : Int32)), .val (.int (1 : Int32)), .val .null, .val (.ref r1)]) own_d4_39 rfl rfl rfl
    replace R := R.aloadN (pc' := 42) (v := (.ref a)) own_d4_41 rfl rfl rfl
    replace R := R.aload (pc' := 44) (v := (.ref r1)) own_d4_42 rfl rfl rfl
    replace R := R.iloadN (pc' := 45) (v := (1 : Int32)) own_d4_44 rfl rfl
    obtain ⟨_, _, _, ⟨rfl, rfl, rfl⟩, R⟩ := R.callS (pc' := 48) (argsL := [(.ref r1), (.int (1 : Int32))]) (rest := [(.ref a)]) (W := 1) (own_w54 hw) (own_w55 hw) (own_w49 hw) (own_w56 hw) (by decide) (rm_ca1_1 C.l Z a0 hw h1 n0 Ds hV) rfl (lenOf own_pd13 rfl) rfl rfl own_d4_45 (by decide) (by decide) (by decide) (by decide) rfl
    replace R := R.mono (ce' := 2) (sl' := 3) (by decide) (by decide)
    replace R := R.stk (S' := [(.int (0 : Int32)), (.ref a)]) rfl
    have K4 := ((Keep.refl h []).trans K1 all0)
    have F5 := F_c.keep K4 nin0
    have K6 := ((Keep.refl h []).trans K1 all0)
    have F7 := F_v.keep K6 nin0
    obtain ⟨h8, W8, R⟩ := R.putFN (pc' := 51) (ty := .byte) (v' := (.int (0 : Int32))) (own_w31 hw) Via.refl F5 F3 (Or.inr ⟨(own_w27 hw), rfl, hnm⟩) (own_w11 hw) (by decide) (rfl) (rfl) ha own_d4_48 rfl
    have F8 := F5.same W8
    have F9 := F7.other W8 (Or.inr (slot_ne (Or.inr (own_w26 hw)) (Or.inr (own_w27 hw)) (by decide) (t := (.array .byte)) (t' := .byte) (by decide) (by decide)))
    replace R := R.aloadN (pc' := 52) (v := (.ref a)) own_d4_51 rfl rfl rfl
    replace R := R.aload (pc' := 54) (v := (.ref r1)) own_d4_52 rfl rfl rfl
    have K10 := ((Keep.refl h1 [a]).trans (Keep.of_wr W8) (allS (Or.inl (List.mem_of_getElem? (i := 0) rfl)) all0))
    have F11 := F3.keep K10
    obtain ⟨h12, W12, R⟩ := R.putF (pc' := 57) (ty := (.array .byte)) (host := "") (Or.inl (own_w30 hw)) Via.refl F9 F11 (Or.inr ⟨(own_w26 hw), rfl, hnm⟩) (own_w11 hw) (by decide) rfl rfl ha own_d4_54 rfl
    have F12 := F9.same W12
    have F13 := F8.other W12 (Or.inr (slot_ne (Or.inr (own_w27 hw)) (Or.inr (own_w26 hw)) (by decide) (t := .byte) (t' := (.array .byte)) (by decide) (by decide)))
    have hK := ((((Keep.refl h [a]).trans K1 all0).trans (Keep.of_wr W8) (allS (Or.inl (List.mem_of_getElem? (i := 0) rfl)) all0)).trans (Keep.of_wr W12) (allS (Or.inl (List.mem_of_getElem? (i := 0) rfl)) all0))
    have K14 := ((Keep.refl h8 [a]).trans (Keep.of_wr W12) (allS (Or.inl (List.mem_of_getElem? (i := 0) rfl)) all0))
    have F15 := F11.keep K14
    have K16 := (((Keep.refl h1 [a]).trans (Keep.of_wr W8) (allS (Or.inl (List.mem_of_getElem? (i := 0) rfl)) all0)).trans (Keep.of_wr W12) (allS (Or.inl (List.mem_of_getElem? (i := 0) rfl)) all0))
    have F17 := hV.keep K16 (ninS (Ne.symm nabr1) nin0)
    exact R.retV (Ds' := Ds) hret own_d4_57 (by decide) (by decide) (fun _ q => q) ⟨rfl, hK, Or.inl ⟨F15, F13, hL, Nat.le_of_ble_eq_true rfl, r1, _, F12, F17⟩, rfl⟩
  · have hV := V1
    have K18 := ((Keep.refl h []).trans K1 all0)
    have F19 := E_a.keep K18
    have nabr1 : a ≠ r1 := Exa.neArv F19 hV (own_w11 hw)
    replace R := R.astore (pc' := 41) (l' := #[.val (.ref a), .val (.ref q), .val (.int (0 : Int32)), .val (.int (1 : Int32)), .val .null, .val (.ref r1)]) own_d4_39 rfl rfl rfl
    replace R := R.aloadN (pc' := 42) (v := (.ref a)) own_d4_41 rfl rfl rfl
    replace R := R.aload (pc' := 44) (v := (.ref r1)) own_d4_42 rfl rfl rfl
    replace R := R.iloadN (pc' := 45) (v := (1 : Int32)) own_d4_44 rfl rfl
    obtain ⟨_, _, _, ⟨rfl, rfl, rfl⟩, R⟩ := R.callS (pc' := 48) (argsL := [(.ref r1), (.int (1 : Int32))]) (rest := [(.ref a)]) (W := 1) (own_w54 hw) (own_w55 hw) (own_w49 hw) (own_w56 hw) (by decide) (rm_ca1_2 C.l Z a0 hw h1 n0 Ds hV) rfl (lenOf own_pd13 rfl) rfl rfl own_d4_45 (by decide) (by decide) (by decide) (by decide) rfl
    replace R := R.mono (ce' := 2) (sl' := 3) (by decide) (by decide)
    replace R := R.stk (S' := [(.int (1 : Int32)), (.ref a)]) rfl
    have K20 := ((Keep.refl h []).trans K1 all0)
    have F21 := F_c.keep K20 nin0
    have K22 := ((Keep.refl h []).trans K1 all0)
    have F23 := F_v.keep K22 nin0
    obtain ⟨h24, W24, R⟩ := R.putFN (pc' := 51) (ty := .byte) (v' := (.int (1 : Int32))) (own_w31 hw) Via.refl F21 F19 (Or.inr ⟨(own_w27 hw), rfl, hnm⟩) (own_w11 hw) (by decide) (rfl) (rfl) ha own_d4_48 rfl
    have F24 := F21.same W24
    have F25 := F23.other W24 (Or.inr (slot_ne (Or.inr (own_w26 hw)) (Or.inr (own_w27 hw)) (by decide) (t := (.array .byte)) (t' := .byte) (by decide) (by decide)))
    replace R := R.aloadN (pc' := 52) (v := (.ref a)) own_d4_51 rfl rfl rfl
    replace R := R.aload (pc' := 54) (v := (.ref r1)) own_d4_52 rfl rfl rfl
    have K26 := ((Keep.refl h1 [a]).trans (Keep.of_wr W24) (allS (Or.inl (List.mem_of_getElem? (i := 0) rfl)) all0))
    have F27 := F19.keep K26
    obtain ⟨h28, W28, R⟩ := R.putF (pc' := 57) (ty := (.array .byte)) (host := "") (Or.inl (own_w30 hw)) Via.refl F25 F27 (Or.inr ⟨(own_w26 hw), rfl, hnm⟩) (own_w11 hw) (by decide) rfl rfl ha own_d4_54 rfl
    have F28 := F25.same W28
    have F29 := F24.other W28 (Or.inr (slot_ne (Or.inr (own_w27 hw)) (Or.inr (own_w26 hw)) (by decide) (t := .byte) (t' := (.array .byte)) (by decide) (by decide)))
    have hK := ((((Keep.refl h [a]).trans K1 all0).trans (Keep.of_wr W24) (allS (Or.inl (List.mem_of_getElem? (i := 0) rfl)) all0)).trans (Keep.of_wr W28) (allS (Or.inl (List.mem_of_getElem? (i := 0) rfl)) all0))
    have K30 := ((Keep.refl h24 [a]).trans (Keep.of_wr W28) (allS (Or.inl (List.mem_of_getElem? (i := 0) rfl)) all0))
    have F31 := F27.keep K30
    have K32 := (((Keep.refl h1 [a]).trans (Keep.of_wr W24) (allS (Or.inl (List.mem_of_getElem? (i := 0) rfl)) all0)).trans (Keep.of_wr W28) (allS (Or.inl (List.mem_of_getElem? (i := 0) rfl)) all0))
    have F33 := hV.keep K32 (ninS (Ne.symm nabr1) nin0)
    exact R.retV (Ds' := Ds) hret own_d4_57 (by decide) (by decide) (fun _ q => q) ⟨rfl, hK, Or.inr ⟨F31, F29, hok, Nat.le_of_ble_eq_true rfl, r1, _, F28, F33⟩, rfl⟩
set_option maxRecDepth 65536 in
set_option maxHeartbeats 4000000 in
theorem rm_i1_1 (l : Launch) (Z : State) (a0 : Array Value) (hw : ∀ d ∈ tables_1, d.before a0 Z = true) (a : Addr) (h : Heap) (n0 : Nat) (Ds : List Addr) (own_cs : CompactOn Z) (own_si : SiooOk Z) (own_u : U16ok Z) (ha : a ∈ Ds) {x0 : Int32} (hok : ∀ c ∈ ([x0] : List Int32), ¬ c < 0 ∧ ¬ (65535 : Int32) < c) {q : Addr} {kq : ClassId} (V_q : Arv Z h q kq .char (1 : Int32) ([Value.int x0]) (.int 0)) {u1 u2 : Value} (E_a : Exa Z h a "java/lang/String") (F_v : Fld Z h a "java/lang/String" "value" "[B" u1) (F_c : Fld Z h a "java/lang/String" "coder" "B" u2) :
    Ctr l Z (⟨"java/lang/String", "<init>", "([C)V"⟩ : MethodName) jdk_42_method_3_code 2 none [] ({ frames := 5, cells := 2, slots := 3, locals := 74 } : Room) #[.ref a, .ref q] h n0 Ds (fun v h' Ds' => v = none ∧ Keep h h' [a] ∧ IsTx Z h' a [x0] ∧ Ds = Ds') := by
  refine ctr_of (Ls := #[.val (.ref a), .val (.ref q)]) (plainFor_of_name own_pn0) (fun m => by first | (simp [entryFrame, mkF, argsToLocals, Value.category]; done) | rfl) ?_
  intro C hl hret hnm R
  subst hl
  replace R := R.aloadN (pc' := 1) (v := (.ref a)) own_d3_0 rfl rfl rfl
  replace R := R.aloadN (pc' := 2) (v := (.ref q)) own_d3_1 rfl rfl rfl
  replace R := R.iconst (pc' := 3) (z := (0 : Int32)) own_d3_2 rfl rfl
  replace R := R.aloadN (pc' := 4) (v := (.ref q)) own_d3_3 rfl rfl rfl
  replace R := R.arraylength (pc' := 5) V_q own_d3_4 rfl
  replace R := R.anull (pc' := 6) own_d3_5 rfl
  obtain ⟨_, h1, _, ⟨rfl, K1, T1, rfl⟩, R⟩ := R.callI (pc' := 9) (a := a) (argsL := [(.ref q), (.int (0 : Int32)), (.int (1 : Int32)), .null]) (rest := []) (W := 0) rfl (own_w17 hw) (own_w18 hw) (own_w12 hw) (own_w20 hw) (by decide) (rm_i4_1 C.l Z a0 hw a h n0 Ds own_cs own_si own_u ha (x0 := x0) hok V_q E_a F_v F_c) rfl (lenOf own_pd7 rfl) rfl rfl own_d3_6 (by decide) (by decide) (by decide) (by decide) rfl
  replace R := R.mono (ce' := 2) (sl' := 3) (by decide) (by decide)
  replace R := R.stk (S' := []) rfl
  have hK := ((Keep.refl h [a]).trans K1 (allS (Or.inl (List.mem_of_getElem? (i := 0) rfl)) all0))
  exact R.retV (Ds' := Ds) hret own_d3_9 (by decide) (by decide) (fun _ q => q) ⟨rfl, hK, T1, rfl⟩
set_option maxRecDepth 65536 in
set_option maxHeartbeats 4000000 in
theorem rm_nbl2 (l : Launch) (Z : State) (a0 : Array Value) (hw : ∀ d ∈ tables_1, d.before a0 Z = true) (h : Heap) (n0 : Nat) (Ds : List Addr) :
    Ctr l Z (⟨"java/lang/StringUTF16", "newBytesLength", "(I)I"⟩ : MethodName) jdk_52_method_3_code 1 (some .int) [] ({ frames := 0, cells := 0, slots := 0, locals := 0 } : Room) #[.int (2 : Int32)] h n0 Ds (fun v h' Ds' => v = some (.int (4 : Int32)) ∧ h = h' ∧ Ds = Ds') := by
  refine ctr_of (Ls := #[.val (.int (2 : Int32))]) (plainFor_of_name own_pn3) (fun m => by first | (simp [entryFrame, mkF, argsToLocals, Value.category]; done) | rfl) ?_
  intro C hl hret hnm R
  subst hl
  replace R := R.iloadN (pc' := 1) (v := (2 : Int32)) own_d22_0 rfl rfl
  replace R := R.ifY (pc' := 12) own_d22_1 (flt (by decide : ¬ ((2 : Int32) < (0 : Int32)))).2.1 (by decide) rfl
  replace R := R.iloadN (pc' := 13) (v := (2 : Int32)) own_d22_12 rfl rfl
  replace R := R.ldcI (pc' := 15) (own_w97 hw) own_d22_13 rfl
  replace R := R.icmpY (pc' := 55) own_d22_15 (tlt (by decide : (2 : Int32) < (1073741823 : Int32))).1 (by decide) rfl
  replace R := R.iloadN (pc' := 56) (v := (2 : Int32)) own_d22_55 rfl rfl
  replace R := R.iconst (pc' := 57) (z := (1 : Int32)) own_d22_56 rfl rfl
  replace R := R.ishl (pc' := 58) own_d22_57 rfl
  replace R := R.stk (S' := [(.int (4 : Int32))]) rfl
  exact R.retI (Ds' := Ds) hret own_d22_58 (by decide) (by decide) (fun _ q => q) ⟨rfl, rfl, rfl⟩
set_option maxRecDepth 65536 in
set_option maxHeartbeats 4000000 in
theorem rm_nbf2 (l : Launch) (Z : State) (a0 : Array Value) (hw : ∀ d ∈ tables_1, d.before a0 Z = true) (h : Heap) (n0 : Nat) (Ds : List Addr) :
    Ctr l Z (⟨"java/lang/StringUTF16", "newBytesFor", "(I)[B"⟩ : MethodName) jdk_52_method_2_code 1 (some (.array .byte)) [] ({ frames := 1, cells := 1, slots := 4, locals := 12 } : Room) #[.int (2 : Int32)] h n0 Ds (fun v h' Ds' => ∃ (r : Addr) (kb : ClassId), v = some (.ref r) ∧ Keep h h' [] ∧ r = h.size ∧ Arv Z h' r kb .byte (4 : Int32) [(.int (0 : Int32)), (.int (0 : Int32)), (.int (0 : Int32)), (.int (0 : Int32))] (.int 0) ∧ r :: Ds = Ds') := by
  refine ctr_of (Ls := #[.val (.int (2 : Int32))]) (plainFor_of_name own_pn3) (fun m => by first | (simp [entryFrame, mkF, argsToLocals, Value.category]; done) | rfl) ?_
  intro C hl hret hnm R
  subst hl
  replace R := R.iloadN (pc' := 1) (v := (2 : Int32)) own_d21_0 rfl rfl
  obtain ⟨_, _, _, ⟨rfl, rfl, rfl⟩, R⟩ := R.callS (pc' := 4) (argsL := [(.int (2 : Int32))]) (rest := []) (W := 0) (own_w94 hw) (own_w95 hw) (own_w49 hw) (own_w96 hw) (by decide) (rm_nbl2 C.l Z a0 hw h n0 Ds) rfl (lenOf own_pd8 rfl) rfl rfl own_d21_1 (by decide) (by decide) (by decide) (by decide) rfl
  replace R := R.mono (ce' := 0) (sl' := 0) (by decide) (by decide)
  replace R := R.stk (S' := [(.int (4 : Int32))]) rfl
  obtain ⟨h1, b1, k1, g1, E1, V1, R⟩ := R.newP (pc' := 6) (aty := .byte) (cap := 4) (own_w25 hw) own_d21_4 (by decide) (by decide) (by decide) (by decide) (by decide) rfl
  have V1p : Arv Z h1 b1 k1 .byte (4 : Int32) [(.int (0 : Int32)), (.int (0 : Int32)), (.int (0 : Int32)), (.int (0 : Int32))] (.int (0 : Int32)) := V1.pad (pad_rep [] (.int (0 : Int32)) 4)
  have hK := ((Keep.refl h []).trans ((Keep.refl h []).ext E1) all0)
  exact R.retA (Ds' := b1 :: Ds) hret rfl rfl rfl own_d21_6 (by decide) (by decide) (fun _ q => q) ⟨b1, _, rfl, hK, g1, V1p, rfl⟩
set_option maxRecDepth 65536 in
set_option maxHeartbeats 4000000 in
theorem rm_tb2 (l : Launch) (Z : State) (a0 : Array Value) (hw : ∀ d ∈ tables_1, d.before a0 Z = true) (h : Heap) (n0 : Nat) (Ds : List Addr) (own_u : U16ok Z) {x0 x1 : Int32} (hok : ∀ c ∈ ([x0, x1] : List Int32), ¬ c < 0 ∧ ¬ (65535 : Int32) < c) {q : Addr} {kq : ClassId} (V_q : Arv Z h q kq .char (2 : Int32) ([Value.int x0, Value.int x1]) (.int 0)) :
    Ctr l Z (⟨"java/lang/StringUTF16", "toBytes", "([CII)[B"⟩ : MethodName) jdk_52_method_14_code 5 (some (.array .byte)) [] ({ frames := 2, cells := 1, slots := 4, locals := 24 } : Room) #[.ref q, .int (0 : Int32), .int (2 : Int32)] h n0 Ds (fun v h' Ds' => ∃ (r : Addr) (kb : ClassId), v = some (.ref r) ∧ Keep h h' [] ∧ Arv Z h' r kb .byte (4 : Int32) [(.int (StrChars.lo8 x0)), (.int (StrChars.hi8 x0)), (.int (StrChars.lo8 x1)), (.int (StrChars.hi8 x1))] (.int 0) ∧ Ds = Ds') := by
  refine ctr_of (Ls := #[.val (.ref q), .val (.int (0 : Int32)), .val (.int (2 : Int32)), .unset, .unset]) (plainFor_of_name own_pn3) (fun m => by first | (simp [entryFrame, mkF, argsToLocals, Value.category]; done) | rfl) ?_
  intro C hl hret hnm R
  subst hl
  have hql : q < h.size := V_q.lt
  replace R := R.iloadN (pc' := 1) (v := (2 : Int32)) own_d20_0 rfl rfl
  obtain ⟨_, h1, _, ⟨r1, k1, rfl, K1, g1, V1, rfl⟩, R⟩ := R.callS (pc' := 4) (argsL := [(.int (2 : Int32))]) (rest := []) (W := 0) (own_w91 hw) (own_w92 hw) (own_w49 hw) (own_w93 hw) (by decide) (rm_nbf2 C.l Z a0 hw h n0 Ds) rfl (lenOf own_pd9 rfl) rfl rfl own_d20_1 (by decide) (by decide) (by decide) (by decide) rfl
  have nqb : q ≠ r1 := fun e => by rw [e, g1] at hql; exact Nat.lt_irrefl _ hql
  replace R := R.mono (ce' := 1) (sl' := 4) (by decide) (by decide)
  replace R := R.stk (S' := [(.ref r1)]) rfl
  replace R := R.astoreN (pc' := 5) (l' := #[.val (.ref q), .val (.int (0 : Int32)), .val (.int (2 : Int32)), .val (.ref r1), .unset]) own_d20_4 rfl rfl rfl
  replace R := R.iconst (pc' := 6) (z := (0 : Int32)) own_d20_5 rfl rfl
  replace R := R.istore (pc' := 8) (l' := #[.val (.ref q), .val (.int (0 : Int32)), .val (.int (2 : Int32)), .val (.ref r1), .val (.int (0 : Int32))]) own_d20_6 rfl rfl
  replace R := R.iload (pc' := 10) (v := (0 : Int32)) own_d20_8 rfl rfl
  replace R := R.iloadN (pc' := 11) (v := (2 : Int32)) own_d20_10 rfl rfl
  replace R := R.icmpN (pc' := 14) own_d20_11 (tlt (by decide : (0 : Int32) < (2 : Int32))).2.1 rfl
  replace R := R.aloadN (pc' := 15) (v := (.ref r1)) own_d20_14 rfl rfl rfl
  replace R := R.iload (pc' := 17) (v := (0 : Int32)) own_d20_15 rfl rfl
  replace R := R.aloadN (pc' := 18) (v := (.ref q)) own_d20_17 rfl rfl rfl
  replace R := R.iloadN (pc' := 19) (v := (0 : Int32)) own_d20_18 rfl rfl
  have K2 := ((Keep.refl h []).trans K1 all0)
  have F3 := V_q.keep K2 nin0
  replace R := R.caload (pc' := 20) (v := (.int x0)) F3 ⟨by decide, by decide⟩ rfl own_d20_19 rfl
  obtain ⟨_, h4, _, ⟨rfl, K4, V4, rfl⟩, R⟩ := R.callS (pc' := 23) (argsL := [(.ref r1), (.int (0 : Int32)), (.int x0)]) (rest := []) (W := 0) (own_w98 hw) (own_w99 hw) (own_w49 hw) (own_w100 hw) (by decide) (rm_pch C.l Z a0 hw r1 (0 : Int32) x0 h1 n0 (r1 :: Ds) own_u (k := 0) (m := 2) rfl (by decide) (by decide) rfl (List.mem_of_getElem? (i := 0) rfl) V1) rfl (lenOf own_pd10 rfl) rfl rfl own_d20_20 (by decide) (by decide) (by decide) (by decide) rfl
  have V4p : Arv Z h4 r1 k1 .byte (4 : Int32) [(.int (StrChars.lo8 x0)), (.int (StrChars.hi8 x0)), (.int (0 : Int32)), (.int (0 : Int32))] (.int 0) := V4
  replace R := R.mono (ce' := 1) (sl' := 4) (by decide) (by decide)
  replace R := R.stk (S' := []) rfl
  replace R := R.iinc (pc' := 26) (l' := #[.val (.ref q), .val (.int (1 : Int32)), .val (.int (2 : Int32)), .val (.ref r1), .val (.int (0 : Int32))]) own_d20_23 rfl rfl rfl
  replace R := R.iinc (pc' := 29) (l' := #[.val (.ref q), .val (.int (1 : Int32)), .val (.int (2 : Int32)), .val (.ref r1), .val (.int (1 : Int32))]) own_d20_26 rfl rfl rfl
  replace R := R.goto (pc' := 8) own_d20_29 (by decide) rfl
  replace R := R.iload (pc' := 10) (v := (1 : Int32)) own_d20_8 rfl rfl
  replace R := R.iloadN (pc' := 11) (v := (2 : Int32)) own_d20_10 rfl rfl
  replace R := R.icmpN (pc' := 14) own_d20_11 (tlt (by decide : (1 : Int32) < (2 : Int32))).2.1 rfl
  replace R := R.aloadN (pc' := 15) (v := (.ref r1)) own_d20_14 rfl rfl rfl
  replace R := R.iload (pc' := 17) (v := (1 : Int32)) own_d20_15 rfl rfl
  replace R := R.aloadN (pc' := 18) (v := (.ref q)) own_d20_17 rfl rfl rfl
  replace R := R.iloadN (pc' := 19) (v := (1 : Int32)) own_d20_18 rfl rfl
  have K5 := ((Keep.refl h1 [r1]).trans K4 (allS (Or.inl (List.mem_of_getElem? (i := 0) rfl)) all0))
  have F6 := F3.keep K5 (ninS nqb nin0)
  replace R := R.caload (pc' := 20) (v := (.int x1)) F6 ⟨by decide, by decide⟩ rfl own_d20_19 rfl
  obtain ⟨_, h7, _, ⟨rfl, K7, V7, rfl⟩, R⟩ := R.callS (pc' := 23) (argsL := [(.ref r1), (.int (1 : Int32)), (.int x1)]) (rest := []) (W := 0) (own_w98 hw) (own_w99 hw) (own_w49 hw) (own_w100 hw) (by decide) (rm_pch C.l Z a0 hw r1 (1 : Int32) x1 h4 n0 (r1 :: Ds) own_u (k := 1) (m := 2) rfl (by decide) (by decide) rfl (List.mem_of_getElem? (i := 0) rfl) V4p) rfl (lenOf own_pd10 rfl) rfl rfl own_d20_20 (by decide) (by decide) (by decide) (by decide) rfl
  have V7p : Arv Z h7 r1 k1 .byte (4 : Int32) [(.int (StrChars.lo8 x0)), (.int (StrChars.hi8 x0)), (.int (StrChars.lo8 x1)), (.int (StrChars.hi8 x1))] (.int 0) := V7
  replace R := R.mono (ce' := 1) (sl' := 4) (by decide) (by decide)
  replace R := R.stk (S' := []) rfl
  replace R := R.iinc (pc' := 26) (l' := #[.val (.ref q), .val (.int (2 : Int32)), .val (.int (2 : Int32)), .val (.ref r1), .val (.int (1 : Int32))]) own_d20_23 rfl rfl rfl
  replace R := R.iinc (pc' := 29) (l' := #[.val (.ref q), .val (.int (2 : Int32)), .val (.int (2 : Int32)), .val (.ref r1), .val (.int (2 : Int32))]) own_d20_26 rfl rfl rfl
  replace R := R.goto (pc' := 8) own_d20_29 (by decide) rfl
  replace R := R.iload (pc' := 10) (v := (2 : Int32)) own_d20_8 rfl rfl
  replace R := R.iloadN (pc' := 11) (v := (2 : Int32)) own_d20_10 rfl rfl
  replace R := R.icmpY (pc' := 32) own_d20_11 (flt (by decide : ¬ ((2 : Int32) < (2 : Int32)))).2.1 (by decide) rfl
  replace R := R.aloadN (pc' := 33) (v := (.ref r1)) own_d20_32 rfl rfl rfl
  have hK := ((((Keep.refl h []).trans K1 all0).trans K4 (allS (Or.inr (by rw [g1]; exact (Nat.le_refl _))) all0)).trans K7 (allS (Or.inr (by rw [g1]; exact (Nat.le_refl _))) all0))
  exact R.retA (Ds' := Ds) hret rfl rfl rfl own_d20_33 (by decide) (by decide) (fun _ q => (fun q => (List.mem_cons_of_mem _ q)) q) ⟨r1, _, rfl, hK, V7p, rfl⟩
set_option maxRecDepth 65536 in
set_option maxHeartbeats 4000000 in
theorem rm_c52 (l : Launch) (Z : State) (a0 : Array Value) (hw : ∀ d ∈ tables_1, d.before a0 Z = true) (h : Heap) (n0 : Nat) (Ds : List Addr) {x0 x1 : Int32} (hok : ∀ c ∈ ([x0, x1] : List Int32), ¬ c < 0 ∧ ¬ (65535 : Int32) < c) {q : Addr} {kq : ClassId} (V_q : Arv Z h q kq .char (2 : Int32) ([Value.int x0, Value.int x1]) (.int 0)) {b : Addr} {kb : ClassId} (hb : b ∈ Ds) (nqb : q ≠ b) (V_b : Arv Z h b kb .byte (2 : Int32) [(.int (0 : Int32)), (.int (0 : Int32))] (.int 0)) :
    Ctr l Z (⟨"java/lang/StringUTF16", "compress", "([CI[BII)I"⟩ : MethodName) jdk_52_method_21_code 7 (some .int) [] ({ frames := 0, cells := 0, slots := 0, locals := 0 } : Room) #[.ref q, .int (0 : Int32), .ref b, .int (0 : Int32), .int (2 : Int32)] h n0 Ds (fun v h' Ds' => Keep h h' [b] ∧ Ds = Ds' ∧ ((v = some (.int (2 : Int32)) ∧ (∀ c ∈ ([x0, x1] : List Int32), ¬ c < 0 ∧ ¬ (255 : Int32) < c) ∧ Arv Z h' b kb .byte (2 : Int32) [(.int x0.toInt8.toInt32), (.int x1.toInt8.toInt32)] (.int 0)) ∨ (v = some (.int (0 : Int32)) ∧ (255 : Int32) < x0) ∨ (v = some (.int (1 : Int32)) ∧ (255 : Int32) < x1))) := by
  refine ctr_of (Ls := #[.val (.ref q), .val (.int (0 : Int32)), .val (.ref b), .val (.int (0 : Int32)), .val (.int (2 : Int32)), .unset, .unset]) (plainFor_of_name own_pn3) (fun m => by first | (simp [entryFrame, mkF, argsToLocals, Value.category]; done) | rfl) ?_
  intro C hl hret hnm R
  subst hl
  replace R := R.iconst (pc' := 1) (z := (0 : Int32)) own_d10_0 rfl rfl
  replace R := R.istore (pc' := 3) (l' := #[.val (.ref q), .val (.int (0 : Int32)), .val (.ref b), .val (.int (0 : Int32)), .val (.int (2 : Int32)), .val (.int (0 : Int32)), .unset]) own_d10_1 rfl rfl
  replace R := R.iload (pc' := 5) (v := (0 : Int32)) own_d10_3 rfl rfl
  replace R := R.iload (pc' := 7) (v := (2 : Int32)) own_d10_5 rfl rfl
  replace R := R.icmpN (pc' := 10) own_d10_7 (tlt (by decide : (0 : Int32) < (2 : Int32))).2.1 rfl
  replace R := R.aloadN (pc' := 11) (v := (.ref q)) own_d10_10 rfl rfl rfl
  replace R := R.iloadN (pc' := 12) (v := (0 : Int32)) own_d10_11 rfl rfl
  replace R := R.caload (pc' := 13) (v := (.int x0)) V_q ⟨by decide, by decide⟩ rfl own_d10_12 rfl
  replace R := R.istore (pc' := 15) (l' := #[.val (.ref q), .val (.int (0 : Int32)), .val (.ref b), .val (.int (0 : Int32)), .val (.int (2 : Int32)), .val (.int (0 : Int32)), .val (.int x0)]) own_d10_13 rfl rfl
  replace R := R.iload (pc' := 17) (v := x0) own_d10_15 rfl rfl
  replace R := R.sipush (pc' := 20) (z := (255 : Int32)) own_d10_17 rfl rfl
  by_cases hc1 : (255 : Int32) < x0
  · replace R := R.icmpN (pc' := 23) own_d10_20 (tlt hc1).2.2.2 rfl
    replace R := R.iload (pc' := 25) (v := (0 : Int32)) own_d10_23 rfl rfl
    have hK : Keep h h [b] := Keep.refl h [b]
    exact R.retI (Ds' := Ds) hret own_d10_25 (by decide) (by decide) (fun _ q => q) ⟨hK, rfl, Or.inr (Or.inl ⟨rfl, hc1⟩)⟩
  · replace R := R.icmpY (pc' := 26) own_d10_20 (flt hc1).2.2.2 (by decide) rfl
    replace R := R.aloadN (pc' := 27) (v := (.ref b)) own_d10_26 rfl rfl rfl
    replace R := R.iloadN (pc' := 28) (v := (0 : Int32)) own_d10_27 rfl rfl
    replace R := R.iload (pc' := 30) (v := x0) own_d10_28 rfl rfl
    replace R := R.i2b (pc' := 31) own_d10_30 rfl
    obtain ⟨h2, K2, V2, R⟩ := R.bastore (pc' := 32) V_b ⟨by decide, by decide⟩ 0 rfl (Nat.le_of_ble_eq_true rfl) hb own_d10_31 rfl
    have V2p : Arv Z h2 b kb .byte (2 : Int32) [(.int x0.toInt8.toInt32), (.int (0 : Int32))] (.int 0) := by
      have q := V2
      rw [nar_i2b x0] at q
      exact q
    replace R := R.iinc (pc' := 35) (l' := #[.val (.ref q), .val (.int (1 : Int32)), .val (.ref b), .val (.int (0 : Int32)), .val (.int (2 : Int32)), .val (.int (0 : Int32)), .val (.int x0)]) own_d10_32 rfl rfl rfl
    replace R := R.iinc (pc' := 38) (l' := #[.val (.ref q), .val (.int (1 : Int32)), .val (.ref b), .val (.int (1 : Int32)), .val (.int (2 : Int32)), .val (.int (0 : Int32)), .val (.int x0)]) own_d10_35 rfl rfl rfl
    replace R := R.iinc (pc' := 41) (l' := #[.val (.ref q), .val (.int (1 : Int32)), .val (.ref b), .val (.int (1 : Int32)), .val (.int (2 : Int32)), .val (.int (1 : Int32)), .val (.int x0)]) own_d10_38 rfl rfl rfl
    replace R := R.goto (pc' := 3) own_d10_41 (by decide) rfl
    replace R := R.iload (pc' := 5) (v := (1 : Int32)) own_d10_3 rfl rfl
    replace R := R.iload (pc' := 7) (v := (2 : Int32)) own_d10_5 rfl rfl
    replace R := R.icmpN (pc' := 10) own_d10_7 (tlt (by decide : (1 : Int32) < (2 : Int32))).2.1 rfl
    replace R := R.aloadN (pc' := 11) (v := (.ref q)) own_d10_10 rfl rfl rfl
    replace R := R.iloadN (pc' := 12) (v := (1 : Int32)) own_d10_11 rfl rfl
    have K3 := ((Keep.refl h [b]).trans K2 (allS (Or.inl (List.mem_of_getElem? (i := 0) rfl)) all0))
    have F4 := V_q.keep K3 (ninS nqb nin0)
    replace R := R.caload (pc' := 13) (v := (.int x1)) F4 ⟨by decide, by decide⟩ rfl own_d10_12 rfl
    replace R := R.istore (pc' := 15) (l' := #[.val (.ref q), .val (.int (1 : Int32)), .val (.ref b), .val (.int (1 : Int32)), .val (.int (2 : Int32)), .val (.int (1 : Int32)), .val (.int x1)]) own_d10_13 rfl rfl
    replace R := R.iload (pc' := 17) (v := x1) own_d10_15 rfl rfl
    replace R := R.sipush (pc' := 20) (z := (255 : Int32)) own_d10_17 rfl rfl
    by_cases hc5 : (255 : Int32) < x1
    · replace R := R.icmpN (pc' := 23) own_d10_20 (tlt hc5).2.2.2 rfl
      replace R := R.iload (pc' := 25) (v := (1 : Int32)) own_d10_23 rfl rfl
      have hK : Keep h h2 [b] := ((Keep.refl h [b]).trans K2 (allS (Or.inl (List.mem_of_getElem? (i := 0) rfl)) all0))
      exact R.retI (Ds' := Ds) hret own_d10_25 (by decide) (by decide) (fun _ q => q) ⟨hK, rfl, Or.inr (Or.inr (⟨rfl, hc5⟩))⟩
    · replace R := R.icmpY (pc' := 26) own_d10_20 (flt hc5).2.2.2 (by decide) rfl
      replace R := R.aloadN (pc' := 27) (v := (.ref b)) own_d10_26 rfl rfl rfl
      replace R := R.iloadN (pc' := 28) (v := (1 : Int32)) own_d10_27 rfl rfl
      replace R := R.iload (pc' := 30) (v := x1) own_d10_28 rfl rfl
      replace R := R.i2b (pc' := 31) own_d10_30 rfl
      obtain ⟨h6, K6, V6, R⟩ := R.bastore (pc' := 32) V2p ⟨by decide, by decide⟩ 1 rfl (Nat.le_of_ble_eq_true rfl) hb own_d10_31 rfl
      have V6p : Arv Z h6 b kb .byte (2 : Int32) [(.int x0.toInt8.toInt32), (.int x1.toInt8.toInt32)] (.int 0) := by
        have q := V6
        rw [nar_i2b x1] at q
        exact q
      replace R := R.iinc (pc' := 35) (l' := #[.val (.ref q), .val (.int (2 : Int32)), .val (.ref b), .val (.int (1 : Int32)), .val (.int (2 : Int32)), .val (.int (1 : Int32)), .val (.int x1)]) own_d10_32 rfl rfl rfl
      replace R := R.iinc (pc' := 38) (l' := #[.val (.ref q), .val (.int (2 : Int32)), .val (.ref b), .val (.int (2 : Int32)), .val (.int (2 : Int32)), .val (.int (1 : Int32)), .val (.int x1)]) own_d10_35 rfl rfl rfl
      replace R := R.iinc (pc' := 41) (l' := #[.val (.ref q), .val (.int (2 : Int32)), .val (.ref b), .val (.int (2 : Int32)), .val (.int (2 : Int32)), .val (.int (2 : Int32)), .val (.int x1)]) own_d10_38 rfl rfl rfl
      replace R := R.goto (pc' := 3) own_d10_41 (by decide) rfl
      replace R := R.iload (pc' := 5) (v := (2 : Int32)) own_d10_3 rfl rfl
      replace R := R.iload (pc' := 7) (v := (2 : Int32)) own_d10_5 rfl rfl
      replace R := R.icmpY (pc' := 44) own_d10_7 (flt (by decide : ¬ ((2 : Int32) < (2 : Int32)))).2.1 (by decide) rfl
      replace R := R.iload (pc' := 46) (v := (2 : Int32)) own_d10_44 rfl rfl
      have hK : Keep h h6 [b] := (((Keep.refl h [b]).trans K2 (allS (Or.inl (List.mem_of_getElem? (i := 0) rfl)) all0)).trans K6 (allS (Or.inl (List.mem_of_getElem? (i := 0) rfl)) all0))
      exact R.retI (Ds' := Ds) hret own_d10_46 (by decide) (by decide) (fun _ q => q) ⟨hK, rfl, Or.inl ⟨rfl, (chS ⟨(hok x0 (List.mem_of_getElem? (i := 0) rfl)).1, hc1⟩ (chS ⟨(hok x1 (List.mem_of_getElem? (i := 1) rfl)).1, hc5⟩ ch0)), V6p⟩⟩
set_option maxRecDepth 65536 in
set_option maxHeartbeats 4000000 in
theorem rm_c32 (l : Launch) (Z : State) (a0 : Array Value) (hw : ∀ d ∈ tables_1, d.before a0 Z = true) (h : Heap) (n0 : Nat) (Ds : List Addr) (own_u : U16ok Z) {x0 x1 : Int32} (hok : ∀ c ∈ ([x0, x1] : List Int32), ¬ c < 0 ∧ ¬ (65535 : Int32) < c) {q : Addr} {kq : ClassId} (V_q : Arv Z h q kq .char (2 : Int32) ([Value.int x0, Value.int x1]) (.int 0)) :
    Ctr l Z (⟨"java/lang/StringUTF16", "compress", "([CII)[B"⟩ : MethodName) jdk_52_method_16_code 6 (some (.array .byte)) [] ({ frames := 3, cells := 2, slots := 6, locals := 40 } : Room) #[.ref q, .int (0 : Int32), .int (2 : Int32)] h n0 Ds (fun v h' Ds' => ∃ (b : Addr) (kb : ClassId), v = some (.ref b) ∧ Keep h h' [] ∧ Ds = Ds' ∧ (((∀ c ∈ ([x0, x1] : List Int32), ¬ c < 0 ∧ ¬ (255 : Int32) < c) ∧ Arv Z h' b kb .byte (2 : Int32) [(.int x0.toInt8.toInt32), (.int x1.toInt8.toInt32)] (.int 0)) ∨ Arv Z h' b kb .byte (4 : Int32) [(.int (StrChars.lo8 x0)), (.int (StrChars.hi8 x0)), (.int (StrChars.lo8 x1)), (.int (StrChars.hi8 x1))] (.int 0))) := by
  refine ctr_of (Ls := #[.val (.ref q), .val (.int (0 : Int32)), .val (.int (2 : Int32)), .unset, .unset, .unset]) (plainFor_of_name own_pn3) (fun m => by first | (simp [entryFrame, mkF, argsToLocals, Value.category]; done) | rfl) ?_
  intro C hl hret hnm R
  subst hl
  have hql : q < h.size := V_q.lt
  replace R := R.iloadN (pc' := 1) (v := (2 : Int32)) own_d9_0 rfl rfl
  obtain ⟨h1, b1, k1, g1, E1, V1, R⟩ := R.newP (pc' := 3) (aty := .byte) (cap := 2) (own_w25 hw) own_d9_1 (by decide) (by decide) (by decide) (by decide) (by decide) rfl
  have V1p : Arv Z h1 b1 k1 .byte (2 : Int32) [(.int (0 : Int32)), (.int (0 : Int32))] (.int (0 : Int32)) := V1.pad (pad_rep [] (.int (0 : Int32)) 2)
  replace R := R.astoreN (pc' := 4) (l' := #[.val (.ref q), .val (.int (0 : Int32)), .val (.int (2 : Int32)), .val (.ref b1), .unset, .unset]) own_d9_3 rfl rfl rfl
  replace R := R.aloadN (pc' := 5) (v := (.ref q)) own_d9_4 rfl rfl rfl
  replace R := R.iloadN (pc' := 6) (v := (0 : Int32)) own_d9_5 rfl rfl
  replace R := R.aloadN (pc' := 7) (v := (.ref b1)) own_d9_6 rfl rfl rfl
  replace R := R.iconst (pc' := 8) (z := (0 : Int32)) own_d9_7 rfl rfl
  replace R := R.iloadN (pc' := 9) (v := (2 : Int32)) own_d9_8 rfl rfl
  have K3 := ((Keep.refl h []).trans ((Keep.refl h []).ext E1) all0)
  have F4 := V_q.keep K3 nin0
  have nqb : q ≠ b1 := fun e => by rw [e, g1] at hql; exact Nat.lt_irrefl _ hql
  obtain ⟨v2, h2, _, ⟨K2, rfl, hD2⟩, R⟩ := R.callS (pc' := 12) (argsL := [(.ref q), (.int (0 : Int32)), (.ref b1), (.int (0 : Int32)), (.int (2 : Int32))]) (rest := []) (W := 0) (own_w51 hw) (own_w52 hw) (own_w49 hw) (own_w53 hw) (by decide) (rm_c52 C.l Z a0 hw h1 n0 (b1 :: Ds) hok F4 (List.mem_of_getElem? (i := 0) rfl) nqb V1p) rfl (lenOf own_pd11 rfl) rfl rfl own_d9_9 (by decide) (by decide) (by decide) (by decide) rfl
  replace R := R.mono (ce' := 1) (sl' := 2) (by decide) (by decide)
  rcases hD2 with ⟨rfl, hL, V2⟩ | ⟨rfl, hj⟩ | ⟨rfl, hj⟩
  · replace R := R.stk (S' := [(.int (2 : Int32))]) rfl
    replace R := R.istore (pc' := 14) (l' := #[.val (.ref q), .val (.int (0 : Int32)), .val (.int (2 : Int32)), .val (.ref b1), .val (.int (2 : Int32)), .unset]) own_d9_12 rfl rfl
    replace R := R.iload (pc' := 16) (v := (2 : Int32)) own_d9_14 rfl rfl
    replace R := R.iloadN (pc' := 17) (v := (2 : Int32)) own_d9_16 rfl rfl
    replace R := R.icmpY (pc' := 57) own_d9_17 (teq (by decide : (2 : Int32) = (2 : Int32))).1 (by decide) rfl
    replace R := R.aloadN (pc' := 58) (v := (.ref b1)) own_d9_57 rfl rfl rfl
    have hK := (((Keep.refl h []).trans ((Keep.refl h []).ext E1) all0).trans K2 (allS (Or.inr (by rw [g1]; exact (Nat.le_refl _))) all0))
    exact R.retA (Ds' := Ds) hret rfl rfl rfl own_d9_58 (by decide) (by decide) (fun _ q => (fun q => (List.mem_cons_of_mem _ q)) q) ⟨b1, _, rfl, hK, rfl, Or.inl ⟨hL, V2⟩⟩
  · replace R := R.stk (S' := [(.int (0 : Int32))]) rfl
    replace R := R.istore (pc' := 14) (l' := #[.val (.ref q), .val (.int (0 : Int32)), .val (.int (2 : Int32)), .val (.ref b1), .val (.int (0 : Int32)), .unset]) own_d9_12 rfl rfl
    replace R := R.iload (pc' := 16) (v := (0 : Int32)) own_d9_14 rfl rfl
    replace R := R.iloadN (pc' := 17) (v := (2 : Int32)) own_d9_16 rfl rfl
    replace R := R.icmpN (pc' := 20) own_d9_17 (feq (by decide : ¬ ((0 : Int32) = (2 : Int32)))).1 rfl
    replace R := R.aloadN (pc' := 21) (v := (.ref q)) own_d9_20 rfl rfl rfl
    replace R := R.iloadN (pc' := 22) (v := (0 : Int32)) own_d9_21 rfl rfl
    replace R := R.iloadN (pc' := 23) (v := (2 : Int32)) own_d9_22 rfl rfl
    have K6 := ((Keep.refl h1 [b1]).trans K2 (allS (Or.inl (List.mem_of_getElem? (i := 0) rfl)) all0))
    have F7 := F4.keep K6 (ninS nqb nin0)
    obtain ⟨_, h5, _, ⟨r5, k5, rfl, K5, V5, rfl⟩, R⟩ := R.callS (pc' := 26) (argsL := [(.ref q), (.int (0 : Int32)), (.int (2 : Int32))]) (rest := []) (W := 0) (own_w88 hw) (own_w89 hw) (own_w49 hw) (own_w90 hw) (by decide) (rm_tb2 C.l Z a0 hw h2 n0 (b1 :: Ds) own_u hok F7) rfl (lenOf own_pd12 rfl) rfl rfl own_d9_23 (by decide) (by decide) (by decide) (by decide) rfl
    replace R := R.mono (ce' := 2) (sl' := 6) (by decide) (by decide)
    replace R := R.stk (S' := [(.ref r5)]) rfl
    replace R := R.astore (pc' := 28) (l' := #[.val (.ref q), .val (.int (0 : Int32)), .val (.int (2 : Int32)), .val (.ref b1), .val (.int (0 : Int32)), .val (.ref r5)]) own_d9_26 rfl rfl rfl
    replace R := R.aload (pc' := 30) (v := (.ref r5)) own_d9_28 rfl rfl rfl
    replace R := R.iload (pc' := 32) (v := (0 : Int32)) own_d9_30 rfl rfl
    obtain ⟨_, _, _, ⟨rfl, rfl, rfl⟩, R⟩ := R.callS (pc' := 35) (argsL := [(.ref r5), (.int (0 : Int32))]) (rest := []) (W := 0) (own_w104 hw) (own_w105 hw) (own_w49 hw) (own_w106 hw) (by decide) (rm_gc C.l Z a0 hw r5 (0 : Int32) h5 n0 (b1 :: Ds) own_u (k := 0) (m := 2) rfl (by decide) (by decide) (c := x0) (hok x0 (List.mem_of_getElem? (i := 0) rfl)) rfl rfl V5) rfl (lenOf own_pd4 rfl) rfl rfl own_d9_32 (by decide) (by decide) (by decide) (by decide) rfl
    replace R := R.mono (ce' := 2) (sl' := 6) (by decide) (by decide)
    replace R := R.stk (S' := [(.int x0)]) rfl
    replace R := R.sipush (pc' := 38) (z := (255 : Int32)) own_d9_35 rfl rfl
    replace R := R.icmpY (pc' := 54) own_d9_38 (tlt hj).2.2.1 (by decide) rfl
    replace R := R.aload (pc' := 56) (v := (.ref r5)) own_d9_54 rfl rfl rfl
    have hK := ((((Keep.refl h []).trans ((Keep.refl h []).ext E1) all0).trans K2 (allS (Or.inr (by rw [g1]; exact (Nat.le_refl _))) all0)).trans K5 all0)
    exact R.retA (Ds' := Ds) hret rfl rfl rfl own_d9_56 (by decide) (by decide) (fun _ q => (fun q => (List.mem_cons_of_mem _ q)) q) ⟨r5, _, rfl, hK, rfl, Or.inr V5⟩
  · replace R := R.stk (S' := [(.int (1 : Int32))]) rfl
    replace R := R.istore (pc' := 14) (l' := #[.val (.ref q), .val (.int (0 : Int32)), .val (.int (2 : Int32)), .val (.ref b1), .val (.int (1 : Int32)), .unset]) own_d9_12 rfl rfl
    replace R := R.iload (pc' := 16) (v := (1 : Int32)) own_d9_14 rfl rfl
    replace R := R.iloadN (pc' := 17) (v := (2 : Int32)) own_d9_16 rfl rfl
    replace R := R.icmpN (pc' := 20) own_d9_17 (feq (by decide : ¬ ((1 : Int32) = (2 : Int32)))).1 rfl
    replace R := R.aloadN (pc' := 21) (v := (.ref q)) own_d9_20 rfl rfl rfl
    replace R := R.iloadN (pc' := 22) (v := (0 : Int32)) own_d9_21 rfl rfl
    replace R := R.iloadN (pc' := 23) (v := (2 : Int32)) own_d9_22 rfl rfl
    have K9 := ((Keep.refl h1 [b1]).trans K2 (allS (Or.inl (List.mem_of_getElem? (i := 0) rfl)) all0))
    have F10 := F4.keep K9 (ninS nqb nin0)
    obtain ⟨_, h8, _, ⟨r8, k8, rfl, K8, V8, rfl⟩, R⟩ := R.callS (pc' := 26) (argsL := [(.ref q), (.int (0 : Int32)), (.int (2 : Int32))]) (rest := []) (W := 0) (own_w88 hw) (own_w89 hw) (own_w49 hw) (own_w90 hw) (by decide) (rm_tb2 C.l Z a0 hw h2 n0 (b1 :: Ds) own_u hok F10) rfl (lenOf own_pd12 rfl) rfl rfl own_d9_23 (by decide) (by decide) (by decide) (by decide) rfl
    replace R := R.mono (ce' := 2) (sl' := 6) (by decide) (by decide)
    replace R := R.stk (S' := [(.ref r8)]) rfl
    replace R := R.astore (pc' := 28) (l' := #[.val (.ref q), .val (.int (0 : Int32)), .val (.int (2 : Int32)), .val (.ref b1), .val (.int (1 : Int32)), .val (.ref r8)]) own_d9_26 rfl rfl rfl
    replace R := R.aload (pc' := 30) (v := (.ref r8)) own_d9_28 rfl rfl rfl
    replace R := R.iload (pc' := 32) (v := (1 : Int32)) own_d9_30 rfl rfl
    obtain ⟨_, _, _, ⟨rfl, rfl, rfl⟩, R⟩ := R.callS (pc' := 35) (argsL := [(.ref r8), (.int (1 : Int32))]) (rest := []) (W := 0) (own_w104 hw) (own_w105 hw) (own_w49 hw) (own_w106 hw) (by decide) (rm_gc C.l Z a0 hw r8 (1 : Int32) h8 n0 (b1 :: Ds) own_u (k := 1) (m := 2) rfl (by decide) (by decide) (c := x1) (hok x1 (List.mem_of_getElem? (i := 1) rfl)) rfl rfl V8) rfl (lenOf own_pd4 rfl) rfl rfl own_d9_32 (by decide) (by decide) (by decide) (by decide) rfl
    replace R := R.mono (ce' := 2) (sl' := 6) (by decide) (by decide)
    replace R := R.stk (S' := [(.int x1)]) rfl
    replace R := R.sipush (pc' := 38) (z := (255 : Int32)) own_d9_35 rfl rfl
    replace R := R.icmpY (pc' := 54) own_d9_38 (tlt hj).2.2.1 (by decide) rfl
    replace R := R.aload (pc' := 56) (v := (.ref r8)) own_d9_54 rfl rfl rfl
    have hK := ((((Keep.refl h []).trans ((Keep.refl h []).ext E1) all0).trans K2 (allS (Or.inr (by rw [g1]; exact (Nat.le_refl _))) all0)).trans K8 all0)
    exact R.retA (Ds' := Ds) hret rfl rfl rfl own_d9_56 (by decide) (by decide) (fun _ q => (fun q => (List.mem_cons_of_mem _ q)) q) ⟨r8, _, rfl, hK, rfl, Or.inr V8⟩
set_option maxRecDepth 65536 in
set_option maxHeartbeats 4000000 in
theorem rm_ca2_2 (l : Launch) (Z : State) (a0 : Array Value) (hw : ∀ d ∈ tables_1, d.before a0 Z = true) (h : Heap) (n0 : Nat) (Ds : List Addr) {b : Addr} {kb : ClassId} {vs : List Value} (V_b : Arv Z h b kb .byte (2 : Int32) vs (.int 0)) :
    Ctr l Z (⟨"java/lang/StringUTF16", "coderFromArrayLen", "([BI)B"⟩ : MethodName) jdk_52_method_15_code 2 (some .byte) [] ({ frames := 0, cells := 0, slots := 0, locals := 0 } : Room) #[.ref b, .int (2 : Int32)] h n0 Ds (fun v h' Ds' => v = some (.int (0 : Int32)) ∧ h = h' ∧ Ds = Ds') := by
  refine ctr_of (Ls := #[.val (.ref b), .val (.int (2 : Int32))]) (plainFor_of_name own_pn3) (fun m => by first | (simp [entryFrame, mkF, argsToLocals, Value.category]; done) | rfl) ?_
  intro C hl hret hnm R
  subst hl
  replace R := R.iloadN (pc' := 1) (v := (2 : Int32)) own_d11_0 rfl rfl
  replace R := R.aloadN (pc' := 2) (v := (.ref b)) own_d11_1 rfl rfl rfl
  replace R := R.arraylength (pc' := 3) V_b own_d11_2 rfl
  replace R := R.isub (pc' := 4) own_d11_3 rfl
  replace R := R.stk (S' := [(.int (0 : Int32))]) rfl
  replace R := R.bipush (pc' := 6) (z := (31 : Int32)) own_d11_4 rfl rfl
  replace R := R.iushr (pc' := 7) own_d11_6 rfl
  replace R := R.stk (S' := [(.int (0 : Int32))]) rfl
  replace R := R.i2b (pc' := 8) own_d11_7 rfl
  replace R := R.stk (S' := [(.int (0 : Int32))]) rfl
  exact R.retN (Ds' := Ds) hret (by simp) (show nar .byte (0 : Int32) = (0 : Int32) from rfl) own_d11_8 (by decide) (by decide) (fun _ q => q) ⟨rfl, rfl, rfl⟩
set_option maxRecDepth 65536 in
set_option maxHeartbeats 4000000 in
theorem rm_ca2_4 (l : Launch) (Z : State) (a0 : Array Value) (hw : ∀ d ∈ tables_1, d.before a0 Z = true) (h : Heap) (n0 : Nat) (Ds : List Addr) {b : Addr} {kb : ClassId} {vs : List Value} (V_b : Arv Z h b kb .byte (4 : Int32) vs (.int 0)) :
    Ctr l Z (⟨"java/lang/StringUTF16", "coderFromArrayLen", "([BI)B"⟩ : MethodName) jdk_52_method_15_code 2 (some .byte) [] ({ frames := 0, cells := 0, slots := 0, locals := 0 } : Room) #[.ref b, .int (2 : Int32)] h n0 Ds (fun v h' Ds' => v = some (.int (1 : Int32)) ∧ h = h' ∧ Ds = Ds') := by
  refine ctr_of (Ls := #[.val (.ref b), .val (.int (2 : Int32))]) (plainFor_of_name own_pn3) (fun m => by first | (simp [entryFrame, mkF, argsToLocals, Value.category]; done) | rfl) ?_
  intro C hl hret hnm R
  subst hl
  replace R := R.iloadN (pc' := 1) (v := (2 : Int32)) own_d11_0 rfl rfl
  replace R := R.aloadN (pc' := 2) (v := (.ref b)) own_d11_1 rfl rfl rfl
  replace R := R.arraylength (pc' := 3) V_b own_d11_2 rfl
  replace R := R.isub (pc' := 4) own_d11_3 rfl
  replace R := R.stk (S' := [(.int (-2 : Int32))]) rfl
  replace R := R.bipush (pc' := 6) (z := (31 : Int32)) own_d11_4 rfl rfl
  replace R := R.iushr (pc' := 7) own_d11_6 rfl
  replace R := R.stk (S' := [(.int (1 : Int32))]) rfl
  replace R := R.i2b (pc' := 8) own_d11_7 rfl
  replace R := R.stk (S' := [(.int (1 : Int32))]) rfl
  exact R.retN (Ds' := Ds) hret (by simp) (show nar .byte (1 : Int32) = (1 : Int32) from rfl) own_d11_8 (by decide) (by decide) (fun _ q => q) ⟨rfl, rfl, rfl⟩
set_option maxRecDepth 65536 in
set_option maxHeartbeats 4000000 in
theorem rm_i4_2 (l : Launch) (Z : State) (a0 : Array Value) (hw : ∀ d ∈ tables_1, d.before a0 Z = true) (a : Addr) (h : Heap) (n0 : Nat) (Ds : List Addr) (own_cs : CompactOn Z) (own_si : SiooOk Z) (own_u : U16ok Z) (ha : a ∈ Ds) {x0 x1 : Int32} (hok : ∀ c ∈ ([x0, x1] : List Int32), ¬ c < 0 ∧ ¬ (65535 : Int32) < c) {q : Addr} {kq : ClassId} (V_q : Arv Z h q kq .char (2 : Int32) ([Value.int x0, Value.int x1]) (.int 0)) {u1 u2 : Value} (E_a : Exa Z h a "java/lang/String") (F_v : Fld Z h a "java/lang/String" "value" "[B" u1) (F_c : Fld Z h a "java/lang/String" "coder" "B" u2) :
    Ctr l Z (⟨"java/lang/String", "<init>", "([CIILjava/lang/Void;)V"⟩ : MethodName) jdk_42_method_149_code 6 none [] ({ frames := 4, cells := 2, slots := 6, locals := 57 } : Room) #[.ref a, .ref q, .int (0 : Int32), .int (2 : Int32), .null] h n0 Ds (fun v h' Ds' => v = none ∧ Keep h h' [a] ∧ IsTx Z h' a [x0, x1] ∧ Ds = Ds') := by
  refine ctr_of (Ls := #[.val (.ref a), .val (.ref q), .val (.int (0 : Int32)), .val (.int (2 : Int32)), .val .null, .unset]) (plainFor_of_name own_pn0) (fun m => by first | (simp [entryFrame, mkF, argsToLocals, Value.category]; done) | rfl) ?_
  intro C hl hret hnm R
  subst hl
  obtain ⟨zc, S_zc, hzc⟩ := id own_cs
  replace R := R.aloadN (pc' := 1) (v := (.ref a)) own_d4_0 rfl rfl rfl
  replace R := R.initO (pc' := 4) (W := 0) (own_w21 hw) (own_w22 hw) (own_w23 hw) rfl own_d4_1 (by decide) rfl (by decide) rfl
  replace R := R.iloadN (pc' := 5) (v := (2 : Int32)) own_d4_4 rfl rfl
  replace R := R.ifY (pc' := 27) own_d4_5 (feq (by decide : ¬ ((2 : Int32) = (0 : Int32)))).2 (by decide) rfl
  replace R := R.getS (pc' := 30) (host := "") (Or.inl (own_w46 hw)) Via.refl S_zc own_d4_27 rfl
  replace R := R.ifN (pc' := 33) own_d4_30 (feq hzc).1 rfl
  replace R := R.aloadN (pc' := 34) (v := (.ref q)) own_d4_33 rfl rfl rfl
  replace R := R.iloadN (pc' := 35) (v := (0 : Int32)) own_d4_34 rfl rfl
  replace R := R.iloadN (pc' := 36) (v := (2 : Int32)) own_d4_35 rfl rfl
  obtain ⟨_, h1, _, ⟨r1, k1, rfl, K1, rfl, hB1⟩, R⟩ := R.callS (pc' := 39) (argsL := [(.ref q), (.int (0 : Int32)), (.int (2 : Int32))]) (rest := []) (W := 0) (own_w47 hw) (own_w48 hw) (own_w49 hw) (own_w50 hw) (by decide) (rm_c32 C.l Z a0 hw h n0 Ds own_u hok V_q) rfl (lenOf own_pd12 rfl) rfl rfl own_d4_36 (by decide) (by decide) (by decide) (by decide) rfl
  replace R := R.mono (ce' := 2) (sl' := 6) (by decide) (by decide)
  replace R := R.stk (S' := [(.ref r1)]) rfl
  rcases hB1 with ⟨hL, V1⟩ | V1
  · have hV := V1
    have K2 := ((Keep.refl h []).trans K1 all0)
    have F3 := E_a.keep K2
    have nabr1 : a ≠ r1 := Exa.neArv F3 hV (own_w11 hw)
    replace R := R.astore (pc' := 41) (l' := #[.val (.ref a), .val (.ref q), .val (.int (0 : Int32)), .val (.int (2 : Int32)), .val .null, .val (.ref r1)]) own_d4_39 rfl rfl rfl
    replace R := R.aloadN (pc' := 42) (v := (.ref a)) own_d4_41 rfl rfl rfl
    replace R := R.aload (pc' := 44) (v := (.ref r1)) own_d4_42 rfl rfl rfl
    replace R := R.iloadN (pc' := 45) (v := (2 : Int32)) own_d4_44 rfl rfl
    obtain ⟨_, _, _, ⟨rfl, rfl, rfl⟩, R⟩ := R.callS (pc' := 48) (argsL := [(.ref r1), (.int (2 : Int32))]) (rest := [(.ref a)]) (W := 1) (own_w54 hw) (own_w55 hw) (own_w49 hw) (own_w56 hw) (by decide) (rm_ca2_2 C.l Z a0 hw h1 n0 Ds hV) rfl (lenOf own_pd13 rfl) rfl rfl own_d4_45 (by decide) (by decide) (by decide) (by decide) rfl
    replace R := R.mono (ce' := 2) (sl' := 6) (by decide) (by decide)
    replace R := R.stk (S' := [(.int (0 : Int32)), (.ref a)]) rfl
    have K4 := ((Keep.refl h []).trans K1 all0)
    have F5 := F_c.keep K4 nin0
    have K6 := ((Keep.refl h []).trans K1 all0)
    have F7 := F_v.keep K6 nin0
    obtain ⟨h8, W8, R⟩ := R.putFN (pc' := 51) (ty := .byte) (v' := (.int (0 : Int32))) (own_w31 hw) Via.refl F5 F3 (Or.inr ⟨(own_w27 hw), rfl, hnm⟩) (own_w11 hw) (by decide) (rfl) (rfl) ha own_d4_48 rfl
    have F8 := F5.same W8
    have F9 := F7.other W8 (Or.inr (slot_ne (Or.inr (own_w26 hw)) (Or.inr (own_w27 hw)) (by decide) (t := (.array .byte)) (t' := .byte) (by decide) (by decide)))
    replace R := R.aloadN (pc' := 52) (v := (.ref a)) own_d4_51 rfl rfl rfl
    replace R := R.aload (pc' := 54) (v := (.ref r1)) own_d4_52 rfl rfl rfl
    have K10 := ((Keep.refl h1 [a]).trans (Keep.of_wr W8) (allS (Or.inl (List.mem_of_getElem? (i := 0) rfl)) all0))
    have F11 := F3.keep K10
    obtain ⟨h12, W12, R⟩ := R.putF (pc' := 57) (ty := (.array .byte)) (host := "") (Or.inl (own_w30 hw)) Via.refl F9 F11 (Or.inr ⟨(own_w26 hw), rfl, hnm⟩) (own_w11 hw) (by decide) rfl rfl ha own_d4_54 rfl
    have F12 := F9.same W12
    have F13 := F8.other W12 (Or.inr (slot_ne (Or.inr (own_w27 hw)) (Or.inr (own_w26 hw)) (by decide) (t := .byte) (t' := (.array .byte)) (by decide) (by decide)))
    have hK := ((((Keep.refl h [a]).trans K1 all0).trans (Keep.of_wr W8) (allS (Or.inl (List.mem_of_getElem? (i := 0) rfl)) all0)).trans (Keep.of_wr W12) (allS (Or.inl (List.mem_of_getElem? (i := 0) rfl)) all0))
    have K14 := ((Keep.refl h8 [a]).trans (Keep.of_wr W12) (allS (Or.inl (List.mem_of_getElem? (i := 0) rfl)) all0))
    have F15 := F11.keep K14
    have K16 := (((Keep.refl h1 [a]).trans (Keep.of_wr W8) (allS (Or.inl (List.mem_of_getElem? (i := 0) rfl)) all0)).trans (Keep.of_wr W12) (allS (Or.inl (List.mem_of_getElem? (i := 0) rfl)) all0))
    have F17 := hV.keep K16 (ninS (Ne.symm nabr1) nin0)
    exact R.retV (Ds' := Ds) hret own_d4_57 (by decide) (by decide) (fun _ q => q) ⟨rfl, hK, Or.inl ⟨F15, F13, hL, Nat.le_of_ble_eq_true rfl, r1, _, F12, F17⟩, rfl⟩
  · have hV := V1
    have K18 := ((Keep.refl h []).trans K1 all0)
    have F19 := E_a.keep K18
    have nabr1 : a ≠ r1 := Exa.neArv F19 hV (own_w11 hw)
    replace R := R.astore (pc' := 41) (l' := #[.val (.ref a), .val (.ref q), .val (.int (0 : Int32)), .val (.int (2 : Int32)), .val .null, .val (.ref r1)]) own_d4_39 rfl rfl rfl
    replace R := R.aloadN (pc' := 42) (v := (.ref a)) own_d4_41 rfl rfl rfl
    replace R := R.aload (pc' := 44) (v := (.ref r1)) own_d4_42 rfl rfl rfl
    replace R := R.iloadN (pc' := 45) (v := (2 : Int32)) own_d4_44 rfl rfl
    obtain ⟨_, _, _, ⟨rfl, rfl, rfl⟩, R⟩ := R.callS (pc' := 48) (argsL := [(.ref r1), (.int (2 : Int32))]) (rest := [(.ref a)]) (W := 1) (own_w54 hw) (own_w55 hw) (own_w49 hw) (own_w56 hw) (by decide) (rm_ca2_4 C.l Z a0 hw h1 n0 Ds hV) rfl (lenOf own_pd13 rfl) rfl rfl own_d4_45 (by decide) (by decide) (by decide) (by decide) rfl
    replace R := R.mono (ce' := 2) (sl' := 6) (by decide) (by decide)
    replace R := R.stk (S' := [(.int (1 : Int32)), (.ref a)]) rfl
    have K20 := ((Keep.refl h []).trans K1 all0)
    have F21 := F_c.keep K20 nin0
    have K22 := ((Keep.refl h []).trans K1 all0)
    have F23 := F_v.keep K22 nin0
    obtain ⟨h24, W24, R⟩ := R.putFN (pc' := 51) (ty := .byte) (v' := (.int (1 : Int32))) (own_w31 hw) Via.refl F21 F19 (Or.inr ⟨(own_w27 hw), rfl, hnm⟩) (own_w11 hw) (by decide) (rfl) (rfl) ha own_d4_48 rfl
    have F24 := F21.same W24
    have F25 := F23.other W24 (Or.inr (slot_ne (Or.inr (own_w26 hw)) (Or.inr (own_w27 hw)) (by decide) (t := (.array .byte)) (t' := .byte) (by decide) (by decide)))
    replace R := R.aloadN (pc' := 52) (v := (.ref a)) own_d4_51 rfl rfl rfl
    replace R := R.aload (pc' := 54) (v := (.ref r1)) own_d4_52 rfl rfl rfl
    have K26 := ((Keep.refl h1 [a]).trans (Keep.of_wr W24) (allS (Or.inl (List.mem_of_getElem? (i := 0) rfl)) all0))
    have F27 := F19.keep K26
    obtain ⟨h28, W28, R⟩ := R.putF (pc' := 57) (ty := (.array .byte)) (host := "") (Or.inl (own_w30 hw)) Via.refl F25 F27 (Or.inr ⟨(own_w26 hw), rfl, hnm⟩) (own_w11 hw) (by decide) rfl rfl ha own_d4_54 rfl
    have F28 := F25.same W28
    have F29 := F24.other W28 (Or.inr (slot_ne (Or.inr (own_w27 hw)) (Or.inr (own_w26 hw)) (by decide) (t := .byte) (t' := (.array .byte)) (by decide) (by decide)))
    have hK := ((((Keep.refl h [a]).trans K1 all0).trans (Keep.of_wr W24) (allS (Or.inl (List.mem_of_getElem? (i := 0) rfl)) all0)).trans (Keep.of_wr W28) (allS (Or.inl (List.mem_of_getElem? (i := 0) rfl)) all0))
    have K30 := ((Keep.refl h24 [a]).trans (Keep.of_wr W28) (allS (Or.inl (List.mem_of_getElem? (i := 0) rfl)) all0))
    have F31 := F27.keep K30
    have K32 := (((Keep.refl h1 [a]).trans (Keep.of_wr W24) (allS (Or.inl (List.mem_of_getElem? (i := 0) rfl)) all0)).trans (Keep.of_wr W28) (allS (Or.inl (List.mem_of_getElem? (i := 0) rfl)) all0))
    have F33 := hV.keep K32 (ninS (Ne.symm nabr1) nin0)
    exact R.retV (Ds' := Ds) hret own_d4_57 (by decide) (by decide) (fun _ q => q) ⟨rfl, hK, Or.inr ⟨F31, F29, hok, Nat.le_of_ble_eq_true rfl, r1, _, F28, F33⟩, rfl⟩
set_option maxRecDepth 65536 in
set_option maxHeartbeats 4000000 in
theorem rm_i1_2 (l : Launch) (Z : State) (a0 : Array Value) (hw : ∀ d ∈ tables_1, d.before a0 Z = true) (a : Addr) (h : Heap) (n0 : Nat) (Ds : List Addr) (own_cs : CompactOn Z) (own_si : SiooOk Z) (own_u : U16ok Z) (ha : a ∈ Ds) {x0 x1 : Int32} (hok : ∀ c ∈ ([x0, x1] : List Int32), ¬ c < 0 ∧ ¬ (65535 : Int32) < c) {q : Addr} {kq : ClassId} (V_q : Arv Z h q kq .char (2 : Int32) ([Value.int x0, Value.int x1]) (.int 0)) {u1 u2 : Value} (E_a : Exa Z h a "java/lang/String") (F_v : Fld Z h a "java/lang/String" "value" "[B" u1) (F_c : Fld Z h a "java/lang/String" "coder" "B" u2) :
    Ctr l Z (⟨"java/lang/String", "<init>", "([C)V"⟩ : MethodName) jdk_42_method_3_code 2 none [] ({ frames := 5, cells := 2, slots := 6, locals := 74 } : Room) #[.ref a, .ref q] h n0 Ds (fun v h' Ds' => v = none ∧ Keep h h' [a] ∧ IsTx Z h' a [x0, x1] ∧ Ds = Ds') := by
  refine ctr_of (Ls := #[.val (.ref a), .val (.ref q)]) (plainFor_of_name own_pn0) (fun m => by first | (simp [entryFrame, mkF, argsToLocals, Value.category]; done) | rfl) ?_
  intro C hl hret hnm R
  subst hl
  replace R := R.aloadN (pc' := 1) (v := (.ref a)) own_d3_0 rfl rfl rfl
  replace R := R.aloadN (pc' := 2) (v := (.ref q)) own_d3_1 rfl rfl rfl
  replace R := R.iconst (pc' := 3) (z := (0 : Int32)) own_d3_2 rfl rfl
  replace R := R.aloadN (pc' := 4) (v := (.ref q)) own_d3_3 rfl rfl rfl
  replace R := R.arraylength (pc' := 5) V_q own_d3_4 rfl
  replace R := R.anull (pc' := 6) own_d3_5 rfl
  obtain ⟨_, h1, _, ⟨rfl, K1, T1, rfl⟩, R⟩ := R.callI (pc' := 9) (a := a) (argsL := [(.ref q), (.int (0 : Int32)), (.int (2 : Int32)), .null]) (rest := []) (W := 0) rfl (own_w17 hw) (own_w18 hw) (own_w12 hw) (own_w20 hw) (by decide) (rm_i4_2 C.l Z a0 hw a h n0 Ds own_cs own_si own_u ha (x0 := x0) (x1 := x1) hok V_q E_a F_v F_c) rfl (lenOf own_pd7 rfl) rfl rfl own_d3_6 (by decide) (by decide) (by decide) (by decide) rfl
  replace R := R.mono (ce' := 2) (sl' := 6) (by decide) (by decide)
  replace R := R.stk (S' := []) rfl
  have hK := ((Keep.refl h [a]).trans K1 (allS (Or.inl (List.mem_of_getElem? (i := 0) rfl)) all0))
  exact R.retV (Ds' := Ds) hret own_d3_9 (by decide) (by decide) (fun _ q => q) ⟨rfl, hK, T1, rfl⟩
set_option maxRecDepth 65536 in
set_option maxHeartbeats 4000000 in
theorem rm_nbl3 (l : Launch) (Z : State) (a0 : Array Value) (hw : ∀ d ∈ tables_1, d.before a0 Z = true) (h : Heap) (n0 : Nat) (Ds : List Addr) :
    Ctr l Z (⟨"java/lang/StringUTF16", "newBytesLength", "(I)I"⟩ : MethodName) jdk_52_method_3_code 1 (some .int) [] ({ frames := 0, cells := 0, slots := 0, locals := 0 } : Room) #[.int (3 : Int32)] h n0 Ds (fun v h' Ds' => v = some (.int (6 : Int32)) ∧ h = h' ∧ Ds = Ds') := by
  refine ctr_of (Ls := #[.val (.int (3 : Int32))]) (plainFor_of_name own_pn3) (fun m => by first | (simp [entryFrame, mkF, argsToLocals, Value.category]; done) | rfl) ?_
  intro C hl hret hnm R
  subst hl
  replace R := R.iloadN (pc' := 1) (v := (3 : Int32)) own_d22_0 rfl rfl
  replace R := R.ifY (pc' := 12) own_d22_1 (flt (by decide : ¬ ((3 : Int32) < (0 : Int32)))).2.1 (by decide) rfl
  replace R := R.iloadN (pc' := 13) (v := (3 : Int32)) own_d22_12 rfl rfl
  replace R := R.ldcI (pc' := 15) (own_w97 hw) own_d22_13 rfl
  replace R := R.icmpY (pc' := 55) own_d22_15 (tlt (by decide : (3 : Int32) < (1073741823 : Int32))).1 (by decide) rfl
  replace R := R.iloadN (pc' := 56) (v := (3 : Int32)) own_d22_55 rfl rfl
  replace R := R.iconst (pc' := 57) (z := (1 : Int32)) own_d22_56 rfl rfl
  replace R := R.ishl (pc' := 58) own_d22_57 rfl
  replace R := R.stk (S' := [(.int (6 : Int32))]) rfl
  exact R.retI (Ds' := Ds) hret own_d22_58 (by decide) (by decide) (fun _ q => q) ⟨rfl, rfl, rfl⟩
set_option maxRecDepth 65536 in
set_option maxHeartbeats 4000000 in
theorem rm_nbf3 (l : Launch) (Z : State) (a0 : Array Value) (hw : ∀ d ∈ tables_1, d.before a0 Z = true) (h : Heap) (n0 : Nat) (Ds : List Addr) :
    Ctr l Z (⟨"java/lang/StringUTF16", "newBytesFor", "(I)[B"⟩ : MethodName) jdk_52_method_2_code 1 (some (.array .byte)) [] ({ frames := 1, cells := 1, slots := 6, locals := 12 } : Room) #[.int (3 : Int32)] h n0 Ds (fun v h' Ds' => ∃ (r : Addr) (kb : ClassId), v = some (.ref r) ∧ Keep h h' [] ∧ r = h.size ∧ Arv Z h' r kb .byte (6 : Int32) [(.int (0 : Int32)), (.int (0 : Int32)), (.int (0 : Int32)), (.int (0 : Int32)), (.int (0 : Int32)), (.int (0 : Int32))] (.int 0) ∧ r :: Ds = Ds') := by
  refine ctr_of (Ls := #[.val (.int (3 : Int32))]) (plainFor_of_name own_pn3) (fun m => by first | (simp [entryFrame, mkF, argsToLocals, Value.category]; done) | rfl) ?_
  intro C hl hret hnm R
  subst hl
  replace R := R.iloadN (pc' := 1) (v := (3 : Int32)) own_d21_0 rfl rfl
  obtain ⟨_, _, _, ⟨rfl, rfl, rfl⟩, R⟩ := R.callS (pc' := 4) (argsL := [(.int (3 : Int32))]) (rest := []) (W := 0) (own_w94 hw) (own_w95 hw) (own_w49 hw) (own_w96 hw) (by decide) (rm_nbl3 C.l Z a0 hw h n0 Ds) rfl (lenOf own_pd8 rfl) rfl rfl own_d21_1 (by decide) (by decide) (by decide) (by decide) rfl
  replace R := R.mono (ce' := 0) (sl' := 0) (by decide) (by decide)
  replace R := R.stk (S' := [(.int (6 : Int32))]) rfl
  obtain ⟨h1, b1, k1, g1, E1, V1, R⟩ := R.newP (pc' := 6) (aty := .byte) (cap := 6) (own_w25 hw) own_d21_4 (by decide) (by decide) (by decide) (by decide) (by decide) rfl
  have V1p : Arv Z h1 b1 k1 .byte (6 : Int32) [(.int (0 : Int32)), (.int (0 : Int32)), (.int (0 : Int32)), (.int (0 : Int32)), (.int (0 : Int32)), (.int (0 : Int32))] (.int (0 : Int32)) := V1.pad (pad_rep [] (.int (0 : Int32)) 6)
  have hK := ((Keep.refl h []).trans ((Keep.refl h []).ext E1) all0)
  exact R.retA (Ds' := b1 :: Ds) hret rfl rfl rfl own_d21_6 (by decide) (by decide) (fun _ q => q) ⟨b1, _, rfl, hK, g1, V1p, rfl⟩
set_option maxRecDepth 65536 in
set_option maxHeartbeats 4000000 in
theorem rm_tb3 (l : Launch) (Z : State) (a0 : Array Value) (hw : ∀ d ∈ tables_1, d.before a0 Z = true) (h : Heap) (n0 : Nat) (Ds : List Addr) (own_u : U16ok Z) {x0 x1 x2 : Int32} (hok : ∀ c ∈ ([x0, x1, x2] : List Int32), ¬ c < 0 ∧ ¬ (65535 : Int32) < c) {q : Addr} {kq : ClassId} (V_q : Arv Z h q kq .char (3 : Int32) ([Value.int x0, Value.int x1, Value.int x2]) (.int 0)) :
    Ctr l Z (⟨"java/lang/StringUTF16", "toBytes", "([CII)[B"⟩ : MethodName) jdk_52_method_14_code 5 (some (.array .byte)) [] ({ frames := 2, cells := 1, slots := 6, locals := 24 } : Room) #[.ref q, .int (0 : Int32), .int (3 : Int32)] h n0 Ds (fun v h' Ds' => ∃ (r : Addr) (kb : ClassId), v = some (.ref r) ∧ Keep h h' [] ∧ Arv Z h' r kb .byte (6 : Int32) [(.int (StrChars.lo8 x0)), (.int (StrChars.hi8 x0)), (.int (StrChars.lo8 x1)), (.int (StrChars.hi8 x1)), (.int (StrChars.lo8 x2)), (.int (StrChars.hi8 x2))] (.int 0) ∧ Ds = Ds') := by
  refine ctr_of (Ls := #[.val (.ref q), .val (.int (0 : Int32)), .val (.int (3 : Int32)), .unset, .unset]) (plainFor_of_name own_pn3) (fun m => by first | (simp [entryFrame, mkF, argsToLocals, Value.category]; done) | rfl) ?_
  intro C hl hret hnm R
  subst hl
  have hql : q < h.size := V_q.lt
  replace R := R.iloadN (pc' := 1) (v := (3 : Int32)) own_d20_0 rfl rfl
  obtain ⟨_, h1, _, ⟨r1, k1, rfl, K1, g1, V1, rfl⟩, R⟩ := R.callS (pc' := 4) (argsL := [(.int (3 : Int32))]) (rest := []) (W := 0) (own_w91 hw) (own_w92 hw) (own_w49 hw) (own_w93 hw) (by decide) (rm_nbf3 C.l Z a0 hw h n0 Ds) rfl (lenOf own_pd9 rfl) rfl rfl own_d20_1 (by decide) (by decide) (by decide) (by decide) rfl
  have nqb : q ≠ r1 := fun e => by rw [e, g1] at hql; exact Nat.lt_irrefl _ hql
  replace R := R.mono (ce' := 1) (sl' := 6) (by decide) (by decide)
  replace R := R.stk (S' := [(.ref r1)]) rfl
  replace R := R.astoreN (pc' := 5) (l' := #[.val (.ref q), .val (.int (0 : Int32)), .val (.int (3 : Int32)), .val (.ref r1), .unset]) own_d20_4 rfl rfl rfl
  replace R := R.iconst (pc' := 6) (z := (0 : Int32)) own_d20_5 rfl rfl
  replace R := R.istore (pc' := 8) (l' := #[.val (.ref q), .val (.int (0 : Int32)), .val (.int (3 : Int32)), .val (.ref r1), .val (.int (0 : Int32))]) own_d20_6 rfl rfl
  replace R := R.iload (pc' := 10) (v := (0 : Int32)) own_d20_8 rfl rfl
  replace R := R.iloadN (pc' := 11) (v := (3 : Int32)) own_d20_10 rfl rfl
  replace R := R.icmpN (pc' := 14) own_d20_11 (tlt (by decide : (0 : Int32) < (3 : Int32))).2.1 rfl
  replace R := R.aloadN (pc' := 15) (v := (.ref r1)) own_d20_14 rfl rfl rfl
  replace R := R.iload (pc' := 17) (v := (0 : Int32)) own_d20_15 rfl rfl
  replace R := R.aloadN (pc' := 18) (v := (.ref q)) own_d20_17 rfl rfl rfl
  replace R := R.iloadN (pc' := 19) (v := (0 : Int32)) own_d20_18 rfl rfl
  have K2 := ((Keep.refl h []).trans K1 all0)
  have F3 := V_q.keep K2 nin0
  replace R := R.caload (pc' := 20) (v := (.int x0)) F3 ⟨by decide, by decide⟩ rfl own_d20_19 rfl
  obtain ⟨_, h4, _, ⟨rfl, K4, V4, rfl⟩, R⟩ := R.callS (pc' := 23) (argsL := [(.ref r1), (.int (0 : Int32)), (.int x0)]) (rest := []) (W := 0) (own_w98 hw) (own_w99 hw) (own_w49 hw) (own_w100 hw) (by decide) (rm_pch C.l Z a0 hw r1 (0 : Int32) x0 h1 n0 (r1 :: Ds) own_u (k := 0) (m := 3) rfl (by decide) (by decide) rfl (List.mem_of_getElem? (i := 0) rfl) V1) rfl (lenOf own_pd10 rfl) rfl rfl own_d20_20 (by decide) (by decide) (by decide) (by decide) rfl
  have V4p : Arv Z h4 r1 k1 .byte (6 : Int32) [(.int (StrChars.lo8 x0)), (.int (StrChars.hi8 x0)), (.int (0 : Int32)), (.int (0 : Int32)), (.int (0 : Int32)), (.int (0 : Int32))] (.int 0) := V4
  replace R := R.mono (ce' := 1) (sl' := 6) (by decide) (by decide)
  replace R := R.stk (S' := []) rfl
  replace R := R.iinc (pc' := 26) (l' := #[.val (.ref q), .val (.int (1 : Int32)), .val (.int (3 : Int32)), .val (.ref r1), .val (.int (0 : Int32))]) own_d20_23 rfl rfl rfl
  replace R := R.iinc (pc' := 29) (l' := #[.val (.ref q), .val (.int (1 : Int32)), .val (.int (3 : Int32)), .val (.ref r1), .val (.int (1 : Int32))]) own_d20_26 rfl rfl rfl
  replace R := R.goto (pc' := 8) own_d20_29 (by decide) rfl
  replace R := R.iload (pc' := 10) (v := (1 : Int32)) own_d20_8 rfl rfl
  replace R := R.iloadN (pc' := 11) (v := (3 : Int32)) own_d20_10 rfl rfl
  replace R := R.icmpN (pc' := 14) own_d20_11 (tlt (by decide : (1 : Int32) < (3 : Int32))).2.1 rfl
  replace R := R.aloadN (pc' := 15) (v := (.ref r1)) own_d20_14 rfl rfl rfl
  replace R := R.iload (pc' := 17) (v := (1 : Int32)) own_d20_15 rfl rfl
  replace R := R.aloadN (pc' := 18) (v := (.ref q)) own_d20_17 rfl rfl rfl
  replace R := R.iloadN (pc' := 19) (v := (1 : Int32)) own_d20_18 rfl rfl
  have K5 := ((Keep.refl h1 [r1]).trans K4 (allS (Or.inl (List.mem_of_getElem? (i := 0) rfl)) all0))
  have F6 := F3.keep K5 (ninS nqb nin0)
  replace R := R.caload (pc' := 20) (v := (.int x1)) F6 ⟨by decide, by decide⟩ rfl own_d20_19 rfl
  obtain ⟨_, h7, _, ⟨rfl, K7, V7, rfl⟩, R⟩ := R.callS (pc' := 23) (argsL := [(.ref r1), (.int (1 : Int32)), (.int x1)]) (rest := []) (W := 0) (own_w98 hw) (own_w99 hw) (own_w49 hw) (own_w100 hw) (by decide) (rm_pch C.l Z a0 hw r1 (1 : Int32) x1 h4 n0 (r1 :: Ds) own_u (k := 1) (m := 3) rfl (by decide) (by decide) rfl (List.mem_of_getElem? (i := 0) rfl) V4p) rfl (lenOf own_pd10 rfl) rfl rfl own_d20_20 (by decide) (by decide) (by decide) (by decide) rfl
  have V7p : Arv Z h7 r1 k1 .byte (6 : Int32) [(.int (StrChars.lo8 x0)), (.int (StrChars.hi8 x0)), (.int (StrChars.lo8 x1)), (.int (StrChars.hi8 x1)), (.int (0 : Int32)), (.int (0 : Int32))] (.int 0) := V7
  replace R := R.mono (ce' := 1) (sl' := 6) (by decide) (by decide)
  replace R := R.stk (S' := []) rfl
  replace R := R.iinc (pc' := 26) (l' := #[.val (.ref q), .val (.int (2 : Int32)), .val (.int (3 : Int32)), .val (.ref r1), .val (.int (1 : Int32))]) own_d20_23 rfl rfl rfl
  replace R := R.iinc (pc' := 29) (l' := #[.val (.ref q), .val (.int (2 : Int32)), .val (.int (3 : Int32)), .val (.ref r1), .val (.int (2 : Int32))]) own_d20_26 rfl rfl rfl
  replace R := R.goto (pc' := 8) own_d20_29 (by decide) rfl
  replace R := R.iload (pc' := 10) (v := (2 : Int32)) own_d20_8 rfl rfl
  replace R := R.iloadN (pc' := 11) (v := (3 : Int32)) own_d20_10 rfl rfl
  replace R := R.icmpN (pc' := 14) own_d20_11 (tlt (by decide : (2 : Int32) < (3 : Int32))).2.1 rfl
  replace R := R.aloadN (pc' := 15) (v := (.ref r1)) own_d20_14 rfl rfl rfl
  replace R := R.iload (pc' := 17) (v := (2 : Int32)) own_d20_15 rfl rfl
  replace R := R.aloadN (pc' := 18) (v := (.ref q)) own_d20_17 rfl rfl rfl
  replace R := R.iloadN (pc' := 19) (v := (2 : Int32)) own_d20_18 rfl rfl
  have K8 := ((Keep.refl h4 [r1]).trans K7 (allS (Or.inl (List.mem_of_getElem? (i := 0) rfl)) all0))
  have F9 := F6.keep K8 (ninS nqb nin0)
  replace R := R.caload (pc' := 20) (v := (.int x2)) F9 ⟨by decide, by decide⟩ rfl own_d20_19 rfl
  obtain ⟨_, h10, _, ⟨rfl, K10, V10, rfl⟩, R⟩ := R.callS (pc' := 23) (argsL := [(.ref r1), (.int (2 : Int32)), (.int x2)]) (rest := []) (W := 0) (own_w98 hw) (own_w99 hw) (own_w49 hw) (own_w100 hw) (by decide) (rm_pch C.l Z a0 hw r1 (2 : Int32) x2 h7 n0 (r1 :: Ds) own_u (k := 2) (m := 3) rfl (by decide) (by decide) rfl (List.mem_of_getElem? (i := 0) rfl) V7p) rfl (lenOf own_pd10 rfl) rfl rfl own_d20_20 (by decide) (by decide) (by decide) (by decide) rfl
  have V10p : Arv Z h10 r1 k1 .byte (6 : Int32) [(.int (StrChars.lo8 x0)), (.int (StrChars.hi8 x0)), (.int (StrChars.lo8 x1)), (.int (StrChars.hi8 x1)), (.int (StrChars.lo8 x2)), (.int (StrChars.hi8 x2))] (.int 0) := V10
  replace R := R.mono (ce' := 1) (sl' := 6) (by decide) (by decide)
  replace R := R.stk (S' := []) rfl
  replace R := R.iinc (pc' := 26) (l' := #[.val (.ref q), .val (.int (3 : Int32)), .val (.int (3 : Int32)), .val (.ref r1), .val (.int (2 : Int32))]) own_d20_23 rfl rfl rfl
  replace R := R.iinc (pc' := 29) (l' := #[.val (.ref q), .val (.int (3 : Int32)), .val (.int (3 : Int32)), .val (.ref r1), .val (.int (3 : Int32))]) own_d20_26 rfl rfl rfl
  replace R := R.goto (pc' := 8) own_d20_29 (by decide) rfl
  replace R := R.iload (pc' := 10) (v := (3 : Int32)) own_d20_8 rfl rfl
  replace R := R.iloadN (pc' := 11) (v := (3 : Int32)) own_d20_10 rfl rfl
  replace R := R.icmpY (pc' := 32) own_d20_11 (flt (by decide : ¬ ((3 : Int32) < (3 : Int32)))).2.1 (by decide) rfl
  replace R := R.aloadN (pc' := 33) (v := (.ref r1)) own_d20_32 rfl rfl rfl
  have hK := (((((Keep.refl h []).trans K1 all0).trans K4 (allS (Or.inr (by rw [g1]; exact (Nat.le_refl _))) all0)).trans K7 (allS (Or.inr (by rw [g1]; exact (Nat.le_refl _))) all0)).trans K10 (allS (Or.inr (by rw [g1]; exact (Nat.le_refl _))) all0))
  exact R.retA (Ds' := Ds) hret rfl rfl rfl own_d20_33 (by decide) (by decide) (fun _ q => (fun q => (List.mem_cons_of_mem _ q)) q) ⟨r1, _, rfl, hK, V10p, rfl⟩
set_option maxRecDepth 65536 in
set_option maxHeartbeats 4000000 in
theorem rm_c53 (l : Launch) (Z : State) (a0 : Array Value) (hw : ∀ d ∈ tables_1, d.before a0 Z = true) (h : Heap) (n0 : Nat) (Ds : List Addr) {x0 x1 x2 : Int32} (hok : ∀ c ∈ ([x0, x1, x2] : List Int32), ¬ c < 0 ∧ ¬ (65535 : Int32) < c) {q : Addr} {kq : ClassId} (V_q : Arv Z h q kq .char (3 : Int32) ([Value.int x0, Value.int x1, Value.int x2]) (.int 0)) {b : Addr} {kb : ClassId} (hb : b ∈ Ds) (nqb : q ≠ b) (V_b : Arv Z h b kb .byte (3 : Int32) [(.int (0 : Int32)), (.int (0 : Int32)), (.int (0 : Int32))] (.int 0)) :
    Ctr l Z (⟨"java/lang/StringUTF16", "compress", "([CI[BII)I"⟩ : MethodName) jdk_52_method_21_code 7 (some .int) [] ({ frames := 0, cells := 0, slots := 0, locals := 0 } : Room) #[.ref q, .int (0 : Int32), .ref b, .int (0 : Int32), .int (3 : Int32)] h n0 Ds (fun v h' Ds' => Keep h h' [b] ∧ Ds = Ds' ∧ ((v = some (.int (3 : Int32)) ∧ (∀ c ∈ ([x0, x1, x2] : List Int32), ¬ c < 0 ∧ ¬ (255 : Int32) < c) ∧ Arv Z h' b kb .byte (3 : Int32) [(.int x0.toInt8.toInt32), (.int x1.toInt8.toInt32), (.int x2.toInt8.toInt32)] (.int 0)) ∨ (v = some (.int (0 : Int32)) ∧ (255 : Int32) < x0) ∨ (v = some (.int (1 : Int32)) ∧ (255 : Int32) < x1) ∨ (v = some (.int (2 : Int32)) ∧ (255 : Int32) < x2))) := by
  refine ctr_of (Ls := #[.val (.ref q), .val (.int (0 : Int32)), .val (.ref b), .val (.int (0 : Int32)), .val (.int (3 : Int32)), .unset, .unset]) (plainFor_of_name own_pn3) (fun m => by first | (simp [entryFrame, mkF, argsToLocals, Value.category]; done) | rfl) ?_
  intro C hl hret hnm R
  subst hl
  replace R := R.iconst (pc' := 1) (z := (0 : Int32)) own_d10_0 rfl rfl
  replace R := R.istore (pc' := 3) (l' := #[.val (.ref q), .val (.int (0 : Int32)), .val (.ref b), .val (.int (0 : Int32)), .val (.int (3 : Int32)), .val (.int (0 : Int32)), .unset]) own_d10_1 rfl rfl
  replace R := R.iload (pc' := 5) (v := (0 : Int32)) own_d10_3 rfl rfl
  replace R := R.iload (pc' := 7) (v := (3 : Int32)) own_d10_5 rfl rfl
  replace R := R.icmpN (pc' := 10) own_d10_7 (tlt (by decide : (0 : Int32) < (3 : Int32))).2.1 rfl
  replace R := R.aloadN (pc' := 11) (v := (.ref q)) own_d10_10 rfl rfl rfl
  replace R := R.iloadN (pc' := 12) (v := (0 : Int32)) own_d10_11 rfl rfl
  replace R := R.caload (pc' := 13) (v := (.int x0)) V_q ⟨by decide, by decide⟩ rfl own_d10_12 rfl
  replace R := R.istore (pc' := 15) (l' := #[.val (.ref q), .val (.int (0 : Int32)), .val (.ref b), .val (.int (0 : Int32)), .val (.int (3 : Int32)), .val (.int (0 : Int32)), .val (.int x0)]) own_d10_13 rfl rfl
  replace R := R.iload (pc' := 17) (v := x0) own_d10_15 rfl rfl
  replace R := R.sipush (pc' := 20) (z := (255 : Int32)) own_d10_17 rfl rfl
  by_cases hc1 : (255 : Int32) < x0
  · replace R := R.icmpN (pc' := 23) own_d10_20 (tlt hc1).2.2.2 rfl
    replace R := R.iload (pc' := 25) (v := (0 : Int32)) own_d10_23 rfl rfl
    have hK : Keep h h [b] := Keep.refl h [b]
    exact R.retI (Ds' := Ds) hret own_d10_25 (by decide) (by decide) (fun _ q => q) ⟨hK, rfl, Or.inr (Or.inl ⟨rfl, hc1⟩)⟩
  · replace R := R.icmpY (pc' := 26) own_d10_20 (flt hc1).2.2.2 (by decide) rfl
    replace R := R.aloadN (pc' := 27) (v := (.ref b)) own_d10_26 rfl rfl rfl
    replace R := R.iloadN (pc' := 28) (v := (0 : Int32)) own_d10_27 rfl rfl
    replace R := R.iload (pc' := 30) (v := x0) own_d10_28 rfl rfl
    replace R := R.i2b (pc' := 31) own_d10_30 rfl
    obtain ⟨h2, K2, V2, R⟩ := R.bastore (pc' := 32) V_b ⟨by decide, by decide⟩ 0 rfl (Nat.le_of_ble_eq_true rfl) hb own_d10_31 rfl
    have V2p : Arv Z h2 b kb .byte (3 : Int32) [(.int x0.toInt8.toInt32), (.int (0 : Int32)), (.int (0 : Int32))] (.int 0) := by
      have q := V2
      rw [nar_i2b x0] at q
      exact q
    replace R := R.iinc (pc' := 35) (l' := #[.val (.ref q), .val (.int (1 : Int32)), .val (.ref b), .val (.int (0 : Int32)), .val (.int (3 : Int32)), .val (.int (0 : Int32)), .val (.int x0)]) own_d10_32 rfl rfl rfl
    replace R := R.iinc (pc' := 38) (l' := #[.val (.ref q), .val (.int (1 : Int32)), .val (.ref b), .val (.int (1 : Int32)), .val (.int (3 : Int32)), .val (.int (0 : Int32)), .val (.int x0)]) own_d10_35 rfl rfl rfl
    replace R := R.iinc (pc' := 41) (l' := #[.val (.ref q), .val (.int (1 : Int32)), .val (.ref b), .val (.int (1 : Int32)), .val (.int (3 : Int32)), .val (.int (1 : Int32)), .val (.int x0)]) own_d10_38 rfl rfl rfl
    replace R := R.goto (pc' := 3) own_d10_41 (by decide) rfl
    replace R := R.iload (pc' := 5) (v := (1 : Int32)) own_d10_3 rfl rfl
    replace R := R.iload (pc' := 7) (v := (3 : Int32)) own_d10_5 rfl rfl
    replace R := R.icmpN (pc' := 10) own_d10_7 (tlt (by decide : (1 : Int32) < (3 : Int32))).2.1 rfl
    replace R := R.aloadN (pc' := 11) (v := (.ref q)) own_d10_10 rfl rfl rfl
    replace R := R.iloadN (pc' := 12) (v := (1 : Int32)) own_d10_11 rfl rfl
    have K3 := ((Keep.refl h [b]).trans K2 (allS (Or.inl (List.mem_of_getElem? (i := 0) rfl)) all0))
    have F4 := V_q.keep K3 (ninS nqb nin0)
    replace R := R.caload (pc' := 13) (v := (.int x1)) F4 ⟨by decide, by decide⟩ rfl own_d10_12 rfl
    replace R := R.istore (pc' := 15) (l' := #[.val (.ref q), .val (.int (1 : Int32)), .val (.ref b), .val (.int (1 : Int32)), .val (.int (3 : Int32)), .val (.int (1 : Int32)), .val (.int x1)]) own_d10_13 rfl rfl
    replace R := R.iload (pc' := 17) (v := x1) own_d10_15 rfl rfl
    replace R := R.sipush (pc' := 20) (z := (255 : Int32)) own_d10_17 rfl rfl
    by_cases hc5 : (255 : Int32) < x1
    · replace R := R.icmpN (pc' := 23) own_d10_20 (tlt hc5).2.2.2 rfl
      replace R := R.iload (pc' := 25) (v := (1 : Int32)) own_d10_23 rfl rfl
      have hK : Keep h h2 [b] := ((Keep.refl h [b]).trans K2 (allS (Or.inl (List.mem_of_getElem? (i := 0) rfl)) all0))
      exact R.retI (Ds' := Ds) hret own_d10_25 (by decide) (by decide) (fun _ q => q) ⟨hK, rfl, Or.inr (Or.inr (Or.inl ⟨rfl, hc5⟩))⟩
    · replace R := R.icmpY (pc' := 26) own_d10_20 (flt hc5).2.2.2 (by decide) rfl
      replace R := R.aloadN (pc' := 27) (v := (.ref b)) own_d10_26 rfl rfl rfl
      replace R := R.iloadN (pc' := 28) (v := (1 : Int32)) own_d10_27 rfl rfl
      replace R := R.iload (pc' := 30) (v := x1) own_d10_28 rfl rfl
      replace R := R.i2b (pc' := 31) own_d10_30 rfl
      obtain ⟨h6, K6, V6, R⟩ := R.bastore (pc' := 32) V2p ⟨by decide, by decide⟩ 1 rfl (Nat.le_of_ble_eq_true rfl) hb own_d10_31 rfl
      have V6p : Arv Z h6 b kb .byte (3 : Int32) [(.int x0.toInt8.toInt32), (.int x1.toInt8.toInt32), (.int (0 : Int32))] (.int 0) := by
        have q := V6
        rw [nar_i2b x1] at q
        exact q
      replace R := R.iinc (pc' := 35) (l' := #[.val (.ref q), .val (.int (2 : Int32)), .val (.ref b), .val (.int (1 : Int32)), .val (.int (3 : Int32)), .val (.int (1 : Int32)), .val (.int x1)]) own_d10_32 rfl rfl rfl
      replace R := R.iinc (pc' := 38) (l' := #[.val (.ref q), .val (.int (2 : Int32)), .val (.ref b), .val (.int (2 : Int32)), .val (.int (3 : Int32)), .val (.int (1 : Int32)), .val (.int x1)]) own_d10_35 rfl rfl rfl
      replace R := R.iinc (pc' := 41) (l' := #[.val (.ref q), .val (.int (2 : Int32)), .val (.ref b), .val (.int (2 : Int32)), .val (.int (3 : Int32)), .val (.int (2 : Int32)), .val (.int x1)]) own_d10_38 rfl rfl rfl
      replace R := R.goto (pc' := 3) own_d10_41 (by decide) rfl
      replace R := R.iload (pc' := 5) (v := (2 : Int32)) own_d10_3 rfl rfl
      replace R := R.iload (pc' := 7) (v := (3 : Int32)) own_d10_5 rfl rfl
      replace R := R.icmpN (pc' := 10) own_d10_7 (tlt (by decide : (2 : Int32) < (3 : Int32))).2.1 rfl
      replace R := R.aloadN (pc' := 11) (v := (.ref q)) own_d10_10 rfl rfl rfl
      replace R := R.iloadN (pc' := 12) (v := (2 : Int32)) own_d10_11 rfl rfl
      have K7 := ((Keep.refl h2 [b]).trans K6 (allS (Or.inl (List.mem_of_getElem? (i := 0) rfl)) all0))
      have F8 := F4.keep K7 (ninS nqb nin0)
      replace R := R.caload (pc' := 13) (v := (.int x2)) F8 ⟨by decide, by decide⟩ rfl own_d10_12 rfl
      replace R := R.istore (pc' := 15) (l' := #[.val (.ref q), .val (.int (2 : Int32)), .val (.ref b), .val (.int (2 : Int32)), .val (.int (3 : Int32)), .val (.int (2 : Int32)), .val (.int x2)]) own_d10_13 rfl rfl
      replace R := R.iload (pc' := 17) (v := x2) own_d10_15 rfl rfl
      replace R := R.sipush (pc' := 20) (z := (255 : Int32)) own_d10_17 rfl rfl
      by_cases hc9 : (255 : Int32) < x2
      · replace R := R.icmpN (pc' := 23) own_d10_20 (tlt hc9).2.2.2 rfl
        replace R := R.iload (pc' := 25) (v := (2 : Int32)) own_d10_23 rfl rfl
        have hK : Keep h h6 [b] := (((Keep.refl h [b]).trans K2 (allS (Or.inl (List.mem_of_getElem? (i := 0) rfl)) all0)).trans K6 (allS (Or.inl (List.mem_of_getElem? (i := 0) rfl)) all0))
        exact R.retI (Ds' := Ds) hret own_d10_25 (by decide) (by decide) (fun _ q => q) ⟨hK, rfl, Or.inr (Or.inr (Or.inr (⟨rfl, hc9⟩)))⟩
      · replace R := R.icmpY (pc' := 26) own_d10_20 (flt hc9).2.2.2 (by decide) rfl
        replace R := R.aloadN (pc' := 27) (v := (.ref b)) own_d10_26 rfl rfl rfl
        replace R := R.iloadN (pc' := 28) (v := (2 : Int32)) own_d10_27 rfl rfl
        replace R := R.iload (pc' := 30) (v := x2) own_d10_28 rfl rfl
        replace R := R.i2b (pc' := 31) own_d10_30 rfl
        obtain ⟨h10, K10, V10, R⟩ := R.bastore (pc' := 32) V6p ⟨by decide, by decide⟩ 2 rfl (Nat.le_of_ble_eq_true rfl) hb own_d10_31 rfl
        have V10p : Arv Z h10 b kb .byte (3 : Int32) [(.int x0.toInt8.toInt32), (.int x1.toInt8.toInt32), (.int x2.toInt8.toInt32)] (.int 0) := by
          have q := V10
          rw [nar_i2b x2] at q
          exact q
        replace R := R.iinc (pc' := 35) (l' := #[.val (.ref q), .val (.int (3 : Int32)), .val (.ref b), .val (.int (2 : Int32)), .val (.int (3 : Int32)), .val (.int (2 : Int32)), .val (.int x2)]) own_d10_32 rfl rfl rfl
        replace R := R.iinc (pc' := 38) (l' := #[.val (.ref q), .val (.int (3 : Int32)), .val (.ref b), .val (.int (3 : Int32)), .val (.int (3 : Int32)), .val (.int (2 : Int32)), .val (.int x2)]) own_d10_35 rfl rfl rfl
        replace R := R.iinc (pc' := 41) (l' := #[.val (.ref q), .val (.int (3 : Int32)), .val (.ref b), .val (.int (3 : Int32)), .val (.int (3 : Int32)), .val (.int (3 : Int32)), .val (.int x2)]) own_d10_38 rfl rfl rfl
        replace R := R.goto (pc' := 3) own_d10_41 (by decide) rfl
        replace R := R.iload (pc' := 5) (v := (3 : Int32)) own_d10_3 rfl rfl
        replace R := R.iload (pc' := 7) (v := (3 : Int32)) own_d10_5 rfl rfl
        replace R := R.icmpY (pc' := 44) own_d10_7 (flt (by decide : ¬ ((3 : Int32) < (3 : Int32)))).2.1 (by decide) rfl
        replace R := R.iload (pc' := 46) (v := (3 : Int32)) own_d10_44 rfl rfl
        have hK : Keep h h10 [b] := ((((Keep.refl h [b]).trans K2 (allS (Or.inl (List.mem_of_getElem? (i := 0) rfl)) all0)).trans K6 (allS (Or.inl (List.mem_of_getElem? (i := 0) rfl)) all0)).trans K10 (allS (Or.inl (List.mem_of_getElem? (i := 0) rfl)) all0))
        exact R.retI (Ds' := Ds) hret own_d10_46 (by decide) (by decide) (fun _ q => q) ⟨hK, rfl, Or.inl ⟨rfl, (chS ⟨(hok x0 (List.mem_of_getElem? (i := 0) rfl)).1, hc1⟩ (chS ⟨(hok x1 (List.mem_of_getElem? (i := 1) rfl)).1, hc5⟩ (chS ⟨(hok x2 (List.mem_of_getElem? (i := 2) rfl)).1, hc9⟩ ch0))), V10p⟩⟩
set_option maxRecDepth 65536 in
set_option maxHeartbeats 4000000 in
theorem rm_c33 (l : Launch) (Z : State) (a0 : Array Value) (hw : ∀ d ∈ tables_1, d.before a0 Z = true) (h : Heap) (n0 : Nat) (Ds : List Addr) (own_u : U16ok Z) {x0 x1 x2 : Int32} (hok : ∀ c ∈ ([x0, x1, x2] : List Int32), ¬ c < 0 ∧ ¬ (65535 : Int32) < c) {q : Addr} {kq : ClassId} (V_q : Arv Z h q kq .char (3 : Int32) ([Value.int x0, Value.int x1, Value.int x2]) (.int 0)) :
    Ctr l Z (⟨"java/lang/StringUTF16", "compress", "([CII)[B"⟩ : MethodName) jdk_52_method_16_code 6 (some (.array .byte)) [] ({ frames := 3, cells := 2, slots := 9, locals := 40 } : Room) #[.ref q, .int (0 : Int32), .int (3 : Int32)] h n0 Ds (fun v h' Ds' => ∃ (b : Addr) (kb : ClassId), v = some (.ref b) ∧ Keep h h' [] ∧ Ds = Ds' ∧ (((∀ c ∈ ([x0, x1, x2] : List Int32), ¬ c < 0 ∧ ¬ (255 : Int32) < c) ∧ Arv Z h' b kb .byte (3 : Int32) [(.int x0.toInt8.toInt32), (.int x1.toInt8.toInt32), (.int x2.toInt8.toInt32)] (.int 0)) ∨ Arv Z h' b kb .byte (6 : Int32) [(.int (StrChars.lo8 x0)), (.int (StrChars.hi8 x0)), (.int (StrChars.lo8 x1)), (.int (StrChars.hi8 x1)), (.int (StrChars.lo8 x2)), (.int (StrChars.hi8 x2))] (.int 0))) := by
  refine ctr_of (Ls := #[.val (.ref q), .val (.int (0 : Int32)), .val (.int (3 : Int32)), .unset, .unset, .unset]) (plainFor_of_name own_pn3) (fun m => by first | (simp [entryFrame, mkF, argsToLocals, Value.category]; done) | rfl) ?_
  intro C hl hret hnm R
  subst hl
  have hql : q < h.size := V_q.lt
  replace R := R.iloadN (pc' := 1) (v := (3 : Int32)) own_d9_0 rfl rfl
  obtain ⟨h1, b1, k1, g1, E1, V1, R⟩ := R.newP (pc' := 3) (aty := .byte) (cap := 3) (own_w25 hw) own_d9_1 (by decide) (by decide) (by decide) (by decide) (by decide) rfl
  have V1p : Arv Z h1 b1 k1 .byte (3 : Int32) [(.int (0 : Int32)), (.int (0 : Int32)), (.int (0 : Int32))] (.int (0 : Int32)) := V1.pad (pad_rep [] (.int (0 : Int32)) 3)
  replace R := R.astoreN (pc' := 4) (l' := #[.val (.ref q), .val (.int (0 : Int32)), .val (.int (3 : Int32)), .val (.ref b1), .unset, .unset]) own_d9_3 rfl rfl rfl
  replace R := R.aloadN (pc' := 5) (v := (.ref q)) own_d9_4 rfl rfl rfl
  replace R := R.iloadN (pc' := 6) (v := (0 : Int32)) own_d9_5 rfl rfl
  replace R := R.aloadN (pc' := 7) (v := (.ref b1)) own_d9_6 rfl rfl rfl
  replace R := R.iconst (pc' := 8) (z := (0 : Int32)) own_d9_7 rfl rfl
  replace R := R.iloadN (pc' := 9) (v := (3 : Int32)) own_d9_8 rfl rfl
  have K3 := ((Keep.refl h []).trans ((Keep.refl h []).ext E1) all0)
  have F4 := V_q.keep K3 nin0
  have nqb : q ≠ b1 := fun e => by rw [e, g1] at hql; exact Nat.lt_irrefl _ hql
  obtain ⟨v2, h2, _, ⟨K2, rfl, hD2⟩, R⟩ := R.callS (pc' := 12) (argsL := [(.ref q), (.int (0 : Int32)), (.ref b1), (.int (0 : Int32)), (.int (3 : Int32))]) (rest := []) (W := 0) (own_w51 hw) (own_w52 hw) (own_w49 hw) (own_w53 hw) (by decide) (rm_c53 C.l Z a0 hw h1 n0 (b1 :: Ds) hok F4 (List.mem_of_getElem? (i := 0) rfl) nqb V1p) rfl (lenOf own_pd11 rfl) rfl rfl own_d9_9 (by decide) (by decide) (by decide) (by decide) rfl
  replace R := R.mono (ce' := 1) (sl' := 3) (by decide) (by decide)
  rcases hD2 with ⟨rfl, hL, V2⟩ | ⟨rfl, hj⟩ | ⟨rfl, hj⟩ | ⟨rfl, hj⟩
  · replace R := R.stk (S' := [(.int (3 : Int32))]) rfl
    replace R := R.istore (pc' := 14) (l' := #[.val (.ref q), .val (.int (0 : Int32)), .val (.int (3 : Int32)), .val (.ref b1), .val (.int (3 : Int32)), .unset]) own_d9_12 rfl rfl
    replace R := R.iload (pc' := 16) (v := (3 : Int32)) own_d9_14 rfl rfl
    replace R := R.iloadN (pc' := 17) (v := (3 : Int32)) own_d9_16 rfl rfl
    replace R := R.icmpY (pc' := 57) own_d9_17 (teq (by decide : (3 : Int32) = (3 : Int32))).1 (by decide) rfl
    replace R := R.aloadN (pc' := 58) (v := (.ref b1)) own_d9_57 rfl rfl rfl
    have hK := (((Keep.refl h []).trans ((Keep.refl h []).ext E1) all0).trans K2 (allS (Or.inr (by rw [g1]; exact (Nat.le_refl _))) all0))
    exact R.retA (Ds' := Ds) hret rfl rfl rfl own_d9_58 (by decide) (by decide) (fun _ q => (fun q => (List.mem_cons_of_mem _ q)) q) ⟨b1, _, rfl, hK, rfl, Or.inl ⟨hL, V2⟩⟩
  · replace R := R.stk (S' := [(.int (0 : Int32))]) rfl
    replace R := R.istore (pc' := 14) (l' := #[.val (.ref q), .val (.int (0 : Int32)), .val (.int (3 : Int32)), .val (.ref b1), .val (.int (0 : Int32)), .unset]) own_d9_12 rfl rfl
    replace R := R.iload (pc' := 16) (v := (0 : Int32)) own_d9_14 rfl rfl
    replace R := R.iloadN (pc' := 17) (v := (3 : Int32)) own_d9_16 rfl rfl
    replace R := R.icmpN (pc' := 20) own_d9_17 (feq (by decide : ¬ ((0 : Int32) = (3 : Int32)))).1 rfl
    replace R := R.aloadN (pc' := 21) (v := (.ref q)) own_d9_20 rfl rfl rfl
    replace R := R.iloadN (pc' := 22) (v := (0 : Int32)) own_d9_21 rfl rfl
    replace R := R.iloadN (pc' := 23) (v := (3 : Int32)) own_d9_22 rfl rfl
    have K6 := ((Keep.refl h1 [b1]).trans K2 (allS (Or.inl (List.mem_of_getElem? (i := 0) rfl)) all0))
    have F7 := F4.keep K6 (ninS nqb nin0)
    obtain ⟨_, h5, _, ⟨r5, k5, rfl, K5, V5, rfl⟩, R⟩ := R.callS (pc' := 26) (argsL := [(.ref q), (.int (0 : Int32)), (.int (3 : Int32))]) (rest := []) (W := 0) (own_w88 hw) (own_w89 hw) (own_w49 hw) (own_w90 hw) (by decide) (rm_tb3 C.l Z a0 hw h2 n0 (b1 :: Ds) own_u hok F7) rfl (lenOf own_pd12 rfl) rfl rfl own_d9_23 (by decide) (by decide) (by decide) (by decide) rfl
    replace R := R.mono (ce' := 2) (sl' := 9) (by decide) (by decide)
    replace R := R.stk (S' := [(.ref r5)]) rfl
    replace R := R.astore (pc' := 28) (l' := #[.val (.ref q), .val (.int (0 : Int32)), .val (.int (3 : Int32)), .val (.ref b1), .val (.int (0 : Int32)), .val (.ref r5)]) own_d9_26 rfl rfl rfl
    replace R := R.aload (pc' := 30) (v := (.ref r5)) own_d9_28 rfl rfl rfl
    replace R := R.iload (pc' := 32) (v := (0 : Int32)) own_d9_30 rfl rfl
    obtain ⟨_, _, _, ⟨rfl, rfl, rfl⟩, R⟩ := R.callS (pc' := 35) (argsL := [(.ref r5), (.int (0 : Int32))]) (rest := []) (W := 0) (own_w104 hw) (own_w105 hw) (own_w49 hw) (own_w106 hw) (by decide) (rm_gc C.l Z a0 hw r5 (0 : Int32) h5 n0 (b1 :: Ds) own_u (k := 0) (m := 3) rfl (by decide) (by decide) (c := x0) (hok x0 (List.mem_of_getElem? (i := 0) rfl)) rfl rfl V5) rfl (lenOf own_pd4 rfl) rfl rfl own_d9_32 (by decide) (by decide) (by decide) (by decide) rfl
    replace R := R.mono (ce' := 2) (sl' := 9) (by decide) (by decide)
    replace R := R.stk (S' := [(.int x0)]) rfl
    replace R := R.sipush (pc' := 38) (z := (255 : Int32)) own_d9_35 rfl rfl
    replace R := R.icmpY (pc' := 54) own_d9_38 (tlt hj).2.2.1 (by decide) rfl
    replace R := R.aload (pc' := 56) (v := (.ref r5)) own_d9_54 rfl rfl rfl
    have hK := ((((Keep.refl h []).trans ((Keep.refl h []).ext E1) all0).trans K2 (allS (Or.inr (by rw [g1]; exact (Nat.le_refl _))) all0)).trans K5 all0)
    exact R.retA (Ds' := Ds) hret rfl rfl rfl own_d9_56 (by decide) (by decide) (fun _ q => (fun q => (List.mem_cons_of_mem _ q)) q) ⟨r5, _, rfl, hK, rfl, Or.inr V5⟩
  · replace R := R.stk (S' := [(.int (1 : Int32))]) rfl
    replace R := R.istore (pc' := 14) (l' := #[.val (.ref q), .val (.int (0 : Int32)), .val (.int (3 : Int32)), .val (.ref b1), .val (.int (1 : Int32)), .unset]) own_d9_12 rfl rfl
    replace R := R.iload (pc' := 16) (v := (1 : Int32)) own_d9_14 rfl rfl
    replace R := R.iloadN (pc' := 17) (v := (3 : Int32)) own_d9_16 rfl rfl
    replace R := R.icmpN (pc' := 20) own_d9_17 (feq (by decide : ¬ ((1 : Int32) = (3 : Int32)))).1 rfl
    replace R := R.aloadN (pc' := 21) (v := (.ref q)) own_d9_20 rfl rfl rfl
    replace R := R.iloadN (pc' := 22) (v := (0 : Int32)) own_d9_21 rfl rfl
    replace R := R.iloadN (pc' := 23) (v := (3 : Int32)) own_d9_22 rfl rfl
    have K9 := ((Keep.refl h1 [b1]).trans K2 (allS (Or.inl (List.mem_of_getElem? (i := 0) rfl)) all0))
    have F10 := F4.keep K9 (ninS nqb nin0)
    obtain ⟨_, h8, _, ⟨r8, k8, rfl, K8, V8, rfl⟩, R⟩ := R.callS (pc' := 26) (argsL := [(.ref q), (.int (0 : Int32)), (.int (3 : Int32))]) (rest := []) (W := 0) (own_w88 hw) (own_w89 hw) (own_w49 hw) (own_w90 hw) (by decide) (rm_tb3 C.l Z a0 hw h2 n0 (b1 :: Ds) own_u hok F10) rfl (lenOf own_pd12 rfl) rfl rfl own_d9_23 (by decide) (by decide) (by decide) (by decide) rfl
    replace R := R.mono (ce' := 2) (sl' := 9) (by decide) (by decide)
    replace R := R.stk (S' := [(.ref r8)]) rfl
    replace R := R.astore (pc' := 28) (l' := #[.val (.ref q), .val (.int (0 : Int32)), .val (.int (3 : Int32)), .val (.ref b1), .val (.int (1 : Int32)), .val (.ref r8)]) own_d9_26 rfl rfl rfl
    replace R := R.aload (pc' := 30) (v := (.ref r8)) own_d9_28 rfl rfl rfl
    replace R := R.iload (pc' := 32) (v := (1 : Int32)) own_d9_30 rfl rfl
    obtain ⟨_, _, _, ⟨rfl, rfl, rfl⟩, R⟩ := R.callS (pc' := 35) (argsL := [(.ref r8), (.int (1 : Int32))]) (rest := []) (W := 0) (own_w104 hw) (own_w105 hw) (own_w49 hw) (own_w106 hw) (by decide) (rm_gc C.l Z a0 hw r8 (1 : Int32) h8 n0 (b1 :: Ds) own_u (k := 1) (m := 3) rfl (by decide) (by decide) (c := x1) (hok x1 (List.mem_of_getElem? (i := 1) rfl)) rfl rfl V8) rfl (lenOf own_pd4 rfl) rfl rfl own_d9_32 (by decide) (by decide) (by decide) (by decide) rfl
    replace R := R.mono (ce' := 2) (sl' := 9) (by decide) (by decide)
    replace R := R.stk (S' := [(.int x1)]) rfl
    replace R := R.sipush (pc' := 38) (z := (255 : Int32)) own_d9_35 rfl rfl
    replace R := R.icmpY (pc' := 54) own_d9_38 (tlt hj).2.2.1 (by decide) rfl
    replace R := R.aload (pc' := 56) (v := (.ref r8)) own_d9_54 rfl rfl rfl
    have hK := ((((Keep.refl h []).trans ((Keep.refl h []).ext E1) all0).trans K2 (allS (Or.inr (by rw [g1]; exact (Nat.le_refl _))) all0)).trans K8 all0)
    exact R.retA (Ds' := Ds) hret rfl rfl rfl own_d9_56 (by decide) (by decide) (fun _ q => (fun q => (List.mem_cons_of_mem _ q)) q) ⟨r8, _, rfl, hK, rfl, Or.inr V8⟩
  · replace R := R.stk (S' := [(.int (2 : Int32))]) rfl
    replace R := R.istore (pc' := 14) (l' := #[.val (.ref q), .val (.int (0 : Int32)), .val (.int (3 : Int32)), .val (.ref b1), .val (.int (2 : Int32)), .unset]) own_d9_12 rfl rfl
    replace R := R.iload (pc' := 16) (v := (2 : Int32)) own_d9_14 rfl rfl
    replace R := R.iloadN (pc' := 17) (v := (3 : Int32)) own_d9_16 rfl rfl
    replace R := R.icmpN (pc' := 20) own_d9_17 (feq (by decide : ¬ ((2 : Int32) = (3 : Int32)))).1 rfl
    replace R := R.aloadN (pc' := 21) (v := (.ref q)) own_d9_20 rfl rfl rfl
    replace R := R.iloadN (pc' := 22) (v := (0 : Int32)) own_d9_21 rfl rfl
    replace R := R.iloadN (pc' := 23) (v := (3 : Int32)) own_d9_22 rfl rfl
    have K12 := ((Keep.refl h1 [b1]).trans K2 (allS (Or.inl (List.mem_of_getElem? (i := 0) rfl)) all0))
    have F13 := F4.keep K12 (ninS nqb nin0)
    obtain ⟨_, h11, _, ⟨r11, k11, rfl, K11, V11, rfl⟩, R⟩ := R.callS (pc' := 26) (argsL := [(.ref q), (.int (0 : Int32)), (.int (3 : Int32))]) (rest := []) (W := 0) (own_w88 hw) (own_w89 hw) (own_w49 hw) (own_w90 hw) (by decide) (rm_tb3 C.l Z a0 hw h2 n0 (b1 :: Ds) own_u hok F13) rfl (lenOf own_pd12 rfl) rfl rfl own_d9_23 (by decide) (by decide) (by decide) (by decide) rfl
    replace R := R.mono (ce' := 2) (sl' := 9) (by decide) (by decide)
    replace R := R.stk (S' := [(.ref r11)]) rfl
    replace R := R.astore (pc' := 28) (l' := #[.val (.ref q), .val (.int (0 : Int32)), .val (.int (3 : Int32)), .val (.ref b1), .val (.int (2 : Int32)), .val (.ref r11)]) own_d9_26 rfl rfl rfl
    replace R := R.aload (pc' := 30) (v := (.ref r11)) own_d9_28 rfl rfl rfl
    replace R := R.iload (pc' := 32) (v := (2 : Int32)) own_d9_30 rfl rfl
    obtain ⟨_, _, _, ⟨rfl, rfl, rfl⟩, R⟩ := R.callS (pc' := 35) (argsL := [(.ref r11), (.int (2 : Int32))]) (rest := []) (W := 0) (own_w104 hw) (own_w105 hw) (own_w49 hw) (own_w106 hw) (by decide) (rm_gc C.l Z a0 hw r11 (2 : Int32) h11 n0 (b1 :: Ds) own_u (k := 2) (m := 3) rfl (by decide) (by decide) (c := x2) (hok x2 (List.mem_of_getElem? (i := 2) rfl)) rfl rfl V11) rfl (lenOf own_pd4 rfl) rfl rfl own_d9_32 (by decide) (by decide) (by decide) (by decide) rfl
    replace R := R.mono (ce' := 2) (sl' := 9) (by decide) (by decide)
    replace R := R.stk (S' := [(.int x2)]) rfl
    replace R := R.sipush (pc' := 38) (z := (255 : Int32)) own_d9_35 rfl rfl
    replace R := R.icmpY (pc' := 54) own_d9_38 (tlt hj).2.2.1 (by decide) rfl
    replace R := R.aload (pc' := 56) (v := (.ref r11)) own_d9_54 rfl rfl rfl
    have hK := ((((Keep.refl h []).trans ((Keep.refl h []).ext E1) all0).trans K2 (allS (Or.inr (by rw [g1]; exact (Nat.le_refl _))) all0)).trans K11 all0)
    exact R.retA (Ds' := Ds) hret rfl rfl rfl own_d9_56 (by decide) (by decide) (fun _ q => (fun q => (List.mem_cons_of_mem _ q)) q) ⟨r11, _, rfl, hK, rfl, Or.inr V11⟩
set_option maxRecDepth 65536 in
set_option maxHeartbeats 4000000 in
theorem rm_ca3_3 (l : Launch) (Z : State) (a0 : Array Value) (hw : ∀ d ∈ tables_1, d.before a0 Z = true) (h : Heap) (n0 : Nat) (Ds : List Addr) {b : Addr} {kb : ClassId} {vs : List Value} (V_b : Arv Z h b kb .byte (3 : Int32) vs (.int 0)) :
    Ctr l Z (⟨"java/lang/StringUTF16", "coderFromArrayLen", "([BI)B"⟩ : MethodName) jdk_52_method_15_code 2 (some .byte) [] ({ frames := 0, cells := 0, slots := 0, locals := 0 } : Room) #[.ref b, .int (3 : Int32)] h n0 Ds (fun v h' Ds' => v = some (.int (0 : Int32)) ∧ h = h' ∧ Ds = Ds') := by
  refine ctr_of (Ls := #[.val (.ref b), .val (.int (3 : Int32))]) (plainFor_of_name own_pn3) (fun m => by first | (simp [entryFrame, mkF, argsToLocals, Value.category]; done) | rfl) ?_
  intro C hl hret hnm R
  subst hl
  replace R := R.iloadN (pc' := 1) (v := (3 : Int32)) own_d11_0 rfl rfl
  replace R := R.aloadN (pc' := 2) (v := (.ref b)) own_d11_1 rfl rfl rfl
  replace R := R.arraylength (pc' := 3) V_b own_d11_2 rfl
  replace R := R.isub (pc' := 4) own_d11_3 rfl
  replace R := R.stk (S' := [(.int (0 : Int32))]) rfl
  replace R := R.bipush (pc' := 6) (z := (31 : Int32)) own_d11_4 rfl rfl
  replace R := R.iushr (pc' := 7) own_d11_6 rfl
  replace R := R.stk (S' := [(.int (0 : Int32))]) rfl
  replace R := R.i2b (pc' := 8) own_d11_7 rfl
  replace R := R.stk (S' := [(.int (0 : Int32))]) rfl
  exact R.retN (Ds' := Ds) hret (by simp) (show nar .byte (0 : Int32) = (0 : Int32) from rfl) own_d11_8 (by decide) (by decide) (fun _ q => q) ⟨rfl, rfl, rfl⟩
set_option maxRecDepth 65536 in
set_option maxHeartbeats 4000000 in
theorem rm_ca3_6 (l : Launch) (Z : State) (a0 : Array Value) (hw : ∀ d ∈ tables_1, d.before a0 Z = true) (h : Heap) (n0 : Nat) (Ds : List Addr) {b : Addr} {kb : ClassId} {vs : List Value} (V_b : Arv Z h b kb .byte (6 : Int32) vs (.int 0)) :
    Ctr l Z (⟨"java/lang/StringUTF16", "coderFromArrayLen", "([BI)B"⟩ : MethodName) jdk_52_method_15_code 2 (some .byte) [] ({ frames := 0, cells := 0, slots := 0, locals := 0 } : Room) #[.ref b, .int (3 : Int32)] h n0 Ds (fun v h' Ds' => v = some (.int (1 : Int32)) ∧ h = h' ∧ Ds = Ds') := by
  refine ctr_of (Ls := #[.val (.ref b), .val (.int (3 : Int32))]) (plainFor_of_name own_pn3) (fun m => by first | (simp [entryFrame, mkF, argsToLocals, Value.category]; done) | rfl) ?_
  intro C hl hret hnm R
  subst hl
  replace R := R.iloadN (pc' := 1) (v := (3 : Int32)) own_d11_0 rfl rfl
  replace R := R.aloadN (pc' := 2) (v := (.ref b)) own_d11_1 rfl rfl rfl
  replace R := R.arraylength (pc' := 3) V_b own_d11_2 rfl
  replace R := R.isub (pc' := 4) own_d11_3 rfl
  replace R := R.stk (S' := [(.int (-3 : Int32))]) rfl
  replace R := R.bipush (pc' := 6) (z := (31 : Int32)) own_d11_4 rfl rfl
  replace R := R.iushr (pc' := 7) own_d11_6 rfl
  replace R := R.stk (S' := [(.int (1 : Int32))]) rfl
  replace R := R.i2b (pc' := 8) own_d11_7 rfl
  replace R := R.stk (S' := [(.int (1 : Int32))]) rfl
  exact R.retN (Ds' := Ds) hret (by simp) (show nar .byte (1 : Int32) = (1 : Int32) from rfl) own_d11_8 (by decide) (by decide) (fun _ q => q) ⟨rfl, rfl, rfl⟩
set_option maxRecDepth 65536 in
set_option maxHeartbeats 4000000 in
theorem rm_i4_3 (l : Launch) (Z : State) (a0 : Array Value) (hw : ∀ d ∈ tables_1, d.before a0 Z = true) (a : Addr) (h : Heap) (n0 : Nat) (Ds : List Addr) (own_cs : CompactOn Z) (own_si : SiooOk Z) (own_u : U16ok Z) (ha : a ∈ Ds) {x0 x1 x2 : Int32} (hok : ∀ c ∈ ([x0, x1, x2] : List Int32), ¬ c < 0 ∧ ¬ (65535 : Int32) < c) {q : Addr} {kq : ClassId} (V_q : Arv Z h q kq .char (3 : Int32) ([Value.int x0, Value.int x1, Value.int x2]) (.int 0)) {u1 u2 : Value} (E_a : Exa Z h a "java/lang/String") (F_v : Fld Z h a "java/lang/String" "value" "[B" u1) (F_c : Fld Z h a "java/lang/String" "coder" "B" u2) :
    Ctr l Z (⟨"java/lang/String", "<init>", "([CIILjava/lang/Void;)V"⟩ : MethodName) jdk_42_method_149_code 6 none [] ({ frames := 4, cells := 2, slots := 9, locals := 57 } : Room) #[.ref a, .ref q, .int (0 : Int32), .int (3 : Int32), .null] h n0 Ds (fun v h' Ds' => v = none ∧ Keep h h' [a] ∧ IsTx Z h' a [x0, x1, x2] ∧ Ds = Ds') := by
  refine ctr_of (Ls := #[.val (.ref a), .val (.ref q), .val (.int (0 : Int32)), .val (.int (3 : Int32)), .val .null, .unset]) (plainFor_of_name own_pn0) (fun m => by first | (simp [entryFrame, mkF, argsToLocals, Value.category]; done) | rfl) ?_
  intro C hl hret hnm R
  subst hl
  obtain ⟨zc, S_zc, hzc⟩ := id own_cs
  replace R := R.aloadN (pc' := 1) (v := (.ref a)) own_d4_0 rfl rfl rfl
  replace R := R.initO (pc' := 4) (W := 0) (own_w21 hw) (own_w22 hw) (own_w23 hw) rfl own_d4_1 (by decide) rfl (by decide) rfl
  replace R := R.iloadN (pc' := 5) (v := (3 : Int32)) own_d4_4 rfl rfl
  replace R := R.ifY (pc' := 27) own_d4_5 (feq (by decide : ¬ ((3 : Int32) = (0 : Int32)))).2 (by decide) rfl
  replace R := R.getS (pc' := 30) (host := "") (Or.inl (own_w46 hw)) Via.refl S_zc own_d4_27 rfl
  replace R := R.ifN (pc' := 33) own_d4_30 (feq hzc).1 rfl
  replace R := R.aloadN (pc' := 34) (v := (.ref q)) own_d4_33 rfl rfl rfl
  replace R := R.iloadN (pc' := 35) (v := (0 : Int32)) own_d4_34 rfl rfl
  replace R := R.iloadN (pc' := 36) (v := (3 : Int32)) own_d4_35 rfl rfl
  obtain ⟨_, h1, _, ⟨r1, k1, rfl, K1, rfl, hB1⟩, R⟩ := R.callS (pc' := 39) (argsL := [(.ref q), (.int (0 : Int32)), (.int (3 : Int32))]) (rest := []) (W := 0) (own_w47 hw) (own_w48 hw) (own_w49 hw) (own_w50 hw) (by decide) (rm_c33 C.l Z a0 hw h n0 Ds own_u hok V_q) rfl (lenOf own_pd12 rfl) rfl rfl own_d4_36 (by decide) (by decide) (by decide) (by decide) rfl
  replace R := R.mono (ce' := 2) (sl' := 9) (by decide) (by decide)
  replace R := R.stk (S' := [(.ref r1)]) rfl
  rcases hB1 with ⟨hL, V1⟩ | V1
  · have hV := V1
    have K2 := ((Keep.refl h []).trans K1 all0)
    have F3 := E_a.keep K2
    have nabr1 : a ≠ r1 := Exa.neArv F3 hV (own_w11 hw)
    replace R := R.astore (pc' := 41) (l' := #[.val (.ref a), .val (.ref q), .val (.int (0 : Int32)), .val (.int (3 : Int32)), .val .null, .val (.ref r1)]) own_d4_39 rfl rfl rfl
    replace R := R.aloadN (pc' := 42) (v := (.ref a)) own_d4_41 rfl rfl rfl
    replace R := R.aload (pc' := 44) (v := (.ref r1)) own_d4_42 rfl rfl rfl
    replace R := R.iloadN (pc' := 45) (v := (3 : Int32)) own_d4_44 rfl rfl
    obtain ⟨_, _, _, ⟨rfl, rfl, rfl⟩, R⟩ := R.callS (pc' := 48) (argsL := [(.ref r1), (.int (3 : Int32))]) (rest := [(.ref a)]) (W := 1) (own_w54 hw) (own_w55 hw) (own_w49 hw) (own_w56 hw) (by decide) (rm_ca3_3 C.l Z a0 hw h1 n0 Ds hV) rfl (lenOf own_pd13 rfl) rfl rfl own_d4_45 (by decide) (by decide) (by decide) (by decide) rfl
    replace R := R.mono (ce' := 2) (sl' := 9) (by decide) (by decide)
    replace R := R.stk (S' := [(.int (0 : Int32)), (.ref a)]) rfl
    have K4 := ((Keep.refl h []).trans K1 all0)
    have F5 := F_c.keep K4 nin0
    have K6 := ((Keep.refl h []).trans K1 all0)
    have F7 := F_v.keep K6 nin0
    obtain ⟨h8, W8, R⟩ := R.putFN (pc' := 51) (ty := .byte) (v' := (.int (0 : Int32))) (own_w31 hw) Via.refl F5 F3 (Or.inr ⟨(own_w27 hw), rfl, hnm⟩) (own_w11 hw) (by decide) (rfl) (rfl) ha own_d4_48 rfl
    have F8 := F5.same W8
    have F9 := F7.other W8 (Or.inr (slot_ne (Or.inr (own_w26 hw)) (Or.inr (own_w27 hw)) (by decide) (t := (.array .byte)) (t' := .byte) (by decide) (by decide)))
    replace R := R.aloadN (pc' := 52) (v := (.ref a)) own_d4_51 rfl rfl rfl
    replace R := R.aload (pc' := 54) (v := (.ref r1)) own_d4_52 rfl rfl rfl
    have K10 := ((Keep.refl h1 [a]).trans (Keep.of_wr W8) (allS (Or.inl (List.mem_of_getElem? (i := 0) rfl)) all0))
    have F11 := F3.keep K10
    obtain ⟨h12, W12, R⟩ := R.putF (pc' := 57) (ty := (.array .byte)) (host := "") (Or.inl (own_w30 hw)) Via.refl F9 F11 (Or.inr ⟨(own_w26 hw), rfl, hnm⟩) (own_w11 hw) (by decide) rfl rfl ha own_d4_54 rfl
    have F12 := F9.same W12
    have F13 := F8.other W12 (Or.inr (slot_ne (Or.inr (own_w27 hw)) (Or.inr (own_w26 hw)) (by decide) (t := .byte) (t' := (.array .byte)) (by decide) (by decide)))
    have hK := ((((Keep.refl h [a]).trans K1 all0).trans (Keep.of_wr W8) (allS (Or.inl (List.mem_of_getElem? (i := 0) rfl)) all0)).trans (Keep.of_wr W12) (allS (Or.inl (List.mem_of_getElem? (i := 0) rfl)) all0))
    have K14 := ((Keep.refl h8 [a]).trans (Keep.of_wr W12) (allS (Or.inl (List.mem_of_getElem? (i := 0) rfl)) all0))
    have F15 := F11.keep K14
    have K16 := (((Keep.refl h1 [a]).trans (Keep.of_wr W8) (allS (Or.inl (List.mem_of_getElem? (i := 0) rfl)) all0)).trans (Keep.of_wr W12) (allS (Or.inl (List.mem_of_getElem? (i := 0) rfl)) all0))
    have F17 := hV.keep K16 (ninS (Ne.symm nabr1) nin0)
    exact R.retV (Ds' := Ds) hret own_d4_57 (by decide) (by decide) (fun _ q => q) ⟨rfl, hK, Or.inl ⟨F15, F13, hL, Nat.le_of_ble_eq_true rfl, r1, _, F12, F17⟩, rfl⟩
  · have hV := V1
    have K18 := ((Keep.refl h []).trans K1 all0)
    have F19 := E_a.keep K18
    have nabr1 : a ≠ r1 := Exa.neArv F19 hV (own_w11 hw)
    replace R := R.astore (pc' := 41) (l' := #[.val (.ref a), .val (.ref q), .val (.int (0 : Int32)), .val (.int (3 : Int32)), .val .null, .val (.ref r1)]) own_d4_39 rfl rfl rfl
    replace R := R.aloadN (pc' := 42) (v := (.ref a)) own_d4_41 rfl rfl rfl
    replace R := R.aload (pc' := 44) (v := (.ref r1)) own_d4_42 rfl rfl rfl
    replace R := R.iloadN (pc' := 45) (v := (3 : Int32)) own_d4_44 rfl rfl
    obtain ⟨_, _, _, ⟨rfl, rfl, rfl⟩, R⟩ := R.callS (pc' := 48) (argsL := [(.ref r1), (.int (3 : Int32))]) (rest := [(.ref a)]) (W := 1) (own_w54 hw) (own_w55 hw) (own_w49 hw) (own_w56 hw) (by decide) (rm_ca3_6 C.l Z a0 hw h1 n0 Ds hV) rfl (lenOf own_pd13 rfl) rfl rfl own_d4_45 (by decide) (by decide) (by decide) (by decide) rfl
    replace R := R.mono (ce' := 2) (sl' := 9) (by decide) (by decide)
    replace R := R.stk (S' := [(.int (1 : Int32)), (.ref a)]) rfl
    have K20 := ((Keep.refl h []).trans K1 all0)
    have F21 := F_c.keep K20 nin0
    have K22 := ((Keep.refl h []).trans K1 all0)
    have F23 := F_v.keep K22 nin0
    obtain ⟨h24, W24, R⟩ := R.putFN (pc' := 51) (ty := .byte) (v' := (.int (1 : Int32))) (own_w31 hw) Via.refl F21 F19 (Or.inr ⟨(own_w27 hw), rfl, hnm⟩) (own_w11 hw) (by decide) (rfl) (rfl) ha own_d4_48 rfl
    have F24 := F21.same W24
    have F25 := F23.other W24 (Or.inr (slot_ne (Or.inr (own_w26 hw)) (Or.inr (own_w27 hw)) (by decide) (t := (.array .byte)) (t' := .byte) (by decide) (by decide)))
    replace R := R.aloadN (pc' := 52) (v := (.ref a)) own_d4_51 rfl rfl rfl
    replace R := R.aload (pc' := 54) (v := (.ref r1)) own_d4_52 rfl rfl rfl
    have K26 := ((Keep.refl h1 [a]).trans (Keep.of_wr W24) (allS (Or.inl (List.mem_of_getElem? (i := 0) rfl)) all0))
    have F27 := F19.keep K26
    obtain ⟨h28, W28, R⟩ := R.putF (pc' := 57) (ty := (.array .byte)) (host := "") (Or.inl (own_w30 hw)) Via.refl F25 F27 (Or.inr ⟨(own_w26 hw), rfl, hnm⟩) (own_w11 hw) (by decide) rfl rfl ha own_d4_54 rfl
    have F28 := F25.same W28
    have F29 := F24.other W28 (Or.inr (slot_ne (Or.inr (own_w27 hw)) (Or.inr (own_w26 hw)) (by decide) (t := .byte) (t' := (.array .byte)) (by decide) (by decide)))
    have hK := ((((Keep.refl h [a]).trans K1 all0).trans (Keep.of_wr W24) (allS (Or.inl (List.mem_of_getElem? (i := 0) rfl)) all0)).trans (Keep.of_wr W28) (allS (Or.inl (List.mem_of_getElem? (i := 0) rfl)) all0))
    have K30 := ((Keep.refl h24 [a]).trans (Keep.of_wr W28) (allS (Or.inl (List.mem_of_getElem? (i := 0) rfl)) all0))
    have F31 := F27.keep K30
    have K32 := (((Keep.refl h1 [a]).trans (Keep.of_wr W24) (allS (Or.inl (List.mem_of_getElem? (i := 0) rfl)) all0)).trans (Keep.of_wr W28) (allS (Or.inl (List.mem_of_getElem? (i := 0) rfl)) all0))
    have F33 := hV.keep K32 (ninS (Ne.symm nabr1) nin0)
    exact R.retV (Ds' := Ds) hret own_d4_57 (by decide) (by decide) (fun _ q => q) ⟨rfl, hK, Or.inr ⟨F31, F29, hok, Nat.le_of_ble_eq_true rfl, r1, _, F28, F33⟩, rfl⟩
set_option maxRecDepth 65536 in
set_option maxHeartbeats 4000000 in
theorem rm_i1_3 (l : Launch) (Z : State) (a0 : Array Value) (hw : ∀ d ∈ tables_1, d.before a0 Z = true) (a : Addr) (h : Heap) (n0 : Nat) (Ds : List Addr) (own_cs : CompactOn Z) (own_si : SiooOk Z) (own_u : U16ok Z) (ha : a ∈ Ds) {x0 x1 x2 : Int32} (hok : ∀ c ∈ ([x0, x1, x2] : List Int32), ¬ c < 0 ∧ ¬ (65535 : Int32) < c) {q : Addr} {kq : ClassId} (V_q : Arv Z h q kq .char (3 : Int32) ([Value.int x0, Value.int x1, Value.int x2]) (.int 0)) {u1 u2 : Value} (E_a : Exa Z h a "java/lang/String") (F_v : Fld Z h a "java/lang/String" "value" "[B" u1) (F_c : Fld Z h a "java/lang/String" "coder" "B" u2) :
    Ctr l Z (⟨"java/lang/String", "<init>", "([C)V"⟩ : MethodName) jdk_42_method_3_code 2 none [] ({ frames := 5, cells := 2, slots := 9, locals := 74 } : Room) #[.ref a, .ref q] h n0 Ds (fun v h' Ds' => v = none ∧ Keep h h' [a] ∧ IsTx Z h' a [x0, x1, x2] ∧ Ds = Ds') := by
  refine ctr_of (Ls := #[.val (.ref a), .val (.ref q)]) (plainFor_of_name own_pn0) (fun m => by first | (simp [entryFrame, mkF, argsToLocals, Value.category]; done) | rfl) ?_
  intro C hl hret hnm R
  subst hl
  replace R := R.aloadN (pc' := 1) (v := (.ref a)) own_d3_0 rfl rfl rfl
  replace R := R.aloadN (pc' := 2) (v := (.ref q)) own_d3_1 rfl rfl rfl
  replace R := R.iconst (pc' := 3) (z := (0 : Int32)) own_d3_2 rfl rfl
  replace R := R.aloadN (pc' := 4) (v := (.ref q)) own_d3_3 rfl rfl rfl
  replace R := R.arraylength (pc' := 5) V_q own_d3_4 rfl
  replace R := R.anull (pc' := 6) own_d3_5 rfl
  obtain ⟨_, h1, _, ⟨rfl, K1, T1, rfl⟩, R⟩ := R.callI (pc' := 9) (a := a) (argsL := [(.ref q), (.int (0 : Int32)), (.int (3 : Int32)), .null]) (rest := []) (W := 0) rfl (own_w17 hw) (own_w18 hw) (own_w12 hw) (own_w20 hw) (by decide) (rm_i4_3 C.l Z a0 hw a h n0 Ds own_cs own_si own_u ha (x0 := x0) (x1 := x1) (x2 := x2) hok V_q E_a F_v F_c) rfl (lenOf own_pd7 rfl) rfl rfl own_d3_6 (by decide) (by decide) (by decide) (by decide) rfl
  replace R := R.mono (ce' := 2) (sl' := 9) (by decide) (by decide)
  replace R := R.stk (S' := []) rfl
  have hK := ((Keep.refl h [a]).trans K1 (allS (Or.inl (List.mem_of_getElem? (i := 0) rfl)) all0))
  exact R.retV (Ds' := Ds) hret own_d3_9 (by decide) (by decide) (fun _ q => q) ⟨rfl, hK, T1, rfl⟩
set_option maxRecDepth 65536 in
set_option maxHeartbeats 4000000 in
theorem rm_nbl4 (l : Launch) (Z : State) (a0 : Array Value) (hw : ∀ d ∈ tables_1, d.before a0 Z = true) (h : Heap) (n0 : Nat) (Ds : List Addr) :
    Ctr l Z (⟨"java/lang/StringUTF16", "newBytesLength", "(I)I"⟩ : MethodName) jdk_52_method_3_code 1 (some .int) [] ({ frames := 0, cells := 0, slots := 0, locals := 0 } : Room) #[.int (4 : Int32)] h n0 Ds (fun v h' Ds' => v = some (.int (8 : Int32)) ∧ h = h' ∧ Ds = Ds') := by
  refine ctr_of (Ls := #[.val (.int (4 : Int32))]) (plainFor_of_name own_pn3) (fun m => by first | (simp [entryFrame, mkF, argsToLocals, Value.category]; done) | rfl) ?_
  intro C hl hret hnm R
  subst hl
  replace R := R.iloadN (pc' := 1) (v := (4 : Int32)) own_d22_0 rfl rfl
  replace R := R.ifY (pc' := 12) own_d22_1 (flt (by decide : ¬ ((4 : Int32) < (0 : Int32)))).2.1 (by decide) rfl
  replace R := R.iloadN (pc' := 13) (v := (4 : Int32)) own_d22_12 rfl rfl
  replace R := R.ldcI (pc' := 15) (own_w97 hw) own_d22_13 rfl
  replace R := R.icmpY (pc' := 55) own_d22_15 (tlt (by decide : (4 : Int32) < (1073741823 : Int32))).1 (by decide) rfl
  replace R := R.iloadN (pc' := 56) (v := (4 : Int32)) own_d22_55 rfl rfl
  replace R := R.iconst (pc' := 57) (z := (1 : Int32)) own_d22_56 rfl rfl
  replace R := R.ishl (pc' := 58) own_d22_57 rfl
  replace R := R.stk (S' := [(.int (8 : Int32))]) rfl
  exact R.retI (Ds' := Ds) hret own_d22_58 (by decide) (by decide) (fun _ q => q) ⟨rfl, rfl, rfl⟩
set_option maxRecDepth 65536 in
set_option maxHeartbeats 4000000 in
theorem rm_nbf4 (l : Launch) (Z : State) (a0 : Array Value) (hw : ∀ d ∈ tables_1, d.before a0 Z = true) (h : Heap) (n0 : Nat) (Ds : List Addr) :
    Ctr l Z (⟨"java/lang/StringUTF16", "newBytesFor", "(I)[B"⟩ : MethodName) jdk_52_method_2_code 1 (some (.array .byte)) [] ({ frames := 1, cells := 1, slots := 8, locals := 12 } : Room) #[.int (4 : Int32)] h n0 Ds (fun v h' Ds' => ∃ (r : Addr) (kb : ClassId), v = some (.ref r) ∧ Keep h h' [] ∧ r = h.size ∧ Arv Z h' r kb .byte (8 : Int32) [(.int (0 : Int32)), (.int (0 : Int32)), (.int (0 : Int32)), (.int (0 : Int32)), (.int (0 : Int32)), (.int (0 : Int32)), (.int (0 : Int32)), (.int (0 : Int32))] (.int 0) ∧ r :: Ds = Ds') := by
  refine ctr_of (Ls := #[.val (.int (4 : Int32))]) (plainFor_of_name own_pn3) (fun m => by first | (simp [entryFrame, mkF, argsToLocals, Value.category]; done) | rfl) ?_
  intro C hl hret hnm R
  subst hl
  replace R := R.iloadN (pc' := 1) (v := (4 : Int32)) own_d21_0 rfl rfl
  obtain ⟨_, _, _, ⟨rfl, rfl, rfl⟩, R⟩ := R.callS (pc' := 4) (argsL := [(.int (4 : Int32))]) (rest := []) (W := 0) (own_w94 hw) (own_w95 hw) (own_w49 hw) (own_w96 hw) (by decide) (rm_nbl4 C.l Z a0 hw h n0 Ds) rfl (lenOf own_pd8 rfl) rfl rfl own_d21_1 (by decide) (by decide) (by decide) (by decide) rfl
  replace R := R.mono (ce' := 0) (sl' := 0) (by decide) (by decide)
  replace R := R.stk (S' := [(.int (8 : Int32))]) rfl
  obtain ⟨h1, b1, k1, g1, E1, V1, R⟩ := R.newP (pc' := 6) (aty := .byte) (cap := 8) (own_w25 hw) own_d21_4 (by decide) (by decide) (by decide) (by decide) (by decide) rfl
  have V1p : Arv Z h1 b1 k1 .byte (8 : Int32) [(.int (0 : Int32)), (.int (0 : Int32)), (.int (0 : Int32)), (.int (0 : Int32)), (.int (0 : Int32)), (.int (0 : Int32)), (.int (0 : Int32)), (.int (0 : Int32))] (.int (0 : Int32)) := V1.pad (pad_rep [] (.int (0 : Int32)) 8)
  have hK := ((Keep.refl h []).trans ((Keep.refl h []).ext E1) all0)
  exact R.retA (Ds' := b1 :: Ds) hret rfl rfl rfl own_d21_6 (by decide) (by decide) (fun _ q => q) ⟨b1, _, rfl, hK, g1, V1p, rfl⟩
set_option maxRecDepth 65536 in
set_option maxHeartbeats 4000000 in
theorem rm_tb4 (l : Launch) (Z : State) (a0 : Array Value) (hw : ∀ d ∈ tables_1, d.before a0 Z = true) (h : Heap) (n0 : Nat) (Ds : List Addr) (own_u : U16ok Z) {x0 x1 x2 x3 : Int32} (hok : ∀ c ∈ ([x0, x1, x2, x3] : List Int32), ¬ c < 0 ∧ ¬ (65535 : Int32) < c) {q : Addr} {kq : ClassId} (V_q : Arv Z h q kq .char (4 : Int32) ([Value.int x0, Value.int x1, Value.int x2, Value.int x3]) (.int 0)) :
    Ctr l Z (⟨"java/lang/StringUTF16", "toBytes", "([CII)[B"⟩ : MethodName) jdk_52_method_14_code 5 (some (.array .byte)) [] ({ frames := 2, cells := 1, slots := 8, locals := 24 } : Room) #[.ref q, .int (0 : Int32), .int (4 : Int32)] h n0 Ds (fun v h' Ds' => ∃ (r : Addr) (kb : ClassId), v = some (.ref r) ∧ Keep h h' [] ∧ Arv Z h' r kb .byte (8 : Int32) [(.int (StrChars.lo8 x0)), (.int (StrChars.hi8 x0)), (.int (StrChars.lo8 x1)), (.int (StrChars.hi8 x1)), (.int (StrChars.lo8 x2)), (.int (StrChars.hi8 x2)), (.int (StrChars.lo8 x3)), (.int (StrChars.hi8 x3))] (.int 0) ∧ Ds = Ds') := by
  refine ctr_of (Ls := #[.val (.ref q), .val (.int (0 : Int32)), .val (.int (4 : Int32)), .unset, .unset]) (plainFor_of_name own_pn3) (fun m => by first | (simp [entryFrame, mkF, argsToLocals, Value.category]; done) | rfl) ?_
  intro C hl hret hnm R
  subst hl
  have hql : q < h.size := V_q.lt
  replace R := R.iloadN (pc' := 1) (v := (4 : Int32)) own_d20_0 rfl rfl
  obtain ⟨_, h1, _, ⟨r1, k1, rfl, K1, g1, V1, rfl⟩, R⟩ := R.callS (pc' := 4) (argsL := [(.int (4 : Int32))]) (rest := []) (W := 0) (own_w91 hw) (own_w92 hw) (own_w49 hw) (own_w93 hw) (by decide) (rm_nbf4 C.l Z a0 hw h n0 Ds) rfl (lenOf own_pd9 rfl) rfl rfl own_d20_1 (by decide) (by decide) (by decide) (by decide) rfl
  have nqb : q ≠ r1 := fun e => by rw [e, g1] at hql; exact Nat.lt_irrefl _ hql
  replace R := R.mono (ce' := 1) (sl' := 8) (by decide) (by decide)
  replace R := R.stk (S' := [(.ref r1)]) rfl
  replace R := R.astoreN (pc' := 5) (l' := #[.val (.ref q), .val (.int (0 : Int32)), .val (.int (4 : Int32)), .val (.ref r1), .unset]) own_d20_4 rfl rfl rfl
  replace R := R.iconst (pc' := 6) (z := (0 : Int32)) own_d20_5 rfl rfl
  replace R := R.istore (pc' := 8) (l' := #[.val (.ref q), .val (.int (0 : Int32)), .val (.int (4 : Int32)), .val (.ref r1), .val (.int (0 : Int32))]) own_d20_6 rfl rfl
  replace R := R.iload (pc' := 10) (v := (0 : Int32)) own_d20_8 rfl rfl
  replace R := R.iloadN (pc' := 11) (v := (4 : Int32)) own_d20_10 rfl rfl
  replace R := R.icmpN (pc' := 14) own_d20_11 (tlt (by decide : (0 : Int32) < (4 : Int32))).2.1 rfl
  replace R := R.aloadN (pc' := 15) (v := (.ref r1)) own_d20_14 rfl rfl rfl
  replace R := R.iload (pc' := 17) (v := (0 : Int32)) own_d20_15 rfl rfl
  replace R := R.aloadN (pc' := 18) (v := (.ref q)) own_d20_17 rfl rfl rfl
  replace R := R.iloadN (pc' := 19) (v := (0 : Int32)) own_d20_18 rfl rfl
  have K2 := ((Keep.refl h []).trans K1 all0)
  have F3 := V_q.keep K2 nin0
  replace R := R.caload (pc' := 20) (v := (.int x0)) F3 ⟨by decide, by decide⟩ rfl own_d20_19 rfl
  obtain ⟨_, h4, _, ⟨rfl, K4, V4, rfl⟩, R⟩ := R.callS (pc' := 23) (argsL := [(.ref r1), (.int (0 : Int32)), (.int x0)]) (rest := []) (W := 0) (own_w98 hw) (own_w99 hw) (own_w49 hw) (own_w100 hw) (by decide) (rm_pch C.l Z a0 hw r1 (0 : Int32) x0 h1 n0 (r1 :: Ds) own_u (k := 0) (m := 4) rfl (by decide) (by decide) rfl (List.mem_of_getElem? (i := 0) rfl) V1) rfl (lenOf own_pd10 rfl) rfl rfl own_d20_20 (by decide) (by decide) (by decide) (by decide) rfl
  have V4p : Arv Z h4 r1 k1 .byte (8 : Int32) [(.int (StrChars.lo8 x0)), (.int (StrChars.hi8 x0)), (.int (0 : Int32)), (.int (0 : Int32)), (.int (0 : Int32)), (.int (0 : Int32)), (.int (0 : Int32)), (.int (0 : Int32))] (.int 0) := V4
  replace R := R.mono (ce' := 1) (sl' := 8) (by decide) (by decide)
  replace R := R.stk (S' := []) rfl
  replace R := R.iinc (pc' := 26) (l' := #[.val (.ref q), .val (.int (1 : Int32)), .val (.int (4 : Int32)), .val (.ref r1), .val (.int (0 : Int32))]) own_d20_23 rfl rfl rfl
  replace R := R.iinc (pc' := 29) (l' := #[.val (.ref q), .val (.int (1 : Int32)), .val (.int (4 : Int32)), .val (.ref r1), .val (.int (1 : Int32))]) own_d20_26 rfl rfl rfl
  replace R := R.goto (pc' := 8) own_d20_29 (by decide) rfl
  replace R := R.iload (pc' := 10) (v := (1 : Int32)) own_d20_8 rfl rfl
  replace R := R.iloadN (pc' := 11) (v := (4 : Int32)) own_d20_10 rfl rfl
  replace R := R.icmpN (pc' := 14) own_d20_11 (tlt (by decide : (1 : Int32) < (4 : Int32))).2.1 rfl
  replace R := R.aloadN (pc' := 15) (v := (.ref r1)) own_d20_14 rfl rfl rfl
  replace R := R.iload (pc' := 17) (v := (1 : Int32)) own_d20_15 rfl rfl
  replace R := R.aloadN (pc' := 18) (v := (.ref q)) own_d20_17 rfl rfl rfl
  replace R := R.iloadN (pc' := 19) (v := (1 : Int32)) own_d20_18 rfl rfl
  have K5 := ((Keep.refl h1 [r1]).trans K4 (allS (Or.inl (List.mem_of_getElem? (i := 0) rfl)) all0))
  have F6 := F3.keep K5 (ninS nqb nin0)
  replace R := R.caload (pc' := 20) (v := (.int x1)) F6 ⟨by decide, by decide⟩ rfl own_d20_19 rfl
  obtain ⟨_, h7, _, ⟨rfl, K7, V7, rfl⟩, R⟩ := R.callS (pc' := 23) (argsL := [(.ref r1), (.int (1 : Int32)), (.int x1)]) (rest := []) (W := 0) (own_w98 hw) (own_w99 hw) (own_w49 hw) (own_w100 hw) (by decide) (rm_pch C.l Z a0 hw r1 (1 : Int32) x1 h4 n0 (r1 :: Ds) own_u (k := 1) (m := 4) rfl (by decide) (by decide) rfl (List.mem_of_getElem? (i := 0) rfl) V4p) rfl (lenOf own_pd10 rfl) rfl rfl own_d20_20 (by decide) (by decide) (by decide) (by decide) rfl
  have V7p : Arv Z h7 r1 k1 .byte (8 : Int32) [(.int (StrChars.lo8 x0)), (.int (StrChars.hi8 x0)), (.int (StrChars.lo8 x1)), (.int (StrChars.hi8 x1)), (.int (0 : Int32)), (.int (0 : Int32)), (.int (0 : Int32)), (.int (0 : Int32))] (.int 0) := V7
  replace R := R.mono (ce' := 1) (sl' := 8) (by decide) (by decide)
  replace R := R.stk (S' := []) rfl
  replace R := R.iinc (pc' := 26) (l' := #[.val (.ref q), .val (.int (2 : Int32)), .val (.int (4 : Int32)), .val (.ref r1), .val (.int (1 : Int32))]) own_d20_23 rfl rfl rfl
  replace R := R.iinc (pc' := 29) (l' := #[.val (.ref q), .val (.int (2 : Int32)), .val (.int (4 : Int32)), .val (.ref r1), .val (.int (2 : Int32))]) own_d20_26 rfl rfl rfl
  replace R := R.goto (pc' := 8) own_d20_29 (by decide) rfl
  replace R := R.iload (pc' := 10) (v := (2 : Int32)) own_d20_8 rfl rfl
  replace R := R.iloadN (pc' := 11) (v := (4 : Int32)) own_d20_10 rfl rfl
  replace R := R.icmpN (pc' := 14) own_d20_11 (tlt (by decide : (2 : Int32) < (4 : Int32))).2.1 rfl
  replace R := R.aloadN (pc' := 15) (v := (.ref r1)) own_d20_14 rfl rfl rfl
  replace R := R.iload (pc' := 17) (v := (2 : Int32)) own_d20_15 rfl rfl
  replace R := R.aloadN (pc' := 18) (v := (.ref q)) own_d20_17 rfl rfl rfl
  replace R := R.iloadN (pc' := 19) (v := (2 : Int32)) own_d20_18 rfl rfl
  have K8 := ((Keep.refl h4 [r1]).trans K7 (allS (Or.inl (List.mem_of_getElem? (i := 0) rfl)) all0))
  have F9 := F6.keep K8 (ninS nqb nin0)
  replace R := R.caload (pc' := 20) (v := (.int x2)) F9 ⟨by decide, by decide⟩ rfl own_d20_19 rfl
  obtain ⟨_, h10, _, ⟨rfl, K10, V10, rfl⟩, R⟩ := R.callS (pc' := 23) (argsL := [(.ref r1), (.int (2 : Int32)), (.int x2)]) (rest := []) (W := 0) (own_w98 hw) (own_w99 hw) (own_w49 hw) (own_w100 hw) (by decide) (rm_pch C.l Z a0 hw r1 (2 : Int32) x2 h7 n0 (r1 :: Ds) own_u (k := 2) (m := 4) rfl (by decide) (by decide) rfl (List.mem_of_getElem? (i := 0) rfl) V7p) rfl (lenOf own_pd10 rfl) rfl rfl own_d20_20 (by decide) (by decide) (by decide) (by decide) rfl
  have V10p : Arv Z h10 r1 k1 .byte (8 : Int32) [(.int (StrChars.lo8 x0)), (.int (StrChars.hi8 x0)), (.int (StrChars.lo8 x1)), (.int (StrChars.hi8 x1)), (.int (StrChars.lo8 x2)), (.int (StrChars.hi8 x2)), (.int (0 : Int32)), (.int (0 : Int32))] (.int 0) := V10
  replace R := R.mono (ce' := 1) (sl' := 8) (by decide) (by decide)
  replace R := R.stk (S' := []) rfl
  replace R := R.iinc (pc' := 26) (l' := #[.val (.ref q), .val (.int (3 : Int32)), .val (.int (4 : Int32)), .val (.ref r1), .val (.int (2 : Int32))]) own_d20_23 rfl rfl rfl
  replace R := R.iinc (pc' := 29) (l' := #[.val (.ref q), .val (.int (3 : Int32)), .val (.int (4 : Int32)), .val (.ref r1), .val (.int (3 : Int32))]) own_d20_26 rfl rfl rfl
  replace R := R.goto (pc' := 8) own_d20_29 (by decide) rfl
  replace R := R.iload (pc' := 10) (v := (3 : Int32)) own_d20_8 rfl rfl
  replace R := R.iloadN (pc' := 11) (v := (4 : Int32)) own_d20_10 rfl rfl
  replace R := R.icmpN (pc' := 14) own_d20_11 (tlt (by decide : (3 : Int32) < (4 : Int32))).2.1 rfl
  replace R := R.aloadN (pc' := 15) (v := (.ref r1)) own_d20_14 rfl rfl rfl
  replace R := R.iload (pc' := 17) (v := (3 : Int32)) own_d20_15 rfl rfl
  replace R := R.aloadN (pc' := 18) (v := (.ref q)) own_d20_17 rfl rfl rfl
  replace R := R.iloadN (pc' := 19) (v := (3 : Int32)) own_d20_18 rfl rfl
  have K11 := ((Keep.refl h7 [r1]).trans K10 (allS (Or.inl (List.mem_of_getElem? (i := 0) rfl)) all0))
  have F12 := F9.keep K11 (ninS nqb nin0)
  replace R := R.caload (pc' := 20) (v := (.int x3)) F12 ⟨by decide, by decide⟩ rfl own_d20_19 rfl
  obtain ⟨_, h13, _, ⟨rfl, K13, V13, rfl⟩, R⟩ := R.callS (pc' := 23) (argsL := [(.ref r1), (.int (3 : Int32)), (.int x3)]) (rest := []) (W := 0) (own_w98 hw) (own_w99 hw) (own_w49 hw) (own_w100 hw) (by decide) (rm_pch C.l Z a0 hw r1 (3 : Int32) x3 h10 n0 (r1 :: Ds) own_u (k := 3) (m := 4) rfl (by decide) (by decide) rfl (List.mem_of_getElem? (i := 0) rfl) V10p) rfl (lenOf own_pd10 rfl) rfl rfl own_d20_20 (by decide) (by decide) (by decide) (by decide) rfl
  have V13p : Arv Z h13 r1 k1 .byte (8 : Int32) [(.int (StrChars.lo8 x0)), (.int (StrChars.hi8 x0)), (.int (StrChars.lo8 x1)), (.int (StrChars.hi8 x1)), (.int (StrChars.lo8 x2)), (.int (StrChars.hi8 x2)), (.int (StrChars.lo8 x3)), (.int (StrChars.hi8 x3))] (.int 0) := V13
  replace R := R.mono (ce' := 1) (sl' := 8) (by decide) (by decide)
  replace R := R.stk (S' := []) rfl
  replace R := R.iinc (pc' := 26) (l' := #[.val (.ref q), .val (.int (4 : Int32)), .val (.int (4 : Int32)), .val (.ref r1), .val (.int (3 : Int32))]) own_d20_23 rfl rfl rfl
  replace R := R.iinc (pc' := 29) (l' := #[.val (.ref q), .val (.int (4 : Int32)), .val (.int (4 : Int32)), .val (.ref r1), .val (.int (4 : Int32))]) own_d20_26 rfl rfl rfl
  replace R := R.goto (pc' := 8) own_d20_29 (by decide) rfl
  replace R := R.iload (pc' := 10) (v := (4 : Int32)) own_d20_8 rfl rfl
  replace R := R.iloadN (pc' := 11) (v := (4 : Int32)) own_d20_10 rfl rfl
  replace R := R.icmpY (pc' := 32) own_d20_11 (flt (by decide : ¬ ((4 : Int32) < (4 : Int32)))).2.1 (by decide) rfl
  replace R := R.aloadN (pc' := 33) (v := (.ref r1)) own_d20_32 rfl rfl rfl
  have hK := ((((((Keep.refl h []).trans K1 all0).trans K4 (allS (Or.inr (by rw [g1]; exact (Nat.le_refl _))) all0)).trans K7 (allS (Or.inr (by rw [g1]; exact (Nat.le_refl _))) all0)).trans K10 (allS (Or.inr (by rw [g1]; exact (Nat.le_refl _))) all0)).trans K13 (allS (Or.inr (by rw [g1]; exact (Nat.le_refl _))) all0))
  exact R.retA (Ds' := Ds) hret rfl rfl rfl own_d20_33 (by decide) (by decide) (fun _ q => (fun q => (List.mem_cons_of_mem _ q)) q) ⟨r1, _, rfl, hK, V13p, rfl⟩
set_option maxRecDepth 65536 in
set_option maxHeartbeats 4000000 in
theorem rm_c54 (l : Launch) (Z : State) (a0 : Array Value) (hw : ∀ d ∈ tables_1, d.before a0 Z = true) (h : Heap) (n0 : Nat) (Ds : List Addr) {x0 x1 x2 x3 : Int32} (hok : ∀ c ∈ ([x0, x1, x2, x3] : List Int32), ¬ c < 0 ∧ ¬ (65535 : Int32) < c) {q : Addr} {kq : ClassId} (V_q : Arv Z h q kq .char (4 : Int32) ([Value.int x0, Value.int x1, Value.int x2, Value.int x3]) (.int 0)) {b : Addr} {kb : ClassId} (hb : b ∈ Ds) (nqb : q ≠ b) (V_b : Arv Z h b kb .byte (4 : Int32) [(.int (0 : Int32)), (.int (0 : Int32)), (.int (0 : Int32)), (.int (0 : Int32))] (.int 0)) :
    Ctr l Z (⟨"java/lang/StringUTF16", "compress", "([CI[BII)I"⟩ : MethodName) jdk_52_method_21_code 7 (some .int) [] ({ frames := 0, cells := 0, slots := 0, locals := 0 } : Room) #[.ref q, .int (0 : Int32), .ref b, .int (0 : Int32), .int (4 : Int32)] h n0 Ds (fun v h' Ds' => Keep h h' [b] ∧ Ds = Ds' ∧ ((v = some (.int (4 : Int32)) ∧ (∀ c ∈ ([x0, x1, x2, x3] : List Int32), ¬ c < 0 ∧ ¬ (255 : Int32) < c) ∧ Arv Z h' b kb .byte (4 : Int32) [(.int x0.toInt8.toInt32), (.int x1.toInt8.toInt32), (.int x2.toInt8.toInt32), (.int x3.toInt8.toInt32)] (.int 0)) ∨ (v = some (.int (0 : Int32)) ∧ (255 : Int32) < x0) ∨ (v = some (.int (1 : Int32)) ∧ (255 : Int32) < x1) ∨ (v = some (.int (2 : Int32)) ∧ (255 : Int32) < x2) ∨ (v = some (.int (3 : Int32)) ∧ (255 : Int32) < x3))) := by
  refine ctr_of (Ls := #[.val (.ref q), .val (.int (0 : Int32)), .val (.ref b), .val (.int (0 : Int32)), .val (.int (4 : Int32)), .unset, .unset]) (plainFor_of_name own_pn3) (fun m => by first | (simp [entryFrame, mkF, argsToLocals, Value.category]; done) | rfl) ?_
  intro C hl hret hnm R
  subst hl
  replace R := R.iconst (pc' := 1) (z := (0 : Int32)) own_d10_0 rfl rfl
  replace R := R.istore (pc' := 3) (l' := #[.val (.ref q), .val (.int (0 : Int32)), .val (.ref b), .val (.int (0 : Int32)), .val (.int (4 : Int32)), .val (.int (0 : Int32)), .unset]) own_d10_1 rfl rfl
  replace R := R.iload (pc' := 5) (v := (0 : Int32)) own_d10_3 rfl rfl
  replace R := R.iload (pc' := 7) (v := (4 : Int32)) own_d10_5 rfl rfl
  replace R := R.icmpN (pc' := 10) own_d10_7 (tlt (by decide : (0 : Int32) < (4 : Int32))).2.1 rfl
  replace R := R.aloadN (pc' := 11) (v := (.ref q)) own_d10_10 rfl rfl rfl
  replace R := R.iloadN (pc' := 12) (v := (0 : Int32)) own_d10_11 rfl rfl
  replace R := R.caload (pc' := 13) (v := (.int x0)) V_q ⟨by decide, by decide⟩ rfl own_d10_12 rfl
  replace R := R.istore (pc' := 15) (l' := #[.val (.ref q), .val (.int (0 : Int32)), .val (.ref b), .val (.int (0 : Int32)), .val (.int (4 : Int32)), .val (.int (0 : Int32)), .val (.int x0)]) own_d10_13 rfl rfl
  replace R := R.iload (pc' := 17) (v := x0) own_d10_15 rfl rfl
  replace R := R.sipush (pc' := 20) (z := (255 : Int32)) own_d10_17 rfl rfl
  by_cases hc1 : (255 : Int32) < x0
  · replace R := R.icmpN (pc' := 23) own_d10_20 (tlt hc1).2.2.2 rfl
    replace R := R.iload (pc' := 25) (v := (0 : Int32)) own_d10_23 rfl rfl
    have hK : Keep h h [b] := Keep.refl h [b]
    exact R.retI (Ds' := Ds) hret own_d10_25 (by decide) (by decide) (fun _ q => q) ⟨hK, rfl, Or.inr (Or.inl ⟨rfl, hc1⟩)⟩
  · replace R := R.icmpY (pc' := 26) own_d10_20 (flt hc1).2.2.2 (by decide) rfl
    replace R := R.aloadN (pc' := 27) (v := (.ref b)) own_d10_26 rfl rfl rfl
    replace R := R.iloadN (pc' := 28) (v := (0 : Int32)) own_d10_27 rfl rfl
    replace R := R.iload (pc' := 30) (v := x0) own_d10_28 rfl rfl
    replace R := R.i2b (pc' := 31) own_d10_30 rfl
    obtain ⟨h2, K2, V2, R⟩ := R.bastore (pc' := 32) V_b ⟨by decide, by decide⟩ 0 rfl (Nat.le_of_ble_eq_true rfl) hb own_d10_31 rfl
    have V2p : Arv Z h2 b kb .byte (4 : Int32) [(.int x0.toInt8.toInt32), (.int (0 : Int32)), (.int (0 : Int32)), (.int (0 : Int32))] (.int 0) := by
      have q := V2
      rw [nar_i2b x0] at q
      exact q
    replace R := R.iinc (pc' := 35) (l' := #[.val (.ref q), .val (.int (1 : Int32)), .val (.ref b), .val (.int (0 : Int32)), .val (.int (4 : Int32)), .val (.int (0 : Int32)), .val (.int x0)]) own_d10_32 rfl rfl rfl
    replace R := R.iinc (pc' := 38) (l' := #[.val (.ref q), .val (.int (1 : Int32)), .val (.ref b), .val (.int (1 : Int32)), .val (.int (4 : Int32)), .val (.int (0 : Int32)), .val (.int x0)]) own_d10_35 rfl rfl rfl
    replace R := R.iinc (pc' := 41) (l' := #[.val (.ref q), .val (.int (1 : Int32)), .val (.ref b), .val (.int (1 : Int32)), .val (.int (4 : Int32)), .val (.int (1 : Int32)), .val (.int x0)]) own_d10_38 rfl rfl rfl
    replace R := R.goto (pc' := 3) own_d10_41 (by decide) rfl
    replace R := R.iload (pc' := 5) (v := (1 : Int32)) own_d10_3 rfl rfl
    replace R := R.iload (pc' := 7) (v := (4 : Int32)) own_d10_5 rfl rfl
    replace R := R.icmpN (pc' := 10) own_d10_7 (tlt (by decide : (1 : Int32) < (4 : Int32))).2.1 rfl
    replace R := R.aloadN (pc' := 11) (v := (.ref q)) own_d10_10 rfl rfl rfl
    replace R := R.iloadN (pc' := 12) (v := (1 : Int32)) own_d10_11 rfl rfl
    have K3 := ((Keep.refl h [b]).trans K2 (allS (Or.inl (List.mem_of_getElem? (i := 0) rfl)) all0))
    have F4 := V_q.keep K3 (ninS nqb nin0)
    replace R := R.caload (pc' := 13) (v := (.int x1)) F4 ⟨by decide, by decide⟩ rfl own_d10_12 rfl
    replace R := R.istore (pc' := 15) (l' := #[.val (.ref q), .val (.int (1 : Int32)), .val (.ref b), .val (.int (1 : Int32)), .val (.int (4 : Int32)), .val (.int (1 : Int32)), .val (.int x1)]) own_d10_13 rfl rfl
    replace R := R.iload (pc' := 17) (v := x1) own_d10_15 rfl rfl
    replace R := R.sipush (pc' := 20) (z := (255 : Int32)) own_d10_17 rfl rfl
    by_cases hc5 : (255 : Int32) < x1
    · replace R := R.icmpN (pc' := 23) own_d10_20 (tlt hc5).2.2.2 rfl
      replace R := R.iload (pc' := 25) (v := (1 : Int32)) own_d10_23 rfl rfl
      have hK : Keep h h2 [b] := ((Keep.refl h [b]).trans K2 (allS (Or.inl (List.mem_of_getElem? (i := 0) rfl)) all0))
      exact R.retI (Ds' := Ds) hret own_d10_25 (by decide) (by decide) (fun _ q => q) ⟨hK, rfl, Or.inr (Or.inr (Or.inl ⟨rfl, hc5⟩))⟩
    · replace R := R.icmpY (pc' := 26) own_d10_20 (flt hc5).2.2.2 (by decide) rfl
      replace R := R.aloadN (pc' := 27) (v := (.ref b)) own_d10_26 rfl rfl rfl
      replace R := R.iloadN (pc' := 28) (v := (1 : Int32)) own_d10_27 rfl rfl
      replace R := R.iload (pc' := 30) (v := x1) own_d10_28 rfl rfl
      replace R := R.i2b (pc' := 31) own_d10_30 rfl
      obtain ⟨h6, K6, V6, R⟩ := R.bastore (pc' := 32) V2p ⟨by decide, by decide⟩ 1 rfl (Nat.le_of_ble_eq_true rfl) hb own_d10_31 rfl
      have V6p : Arv Z h6 b kb .byte (4 : Int32) [(.int x0.toInt8.toInt32), (.int x1.toInt8.toInt32), (.int (0 : Int32)), (.int (0 : Int32))] (.int 0) := by
        have q := V6
        rw [nar_i2b x1] at q
        exact q
      replace R := R.iinc (pc' := 35) (l' := #[.val (.ref q), .val (.int (2 : Int32)), .val (.ref b), .val (.int (1 : Int32)), .val (.int (4 : Int32)), .val (.int (1 : Int32)), .val (.int x1)]) own_d10_32 rfl rfl rfl
      replace R := R.iinc (pc' := 38) (l' := #[.val (.ref q), .val (.int (2 : Int32)), .val (.ref b), .val (.int (2 : Int32)), .val (.int (4 : Int32)), .val (.int (1 : Int32)), .val (.int x1)]) own_d10_35 rfl rfl rfl
      replace R := R.iinc (pc' := 41) (l' := #[.val (.ref q), .val (.int (2 : Int32)), .val (.ref b), .val (.int (2 : Int32)), .val (.int (4 : Int32)), .val (.int (2 : Int32)), .val (.int x1)]) own_d10_38 rfl rfl rfl
      replace R := R.goto (pc' := 3) own_d10_41 (by decide) rfl
      replace R := R.iload (pc' := 5) (v := (2 : Int32)) own_d10_3 rfl rfl
      replace R := R.iload (pc' := 7) (v := (4 : Int32)) own_d10_5 rfl rfl
      replace R := R.icmpN (pc' := 10) own_d10_7 (tlt (by decide : (2 : Int32) < (4 : Int32))).2.1 rfl
      replace R := R.aloadN (pc' := 11) (v := (.ref q)) own_d10_10 rfl rfl rfl
      replace R := R.iloadN (pc' := 12) (v := (2 : Int32)) own_d10_11 rfl rfl
      have K7 := ((Keep.refl h2 [b]).trans K6 (allS (Or.inl (List.mem_of_getElem? (i := 0) rfl)) all0))
      have F8 := F4.keep K7 (ninS nqb nin0)
      replace R := R.caload (pc' := 13) (v := (.int x2)) F8 ⟨by decide, by decide⟩ rfl own_d10_12 rfl
      replace R := R.istore (pc' := 15) (l' := #[.val (.ref q), .val (.int (2 : Int32)), .val (.ref b), .val (.int (2 : Int32)), .val (.int (4 : Int32)), .val (.int (2 : Int32)), .val (.int x2)]) own_d10_13 rfl rfl
      replace R := R.iload (pc' := 17) (v := x2) own_d10_15 rfl rfl
      replace R := R.sipush (pc' := 20) (z := (255 : Int32)) own_d10_17 rfl rfl
      by_cases hc9 : (255 : Int32) < x2
      · replace R := R.icmpN (pc' := 23) own_d10_20 (tlt hc9).2.2.2 rfl
        replace R := R.iload (pc' := 25) (v := (2 : Int32)) own_d10_23 rfl rfl
        have hK : Keep h h6 [b] := (((Keep.refl h [b]).trans K2 (allS (Or.inl (List.mem_of_getElem? (i := 0) rfl)) all0)).trans K6 (allS (Or.inl (List.mem_of_getElem? (i := 0) rfl)) all0))
        exact R.retI (Ds' := Ds) hret own_d10_25 (by decide) (by decide) (fun _ q => q) ⟨hK, rfl, Or.inr (Or.inr (Or.inr (Or.inl ⟨rfl, hc9⟩)))⟩
      · replace R := R.icmpY (pc' := 26) own_d10_20 (flt hc9).2.2.2 (by decide) rfl
        replace R := R.aloadN (pc' := 27) (v := (.ref b)) own_d10_26 rfl rfl rfl
        replace R := R.iloadN (pc' := 28) (v := (2 : Int32)) own_d10_27 rfl rfl
        replace R := R.iload (pc' := 30) (v := x2) own_d10_28 rfl rfl
        replace R := R.i2b (pc' := 31) own_d10_30 rfl
        obtain ⟨h10, K10, V10, R⟩ := R.bastore (pc' := 32) V6p ⟨by decide, by decide⟩ 2 rfl (Nat.le_of_ble_eq_true rfl) hb own_d10_31 rfl
        have V10p : Arv Z h10 b kb .byte (4 : Int32) [(.int x0.toInt8.toInt32), (.int x1.toInt8.toInt32), (.int x2.toInt8.toInt32), (.int (0 : Int32))] (.int 0) := by
          have q := V10
          rw [nar_i2b x2] at q
          exact q
        replace R := R.iinc (pc' := 35) (l' := #[.val (.ref q), .val (.int (3 : Int32)), .val (.ref b), .val (.int (2 : Int32)), .val (.int (4 : Int32)), .val (.int (2 : Int32)), .val (.int x2)]) own_d10_32 rfl rfl rfl
        replace R := R.iinc (pc' := 38) (l' := #[.val (.ref q), .val (.int (3 : Int32)), .val (.ref b), .val (.int (3 : Int32)), .val (.int (4 : Int32)), .val (.int (2 : Int32)), .val (.int x2)]) own_d10_35 rfl rfl rfl
        replace R := R.iinc (pc' := 41) (l' := #[.val (.ref q), .val (.int (3 : Int32)), .val (.ref b), .val (.int (3 : Int32)), .val (.int (4 : Int32)), .val (.int (3 : Int32)), .val (.int x2)]) own_d10_38 rfl rfl rfl
        replace R := R.goto (pc' := 3) own_d10_41 (by decide) rfl
        replace R := R.iload (pc' := 5) (v := (3 : Int32)) own_d10_3 rfl rfl
        replace R := R.iload (pc' := 7) (v := (4 : Int32)) own_d10_5 rfl rfl
        replace R := R.icmpN (pc' := 10) own_d10_7 (tlt (by decide : (3 : Int32) < (4 : Int32))).2.1 rfl
        replace R := R.aloadN (pc' := 11) (v := (.ref q)) own_d10_10 rfl rfl rfl
        replace R := R.iloadN (pc' := 12) (v := (3 : Int32)) own_d10_11 rfl rfl
        have K11 := ((Keep.refl h6 [b]).trans K10 (allS (Or.inl (List.mem_of_getElem? (i := 0) rfl)) all0))
        have F12 := F8.keep K11 (ninS nqb nin0)
        replace R := R.caload (pc' := 13) (v := (.int x3)) F12 ⟨by decide, by decide⟩ rfl own_d10_12 rfl
        replace R := R.istore (pc' := 15) (l' := #[.val (.ref q), .val (.int (3 : Int32)), .val (.ref b), .val (.int (3 : Int32)), .val (.int (4 : Int32)), .val (.int (3 : Int32)), .val (.int x3)]) own_d10_13 rfl rfl
        replace R := R.iload (pc' := 17) (v := x3) own_d10_15 rfl rfl
        replace R := R.sipush (pc' := 20) (z := (255 : Int32)) own_d10_17 rfl rfl
        by_cases hc13 : (255 : Int32) < x3
        · replace R := R.icmpN (pc' := 23) own_d10_20 (tlt hc13).2.2.2 rfl
          replace R := R.iload (pc' := 25) (v := (3 : Int32)) own_d10_23 rfl rfl
          have hK : Keep h h10 [b] := ((((Keep.refl h [b]).trans K2 (allS (Or.inl (List.mem_of_getElem? (i := 0) rfl)) all0)).trans K6 (allS (Or.inl (List.mem_of_getElem? (i := 0) rfl)) all0)).trans K10 (allS (Or.inl (List.mem_of_getElem? (i := 0) rfl)) all0))
          exact R.retI (Ds' := Ds) hret own_d10_25 (by decide) (by decide) (fun _ q => q) ⟨hK, rfl, Or.inr (Or.inr (Or.inr (Or.inr (⟨rfl, hc13⟩))))⟩
        · replace R := R.icmpY (pc' := 26) own_d10_20 (flt hc13).2.2.2 (by decide) rfl
          replace R := R.aloadN (pc' := 27) (v := (.ref b)) own_d10_26 rfl rfl rfl
          replace R := R.iloadN (pc' := 28) (v := (3 : Int32)) own_d10_27 rfl rfl
          replace R := R.iload (pc' := 30) (v := x3) own_d10_28 rfl rfl
          replace R := R.i2b (pc' := 31) own_d10_30 rfl
          obtain ⟨h14, K14, V14, R⟩ := R.bastore (pc' := 32) V10p ⟨by decide, by decide⟩ 3 rfl (Nat.le_of_ble_eq_true rfl) hb own_d10_31 rfl
          have V14p : Arv Z h14 b kb .byte (4 : Int32) [(.int x0.toInt8.toInt32), (.int x1.toInt8.toInt32), (.int x2.toInt8.toInt32), (.int x3.toInt8.toInt32)] (.int 0) := by
            have q := V14
            rw [nar_i2b x3] at q
            exact q
          replace R := R.iinc (pc' := 35) (l' := #[.val (.ref q), .val (.int (4 : Int32)), .val (.ref b), .val (.int (3 : Int32)), .val (.int (4 : Int32)), .val (.int (3 : Int32)), .val (.int x3)]) own_d10_32 rfl rfl rfl
          replace R := R.iinc (pc' := 38) (l' := #[.val (.ref q), .val (.int (4 : Int32)), .val (.ref b), .val (.int (4 : Int32)), .val (.int (4 : Int32)), .val (.int (3 : Int32)), .val (.int x3)]) own_d10_35 rfl rfl rfl
          replace R := R.iinc (pc' := 41) (l' := #[.val (.ref q), .val (.int (4 : Int32)), .val (.ref b), .val (.int (4 : Int32)), .val (.int (4 : Int32)), .val (.int (4 : Int32)), .val (.int x3)]) own_d10_38 rfl rfl rfl
          replace R := R.goto (pc' := 3) own_d10_41 (by decide) rfl
          replace R := R.iload (pc' := 5) (v := (4 : Int32)) own_d10_3 rfl rfl
          replace R := R.iload (pc' := 7) (v := (4 : Int32)) own_d10_5 rfl rfl
          replace R := R.icmpY (pc' := 44) own_d10_7 (flt (by decide : ¬ ((4 : Int32) < (4 : Int32)))).2.1 (by decide) rfl
          replace R := R.iload (pc' := 46) (v := (4 : Int32)) own_d10_44 rfl rfl
          have hK : Keep h h14 [b] := (((((Keep.refl h [b]).trans K2 (allS (Or.inl (List.mem_of_getElem? (i := 0) rfl)) all0)).trans K6 (allS (Or.inl (List.mem_of_getElem? (i := 0) rfl)) all0)).trans K10 (allS (Or.inl (List.mem_of_getElem? (i := 0) rfl)) all0)).trans K14 (allS (Or.inl (List.mem_of_getElem? (i := 0) rfl)) all0))
          exact R.retI (Ds' := Ds) hret own_d10_46 (by decide) (by decide) (fun _ q => q) ⟨hK, rfl, Or.inl ⟨rfl, (chS ⟨(hok x0 (List.mem_of_getElem? (i := 0) rfl)).1, hc1⟩ (chS ⟨(hok x1 (List.mem_of_getElem? (i := 1) rfl)).1, hc5⟩ (chS ⟨(hok x2 (List.mem_of_getElem? (i := 2) rfl)).1, hc9⟩ (chS ⟨(hok x3 (List.mem_of_getElem? (i := 3) rfl)).1, hc13⟩ ch0)))), V14p⟩⟩
set_option maxRecDepth 65536 in
set_option maxHeartbeats 4000000 in
theorem rm_c34 (l : Launch) (Z : State) (a0 : Array Value) (hw : ∀ d ∈ tables_1, d.before a0 Z = true) (h : Heap) (n0 : Nat) (Ds : List Addr) (own_u : U16ok Z) {x0 x1 x2 x3 : Int32} (hok : ∀ c ∈ ([x0, x1, x2, x3] : List Int32), ¬ c < 0 ∧ ¬ (65535 : Int32) < c) {q : Addr} {kq : ClassId} (V_q : Arv Z h q kq .char (4 : Int32) ([Value.int x0, Value.int x1, Value.int x2, Value.int x3]) (.int 0)) :
    Ctr l Z (⟨"java/lang/StringUTF16", "compress", "([CII)[B"⟩ : MethodName) jdk_52_method_16_code 6 (some (.array .byte)) [] ({ frames := 3, cells := 2, slots := 12, locals := 40 } : Room) #[.ref q, .int (0 : Int32), .int (4 : Int32)] h n0 Ds (fun v h' Ds' => ∃ (b : Addr) (kb : ClassId), v = some (.ref b) ∧ Keep h h' [] ∧ Ds = Ds' ∧ (((∀ c ∈ ([x0, x1, x2, x3] : List Int32), ¬ c < 0 ∧ ¬ (255 : Int32) < c) ∧ Arv Z h' b kb .byte (4 : Int32) [(.int x0.toInt8.toInt32), (.int x1.toInt8.toInt32), (.int x2.toInt8.toInt32), (.int x3.toInt8.toInt32)] (.int 0)) ∨ Arv Z h' b kb .byte (8 : Int32) [(.int (StrChars.lo8 x0)), (.int (StrChars.hi8 x0)), (.int (StrChars.lo8 x1)), (.int (StrChars.hi8 x1)), (.int (StrChars.lo8 x2)), (.int (StrChars.hi8 x2)), (.int (StrChars.lo8 x3)), (.int (StrChars.hi8 x3))] (.int 0))) := by
  refine ctr_of (Ls := #[.val (.ref q), .val (.int (0 : Int32)), .val (.int (4 : Int32)), .unset, .unset, .unset]) (plainFor_of_name own_pn3) (fun m => by first | (simp [entryFrame, mkF, argsToLocals, Value.category]; done) | rfl) ?_
  intro C hl hret hnm R
  subst hl
  have hql : q < h.size := V_q.lt
  replace R := R.iloadN (pc' := 1) (v := (4 : Int32)) own_d9_0 rfl rfl
  obtain ⟨h1, b1, k1, g1, E1, V1, R⟩ := R.newP (pc' := 3) (aty := .byte) (cap := 4) (own_w25 hw) own_d9_1 (by decide) (by decide) (by decide) (by decide) (by decide) rfl
  have V1p : Arv Z h1 b1 k1 .byte (4 : Int32) [(.int (0 : Int32)), (.int (0 : Int32)), (.int (0 : Int32)), (.int (0 : Int32))] (.int (0 : Int32)) := V1.pad (pad_rep [] (.int (0 : Int32)) 4)
  replace R := R.astoreN (pc' := 4) (l' := #[.val (.ref q), .val (.int (0 : Int32)), .val (.int (4 : Int32)), .val (.ref b1), .unset, .unset]) own_d9_3 rfl rfl rfl
  replace R := R.aloadN (pc' := 5) (v := (.ref q)) own_d9_4 rfl rfl rfl
  replace R := R.iloadN (pc' := 6) (v := (0 : Int32)) own_d9_5 rfl rfl
  replace R := R.aloadN (pc' := 7) (v := (.ref b1)) own_d9_6 rfl rfl rfl
  replace R := R.iconst (pc' := 8) (z := (0 : Int32)) own_d9_7 rfl rfl
  replace R := R.iloadN (pc' := 9) (v := (4 : Int32)) own_d9_8 rfl rfl
  have K3 := ((Keep.refl h []).trans ((Keep.refl h []).ext E1) all0)
  have F4 := V_q.keep K3 nin0
  have nqb : q ≠ b1 := fun e => by rw [e, g1] at hql; exact Nat.lt_irrefl _ hql
  obtain ⟨v2, h2, _, ⟨K2, rfl, hD2⟩, R⟩ := R.callS (pc' := 12) (argsL := [(.ref q), (.int (0 : Int32)), (.ref b1), (.int (0 : Int32)), (.int (4 : Int32))]) (rest := []) (W := 0) (own_w51 hw) (own_w52 hw) (own_w49 hw) (own_w53 hw) (by decide) (rm_c54 C.l Z a0 hw h1 n0 (b1 :: Ds) hok F4 (List.mem_of_getElem? (i := 0) rfl) nqb V1p) rfl (lenOf own_pd11 rfl) rfl rfl own_d9_9 (by decide) (by decide) (by decide) (by decide) rfl
  replace R := R.mono (ce' := 1) (sl' := 4) (by decide) (by decide)
  rcases hD2 with ⟨rfl, hL, V2⟩ | ⟨rfl, hj⟩ | ⟨rfl, hj⟩ | ⟨rfl, hj⟩ | ⟨rfl, hj⟩
  · replace R := R.stk (S' := [(.int (4 : Int32))]) rfl
    replace R := R.istore (pc' := 14) (l' := #[.val (.ref q), .val (.int (0 : Int32)), .val (.int (4 : Int32)), .val (.ref b1), .val (.int (4 : Int32)), .unset]) own_d9_12 rfl rfl
    replace R := R.iload (pc' := 16) (v := (4 : Int32)) own_d9_14 rfl rfl
    replace R := R.iloadN (pc' := 17) (v := (4 : Int32)) own_d9_16 rfl rfl
    replace R := R.icmpY (pc' := 57) own_d9_17 (teq (by decide : (4 : Int32) = (4 : Int32))).1 (by decide) rfl
    replace R := R.aloadN (pc' := 58) (v := (.ref b1)) own_d9_57 rfl rfl rfl
    have hK := (((Keep.refl h []).trans ((Keep.refl h []).ext E1) all0).trans K2 (allS (Or.inr (by rw [g1]; exact (Nat.le_refl _))) all0))
    exact R.retA (Ds' := Ds) hret rfl rfl rfl own_d9_58 (by decide) (by decide) (fun _ q => (fun q => (List.mem_cons_of_mem _ q)) q) ⟨b1, _, rfl, hK, rfl, Or.inl ⟨hL, V2⟩⟩
  · replace R := R.stk (S' := [(.int (0 : Int32))]) rfl
    replace R := R.istore (pc' := 14) (l' := #[.val (.ref q), .val (.int (0 : Int32)), .val (.int (4 : Int32)), .val (.ref b1), .val (.int (0 : Int32)), .unset]) own_d9_12 rfl rfl
    replace R := R.iload (pc' := 16) (v := (0 : Int32)) own_d9_14 rfl rfl
    replace R := R.iloadN (pc' := 17) (v := (4 : Int32)) own_d9_16 rfl rfl
    replace R := R.icmpN (pc' := 20) own_d9_17 (feq (by decide : ¬ ((0 : Int32) = (4 : Int32)))).1 rfl
    replace R := R.aloadN (pc' := 21) (v := (.ref q)) own_d9_20 rfl rfl rfl
    replace R := R.iloadN (pc' := 22) (v := (0 : Int32)) own_d9_21 rfl rfl
    replace R := R.iloadN (pc' := 23) (v := (4 : Int32)) own_d9_22 rfl rfl
    have K6 := ((Keep.refl h1 [b1]).trans K2 (allS (Or.inl (List.mem_of_getElem? (i := 0) rfl)) all0))
    have F7 := F4.keep K6 (ninS nqb nin0)
    obtain ⟨_, h5, _, ⟨r5, k5, rfl, K5, V5, rfl⟩, R⟩ := R.callS (pc' := 26) (argsL := [(.ref q), (.int (0 : Int32)), (.int (4 : Int32))]) (rest := []) (W := 0) (own_w88 hw) (own_w89 hw) (own_w49 hw) (own_w90 hw) (by decide) (rm_tb4 C.l Z a0 hw h2 n0 (b1 :: Ds) own_u hok F7) rfl (lenOf own_pd12 rfl) rfl rfl own_d9_23 (by decide) (by decide) (by decide) (by decide) rfl
    replace R := R.mono (ce' := 2) (sl' := 12) (by decide) (by decide)
    replace R := R.stk (S' := [(.ref r5)]) rfl
    replace R := R.astore (pc' := 28) (l' := #[.val (.ref q), .val (.int (0 : Int32)), .val (.int (4 : Int32)), .val (.ref b1), .val (.int (0 : Int32)), .val (.ref r5)]) own_d9_26 rfl rfl rfl
    replace R := R.aload (pc' := 30) (v := (.ref r5)) own_d9_28 rfl rfl rfl
    replace R := R.iload (pc' := 32) (v := (0 : Int32)) own_d9_30 rfl rfl
    obtain ⟨_, _, _, ⟨rfl, rfl, rfl⟩, R⟩ := R.callS (pc' := 35) (argsL := [(.ref r5), (.int (0 : Int32))]) (rest := []) (W := 0) (own_w104 hw) (own_w105 hw) (own_w49 hw) (own_w106 hw) (by decide) (rm_gc C.l Z a0 hw r5 (0 : Int32) h5 n0 (b1 :: Ds) own_u (k := 0) (m := 4) rfl (by decide) (by decide) (c := x0) (hok x0 (List.mem_of_getElem? (i := 0) rfl)) rfl rfl V5) rfl (lenOf own_pd4 rfl) rfl rfl own_d9_32 (by decide) (by decide) (by decide) (by decide) rfl
    replace R := R.mono (ce' := 2) (sl' := 12) (by decide) (by decide)
    replace R := R.stk (S' := [(.int x0)]) rfl
    replace R := R.sipush (pc' := 38) (z := (255 : Int32)) own_d9_35 rfl rfl
    replace R := R.icmpY (pc' := 54) own_d9_38 (tlt hj).2.2.1 (by decide) rfl
    replace R := R.aload (pc' := 56) (v := (.ref r5)) own_d9_54 rfl rfl rfl
    have hK := ((((Keep.refl h []).trans ((Keep.refl h []).ext E1) all0).trans K2 (allS (Or.inr (by rw [g1]; exact (Nat.le_refl _))) all0)).trans K5 all0)
    exact R.retA (Ds' := Ds) hret rfl rfl rfl own_d9_56 (by decide) (by decide) (fun _ q => (fun q => (List.mem_cons_of_mem _ q)) q) ⟨r5, _, rfl, hK, rfl, Or.inr V5⟩
  · replace R := R.stk (S' := [(.int (1 : Int32))]) rfl
    replace R := R.istore (pc' := 14) (l' := #[.val (.ref q), .val (.int (0 : Int32)), .val (.int (4 : Int32)), .val (.ref b1), .val (.int (1 : Int32)), .unset]) own_d9_12 rfl rfl
    replace R := R.iload (pc' := 16) (v := (1 : Int32)) own_d9_14 rfl rfl
    replace R := R.iloadN (pc' := 17) (v := (4 : Int32)) own_d9_16 rfl rfl
    replace R := R.icmpN (pc' := 20) own_d9_17 (feq (by decide : ¬ ((1 : Int32) = (4 : Int32)))).1 rfl
    replace R := R.aloadN (pc' := 21) (v := (.ref q)) own_d9_20 rfl rfl rfl
    replace R := R.iloadN (pc' := 22) (v := (0 : Int32)) own_d9_21 rfl rfl
    replace R := R.iloadN (pc' := 23) (v := (4 : Int32)) own_d9_22 rfl rfl
    have K9 := ((Keep.refl h1 [b1]).trans K2 (allS (Or.inl (List.mem_of_getElem? (i := 0) rfl)) all0))
    have F10 := F4.keep K9 (ninS nqb nin0)
    obtain ⟨_, h8, _, ⟨r8, k8, rfl, K8, V8, rfl⟩, R⟩ := R.callS (pc' := 26) (argsL := [(.ref q), (.int (0 : Int32)), (.int (4 : Int32))]) (rest := []) (W := 0) (own_w88 hw) (own_w89 hw) (own_w49 hw) (own_w90 hw) (by decide) (rm_tb4 C.l Z a0 hw h2 n0 (b1 :: Ds) own_u hok F10) rfl (lenOf own_pd12 rfl) rfl rfl own_d9_23 (by decide) (by decide) (by decide) (by decide) rfl
    replace R := R.mono (ce' := 2) (sl' := 12) (by decide) (by decide)
    replace R := R.stk (S' := [(.ref r8)]) rfl
    replace R := R.astore (pc' := 28) (l' := #[.val (.ref q), .val (.int (0 : Int32)), .val (.int (4 : Int32)), .val (.ref b1), .val (.int (1 : Int32)), .val (.ref r8)]) own_d9_26 rfl rfl rfl
    replace R := R.aload (pc' := 30) (v := (.ref r8)) own_d9_28 rfl rfl rfl
    replace R := R.iload (pc' := 32) (v := (1 : Int32)) own_d9_30 rfl rfl
    obtain ⟨_, _, _, ⟨rfl, rfl, rfl⟩, R⟩ := R.callS (pc' := 35) (argsL := [(.ref r8), (.int (1 : Int32))]) (rest := []) (W := 0) (own_w104 hw) (own_w105 hw) (own_w49 hw) (own_w106 hw) (by decide) (rm_gc C.l Z a0 hw r8 (1 : Int32) h8 n0 (b1 :: Ds) own_u (k := 1) (m := 4) rfl (by decide) (by decide) (c := x1) (hok x1 (List.mem_of_getElem? (i := 1) rfl)) rfl rfl V8) rfl (lenOf own_pd4 rfl) rfl rfl own_d9_32 (by decide) (by decide) (by decide) (by decide) rfl
    replace R := R.mono (ce' := 2) (sl' := 12) (by decide) (by decide)
    replace R := R.stk (S' := [(.int x1)]) rfl
    replace R := R.sipush (pc' := 38) (z := (255 : Int32)) own_d9_35 rfl rfl
    replace R := R.icmpY (pc' := 54) own_d9_38 (tlt hj).2.2.1 (by decide) rfl
    replace R := R.aload (pc' := 56) (v := (.ref r8)) own_d9_54 rfl rfl rfl
    have hK := ((((Keep.refl h []).trans ((Keep.refl h []).ext E1) all0).trans K2 (allS (Or.inr (by rw [g1]; exact (Nat.le_refl _))) all0)).trans K8 all0)
    exact R.retA (Ds' := Ds) hret rfl rfl rfl own_d9_56 (by decide) (by decide) (fun _ q => (fun q => (List.mem_cons_of_mem _ q)) q) ⟨r8, _, rfl, hK, rfl, Or.inr V8⟩
  · replace R := R.stk (S' := [(.int (2 : Int32))]) rfl
    replace R := R.istore (pc' := 14) (l' := #[.val (.ref q), .val (.int (0 : Int32)), .val (.int (4 : Int32)), .val (.ref b1), .val (.int (2 : Int32)), .unset]) own_d9_12 rfl rfl
    replace R := R.iload (pc' := 16) (v := (2 : Int32)) own_d9_14 rfl rfl
    replace R := R.iloadN (pc' := 17) (v := (4 : Int32)) own_d9_16 rfl rfl
    replace R := R.icmpN (pc' := 20) own_d9_17 (feq (by decide : ¬ ((2 : Int32) = (4 : Int32)))).1 rfl
    replace R := R.aloadN (pc' := 21) (v := (.ref q)) own_d9_20 rfl rfl rfl
    replace R := R.iloadN (pc' := 22) (v := (0 : Int32)) own_d9_21 rfl rfl
    replace R := R.iloadN (pc' := 23) (v := (4 : Int32)) own_d9_22 rfl rfl
    have K12 := ((Keep.refl h1 [b1]).trans K2 (allS (Or.inl (List.mem_of_getElem? (i := 0) rfl)) all0))
    have F13 := F4.keep K12 (ninS nqb nin0)
    obtain ⟨_, h11, _, ⟨r11, k11, rfl, K11, V11, rfl⟩, R⟩ := R.callS (pc' := 26) (argsL := [(.ref q), (.int (0 : Int32)), (.int (4 : Int32))]) (rest := []) (W := 0) (own_w88 hw) (own_w89 hw) (own_w49 hw) (own_w90 hw) (by decide) (rm_tb4 C.l Z a0 hw h2 n0 (b1 :: Ds) own_u hok F13) rfl (lenOf own_pd12 rfl) rfl rfl own_d9_23 (by decide) (by decide) (by decide) (by decide) rfl
    replace R := R.mono (ce' := 2) (sl' := 12) (by decide) (by decide)
    replace R := R.stk (S' := [(.ref r11)]) rfl
    replace R := R.astore (pc' := 28) (l' := #[.val (.ref q), .val (.int (0 : Int32)), .val (.int (4 : Int32)), .val (.ref b1), .val (.int (2 : Int32)), .val (.ref r11)]) own_d9_26 rfl rfl rfl
    replace R := R.aload (pc' := 30) (v := (.ref r11)) own_d9_28 rfl rfl rfl
    replace R := R.iload (pc' := 32) (v := (2 : Int32)) own_d9_30 rfl rfl
    obtain ⟨_, _, _, ⟨rfl, rfl, rfl⟩, R⟩ := R.callS (pc' := 35) (argsL := [(.ref r11), (.int (2 : Int32))]) (rest := []) (W := 0) (own_w104 hw) (own_w105 hw) (own_w49 hw) (own_w106 hw) (by decide) (rm_gc C.l Z a0 hw r11 (2 : Int32) h11 n0 (b1 :: Ds) own_u (k := 2) (m := 4) rfl (by decide) (by decide) (c := x2) (hok x2 (List.mem_of_getElem? (i := 2) rfl)) rfl rfl V11) rfl (lenOf own_pd4 rfl) rfl rfl own_d9_32 (by decide) (by decide) (by decide) (by decide) rfl
    replace R := R.mono (ce' := 2) (sl' := 12) (by decide) (by decide)
    replace R := R.stk (S' := [(.int x2)]) rfl
    replace R := R.sipush (pc' := 38) (z := (255 : Int32)) own_d9_35 rfl rfl
    replace R := R.icmpY (pc' := 54) own_d9_38 (tlt hj).2.2.1 (by decide) rfl
    replace R := R.aload (pc' := 56) (v := (.ref r11)) own_d9_54 rfl rfl rfl
    have hK := ((((Keep.refl h []).trans ((Keep.refl h []).ext E1) all0).trans K2 (allS (Or.inr (by rw [g1]; exact (Nat.le_refl _))) all0)).trans K11 all0)
    exact R.retA (Ds' := Ds) hret rfl rfl rfl own_d9_56 (by decide) (by decide) (fun _ q => (fun q => (List.mem_cons_of_mem _ q)) q) ⟨r11, _, rfl, hK, rfl, Or.inr V11⟩
  · replace R := R.stk (S' := [(.int (3 : Int32))]) rfl
    replace R := R.istore (pc' := 14) (l' := #[.val (.ref q), .val (.int (0 : Int32)), .val (.int (4 : Int32)), .val (.ref b1), .val (.int (3 : Int32)), .unset]) own_d9_12 rfl rfl
    replace R := R.iload (pc' := 16) (v := (3 : Int32)) own_d9_14 rfl rfl
    replace R := R.iloadN (pc' := 17) (v := (4 : Int32)) own_d9_16 rfl rfl
    replace R := R.icmpN (pc' := 20) own_d9_17 (feq (by decide : ¬ ((3 : Int32) = (4 : Int32)))).1 rfl
    replace R := R.aloadN (pc' := 21) (v := (.ref q)) own_d9_20 rfl rfl rfl
    replace R := R.iloadN (pc' := 22) (v := (0 : Int32)) own_d9_21 rfl rfl
    replace R := R.iloadN (pc' := 23) (v := (4 : Int32)) own_d9_22 rfl rfl
    have K15 := ((Keep.refl h1 [b1]).trans K2 (allS (Or.inl (List.mem_of_getElem? (i := 0) rfl)) all0))
    have F16 := F4.keep K15 (ninS nqb nin0)
    obtain ⟨_, h14, _, ⟨r14, k14, rfl, K14, V14, rfl⟩, R⟩ := R.callS (pc' := 26) (argsL := [(.ref q), (.int (0 : Int32)), (.int (4 : Int32))]) (rest := []) (W := 0) (own_w88 hw) (own_w89 hw) (own_w49 hw) (own_w90 hw) (by decide) (rm_tb4 C.l Z a0 hw h2 n0 (b1 :: Ds) own_u hok F16) rfl (lenOf own_pd12 rfl) rfl rfl own_d9_23 (by decide) (by decide) (by decide) (by decide) rfl
    replace R := R.mono (ce' := 2) (sl' := 12) (by decide) (by decide)
    replace R := R.stk (S' := [(.ref r14)]) rfl
    replace R := R.astore (pc' := 28) (l' := #[.val (.ref q), .val (.int (0 : Int32)), .val (.int (4 : Int32)), .val (.ref b1), .val (.int (3 : Int32)), .val (.ref r14)]) own_d9_26 rfl rfl rfl
    replace R := R.aload (pc' := 30) (v := (.ref r14)) own_d9_28 rfl rfl rfl
    replace R := R.iload (pc' := 32) (v := (3 : Int32)) own_d9_30 rfl rfl
    obtain ⟨_, _, _, ⟨rfl, rfl, rfl⟩, R⟩ := R.callS (pc' := 35) (argsL := [(.ref r14), (.int (3 : Int32))]) (rest := []) (W := 0) (own_w104 hw) (own_w105 hw) (own_w49 hw) (own_w106 hw) (by decide) (rm_gc C.l Z a0 hw r14 (3 : Int32) h14 n0 (b1 :: Ds) own_u (k := 3) (m := 4) rfl (by decide) (by decide) (c := x3) (hok x3 (List.mem_of_getElem? (i := 3) rfl)) rfl rfl V14) rfl (lenOf own_pd4 rfl) rfl rfl own_d9_32 (by decide) (by decide) (by decide) (by decide) rfl
    replace R := R.mono (ce' := 2) (sl' := 12) (by decide) (by decide)
    replace R := R.stk (S' := [(.int x3)]) rfl
    replace R := R.sipush (pc' := 38) (z := (255 : Int32)) own_d9_35 rfl rfl
    replace R := R.icmpY (pc' := 54) own_d9_38 (tlt hj).2.2.1 (by decide) rfl
    replace R := R.aload (pc' := 56) (v := (.ref r14)) own_d9_54 rfl rfl rfl
    have hK := ((((Keep.refl h []).trans ((Keep.refl h []).ext E1) all0).trans K2 (allS (Or.inr (by rw [g1]; exact (Nat.le_refl _))) all0)).trans K14 all0)
    exact R.retA (Ds' := Ds) hret rfl rfl rfl own_d9_56 (by decide) (by decide) (fun _ q => (fun q => (List.mem_cons_of_mem _ q)) q) ⟨r14, _, rfl, hK, rfl, Or.inr V14⟩
set_option maxRecDepth 65536 in
set_option maxHeartbeats 4000000 in
theorem rm_ca4_4 (l : Launch) (Z : State) (a0 : Array Value) (hw : ∀ d ∈ tables_1, d.before a0 Z = true) (h : Heap) (n0 : Nat) (Ds : List Addr) {b : Addr} {kb : ClassId} {vs : List Value} (V_b : Arv Z h b kb .byte (4 : Int32) vs (.int 0)) :
    Ctr l Z (⟨"java/lang/StringUTF16", "coderFromArrayLen", "([BI)B"⟩ : MethodName) jdk_52_method_15_code 2 (some .byte) [] ({ frames := 0, cells := 0, slots := 0, locals := 0 } : Room) #[.ref b, .int (4 : Int32)] h n0 Ds (fun v h' Ds' => v = some (.int (0 : Int32)) ∧ h = h' ∧ Ds = Ds') := by
  refine ctr_of (Ls := #[.val (.ref b), .val (.int (4 : Int32))]) (plainFor_of_name own_pn3) (fun m => by first | (simp [entryFrame, mkF, argsToLocals, Value.category]; done) | rfl) ?_
  intro C hl hret hnm R
  subst hl
  replace R := R.iloadN (pc' := 1) (v := (4 : Int32)) own_d11_0 rfl rfl
  replace R := R.aloadN (pc' := 2) (v := (.ref b)) own_d11_1 rfl rfl rfl
  replace R := R.arraylength (pc' := 3) V_b own_d11_2 rfl
  replace R := R.isub (pc' := 4) own_d11_3 rfl
  replace R := R.stk (S' := [(.int (0 : Int32))]) rfl
  replace R := R.bipush (pc' := 6) (z := (31 : Int32)) own_d11_4 rfl rfl
  replace R := R.iushr (pc' := 7) own_d11_6 rfl
  replace R := R.stk (S' := [(.int (0 : Int32))]) rfl
  replace R := R.i2b (pc' := 8) own_d11_7 rfl
  replace R := R.stk (S' := [(.int (0 : Int32))]) rfl
  exact R.retN (Ds' := Ds) hret (by simp) (show nar .byte (0 : Int32) = (0 : Int32) from rfl) own_d11_8 (by decide) (by decide) (fun _ q => q) ⟨rfl, rfl, rfl⟩
set_option maxRecDepth 65536 in
set_option maxHeartbeats 4000000 in
theorem rm_ca4_8 (l : Launch) (Z : State) (a0 : Array Value) (hw : ∀ d ∈ tables_1, d.before a0 Z = true) (h : Heap) (n0 : Nat) (Ds : List Addr) {b : Addr} {kb : ClassId} {vs : List Value} (V_b : Arv Z h b kb .byte (8 : Int32) vs (.int 0)) :
    Ctr l Z (⟨"java/lang/StringUTF16", "coderFromArrayLen", "([BI)B"⟩ : MethodName) jdk_52_method_15_code 2 (some .byte) [] ({ frames := 0, cells := 0, slots := 0, locals := 0 } : Room) #[.ref b, .int (4 : Int32)] h n0 Ds (fun v h' Ds' => v = some (.int (1 : Int32)) ∧ h = h' ∧ Ds = Ds') := by
  refine ctr_of (Ls := #[.val (.ref b), .val (.int (4 : Int32))]) (plainFor_of_name own_pn3) (fun m => by first | (simp [entryFrame, mkF, argsToLocals, Value.category]; done) | rfl) ?_
  intro C hl hret hnm R
  subst hl
  replace R := R.iloadN (pc' := 1) (v := (4 : Int32)) own_d11_0 rfl rfl
  replace R := R.aloadN (pc' := 2) (v := (.ref b)) own_d11_1 rfl rfl rfl
  replace R := R.arraylength (pc' := 3) V_b own_d11_2 rfl
  replace R := R.isub (pc' := 4) own_d11_3 rfl
  replace R := R.stk (S' := [(.int (-4 : Int32))]) rfl
  replace R := R.bipush (pc' := 6) (z := (31 : Int32)) own_d11_4 rfl rfl
  replace R := R.iushr (pc' := 7) own_d11_6 rfl
  replace R := R.stk (S' := [(.int (1 : Int32))]) rfl
  replace R := R.i2b (pc' := 8) own_d11_7 rfl
  replace R := R.stk (S' := [(.int (1 : Int32))]) rfl
  exact R.retN (Ds' := Ds) hret (by simp) (show nar .byte (1 : Int32) = (1 : Int32) from rfl) own_d11_8 (by decide) (by decide) (fun _ q => q) ⟨rfl, rfl, rfl⟩
set_option maxRecDepth 65536 in
set_option maxHeartbeats 4000000 in
theorem rm_i4_4 (l : Launch) (Z : State) (a0 : Array Value) (hw : ∀ d ∈ tables_1, d.before a0 Z = true) (a : Addr) (h : Heap) (n0 : Nat) (Ds : List Addr) (own_cs : CompactOn Z) (own_si : SiooOk Z) (own_u : U16ok Z) (ha : a ∈ Ds) {x0 x1 x2 x3 : Int32} (hok : ∀ c ∈ ([x0, x1, x2, x3] : List Int32), ¬ c < 0 ∧ ¬ (65535 : Int32) < c) {q : Addr} {kq : ClassId} (V_q : Arv Z h q kq .char (4 : Int32) ([Value.int x0, Value.int x1, Value.int x2, Value.int x3]) (.int 0)) {u1 u2 : Value} (E_a : Exa Z h a "java/lang/String") (F_v : Fld Z h a "java/lang/String" "value" "[B" u1) (F_c : Fld Z h a "java/lang/String" "coder" "B" u2) :
    Ctr l Z (⟨"java/lang/String", "<init>", "([CIILjava/lang/Void;)V"⟩ : MethodName) jdk_42_method_149_code 6 none [] ({ frames := 4, cells := 2, slots := 12, locals := 57 } : Room) #[.ref a, .ref q, .int (0 : Int32), .int (4 : Int32), .null] h n0 Ds (fun v h' Ds' => v = none ∧ Keep h h' [a] ∧ IsTx Z h' a [x0, x1, x2, x3] ∧ Ds = Ds') := by
  refine ctr_of (Ls := #[.val (.ref a), .val (.ref q), .val (.int (0 : Int32)), .val (.int (4 : Int32)), .val .null, .unset]) (plainFor_of_name own_pn0) (fun m => by first | (simp [entryFrame, mkF, argsToLocals, Value.category]; done) | rfl) ?_
  intro C hl hret hnm R
  subst hl
  obtain ⟨zc, S_zc, hzc⟩ := id own_cs
  replace R := R.aloadN (pc' := 1) (v := (.ref a)) own_d4_0 rfl rfl rfl
  replace R := R.initO (pc' := 4) (W := 0) (own_w21 hw) (own_w22 hw) (own_w23 hw) rfl own_d4_1 (by decide) rfl (by decide) rfl
  replace R := R.iloadN (pc' := 5) (v := (4 : Int32)) own_d4_4 rfl rfl
  replace R := R.ifY (pc' := 27) own_d4_5 (feq (by decide : ¬ ((4 : Int32) = (0 : Int32)))).2 (by decide) rfl
  replace R := R.getS (pc' := 30) (host := "") (Or.inl (own_w46 hw)) Via.refl S_zc own_d4_27 rfl
  replace R := R.ifN (pc' := 33) own_d4_30 (feq hzc).1 rfl
  replace R := R.aloadN (pc' := 34) (v := (.ref q)) own_d4_33 rfl rfl rfl
  replace R := R.iloadN (pc' := 35) (v := (0 : Int32)) own_d4_34 rfl rfl
  replace R := R.iloadN (pc' := 36) (v := (4 : Int32)) own_d4_35 rfl rfl
  obtain ⟨_, h1, _, ⟨r1, k1, rfl, K1, rfl, hB1⟩, R⟩ := R.callS (pc' := 39) (argsL := [(.ref q), (.int (0 : Int32)), (.int (4 : Int32))]) (rest := []) (W := 0) (own_w47 hw) (own_w48 hw) (own_w49 hw) (own_w50 hw) (by decide) (rm_c34 C.l Z a0 hw h n0 Ds own_u hok V_q) rfl (lenOf own_pd12 rfl) rfl rfl own_d4_36 (by decide) (by decide) (by decide) (by decide) rfl
  replace R := R.mono (ce' := 2) (sl' := 12) (by decide) (by decide)
  replace R := R.stk (S' := [(.ref r1)]) rfl
  rcases hB1 with ⟨hL, V1⟩ | V1
  · have hV := V1
    have K2 := ((Keep.refl h []).trans K1 all0)
    have F3 := E_a.keep K2
    have nabr1 : a ≠ r1 := Exa.neArv F3 hV (own_w11 hw)
    replace R := R.astore (pc' := 41) (l' := #[.val (.ref a), .val (.ref q), .val (.int (0 : Int32)), .val (.int (4 : Int32)), .val .null, .val (.ref r1)]) own_d4_39 rfl rfl rfl
    replace R := R.aloadN (pc' := 42) (v := (.ref a)) own_d4_41 rfl rfl rfl
    replace R := R.aload (pc' := 44) (v := (.ref r1)) own_d4_42 rfl rfl rfl
    replace R := R.iloadN (pc' := 45) (v := (4 : Int32)) own_d4_44 rfl rfl
    obtain ⟨_, _, _, ⟨rfl, rfl, rfl⟩, R⟩ := R.callS (pc' := 48) (argsL := [(.ref r1), (.int (4 : Int32))]) (rest := [(.ref a)]) (W := 1) (own_w54 hw) (own_w55 hw) (own_w49 hw) (own_w56 hw) (by decide) (rm_ca4_4 C.l Z a0 hw h1 n0 Ds hV) rfl (lenOf own_pd13 rfl) rfl rfl own_d4_45 (by decide) (by decide) (by decide) (by decide) rfl
    replace R := R.mono (ce' := 2) (sl' := 12) (by decide) (by decide)
    replace R := R.stk (S' := [(.int (0 : Int32)), (.ref a)]) rfl
    have K4 := ((Keep.refl h []).trans K1 all0)
    have F5 := F_c.keep K4 nin0
    have K6 := ((Keep.refl h []).trans K1 all0)
    have F7 := F_v.keep K6 nin0
    obtain ⟨h8, W8, R⟩ := R.putFN (pc' := 51) (ty := .byte) (v' := (.int (0 : Int32))) (own_w31 hw) Via.refl F5 F3 (Or.inr ⟨(own_w27 hw), rfl, hnm⟩) (own_w11 hw) (by decide) (rfl) (rfl) ha own_d4_48 rfl
    have F8 := F5.same W8
    have F9 := F7.other W8 (Or.inr (slot_ne (Or.inr (own_w26 hw)) (Or.inr (own_w27 hw)) (by decide) (t := (.array .byte)) (t' := .byte) (by decide) (by decide)))
    replace R := R.aloadN (pc' := 52) (v := (.ref a)) own_d4_51 rfl rfl rfl
    replace R := R.aload (pc' := 54) (v := (.ref r1)) own_d4_52 rfl rfl rfl
    have K10 := ((Keep.refl h1 [a]).trans (Keep.of_wr W8) (allS (Or.inl (List.mem_of_getElem? (i := 0) rfl)) all0))
    have F11 := F3.keep K10
    obtain ⟨h12, W12, R⟩ := R.putF (pc' := 57) (ty := (.array .byte)) (host := "") (Or.inl (own_w30 hw)) Via.refl F9 F11 (Or.inr ⟨(own_w26 hw), rfl, hnm⟩) (own_w11 hw) (by decide) rfl rfl ha own_d4_54 rfl
    have F12 := F9.same W12
    have F13 := F8.other W12 (Or.inr (slot_ne (Or.inr (own_w27 hw)) (Or.inr (own_w26 hw)) (by decide) (t := .byte) (t' := (.array .byte)) (by decide) (by decide)))
    have hK := ((((Keep.refl h [a]).trans K1 all0).trans (Keep.of_wr W8) (allS (Or.inl (List.mem_of_getElem? (i := 0) rfl)) all0)).trans (Keep.of_wr W12) (allS (Or.inl (List.mem_of_getElem? (i := 0) rfl)) all0))
    have K14 := ((Keep.refl h8 [a]).trans (Keep.of_wr W12) (allS (Or.inl (List.mem_of_getElem? (i := 0) rfl)) all0))
    have F15 := F11.keep K14
    have K16 := (((Keep.refl h1 [a]).trans (Keep.of_wr W8) (allS (Or.inl (List.mem_of_getElem? (i := 0) rfl)) all0)).trans (Keep.of_wr W12) (allS (Or.inl (List.mem_of_getElem? (i := 0) rfl)) all0))
    have F17 := hV.keep K16 (ninS (Ne.symm nabr1) nin0)
    exact R.retV (Ds' := Ds) hret own_d4_57 (by decide) (by decide) (fun _ q => q) ⟨rfl, hK, Or.inl ⟨F15, F13, hL, Nat.le_of_ble_eq_true rfl, r1, _, F12, F17⟩, rfl⟩
  · have hV := V1
    have K18 := ((Keep.refl h []).trans K1 all0)
    have F19 := E_a.keep K18
    have nabr1 : a ≠ r1 := Exa.neArv F19 hV (own_w11 hw)
    replace R := R.astore (pc' := 41) (l' := #[.val (.ref a), .val (.ref q), .val (.int (0 : Int32)), .val (.int (4 : Int32)), .val .null, .val (.ref r1)]) own_d4_39 rfl rfl rfl
    replace R := R.aloadN (pc' := 42) (v := (.ref a)) own_d4_41 rfl rfl rfl
    replace R := R.aload (pc' := 44) (v := (.ref r1)) own_d4_42 rfl rfl rfl
    replace R := R.iloadN (pc' := 45) (v := (4 : Int32)) own_d4_44 rfl rfl
    obtain ⟨_, _, _, ⟨rfl, rfl, rfl⟩, R⟩ := R.callS (pc' := 48) (argsL := [(.ref r1), (.int (4 : Int32))]) (rest := [(.ref a)]) (W := 1) (own_w54 hw) (own_w55 hw) (own_w49 hw) (own_w56 hw) (by decide) (rm_ca4_8 C.l Z a0 hw h1 n0 Ds hV) rfl (lenOf own_pd13 rfl) rfl rfl own_d4_45 (by decide) (by decide) (by decide) (by decide) rfl
    replace R := R.mono (ce' := 2) (sl' := 12) (by decide) (by decide)
    replace R := R.stk (S' := [(.int (1 : Int32)), (.ref a)]) rfl
    have K20 := ((Keep.refl h []).trans K1 all0)
    have F21 := F_c.keep K20 nin0
    have K22 := ((Keep.refl h []).trans K1 all0)
    have F23 := F_v.keep K22 nin0
    obtain ⟨h24, W24, R⟩ := R.putFN (pc' := 51) (ty := .byte) (v' := (.int (1 : Int32))) (own_w31 hw) Via.refl F21 F19 (Or.inr ⟨(own_w27 hw), rfl, hnm⟩) (own_w11 hw) (by decide) (rfl) (rfl) ha own_d4_48 rfl
    have F24 := F21.same W24
    have F25 := F23.other W24 (Or.inr (slot_ne (Or.inr (own_w26 hw)) (Or.inr (own_w27 hw)) (by decide) (t := (.array .byte)) (t' := .byte) (by decide) (by decide)))
    replace R := R.aloadN (pc' := 52) (v := (.ref a)) own_d4_51 rfl rfl rfl
    replace R := R.aload (pc' := 54) (v := (.ref r1)) own_d4_52 rfl rfl rfl
    have K26 := ((Keep.refl h1 [a]).trans (Keep.of_wr W24) (allS (Or.inl (List.mem_of_getElem? (i := 0) rfl)) all0))
    have F27 := F19.keep K26
    obtain ⟨h28, W28, R⟩ := R.putF (pc' := 57) (ty := (.array .byte)) (host := "") (Or.inl (own_w30 hw)) Via.refl F25 F27 (Or.inr ⟨(own_w26 hw), rfl, hnm⟩) (own_w11 hw) (by decide) rfl rfl ha own_d4_54 rfl
    have F28 := F25.same W28
    have F29 := F24.other W28 (Or.inr (slot_ne (Or.inr (own_w27 hw)) (Or.inr (own_w26 hw)) (by decide) (t := .byte) (t' := (.array .byte)) (by decide) (by decide)))
    have hK := ((((Keep.refl h [a]).trans K1 all0).trans (Keep.of_wr W24) (allS (Or.inl (List.mem_of_getElem? (i := 0) rfl)) all0)).trans (Keep.of_wr W28) (allS (Or.inl (List.mem_of_getElem? (i := 0) rfl)) all0))
    have K30 := ((Keep.refl h24 [a]).trans (Keep.of_wr W28) (allS (Or.inl (List.mem_of_getElem? (i := 0) rfl)) all0))
    have F31 := F27.keep K30
    have K32 := (((Keep.refl h1 [a]).trans (Keep.of_wr W24) (allS (Or.inl (List.mem_of_getElem? (i := 0) rfl)) all0)).trans (Keep.of_wr W28) (allS (Or.inl (List.mem_of_getElem? (i := 0) rfl)) all0))
    have F33 := hV.keep K32 (ninS (Ne.symm nabr1) nin0)
    exact R.retV (Ds' := Ds) hret own_d4_57 (by decide) (by decide) (fun _ q => q) ⟨rfl, hK, Or.inr ⟨F31, F29, hok, Nat.le_of_ble_eq_true rfl, r1, _, F28, F33⟩, rfl⟩
set_option maxRecDepth 65536 in
set_option maxHeartbeats 4000000 in
theorem rm_i1_4 (l : Launch) (Z : State) (a0 : Array Value) (hw : ∀ d ∈ tables_1, d.before a0 Z = true) (a : Addr) (h : Heap) (n0 : Nat) (Ds : List Addr) (own_cs : CompactOn Z) (own_si : SiooOk Z) (own_u : U16ok Z) (ha : a ∈ Ds) {x0 x1 x2 x3 : Int32} (hok : ∀ c ∈ ([x0, x1, x2, x3] : List Int32), ¬ c < 0 ∧ ¬ (65535 : Int32) < c) {q : Addr} {kq : ClassId} (V_q : Arv Z h q kq .char (4 : Int32) ([Value.int x0, Value.int x1, Value.int x2, Value.int x3]) (.int 0)) {u1 u2 : Value} (E_a : Exa Z h a "java/lang/String") (F_v : Fld Z h a "java/lang/String" "value" "[B" u1) (F_c : Fld Z h a "java/lang/String" "coder" "B" u2) :
    Ctr l Z (⟨"java/lang/String", "<init>", "([C)V"⟩ : MethodName) jdk_42_method_3_code 2 none [] ({ frames := 5, cells := 2, slots := 12, locals := 74 } : Room) #[.ref a, .ref q] h n0 Ds (fun v h' Ds' => v = none ∧ Keep h h' [a] ∧ IsTx Z h' a [x0, x1, x2, x3] ∧ Ds = Ds') := by
  refine ctr_of (Ls := #[.val (.ref a), .val (.ref q)]) (plainFor_of_name own_pn0) (fun m => by first | (simp [entryFrame, mkF, argsToLocals, Value.category]; done) | rfl) ?_
  intro C hl hret hnm R
  subst hl
  replace R := R.aloadN (pc' := 1) (v := (.ref a)) own_d3_0 rfl rfl rfl
  replace R := R.aloadN (pc' := 2) (v := (.ref q)) own_d3_1 rfl rfl rfl
  replace R := R.iconst (pc' := 3) (z := (0 : Int32)) own_d3_2 rfl rfl
  replace R := R.aloadN (pc' := 4) (v := (.ref q)) own_d3_3 rfl rfl rfl
  replace R := R.arraylength (pc' := 5) V_q own_d3_4 rfl
  replace R := R.anull (pc' := 6) own_d3_5 rfl
  obtain ⟨_, h1, _, ⟨rfl, K1, T1, rfl⟩, R⟩ := R.callI (pc' := 9) (a := a) (argsL := [(.ref q), (.int (0 : Int32)), (.int (4 : Int32)), .null]) (rest := []) (W := 0) rfl (own_w17 hw) (own_w18 hw) (own_w12 hw) (own_w20 hw) (by decide) (rm_i4_4 C.l Z a0 hw a h n0 Ds own_cs own_si own_u ha (x0 := x0) (x1 := x1) (x2 := x2) (x3 := x3) hok V_q E_a F_v F_c) rfl (lenOf own_pd7 rfl) rfl rfl own_d3_6 (by decide) (by decide) (by decide) (by decide) rfl
  replace R := R.mono (ce' := 2) (sl' := 12) (by decide) (by decide)
  replace R := R.stk (S' := []) rfl
  have hK := ((Keep.refl h [a]).trans K1 (allS (Or.inl (List.mem_of_getElem? (i := 0) rfl)) all0))
  exact R.retV (Ds' := Ds) hret own_d3_9 (by decide) (by decide) (fun _ q => q) ⟨rfl, hK, T1, rfl⟩
set_option maxRecDepth 65536 in
set_option maxHeartbeats 4000000 in
theorem rm_nbl5 (l : Launch) (Z : State) (a0 : Array Value) (hw : ∀ d ∈ tables_1, d.before a0 Z = true) (h : Heap) (n0 : Nat) (Ds : List Addr) :
    Ctr l Z (⟨"java/lang/StringUTF16", "newBytesLength", "(I)I"⟩ : MethodName) jdk_52_method_3_code 1 (some .int) [] ({ frames := 0, cells := 0, slots := 0, locals := 0 } : Room) #[.int (5 : Int32)] h n0 Ds (fun v h' Ds' => v = some (.int (10 : Int32)) ∧ h = h' ∧ Ds = Ds') := by
  refine ctr_of (Ls := #[.val (.int (5 : Int32))]) (plainFor_of_name own_pn3) (fun m => by first | (simp [entryFrame, mkF, argsToLocals, Value.category]; done) | rfl) ?_
  intro C hl hret hnm R
  subst hl
  replace R := R.iloadN (pc' := 1) (v := (5 : Int32)) own_d22_0 rfl rfl
  replace R := R.ifY (pc' := 12) own_d22_1 (flt (by decide : ¬ ((5 : Int32) < (0 : Int32)))).2.1 (by decide) rfl
  replace R := R.iloadN (pc' := 13) (v := (5 : Int32)) own_d22_12 rfl rfl
  replace R := R.ldcI (pc' := 15) (own_w97 hw) own_d22_13 rfl
  replace R := R.icmpY (pc' := 55) own_d22_15 (tlt (by decide : (5 : Int32) < (1073741823 : Int32))).1 (by decide) rfl
  replace R := R.iloadN (pc' := 56) (v := (5 : Int32)) own_d22_55 rfl rfl
  replace R := R.iconst (pc' := 57) (z := (1 : Int32)) own_d22_56 rfl rfl
  replace R := R.ishl (pc' := 58) own_d22_57 rfl
  replace R := R.stk (S' := [(.int (10 : Int32))]) rfl
  exact R.retI (Ds' := Ds) hret own_d22_58 (by decide) (by decide) (fun _ q => q) ⟨rfl, rfl, rfl⟩
set_option maxRecDepth 65536 in
set_option maxHeartbeats 4000000 in
theorem rm_nbf5 (l : Launch) (Z : State) (a0 : Array Value) (hw : ∀ d ∈ tables_1, d.before a0 Z = true) (h : Heap) (n0 : Nat) (Ds : List Addr) :
    Ctr l Z (⟨"java/lang/StringUTF16", "newBytesFor", "(I)[B"⟩ : MethodName) jdk_52_method_2_code 1 (some (.array .byte)) [] ({ frames := 1, cells := 1, slots := 10, locals := 12 } : Room) #[.int (5 : Int32)] h n0 Ds (fun v h' Ds' => ∃ (r : Addr) (kb : ClassId), v = some (.ref r) ∧ Keep h h' [] ∧ r = h.size ∧ Arv Z h' r kb .byte (10 : Int32) [(.int (0 : Int32)), (.int (0 : Int32)), (.int (0 : Int32)), (.int (0 : Int32)), (.int (0 : Int32)), (.int (0 : Int32)), (.int (0 : Int32)), (.int (0 : Int32)), (.int (0 : Int32)), (.int (0 : Int32))] (.int 0) ∧ r :: Ds = Ds') := by
  refine ctr_of (Ls := #[.val (.int (5 : Int32))]) (plainFor_of_name own_pn3) (fun m => by first | (simp [entryFrame, mkF, argsToLocals, Value.category]; done) | rfl) ?_
  intro C hl hret hnm R
  subst hl
  replace R := R.iloadN (pc' := 1) (v := (5 : Int32)) own_d21_0 rfl rfl
  obtain ⟨_, _, _, ⟨rfl, rfl, rfl⟩, R⟩ := R.callS (pc' := 4) (argsL := [(.int (5 : Int32))]) (rest := []) (W := 0) (own_w94 hw) (own_w95 hw) (own_w49 hw) (own_w96 hw) (by decide) (rm_nbl5 C.l Z a0 hw h n0 Ds) rfl (lenOf own_pd8 rfl) rfl rfl own_d21_1 (by decide) (by decide) (by decide) (by decide) rfl
  replace R := R.mono (ce' := 0) (sl' := 0) (by decide) (by decide)
  replace R := R.stk (S' := [(.int (10 : Int32))]) rfl
  obtain ⟨h1, b1, k1, g1, E1, V1, R⟩ := R.newP (pc' := 6) (aty := .byte) (cap := 10) (own_w25 hw) own_d21_4 (by decide) (by decide) (by decide) (by decide) (by decide) rfl
  have V1p : Arv Z h1 b1 k1 .byte (10 : Int32) [(.int (0 : Int32)), (.int (0 : Int32)), (.int (0 : Int32)), (.int (0 : Int32)), (.int (0 : Int32)), (.int (0 : Int32)), (.int (0 : Int32)), (.int (0 : Int32)), (.int (0 : Int32)), (.int (0 : Int32))] (.int (0 : Int32)) := V1.pad (pad_rep [] (.int (0 : Int32)) 10)
  have hK := ((Keep.refl h []).trans ((Keep.refl h []).ext E1) all0)
  exact R.retA (Ds' := b1 :: Ds) hret rfl rfl rfl own_d21_6 (by decide) (by decide) (fun _ q => q) ⟨b1, _, rfl, hK, g1, V1p, rfl⟩
set_option maxRecDepth 65536 in
set_option maxHeartbeats 4000000 in
theorem rm_tb5 (l : Launch) (Z : State) (a0 : Array Value) (hw : ∀ d ∈ tables_1, d.before a0 Z = true) (h : Heap) (n0 : Nat) (Ds : List Addr) (own_u : U16ok Z) {x0 x1 x2 x3 x4 : Int32} (hok : ∀ c ∈ ([x0, x1, x2, x3, x4] : List Int32), ¬ c < 0 ∧ ¬ (65535 : Int32) < c) {q : Addr} {kq : ClassId} (V_q : Arv Z h q kq .char (5 : Int32) ([Value.int x0, Value.int x1, Value.int x2, Value.int x3, Value.int x4]) (.int 0)) :
    Ctr l Z (⟨"java/lang/StringUTF16", "toBytes", "([CII)[B"⟩ : MethodName) jdk_52_method_14_code 5 (some (.array .byte)) [] ({ frames := 2, cells := 1, slots := 10, locals := 24 } : Room) #[.ref q, .int (0 : Int32), .int (5 : Int32)] h n0 Ds (fun v h' Ds' => ∃ (r : Addr) (kb : ClassId), v = some (.ref r) ∧ Keep h h' [] ∧ Arv Z h' r kb .byte (10 : Int32) [(.int (StrChars.lo8 x0)), (.int (StrChars.hi8 x0)), (.int (StrChars.lo8 x1)), (.int (StrChars.hi8 x1)), (.int (StrChars.lo8 x2)), (.int (StrChars.hi8 x2)), (.int (StrChars.lo8 x3)), (.int (StrChars.hi8 x3)), (.int (StrChars.lo8 x4)), (.int (StrChars.hi8 x4))] (.int 0) ∧ Ds = Ds') := by
  refine ctr_of (Ls := #[.val (.ref q), .val (.int (0 : Int32)), .val (.int (5 : Int32)), .unset, .unset]) (plainFor_of_name own_pn3) (fun m => by first | (simp [entryFrame, mkF, argsToLocals, Value.category]; done) | rfl) ?_
  intro C hl hret hnm R
  subst hl
  have hql : q < h.size := V_q.lt
  replace R := R.iloadN (pc' := 1) (v := (5 : Int32)) own_d20_0 rfl rfl
  obtain ⟨_, h1, _, ⟨r1, k1, rfl, K1, g1, V1, rfl⟩, R⟩ := R.callS (pc' := 4) (argsL := [(.int (5 : Int32))]) (rest := []) (W := 0) (own_w91 hw) (own_w92 hw) (own_w49 hw) (own_w93 hw) (by decide) (rm_nbf5 C.l Z a0 hw h n0 Ds) rfl (lenOf own_pd9 rfl) rfl rfl own_d20_1 (by decide) (by decide) (by decide) (by decide) rfl
  have nqb : q ≠ r1 := fun e => by rw [e, g1] at hql; exact Nat.lt_irrefl _ hql
  replace R := R.mono (ce' := 1) (sl' := 10) (by decide) (by decide)
  replace R := R.stk (S' := [(.ref r1)]) rfl
  replace R := R.astoreN (pc' := 5) (l' := #[.val (.ref q), .val (.int (0 : Int32)), .val (.int (5 : Int32)), .val (.ref r1), .unset]) own_d20_4 rfl rfl rfl
  replace R := R.iconst (pc' := 6) (z := (0 : Int32)) own_d20_5 rfl rfl
  replace R := R.istore (pc' := 8) (l' := #[.val (.ref q), .val (.int (0 : Int32)), .val (.int (5 : Int32)), .val (.ref r1), .val (.int (0 : Int32))]) own_d20_6 rfl rfl
  replace R := R.iload (pc' := 10) (v := (0 : Int32)) own_d20_8 rfl rfl
  replace R := R.iloadN (pc' := 11) (v := (5 : Int32)) own_d20_10 rfl rfl
  replace R := R.icmpN (pc' := 14) own_d20_11 (tlt (by decide : (0 : Int32) < (5 : Int32))).2.1 rfl
  replace R := R.aloadN (pc' := 15) (v := (.ref r1)) own_d20_14 rfl rfl rfl
  replace R := R.iload (pc' := 17) (v := (0 : Int32)) own_d20_15 rfl rfl
  replace R := R.aloadN (pc' := 18) (v := (.ref q)) own_d20_17 rfl rfl rfl
  replace R := R.iloadN (pc' := 19) (v := (0 : Int32)) own_d20_18 rfl rfl
  have K2 := ((Keep.refl h []).trans K1 all0)
  have F3 := V_q.keep K2 nin0
  replace R := R.caload (pc' := 20) (v := (.int x0)) F3 ⟨by decide, by decide⟩ rfl own_d20_19 rfl
  obtain ⟨_, h4, _, ⟨rfl, K4, V4, rfl⟩, R⟩ := R.callS (pc' := 23) (argsL := [(.ref r1), (.int (0 : Int32)), (.int x0)]) (rest := []) (W := 0) (own_w98 hw) (own_w99 hw) (own_w49 hw) (own_w100 hw) (by decide) (rm_pch C.l Z a0 hw r1 (0 : Int32) x0 h1 n0 (r1 :: Ds) own_u (k := 0) (m := 5) rfl (by decide) (by decide) rfl (List.mem_of_getElem? (i := 0) rfl) V1) rfl (lenOf own_pd10 rfl) rfl rfl own_d20_20 (by decide) (by decide) (by decide) (by decide) rfl
  have V4p : Arv Z h4 r1 k1 .byte (10 : Int32) [(.int (StrChars.lo8 x0)), (.int (StrChars.hi8 x0)), (.int (0 : Int32)), (.int (0 : Int32)), (.int (0 : Int32)), (.int (0 : Int32)), (.int (0 : Int32)), (.int (0 : Int32)), (.int (0 : Int32)), (.int (0 : Int32))] (.int 0) := V4
  replace R := R.mono (ce' := 1) (sl' := 10) (by decide) (by decide)
  replace R := R.stk (S' := []) rfl
  replace R := R.iinc (pc' := 26) (l' := #[.val (.ref q), .val (.int (1 : Int32)), .val (.int (5 : Int32)), .val (.ref r1), .val (.int (0 : Int32))]) own_d20_23 rfl rfl rfl
  replace R := R.iinc (pc' := 29) (l' := #[.val (.ref q), .val (.int (1 : Int32)), .val (.int (5 : Int32)), .val (.ref r1), .val (.int (1 : Int32))]) own_d20_26 rfl rfl rfl
  replace R := R.goto (pc' := 8) own_d20_29 (by decide) rfl
  replace R := R.iload (pc' := 10) (v := (1 : Int32)) own_d20_8 rfl rfl
  replace R := R.iloadN (pc' := 11) (v := (5 : Int32)) own_d20_10 rfl rfl
  replace R := R.icmpN (pc' := 14) own_d20_11 (tlt (by decide : (1 : Int32) < (5 : Int32))).2.1 rfl
  replace R := R.aloadN (pc' := 15) (v := (.ref r1)) own_d20_14 rfl rfl rfl
  replace R := R.iload (pc' := 17) (v := (1 : Int32)) own_d20_15 rfl rfl
  replace R := R.aloadN (pc' := 18) (v := (.ref q)) own_d20_17 rfl rfl rfl
  replace R := R.iloadN (pc' := 19) (v := (1 : Int32)) own_d20_18 rfl rfl
  have K5 := ((Keep.refl h1 [r1]).trans K4 (allS (Or.inl (List.mem_of_getElem? (i := 0) rfl)) all0))
  have F6 := F3.keep K5 (ninS nqb nin0)
  replace R := R.caload (pc' := 20) (v := (.int x1)) F6 ⟨by decide, by decide⟩ rfl own_d20_19 rfl
  obtain ⟨_, h7, _, ⟨rfl, K7, V7, rfl⟩, R⟩ := R.callS (pc' := 23) (argsL := [(.ref r1), (.int (1 : Int32)), (.int x1)]) (rest := []) (W := 0) (own_w98 hw) (own_w99 hw) (own_w49 hw) (own_w100 hw) (by decide) (rm_pch C.l Z a0 hw r1 (1 : Int32) x1 h4 n0 (r1 :: Ds) own_u (k := 1) (m := 5) rfl (by decide) (by decide) rfl (List.mem_of_getElem? (i := 0) rfl) V4p) rfl (lenOf own_pd10 rfl) rfl rfl own_d20_20 (by decide) (by decide) (by decide) (by decide) rfl
  have V7p : Arv Z h7 r1 k1 .byte (10 : Int32) [(.int (StrChars.lo8 x0)), (.int (StrChars.hi8 x0)), (.int (StrChars.lo8 x1)), (.int (StrChars.hi8 x1)), (.int (0 : Int32)), (.int (0 : Int32)), (.int (0 : Int32)), (.int (0 : Int32)), (.int (0 : Int32)), (.int (0 : Int32))] (.int 0) := V7
  replace R := R.mono (ce' := 1) (sl' := 10) (by decide) (by decide)
  replace R := R.stk (S' := []) rfl
  replace R := R.iinc (pc' := 26) (l' := #[.val (.ref q), .val (.int (2 : Int32)), .val (.int (5 : Int32)), .val (.ref r1), .val (.int (1 : Int32))]) own_d20_23 rfl rfl rfl
  replace R := R.iinc (pc' := 29) (l' := #[.val (.ref q), .val (.int (2 : Int32)), .val (.int (5 : Int32)), .val (.ref r1), .val (.int (2 : Int32))]) own_d20_26 rfl rfl rfl
  replace R := R.goto (pc' := 8) own_d20_29 (by decide) rfl
  replace R := R.iload (pc' := 10) (v := (2 : Int32)) own_d20_8 rfl rfl
  replace R := R.iloadN (pc' := 11) (v := (5 : Int32)) own_d20_10 rfl rfl
  replace R := R.icmpN (pc' := 14) own_d20_11 (tlt (by decide : (2 : Int32) < (5 : Int32))).2.1 rfl
  replace R := R.aloadN (pc' := 15) (v := (.ref r1)) own_d20_14 rfl rfl rfl
  replace R := R.iload (pc' := 17) (v := (2 : Int32)) own_d20_15 rfl rfl
  replace R := R.aloadN (pc' := 18) (v := (.ref q)) own_d20_17 rfl rfl rfl
  replace R := R.iloadN (pc' := 19) (v := (2 : Int32)) own_d20_18 rfl rfl
  have K8 := ((Keep.refl h4 [r1]).trans K7 (allS (Or.inl (List.mem_of_getElem? (i := 0) rfl)) all0))
  have F9 := F6.keep K8 (ninS nqb nin0)
  replace R := R.caload (pc' := 20) (v := (.int x2)) F9 ⟨by decide, by decide⟩ rfl own_d20_19 rfl
  obtain ⟨_, h10, _, ⟨rfl, K10, V10, rfl⟩, R⟩ := R.callS (pc' := 23) (argsL := [(.ref r1), (.int (2 : Int32)), (.int x2)]) (rest := []) (W := 0) (own_w98 hw) (own_w99 hw) (own_w49 hw) (own_w100 hw) (by decide) (rm_pch C.l Z a0 hw r1 (2 : Int32) x2 h7 n0 (r1 :: Ds) own_u (k := 2) (m := 5) rfl (by decide) (by decide) rfl (List.mem_of_getElem? (i := 0) rfl) V7p) rfl (lenOf own_pd10 rfl) rfl rfl own_d20_20 (by decide) (by decide) (by decide) (by decide) rfl
  have V10p : Arv Z h10 r1 k1 .byte (10 : Int32) [(.int (StrChars.lo8 x0)), (.int (StrChars.hi8 x0)), (.int (StrChars.lo8 x1)), (.int (StrChars.hi8 x1)), (.int (StrChars.lo8 x2)), (.int (StrChars.hi8 x2)), (.int (0 : Int32)), (.int (0 : Int32)), (.int (0 : Int32)), (.int (0 : Int32))] (.int 0) := V10
  replace R := R.mono (ce' := 1) (sl' := 10) (by decide) (by decide)
  replace R := R.stk (S' := []) rfl
  replace R := R.iinc (pc' := 26) (l' := #[.val (.ref q), .val (.int (3 : Int32)), .val (.int (5 : Int32)), .val (.ref r1), .val (.int (2 : Int32))]) own_d20_23 rfl rfl rfl
  replace R := R.iinc (pc' := 29) (l' := #[.val (.ref q), .val (.int (3 : Int32)), .val (.int (5 : Int32)), .val (.ref r1), .val (.int (3 : Int32))]) own_d20_26 rfl rfl rfl
  replace R := R.goto (pc' := 8) own_d20_29 (by decide) rfl
  replace R := R.iload (pc' := 10) (v := (3 : Int32)) own_d20_8 rfl rfl
  replace R := R.iloadN (pc' := 11) (v := (5 : Int32)) own_d20_10 rfl rfl
  replace R := R.icmpN (pc' := 14) own_d20_11 (tlt (by decide : (3 : Int32) < (5 : Int32))).2.1 rfl
  replace R := R.aloadN (pc' := 15) (v := (.ref r1)) own_d20_14 rfl rfl rfl
  replace R := R.iload (pc' := 17) (v := (3 : Int32)) own_d20_15 rfl rfl
  replace R := R.aloadN (pc' := 18) (v := (.ref q)) own_d20_17 rfl rfl rfl
  replace R := R.iloadN (pc' := 19) (v := (3 : Int32)) own_d20_18 rfl rfl
  have K11 := ((Keep.refl h7 [r1]).trans K10 (allS (Or.inl (List.mem_of_getElem? (i := 0) rfl)) all0))
  have F12 := F9.keep K11 (ninS nqb nin0)
  replace R := R.caload (pc' := 20) (v := (.int x3)) F12 ⟨by decide, by decide⟩ rfl own_d20_19 rfl
  obtain ⟨_, h13, _, ⟨rfl, K13, V13, rfl⟩, R⟩ := R.callS (pc' := 23) (argsL := [(.ref r1), (.int (3 : Int32)), (.int x3)]) (rest := []) (W := 0) (own_w98 hw) (own_w99 hw) (own_w49 hw) (own_w100 hw) (by decide) (rm_pch C.l Z a0 hw r1 (3 : Int32) x3 h10 n0 (r1 :: Ds) own_u (k := 3) (m := 5) rfl (by decide) (by decide) rfl (List.mem_of_getElem? (i := 0) rfl) V10p) rfl (lenOf own_pd10 rfl) rfl rfl own_d20_20 (by decide) (by decide) (by decide) (by decide) rfl
  have V13p : Arv Z h13 r1 k1 .byte (10 : Int32) [(.int (StrChars.lo8 x0)), (.int (StrChars.hi8 x0)), (.int (StrChars.lo8 x1)), (.int (StrChars.hi8 x1)), (.int (StrChars.lo8 x2)), (.int (StrChars.hi8 x2)), (.int (StrChars.lo8 x3)), (.int (StrChars.hi8 x3)), (.int (0 : Int32)), (.int (0 : Int32))] (.int 0) := V13
  replace R := R.mono (ce' := 1) (sl' := 10) (by decide) (by decide)
  replace R := R.stk (S' := []) rfl
  replace R := R.iinc (pc' := 26) (l' := #[.val (.ref q), .val (.int (4 : Int32)), .val (.int (5 : Int32)), .val (.ref r1), .val (.int (3 : Int32))]) own_d20_23 rfl rfl rfl
  replace R := R.iinc (pc' := 29) (l' := #[.val (.ref q), .val (.int (4 : Int32)), .val (.int (5 : Int32)), .val (.ref r1), .val (.int (4 : Int32))]) own_d20_26 rfl rfl rfl
  replace R := R.goto (pc' := 8) own_d20_29 (by decide) rfl
  replace R := R.iload (pc' := 10) (v := (4 : Int32)) own_d20_8 rfl rfl
  replace R := R.iloadN (pc' := 11) (v := (5 : Int32)) own_d20_10 rfl rfl
  replace R := R.icmpN (pc' := 14) own_d20_11 (tlt (by decide : (4 : Int32) < (5 : Int32))).2.1 rfl
  replace R := R.aloadN (pc' := 15) (v := (.ref r1)) own_d20_14 rfl rfl rfl
  replace R := R.iload (pc' := 17) (v := (4 : Int32)) own_d20_15 rfl rfl
  replace R := R.aloadN (pc' := 18) (v := (.ref q)) own_d20_17 rfl rfl rfl
  replace R := R.iloadN (pc' := 19) (v := (4 : Int32)) own_d20_18 rfl rfl
  have K14 := ((Keep.refl h10 [r1]).trans K13 (allS (Or.inl (List.mem_of_getElem? (i := 0) rfl)) all0))
  have F15 := F12.keep K14 (ninS nqb nin0)
  replace R := R.caload (pc' := 20) (v := (.int x4)) F15 ⟨by decide, by decide⟩ rfl own_d20_19 rfl
  obtain ⟨_, h16, _, ⟨rfl, K16, V16, rfl⟩, R⟩ := R.callS (pc' := 23) (argsL := [(.ref r1), (.int (4 : Int32)), (.int x4)]) (rest := []) (W := 0) (own_w98 hw) (own_w99 hw) (own_w49 hw) (own_w100 hw) (by decide) (rm_pch C.l Z a0 hw r1 (4 : Int32) x4 h13 n0 (r1 :: Ds) own_u (k := 4) (m := 5) rfl (by decide) (by decide) rfl (List.mem_of_getElem? (i := 0) rfl) V13p) rfl (lenOf own_pd10 rfl) rfl rfl own_d20_20 (by decide) (by decide) (by decide) (by decide) rfl
  have V16p : Arv Z h16 r1 k1 .byte (10 : Int32) [(.int (StrChars.lo8 x0)), (.int (StrChars.hi8 x0)), (.int (StrChars.lo8 x1)), (.int (StrChars.hi8 x1)), (.int (StrChars.lo8 x2)), (.int (StrChars.hi8 x2)), (.int (StrChars.lo8 x3)), (.int (StrChars.hi8 x3)), (.int (StrChars.lo8 x4)), (.int (StrChars.hi8 x4))] (.int 0) := V16
  replace R := R.mono (ce' := 1) (sl' := 10) (by decide) (by decide)
  replace R := R.stk (S' := []) rfl
  replace R := R.iinc (pc' := 26) (l' := #[.val (.ref q), .val (.int (5 : Int32)), .val (.int (5 : Int32)), .val (.ref r1), .val (.int (4 : Int32))]) own_d20_23 rfl rfl rfl
  replace R := R.iinc (pc' := 29) (l' := #[.val (.ref q), .val (.int (5 : Int32)), .val (.int (5 : Int32)), .val (.ref r1), .val (.int (5 : Int32))]) own_d20_26 rfl rfl rfl
  replace R := R.goto (pc' := 8) own_d20_29 (by decide) rfl
  replace R := R.iload (pc' := 10) (v := (5 : Int32)) own_d20_8 rfl rfl
  replace R := R.iloadN (pc' := 11) (v := (5 : Int32)) own_d20_10 rfl rfl
  replace R := R.icmpY (pc' := 32) own_d20_11 (flt (by decide : ¬ ((5 : Int32) < (5 : Int32)))).2.1 (by decide) rfl
  replace R := R.aloadN (pc' := 33) (v := (.ref r1)) own_d20_32 rfl rfl rfl
  have hK := (((((((Keep.refl h []).trans K1 all0).trans K4 (allS (Or.inr (by rw [g1]; exact (Nat.le_refl _))) all0)).trans K7 (allS (Or.inr (by rw [g1]; exact (Nat.le_refl _))) all0)).trans K10 (allS (Or.inr (by rw [g1]; exact (Nat.le_refl _))) all0)).trans K13 (allS (Or.inr (by rw [g1]; exact (Nat.le_refl _))) all0)).trans K16 (allS (Or.inr (by rw [g1]; exact (Nat.le_refl _))) all0))
  exact R.retA (Ds' := Ds) hret rfl rfl rfl own_d20_33 (by decide) (by decide) (fun _ q => (fun q => (List.mem_cons_of_mem _ q)) q) ⟨r1, _, rfl, hK, V16p, rfl⟩
set_option maxRecDepth 65536 in
set_option maxHeartbeats 4000000 in
theorem rm_c55 (l : Launch) (Z : State) (a0 : Array Value) (hw : ∀ d ∈ tables_1, d.before a0 Z = true) (h : Heap) (n0 : Nat) (Ds : List Addr) {x0 x1 x2 x3 x4 : Int32} (hok : ∀ c ∈ ([x0, x1, x2, x3, x4] : List Int32), ¬ c < 0 ∧ ¬ (65535 : Int32) < c) {q : Addr} {kq : ClassId} (V_q : Arv Z h q kq .char (5 : Int32) ([Value.int x0, Value.int x1, Value.int x2, Value.int x3, Value.int x4]) (.int 0)) {b : Addr} {kb : ClassId} (hb : b ∈ Ds) (nqb : q ≠ b) (V_b : Arv Z h b kb .byte (5 : Int32) [(.int (0 : Int32)), (.int (0 : Int32)), (.int (0 : Int32)), (.int (0 : Int32)), (.int (0 : Int32))] (.int 0)) :
    Ctr l Z (⟨"java/lang/StringUTF16", "compress", "([CI[BII)I"⟩ : MethodName) jdk_52_method_21_code 7 (some .int) [] ({ frames := 0, cells := 0, slots := 0, locals := 0 } : Room) #[.ref q, .int (0 : Int32), .ref b, .int (0 : Int32), .int (5 : Int32)] h n0 Ds (fun v h' Ds' => Keep h h' [b] ∧ Ds = Ds' ∧ ((v = some (.int (5 : Int32)) ∧ (∀ c ∈ ([x0, x1, x2, x3, x4] : List Int32), ¬ c < 0 ∧ ¬ (255 : Int32) < c) ∧ Arv Z h' b kb .byte (5 : Int32) [(.int x0.toInt8.toInt32), (.int x1.toInt8.toInt32), (.int x2.toInt8.toInt32), (.int x3.toInt8.toInt32), (.int x4.toInt8.toInt32)] (.int 0)) ∨ (v = some (.int (0 : Int32)) ∧ (255 : Int32) < x0) ∨ (v = some (.int (1 : Int32)) ∧ (255 : Int32) < x1) ∨ (v = some (.int (2 : Int32)) ∧ (255 : Int32) < x2) ∨ (v = some (.int (3 : Int32)) ∧ (255 : Int32) < x3) ∨ (v = some (.int (4 : Int32)) ∧ (255 : Int32) < x4))) := by
  refine ctr_of (Ls := #[.val (.ref q), .val (.int (0 : Int32)), .val (.ref b), .val (.int (0 : Int32)), .val (.int (5 : Int32)), .unset, .unset]) (plainFor_of_name own_pn3) (fun m => by first | (simp [entryFrame, mkF, argsToLocals, Value.category]; done) | rfl) ?_
  intro C hl hret hnm R
  subst hl
  replace R := R.iconst (pc' := 1) (z := (0 : Int32)) own_d10_0 rfl rfl
  replace R := R.istore (pc' := 3) (l' := #[.val (.ref q), .val (.int (0 : Int32)), .val (.ref b), .val (.int (0 : Int32)), .val (.int (5 : Int32)), .val (.int (0 : Int32)), .unset]) own_d10_1 rfl rfl
  replace R := R.iload (pc' := 5) (v := (0 : Int32)) own_d10_3 rfl rfl
  replace R := R.iload (pc' := 7) (v := (5 : Int32)) own_d10_5 rfl rfl
  replace R := R.icmpN (pc' := 10) own_d10_7 (tlt (by decide : (0 : Int32) < (5 : Int32))).2.1 rfl
  replace R := R.aloadN (pc' := 11) (v := (.ref q)) own_d10_10 rfl rfl rfl
  replace R := R.iloadN (pc' := 12) (v := (0 : Int32)) own_d10_11 rfl rfl
  replace R := R.caload (pc' := 13) (v := (.int x0)) V_q ⟨by decide, by decide⟩ rfl own_d10_12 rfl
  replace R := R.istore (pc' := 15) (l' := #[.val (.ref q), .val (.int (0 : Int32)), .val (.ref b), .val (.int (0 : Int32)), .val (.int (5 : Int32)), .val (.int (0 : Int32)), .val (.int x0)]) own_d10_13 rfl rfl
  replace R := R.iload (pc' := 17) (v := x0) own_d10_15 rfl rfl
  replace R := R.sipush (pc' := 20) (z := (255 : Int32)) own_d10_17 rfl rfl
  by_cases hc1 : (255 : Int32) < x0
  · replace R := R.icmpN (pc' := 23) own_d10_20 (tlt hc1).2.2.2 rfl
    replace R := R.iload (pc' := 25) (v := (0 : Int32)) own_d10_23 rfl rfl
    have hK : Keep h h [b] := Keep.refl h [b]
    exact R.retI (Ds' := Ds) hret own_d10_25 (by decide) (by decide) (fun _ q => q) ⟨hK, rfl, Or.inr (Or.inl ⟨rfl, hc1⟩)⟩
  · replace R := R.icmpY (pc' := 26) own_d10_20 (flt hc1).2.2.2 (by decide) rfl
    replace R := R.aloadN (pc' := 27) (v := (.ref b)) own_d10_26 rfl rfl rfl
    replace R := R.iloadN (pc' := 28) (v := (0 : Int32)) own_d10_27 rfl rfl
    replace R := R.iload (pc' := 30) (v := x0) own_d10_28 rfl rfl
    replace R := R.i2b (pc' := 31) own_d10_30 rfl
    obtain ⟨h2, K2, V2, R⟩ := R.bastore (pc' := 32) V_b ⟨by decide, by decide⟩ 0 rfl (Nat.le_of_ble_eq_true rfl) hb own_d10_31 rfl
    have V2p : Arv Z h2 b kb .byte (5 : Int32) [(.int x0.toInt8.toInt32), (.int (0 : Int32)), (.int (0 : Int32)), (.int (0 : Int32)), (.int (0 : Int32))] (.int 0) := by
      have q := V2
      rw [nar_i2b x0] at q
      exact q
    replace R := R.iinc (pc' := 35) (l' := #[.val (.ref q), .val (.int (1 : Int32)), .val (.ref b), .val (.int (0 : Int32)), .val (.int (5 : Int32)), .val (.int (0 : Int32)), .val (.int x0)]) own_d10_32 rfl rfl rfl
    replace R := R.iinc (pc' := 38) (l' := #[.val (.ref q), .val (.int (1 : Int32)), .val (.ref b), .val (.int (1 : Int32)), .val (.int (5 : Int32)), .val (.int (0 : Int32)), .val (.int x0)]) own_d10_35 rfl rfl rfl
    replace R := R.iinc (pc' := 41) (l' := #[.val (.ref q), .val (.int (1 : Int32)), .val (.ref b), .val (.int (1 : Int32)), .val (.int (5 : Int32)), .val (.int (1 : Int32)), .val (.int x0)]) own_d10_38 rfl rfl rfl
    replace R := R.goto (pc' := 3) own_d10_41 (by decide) rfl
    replace R := R.iload (pc' := 5) (v := (1 : Int32)) own_d10_3 rfl rfl
    replace R := R.iload (pc' := 7) (v := (5 : Int32)) own_d10_5 rfl rfl
    replace R := R.icmpN (pc' := 10) own_d10_7 (tlt (by decide : (1 : Int32) < (5 : Int32))).2.1 rfl
    replace R := R.aloadN (pc' := 11) (v := (.ref q)) own_d10_10 rfl rfl rfl
    replace R := R.iloadN (pc' := 12) (v := (1 : Int32)) own_d10_11 rfl rfl
    have K3 := ((Keep.refl h [b]).trans K2 (allS (Or.inl (List.mem_of_getElem? (i := 0) rfl)) all0))
    have F4 := V_q.keep K3 (ninS nqb nin0)
    replace R := R.caload (pc' := 13) (v := (.int x1)) F4 ⟨by decide, by decide⟩ rfl own_d10_12 rfl
    replace R := R.istore (pc' := 15) (l' := #[.val (.ref q), .val (.int (1 : Int32)), .val (.ref b), .val (.int (1 : Int32)), .val (.int (5 : Int32)), .val (.int (1 : Int32)), .val (.int x1)]) own_d10_13 rfl rfl
    replace R := R.iload (pc' := 17) (v := x1) own_d10_15 rfl rfl
    replace R := R.sipush (pc' := 20) (z := (255 : Int32)) own_d10_17 rfl rfl
    by_cases hc5 : (255 : Int32) < x1
    · replace R := R.icmpN (pc' := 23) own_d10_20 (tlt hc5).2.2.2 rfl
      replace R := R.iload (pc' := 25) (v := (1 : Int32)) own_d10_23 rfl rfl
      have hK : Keep h h2 [b] := ((Keep.refl h [b]).trans K2 (allS (Or.inl (List.mem_of_getElem? (i := 0) rfl)) all0))
      exact R.retI (Ds' := Ds) hret own_d10_25 (by decide) (by decide) (fun _ q => q) ⟨hK, rfl, Or.inr (Or.inr (Or.inl ⟨rfl, hc5⟩))⟩
    · replace R := R.icmpY (pc' := 26) own_d10_20 (flt hc5).2.2.2 (by decide) rfl
      replace R := R.aloadN (pc' := 27) (v := (.ref b)) own_d10_26 rfl rfl rfl
      replace R := R.iloadN (pc' := 28) (v := (1 : Int32)) own_d10_27 rfl rfl
      replace R := R.iload (pc' := 30) (v := x1) own_d10_28 rfl rfl
      replace R := R.i2b (pc' := 31) own_d10_30 rfl
      obtain ⟨h6, K6, V6, R⟩ := R.bastore (pc' := 32) V2p ⟨by decide, by decide⟩ 1 rfl (Nat.le_of_ble_eq_true rfl) hb own_d10_31 rfl
      have V6p : Arv Z h6 b kb .byte (5 : Int32) [(.int x0.toInt8.toInt32), (.int x1.toInt8.toInt32), (.int (0 : Int32)), (.int (0 : Int32)), (.int (0 : Int32))] (.int 0) := by
        have q := V6
        rw [nar_i2b x1] at q
        exact q
      replace R := R.iinc (pc' := 35) (l' := #[.val (.ref q), .val (.int (2 : Int32)), .val (.ref b), .val (.int (1 : Int32)), .val (.int (5 : Int32)), .val (.int (1 : Int32)), .val (.int x1)]) own_d10_32 rfl rfl rfl
      replace R := R.iinc (pc' := 38) (l' := #[.val (.ref q), .val (.int (2 : Int32)), .val (.ref b), .val (.int (2 : Int32)), .val (.int (5 : Int32)), .val (.int (1 : Int32)), .val (.int x1)]) own_d10_35 rfl rfl rfl
      replace R := R.iinc (pc' := 41) (l' := #[.val (.ref q), .val (.int (2 : Int32)), .val (.ref b), .val (.int (2 : Int32)), .val (.int (5 : Int32)), .val (.int (2 : Int32)), .val (.int x1)]) own_d10_38 rfl rfl rfl
      replace R := R.goto (pc' := 3) own_d10_41 (by decide) rfl
      replace R := R.iload (pc' := 5) (v := (2 : Int32)) own_d10_3 rfl rfl
      replace R := R.iload (pc' := 7) (v := (5 : Int32)) own_d10_5 rfl rfl
      replace R := R.icmpN (pc' := 10) own_d10_7 (tlt (by decide : (2 : Int32) < (5 : Int32))).2.1 rfl
      replace R := R.aloadN (pc' := 11) (v := (.ref q)) own_d10_10 rfl rfl rfl
      replace R := R.iloadN (pc' := 12) (v := (2 : Int32)) own_d10_11 rfl rfl
      have K7 := ((Keep.refl h2 [b]).trans K6 (allS (Or.inl (List.mem_of_getElem? (i := 0) rfl)) all0))
      have F8 := F4.keep K7 (ninS nqb nin0)
      replace R := R.caload (pc' := 13) (v := (.int x2)) F8 ⟨by decide, by decide⟩ rfl own_d10_12 rfl
      replace R := R.istore (pc' := 15) (l' := #[.val (.ref q), .val (.int (2 : Int32)), .val (.ref b), .val (.int (2 : Int32)), .val (.int (5 : Int32)), .val (.int (2 : Int32)), .val (.int x2)]) own_d10_13 rfl rfl
      replace R := R.iload (pc' := 17) (v := x2) own_d10_15 rfl rfl
      replace R := R.sipush (pc' := 20) (z := (255 : Int32)) own_d10_17 rfl rfl
      by_cases hc9 : (255 : Int32) < x2
      · replace R := R.icmpN (pc' := 23) own_d10_20 (tlt hc9).2.2.2 rfl
        replace R := R.iload (pc' := 25) (v := (2 : Int32)) own_d10_23 rfl rfl
        have hK : Keep h h6 [b] := (((Keep.refl h [b]).trans K2 (allS (Or.inl (List.mem_of_getElem? (i := 0) rfl)) all0)).trans K6 (allS (Or.inl (List.mem_of_getElem? (i := 0) rfl)) all0))
        exact R.retI (Ds' := Ds) hret own_d10_25 (by decide) (by decide) (fun _ q => q) ⟨hK, rfl, Or.inr (Or.inr (Or.inr (Or.inl ⟨rfl, hc9⟩)))⟩
      · replace R := R.icmpY (pc' := 26) own_d10_20 (flt hc9).2.2.2 (by decide) rfl
        replace R := R.aloadN (pc' := 27) (v := (.ref b)) own_d10_26 rfl rfl rfl
        replace R := R.iloadN (pc' := 28) (v := (2 : Int32)) own_d10_27 rfl rfl
        replace R := R.iload (pc' := 30) (v := x2) own_d10_28 rfl rfl
        replace R := R.i2b (pc' := 31) own_d10_30 rfl
        obtain ⟨h10, K10, V10, R⟩ := R.bastore (pc' := 32) V6p ⟨by decide, by decide⟩ 2 rfl (Nat.le_of_ble_eq_true rfl) hb own_d10_31 rfl
        have V10p : Arv Z h10 b kb .byte (5 : Int32) [(.int x0.toInt8.toInt32), (.int x1.toInt8.toInt32), (.int x2.toInt8.toInt32), (.int (0 : Int32)), (.int (0 : Int32))] (.int 0) := by
          have q := V10
          rw [nar_i2b x2] at q
          exact q
        replace R := R.iinc (pc' := 35) (l' := #[.val (.ref q), .val (.int (3 : Int32)), .val (.ref b), .val (.int (2 : Int32)), .val (.int (5 : Int32)), .val (.int (2 : Int32)), .val (.int x2)]) own_d10_32 rfl rfl rfl
        replace R := R.iinc (pc' := 38) (l' := #[.val (.ref q), .val (.int (3 : Int32)), .val (.ref b), .val (.int (3 : Int32)), .val (.int (5 : Int32)), .val (.int (2 : Int32)), .val (.int x2)]) own_d10_35 rfl rfl rfl
        replace R := R.iinc (pc' := 41) (l' := #[.val (.ref q), .val (.int (3 : Int32)), .val (.ref b), .val (.int (3 : Int32)), .val (.int (5 : Int32)), .val (.int (3 : Int32)), .val (.int x2)]) own_d10_38 rfl rfl rfl
        replace R := R.goto (pc' := 3) own_d10_41 (by decide) rfl
        replace R := R.iload (pc' := 5) (v := (3 : Int32)) own_d10_3 rfl rfl
        replace R := R.iload (pc' := 7) (v := (5 : Int32)) own_d10_5 rfl rfl
        replace R := R.icmpN (pc' := 10) own_d10_7 (tlt (by decide : (3 : Int32) < (5 : Int32))).2.1 rfl
        replace R := R.aloadN (pc' := 11) (v := (.ref q)) own_d10_10 rfl rfl rfl
        replace R := R.iloadN (pc' := 12) (v := (3 : Int32)) own_d10_11 rfl rfl
        have K11 := ((Keep.refl h6 [b]).trans K10 (allS (Or.inl (List.mem_of_getElem? (i := 0) rfl)) all0))
        have F12 := F8.keep K11 (ninS nqb nin0)
        replace R := R.caload (pc' := 13) (v := (.int x3)) F12 ⟨by decide, by decide⟩ rfl own_d10_12 rfl
        replace R := R.istore (pc' := 15) (l' := #[.val (.ref q), .val (.int (3 : Int32)), .val (.ref b), .val (.int (3 : Int32)), .val (.int (5 : Int32)), .val (.int (3 : Int32)), .val (.int x3)]) own_d10_13 rfl rfl
        replace R := R.iload (pc' := 17) (v := x3) own_d10_15 rfl rfl
        replace R := R.sipush (pc' := 20) (z := (255 : Int32)) own_d10_17 rfl rfl
        by_cases hc13 : (255 : Int32) < x3
        · replace R := R.icmpN (pc' := 23) own_d10_20 (tlt hc13).2.2.2 rfl
          replace R := R.iload (pc' := 25) (v := (3 : Int32)) own_d10_23 rfl rfl
          have hK : Keep h h10 [b] := ((((Keep.refl h [b]).trans K2 (allS (Or.inl (List.mem_of_getElem? (i := 0) rfl)) all0)).trans K6 (allS (Or.inl (List.mem_of_getElem? (i := 0) rfl)) all0)).trans K10 (allS (Or.inl (List.mem_of_getElem? (i := 0) rfl)) all0))
          exact R.retI (Ds' := Ds) hret own_d10_25 (by decide) (by decide) (fun _ q => q) ⟨hK, rfl, Or.inr (Or.inr (Or.inr (Or.inr (Or.inl ⟨rfl, hc13⟩))))⟩
        · replace R := R.icmpY (pc' := 26) own_d10_20 (flt hc13).2.2.2 (by decide) rfl
          replace R := R.aloadN (pc' := 27) (v := (.ref b)) own_d10_26 rfl rfl rfl
          replace R := R.iloadN (pc' := 28) (v := (3 : Int32)) own_d10_27 rfl rfl
          replace R := R.iload (pc' := 30) (v := x3) own_d10_28 rfl rfl
          replace R := R.i2b (pc' := 31) own_d10_30 rfl
          obtain ⟨h14, K14, V14, R⟩ := R.bastore (pc' := 32) V10p ⟨by decide, by decide⟩ 3 rfl (Nat.le_of_ble_eq_true rfl) hb own_d10_31 rfl
          have V14p : Arv Z h14 b kb .byte (5 : Int32) [(.int x0.toInt8.toInt32), (.int x1.toInt8.toInt32), (.int x2.toInt8.toInt32), (.int x3.toInt8.toInt32), (.int (0 : Int32))] (.int 0) := by
            have q := V14
            rw [nar_i2b x3] at q
            exact q
          replace R := R.iinc (pc' := 35) (l' := #[.val (.ref q), .val (.int (4 : Int32)), .val (.ref b), .val (.int (3 : Int32)), .val (.int (5 : Int32)), .val (.int (3 : Int32)), .val (.int x3)]) own_d10_32 rfl rfl rfl
          replace R := R.iinc (pc' := 38) (l' := #[.val (.ref q), .val (.int (4 : Int32)), .val (.ref b), .val (.int (4 : Int32)), .val (.int (5 : Int32)), .val (.int (3 : Int32)), .val (.int x3)]) own_d10_35 rfl rfl rfl
          replace R := R.iinc (pc' := 41) (l' := #[.val (.ref q), .val (.int (4 : Int32)), .val (.ref b), .val (.int (4 : Int32)), .val (.int (5 : Int32)), .val (.int (4 : Int32)), .val (.int x3)]) own_d10_38 rfl rfl rfl
          replace R := R.goto (pc' := 3) own_d10_41 (by decide) rfl
          replace R := R.iload (pc' := 5) (v := (4 : Int32)) own_d10_3 rfl rfl
          replace R := R.iload (pc' := 7) (v := (5 : Int32)) own_d10_5 rfl rfl
          replace R := R.icmpN (pc' := 10) own_d10_7 (tlt (by decide : (4 : Int32) < (5 : Int32))).2.1 rfl
          replace R := R.aloadN (pc' := 11) (v := (.ref q)) own_d10_10 rfl rfl rfl
          replace R := R.iloadN (pc' := 12) (v := (4 : Int32)) own_d10_11 rfl rfl
          have K15 := ((Keep.refl h10 [b]).trans K14 (allS (Or.inl (List.mem_of_getElem? (i := 0) rfl)) all0))
          have F16 := F12.keep K15 (ninS nqb nin0)
          replace R := R.caload (pc' := 13) (v := (.int x4)) F16 ⟨by decide, by decide⟩ rfl own_d10_12 rfl
          replace R := R.istore (pc' := 15) (l' := #[.val (.ref q), .val (.int (4 : Int32)), .val (.ref b), .val (.int (4 : Int32)), .val (.int (5 : Int32)), .val (.int (4 : Int32)), .val (.int x4)]) own_d10_13 rfl rfl
          replace R := R.iload (pc' := 17) (v := x4) own_d10_15 rfl rfl
          replace R := R.sipush (pc' := 20) (z := (255 : Int32)) own_d10_17 rfl rfl
          by_cases hc17 : (255 : Int32) < x4
          · replace R := R.icmpN (pc' := 23) own_d10_20 (tlt hc17).2.2.2 rfl
            replace R := R.iload (pc' := 25) (v := (4 : Int32)) own_d10_23 rfl rfl
            have hK : Keep h h14 [b] := (((((Keep.refl h [b]).trans K2 (allS (Or.inl (List.mem_of_getElem? (i := 0) rfl)) all0)).trans K6 (allS (Or.inl (List.mem_of_getElem? (i := 0) rfl)) all0)).trans K10 (allS (Or.inl (List.mem_of_getElem? (i := 0) rfl)) all0)).trans K14 (allS (Or.inl (List.mem_of_getElem? (i := 0) rfl)) all0))
            exact R.retI (Ds' := Ds) hret own_d10_25 (by decide) (by decide) (fun _ q => q) ⟨hK, rfl, Or.inr (Or.inr (Or.inr (Or.inr (Or.inr (⟨rfl, hc17⟩)))))⟩
          · replace R := R.icmpY (pc' := 26) own_d10_20 (flt hc17).2.2.2 (by decide) rfl
            replace R := R.aloadN (pc' := 27) (v := (.ref b)) own_d10_26 rfl rfl rfl
            replace R := R.iloadN (pc' := 28) (v := (4 : Int32)) own_d10_27 rfl rfl
            replace R := R.iload (pc' := 30) (v := x4) own_d10_28 rfl rfl
            replace R := R.i2b (pc' := 31) own_d10_30 rfl
            obtain ⟨h18, K18, V18, R⟩ := R.bastore (pc' := 32) V14p ⟨by decide, by decide⟩ 4 rfl (Nat.le_of_ble_eq_true rfl) hb own_d10_31 rfl
            have V18p : Arv Z h18 b kb .byte (5 : Int32) [(.int x0.toInt8.toInt32), (.int x1.toInt8.toInt32), (.int x2.toInt8.toInt32), (.int x3.toInt8.toInt32), (.int x4.toInt8.toInt32)] (.int 0) := by
              have q := V18
              rw [nar_i2b x4] at q
              exact q
            replace R := R.iinc (pc' := 35) (l' := #[.val (.ref q), .val (.int (5 : Int32)), .val (.ref b), .val (.int (4 : Int32)), .val (.int (5 : Int32)), .val (.int (4 : Int32)), .val (.int x4)]) own_d10_32 rfl rfl rfl
            replace R := R.iinc (pc' := 38) (l' := #[.val (.ref q), .val (.int (5 : Int32)), .val (.ref b), .val (.int (5 : Int32)), .val (.int (5 : Int32)), .val (.int (4 : Int32)), .val (.int x4)]) own_d10_35 rfl rfl rfl
            replace R := R.iinc (pc' := 41) (l' := #[.val (.ref q), .val (.int (5 : Int32)), .val (.ref b), .val (.int (5 : Int32)), .val (.int (5 : Int32)), .val (.int (5 : Int32)), .val (.int x4)]) own_d10_38 rfl rfl rfl
            replace R := R.goto (pc' := 3) own_d10_41 (by decide) rfl
            replace R := R.iload (pc' := 5) (v := (5 : Int32)) own_d10_3 rfl rfl
            replace R := R.iload (pc' := 7) (v := (5 : Int32)) own_d10_5 rfl rfl
            replace R := R.icmpY (pc' := 44) own_d10_7 (flt (by decide : ¬ ((5 : Int32) < (5 : Int32)))).2.1 (by decide) rfl
            replace R := R.iload (pc' := 46) (v := (5 : Int32)) own_d10_44 rfl rfl
            have hK : Keep h h18 [b] := ((((((Keep.refl h [b]).trans K2 (allS (Or.inl (List.mem_of_getElem? (i := 0) rfl)) all0)).trans K6 (allS (Or.inl (List.mem_of_getElem? (i := 0) rfl)) all0)).trans K10 (allS (Or.inl (List.mem_of_getElem? (i := 0) rfl)) all0)).trans K14 (allS (Or.inl (List.mem_of_getElem? (i := 0) rfl)) all0)).trans K18 (allS (Or.inl (List.mem_of_getElem? (i := 0) rfl)) all0))
            exact R.retI (Ds' := Ds) hret own_d10_46 (by decide) (by decide) (fun _ q => q) ⟨hK, rfl, Or.inl ⟨rfl, (chS ⟨(hok x0 (List.mem_of_getElem? (i := 0) rfl)).1, hc1⟩ (chS ⟨(hok x1 (List.mem_of_getElem? (i := 1) rfl)).1, hc5⟩ (chS ⟨(hok x2 (List.mem_of_getElem? (i := 2) rfl)).1, hc9⟩ (chS ⟨(hok x3 (List.mem_of_getElem? (i := 3) rfl)).1, hc13⟩ (chS ⟨(hok x4 (List.mem_of_getElem? (i := 4) rfl)).1, hc17⟩ ch0))))), V18p⟩⟩
set_option maxRecDepth 65536 in
set_option maxHeartbeats 4000000 in
theorem rm_c35 (l : Launch) (Z : State) (a0 : Array Value) (hw : ∀ d ∈ tables_1, d.before a0 Z = true) (h : Heap) (n0 : Nat) (Ds : List Addr) (own_u : U16ok Z) {x0 x1 x2 x3 x4 : Int32} (hok : ∀ c ∈ ([x0, x1, x2, x3, x4] : List Int32), ¬ c < 0 ∧ ¬ (65535 : Int32) < c) {q : Addr} {kq : ClassId} (V_q : Arv Z h q kq .char (5 : Int32) ([Value.int x0, Value.int x1, Value.int x2, Value.int x3, Value.int x4]) (.int 0)) :
    Ctr l Z (⟨"java/lang/StringUTF16", "compress", "([CII)[B"⟩ : MethodName) jdk_52_method_16_code 6 (some (.array .byte)) [] ({ frames := 3, cells := 2, slots := 15, locals := 40 } : Room) #[.ref q, .int (0 : Int32), .int (5 : Int32)] h n0 Ds (fun v h' Ds' => ∃ (b : Addr) (kb : ClassId), v = some (.ref b) ∧ Keep h h' [] ∧ Ds = Ds' ∧ (((∀ c ∈ ([x0, x1, x2, x3, x4] : List Int32), ¬ c < 0 ∧ ¬ (255 : Int32) < c) ∧ Arv Z h' b kb .byte (5 : Int32) [(.int x0.toInt8.toInt32), (.int x1.toInt8.toInt32), (.int x2.toInt8.toInt32), (.int x3.toInt8.toInt32), (.int x4.toInt8.toInt32)] (.int 0)) ∨ Arv Z h' b kb .byte (10 : Int32) [(.int (StrChars.lo8 x0)), (.int (StrChars.hi8 x0)), (.int (StrChars.lo8 x1)), (.int (StrChars.hi8 x1)), (.int (StrChars.lo8 x2)), (.int (StrChars.hi8 x2)), (.int (StrChars.lo8 x3)), (.int (StrChars.hi8 x3)), (.int (StrChars.lo8 x4)), (.int (StrChars.hi8 x4))] (.int 0))) := by
  refine ctr_of (Ls := #[.val (.ref q), .val (.int (0 : Int32)), .val (.int (5 : Int32)), .unset, .unset, .unset]) (plainFor_of_name own_pn3) (fun m => by first | (simp [entryFrame, mkF, argsToLocals, Value.category]; done) | rfl) ?_
  intro C hl hret hnm R
  subst hl
  have hql : q < h.size := V_q.lt
  replace R := R.iloadN (pc' := 1) (v := (5 : Int32)) own_d9_0 rfl rfl
  obtain ⟨h1, b1, k1, g1, E1, V1, R⟩ := R.newP (pc' := 3) (aty := .byte) (cap := 5) (own_w25 hw) own_d9_1 (by decide) (by decide) (by decide) (by decide) (by decide) rfl
  have V1p : Arv Z h1 b1 k1 .byte (5 : Int32) [(.int (0 : Int32)), (.int (0 : Int32)), (.int (0 : Int32)), (.int (0 : Int32)), (.int (0 : Int32))] (.int (0 : Int32)) := V1.pad (pad_rep [] (.int (0 : Int32)) 5)
  replace R := R.astoreN (pc' := 4) (l' := #[.val (.ref q), .val (.int (0 : Int32)), .val (.int (5 : Int32)), .val (.ref b1), .unset, .unset]) own_d9_3 rfl rfl rfl
  replace R := R.aloadN (pc' := 5) (v := (.ref q)) own_d9_4 rfl rfl rfl
  replace R := R.iloadN (pc' := 6) (v := (0 : Int32)) own_d9_5 rfl rfl
  replace R := R.aloadN (pc' := 7) (v := (.ref b1)) own_d9_6 rfl rfl rfl
  replace R := R.iconst (pc' := 8) (z := (0 : Int32)) own_d9_7 rfl rfl
  replace R := R.iloadN (pc' := 9) (v := (5 : Int32)) own_d9_8 rfl rfl
  have K3 := ((Keep.refl h []).trans ((Keep.refl h []).ext E1) all0)
  have F4 := V_q.keep K3 nin0
  have nqb : q ≠ b1 := fun e => by rw [e, g1] at hql; exact Nat.lt_irrefl _ hql
  obtain ⟨v2, h2, _, ⟨K2, rfl, hD2⟩, R⟩ := R.callS (pc' := 12) (argsL := [(.ref q), (.int (0 : Int32)), (.ref b1), (.int (0 : Int32)), (.int (5 : Int32))]) (rest := []) (W := 0) (own_w51 hw) (own_w52 hw) (own_w49 hw) (own_w53 hw) (by decide) (rm_c55 C.l Z a0 hw h1 n0 (b1 :: Ds) hok F4 (List.mem_of_getElem? (i := 0) rfl) nqb V1p) rfl (lenOf own_pd11 rfl) rfl rfl own_d9_9 (by decide) (by decide) (by decide) (by decide) rfl
  replace R := R.mono (ce' := 1) (sl' := 5) (by decide) (by decide)
  rcases hD2 with ⟨rfl, hL, V2⟩ | ⟨rfl, hj⟩ | ⟨rfl, hj⟩ | ⟨rfl, hj⟩ | ⟨rfl, hj⟩ | ⟨rfl, hj⟩
  · replace R := R.stk (S' := [(.int (5 : Int32))]) rfl
    replace R := R.istore (pc' := 14) (l' := #[.val (.ref q), .val (.int (0 : Int32)), .val (.int (5 : Int32)), .val (.ref b1), .val (.int (5 : Int32)), .unset]) own_d9_12 rfl rfl
    replace R := R.iload (pc' := 16) (v := (5 : Int32)) own_d9_14 rfl rfl
    replace R := R.iloadN (pc' := 17) (v := (5 : Int32)) own_d9_16 rfl rfl
    replace R := R.icmpY (pc' := 57) own_d9_17 (teq (by decide : (5 : Int32) = (5 : Int32))).1 (by decide) rfl
    replace R := R.aloadN (pc' := 58) (v := (.ref b1)) own_d9_57 rfl rfl rfl
    have hK := (((Keep.refl h []).trans ((Keep.refl h []).ext E1) all0).trans K2 (allS (Or.inr (by rw [g1]; exact (Nat.le_refl _))) all0))
    exact R.retA (Ds' := Ds) hret rfl rfl rfl own_d9_58 (by decide) (by decide) (fun _ q => (fun q => (List.mem_cons_of_mem _ q)) q) ⟨b1, _, rfl, hK, rfl, Or.inl ⟨hL, V2⟩⟩
  · replace R := R.stk (S' := [(.int (0 : Int32))]) rfl
    replace R := R.istore (pc' := 14) (l' := #[.val (.ref q), .val (.int (0 : Int32)), .val (.int (5 : Int32)), .val (.ref b1), .val (.int (0 : Int32)), .unset]) own_d9_12 rfl rfl
    replace R := R.iload (pc' := 16) (v := (0 : Int32)) own_d9_14 rfl rfl
    replace R := R.iloadN (pc' := 17) (v := (5 : Int32)) own_d9_16 rfl rfl
    replace R := R.icmpN (pc' := 20) own_d9_17 (feq (by decide : ¬ ((0 : Int32) = (5 : Int32)))).1 rfl
    replace R := R.aloadN (pc' := 21) (v := (.ref q)) own_d9_20 rfl rfl rfl
    replace R := R.iloadN (pc' := 22) (v := (0 : Int32)) own_d9_21 rfl rfl
    replace R := R.iloadN (pc' := 23) (v := (5 : Int32)) own_d9_22 rfl rfl
    have K6 := ((Keep.refl h1 [b1]).trans K2 (allS (Or.inl (List.mem_of_getElem? (i := 0) rfl)) all0))
    have F7 := F4.keep K6 (ninS nqb nin0)
    obtain ⟨_, h5, _, ⟨r5, k5, rfl, K5, V5, rfl⟩, R⟩ := R.callS (pc' := 26) (argsL := [(.ref q), (.int (0 : Int32)), (.int (5 : Int32))]) (rest := []) (W := 0) (own_w88 hw) (own_w89 hw) (own_w49 hw) (own_w90 hw) (by decide) (rm_tb5 C.l Z a0 hw h2 n0 (b1 :: Ds) own_u hok F7) rfl (lenOf own_pd12 rfl) rfl rfl own_d9_23 (by decide) (by decide) (by decide) (by decide) rfl
    replace R := R.mono (ce' := 2) (sl' := 15) (by decide) (by decide)
    replace R := R.stk (S' := [(.ref r5)]) rfl
    replace R := R.astore (pc' := 28) (l' := #[.val (.ref q), .val (.int (0 : Int32)), .val (.int (5 : Int32)), .val (.ref b1), .val (.int (0 : Int32)), .val (.ref r5)]) own_d9_26 rfl rfl rfl
    replace R := R.aload (pc' := 30) (v := (.ref r5)) own_d9_28 rfl rfl rfl
    replace R := R.iload (pc' := 32) (v := (0 : Int32)) own_d9_30 rfl rfl
    obtain ⟨_, _, _, ⟨rfl, rfl, rfl⟩, R⟩ := R.callS (pc' := 35) (argsL := [(.ref r5), (.int (0 : Int32))]) (rest := []) (W := 0) (own_w104 hw) (own_w105 hw) (own_w49 hw) (own_w106 hw) (by decide) (rm_gc C.l Z a0 hw r5 (0 : Int32) h5 n0 (b1 :: Ds) own_u (k := 0) (m := 5) rfl (by decide) (by decide) (c := x0) (hok x0 (List.mem_of_getElem? (i := 0) rfl)) rfl rfl V5) rfl (lenOf own_pd4 rfl) rfl rfl own_d9_32 (by decide) (by decide) (by decide) (by decide) rfl
    replace R := R.mono (ce' := 2) (sl' := 15) (by decide) (by decide)
    replace R := R.stk (S' := [(.int x0)]) rfl
    replace R := R.sipush (pc' := 38) (z := (255 : Int32)) own_d9_35 rfl rfl
    replace R := R.icmpY (pc' := 54) own_d9_38 (tlt hj).2.2.1 (by decide) rfl
    replace R := R.aload (pc' := 56) (v := (.ref r5)) own_d9_54 rfl rfl rfl
    have hK := ((((Keep.refl h []).trans ((Keep.refl h []).ext E1) all0).trans K2 (allS (Or.inr (by rw [g1]; exact (Nat.le_refl _))) all0)).trans K5 all0)
    exact R.retA (Ds' := Ds) hret rfl rfl rfl own_d9_56 (by decide) (by decide) (fun _ q => (fun q => (List.mem_cons_of_mem _ q)) q) ⟨r5, _, rfl, hK, rfl, Or.inr V5⟩
  · replace R := R.stk (S' := [(.int (1 : Int32))]) rfl
    replace R := R.istore (pc' := 14) (l' := #[.val (.ref q), .val (.int (0 : Int32)), .val (.int (5 : Int32)), .val (.ref b1), .val (.int (1 : Int32)), .unset]) own_d9_12 rfl rfl
    replace R := R.iload (pc' := 16) (v := (1 : Int32)) own_d9_14 rfl rfl
    replace R := R.iloadN (pc' := 17) (v := (5 : Int32)) own_d9_16 rfl rfl
    replace R := R.icmpN (pc' := 20) own_d9_17 (feq (by decide : ¬ ((1 : Int32) = (5 : Int32)))).1 rfl
    replace R := R.aloadN (pc' := 21) (v := (.ref q)) own_d9_20 rfl rfl rfl
    replace R := R.iloadN (pc' := 22) (v := (0 : Int32)) own_d9_21 rfl rfl
    replace R := R.iloadN (pc' := 23) (v := (5 : Int32)) own_d9_22 rfl rfl
    have K9 := ((Keep.refl h1 [b1]).trans K2 (allS (Or.inl (List.mem_of_getElem? (i := 0) rfl)) all0))
    have F10 := F4.keep K9 (ninS nqb nin0)
    obtain ⟨_, h8, _, ⟨r8, k8, rfl, K8, V8, rfl⟩, R⟩ := R.callS (pc' := 26) (argsL := [(.ref q), (.int (0 : Int32)), (.int (5 : Int32))]) (rest := []) (W := 0) (own_w88 hw) (own_w89 hw) (own_w49 hw) (own_w90 hw) (by decide) (rm_tb5 C.l Z a0 hw h2 n0 (b1 :: Ds) own_u hok F10) rfl (lenOf own_pd12 rfl) rfl rfl own_d9_23 (by decide) (by decide) (by decide) (by decide) rfl
    replace R := R.mono (ce' := 2) (sl' := 15) (by decide) (by decide)
    replace R := R.stk (S' := [(.ref r8)]) rfl
    replace R := R.astore (pc' := 28) (l' := #[.val (.ref q), .val (.int (0 : Int32)), .val (.int (5 : Int32)), .val (.ref b1), .val (.int (1 : Int32)), .val (.ref r8)]) own_d9_26 rfl rfl rfl
    replace R := R.aload (pc' := 30) (v := (.ref r8)) own_d9_28 rfl rfl rfl
    replace R := R.iload (pc' := 32) (v := (1 : Int32)) own_d9_30 rfl rfl
    obtain ⟨_, _, _, ⟨rfl, rfl, rfl⟩, R⟩ := R.callS (pc' := 35) (argsL := [(.ref r8), (.int (1 : Int32))]) (rest := []) (W := 0) (own_w104 hw) (own_w105 hw) (own_w49 hw) (own_w106 hw) (by decide) (rm_gc C.l Z a0 hw r8 (1 : Int32) h8 n0 (b1 :: Ds) own_u (k := 1) (m := 5) rfl (by decide) (by decide) (c := x1) (hok x1 (List.mem_of_getElem? (i := 1) rfl)) rfl rfl V8) rfl (lenOf own_pd4 rfl) rfl rfl own_d9_32 (by decide) (by decide) (by decide) (by decide) rfl
    replace R := R.mono (ce' := 2) (sl' := 15) (by decide) (by decide)
    replace R := R.stk (S' := [(.int x1)]) rfl
    replace R := R.sipush (pc' := 38) (z := (255 : Int32)) own_d9_35 rfl rfl
    replace R := R.icmpY (pc' := 54) own_d9_38 (tlt hj).2.2.1 (by decide) rfl
    replace R := R.aload (pc' := 56) (v := (.ref r8)) own_d9_54 rfl rfl rfl
    have hK := ((((Keep.refl h []).trans ((Keep.refl h []).ext E1) all0).trans K2 (allS (Or.inr (by rw [g1]; exact (Nat.le_refl _))) all0)).trans K8 all0)
    exact R.retA (Ds' := Ds) hret rfl rfl rfl own_d9_56 (by decide) (by decide) (fun _ q => (fun q => (List.mem_cons_of_mem _ q)) q) ⟨r8, _, rfl, hK, rfl, Or.inr V8⟩
  · replace R := R.stk (S' := [(.int (2 : Int32))]) rfl
    replace R := R.istore (pc' := 14) (l' := #[.val (.ref q), .val (.int (0 : Int32)), .val (.int (5 : Int32)), .val (.ref b1), .val (.int (2 : Int32)), .unset]) own_d9_12 rfl rfl
    replace R := R.iload (pc' := 16) (v := (2 : Int32)) own_d9_14 rfl rfl
    replace R := R.iloadN (pc' := 17) (v := (5 : Int32)) own_d9_16 rfl rfl
    replace R := R.icmpN (pc' := 20) own_d9_17 (feq (by decide : ¬ ((2 : Int32) = (5 : Int32)))).1 rfl
    replace R := R.aloadN (pc' := 21) (v := (.ref q)) own_d9_20 rfl rfl rfl
    replace R := R.iloadN (pc' := 22) (v := (0 : Int32)) own_d9_21 rfl rfl
    replace R := R.iloadN (pc' := 23) (v := (5 : Int32)) own_d9_22 rfl rfl
    have K12 := ((Keep.refl h1 [b1]).trans K2 (allS (Or.inl (List.mem_of_getElem? (i := 0) rfl)) all0))
    have F13 := F4.keep K12 (ninS nqb nin0)
    obtain ⟨_, h11, _, ⟨r11, k11, rfl, K11, V11, rfl⟩, R⟩ := R.callS (pc' := 26) (argsL := [(.ref q), (.int (0 : Int32)), (.int (5 : Int32))]) (rest := []) (W := 0) (own_w88 hw) (own_w89 hw) (own_w49 hw) (own_w90 hw) (by decide) (rm_tb5 C.l Z a0 hw h2 n0 (b1 :: Ds) own_u hok F13) rfl (lenOf own_pd12 rfl) rfl rfl own_d9_23 (by decide) (by decide) (by decide) (by decide) rfl
    replace R := R.mono (ce' := 2) (sl' := 15) (by decide) (by decide)
    replace R := R.stk (S' := [(.ref r11)]) rfl
    replace R := R.astore (pc' := 28) (l' := #[.val (.ref q), .val (.int (0 : Int32)), .val (.int (5 : Int32)), .val (.ref b1), .val (.int (2 : Int32)), .val (.ref r11)]) own_d9_26 rfl rfl rfl
    replace R := R.aload (pc' := 30) (v := (.ref r11)) own_d9_28 rfl rfl rfl
    replace R := R.iload (pc' := 32) (v := (2 : Int32)) own_d9_30 rfl rfl
    obtain ⟨_, _, _, ⟨rfl, rfl, rfl⟩, R⟩ := R.callS (pc' := 35) (argsL := [(.ref r11), (.int (2 : Int32))]) (rest := []) (W := 0) (own_w104 hw) (own_w105 hw) (own_w49 hw) (own_w106 hw) (by decide) (rm_gc C.l Z a0 hw r11 (2 : Int32) h11 n0 (b1 :: Ds) own_u (k := 2) (m := 5) rfl (by decide) (by decide) (c := x2) (hok x2 (List.mem_of_getElem? (i := 2) rfl)) rfl rfl V11) rfl (lenOf own_pd4 rfl) rfl rfl own_d9_32 (by decide) (by decide) (by decide) (by decide) rfl
    replace R := R.mono (ce' := 2) (sl' := 15) (by decide) (by decide)
    replace R := R.stk (S' := [(.int x2)]) rfl
    replace R := R.sipush (pc' := 38) (z := (255 : Int32)) own_d9_35 rfl rfl
    replace R := R.icmpY (pc' := 54) own_d9_38 (tlt hj).2.2.1 (by decide) rfl
    replace R := R.aload (pc' := 56) (v := (.ref r11)) own_d9_54 rfl rfl rfl
    have hK := ((((Keep.refl h []).trans ((Keep.refl h []).ext E1) all0).trans K2 (allS (Or.inr (by rw [g1]; exact (Nat.le_refl _))) all0)).trans K11 all0)
    exact R.retA (Ds' := Ds) hret rfl rfl rfl own_d9_56 (by decide) (by decide) (fun _ q => (fun q => (List.mem_cons_of_mem _ q)) q) ⟨r11, _, rfl, hK, rfl, Or.inr V11⟩
  · replace R := R.stk (S' := [(.int (3 : Int32))]) rfl
    replace R := R.istore (pc' := 14) (l' := #[.val (.ref q), .val (.int (0 : Int32)), .val (.int (5 : Int32)), .val (.ref b1), .val (.int (3 : Int32)), .unset]) own_d9_12 rfl rfl
    replace R := R.iload (pc' := 16) (v := (3 : Int32)) own_d9_14 rfl rfl
    replace R := R.iloadN (pc' := 17) (v := (5 : Int32)) own_d9_16 rfl rfl
    replace R := R.icmpN (pc' := 20) own_d9_17 (feq (by decide : ¬ ((3 : Int32) = (5 : Int32)))).1 rfl
    replace R := R.aloadN (pc' := 21) (v := (.ref q)) own_d9_20 rfl rfl rfl
    replace R := R.iloadN (pc' := 22) (v := (0 : Int32)) own_d9_21 rfl rfl
    replace R := R.iloadN (pc' := 23) (v := (5 : Int32)) own_d9_22 rfl rfl
    have K15 := ((Keep.refl h1 [b1]).trans K2 (allS (Or.inl (List.mem_of_getElem? (i := 0) rfl)) all0))
    have F16 := F4.keep K15 (ninS nqb nin0)
    obtain ⟨_, h14, _, ⟨r14, k14, rfl, K14, V14, rfl⟩, R⟩ := R.callS (pc' := 26) (argsL := [(.ref q), (.int (0 : Int32)), (.int (5 : Int32))]) (rest := []) (W := 0) (own_w88 hw) (own_w89 hw) (own_w49 hw) (own_w90 hw) (by decide) (rm_tb5 C.l Z a0 hw h2 n0 (b1 :: Ds) own_u hok F16) rfl (lenOf own_pd12 rfl) rfl rfl own_d9_23 (by decide) (by decide) (by decide) (by decide) rfl
    replace R := R.mono (ce' := 2) (sl' := 15) (by decide) (by decide)
    replace R := R.stk (S' := [(.ref r14)]) rfl
    replace R := R.astore (pc' := 28) (l' := #[.val (.ref q), .val (.int (0 : Int32)), .val (.int (5 : Int32)), .val (.ref b1), .val (.int (3 : Int32)), .val (.ref r14)]) own_d9_26 rfl rfl rfl
    replace R := R.aload (pc' := 30) (v := (.ref r14)) own_d9_28 rfl rfl rfl
    replace R := R.iload (pc' := 32) (v := (3 : Int32)) own_d9_30 rfl rfl
    obtain ⟨_, _, _, ⟨rfl, rfl, rfl⟩, R⟩ := R.callS (pc' := 35) (argsL := [(.ref r14), (.int (3 : Int32))]) (rest := []) (W := 0) (own_w104 hw) (own_w105 hw) (own_w49 hw) (own_w106 hw) (by decide) (rm_gc C.l Z a0 hw r14 (3 : Int32) h14 n0 (b1 :: Ds) own_u (k := 3) (m := 5) rfl (by decide) (by decide) (c := x3) (hok x3 (List.mem_of_getElem? (i := 3) rfl)) rfl rfl V14) rfl (lenOf own_pd4 rfl) rfl rfl own_d9_32 (by decide) (by decide) (by decide) (by decide) rfl
    replace R := R.mono (ce' := 2) (sl' := 15) (by decide) (by decide)
    replace R := R.stk (S' := [(.int x3)]) rfl
    replace R := R.sipush (pc' := 38) (z := (255 : Int32)) own_d9_35 rfl rfl
    replace R := R.icmpY (pc' := 54) own_d9_38 (tlt hj).2.2.1 (by decide) rfl
    replace R := R.aload (pc' := 56) (v := (.ref r14)) own_d9_54 rfl rfl rfl
    have hK := ((((Keep.refl h []).trans ((Keep.refl h []).ext E1) all0).trans K2 (allS (Or.inr (by rw [g1]; exact (Nat.le_refl _))) all0)).trans K14 all0)
    exact R.retA (Ds' := Ds) hret rfl rfl rfl own_d9_56 (by decide) (by decide) (fun _ q => (fun q => (List.mem_cons_of_mem _ q)) q) ⟨r14, _, rfl, hK, rfl, Or.inr V14⟩
  · replace R := R.stk (S' := [(.int (4 : Int32))]) rfl
    replace R := R.istore (pc' := 14) (l' := #[.val (.ref q), .val (.int (0 : Int32)), .val (.int (5 : Int32)), .val (.ref b1), .val (.int (4 : Int32)), .unset]) own_d9_12 rfl rfl
    replace R := R.iload (pc' := 16) (v := (4 : Int32)) own_d9_14 rfl rfl
    replace R := R.iloadN (pc' := 17) (v := (5 : Int32)) own_d9_16 rfl rfl
    replace R := R.icmpN (pc' := 20) own_d9_17 (feq (by decide : ¬ ((4 : Int32) = (5 : Int32)))).1 rfl
    replace R := R.aloadN (pc' := 21) (v := (.ref q)) own_d9_20 rfl rfl rfl
    replace R := R.iloadN (pc' := 22) (v := (0 : Int32)) own_d9_21 rfl rfl
    replace R := R.iloadN (pc' := 23) (v := (5 : Int32)) own_d9_22 rfl rfl
    have K18 := ((Keep.refl h1 [b1]).trans K2 (allS (Or.inl (List.mem_of_getElem? (i := 0) rfl)) all0))
    have F19 := F4.keep K18 (ninS nqb nin0)
    obtain ⟨_, h17, _, ⟨r17, k17, rfl, K17, V17, rfl⟩, R⟩ := R.callS (pc' := 26) (argsL := [(.ref q), (.int (0 : Int32)), (.int (5 : Int32))]) (rest := []) (W := 0) (own_w88 hw) (own_w89 hw) (own_w49 hw) (own_w90 hw) (by decide) (rm_tb5 C.l Z a0 hw h2 n0 (b1 :: Ds) own_u hok F19) rfl (lenOf own_pd12 rfl) rfl rfl own_d9_23 (by decide) (by decide) (by decide) (by decide) rfl
    replace R := R.mono (ce' := 2) (sl' := 15) (by decide) (by decide)
    replace R := R.stk (S' := [(.ref r17)]) rfl
    replace R := R.astore (pc' := 28) (l' := #[.val (.ref q), .val (.int (0 : Int32)), .val (.int (5 : Int32)), .val (.ref b1), .val (.int (4 : Int32)), .val (.ref r17)]) own_d9_26 rfl rfl rfl
    replace R := R.aload (pc' := 30) (v := (.ref r17)) own_d9_28 rfl rfl rfl
    replace R := R.iload (pc' := 32) (v := (4 : Int32)) own_d9_30 rfl rfl
    obtain ⟨_, _, _, ⟨rfl, rfl, rfl⟩, R⟩ := R.callS (pc' := 35) (argsL := [(.ref r17), (.int (4 : Int32))]) (rest := []) (W := 0) (own_w104 hw) (own_w105 hw) (own_w49 hw) (own_w106 hw) (by decide) (rm_gc C.l Z a0 hw r17 (4 : Int32) h17 n0 (b1 :: Ds) own_u (k := 4) (m := 5) rfl (by decide) (by decide) (c := x4) (hok x4 (List.mem_of_getElem? (i := 4) rfl)) rfl rfl V17) rfl (lenOf own_pd4 rfl) rfl rfl own_d9_32 (by decide) (by decide) (by decide) (by decide) rfl
    replace R := R.mono (ce' := 2) (sl' := 15) (by decide) (by decide)
    replace R := R.stk (S' := [(.int x4)]) rfl
    replace R := R.sipush (pc' := 38) (z := (255 : Int32)) own_d9_35 rfl rfl
    replace R := R.icmpY (pc' := 54) own_d9_38 (tlt hj).2.2.1 (by decide) rfl
    replace R := R.aload (pc' := 56) (v := (.ref r17)) own_d9_54 rfl rfl rfl
    have hK := ((((Keep.refl h []).trans ((Keep.refl h []).ext E1) all0).trans K2 (allS (Or.inr (by rw [g1]; exact (Nat.le_refl _))) all0)).trans K17 all0)
    exact R.retA (Ds' := Ds) hret rfl rfl rfl own_d9_56 (by decide) (by decide) (fun _ q => (fun q => (List.mem_cons_of_mem _ q)) q) ⟨r17, _, rfl, hK, rfl, Or.inr V17⟩
set_option maxRecDepth 65536 in
set_option maxHeartbeats 4000000 in
theorem rm_ca5_5 (l : Launch) (Z : State) (a0 : Array Value) (hw : ∀ d ∈ tables_1, d.before a0 Z = true) (h : Heap) (n0 : Nat) (Ds : List Addr) {b : Addr} {kb : ClassId} {vs : List Value} (V_b : Arv Z h b kb .byte (5 : Int32) vs (.int 0)) :
    Ctr l Z (⟨"java/lang/StringUTF16", "coderFromArrayLen", "([BI)B"⟩ : MethodName) jdk_52_method_15_code 2 (some .byte) [] ({ frames := 0, cells := 0, slots := 0, locals := 0 } : Room) #[.ref b, .int (5 : Int32)] h n0 Ds (fun v h' Ds' => v = some (.int (0 : Int32)) ∧ h = h' ∧ Ds = Ds') := by
  refine ctr_of (Ls := #[.val (.ref b), .val (.int (5 : Int32))]) (plainFor_of_name own_pn3) (fun m => by first | (simp [entryFrame, mkF, argsToLocals, Value.category]; done) | rfl) ?_
  intro C hl hret hnm R
  subst hl
  replace R := R.iloadN (pc' := 1) (v := (5 : Int32)) own_d11_0 rfl rfl
  replace R := R.aloadN (pc' := 2) (v := (.ref b)) own_d11_1 rfl rfl rfl
  replace R := R.arraylength (pc' := 3) V_b own_d11_2 rfl
  replace R := R.isub (pc' := 4) own_d11_3 rfl
  replace R := R.stk (S' := [(.int (0 : Int32))]) rfl
  replace R := R.bipush (pc' := 6) (z := (31 : Int32)) own_d11_4 rfl rfl
  replace R := R.iushr (pc' := 7) own_d11_6 rfl
  replace R := R.stk (S' := [(.int (0 : Int32))]) rfl
  replace R := R.i2b (pc' := 8) own_d11_7 rfl
  replace R := R.stk (S' := [(.int (0 : Int32))]) rfl
  exact R.retN (Ds' := Ds) hret (by simp) (show nar .byte (0 : Int32) = (0 : Int32) from rfl) own_d11_8 (by decide) (by decide) (fun _ q => q) ⟨rfl, rfl, rfl⟩
set_option maxRecDepth 65536 in
set_option maxHeartbeats 4000000 in
theorem rm_ca5_10 (l : Launch) (Z : State) (a0 : Array Value) (hw : ∀ d ∈ tables_1, d.before a0 Z = true) (h : Heap) (n0 : Nat) (Ds : List Addr) {b : Addr} {kb : ClassId} {vs : List Value} (V_b : Arv Z h b kb .byte (10 : Int32) vs (.int 0)) :
    Ctr l Z (⟨"java/lang/StringUTF16", "coderFromArrayLen", "([BI)B"⟩ : MethodName) jdk_52_method_15_code 2 (some .byte) [] ({ frames := 0, cells := 0, slots := 0, locals := 0 } : Room) #[.ref b, .int (5 : Int32)] h n0 Ds (fun v h' Ds' => v = some (.int (1 : Int32)) ∧ h = h' ∧ Ds = Ds') := by
  refine ctr_of (Ls := #[.val (.ref b), .val (.int (5 : Int32))]) (plainFor_of_name own_pn3) (fun m => by first | (simp [entryFrame, mkF, argsToLocals, Value.category]; done) | rfl) ?_
  intro C hl hret hnm R
  subst hl
  replace R := R.iloadN (pc' := 1) (v := (5 : Int32)) own_d11_0 rfl rfl
  replace R := R.aloadN (pc' := 2) (v := (.ref b)) own_d11_1 rfl rfl rfl
  replace R := R.arraylength (pc' := 3) V_b own_d11_2 rfl
  replace R := R.isub (pc' := 4) own_d11_3 rfl
  replace R := R.stk (S' := [(.int (-5 : Int32))]) rfl
  replace R := R.bipush (pc' := 6) (z := (31 : Int32)) own_d11_4 rfl rfl
  replace R := R.iushr (pc' := 7) own_d11_6 rfl
  replace R := R.stk (S' := [(.int (1 : Int32))]) rfl
  replace R := R.i2b (pc' := 8) own_d11_7 rfl
  replace R := R.stk (S' := [(.int (1 : Int32))]) rfl
  exact R.retN (Ds' := Ds) hret (by simp) (show nar .byte (1 : Int32) = (1 : Int32) from rfl) own_d11_8 (by decide) (by decide) (fun _ q => q) ⟨rfl, rfl, rfl⟩
set_option maxRecDepth 65536 in
set_option maxHeartbeats 4000000 in
theorem rm_i4_5 (l : Launch) (Z : State) (a0 : Array Value) (hw : ∀ d ∈ tables_1, d.before a0 Z = true) (a : Addr) (h : Heap) (n0 : Nat) (Ds : List Addr) (own_cs : CompactOn Z) (own_si : SiooOk Z) (own_u : U16ok Z) (ha : a ∈ Ds) {x0 x1 x2 x3 x4 : Int32} (hok : ∀ c ∈ ([x0, x1, x2, x3, x4] : List Int32), ¬ c < 0 ∧ ¬ (65535 : Int32) < c) {q : Addr} {kq : ClassId} (V_q : Arv Z h q kq .char (5 : Int32) ([Value.int x0, Value.int x1, Value.int x2, Value.int x3, Value.int x4]) (.int 0)) {u1 u2 : Value} (E_a : Exa Z h a "java/lang/String") (F_v : Fld Z h a "java/lang/String" "value" "[B" u1) (F_c : Fld Z h a "java/lang/String" "coder" "B" u2) :
    Ctr l Z (⟨"java/lang/String", "<init>", "([CIILjava/lang/Void;)V"⟩ : MethodName) jdk_42_method_149_code 6 none [] ({ frames := 4, cells := 2, slots := 15, locals := 57 } : Room) #[.ref a, .ref q, .int (0 : Int32), .int (5 : Int32), .null] h n0 Ds (fun v h' Ds' => v = none ∧ Keep h h' [a] ∧ IsTx Z h' a [x0, x1, x2, x3, x4] ∧ Ds = Ds') := by
  refine ctr_of (Ls := #[.val (.ref a), .val (.ref q), .val (.int (0 : Int32)), .val (.int (5 : Int32)), .val .null, .unset]) (plainFor_of_name own_pn0) (fun m => by first | (simp [entryFrame, mkF, argsToLocals, Value.category]; done) | rfl) ?_
  intro C hl hret hnm R
  subst hl
  obtain ⟨zc, S_zc, hzc⟩ := id own_cs
  replace R := R.aloadN (pc' := 1) (v := (.ref a)) own_d4_0 rfl rfl rfl
  replace R := R.initO (pc' := 4) (W := 0) (own_w21 hw) (own_w22 hw) (own_w23 hw) rfl own_d4_1 (by decide) rfl (by decide) rfl
  replace R := R.iloadN (pc' := 5) (v := (5 : Int32)) own_d4_4 rfl rfl
  replace R := R.ifY (pc' := 27) own_d4_5 (feq (by decide : ¬ ((5 : Int32) = (0 : Int32)))).2 (by decide) rfl
  replace R := R.getS (pc' := 30) (host := "") (Or.inl (own_w46 hw)) Via.refl S_zc own_d4_27 rfl
  replace R := R.ifN (pc' := 33) own_d4_30 (feq hzc).1 rfl
  replace R := R.aloadN (pc' := 34) (v := (.ref q)) own_d4_33 rfl rfl rfl
  replace R := R.iloadN (pc' := 35) (v := (0 : Int32)) own_d4_34 rfl rfl
  replace R := R.iloadN (pc' := 36) (v := (5 : Int32)) own_d4_35 rfl rfl
  obtain ⟨_, h1, _, ⟨r1, k1, rfl, K1, rfl, hB1⟩, R⟩ := R.callS (pc' := 39) (argsL := [(.ref q), (.int (0 : Int32)), (.int (5 : Int32))]) (rest := []) (W := 0) (own_w47 hw) (own_w48 hw) (own_w49 hw) (own_w50 hw) (by decide) (rm_c35 C.l Z a0 hw h n0 Ds own_u hok V_q) rfl (lenOf own_pd12 rfl) rfl rfl own_d4_36 (by decide) (by decide) (by decide) (by decide) rfl
  replace R := R.mono (ce' := 2) (sl' := 15) (by decide) (by decide)
  replace R := R.stk (S' := [(.ref r1)]) rfl
  rcases hB1 with ⟨hL, V1⟩ | V1
  · have hV := V1
    have K2 := ((Keep.refl h []).trans K1 all0)
    have F3 := E_a.keep K2
    have nabr1 : a ≠ r1 := Exa.neArv F3 hV (own_w11 hw)
    replace R := R.astore (pc' := 41) (l' := #[.val (.ref a), .val (.ref q), .val (.int (0 : Int32)), .val (.int (5 : Int32)), .val .null, .val (.ref r1)]) own_d4_39 rfl rfl rfl
    replace R := R.aloadN (pc' := 42) (v := (.ref a)) own_d4_41 rfl rfl rfl
    replace R := R.aload (pc' := 44) (v := (.ref r1)) own_d4_42 rfl rfl rfl
    replace R := R.iloadN (pc' := 45) (v := (5 : Int32)) own_d4_44 rfl rfl
    obtain ⟨_, _, _, ⟨rfl, rfl, rfl⟩, R⟩ := R.callS (pc' := 48) (argsL := [(.ref r1), (.int (5 : Int32))]) (rest := [(.ref a)]) (W := 1) (own_w54 hw) (own_w55 hw) (own_w49 hw) (own_w56 hw) (by decide) (rm_ca5_5 C.l Z a0 hw h1 n0 Ds hV) rfl (lenOf own_pd13 rfl) rfl rfl own_d4_45 (by decide) (by decide) (by decide) (by decide) rfl
    replace R := R.mono (ce' := 2) (sl' := 15) (by decide) (by decide)
    replace R := R.stk (S' := [(.int (0 : Int32)), (.ref a)]) rfl
    have K4 := ((Keep.refl h []).trans K1 all0)
    have F5 := F_c.keep K4 nin0
    have K6 := ((Keep.refl h []).trans K1 all0)
    have F7 := F_v.keep K6 nin0
    obtain ⟨h8, W8, R⟩ := R.putFN (pc' := 51) (ty := .byte) (v' := (.int (0 : Int32))) (own_w31 hw) Via.refl F5 F3 (Or.inr ⟨(own_w27 hw), rfl, hnm⟩) (own_w11 hw) (by decide) (rfl) (rfl) ha own_d4_48 rfl
    have F8 := F5.same W8
    have F9 := F7.other W8 (Or.inr (slot_ne (Or.inr (own_w26 hw)) (Or.inr (own_w27 hw)) (by decide) (t := (.array .byte)) (t' := .byte) (by decide) (by decide)))
    replace R := R.aloadN (pc' := 52) (v := (.ref a)) own_d4_51 rfl rfl rfl
    replace R := R.aload (pc' := 54) (v := (.ref r1)) own_d4_52 rfl rfl rfl
    have K10 := ((Keep.refl h1 [a]).trans (Keep.of_wr W8) (allS (Or.inl (List.mem_of_getElem? (i := 0) rfl)) all0))
    have F11 := F3.keep K10
    obtain ⟨h12, W12, R⟩ := R.putF (pc' := 57) (ty := (.array .byte)) (host := "") (Or.inl (own_w30 hw)) Via.refl F9 F11 (Or.inr ⟨(own_w26 hw), rfl, hnm⟩) (own_w11 hw) (by decide) rfl rfl ha own_d4_54 rfl
    have F12 := F9.same W12
    have F13 := F8.other W12 (Or.inr (slot_ne (Or.inr (own_w27 hw)) (Or.inr (own_w26 hw)) (by decide) (t := .byte) (t' := (.array .byte)) (by decide) (by decide)))
    have hK := ((((Keep.refl h [a]).trans K1 all0).trans (Keep.of_wr W8) (allS (Or.inl (List.mem_of_getElem? (i := 0) rfl)) all0)).trans (Keep.of_wr W12) (allS (Or.inl (List.mem_of_getElem? (i := 0) rfl)) all0))
    have K14 := ((Keep.refl h8 [a]).trans (Keep.of_wr W12) (allS (Or.inl (List.mem_of_getElem? (i := 0) rfl)) all0))
    have F15 := F11.keep K14
    have K16 := (((Keep.refl h1 [a]).trans (Keep.of_wr W8) (allS (Or.inl (List.mem_of_getElem? (i := 0) rfl)) all0)).trans (Keep.of_wr W12) (allS (Or.inl (List.mem_of_getElem? (i := 0) rfl)) all0))
    have F17 := hV.keep K16 (ninS (Ne.symm nabr1) nin0)
    exact R.retV (Ds' := Ds) hret own_d4_57 (by decide) (by decide) (fun _ q => q) ⟨rfl, hK, Or.inl ⟨F15, F13, hL, Nat.le_of_ble_eq_true rfl, r1, _, F12, F17⟩, rfl⟩
  · have hV := V1
    have K18 := ((Keep.refl h []).trans K1 all0)
    have F19 := E_a.keep K18
    have nabr1 : a ≠ r1 := Exa.neArv F19 hV (own_w11 hw)
    replace R := R.astore (pc' := 41) (l' := #[.val (.ref a), .val (.ref q), .val (.int (0 : Int32)), .val (.int (5 : Int32)), .val .null, .val (.ref r1)]) own_d4_39 rfl rfl rfl
    replace R := R.aloadN (pc' := 42) (v := (.ref a)) own_d4_41 rfl rfl rfl
    replace R := R.aload (pc' := 44) (v := (.ref r1)) own_d4_42 rfl rfl rfl
    replace R := R.iloadN (pc' := 45) (v := (5 : Int32)) own_d4_44 rfl rfl
    obtain ⟨_, _, _, ⟨rfl, rfl, rfl⟩, R⟩ := R.callS (pc' := 48) (argsL := [(.ref r1), (.int (5 : Int32))]) (rest := [(.ref a)]) (W := 1) (own_w54 hw) (own_w55 hw) (own_w49 hw) (own_w56 hw) (by decide) (rm_ca5_10 C.l Z a0 hw h1 n0 Ds hV) rfl (lenOf own_pd13 rfl) rfl rfl own_d4_45 (by decide) (by decide) (by decide) (by decide) rfl
    replace R := R.mono (ce' := 2) (sl' := 15) (by decide) (by decide)
    replace R := R.stk (S' := [(.int (1 : Int32)), (.ref a)]) rfl
    have K20 := ((Keep.refl h []).trans K1 all0)
    have F21 := F_c.keep K20 nin0
    have K22 := ((Keep.refl h []).trans K1 all0)
    have F23 := F_v.keep K22 nin0
    obtain ⟨h24, W24, R⟩ := R.putFN (pc' := 51) (ty := .byte) (v' := (.int (1 : Int32))) (own_w31 hw) Via.refl F21 F19 (Or.inr ⟨(own_w27 hw), rfl, hnm⟩) (own_w11 hw) (by decide) (rfl) (rfl) ha own_d4_48 rfl
    have F24 := F21.same W24
    have F25 := F23.other W24 (Or.inr (slot_ne (Or.inr (own_w26 hw)) (Or.inr (own_w27 hw)) (by decide) (t := (.array .byte)) (t' := .byte) (by decide) (by decide)))
    replace R := R.aloadN (pc' := 52) (v := (.ref a)) own_d4_51 rfl rfl rfl
    replace R := R.aload (pc' := 54) (v := (.ref r1)) own_d4_52 rfl rfl rfl
    have K26 := ((Keep.refl h1 [a]).trans (Keep.of_wr W24) (allS (Or.inl (List.mem_of_getElem? (i := 0) rfl)) all0))
    have F27 := F19.keep K26
    obtain ⟨h28, W28, R⟩ := R.putF (pc' := 57) (ty := (.array .byte)) (host := "") (Or.inl (own_w30 hw)) Via.refl F25 F27 (Or.inr ⟨(own_w26 hw), rfl, hnm⟩) (own_w11 hw) (by decide) rfl rfl ha own_d4_54 rfl
    have F28 := F25.same W28
    have F29 := F24.other W28 (Or.inr (slot_ne (Or.inr (own_w27 hw)) (Or.inr (own_w26 hw)) (by decide) (t := .byte) (t' := (.array .byte)) (by decide) (by decide)))
    have hK := ((((Keep.refl h [a]).trans K1 all0).trans (Keep.of_wr W24) (allS (Or.inl (List.mem_of_getElem? (i := 0) rfl)) all0)).trans (Keep.of_wr W28) (allS (Or.inl (List.mem_of_getElem? (i := 0) rfl)) all0))
    have K30 := ((Keep.refl h24 [a]).trans (Keep.of_wr W28) (allS (Or.inl (List.mem_of_getElem? (i := 0) rfl)) all0))
    have F31 := F27.keep K30
    have K32 := (((Keep.refl h1 [a]).trans (Keep.of_wr W24) (allS (Or.inl (List.mem_of_getElem? (i := 0) rfl)) all0)).trans (Keep.of_wr W28) (allS (Or.inl (List.mem_of_getElem? (i := 0) rfl)) all0))
    have F33 := hV.keep K32 (ninS (Ne.symm nabr1) nin0)
    exact R.retV (Ds' := Ds) hret own_d4_57 (by decide) (by decide) (fun _ q => q) ⟨rfl, hK, Or.inr ⟨F31, F29, hok, Nat.le_of_ble_eq_true rfl, r1, _, F28, F33⟩, rfl⟩
set_option maxRecDepth 65536 in
set_option maxHeartbeats 4000000 in
theorem rm_i1_5 (l : Launch) (Z : State) (a0 : Array Value) (hw : ∀ d ∈ tables_1, d.before a0 Z = true) (a : Addr) (h : Heap) (n0 : Nat) (Ds : List Addr) (own_cs : CompactOn Z) (own_si : SiooOk Z) (own_u : U16ok Z) (ha : a ∈ Ds) {x0 x1 x2 x3 x4 : Int32} (hok : ∀ c ∈ ([x0, x1, x2, x3, x4] : List Int32), ¬ c < 0 ∧ ¬ (65535 : Int32) < c) {q : Addr} {kq : ClassId} (V_q : Arv Z h q kq .char (5 : Int32) ([Value.int x0, Value.int x1, Value.int x2, Value.int x3, Value.int x4]) (.int 0)) {u1 u2 : Value} (E_a : Exa Z h a "java/lang/String") (F_v : Fld Z h a "java/lang/String" "value" "[B" u1) (F_c : Fld Z h a "java/lang/String" "coder" "B" u2) :
    Ctr l Z (⟨"java/lang/String", "<init>", "([C)V"⟩ : MethodName) jdk_42_method_3_code 2 none [] ({ frames := 5, cells := 2, slots := 15, locals := 74 } : Room) #[.ref a, .ref q] h n0 Ds (fun v h' Ds' => v = none ∧ Keep h h' [a] ∧ IsTx Z h' a [x0, x1, x2, x3, x4] ∧ Ds = Ds') := by
  refine ctr_of (Ls := #[.val (.ref a), .val (.ref q)]) (plainFor_of_name own_pn0) (fun m => by first | (simp [entryFrame, mkF, argsToLocals, Value.category]; done) | rfl) ?_
  intro C hl hret hnm R
  subst hl
  replace R := R.aloadN (pc' := 1) (v := (.ref a)) own_d3_0 rfl rfl rfl
  replace R := R.aloadN (pc' := 2) (v := (.ref q)) own_d3_1 rfl rfl rfl
  replace R := R.iconst (pc' := 3) (z := (0 : Int32)) own_d3_2 rfl rfl
  replace R := R.aloadN (pc' := 4) (v := (.ref q)) own_d3_3 rfl rfl rfl
  replace R := R.arraylength (pc' := 5) V_q own_d3_4 rfl
  replace R := R.anull (pc' := 6) own_d3_5 rfl
  obtain ⟨_, h1, _, ⟨rfl, K1, T1, rfl⟩, R⟩ := R.callI (pc' := 9) (a := a) (argsL := [(.ref q), (.int (0 : Int32)), (.int (5 : Int32)), .null]) (rest := []) (W := 0) rfl (own_w17 hw) (own_w18 hw) (own_w12 hw) (own_w20 hw) (by decide) (rm_i4_5 C.l Z a0 hw a h n0 Ds own_cs own_si own_u ha (x0 := x0) (x1 := x1) (x2 := x2) (x3 := x3) (x4 := x4) hok V_q E_a F_v F_c) rfl (lenOf own_pd7 rfl) rfl rfl own_d3_6 (by decide) (by decide) (by decide) (by decide) rfl
  replace R := R.mono (ce' := 2) (sl' := 15) (by decide) (by decide)
  replace R := R.stk (S' := []) rfl
  have hK := ((Keep.refl h [a]).trans K1 (allS (Or.inl (List.mem_of_getElem? (i := 0) rfl)) all0))
  exact R.retV (Ds' := Ds) hret own_d3_9 (by decide) (by decide) (fun _ q => q) ⟨rfl, hK, T1, rfl⟩
def s_draw (p0 : Int32) : Int32 := if (p0 &&& (65536 : Int32)) = (0 : Int32) then (p0 &&& (65535 : Int32)).toUInt32.toUInt16.toUInt32.toInt32 else ((47 : Int32) + ((p0 &&& (65535 : Int32)) % (12 : Int32))).toUInt32.toUInt16.toUInt32.toInt32
theorem s_draw_nar (p0 : Int32) : nar .char (s_draw p0) = (s_draw p0) := by
  unfold s_draw; split <;> exact nar_i2c _
theorem rm_draw (l : Launch) (Z : State) (a0 : Array Value) (hw : ∀ d ∈ tables_1, d.before a0 Z = true) (p0 : Int32) (h : Heap) (n0 : Nat) (Ds : List Addr) :
    Ctr l Z (⟨"com/example/vestbook/vestbook/WholeNumbersIsPlanYearPinLaw", "draw", "(I)C"⟩ : MethodName) method_2_code 1 (some .char) [] ({ frames := 0, cells := 0, slots := 0, locals := 0 } : Room) #[(.int p0)] h n0 Ds (fun v h' Ds' => v = some (.int (s_draw p0)) ∧ h = h' ∧ Ds = Ds') := by
  refine ctr_of (Ls := #[.val (.int p0)]) (plainFor_of_name own_pn4) (fun m => by first | (simp [entryFrame, mkF, argsToLocals, Value.category]; done) | rfl) ?_
  intro C hl hret hnm R
  subst hl
  replace R := R.iloadN (pc' := 1) (v := p0) own_d1_0 rfl rfl
  replace R := R.ldcI (pc' := 3) (own_w5 hw) own_d1_1 rfl
  replace R := R.iand (pc' := 4) own_d1_3 rfl
  by_cases hc1 : (p0 &&& (65536 : Int32)) = (0 : Int32)
  · replace R := R.ifY (pc' := 19) own_d1_4 (teq hc1).1 (by decide) rfl
    replace R := R.iloadN (pc' := 20) (v := p0) own_d1_19 rfl rfl
    replace R := R.ldcI (pc' := 22) (own_w6 hw) own_d1_20 rfl
    replace R := R.iand (pc' := 23) own_d1_22 rfl
    replace R := R.i2c (pc' := 24) own_d1_23 rfl
    have hv : (p0 &&& (65535 : Int32)).toUInt32.toUInt16.toUInt32.toInt32 = (s_draw p0) := by unfold s_draw; rw [if_pos hc1]
    exact R.retN (Ds' := Ds) hret (by simp) ((congrArg (nar .char) hv).trans (s_draw_nar p0)) own_d1_24 (by decide) (by decide) (fun _ q => q) ⟨rfl, rfl, rfl⟩
  · replace R := R.ifN (pc' := 7) own_d1_4 (feq hc1).1 rfl
    replace R := R.bipush (pc' := 9) (z := (47 : Int32)) own_d1_7 rfl rfl
    replace R := R.iloadN (pc' := 10) (v := p0) own_d1_9 rfl rfl
    replace R := R.ldcI (pc' := 12) (own_w6 hw) own_d1_10 rfl
    replace R := R.iand (pc' := 13) own_d1_12 rfl
    replace R := R.bipush (pc' := 15) (z := (12 : Int32)) own_d1_13 rfl rfl
    replace R := R.irem (pc' := 16) own_d1_15 (by decide) rfl
    replace R := R.iadd (pc' := 17) own_d1_16 rfl
    replace R := R.i2c (pc' := 18) own_d1_17 rfl
    have hv : ((47 : Int32) + ((p0 &&& (65535 : Int32)) % (12 : Int32))).toUInt32.toUInt16.toUInt32.toInt32 = (s_draw p0) := by unfold s_draw; rw [if_neg hc1]
    exact R.retN (Ds' := Ds) hret (by simp) ((congrArg (nar .char) hv).trans (s_draw_nar p0)) own_d1_18 (by decide) (by decide) (fun _ q => q) ⟨rfl, rfl, rfl⟩
theorem s_draw_b (p : Int32) : ¬ s_draw p < 0 ∧ ¬ (65535 : Int32) < s_draw p := by
  unfold s_draw; split <;> exact ch16 _
def s_dig (p0 : Int32) : Int32 := if p0 < (48 : Int32) then (0 : Int32) else (if (57 : Int32) < p0 then (0 : Int32) else (1 : Int32))
theorem s_dig_nar (p0 : Int32) : nar .boolean (s_dig p0) = (s_dig p0) := by
  unfold s_dig; (repeat' split) <;> rfl
theorem rm_dig (l : Launch) (Z : State) (a0 : Array Value) (hw : ∀ d ∈ tables_1, d.before a0 Z = true) (p0 : Int32) (h : Heap) (n0 : Nat) (Ds : List Addr) :
    Ctr l Z (⟨"com/example/vestbook/vestbook/WholeNumbersIsPlanYearPinLaw", "dig", "(C)Z"⟩ : MethodName) method_3_code 1 (some .boolean) [] ({ frames := 0, cells := 0, slots := 0, locals := 0 } : Room) #[(.int p0)] h n0 Ds (fun v h' Ds' => v = some (.int (s_dig p0)) ∧ h = h' ∧ Ds = Ds') := by
  refine ctr_of (Ls := #[.val (.int p0)]) (plainFor_of_name own_pn4) (fun m => by first | (simp [entryFrame, mkF, argsToLocals, Value.category]; done) | rfl) ?_
  intro C hl hret hnm R
  subst hl
  replace R := R.iloadN (pc' := 1) (v := p0) own_d12_0 rfl rfl
  replace R := R.bipush (pc' := 3) (z := (48 : Int32)) own_d12_1 rfl rfl
  by_cases hc1 : p0 < (48 : Int32)
  · replace R := R.icmpY (pc' := 16) own_d12_3 (tlt hc1).1 (by decide) rfl
    replace R := R.iconst (pc' := 17) (z := (0 : Int32)) own_d12_16 rfl rfl
    have hv : (0 : Int32) = (s_dig p0) := by unfold s_dig; rw [if_pos hc1]
    exact R.retN (Ds' := Ds) hret (by simp) ((congrArg (nar .boolean) hv).trans (s_dig_nar p0)) own_d12_17 (by decide) (by decide) (fun _ q => q) ⟨rfl, rfl, rfl⟩
  · replace R := R.icmpN (pc' := 6) own_d12_3 (flt hc1).1 rfl
    replace R := R.iloadN (pc' := 7) (v := p0) own_d12_6 rfl rfl
    replace R := R.bipush (pc' := 9) (z := (57 : Int32)) own_d12_7 rfl rfl
    by_cases hc2 : (57 : Int32) < p0
    · replace R := R.icmpY (pc' := 16) own_d12_9 (tlt hc2).2.2.1 (by decide) rfl
      replace R := R.iconst (pc' := 17) (z := (0 : Int32)) own_d12_16 rfl rfl
      have hv : (0 : Int32) = (s_dig p0) := by unfold s_dig; rw [if_neg hc1, if_pos hc2]
      exact R.retN (Ds' := Ds) hret (by simp) ((congrArg (nar .boolean) hv).trans (s_dig_nar p0)) own_d12_17 (by decide) (by decide) (fun _ q => q) ⟨rfl, rfl, rfl⟩
    · replace R := R.icmpN (pc' := 12) own_d12_9 (flt hc2).2.2.1 rfl
      replace R := R.iconst (pc' := 13) (z := (1 : Int32)) own_d12_12 rfl rfl
      replace R := R.goto (pc' := 17) own_d12_13 (by decide) rfl
      have hv : (1 : Int32) = (s_dig p0) := by unfold s_dig; rw [if_neg hc1, if_neg hc2]
      exact R.retN (Ds' := Ds) hret (by simp) ((congrArg (nar .boolean) hv).trans (s_dig_nar p0)) own_d12_17 (by decide) (by decide) (fun _ q => q) ⟨rfl, rfl, rfl⟩
def s_make (p0 p1 p2 p3 p4 p5 : Int32) : List Int32 := if p0 = (0 : Int32) then ([] : List Int32) else (if p0 = (1 : Int32) then ([p1] : List Int32) else (if p0 = (2 : Int32) then ([p1, p2] : List Int32) else (if p0 = (3 : Int32) then ([p1, p2, p3] : List Int32) else (if p0 = (4 : Int32) then ([p1, p2, p3, p4] : List Int32) else ([p1, p2, p3, p4, p5] : List Int32)))))
set_option maxRecDepth 65536 in
set_option maxHeartbeats 4000000 in
theorem rm_make (l : Launch) (Z : State) (a0 : Array Value) (hw : ∀ d ∈ tables_1, d.before a0 Z = true) (p0 p1 p2 p3 p4 p5 : Int32) (h : Heap) (n0 : Nat) (Ds : List Addr) (own_cs : CompactOn Z) (own_si : SiooOk Z) (own_u : U16ok Z) (hb1 : ¬ p1 < 0 ∧ ¬ (65535 : Int32) < p1) (hb2 : ¬ p2 < 0 ∧ ¬ (65535 : Int32) < p2) (hb3 : ¬ p3 < 0 ∧ ¬ (65535 : Int32) < p3) (hb4 : ¬ p4 < 0 ∧ ¬ (65535 : Int32) < p4) (hb5 : ¬ p5 < 0 ∧ ¬ (65535 : Int32) < p5) :
    Ctr l Z (⟨"com/example/vestbook/vestbook/WholeNumbersIsPlanYearPinLaw", "make", "(ICCCCC)Ljava/lang/String;"⟩ : MethodName) method_4_code 6 (some (.object "java/lang/String")) [] ({ frames := 6, cells := 6, slots := 24, locals := 88 } : Room) #[.int p0, .int p1, .int p2, .int p3, .int p4, .int p5] h n0 Ds (fun v h' Ds' => ∃ r : Addr, v = some (.ref r) ∧ IsTx Z h' r (s_make p0 p1 p2 p3 p4 p5) ∧ Keep h h' [] ∧ Ds = Ds') := by
  refine ctr_of (Ls := #[.val (.int p0), .val (.int p1), .val (.int p2), .val (.int p3), .val (.int p4), .val (.int p5)]) (plainFor_of_name own_pn4) (fun m => by first | (simp [entryFrame, mkF, argsToLocals, Value.category]; done) | rfl) ?_
  intro C hl hret hnm R
  subst hl
  replace R := R.iloadN (pc' := 1) (v := p0) own_d2_0 rfl rfl
  by_cases hc1 : p0 = (0 : Int32)
  · replace R := R.ifN (pc' := 4) own_d2_1 (teq hc1).2 rfl
    obtain ⟨h2, b2, g2, E2, X2, D2, R⟩ := R.newO (pc' := 7) (own_w10 hw) (own_w11 hw) (own_w12 hw) own_d2_4 (by decide) (by decide) rfl
    have F2_value : Fld Z h2 b2 "java/lang/String" "value" "[B" .null := D2 (Or.inr (own_w26 hw)) (ty := (.array .byte)) (by decide)
    have F2_coder : Fld Z h2 b2 "java/lang/String" "coder" "B" (.int (0 : Int32)) := D2 (Or.inr (own_w27 hw)) (ty := .byte) (by decide)
    replace R := R.dup (pc' := 8) own_d2_7 rfl rfl
    replace R := R.iconst (pc' := 9) (z := (0 : Int32)) own_d2_8 rfl rfl
    obtain ⟨h3, b3, k3, g3, E3, V3, R⟩ := R.newP (pc' := 11) (aty := .char) (cap := 0) (own_w13 hw) own_d2_9 (by decide) (by decide) (by decide) (by decide) (by decide) rfl
    have V3p : Arv Z h3 b3 k3 .char (0 : Int32) [] (.int (0 : Int32)) := V3.pad (pad_rep [] (.int (0 : Int32)) 0)
    have K5 := ((Keep.refl h2 []).trans ((Keep.refl h2 []).ext E3) all0)
    have F6 := X2.keep K5
    have K7 := ((Keep.refl h2 []).trans ((Keep.refl h2 []).ext E3) all0)
    have F8 := F2_value.keep K7 nin0
    have K9 := ((Keep.refl h2 []).trans ((Keep.refl h2 []).ext E3) all0)
    have F10 := F2_coder.keep K9 nin0
    obtain ⟨_, h4, _, ⟨rfl, K4, T4, rfl⟩, R⟩ := R.callI (pc' := 14) (a := b2) (argsL := [(.ref b3)]) (rest := [(.ref b2)]) (W := 1) rfl (own_w14 hw) (own_w15 hw) (own_w12 hw) (own_w16 hw) (by decide) (rm_i1_0 C.l Z a0 hw b2 h3 n0 (b3 :: b2 :: Ds) own_cs own_si own_u (List.mem_of_getElem? (i := 1) rfl) cu0 V3p F6 F8 F10) rfl (lenOf own_pd14 rfl) rfl rfl own_d2_11 (by decide) (by decide) (by decide) (by decide) rfl
    replace R := R.mono (ce' := 6) (sl' := 12) (by decide) (by decide)
    replace R := R.stk (S' := [(.ref b2)]) rfl
    have hK := ((((Keep.refl h []).trans ((Keep.refl h []).ext E2) all0).trans ((Keep.refl h2 []).ext E3) all0).trans K4 (allS (Or.inr (by rw [g2]; exact (Nat.le_refl _))) all0))
    have hv : ([] : List Int32) = s_make p0 p1 p2 p3 p4 p5 := by unfold s_make; rw [if_pos hc1]
    exact R.retA (Ds' := Ds) hret rfl rfl rfl own_d2_14 (by decide) (by decide) (fun _ q => (fun q => (List.mem_cons_of_mem _ (List.mem_cons_of_mem _ q))) q) ⟨b2, rfl, by rw [← hv]; exact T4, hK, rfl⟩
  · replace R := R.ifY (pc' := 15) own_d2_1 (feq hc1).2 (by decide) rfl
    replace R := R.iloadN (pc' := 16) (v := p0) own_d2_15 rfl rfl
    replace R := R.iconst (pc' := 17) (z := (1 : Int32)) own_d2_16 rfl rfl
    by_cases hc11 : p0 = (1 : Int32)
    · replace R := R.icmpN (pc' := 20) own_d2_17 (teq hc11).2 rfl
      obtain ⟨h12, b12, g12, E12, X12, D12, R⟩ := R.newO (pc' := 23) (own_w10 hw) (own_w11 hw) (own_w12 hw) own_d2_20 (by decide) (by decide) rfl
      have F12_value : Fld Z h12 b12 "java/lang/String" "value" "[B" .null := D12 (Or.inr (own_w26 hw)) (ty := (.array .byte)) (by decide)
      have F12_coder : Fld Z h12 b12 "java/lang/String" "coder" "B" (.int (0 : Int32)) := D12 (Or.inr (own_w27 hw)) (ty := .byte) (by decide)
      replace R := R.dup (pc' := 24) own_d2_23 rfl rfl
      replace R := R.iconst (pc' := 25) (z := (1 : Int32)) own_d2_24 rfl rfl
      obtain ⟨h13, b13, k13, g13, E13, V13, R⟩ := R.newP (pc' := 27) (aty := .char) (cap := 1) (own_w13 hw) own_d2_25 (by decide) (by decide) (by decide) (by decide) (by decide) rfl
      have V13p : Arv Z h13 b13 k13 .char (1 : Int32) [(.int (0 : Int32))] (.int (0 : Int32)) := V13.pad (pad_rep [] (.int (0 : Int32)) 1)
      replace R := R.dup (pc' := 28) own_d2_27 rfl rfl
      replace R := R.iconst (pc' := 29) (z := (0 : Int32)) own_d2_28 rfl rfl
      replace R := R.iloadN (pc' := 30) (v := p1) own_d2_29 rfl rfl
      obtain ⟨h14, K14, V14, R⟩ := R.castore (pc' := 31) V13p ⟨by decide, by decide⟩ 0 rfl (Nat.le_of_ble_eq_true rfl) (List.mem_of_getElem? (i := 0) rfl) own_d2_30 rfl
      have V14p : Arv Z h14 b13 k13 .char (1 : Int32) [(.int p1)] (.int (0 : Int32)) := by
        have q := V14
        rw [nar_ch hb1] at q
        exact q
      have K16 := (((Keep.refl h12 []).trans ((Keep.refl h12 []).ext E13) all0).trans K14 (allS (Or.inr (by rw [g13]; exact (Nat.le_refl _))) all0))
      have F17 := X12.keep K16
      have K18 := (((Keep.refl h12 []).trans ((Keep.refl h12 []).ext E13) all0).trans K14 (allS (Or.inr (by rw [g13]; exact (Nat.le_refl _))) all0))
      have F19 := F12_value.keep K18 nin0
      have K20 := (((Keep.refl h12 []).trans ((Keep.refl h12 []).ext E13) all0).trans K14 (allS (Or.inr (by rw [g13]; exact (Nat.le_refl _))) all0))
      have F21 := F12_coder.keep K20 nin0
      obtain ⟨_, h15, _, ⟨rfl, K15, T15, rfl⟩, R⟩ := R.callI (pc' := 34) (a := b12) (argsL := [(.ref b13)]) (rest := [(.ref b12)]) (W := 1) rfl (own_w14 hw) (own_w15 hw) (own_w12 hw) (own_w16 hw) (by decide) (rm_i1_1 C.l Z a0 hw b12 h14 n0 (b13 :: b12 :: Ds) own_cs own_si own_u (List.mem_of_getElem? (i := 1) rfl) (x0 := p1) (cuS hb1 cu0) V14p F17 F19 F21) rfl (lenOf own_pd14 rfl) rfl rfl own_d2_31 (by decide) (by decide) (by decide) (by decide) rfl
      replace R := R.mono (ce' := 4) (sl' := 8) (by decide) (by decide)
      replace R := R.stk (S' := [(.ref b12)]) rfl
      have hK := (((((Keep.refl h []).trans ((Keep.refl h []).ext E12) all0).trans ((Keep.refl h12 []).ext E13) all0).trans K14 (allS (Or.inr (by rw [g13]; exact ((Keep.refl h []).ext E12).1)) all0)).trans K15 (allS (Or.inr (by rw [g12]; exact (Nat.le_refl _))) all0))
      have hv : ([p1] : List Int32) = s_make p0 p1 p2 p3 p4 p5 := by unfold s_make; rw [if_neg hc1, if_pos hc11]
      exact R.retA (Ds' := Ds) hret rfl rfl rfl own_d2_34 (by decide) (by decide) (fun _ q => (fun q => (List.mem_cons_of_mem _ (List.mem_cons_of_mem _ q))) q) ⟨b12, rfl, by rw [← hv]; exact T15, hK, rfl⟩
    · replace R := R.icmpY (pc' := 35) own_d2_17 (feq hc11).2 (by decide) rfl
      replace R := R.iloadN (pc' := 36) (v := p0) own_d2_35 rfl rfl
      replace R := R.iconst (pc' := 37) (z := (2 : Int32)) own_d2_36 rfl rfl
      by_cases hc22 : p0 = (2 : Int32)
      · replace R := R.icmpN (pc' := 40) own_d2_37 (teq hc22).2 rfl
        obtain ⟨h23, b23, g23, E23, X23, D23, R⟩ := R.newO (pc' := 43) (own_w10 hw) (own_w11 hw) (own_w12 hw) own_d2_40 (by decide) (by decide) rfl
        have F23_value : Fld Z h23 b23 "java/lang/String" "value" "[B" .null := D23 (Or.inr (own_w26 hw)) (ty := (.array .byte)) (by decide)
        have F23_coder : Fld Z h23 b23 "java/lang/String" "coder" "B" (.int (0 : Int32)) := D23 (Or.inr (own_w27 hw)) (ty := .byte) (by decide)
        replace R := R.dup (pc' := 44) own_d2_43 rfl rfl
        replace R := R.iconst (pc' := 45) (z := (2 : Int32)) own_d2_44 rfl rfl
        obtain ⟨h24, b24, k24, g24, E24, V24, R⟩ := R.newP (pc' := 47) (aty := .char) (cap := 2) (own_w13 hw) own_d2_45 (by decide) (by decide) (by decide) (by decide) (by decide) rfl
        have V24p : Arv Z h24 b24 k24 .char (2 : Int32) [(.int (0 : Int32)), (.int (0 : Int32))] (.int (0 : Int32)) := V24.pad (pad_rep [] (.int (0 : Int32)) 2)
        replace R := R.dup (pc' := 48) own_d2_47 rfl rfl
        replace R := R.iconst (pc' := 49) (z := (0 : Int32)) own_d2_48 rfl rfl
        replace R := R.iloadN (pc' := 50) (v := p1) own_d2_49 rfl rfl
        obtain ⟨h25, K25, V25, R⟩ := R.castore (pc' := 51) V24p ⟨by decide, by decide⟩ 0 rfl (Nat.le_of_ble_eq_true rfl) (List.mem_of_getElem? (i := 0) rfl) own_d2_50 rfl
        have V25p : Arv Z h25 b24 k24 .char (2 : Int32) [(.int p1), (.int (0 : Int32))] (.int (0 : Int32)) := by
          have q := V25
          rw [nar_ch hb1] at q
          exact q
        replace R := R.dup (pc' := 52) own_d2_51 rfl rfl
        replace R := R.iconst (pc' := 53) (z := (1 : Int32)) own_d2_52 rfl rfl
        replace R := R.iloadN (pc' := 54) (v := p2) own_d2_53 rfl rfl
        obtain ⟨h26, K26, V26, R⟩ := R.castore (pc' := 55) V25p ⟨by decide, by decide⟩ 1 rfl (Nat.le_of_ble_eq_true rfl) (List.mem_of_getElem? (i := 0) rfl) own_d2_54 rfl
        have V26p : Arv Z h26 b24 k24 .char (2 : Int32) [(.int p1), (.int p2)] (.int (0 : Int32)) := by
          have q := V26
          rw [nar_ch hb2] at q
          exact q
        have K28 := ((((Keep.refl h23 []).trans ((Keep.refl h23 []).ext E24) all0).trans K25 (allS (Or.inr (by rw [g24]; exact (Nat.le_refl _))) all0)).trans K26 (allS (Or.inr (by rw [g24]; exact (Nat.le_refl _))) all0))
        have F29 := X23.keep K28
        have K30 := ((((Keep.refl h23 []).trans ((Keep.refl h23 []).ext E24) all0).trans K25 (allS (Or.inr (by rw [g24]; exact (Nat.le_refl _))) all0)).trans K26 (allS (Or.inr (by rw [g24]; exact (Nat.le_refl _))) all0))
        have F31 := F23_value.keep K30 nin0
        have K32 := ((((Keep.refl h23 []).trans ((Keep.refl h23 []).ext E24) all0).trans K25 (allS (Or.inr (by rw [g24]; exact (Nat.le_refl _))) all0)).trans K26 (allS (Or.inr (by rw [g24]; exact (Nat.le_refl _))) all0))
        have F33 := F23_coder.keep K32 nin0
        obtain ⟨_, h27, _, ⟨rfl, K27, T27, rfl⟩, R⟩ := R.callI (pc' := 58) (a := b23) (argsL := [(.ref b24)]) (rest := [(.ref b23)]) (W := 1) rfl (own_w14 hw) (own_w15 hw) (own_w12 hw) (own_w16 hw) (by decide) (rm_i1_2 C.l Z a0 hw b23 h26 n0 (b24 :: b23 :: Ds) own_cs own_si own_u (List.mem_of_getElem? (i := 1) rfl) (x0 := p1) (x1 := p2) (cuS hb1 (cuS hb2 cu0)) V26p F29 F31 F33) rfl (lenOf own_pd14 rfl) rfl rfl own_d2_55 (by decide) (by decide) (by decide) (by decide) rfl
        replace R := R.mono (ce' := 4) (sl' := 12) (by decide) (by decide)
        replace R := R.stk (S' := [(.ref b23)]) rfl
        have hK := ((((((Keep.refl h []).trans ((Keep.refl h []).ext E23) all0).trans ((Keep.refl h23 []).ext E24) all0).trans K25 (allS (Or.inr (by rw [g24]; exact ((Keep.refl h []).ext E23).1)) all0)).trans K26 (allS (Or.inr (by rw [g24]; exact ((Keep.refl h []).ext E23).1)) all0)).trans K27 (allS (Or.inr (by rw [g23]; exact (Nat.le_refl _))) all0))
        have hv : ([p1, p2] : List Int32) = s_make p0 p1 p2 p3 p4 p5 := by unfold s_make; rw [if_neg hc1, if_neg hc11, if_pos hc22]
        exact R.retA (Ds' := Ds) hret rfl rfl rfl own_d2_58 (by decide) (by decide) (fun _ q => (fun q => (List.mem_cons_of_mem _ (List.mem_cons_of_mem _ q))) q) ⟨b23, rfl, by rw [← hv]; exact T27, hK, rfl⟩
      · replace R := R.icmpY (pc' := 59) own_d2_37 (feq hc22).2 (by decide) rfl
        replace R := R.iloadN (pc' := 60) (v := p0) own_d2_59 rfl rfl
        replace R := R.iconst (pc' := 61) (z := (3 : Int32)) own_d2_60 rfl rfl
        by_cases hc34 : p0 = (3 : Int32)
        · replace R := R.icmpN (pc' := 64) own_d2_61 (teq hc34).2 rfl
          obtain ⟨h35, b35, g35, E35, X35, D35, R⟩ := R.newO (pc' := 67) (own_w10 hw) (own_w11 hw) (own_w12 hw) own_d2_64 (by decide) (by decide) rfl
          have F35_value : Fld Z h35 b35 "java/lang/String" "value" "[B" .null := D35 (Or.inr (own_w26 hw)) (ty := (.array .byte)) (by decide)
          have F35_coder : Fld Z h35 b35 "java/lang/String" "coder" "B" (.int (0 : Int32)) := D35 (Or.inr (own_w27 hw)) (ty := .byte) (by decide)
          replace R := R.dup (pc' := 68) own_d2_67 rfl rfl
          replace R := R.iconst (pc' := 69) (z := (3 : Int32)) own_d2_68 rfl rfl
          obtain ⟨h36, b36, k36, g36, E36, V36, R⟩ := R.newP (pc' := 71) (aty := .char) (cap := 3) (own_w13 hw) own_d2_69 (by decide) (by decide) (by decide) (by decide) (by decide) rfl
          have V36p : Arv Z h36 b36 k36 .char (3 : Int32) [(.int (0 : Int32)), (.int (0 : Int32)), (.int (0 : Int32))] (.int (0 : Int32)) := V36.pad (pad_rep [] (.int (0 : Int32)) 3)
          replace R := R.dup (pc' := 72) own_d2_71 rfl rfl
          replace R := R.iconst (pc' := 73) (z := (0 : Int32)) own_d2_72 rfl rfl
          replace R := R.iloadN (pc' := 74) (v := p1) own_d2_73 rfl rfl
          obtain ⟨h37, K37, V37, R⟩ := R.castore (pc' := 75) V36p ⟨by decide, by decide⟩ 0 rfl (Nat.le_of_ble_eq_true rfl) (List.mem_of_getElem? (i := 0) rfl) own_d2_74 rfl
          have V37p : Arv Z h37 b36 k36 .char (3 : Int32) [(.int p1), (.int (0 : Int32)), (.int (0 : Int32))] (.int (0 : Int32)) := by
            have q := V37
            rw [nar_ch hb1] at q
            exact q
          replace R := R.dup (pc' := 76) own_d2_75 rfl rfl
          replace R := R.iconst (pc' := 77) (z := (1 : Int32)) own_d2_76 rfl rfl
          replace R := R.iloadN (pc' := 78) (v := p2) own_d2_77 rfl rfl
          obtain ⟨h38, K38, V38, R⟩ := R.castore (pc' := 79) V37p ⟨by decide, by decide⟩ 1 rfl (Nat.le_of_ble_eq_true rfl) (List.mem_of_getElem? (i := 0) rfl) own_d2_78 rfl
          have V38p : Arv Z h38 b36 k36 .char (3 : Int32) [(.int p1), (.int p2), (.int (0 : Int32))] (.int (0 : Int32)) := by
            have q := V38
            rw [nar_ch hb2] at q
            exact q
          replace R := R.dup (pc' := 80) own_d2_79 rfl rfl
          replace R := R.iconst (pc' := 81) (z := (2 : Int32)) own_d2_80 rfl rfl
          replace R := R.iloadN (pc' := 82) (v := p3) own_d2_81 rfl rfl
          obtain ⟨h39, K39, V39, R⟩ := R.castore (pc' := 83) V38p ⟨by decide, by decide⟩ 2 rfl (Nat.le_of_ble_eq_true rfl) (List.mem_of_getElem? (i := 0) rfl) own_d2_82 rfl
          have V39p : Arv Z h39 b36 k36 .char (3 : Int32) [(.int p1), (.int p2), (.int p3)] (.int (0 : Int32)) := by
            have q := V39
            rw [nar_ch hb3] at q
            exact q
          have K41 := (((((Keep.refl h35 []).trans ((Keep.refl h35 []).ext E36) all0).trans K37 (allS (Or.inr (by rw [g36]; exact (Nat.le_refl _))) all0)).trans K38 (allS (Or.inr (by rw [g36]; exact (Nat.le_refl _))) all0)).trans K39 (allS (Or.inr (by rw [g36]; exact (Nat.le_refl _))) all0))
          have F42 := X35.keep K41
          have K43 := (((((Keep.refl h35 []).trans ((Keep.refl h35 []).ext E36) all0).trans K37 (allS (Or.inr (by rw [g36]; exact (Nat.le_refl _))) all0)).trans K38 (allS (Or.inr (by rw [g36]; exact (Nat.le_refl _))) all0)).trans K39 (allS (Or.inr (by rw [g36]; exact (Nat.le_refl _))) all0))
          have F44 := F35_value.keep K43 nin0
          have K45 := (((((Keep.refl h35 []).trans ((Keep.refl h35 []).ext E36) all0).trans K37 (allS (Or.inr (by rw [g36]; exact (Nat.le_refl _))) all0)).trans K38 (allS (Or.inr (by rw [g36]; exact (Nat.le_refl _))) all0)).trans K39 (allS (Or.inr (by rw [g36]; exact (Nat.le_refl _))) all0))
          have F46 := F35_coder.keep K45 nin0
          obtain ⟨_, h40, _, ⟨rfl, K40, T40, rfl⟩, R⟩ := R.callI (pc' := 86) (a := b35) (argsL := [(.ref b36)]) (rest := [(.ref b35)]) (W := 1) rfl (own_w14 hw) (own_w15 hw) (own_w12 hw) (own_w16 hw) (by decide) (rm_i1_3 C.l Z a0 hw b35 h39 n0 (b36 :: b35 :: Ds) own_cs own_si own_u (List.mem_of_getElem? (i := 1) rfl) (x0 := p1) (x1 := p2) (x2 := p3) (cuS hb1 (cuS hb2 (cuS hb3 cu0))) V39p F42 F44 F46) rfl (lenOf own_pd14 rfl) rfl rfl own_d2_83 (by decide) (by decide) (by decide) (by decide) rfl
          replace R := R.mono (ce' := 4) (sl' := 16) (by decide) (by decide)
          replace R := R.stk (S' := [(.ref b35)]) rfl
          have hK := (((((((Keep.refl h []).trans ((Keep.refl h []).ext E35) all0).trans ((Keep.refl h35 []).ext E36) all0).trans K37 (allS (Or.inr (by rw [g36]; exact ((Keep.refl h []).ext E35).1)) all0)).trans K38 (allS (Or.inr (by rw [g36]; exact ((Keep.refl h []).ext E35).1)) all0)).trans K39 (allS (Or.inr (by rw [g36]; exact ((Keep.refl h []).ext E35).1)) all0)).trans K40 (allS (Or.inr (by rw [g35]; exact (Nat.le_refl _))) all0))
          have hv : ([p1, p2, p3] : List Int32) = s_make p0 p1 p2 p3 p4 p5 := by unfold s_make; rw [if_neg hc1, if_neg hc11, if_neg hc22, if_pos hc34]
          exact R.retA (Ds' := Ds) hret rfl rfl rfl own_d2_86 (by decide) (by decide) (fun _ q => (fun q => (List.mem_cons_of_mem _ (List.mem_cons_of_mem _ q))) q) ⟨b35, rfl, by rw [← hv]; exact T40, hK, rfl⟩
        · replace R := R.icmpY (pc' := 87) own_d2_61 (feq hc34).2 (by decide) rfl
          replace R := R.iloadN (pc' := 88) (v := p0) own_d2_87 rfl rfl
          replace R := R.iconst (pc' := 89) (z := (4 : Int32)) own_d2_88 rfl rfl
          by_cases hc47 : p0 = (4 : Int32)
          · replace R := R.icmpN (pc' := 92) own_d2_89 (teq hc47).2 rfl
            obtain ⟨h48, b48, g48, E48, X48, D48, R⟩ := R.newO (pc' := 95) (own_w10 hw) (own_w11 hw) (own_w12 hw) own_d2_92 (by decide) (by decide) rfl
            have F48_value : Fld Z h48 b48 "java/lang/String" "value" "[B" .null := D48 (Or.inr (own_w26 hw)) (ty := (.array .byte)) (by decide)
            have F48_coder : Fld Z h48 b48 "java/lang/String" "coder" "B" (.int (0 : Int32)) := D48 (Or.inr (own_w27 hw)) (ty := .byte) (by decide)
            replace R := R.dup (pc' := 96) own_d2_95 rfl rfl
            replace R := R.iconst (pc' := 97) (z := (4 : Int32)) own_d2_96 rfl rfl
            obtain ⟨h49, b49, k49, g49, E49, V49, R⟩ := R.newP (pc' := 99) (aty := .char) (cap := 4) (own_w13 hw) own_d2_97 (by decide) (by decide) (by decide) (by decide) (by decide) rfl
            have V49p : Arv Z h49 b49 k49 .char (4 : Int32) [(.int (0 : Int32)), (.int (0 : Int32)), (.int (0 : Int32)), (.int (0 : Int32))] (.int (0 : Int32)) := V49.pad (pad_rep [] (.int (0 : Int32)) 4)
            replace R := R.dup (pc' := 100) own_d2_99 rfl rfl
            replace R := R.iconst (pc' := 101) (z := (0 : Int32)) own_d2_100 rfl rfl
            replace R := R.iloadN (pc' := 102) (v := p1) own_d2_101 rfl rfl
            obtain ⟨h50, K50, V50, R⟩ := R.castore (pc' := 103) V49p ⟨by decide, by decide⟩ 0 rfl (Nat.le_of_ble_eq_true rfl) (List.mem_of_getElem? (i := 0) rfl) own_d2_102 rfl
            have V50p : Arv Z h50 b49 k49 .char (4 : Int32) [(.int p1), (.int (0 : Int32)), (.int (0 : Int32)), (.int (0 : Int32))] (.int (0 : Int32)) := by
              have q := V50
              rw [nar_ch hb1] at q
              exact q
            replace R := R.dup (pc' := 104) own_d2_103 rfl rfl
            replace R := R.iconst (pc' := 105) (z := (1 : Int32)) own_d2_104 rfl rfl
            replace R := R.iloadN (pc' := 106) (v := p2) own_d2_105 rfl rfl
            obtain ⟨h51, K51, V51, R⟩ := R.castore (pc' := 107) V50p ⟨by decide, by decide⟩ 1 rfl (Nat.le_of_ble_eq_true rfl) (List.mem_of_getElem? (i := 0) rfl) own_d2_106 rfl
            have V51p : Arv Z h51 b49 k49 .char (4 : Int32) [(.int p1), (.int p2), (.int (0 : Int32)), (.int (0 : Int32))] (.int (0 : Int32)) := by
              have q := V51
              rw [nar_ch hb2] at q
              exact q
            replace R := R.dup (pc' := 108) own_d2_107 rfl rfl
            replace R := R.iconst (pc' := 109) (z := (2 : Int32)) own_d2_108 rfl rfl
            replace R := R.iloadN (pc' := 110) (v := p3) own_d2_109 rfl rfl
            obtain ⟨h52, K52, V52, R⟩ := R.castore (pc' := 111) V51p ⟨by decide, by decide⟩ 2 rfl (Nat.le_of_ble_eq_true rfl) (List.mem_of_getElem? (i := 0) rfl) own_d2_110 rfl
            have V52p : Arv Z h52 b49 k49 .char (4 : Int32) [(.int p1), (.int p2), (.int p3), (.int (0 : Int32))] (.int (0 : Int32)) := by
              have q := V52
              rw [nar_ch hb3] at q
              exact q
            replace R := R.dup (pc' := 112) own_d2_111 rfl rfl
            replace R := R.iconst (pc' := 113) (z := (3 : Int32)) own_d2_112 rfl rfl
            replace R := R.iload (pc' := 115) (v := p4) own_d2_113 rfl rfl
            obtain ⟨h53, K53, V53, R⟩ := R.castore (pc' := 116) V52p ⟨by decide, by decide⟩ 3 rfl (Nat.le_of_ble_eq_true rfl) (List.mem_of_getElem? (i := 0) rfl) own_d2_115 rfl
            have V53p : Arv Z h53 b49 k49 .char (4 : Int32) [(.int p1), (.int p2), (.int p3), (.int p4)] (.int (0 : Int32)) := by
              have q := V53
              rw [nar_ch hb4] at q
              exact q
            have K55 := ((((((Keep.refl h48 []).trans ((Keep.refl h48 []).ext E49) all0).trans K50 (allS (Or.inr (by rw [g49]; exact (Nat.le_refl _))) all0)).trans K51 (allS (Or.inr (by rw [g49]; exact (Nat.le_refl _))) all0)).trans K52 (allS (Or.inr (by rw [g49]; exact (Nat.le_refl _))) all0)).trans K53 (allS (Or.inr (by rw [g49]; exact (Nat.le_refl _))) all0))
            have F56 := X48.keep K55
            have K57 := ((((((Keep.refl h48 []).trans ((Keep.refl h48 []).ext E49) all0).trans K50 (allS (Or.inr (by rw [g49]; exact (Nat.le_refl _))) all0)).trans K51 (allS (Or.inr (by rw [g49]; exact (Nat.le_refl _))) all0)).trans K52 (allS (Or.inr (by rw [g49]; exact (Nat.le_refl _))) all0)).trans K53 (allS (Or.inr (by rw [g49]; exact (Nat.le_refl _))) all0))
            have F58 := F48_value.keep K57 nin0
            have K59 := ((((((Keep.refl h48 []).trans ((Keep.refl h48 []).ext E49) all0).trans K50 (allS (Or.inr (by rw [g49]; exact (Nat.le_refl _))) all0)).trans K51 (allS (Or.inr (by rw [g49]; exact (Nat.le_refl _))) all0)).trans K52 (allS (Or.inr (by rw [g49]; exact (Nat.le_refl _))) all0)).trans K53 (allS (Or.inr (by rw [g49]; exact (Nat.le_refl _))) all0))
            have F60 := F48_coder.keep K59 nin0
            obtain ⟨_, h54, _, ⟨rfl, K54, T54, rfl⟩, R⟩ := R.callI (pc' := 119) (a := b48) (argsL := [(.ref b49)]) (rest := [(.ref b48)]) (W := 1) rfl (own_w14 hw) (own_w15 hw) (own_w12 hw) (own_w16 hw) (by decide) (rm_i1_4 C.l Z a0 hw b48 h53 n0 (b49 :: b48 :: Ds) own_cs own_si own_u (List.mem_of_getElem? (i := 1) rfl) (x0 := p1) (x1 := p2) (x2 := p3) (x3 := p4) (cuS hb1 (cuS hb2 (cuS hb3 (cuS hb4 cu0)))) V53p F56 F58 F60) rfl (lenOf own_pd14 rfl) rfl rfl own_d2_116 (by decide) (by decide) (by decide) (by decide) rfl
            replace R := R.mono (ce' := 4) (sl' := 20) (by decide) (by decide)
            replace R := R.stk (S' := [(.ref b48)]) rfl
            have hK := ((((((((Keep.refl h []).trans ((Keep.refl h []).ext E48) all0).trans ((Keep.refl h48 []).ext E49) all0).trans K50 (allS (Or.inr (by rw [g49]; exact ((Keep.refl h []).ext E48).1)) all0)).trans K51 (allS (Or.inr (by rw [g49]; exact ((Keep.refl h []).ext E48).1)) all0)).trans K52 (allS (Or.inr (by rw [g49]; exact ((Keep.refl h []).ext E48).1)) all0)).trans K53 (allS (Or.inr (by rw [g49]; exact ((Keep.refl h []).ext E48).1)) all0)).trans K54 (allS (Or.inr (by rw [g48]; exact (Nat.le_refl _))) all0))
            have hv : ([p1, p2, p3, p4] : List Int32) = s_make p0 p1 p2 p3 p4 p5 := by unfold s_make; rw [if_neg hc1, if_neg hc11, if_neg hc22, if_neg hc34, if_pos hc47]
            exact R.retA (Ds' := Ds) hret rfl rfl rfl own_d2_119 (by decide) (by decide) (fun _ q => (fun q => (List.mem_cons_of_mem _ (List.mem_cons_of_mem _ q))) q) ⟨b48, rfl, by rw [← hv]; exact T54, hK, rfl⟩
          · replace R := R.icmpY (pc' := 120) own_d2_89 (feq hc47).2 (by decide) rfl
            obtain ⟨h61, b61, g61, E61, X61, D61, R⟩ := R.newO (pc' := 123) (own_w10 hw) (own_w11 hw) (own_w12 hw) own_d2_120 (by decide) (by decide) rfl
            have F61_value : Fld Z h61 b61 "java/lang/String" "value" "[B" .null := D61 (Or.inr (own_w26 hw)) (ty := (.array .byte)) (by decide)
            have F61_coder : Fld Z h61 b61 "java/lang/String" "coder" "B" (.int (0 : Int32)) := D61 (Or.inr (own_w27 hw)) (ty := .byte) (by decide)
            replace R := R.dup (pc' := 124) own_d2_123 rfl rfl
            replace R := R.iconst (pc' := 125) (z := (5 : Int32)) own_d2_124 rfl rfl
            obtain ⟨h62, b62, k62, g62, E62, V62, R⟩ := R.newP (pc' := 127) (aty := .char) (cap := 5) (own_w13 hw) own_d2_125 (by decide) (by decide) (by decide) (by decide) (by decide) rfl
            have V62p : Arv Z h62 b62 k62 .char (5 : Int32) [(.int (0 : Int32)), (.int (0 : Int32)), (.int (0 : Int32)), (.int (0 : Int32)), (.int (0 : Int32))] (.int (0 : Int32)) := V62.pad (pad_rep [] (.int (0 : Int32)) 5)
            replace R := R.dup (pc' := 128) own_d2_127 rfl rfl
            replace R := R.iconst (pc' := 129) (z := (0 : Int32)) own_d2_128 rfl rfl
            replace R := R.iloadN (pc' := 130) (v := p1) own_d2_129 rfl rfl
            obtain ⟨h63, K63, V63, R⟩ := R.castore (pc' := 131) V62p ⟨by decide, by decide⟩ 0 rfl (Nat.le_of_ble_eq_true rfl) (List.mem_of_getElem? (i := 0) rfl) own_d2_130 rfl
            have V63p : Arv Z h63 b62 k62 .char (5 : Int32) [(.int p1), (.int (0 : Int32)), (.int (0 : Int32)), (.int (0 : Int32)), (.int (0 : Int32))] (.int (0 : Int32)) := by
              have q := V63
              rw [nar_ch hb1] at q
              exact q
            replace R := R.dup (pc' := 132) own_d2_131 rfl rfl
            replace R := R.iconst (pc' := 133) (z := (1 : Int32)) own_d2_132 rfl rfl
            replace R := R.iloadN (pc' := 134) (v := p2) own_d2_133 rfl rfl
            obtain ⟨h64, K64, V64, R⟩ := R.castore (pc' := 135) V63p ⟨by decide, by decide⟩ 1 rfl (Nat.le_of_ble_eq_true rfl) (List.mem_of_getElem? (i := 0) rfl) own_d2_134 rfl
            have V64p : Arv Z h64 b62 k62 .char (5 : Int32) [(.int p1), (.int p2), (.int (0 : Int32)), (.int (0 : Int32)), (.int (0 : Int32))] (.int (0 : Int32)) := by
              have q := V64
              rw [nar_ch hb2] at q
              exact q
            replace R := R.dup (pc' := 136) own_d2_135 rfl rfl
            replace R := R.iconst (pc' := 137) (z := (2 : Int32)) own_d2_136 rfl rfl
            replace R := R.iloadN (pc' := 138) (v := p3) own_d2_137 rfl rfl
            obtain ⟨h65, K65, V65, R⟩ := R.castore (pc' := 139) V64p ⟨by decide, by decide⟩ 2 rfl (Nat.le_of_ble_eq_true rfl) (List.mem_of_getElem? (i := 0) rfl) own_d2_138 rfl
            have V65p : Arv Z h65 b62 k62 .char (5 : Int32) [(.int p1), (.int p2), (.int p3), (.int (0 : Int32)), (.int (0 : Int32))] (.int (0 : Int32)) := by
              have q := V65
              rw [nar_ch hb3] at q
              exact q
            replace R := R.dup (pc' := 140) own_d2_139 rfl rfl
            replace R := R.iconst (pc' := 141) (z := (3 : Int32)) own_d2_140 rfl rfl
            replace R := R.iload (pc' := 143) (v := p4) own_d2_141 rfl rfl
            obtain ⟨h66, K66, V66, R⟩ := R.castore (pc' := 144) V65p ⟨by decide, by decide⟩ 3 rfl (Nat.le_of_ble_eq_true rfl) (List.mem_of_getElem? (i := 0) rfl) own_d2_143 rfl
            have V66p : Arv Z h66 b62 k62 .char (5 : Int32) [(.int p1), (.int p2), (.int p3), (.int p4), (.int (0 : Int32))] (.int (0 : Int32)) := by
              have q := V66
              rw [nar_ch hb4] at q
              exact q
            replace R := R.dup (pc' := 145) own_d2_144 rfl rfl
            replace R := R.iconst (pc' := 146) (z := (4 : Int32)) own_d2_145 rfl rfl
            replace R := R.iload (pc' := 148) (v := p5) own_d2_146 rfl rfl
            obtain ⟨h67, K67, V67, R⟩ := R.castore (pc' := 149) V66p ⟨by decide, by decide⟩ 4 rfl (Nat.le_of_ble_eq_true rfl) (List.mem_of_getElem? (i := 0) rfl) own_d2_148 rfl
            have V67p : Arv Z h67 b62 k62 .char (5 : Int32) [(.int p1), (.int p2), (.int p3), (.int p4), (.int p5)] (.int (0 : Int32)) := by
              have q := V67
              rw [nar_ch hb5] at q
              exact q
            have K69 := (((((((Keep.refl h61 []).trans ((Keep.refl h61 []).ext E62) all0).trans K63 (allS (Or.inr (by rw [g62]; exact (Nat.le_refl _))) all0)).trans K64 (allS (Or.inr (by rw [g62]; exact (Nat.le_refl _))) all0)).trans K65 (allS (Or.inr (by rw [g62]; exact (Nat.le_refl _))) all0)).trans K66 (allS (Or.inr (by rw [g62]; exact (Nat.le_refl _))) all0)).trans K67 (allS (Or.inr (by rw [g62]; exact (Nat.le_refl _))) all0))
            have F70 := X61.keep K69
            have K71 := (((((((Keep.refl h61 []).trans ((Keep.refl h61 []).ext E62) all0).trans K63 (allS (Or.inr (by rw [g62]; exact (Nat.le_refl _))) all0)).trans K64 (allS (Or.inr (by rw [g62]; exact (Nat.le_refl _))) all0)).trans K65 (allS (Or.inr (by rw [g62]; exact (Nat.le_refl _))) all0)).trans K66 (allS (Or.inr (by rw [g62]; exact (Nat.le_refl _))) all0)).trans K67 (allS (Or.inr (by rw [g62]; exact (Nat.le_refl _))) all0))
            have F72 := F61_value.keep K71 nin0
            have K73 := (((((((Keep.refl h61 []).trans ((Keep.refl h61 []).ext E62) all0).trans K63 (allS (Or.inr (by rw [g62]; exact (Nat.le_refl _))) all0)).trans K64 (allS (Or.inr (by rw [g62]; exact (Nat.le_refl _))) all0)).trans K65 (allS (Or.inr (by rw [g62]; exact (Nat.le_refl _))) all0)).trans K66 (allS (Or.inr (by rw [g62]; exact (Nat.le_refl _))) all0)).trans K67 (allS (Or.inr (by rw [g62]; exact (Nat.le_refl _))) all0))
            have F74 := F61_coder.keep K73 nin0
            obtain ⟨_, h68, _, ⟨rfl, K68, T68, rfl⟩, R⟩ := R.callI (pc' := 152) (a := b61) (argsL := [(.ref b62)]) (rest := [(.ref b61)]) (W := 1) rfl (own_w14 hw) (own_w15 hw) (own_w12 hw) (own_w16 hw) (by decide) (rm_i1_5 C.l Z a0 hw b61 h67 n0 (b62 :: b61 :: Ds) own_cs own_si own_u (List.mem_of_getElem? (i := 1) rfl) (x0 := p1) (x1 := p2) (x2 := p3) (x3 := p4) (x4 := p5) (cuS hb1 (cuS hb2 (cuS hb3 (cuS hb4 (cuS hb5 cu0))))) V67p F70 F72 F74) rfl (lenOf own_pd14 rfl) rfl rfl own_d2_149 (by decide) (by decide) (by decide) (by decide) rfl
            replace R := R.mono (ce' := 4) (sl' := 24) (by decide) (by decide)
            replace R := R.stk (S' := [(.ref b61)]) rfl
            have hK := (((((((((Keep.refl h []).trans ((Keep.refl h []).ext E61) all0).trans ((Keep.refl h61 []).ext E62) all0).trans K63 (allS (Or.inr (by rw [g62]; exact ((Keep.refl h []).ext E61).1)) all0)).trans K64 (allS (Or.inr (by rw [g62]; exact ((Keep.refl h []).ext E61).1)) all0)).trans K65 (allS (Or.inr (by rw [g62]; exact ((Keep.refl h []).ext E61).1)) all0)).trans K66 (allS (Or.inr (by rw [g62]; exact ((Keep.refl h []).ext E61).1)) all0)).trans K67 (allS (Or.inr (by rw [g62]; exact ((Keep.refl h []).ext E61).1)) all0)).trans K68 (allS (Or.inr (by rw [g61]; exact (Nat.le_refl _))) all0))
            have hv : ([p1, p2, p3, p4, p5] : List Int32) = s_make p0 p1 p2 p3 p4 p5 := by unfold s_make; rw [if_neg hc1, if_neg hc11, if_neg hc22, if_neg hc34, if_neg hc47]
            exact R.retA (Ds' := Ds) hret rfl rfl rfl own_d2_152 (by decide) (by decide) (fun _ q => (fun q => (List.mem_cons_of_mem _ (List.mem_cons_of_mem _ q))) q) ⟨b61, rfl, by rw [← hv]; exact T68, hK, rfl⟩
def s_digs (x0 x1 x2 x3 : Int32) : Int32 := if x0 < (48 : Int32) then (0 : Int32) else (if (57 : Int32) < x0 then (0 : Int32) else (if x1 < (48 : Int32) then (0 : Int32) else (if (57 : Int32) < x1 then (0 : Int32) else (if x2 < (48 : Int32) then (0 : Int32) else (if (57 : Int32) < x2 then (0 : Int32) else (if x3 < (48 : Int32) then (0 : Int32) else (if (57 : Int32) < x3 then (0 : Int32) else (1 : Int32))))))))
theorem s_digs_01 (x0 x1 x2 x3 : Int32) : s_digs x0 x1 x2 x3 = 0 ∨ s_digs x0 x1 x2 x3 = 1 := by
  unfold s_digs; (repeat' split) <;> simp
theorem s_digs_nar (x0 x1 x2 x3 : Int32) : nar .boolean (s_digs x0 x1 x2 x3) = s_digs x0 x1 x2 x3 := by
  rcases s_digs_01 x0 x1 x2 x3 with e | e <;> rw [e] <;> rfl
set_option maxRecDepth 65536 in
set_option maxHeartbeats 4000000 in
theorem rm_digs3 (l : Launch) (Z : State) (a0 : Array Value) (hw : ∀ d ∈ tables_1, d.before a0 Z = true) (a : Addr) (h : Heap) (n0 : Nat) (Ds : List Addr) (own_cs : CompactOn Z) (own_si : SiooOk Z) (own_u : U16ok Z) {x0 x1 x2 x3 : Int32} (T_a : IsTx Z h a [x0, x1, x2, x3]) :
    Ctr l Z (⟨"com/example/vestbook/vestbook/WholeNumbers", "isDigits", "(Ljava/lang/String;II)Z"⟩ : MethodName) prog_7_method_6_code 5 (some .boolean) [] ({ frames := 5, cells := 0, slots := 0, locals := 66 } : Room) #[.ref a, .int (0 : Int32), .int (4 : Int32)] h n0 Ds (fun v h' Ds' => v = some (.int (s_digs x0 x1 x2 x3)) ∧ h = h' ∧ Ds = Ds') := by
  refine ctr_of (Ls := #[.val (.ref a), .val (.int (0 : Int32)), .val (.int (4 : Int32)), .unset, .unset]) (plainFor_of_name own_pn5) (fun m => by first | (simp [entryFrame, mkF, argsToLocals, Value.category]; done) | rfl) ?_
  intro C hl hret hnm R
  subst hl
  replace R := R.iloadN (pc' := 1) (v := (0 : Int32)) own_d14_0 rfl rfl
  replace R := R.iloadN (pc' := 2) (v := (4 : Int32)) own_d14_1 rfl rfl
  replace R := R.icmpY (pc' := 7) own_d14_2 (feq (by decide : ¬ ((0 : Int32) = (4 : Int32)))).2 (by decide) rfl
  replace R := R.iloadN (pc' := 8) (v := (0 : Int32)) own_d14_7 rfl rfl
  replace R := R.istoreN (pc' := 9) (l' := #[.val (.ref a), .val (.int (0 : Int32)), .val (.int (4 : Int32)), .val (.int (0 : Int32)), .unset]) own_d14_8 rfl rfl
  replace R := R.iloadN (pc' := 10) (v := (0 : Int32)) own_d14_9 rfl rfl
  replace R := R.iloadN (pc' := 11) (v := (4 : Int32)) own_d14_10 rfl rfl
  replace R := R.icmpN (pc' := 14) own_d14_11 (tlt (by decide : (0 : Int32) < (4 : Int32))).2.1 rfl
  replace R := R.aloadN (pc' := 15) (v := (.ref a)) own_d14_14 rfl rfl rfl
  replace R := R.iloadN (pc' := 16) (v := (0 : Int32)) own_d14_15 rfl rfl
  replace R : Rc C ({ frames := 5, cells := 0, slots := 0, locals := 66 } : Room) "com/example/vestbook/vestbook/WholeNumbers" prog_7_method_6_code 5 Z n0 0 0 19 #[.val (.ref a), .val (.int (0 : Int32)), .val (.int (4 : Int32)), .val (.int (0 : Int32)), .unset] [(.int x0)] h Ds := by
    rcases T_a with q1 | q1
    · obtain ⟨_, _, _, ⟨rfl, rfl, rfl⟩, R⟩ := R.callV (pc' := 19) (y := (⟨"java/lang/String", "charAt", "(I)C"⟩ : MethodName)) (z := (⟨"java/lang/String", "charAt", "(I)C"⟩ : MethodName)) (argsL := [(.int (0 : Int32))]) (rest := []) (W := 0) (own_w66 hw) (own_w67 hw) (fun s' hZ' => notFace_of_selects (args := #[]) (mvT hZ' (own_w69 hw))) (own_w69 hw) (own_w68 hw) (own_w12 hw) (own_w70 hw) (by decide) q1.1 (rm_charAt C.l Z a0 hw a (0 : Int32) h n0 Ds own_cs own_si (k := 0) rfl (Nat.le_of_ble_eq_true rfl) q1) rfl (lenOf own_pd15 rfl) rfl rfl own_d14_16 (by decide) (by decide) (by decide) (by decide) rfl
      replace R := R.mono (ce' := 0) (sl' := 0) (by decide) (by decide)
      replace R := R.stk (S' := [(.int x0)]) rfl
      exact R
    · obtain ⟨_, _, _, ⟨rfl, rfl, rfl⟩, R⟩ := R.callV (pc' := 19) (y := (⟨"java/lang/String", "charAt", "(I)C"⟩ : MethodName)) (z := (⟨"java/lang/String", "charAt", "(I)C"⟩ : MethodName)) (argsL := [(.int (0 : Int32))]) (rest := []) (W := 0) (own_w66 hw) (own_w67 hw) (fun s' hZ' => notFace_of_selects (args := #[]) (mvT hZ' (own_w69 hw))) (own_w69 hw) (own_w68 hw) (own_w12 hw) (own_w70 hw) (by decide) q1.1 (rm_charAt_u C.l Z a0 hw a (0 : Int32) h n0 Ds own_cs own_si own_u (k := 0) rfl (Nat.le_of_ble_eq_true rfl) q1) rfl (lenOf own_pd15 rfl) rfl rfl own_d14_16 (by decide) (by decide) (by decide) (by decide) rfl
      replace R := R.mono (ce' := 0) (sl' := 0) (by decide) (by decide)
      replace R := R.stk (S' := [(.int x0)]) rfl
      exact R
  replace R := R.istore (pc' := 21) (l' := #[.val (.ref a), .val (.int (0 : Int32)), .val (.int (4 : Int32)), .val (.int (0 : Int32)), .val (.int x0)]) own_d14_19 rfl rfl
  replace R := R.iload (pc' := 23) (v := x0) own_d14_21 rfl rfl
  replace R := R.bipush (pc' := 25) (z := (48 : Int32)) own_d14_23 rfl rfl
  by_cases hc2 : x0 < (48 : Int32)
  · replace R := R.icmpY (pc' := 35) own_d14_25 (tlt hc2).1 (by decide) rfl
    replace R := R.iconst (pc' := 36) (z := (0 : Int32)) own_d14_35 rfl rfl
    have hv : (0 : Int32) = (s_digs x0 x1 x2 x3) := by unfold s_digs; rw [if_pos hc2]
    exact R.retN (Ds' := Ds) hret (by simp) ((congrArg (nar .boolean) hv).trans (s_digs_nar x0 x1 x2 x3)) own_d14_36 (by decide) (by decide) (fun _ q => q) ⟨rfl, rfl, rfl⟩
  · replace R := R.icmpN (pc' := 28) own_d14_25 (flt hc2).1 rfl
    replace R := R.iload (pc' := 30) (v := x0) own_d14_28 rfl rfl
    replace R := R.bipush (pc' := 32) (z := (57 : Int32)) own_d14_30 rfl rfl
    by_cases hc3 : (57 : Int32) < x0
    · replace R := R.icmpN (pc' := 35) own_d14_32 (tlt hc3).2.2.2 rfl
      replace R := R.iconst (pc' := 36) (z := (0 : Int32)) own_d14_35 rfl rfl
      have hv : (0 : Int32) = (s_digs x0 x1 x2 x3) := by unfold s_digs; rw [if_neg hc2, if_pos hc3]
      exact R.retN (Ds' := Ds) hret (by simp) ((congrArg (nar .boolean) hv).trans (s_digs_nar x0 x1 x2 x3)) own_d14_36 (by decide) (by decide) (fun _ q => q) ⟨rfl, rfl, rfl⟩
    · replace R := R.icmpY (pc' := 37) own_d14_32 (flt hc3).2.2.2 (by decide) rfl
      replace R := R.iinc (pc' := 40) (l' := #[.val (.ref a), .val (.int (0 : Int32)), .val (.int (4 : Int32)), .val (.int (1 : Int32)), .val (.int x0)]) own_d14_37 rfl rfl rfl
      replace R := R.goto (pc' := 9) own_d14_40 (by decide) rfl
      replace R := R.iloadN (pc' := 10) (v := (1 : Int32)) own_d14_9 rfl rfl
      replace R := R.iloadN (pc' := 11) (v := (4 : Int32)) own_d14_10 rfl rfl
      replace R := R.icmpN (pc' := 14) own_d14_11 (tlt (by decide : (1 : Int32) < (4 : Int32))).2.1 rfl
      replace R := R.aloadN (pc' := 15) (v := (.ref a)) own_d14_14 rfl rfl rfl
      replace R := R.iloadN (pc' := 16) (v := (1 : Int32)) own_d14_15 rfl rfl
      replace R : Rc C ({ frames := 5, cells := 0, slots := 0, locals := 66 } : Room) "com/example/vestbook/vestbook/WholeNumbers" prog_7_method_6_code 5 Z n0 0 0 19 #[.val (.ref a), .val (.int (0 : Int32)), .val (.int (4 : Int32)), .val (.int (1 : Int32)), .val (.int x0)] [(.int x1)] h Ds := by
        rcases T_a with q4 | q4
        · obtain ⟨_, _, _, ⟨rfl, rfl, rfl⟩, R⟩ := R.callV (pc' := 19) (y := (⟨"java/lang/String", "charAt", "(I)C"⟩ : MethodName)) (z := (⟨"java/lang/String", "charAt", "(I)C"⟩ : MethodName)) (argsL := [(.int (1 : Int32))]) (rest := []) (W := 0) (own_w66 hw) (own_w67 hw) (fun s' hZ' => notFace_of_selects (args := #[]) (mvT hZ' (own_w69 hw))) (own_w69 hw) (own_w68 hw) (own_w12 hw) (own_w70 hw) (by decide) q4.1 (rm_charAt C.l Z a0 hw a (1 : Int32) h n0 Ds own_cs own_si (k := 1) rfl (Nat.le_of_ble_eq_true rfl) q4) rfl (lenOf own_pd15 rfl) rfl rfl own_d14_16 (by decide) (by decide) (by decide) (by decide) rfl
          replace R := R.mono (ce' := 0) (sl' := 0) (by decide) (by decide)
          replace R := R.stk (S' := [(.int x1)]) rfl
          exact R
        · obtain ⟨_, _, _, ⟨rfl, rfl, rfl⟩, R⟩ := R.callV (pc' := 19) (y := (⟨"java/lang/String", "charAt", "(I)C"⟩ : MethodName)) (z := (⟨"java/lang/String", "charAt", "(I)C"⟩ : MethodName)) (argsL := [(.int (1 : Int32))]) (rest := []) (W := 0) (own_w66 hw) (own_w67 hw) (fun s' hZ' => notFace_of_selects (args := #[]) (mvT hZ' (own_w69 hw))) (own_w69 hw) (own_w68 hw) (own_w12 hw) (own_w70 hw) (by decide) q4.1 (rm_charAt_u C.l Z a0 hw a (1 : Int32) h n0 Ds own_cs own_si own_u (k := 1) rfl (Nat.le_of_ble_eq_true rfl) q4) rfl (lenOf own_pd15 rfl) rfl rfl own_d14_16 (by decide) (by decide) (by decide) (by decide) rfl
          replace R := R.mono (ce' := 0) (sl' := 0) (by decide) (by decide)
          replace R := R.stk (S' := [(.int x1)]) rfl
          exact R
      replace R := R.istore (pc' := 21) (l' := #[.val (.ref a), .val (.int (0 : Int32)), .val (.int (4 : Int32)), .val (.int (1 : Int32)), .val (.int x1)]) own_d14_19 rfl rfl
      replace R := R.iload (pc' := 23) (v := x1) own_d14_21 rfl rfl
      replace R := R.bipush (pc' := 25) (z := (48 : Int32)) own_d14_23 rfl rfl
      by_cases hc5 : x1 < (48 : Int32)
      · replace R := R.icmpY (pc' := 35) own_d14_25 (tlt hc5).1 (by decide) rfl
        replace R := R.iconst (pc' := 36) (z := (0 : Int32)) own_d14_35 rfl rfl
        have hv : (0 : Int32) = (s_digs x0 x1 x2 x3) := by unfold s_digs; rw [if_neg hc2, if_neg hc3, if_pos hc5]
        exact R.retN (Ds' := Ds) hret (by simp) ((congrArg (nar .boolean) hv).trans (s_digs_nar x0 x1 x2 x3)) own_d14_36 (by decide) (by decide) (fun _ q => q) ⟨rfl, rfl, rfl⟩
      · replace R := R.icmpN (pc' := 28) own_d14_25 (flt hc5).1 rfl
        replace R := R.iload (pc' := 30) (v := x1) own_d14_28 rfl rfl
        replace R := R.bipush (pc' := 32) (z := (57 : Int32)) own_d14_30 rfl rfl
        by_cases hc6 : (57 : Int32) < x1
        · replace R := R.icmpN (pc' := 35) own_d14_32 (tlt hc6).2.2.2 rfl
          replace R := R.iconst (pc' := 36) (z := (0 : Int32)) own_d14_35 rfl rfl
          have hv : (0 : Int32) = (s_digs x0 x1 x2 x3) := by unfold s_digs; rw [if_neg hc2, if_neg hc3, if_neg hc5, if_pos hc6]
          exact R.retN (Ds' := Ds) hret (by simp) ((congrArg (nar .boolean) hv).trans (s_digs_nar x0 x1 x2 x3)) own_d14_36 (by decide) (by decide) (fun _ q => q) ⟨rfl, rfl, rfl⟩
        · replace R := R.icmpY (pc' := 37) own_d14_32 (flt hc6).2.2.2 (by decide) rfl
          replace R := R.iinc (pc' := 40) (l' := #[.val (.ref a), .val (.int (0 : Int32)), .val (.int (4 : Int32)), .val (.int (2 : Int32)), .val (.int x1)]) own_d14_37 rfl rfl rfl
          replace R := R.goto (pc' := 9) own_d14_40 (by decide) rfl
          replace R := R.iloadN (pc' := 10) (v := (2 : Int32)) own_d14_9 rfl rfl
          replace R := R.iloadN (pc' := 11) (v := (4 : Int32)) own_d14_10 rfl rfl
          replace R := R.icmpN (pc' := 14) own_d14_11 (tlt (by decide : (2 : Int32) < (4 : Int32))).2.1 rfl
          replace R := R.aloadN (pc' := 15) (v := (.ref a)) own_d14_14 rfl rfl rfl
          replace R := R.iloadN (pc' := 16) (v := (2 : Int32)) own_d14_15 rfl rfl
          replace R : Rc C ({ frames := 5, cells := 0, slots := 0, locals := 66 } : Room) "com/example/vestbook/vestbook/WholeNumbers" prog_7_method_6_code 5 Z n0 0 0 19 #[.val (.ref a), .val (.int (0 : Int32)), .val (.int (4 : Int32)), .val (.int (2 : Int32)), .val (.int x1)] [(.int x2)] h Ds := by
            rcases T_a with q7 | q7
            · obtain ⟨_, _, _, ⟨rfl, rfl, rfl⟩, R⟩ := R.callV (pc' := 19) (y := (⟨"java/lang/String", "charAt", "(I)C"⟩ : MethodName)) (z := (⟨"java/lang/String", "charAt", "(I)C"⟩ : MethodName)) (argsL := [(.int (2 : Int32))]) (rest := []) (W := 0) (own_w66 hw) (own_w67 hw) (fun s' hZ' => notFace_of_selects (args := #[]) (mvT hZ' (own_w69 hw))) (own_w69 hw) (own_w68 hw) (own_w12 hw) (own_w70 hw) (by decide) q7.1 (rm_charAt C.l Z a0 hw a (2 : Int32) h n0 Ds own_cs own_si (k := 2) rfl (Nat.le_of_ble_eq_true rfl) q7) rfl (lenOf own_pd15 rfl) rfl rfl own_d14_16 (by decide) (by decide) (by decide) (by decide) rfl
              replace R := R.mono (ce' := 0) (sl' := 0) (by decide) (by decide)
              replace R := R.stk (S' := [(.int x2)]) rfl
              exact R
            · obtain ⟨_, _, _, ⟨rfl, rfl, rfl⟩, R⟩ := R.callV (pc' := 19) (y := (⟨"java/lang/String", "charAt", "(I)C"⟩ : MethodName)) (z := (⟨"java/lang/String", "charAt", "(I)C"⟩ : MethodName)) (argsL := [(.int (2 : Int32))]) (rest := []) (W := 0) (own_w66 hw) (own_w67 hw) (fun s' hZ' => notFace_of_selects (args := #[]) (mvT hZ' (own_w69 hw))) (own_w69 hw) (own_w68 hw) (own_w12 hw) (own_w70 hw) (by decide) q7.1 (rm_charAt_u C.l Z a0 hw a (2 : Int32) h n0 Ds own_cs own_si own_u (k := 2) rfl (Nat.le_of_ble_eq_true rfl) q7) rfl (lenOf own_pd15 rfl) rfl rfl own_d14_16 (by decide) (by decide) (by decide) (by decide) rfl
              replace R := R.mono (ce' := 0) (sl' := 0) (by decide) (by decide)
              replace R := R.stk (S' := [(.int x2)]) rfl
              exact R
          replace R := R.istore (pc' := 21) (l' := #[.val (.ref a), .val (.int (0 : Int32)), .val (.int (4 : Int32)), .val (.int (2 : Int32)), .val (.int x2)]) own_d14_19 rfl rfl
          replace R := R.iload (pc' := 23) (v := x2) own_d14_21 rfl rfl
          replace R := R.bipush (pc' := 25) (z := (48 : Int32)) own_d14_23 rfl rfl
          by_cases hc8 : x2 < (48 : Int32)
          · replace R := R.icmpY (pc' := 35) own_d14_25 (tlt hc8).1 (by decide) rfl
            replace R := R.iconst (pc' := 36) (z := (0 : Int32)) own_d14_35 rfl rfl
            have hv : (0 : Int32) = (s_digs x0 x1 x2 x3) := by unfold s_digs; rw [if_neg hc2, if_neg hc3, if_neg hc5, if_neg hc6, if_pos hc8]
            exact R.retN (Ds' := Ds) hret (by simp) ((congrArg (nar .boolean) hv).trans (s_digs_nar x0 x1 x2 x3)) own_d14_36 (by decide) (by decide) (fun _ q => q) ⟨rfl, rfl, rfl⟩
          · replace R := R.icmpN (pc' := 28) own_d14_25 (flt hc8).1 rfl
            replace R := R.iload (pc' := 30) (v := x2) own_d14_28 rfl rfl
            replace R := R.bipush (pc' := 32) (z := (57 : Int32)) own_d14_30 rfl rfl
            by_cases hc9 : (57 : Int32) < x2
            · replace R := R.icmpN (pc' := 35) own_d14_32 (tlt hc9).2.2.2 rfl
              replace R := R.iconst (pc' := 36) (z := (0 : Int32)) own_d14_35 rfl rfl
              have hv : (0 : Int32) = (s_digs x0 x1 x2 x3) := by unfold s_digs; rw [if_neg hc2, if_neg hc3, if_neg hc5, if_neg hc6, if_neg hc8, if_pos hc9]
              exact R.retN (Ds' := Ds) hret (by simp) ((congrArg (nar .boolean) hv).trans (s_digs_nar x0 x1 x2 x3)) own_d14_36 (by decide) (by decide) (fun _ q => q) ⟨rfl, rfl, rfl⟩
            · replace R := R.icmpY (pc' := 37) own_d14_32 (flt hc9).2.2.2 (by decide) rfl
              replace R := R.iinc (pc' := 40) (l' := #[.val (.ref a), .val (.int (0 : Int32)), .val (.int (4 : Int32)), .val (.int (3 : Int32)), .val (.int x2)]) own_d14_37 rfl rfl rfl
              replace R := R.goto (pc' := 9) own_d14_40 (by decide) rfl
              replace R := R.iloadN (pc' := 10) (v := (3 : Int32)) own_d14_9 rfl rfl
              replace R := R.iloadN (pc' := 11) (v := (4 : Int32)) own_d14_10 rfl rfl
              replace R := R.icmpN (pc' := 14) own_d14_11 (tlt (by decide : (3 : Int32) < (4 : Int32))).2.1 rfl
              replace R := R.aloadN (pc' := 15) (v := (.ref a)) own_d14_14 rfl rfl rfl
              replace R := R.iloadN (pc' := 16) (v := (3 : Int32)) own_d14_15 rfl rfl
              replace R : Rc C ({ frames := 5, cells := 0, slots := 0, locals := 66 } : Room) "com/example/vestbook/vestbook/WholeNumbers" prog_7_method_6_code 5 Z n0 0 0 19 #[.val (.ref a), .val (.int (0 : Int32)), .val (.int (4 : Int32)), .val (.int (3 : Int32)), .val (.int x2)] [(.int x3)] h Ds := by
                rcases T_a with q10 | q10
                · obtain ⟨_, _, _, ⟨rfl, rfl, rfl⟩, R⟩ := R.callV (pc' := 19) (y := (⟨"java/lang/String", "charAt", "(I)C"⟩ : MethodName)) (z := (⟨"java/lang/String", "charAt", "(I)C"⟩ : MethodName)) (argsL := [(.int (3 : Int32))]) (rest := []) (W := 0) (own_w66 hw) (own_w67 hw) (fun s' hZ' => notFace_of_selects (args := #[]) (mvT hZ' (own_w69 hw))) (own_w69 hw) (own_w68 hw) (own_w12 hw) (own_w70 hw) (by decide) q10.1 (rm_charAt C.l Z a0 hw a (3 : Int32) h n0 Ds own_cs own_si (k := 3) rfl (Nat.le_of_ble_eq_true rfl) q10) rfl (lenOf own_pd15 rfl) rfl rfl own_d14_16 (by decide) (by decide) (by decide) (by decide) rfl
                  replace R := R.mono (ce' := 0) (sl' := 0) (by decide) (by decide)
                  replace R := R.stk (S' := [(.int x3)]) rfl
                  exact R
                · obtain ⟨_, _, _, ⟨rfl, rfl, rfl⟩, R⟩ := R.callV (pc' := 19) (y := (⟨"java/lang/String", "charAt", "(I)C"⟩ : MethodName)) (z := (⟨"java/lang/String", "charAt", "(I)C"⟩ : MethodName)) (argsL := [(.int (3 : Int32))]) (rest := []) (W := 0) (own_w66 hw) (own_w67 hw) (fun s' hZ' => notFace_of_selects (args := #[]) (mvT hZ' (own_w69 hw))) (own_w69 hw) (own_w68 hw) (own_w12 hw) (own_w70 hw) (by decide) q10.1 (rm_charAt_u C.l Z a0 hw a (3 : Int32) h n0 Ds own_cs own_si own_u (k := 3) rfl (Nat.le_of_ble_eq_true rfl) q10) rfl (lenOf own_pd15 rfl) rfl rfl own_d14_16 (by decide) (by decide) (by decide) (by decide) rfl
                  replace R := R.mono (ce' := 0) (sl' := 0) (by decide) (by decide)
                  replace R := R.stk (S' := [(.int x3)]) rfl
                  exact R
              replace R := R.istore (pc' := 21) (l' := #[.val (.ref a), .val (.int (0 : Int32)), .val (.int (4 : Int32)), .val (.int (3 : Int32)), .val (.int x3)]) own_d14_19 rfl rfl
              replace R := R.iload (pc' := 23) (v := x3) own_d14_21 rfl rfl
              replace R := R.bipush (pc' := 25) (z := (48 : Int32)) own_d14_23 rfl rfl
              by_cases hc11 : x3 < (48 : Int32)
              · replace R := R.icmpY (pc' := 35) own_d14_25 (tlt hc11).1 (by decide) rfl
                replace R := R.iconst (pc' := 36) (z := (0 : Int32)) own_d14_35 rfl rfl
                have hv : (0 : Int32) = (s_digs x0 x1 x2 x3) := by unfold s_digs; rw [if_neg hc2, if_neg hc3, if_neg hc5, if_neg hc6, if_neg hc8, if_neg hc9, if_pos hc11]
                exact R.retN (Ds' := Ds) hret (by simp) ((congrArg (nar .boolean) hv).trans (s_digs_nar x0 x1 x2 x3)) own_d14_36 (by decide) (by decide) (fun _ q => q) ⟨rfl, rfl, rfl⟩
              · replace R := R.icmpN (pc' := 28) own_d14_25 (flt hc11).1 rfl
                replace R := R.iload (pc' := 30) (v := x3) own_d14_28 rfl rfl
                replace R := R.bipush (pc' := 32) (z := (57 : Int32)) own_d14_30 rfl rfl
                by_cases hc12 : (57 : Int32) < x3
                · replace R := R.icmpN (pc' := 35) own_d14_32 (tlt hc12).2.2.2 rfl
                  replace R := R.iconst (pc' := 36) (z := (0 : Int32)) own_d14_35 rfl rfl
                  have hv : (0 : Int32) = (s_digs x0 x1 x2 x3) := by unfold s_digs; rw [if_neg hc2, if_neg hc3, if_neg hc5, if_neg hc6, if_neg hc8, if_neg hc9, if_neg hc11, if_pos hc12]
                  exact R.retN (Ds' := Ds) hret (by simp) ((congrArg (nar .boolean) hv).trans (s_digs_nar x0 x1 x2 x3)) own_d14_36 (by decide) (by decide) (fun _ q => q) ⟨rfl, rfl, rfl⟩
                · replace R := R.icmpY (pc' := 37) own_d14_32 (flt hc12).2.2.2 (by decide) rfl
                  replace R := R.iinc (pc' := 40) (l' := #[.val (.ref a), .val (.int (0 : Int32)), .val (.int (4 : Int32)), .val (.int (4 : Int32)), .val (.int x3)]) own_d14_37 rfl rfl rfl
                  replace R := R.goto (pc' := 9) own_d14_40 (by decide) rfl
                  replace R := R.iloadN (pc' := 10) (v := (4 : Int32)) own_d14_9 rfl rfl
                  replace R := R.iloadN (pc' := 11) (v := (4 : Int32)) own_d14_10 rfl rfl
                  replace R := R.icmpY (pc' := 43) own_d14_11 (flt (by decide : ¬ ((4 : Int32) < (4 : Int32)))).2.1 (by decide) rfl
                  replace R := R.iconst (pc' := 44) (z := (1 : Int32)) own_d14_43 rfl rfl
                  have hv : (1 : Int32) = (s_digs x0 x1 x2 x3) := by unfold s_digs; rw [if_neg hc2, if_neg hc3, if_neg hc5, if_neg hc6, if_neg hc8, if_neg hc9, if_neg hc11, if_neg hc12]
                  exact R.retN (Ds' := Ds) hret (by simp) ((congrArg (nar .boolean) hv).trans (s_digs_nar x0 x1 x2 x3)) own_d14_44 (by decide) (by decide) (fun _ q => q) ⟨rfl, rfl, rfl⟩
set_option maxRecDepth 65536 in
set_option maxHeartbeats 4000000 in
theorem rm_digs1 (l : Launch) (Z : State) (a0 : Array Value) (hw : ∀ d ∈ tables_1, d.before a0 Z = true) (a : Addr) (h : Heap) (n0 : Nat) (Ds : List Addr) (own_cs : CompactOn Z) (own_si : SiooOk Z) (own_u : U16ok Z) {x0 x1 x2 x3 : Int32} (T_a : IsTx Z h a [x0, x1, x2, x3]) :
    Ctr l Z (⟨"com/example/vestbook/vestbook/WholeNumbers", "isDigits", "(Ljava/lang/String;)Z"⟩ : MethodName) prog_7_method_5_code 1 (some .boolean) [] ({ frames := 6, cells := 0, slots := 0, locals := 82 } : Room) #[.ref a] h n0 Ds (fun v h' Ds' => v = some (.int (s_digs x0 x1 x2 x3)) ∧ h = h' ∧ Ds = Ds') := by
  refine ctr_of (Ls := #[.val (.ref a)]) (plainFor_of_name own_pn5) (fun m => by first | (simp [entryFrame, mkF, argsToLocals, Value.category]; done) | rfl) ?_
  intro C hl hret hnm R
  subst hl
  replace R := R.aloadN (pc' := 1) (v := (.ref a)) own_d13_0 rfl rfl rfl
  replace R := R.iconst (pc' := 2) (z := (0 : Int32)) own_d13_1 rfl rfl
  replace R := R.aloadN (pc' := 3) (v := (.ref a)) own_d13_2 rfl rfl rfl
  replace R : Rc C ({ frames := 6, cells := 0, slots := 0, locals := 82 } : Room) "com/example/vestbook/vestbook/WholeNumbers" prog_7_method_5_code 1 Z n0 0 0 6 #[.val (.ref a)] [(.int (4 : Int32)), (.int (0 : Int32)), (.ref a)] h Ds := by
    rcases T_a with q1 | q1
    · obtain ⟨_, _, _, ⟨rfl, rfl, rfl⟩, R⟩ := R.callV (pc' := 6) (y := (⟨"java/lang/String", "length", "()I"⟩ : MethodName)) (z := (⟨"java/lang/String", "length", "()I"⟩ : MethodName)) (argsL := []) (rest := [(.int (0 : Int32)), (.ref a)]) (W := 2) (own_w36 hw) (own_w37 hw) (fun s' hZ' => notFace_of_selects (args := #[]) (mvT hZ' (own_w39 hw))) (own_w39 hw) (own_w38 hw) (own_w12 hw) (own_w40 hw) (by decide) q1.1 (rm_length C.l Z a0 hw a h n0 Ds own_cs q1) rfl (lenOf own_pd16 rfl) rfl rfl own_d13_3 (by decide) (by decide) (by decide) (by decide) rfl
      replace R := R.mono (ce' := 0) (sl' := 0) (by decide) (by decide)
      replace R := R.stk (S' := [(.int (4 : Int32)), (.int (0 : Int32)), (.ref a)]) rfl
      exact R
    · obtain ⟨_, _, _, ⟨rfl, rfl, rfl⟩, R⟩ := R.callV (pc' := 6) (y := (⟨"java/lang/String", "length", "()I"⟩ : MethodName)) (z := (⟨"java/lang/String", "length", "()I"⟩ : MethodName)) (argsL := []) (rest := [(.int (0 : Int32)), (.ref a)]) (W := 2) (own_w36 hw) (own_w37 hw) (fun s' hZ' => notFace_of_selects (args := #[]) (mvT hZ' (own_w39 hw))) (own_w39 hw) (own_w38 hw) (own_w12 hw) (own_w40 hw) (by decide) q1.1 (rm_length_u C.l Z a0 hw a h n0 Ds own_cs q1) rfl (lenOf own_pd16 rfl) rfl rfl own_d13_3 (by decide) (by decide) (by decide) (by decide) rfl
      replace R := R.mono (ce' := 0) (sl' := 0) (by decide) (by decide)
      replace R := R.stk (S' := [(.int (4 : Int32)), (.int (0 : Int32)), (.ref a)]) rfl
      exact R
  obtain ⟨_, _, _, ⟨rfl, rfl, rfl⟩, R⟩ := R.callS (pc' := 9) (argsL := [(.ref a), (.int (0 : Int32)), (.int (4 : Int32))]) (rest := []) (W := 0) (own_w63 hw) (own_w64 hw) (own_w34 hw) (own_w65 hw) (by decide) (rm_digs3 C.l Z a0 hw a h n0 Ds own_cs own_si own_u T_a) rfl (lenOf own_pd17 rfl) rfl rfl own_d13_6 (by decide) (by decide) (by decide) (by decide) rfl
  replace R := R.mono (ce' := 0) (sl' := 0) (by decide) (by decide)
  replace R := R.stk (S' := [(.int (s_digs x0 x1 x2 x3))]) rfl
  exact R.retN (Ds' := Ds) hret (by simp) (show nar .boolean (s_digs x0 x1 x2 x3) = (s_digs x0 x1 x2 x3) from s_digs_nar x0 x1 x2 x3) own_d13_9 (by decide) (by decide) (fun _ q => q) ⟨rfl, rfl, rfl⟩
def s_py (cs : List Int32) : Int32 := match cs with
  | [x0, x1, x2, x3] => s_digs x0 x1 x2 x3
  | _ => 0
theorem len4 {cs : List Int32} (hl : cs.length ≤ 4000) (h : Int32.ofNat cs.length = 4) : ∃ x0 x1 x2 x3, cs = [x0, x1, x2, x3] := by
  have q := congrArg Int32.toInt h
  rw [Int32.toInt_ofNat_of_lt (by omega)] at q
  have e4 : (4 : Int32).toInt = 4 := rfl
  have e : cs.length = 4 := by omega
  match cs, e with
  | [x0, x1, x2, x3], _ => exact ⟨x0, x1, x2, x3, rfl⟩
theorem py_no {cs : List Int32} (h : ¬ Int32.ofNat cs.length = 4) : (0 : Int32) = s_py cs := by
  unfold s_py
  split
  · exact absurd rfl h
  · rfl
theorem py_yes {x0 x1 x2 x3 : Int32} (h : ¬ s_digs x0 x1 x2 x3 = 0) : (1 : Int32) = s_py [x0, x1, x2, x3] := by
  rcases s_digs_01 x0 x1 x2 x3 with e | e
  · exact absurd e h
  · exact e.symm
theorem IsTx.len {Z : State} {h : Heap} {a : Addr} {cs : List Int32} (F : IsTx Z h a cs) : cs.length ≤ 4000 := F.elim (fun f => f.2.2.2.1) (fun f => Nat.le_trans (Nat.le_of_lt f.2.2.2.1) (by decide))
set_option maxRecDepth 65536 in
set_option maxHeartbeats 4000000 in
theorem rm_py (l : Launch) (Z : State) (a0 : Array Value) (hw : ∀ d ∈ tables_1, d.before a0 Z = true) (a : Addr) (h : Heap) (n0 : Nat) (Ds : List Addr) (own_cs : CompactOn Z) (own_si : SiooOk Z) (own_u : U16ok Z) {cs : List Int32} (T_a : IsTx Z h a cs) :
    Ctr l Z (⟨"com/example/vestbook/vestbook/WholeNumbers", "isPlanYear", "(Ljava/lang/String;)Z"⟩ : MethodName) prog_7_method_2_code 1 (some .boolean) [] ({ frames := 7, cells := 0, slots := 0, locals := 94 } : Room) #[.ref a] h n0 Ds (fun v h' Ds' => v = some (.int (s_py cs)) ∧ h = h' ∧ Ds = Ds') := by
  refine ctr_of (Ls := #[.val (.ref a)]) (plainFor_of_name own_pn5) (fun m => by first | (simp [entryFrame, mkF, argsToLocals, Value.category]; done) | rfl) ?_
  intro C hl hret hnm R
  subst hl
  replace R := R.aloadN (pc' := 1) (v := (.ref a)) own_d6_0 rfl rfl rfl
  replace R : Rc C ({ frames := 7, cells := 0, slots := 0, locals := 94 } : Room) "com/example/vestbook/vestbook/WholeNumbers" prog_7_method_2_code 1 Z n0 0 0 4 #[.val (.ref a)] [(.int (Int32.ofNat (cs).length))] h Ds := by
    rcases T_a with q1 | q1
    · obtain ⟨_, _, _, ⟨rfl, rfl, rfl⟩, R⟩ := R.callV (pc' := 4) (y := (⟨"java/lang/String", "length", "()I"⟩ : MethodName)) (z := (⟨"java/lang/String", "length", "()I"⟩ : MethodName)) (argsL := []) (rest := []) (W := 0) (own_w36 hw) (own_w37 hw) (fun s' hZ' => notFace_of_selects (args := #[]) (mvT hZ' (own_w39 hw))) (own_w39 hw) (own_w38 hw) (own_w12 hw) (own_w40 hw) (by decide) q1.1 (rm_length C.l Z a0 hw a h n0 Ds own_cs q1) rfl (lenOf own_pd16 rfl) rfl rfl own_d6_1 (by decide) (by decide) (by decide) (by decide) rfl
      replace R := R.mono (ce' := 0) (sl' := 0) (by decide) (by decide)
      replace R := R.stk (S' := [(.int (Int32.ofNat cs.length))]) rfl
      exact R
    · obtain ⟨_, _, _, ⟨rfl, rfl, rfl⟩, R⟩ := R.callV (pc' := 4) (y := (⟨"java/lang/String", "length", "()I"⟩ : MethodName)) (z := (⟨"java/lang/String", "length", "()I"⟩ : MethodName)) (argsL := []) (rest := []) (W := 0) (own_w36 hw) (own_w37 hw) (fun s' hZ' => notFace_of_selects (args := #[]) (mvT hZ' (own_w39 hw))) (own_w39 hw) (own_w38 hw) (own_w12 hw) (own_w40 hw) (by decide) q1.1 (rm_length_u C.l Z a0 hw a h n0 Ds own_cs q1) rfl (lenOf own_pd16 rfl) rfl rfl own_d6_1 (by decide) (by decide) (by decide) (by decide) rfl
      replace R := R.mono (ce' := 0) (sl' := 0) (by decide) (by decide)
      replace R := R.stk (S' := [(.int (Int32.ofNat (cs).length))]) rfl
      exact R
  replace R := R.iconst (pc' := 5) (z := (4 : Int32)) own_d6_4 rfl rfl
  by_cases hc2 : (Int32.ofNat (cs).length) = (4 : Int32)
  · replace R := R.icmpN (pc' := 8) own_d6_5 (teq hc2).2 rfl
    obtain ⟨x0, x1, x2, x3, rfl⟩ := len4 T_a.len hc2
    replace R := R.aloadN (pc' := 9) (v := (.ref a)) own_d6_8 rfl rfl rfl
    obtain ⟨_, _, _, ⟨rfl, rfl, rfl⟩, R⟩ := R.callS (pc' := 12) (argsL := [(.ref a)]) (rest := []) (W := 0) (own_w60 hw) (own_w61 hw) (own_w34 hw) (own_w62 hw) (by decide) (rm_digs1 C.l Z a0 hw a h n0 Ds own_cs own_si own_u T_a) rfl (lenOf own_pd18 rfl) rfl rfl own_d6_9 (by decide) (by decide) (by decide) (by decide) rfl
    replace R := R.mono (ce' := 0) (sl' := 0) (by decide) (by decide)
    replace R := R.stk (S' := [(.int (s_digs x0 x1 x2 x3))]) rfl
    by_cases hc3 : (s_digs x0 x1 x2 x3) = (0 : Int32)
    · replace R := R.ifY (pc' := 19) own_d6_12 (teq hc3).1 (by decide) rfl
      replace R := R.iconst (pc' := 20) (z := (0 : Int32)) own_d6_19 rfl rfl
      have hv : (0 : Int32) = s_py [x0, x1, x2, x3] := (hc3).symm
      exact R.retN (Ds' := Ds) hret (by simp) ((show nar .boolean (0 : Int32) = (0 : Int32) from rfl).trans hv) own_d6_20 (by decide) (by decide) (fun _ q => q) ⟨rfl, rfl, rfl⟩
    · replace R := R.ifN (pc' := 15) own_d6_12 (feq hc3).1 rfl
      replace R := R.iconst (pc' := 16) (z := (1 : Int32)) own_d6_15 rfl rfl
      replace R := R.goto (pc' := 20) own_d6_16 (by decide) rfl
      have hv : (1 : Int32) = s_py [x0, x1, x2, x3] := py_yes hc3
      exact R.retN (Ds' := Ds) hret (by simp) ((show nar .boolean (1 : Int32) = (1 : Int32) from rfl).trans hv) own_d6_20 (by decide) (by decide) (fun _ q => q) ⟨rfl, rfl, rfl⟩
  · replace R := R.icmpY (pc' := 19) own_d6_5 (feq hc2).2 (by decide) rfl
    replace R := R.iconst (pc' := 20) (z := (0 : Int32)) own_d6_19 rfl rfl
    have hv : (0 : Int32) = s_py cs := py_no hc2
    exact R.retN (Ds' := Ds) hret (by simp) ((show nar .boolean (0 : Int32) = (0 : Int32) from rfl).trans hv) own_d6_20 (by decide) (by decide) (fun _ q => q) ⟨rfl, rfl, rfl⟩
def s_exp (ln : Int32) (c0 : Int32) (c1 : Int32) (c2 : Int32) (c3 : Int32) : Int32 := if ln = (4 : Int32) then (if (s_dig c0) = (0 : Int32) then (0 : Int32) else (if (s_dig c1) = (0 : Int32) then (0 : Int32) else (if (s_dig c2) = (0 : Int32) then (0 : Int32) else (if (s_dig c3) = (0 : Int32) then (0 : Int32) else (1 : Int32))))) else (0 : Int32)
theorem own_dig (c : Int32) : (s_dig c = 0 ∧ c < 48) ∨ (s_dig c = 0 ∧ ¬ c < 48 ∧ (57 : Int32) < c) ∨ (s_dig c = 1 ∧ ¬ c < 48 ∧ ¬ (57 : Int32) < c) := by
  unfold s_dig
  by_cases h : c < 48
  · exact Or.inl ⟨if_pos h, h⟩
  · by_cases h' : (57 : Int32) < c
    · exact Or.inr (Or.inl ⟨by rw [if_neg h, if_pos h'], h, h'⟩)
    · exact Or.inr (Or.inr ⟨by rw [if_neg h, if_neg h'], h, h'⟩)
theorem digs_eq (c0 c1 c2 c3 : Int32) : s_digs c0 c1 c2 c3 = s_exp 4 c0 c1 c2 c3 := by
  rcases own_dig c0 with ⟨a1, a2⟩ | ⟨a1, a2, a3⟩ | ⟨a1, a2, a3⟩
  · simp [s_digs, s_exp, *]
  · simp [s_digs, s_exp, *]
  · rcases own_dig c1 with ⟨b1, b2⟩ | ⟨b1, b2, b3⟩ | ⟨b1, b2, b3⟩
    · simp [s_digs, s_exp, *]
    · simp [s_digs, s_exp, *]
    · rcases own_dig c2 with ⟨d1, d2⟩ | ⟨d1, d2, d3⟩ | ⟨d1, d2, d3⟩
      · simp [s_digs, s_exp, *]
      · simp [s_digs, s_exp, *]
      · rcases own_dig c3 with ⟨f1, f2⟩ | ⟨f1, f2, f3⟩ | ⟨f1, f2, f3⟩
        · simp [s_digs, s_exp, *]
        · simp [s_digs, s_exp, *]
        · simp [s_digs, s_exp, *]
theorem law_eq {ln c0 c1 c2 c3 c4 : Int32} : s_py (s_make ln c0 c1 c2 c3 c4) = s_exp ln c0 c1 c2 c3 := by
  by_cases h4 : ln = 4
  · subst h4
    have e : s_make 4 c0 c1 c2 c3 c4 = [c0, c1, c2, c3] := by simp [s_make]
    rw [e]
    exact digs_eq c0 c1 c2 c3
  · have e : s_exp ln c0 c1 c2 c3 = 0 := by unfold s_exp; rw [if_neg h4]
    rw [e]
    unfold s_make
    rw [if_neg h4]
    (repeat' split) <;> rfl
set_option maxRecDepth 65536 in
set_option maxHeartbeats 40000000 in
theorem rm_law (l : Launch) (Z : State) (a0 : Array Value) (hw : ∀ d ∈ tables_1, d.before a0 Z = true) (i0 : Int32) (i1 : Int32) (i2 : Int32) (i3 : Int32) (i4 : Int32) (i5 : Int32) (h : Heap) (n0 : Nat) (Ds : List Addr)  (own_cs : CompactOn Z) (own_si : SiooOk Z) (own_u : U16ok Z) :
    Ctr l Z x code maxLocals ret tables_1 room_1 #[(.int i0), (.int i1), (.int i2), (.int i3), (.int i4), (.int i5)] h n0 Ds (fun v h' Ds' => v = some (.int 1)) := by
  refine ctr_of (Ls := #[.val (.int i0), .val (.int i1), .val (.int i2), .val (.int i3), .val (.int i4), .val (.int i5), .unset, .unset, .unset, .unset, .unset, .unset, .unset, .unset]) (plainFor_of_name own_pn4) (fun m => by first | (simp [entryFrame, mkF, argsToLocals, Value.category, maxLocals]; done) | rfl) ?_
  intro C hl hret hnm R
  subst hl
  replace R := R.iloadN (pc' := 1) (v := i0) at_0 rfl rfl
  replace R := R.ldcI (pc' := 3) (own_w0 hw) at_1 rfl
  replace R := R.iand (pc' := 4) at_3 rfl
  replace R := R.bipush (pc' := 6) (z := (6 : Int32)) at_4 rfl rfl
  replace R := R.irem (pc' := 7) at_6 (by decide) rfl
  replace R := R.istore (pc' := 9) (l' := #[.val (.int i0), .val (.int i1), .val (.int i2), .val (.int i3), .val (.int i4), .val (.int i5), .val (.int ((i0 &&& (2147483647 : Int32)) % (6 : Int32))), .unset, .unset, .unset, .unset, .unset, .unset, .unset]) at_7 rfl rfl
  replace R := R.iloadN (pc' := 10) (v := i1) at_9 rfl rfl
  obtain ⟨_, _, _, ⟨rfl, rfl, rfl⟩, R⟩ := R.callS (pc' := 13) (argsL := [(.int i1)]) (rest := []) (W := 0) (own_w1 hw) (own_w2 hw) (own_w3 hw) (own_w4 hw) (by decide) (rm_draw C.l Z a0 hw i1 h n0 Ds) rfl (lenOf own_pd15 rfl) rfl rfl at_10 (by decide) (by decide) (by decide) (by decide) rfl
  replace R := R.mono (ce' := 0) (sl' := 0) (by decide) (by decide)
  replace R := R.stk (S' := [(.int (s_draw i1))]) rfl
  replace R := R.istore (pc' := 15) (l' := #[.val (.int i0), .val (.int i1), .val (.int i2), .val (.int i3), .val (.int i4), .val (.int i5), .val (.int ((i0 &&& (2147483647 : Int32)) % (6 : Int32))), .val (.int (s_draw i1)), .unset, .unset, .unset, .unset, .unset, .unset]) at_13 rfl rfl
  replace R := R.iloadN (pc' := 16) (v := i2) at_15 rfl rfl
  obtain ⟨_, _, _, ⟨rfl, rfl, rfl⟩, R⟩ := R.callS (pc' := 19) (argsL := [(.int i2)]) (rest := []) (W := 0) (own_w1 hw) (own_w2 hw) (own_w3 hw) (own_w4 hw) (by decide) (rm_draw C.l Z a0 hw i2 h n0 Ds) rfl (lenOf own_pd15 rfl) rfl rfl at_16 (by decide) (by decide) (by decide) (by decide) rfl
  replace R := R.mono (ce' := 0) (sl' := 0) (by decide) (by decide)
  replace R := R.stk (S' := [(.int (s_draw i2))]) rfl
  replace R := R.istore (pc' := 21) (l' := #[.val (.int i0), .val (.int i1), .val (.int i2), .val (.int i3), .val (.int i4), .val (.int i5), .val (.int ((i0 &&& (2147483647 : Int32)) % (6 : Int32))), .val (.int (s_draw i1)), .val (.int (s_draw i2)), .unset, .unset, .unset, .unset, .unset]) at_19 rfl rfl
  replace R := R.iloadN (pc' := 22) (v := i3) at_21 rfl rfl
  obtain ⟨_, _, _, ⟨rfl, rfl, rfl⟩, R⟩ := R.callS (pc' := 25) (argsL := [(.int i3)]) (rest := []) (W := 0) (own_w1 hw) (own_w2 hw) (own_w3 hw) (own_w4 hw) (by decide) (rm_draw C.l Z a0 hw i3 h n0 Ds) rfl (lenOf own_pd15 rfl) rfl rfl at_22 (by decide) (by decide) (by decide) (by decide) rfl
  replace R := R.mono (ce' := 0) (sl' := 0) (by decide) (by decide)
  replace R := R.stk (S' := [(.int (s_draw i3))]) rfl
  replace R := R.istore (pc' := 27) (l' := #[.val (.int i0), .val (.int i1), .val (.int i2), .val (.int i3), .val (.int i4), .val (.int i5), .val (.int ((i0 &&& (2147483647 : Int32)) % (6 : Int32))), .val (.int (s_draw i1)), .val (.int (s_draw i2)), .val (.int (s_draw i3)), .unset, .unset, .unset, .unset]) at_25 rfl rfl
  replace R := R.iload (pc' := 29) (v := i4) at_27 rfl rfl
  obtain ⟨_, _, _, ⟨rfl, rfl, rfl⟩, R⟩ := R.callS (pc' := 32) (argsL := [(.int i4)]) (rest := []) (W := 0) (own_w1 hw) (own_w2 hw) (own_w3 hw) (own_w4 hw) (by decide) (rm_draw C.l Z a0 hw i4 h n0 Ds) rfl (lenOf own_pd15 rfl) rfl rfl at_29 (by decide) (by decide) (by decide) (by decide) rfl
  replace R := R.mono (ce' := 0) (sl' := 0) (by decide) (by decide)
  replace R := R.stk (S' := [(.int (s_draw i4))]) rfl
  replace R := R.istore (pc' := 34) (l' := #[.val (.int i0), .val (.int i1), .val (.int i2), .val (.int i3), .val (.int i4), .val (.int i5), .val (.int ((i0 &&& (2147483647 : Int32)) % (6 : Int32))), .val (.int (s_draw i1)), .val (.int (s_draw i2)), .val (.int (s_draw i3)), .val (.int (s_draw i4)), .unset, .unset, .unset]) at_32 rfl rfl
  replace R := R.iload (pc' := 36) (v := i5) at_34 rfl rfl
  obtain ⟨_, _, _, ⟨rfl, rfl, rfl⟩, R⟩ := R.callS (pc' := 39) (argsL := [(.int i5)]) (rest := []) (W := 0) (own_w1 hw) (own_w2 hw) (own_w3 hw) (own_w4 hw) (by decide) (rm_draw C.l Z a0 hw i5 h n0 Ds) rfl (lenOf own_pd15 rfl) rfl rfl at_36 (by decide) (by decide) (by decide) (by decide) rfl
  replace R := R.mono (ce' := 0) (sl' := 0) (by decide) (by decide)
  replace R := R.stk (S' := [(.int (s_draw i5))]) rfl
  replace R := R.istore (pc' := 41) (l' := #[.val (.int i0), .val (.int i1), .val (.int i2), .val (.int i3), .val (.int i4), .val (.int i5), .val (.int ((i0 &&& (2147483647 : Int32)) % (6 : Int32))), .val (.int (s_draw i1)), .val (.int (s_draw i2)), .val (.int (s_draw i3)), .val (.int (s_draw i4)), .val (.int (s_draw i5)), .unset, .unset]) at_39 rfl rfl
  obtain ⟨ln, e_ln⟩ : ∃ z, z = ((i0 &&& (2147483647 : Int32)) % (6 : Int32)) := ⟨_, rfl⟩
  rw [← e_ln] at R
  obtain ⟨c0, e_c0⟩ : ∃ z, z = (s_draw i1) := ⟨_, rfl⟩
  rw [← e_c0] at R
  have hb1 : ¬ c0 < 0 ∧ ¬ (65535 : Int32) < c0 := by rw [e_c0]; exact s_draw_b i1
  obtain ⟨c1, e_c1⟩ : ∃ z, z = (s_draw i2) := ⟨_, rfl⟩
  rw [← e_c1] at R
  have hb2 : ¬ c1 < 0 ∧ ¬ (65535 : Int32) < c1 := by rw [e_c1]; exact s_draw_b i2
  obtain ⟨c2, e_c2⟩ : ∃ z, z = (s_draw i3) := ⟨_, rfl⟩
  rw [← e_c2] at R
  have hb3 : ¬ c2 < 0 ∧ ¬ (65535 : Int32) < c2 := by rw [e_c2]; exact s_draw_b i3
  obtain ⟨c3, e_c3⟩ : ∃ z, z = (s_draw i4) := ⟨_, rfl⟩
  rw [← e_c3] at R
  have hb4 : ¬ c3 < 0 ∧ ¬ (65535 : Int32) < c3 := by rw [e_c3]; exact s_draw_b i4
  obtain ⟨c4, e_c4⟩ : ∃ z, z = (s_draw i5) := ⟨_, rfl⟩
  rw [← e_c4] at R
  have hb5 : ¬ c4 < 0 ∧ ¬ (65535 : Int32) < c4 := by rw [e_c4]; exact s_draw_b i5
  replace R := R.iload (pc' := 43) (v := ln) at_41 rfl rfl
  replace R := R.iload (pc' := 45) (v := c0) at_43 rfl rfl
  replace R := R.iload (pc' := 47) (v := c1) at_45 rfl rfl
  replace R := R.iload (pc' := 49) (v := c2) at_47 rfl rfl
  replace R := R.iload (pc' := 51) (v := c3) at_49 rfl rfl
  replace R := R.iload (pc' := 53) (v := c4) at_51 rfl rfl
  obtain ⟨_, h1, _, ⟨r1, rfl, T1, K1, rfl⟩, R⟩ := R.callS (pc' := 56) (argsL := [(.int ln), (.int c0), (.int c1), (.int c2), (.int c3), (.int c4)]) (rest := []) (W := 0) (own_w7 hw) (own_w8 hw) (own_w3 hw) (own_w9 hw) (by decide) (rm_make C.l Z a0 hw ln c0 c1 c2 c3 c4 h n0 Ds own_cs own_si own_u hb1 hb2 hb3 hb4 hb5) rfl (lenOf own_pd19 rfl) rfl rfl at_53 (by decide) (by decide) (by decide) (by decide) rfl
  replace R := R.mono (ce' := 6) (sl' := 24) (by decide) (by decide)
  replace R := R.stk (S' := [(.ref r1)]) rfl
  replace R := R.astore (pc' := 58) (l' := #[.val (.int i0), .val (.int i1), .val (.int i2), .val (.int i3), .val (.int i4), .val (.int i5), .val (.int ln), .val (.int c0), .val (.int c1), .val (.int c2), .val (.int c3), .val (.int c4), .val (.ref r1), .unset]) at_56 rfl rfl rfl
  replace R : Rc C room_1 "com/example/vestbook/vestbook/WholeNumbersIsPlanYearPinLaw" code maxLocals Z n0 6 24 101 #[.val (.int i0), .val (.int i1), .val (.int i2), .val (.int i3), .val (.int i4), .val (.int i5), .val (.int ln), .val (.int c0), .val (.int c1), .val (.int c2), .val (.int c3), .val (.int c4), .val (.ref r1), .unset] [(.int (s_exp ln c0 c1 c2 c3))] h1 Ds := by
    replace R := R.iload (pc' := 60) (v := ln) at_58 rfl rfl
    replace R := R.iconst (pc' := 61) (z := (4 : Int32)) at_60 rfl rfl
    by_cases hc2 : ln = (4 : Int32)
    · replace R := R.icmpN (pc' := 64) at_61 (teq hc2).2 rfl
      replace R := R.iload (pc' := 66) (v := c0) at_64 rfl rfl
      obtain ⟨_, _, _, ⟨rfl, rfl, rfl⟩, R⟩ := R.callS (pc' := 69) (argsL := [(.int c0)]) (rest := []) (W := 0) (own_w57 hw) (own_w58 hw) (own_w3 hw) (own_w59 hw) (by decide) (rm_dig C.l Z a0 hw c0 h1 n0 Ds) rfl (lenOf own_pd20 rfl) rfl rfl at_66 (by decide) (by decide) (by decide) (by decide) rfl
      replace R := R.mono (ce' := 6) (sl' := 24) (by decide) (by decide)
      replace R := R.stk (S' := [(.int (s_dig c0))]) rfl
      by_cases hc3 : (s_dig c0) = (0 : Int32)
      · replace R := R.ifY (pc' := 100) at_69 (teq hc3).1 (by decide) rfl
        replace R := R.iconst (pc' := 101) (z := (0 : Int32)) at_100 rfl rfl
        have hv : (0 : Int32) = (s_exp ln c0 c1 c2 c3) := by unfold s_exp; rw [if_pos hc2, if_pos hc3]
        exact (R.mono (ce' := 6) (sl' := 24) (by decide) (by decide)).stk (congrArg (fun z => (Value.int z :: [] : List Value)) hv)
      · replace R := R.ifN (pc' := 72) at_69 (feq hc3).1 rfl
        replace R := R.iload (pc' := 74) (v := c1) at_72 rfl rfl
        obtain ⟨_, _, _, ⟨rfl, rfl, rfl⟩, R⟩ := R.callS (pc' := 77) (argsL := [(.int c1)]) (rest := []) (W := 0) (own_w57 hw) (own_w58 hw) (own_w3 hw) (own_w59 hw) (by decide) (rm_dig C.l Z a0 hw c1 h1 n0 Ds) rfl (lenOf own_pd20 rfl) rfl rfl at_74 (by decide) (by decide) (by decide) (by decide) rfl
        replace R := R.mono (ce' := 6) (sl' := 24) (by decide) (by decide)
        replace R := R.stk (S' := [(.int (s_dig c1))]) rfl
        by_cases hc4 : (s_dig c1) = (0 : Int32)
        · replace R := R.ifY (pc' := 100) at_77 (teq hc4).1 (by decide) rfl
          replace R := R.iconst (pc' := 101) (z := (0 : Int32)) at_100 rfl rfl
          have hv : (0 : Int32) = (s_exp ln c0 c1 c2 c3) := by unfold s_exp; rw [if_pos hc2, if_neg hc3, if_pos hc4]
          exact (R.mono (ce' := 6) (sl' := 24) (by decide) (by decide)).stk (congrArg (fun z => (Value.int z :: [] : List Value)) hv)
        · replace R := R.ifN (pc' := 80) at_77 (feq hc4).1 rfl
          replace R := R.iload (pc' := 82) (v := c2) at_80 rfl rfl
          obtain ⟨_, _, _, ⟨rfl, rfl, rfl⟩, R⟩ := R.callS (pc' := 85) (argsL := [(.int c2)]) (rest := []) (W := 0) (own_w57 hw) (own_w58 hw) (own_w3 hw) (own_w59 hw) (by decide) (rm_dig C.l Z a0 hw c2 h1 n0 Ds) rfl (lenOf own_pd20 rfl) rfl rfl at_82 (by decide) (by decide) (by decide) (by decide) rfl
          replace R := R.mono (ce' := 6) (sl' := 24) (by decide) (by decide)
          replace R := R.stk (S' := [(.int (s_dig c2))]) rfl
          by_cases hc5 : (s_dig c2) = (0 : Int32)
          · replace R := R.ifY (pc' := 100) at_85 (teq hc5).1 (by decide) rfl
            replace R := R.iconst (pc' := 101) (z := (0 : Int32)) at_100 rfl rfl
            have hv : (0 : Int32) = (s_exp ln c0 c1 c2 c3) := by unfold s_exp; rw [if_pos hc2, if_neg hc3, if_neg hc4, if_pos hc5]
            exact (R.mono (ce' := 6) (sl' := 24) (by decide) (by decide)).stk (congrArg (fun z => (Value.int z :: [] : List Value)) hv)
          · replace R := R.ifN (pc' := 88) at_85 (feq hc5).1 rfl
            replace R := R.iload (pc' := 90) (v := c3) at_88 rfl rfl
            obtain ⟨_, _, _, ⟨rfl, rfl, rfl⟩, R⟩ := R.callS (pc' := 93) (argsL := [(.int c3)]) (rest := []) (W := 0) (own_w57 hw) (own_w58 hw) (own_w3 hw) (own_w59 hw) (by decide) (rm_dig C.l Z a0 hw c3 h1 n0 Ds) rfl (lenOf own_pd20 rfl) rfl rfl at_90 (by decide) (by decide) (by decide) (by decide) rfl
            replace R := R.mono (ce' := 6) (sl' := 24) (by decide) (by decide)
            replace R := R.stk (S' := [(.int (s_dig c3))]) rfl
            by_cases hc6 : (s_dig c3) = (0 : Int32)
            · replace R := R.ifY (pc' := 100) at_93 (teq hc6).1 (by decide) rfl
              replace R := R.iconst (pc' := 101) (z := (0 : Int32)) at_100 rfl rfl
              have hv : (0 : Int32) = (s_exp ln c0 c1 c2 c3) := by unfold s_exp; rw [if_pos hc2, if_neg hc3, if_neg hc4, if_neg hc5, if_pos hc6]
              exact (R.mono (ce' := 6) (sl' := 24) (by decide) (by decide)).stk (congrArg (fun z => (Value.int z :: [] : List Value)) hv)
            · replace R := R.ifN (pc' := 96) at_93 (feq hc6).1 rfl
              replace R := R.iconst (pc' := 97) (z := (1 : Int32)) at_96 rfl rfl
              replace R := R.goto (pc' := 101) at_97 (by decide) rfl
              have hv : (1 : Int32) = (s_exp ln c0 c1 c2 c3) := by unfold s_exp; rw [if_pos hc2, if_neg hc3, if_neg hc4, if_neg hc5, if_neg hc6]
              exact (R.mono (ce' := 6) (sl' := 24) (by decide) (by decide)).stk (congrArg (fun z => (Value.int z :: [] : List Value)) hv)
    · replace R := R.icmpY (pc' := 100) at_61 (feq hc2).2 (by decide) rfl
      replace R := R.iconst (pc' := 101) (z := (0 : Int32)) at_100 rfl rfl
      have hv : (0 : Int32) = (s_exp ln c0 c1 c2 c3) := by unfold s_exp; rw [if_neg hc2]
      exact (R.mono (ce' := 6) (sl' := 24) (by decide) (by decide)).stk (congrArg (fun z => (Value.int z :: [] : List Value)) hv)
  replace R := R.istore (pc' := 103) (l' := #[.val (.int i0), .val (.int i1), .val (.int i2), .val (.int i3), .val (.int i4), .val (.int i5), .val (.int ln), .val (.int c0), .val (.int c1), .val (.int c2), .val (.int c3), .val (.int c4), .val (.ref r1), .val (.int (s_exp ln c0 c1 c2 c3))]) at_101 rfl rfl
  replace R := R.aload (pc' := 105) (v := (.ref r1)) at_103 rfl rfl rfl
  obtain ⟨_, _, _, ⟨rfl, rfl, rfl⟩, R⟩ := R.callS (pc' := 108) (argsL := [(.ref r1)]) (rest := []) (W := 0) (own_w32 hw) (own_w33 hw) (own_w34 hw) (own_w35 hw) (by decide) (rm_py C.l Z a0 hw r1 h1 n0 Ds own_cs own_si own_u T1) rfl (lenOf own_pd18 rfl) rfl rfl at_105 (by decide) (by decide) (by decide) (by decide) rfl
  replace R := R.mono (ce' := 6) (sl' := 24) (by decide) (by decide)
  replace R := R.stk (S' := [(.int (s_py (s_make ln c0 c1 c2 c3 c4)))]) rfl
  replace R := R.iload (pc' := 110) (v := (s_exp ln c0 c1 c2 c3)) at_108 rfl rfl
  replace R := R.icmpN (pc' := 113) at_110 (teq law_eq).2 rfl
  replace R := R.iconst (pc' := 114) (z := (1 : Int32)) at_113 rfl rfl
  replace R := R.goto (pc' := 118) at_114 (by decide) rfl
  exact R.retN (Ds' := []) hret (by simp) (show nar .boolean 1 = 1 from rfl) at_118 (by decide) (by decide) (fun _ q => nomatch q) rfl
set_option maxRecDepth 65536 in
set_option maxHeartbeats 40000000 in
theorem comes_1 {Post : Tables → Env → Array Value → State → Outcome → State → Prop} (hpost : ∀ tb e args s v u, (limb_1_1.after args s (.returned v) u = true ∧ limb_1_2.after args s (.returned v) u = true ∧ True) → ReturnedEndW s (.returned v) u (Jvm.fieldLocs frame_1_writes args s ++ Jvm.arrayLocs frame_1_arrays args s ++ Jvm.staticLocs frame_1_statics s) 24 1152 → Post tb e args s (.returned v) u) :
    ArmFor flags0 classFile x code maxLocals ret World_1 tables_1 room_1 Calls_1 rest_1 Pre_1 Post := by
  intro l hfl _ _ p e ha hc hk s m args below hf hA hF happ hP
  obtain ⟨hcalls, hrest, hpre⟩ := hP
  obtain ⟨-, -, -, hnamed, -, -, -, hat⟩ := (Spec.applies_iff hf).mp happ
  obtain ⟨hg, hn⟩ := and_e (Cond.before_iff.mp (show (Jvm.Cond.and given_1 narrow_1).before args s = true from hpre))
  obtain ⟨g1, g2⟩ := and_e hg
  obtain ⟨g3, g4⟩ := and_e g2
  obtain ⟨g5, g6⟩ := and_e g4
  obtain ⟨g7, g8⟩ := and_e g6
  obtain ⟨g9, g10⟩ := and_e g8
  obtain ⟨g11, g12⟩ := and_e g10
  obtain ⟨w0, w1, w2, w3, w4, w5, rfl⟩ : ∃ w0 w1 w2 w3 w4 w5 : Value, args = #[w0, w1, w2, w3, w4, w5] := by
    have hs : args.size = 6 := by simpa [Cond.value, given_1] using g1
    obtain ⟨L⟩ := args
    match L, hs with
    | [w0, w1, w2, w3, w4, w5], _ => exact ⟨w0, w1, w2, w3, w4, w5, rfl⟩
  have hw := fun d (hd : d ∈ tables_1) => atoms_spec (ws := Jvm.Cond.code x code maxLocals ret :: tables_1) hat d (List.mem_cons_of_mem _ hd)
  have hfit : Fit s := fun {y c} hc i hi => by
    obtain ⟨ha, rfl⟩ := Array.getElem?_eq_some_iff.mp hc
    have q := List.all_eq_true.mp ((Array.all_eq_true_iff_forall_mem.mp hF) _ (Array.getElem_mem ha)) i (List.mem_range.mpr hi)
    simpa [Array.getElem?_eq_getElem hi] using q
  obtain ⟨hsets, hown0⟩ := atoms_of _ (rest_1_c_eq ▸ (show rest_1_c.before _ s = true from hrest))
  have hr0 := Cond.before_iff.mp hown0
  have own_cs : CompactOn s := by
    have n3 := not_v (Cond.before_iff.mp (hsets _ (List.mem_of_getElem? (i := 2) rfl)))
    obtain ⟨i7, e6⟩ := is_v (Cond.before_iff.mp (hsets _ (List.mem_of_getElem? (i := 1) rfl)))
    refine ⟨i7, Sta.start e6 (Or.inl (hsets _ (List.mem_of_getElem? (i := 0) rfl))), fun e0 => ?_⟩
    subst e0
    have q := eq_i e6 (Term.int_eval (0 : Int32)) rfl
    rw [q] at n3; cases n3
  have own_si : SiooOk s := by
    obtain ⟨v9, e10, r11⟩ := isR_v (Cond.before_iff.mp (hsets _ (List.mem_of_getElem? (i := 8) rfl)))
    exact ⟨v9, Sta.start e10 (Or.inl (hsets _ (List.mem_of_getElem? (i := 7) rfl))), r11⟩
  obtain ⟨i0, ei0⟩ := is_v g3
  obtain rfl : w0 = (.int i0) := Option.some.inj ei0
  obtain ⟨i1, ei1⟩ := is_v g5
  obtain rfl : w1 = (.int i1) := Option.some.inj ei1
  obtain ⟨i2, ei2⟩ := is_v g7
  obtain rfl : w2 = (.int i2) := Option.some.inj ei2
  obtain ⟨i3, ei3⟩ := is_v g9
  obtain rfl : w3 = (.int i3) := Option.some.inj ei3
  obtain ⟨i4, ei4⟩ := is_v g11
  obtain rfl : w4 = (.int i4) := Option.some.inj ei4
  obtain ⟨i5, ei5⟩ := is_v g12
  obtain rfl : w5 = (.int i5) := Option.some.inj ei5
  have hcw : Jvm.Lit.compactW.before (#[(.int i0), (.int i1), (.int i2), (.int i3), (.int i4), (.int i5)] : Array Value) s = true := (hsets _ (List.mem_of_getElem? (i := 2) rfl))
  have wS : ∀ d ∈ Bundle.stringAtoms, d.before _ s = true := fun d hd => hw d ((by decide +kernel : ∀ d ∈ Bundle.stringAtoms, d ∈ tables_1) d hd)
  have hlk : Lk s := by
    intro own idx hm
    simp only [CL, consts_1, List.mem_cons, List.not_mem_nil, or_false, Prod.mk.injEq] at hm
    rcases hm with ⟨rfl, rfl⟩
    · exact ⟨_, _, (own_w24 hw), by decide +kernel, wS⟩
  have hlit : ∀ (own : String) (idx : Nat), (own, idx) ∈ CL → ConstHeldL s own idx := by
    intro own idx hm
    have hh : Jvm.Lit.constHeld s own idx := hcalls.1 (own, idx) hm
    have wi := wS _ (List.mem_of_getElem? (i := 1) rfl)
    have wa := wS _ (List.mem_of_getElem? (i := 2) rfl)
    simp only [CL, consts_1, List.mem_cons, List.not_mem_nil, or_false, Prod.mk.injEq] at hm
    rcases hm with ⟨rfl, rfl⟩
    · exact heldStart hh (own_w24 hw) (by decide +kernel) hcw wa wi
  have own_u : U16ok s := ⟨Sta.start (g_int (Cond.before_iff.mp (hsets _ (List.mem_of_getElem? (i := 12) rfl)))) (Or.inl (hsets _ (List.mem_of_getElem? (i := 11) rfl))), Sta.start (g_int (Cond.before_iff.mp (hsets _ (List.mem_of_getElem? (i := 15) rfl)))) (Or.inl (hsets _ (List.mem_of_getElem? (i := 14) rfl))), Sta.start (g_int (Cond.before_iff.mp (hsets _ (List.mem_of_getElem? (i := 18) rfl)))) (Or.inl (hsets _ (List.mem_of_getElem? (i := 17) rfl)))⟩
  have J0 : JJ s s.heap.size s.vm s.heap [] := ⟨Old.start s, fun e0 => (nomatch e0), fun x hx => (nomatch hx), hlk, fun own idx hm c k cf i units a q1 q2 q3 q4 q5 q6 => own_sx0 (hlit own idx hm c k cf i units a q1 q2 q3 q4 q5 q6)⟩
  obtain ⟨n, o, h1, h2, h3, v, L, Ds', rfl, hQ, hJ, hFr, hE⟩ := rm_law l s _ hw i0 i1 i2 i3 i4 i5 s.heap s.heap.size [] own_cs own_si own_u p e ha hc hk s m _ below hf ((Spec.applies_iff_loose hf).mp happ).1 ⟨rfl, State.Warmed39.refl s, rfl, J0⟩ trivial
  subst hQ
  refine ⟨n, _, h1, h2, h3, hpost _ _ _ _ _ _ ⟨Cond.after_iff.mpr rfl, Cond.after_iff.mpr (eq_i res_at (Term.int_eval (1)) rfl), trivial⟩ ⟨hE.1, hE.2.1, hE.2.2.1, (hE.2.2.2.sift fun y hy => Or.inr (hFr y hy)).mono (by decide) (by decide)⟩⟩
theorem main_1_1 : Claimed_1_1 := comes_1 fun _ _ _ _ _ _ h hF => ⟨h.1, hF⟩
theorem main_1_2 : Claimed_1_2 := comes_1 fun _ _ _ _ _ _ h hF => ⟨h.2.1, hF⟩
end Jvm.Pilot.@@N@@
namespace Jvm.Pilot.@@N@@
open Jvm Jvm.ClassFile Sem Op Lib Jvm.Free Jvm.Stand Jvm.Pilot.@@N@@.Jvm.D
/-! MADE BY PROGRAM (witnessworld.py) out of the Statement's table words and the real class files: 20 classes; the members and pool entries that the words name. The judged class is class 1, her method 4. -/
namespace start1
open Jvm.ClassFile
def u (s : String) : CpInfo := .utf8 (stringToUtf16 s)
/-- a pool by its gaps: so many unusable entries, then the entry; so many at the end -/
def gap : Nat → List CpInfo → List CpInfo
  | 0, r => r
  | n + 1, r => .unusable :: gap n r
def poolList (es : List (Nat × CpInfo)) (last : Nat) : List CpInfo := es.foldr (fun e r => gap e.1 (e.2 :: r)) (gap last [])
def pool (es : List (Nat × CpInfo)) (last : Nat) : Array CpInfo := ⟨poolList es last⟩
def fileOf (pool : Array CpInfo) (this : Nat) (attrs : Array Attribute := #[]) (ms : Array MethodInfo := #[]) (fl : Nat := 33) (sup : Nat := 0) (ifs : Array Nat := #[]) (fds : Array FieldInfo := #[]) : ClassFile where
  minorVersion := 0
  majorVersion := 65
  constantPool := pool
  accessFlags := fl
  thisClass := this
  superClass := sup
  interfaces := ifs
  fields := fds
  methods := ms
  attributes := attrs
def plain (name : String) (sup : Option ClassId) : Class where
  name := name
  kind := .ordinary
  loader := none
  accessFlags := 33
  super := sup
  interfaces := #[]
  cf := none
  fields := #[]
  methods := #[]
  instanceTypes := #[]
  staticTypes := #[]
  resolved := #[]
  callSites := []
  init := .initialized
  statics := none
  mirror := none

def pool0 : Array CpInfo := pool [(5, u "<init>"), (0, u "()V"), (1, .class_ 10), (1, u "java/lang/Object")] 113

def k0c0 : Code := { maxStack := 0, maxLocals := 1, code := object_method_1_code, exceptionTable := #[], attributes := #[] }
def k0m0 : Method := { name := "<init>", desc := "()V", sig := { parameters := [], returnType := none }, accessFlags := 1, code := some k0c0 }
/-- java/lang/Object -/
def k0 : Class := { plain "java/lang/Object" none with
  accessFlags := 33
  interfaces := #[]
  cf := some (fileOf pool0 8 #[] #[{ accessFlags := 1, nameIndex := 5, descriptorIndex := 6, attributes := #[] }] 33 0 #[] #[])
  fields := #[]
  methods := #[k0m0]
  instanceTypes := #[]
  staticTypes := #[]
  resolved := Array.replicate 124 none
  statics := none }

def pool1 : Array CpInfo := pool [(2, .class_ 4), (1, u "java/lang/Object"), (0, u "<init>"), (0, u "()V"), (0, .integer 65536), (0, .integer 65535), (0, .class_ 10), (0, u "java/lang/String"), (0, .methodref 9 12), (0, .nameAndType 5 13), (0, u "([C)V"), (0, .integer 2147483647), (0, .methodref 16 17), (0, .class_ 18), (0, .nameAndType 19 20), (0, u "com/example/vestbook/vestbook/WholeNumbersIsPlanYearPinLaw"), (0, u "draw"), (0, u "(I)C"), (0, .methodref 16 22), (0, .nameAndType 23 24), (0, u "make"), (0, u "(ICCCCC)Ljava/lang/String;"), (0, .methodref 16 26), (0, .nameAndType 27 28), (0, u "dig"), (0, u "(C)Z"), (0, .methodref 30 31), (0, .class_ 32), (0, .nameAndType 33 34), (0, u "com/example/vestbook/vestbook/WholeNumbers"), (0, u "isPlanYear"), (0, u "(Ljava/lang/String;)Z"), (3, u "law"), (0, u "(IIIIII)Z")] 2

def k1m0 : Method := { name := "<init>", desc := "()V", sig := { parameters := [], returnType := none }, accessFlags := 2, code := none }
def k1c1 : Code := { maxStack := 3, maxLocals := 1, code := method_2_code, exceptionTable := #[], attributes := #[] }
def k1m1 : Method := { name := "draw", desc := "(I)C", sig := { parameters := [.int], returnType := some .char }, accessFlags := 10, code := some k1c1 }
def k1c2 : Code := { maxStack := 2, maxLocals := 1, code := method_3_code, exceptionTable := #[], attributes := #[] }
def k1m2 : Method := { name := "dig", desc := "(C)Z", sig := { parameters := [.char], returnType := some .boolean }, accessFlags := 10, code := some k1c2 }
def k1c3 : Code := { maxStack := 6, maxLocals := 6, code := method_4_code, exceptionTable := #[], attributes := #[] }
def k1m3 : Method := { name := "make", desc := "(ICCCCC)Ljava/lang/String;", sig := { parameters := [.int, .char, .char, .char, .char, .char], returnType := some (.object "java/lang/String") }, accessFlags := 10, code := some k1c3 }
def k1c4 : Code := { maxStack := 6, maxLocals := 14, code := code, exceptionTable := #[], attributes := #[] }
def k1m4 : Method := { name := "law", desc := "(IIIIII)Z", sig := { parameters := [.int, .int, .int, .int, .int, .int], returnType := some .boolean }, accessFlags := 9, code := some k1c4 }
/-- com/example/vestbook/vestbook/WholeNumbersIsPlanYearPinLaw -/
def k1 : Class := { plain "com/example/vestbook/vestbook/WholeNumbersIsPlanYearPinLaw" (some 0) with
  accessFlags := 49
  interfaces := #[]
  cf := some (fileOf pool1 16 #[] #[{ accessFlags := 2, nameIndex := 5, descriptorIndex := 6, attributes := #[] }, { accessFlags := 10, nameIndex := 19, descriptorIndex := 20, attributes := #[] }, { accessFlags := 10, nameIndex := 27, descriptorIndex := 28, attributes := #[] }, { accessFlags := 10, nameIndex := 23, descriptorIndex := 24, attributes := #[] }, { accessFlags := 9, nameIndex := 38, descriptorIndex := 39, attributes := #[] }] 49 2 #[] #[])
  fields := #[]
  methods := #[k1m0, k1m1, k1m2, k1m3, k1m4]
  instanceTypes := #[]
  staticTypes := #[]
  resolved := Array.replicate 42 none
  statics := none }

def pool2 : Array CpInfo := pool [(1, .class_ 2), (0, u "java/io/Serializable"), (0, .class_ 4), (0, u "java/lang/Object")] 2

/-- java/io/Serializable -/
def k2 : Class := { plain "java/io/Serializable" (some 0) with
  accessFlags := 1537
  interfaces := #[]
  cf := some (fileOf pool2 1 #[] #[] 1537 3 #[] #[])
  fields := #[]
  methods := #[]
  instanceTypes := #[]
  staticTypes := #[]
  resolved := Array.replicate 7 none
  statics := none }

def pool3 : Array CpInfo := pool [(1, .class_ 2), (0, u "java/lang/Comparable"), (0, .class_ 4), (0, u "java/lang/Object")] 7

/-- java/lang/Comparable -/
def k3 : Class := { plain "java/lang/Comparable" (some 0) with
  accessFlags := 1537
  interfaces := #[]
  cf := some (fileOf pool3 1 #[] #[] 1537 3 #[] #[])
  fields := #[]
  methods := #[]
  instanceTypes := #[]
  staticTypes := #[]
  resolved := Array.replicate 12 none
  statics := none }

def pool4 : Array CpInfo := pool [(2, .class_ 4), (1, u "java/lang/CharSequence"), (42, .class_ 48), (0, u "java/lang/CharSequence$1CodePointIterator"), (10, .class_ 60), (0, u "java/lang/CharSequence$1CharIterator"), (5, .class_ 67), (0, u "java/lang/Object")] 63

/-- java/lang/CharSequence -/
def k4 : Class := { plain "java/lang/CharSequence" (some 0) with
  accessFlags := 1537
  interfaces := #[]
  cf := some (fileOf pool4 2 #[.nestMembers #[47, 59]] #[] 1537 66 #[] #[])
  fields := #[]
  methods := #[]
  instanceTypes := #[]
  staticTypes := #[]
  resolved := Array.replicate 131 none
  statics := none }

def pool5 : Array CpInfo := pool [(1, .class_ 2), (0, u "java/lang/constant/Constable"), (0, .class_ 4), (0, u "java/lang/Object")] 6

/-- java/lang/constant/Constable -/
def k5 : Class := { plain "java/lang/constant/Constable" (some 0) with
  accessFlags := 1537
  interfaces := #[]
  cf := some (fileOf pool5 1 #[] #[] 1537 3 #[] #[])
  fields := #[]
  methods := #[]
  instanceTypes := #[]
  staticTypes := #[]
  resolved := Array.replicate 11 none
  statics := none }

def pool6 : Array CpInfo := pool [(1, .class_ 2), (0, u "java/lang/constant/ConstantDesc"), (0, .class_ 4), (0, u "java/lang/Object")] 32

/-- java/lang/constant/ConstantDesc -/
def k6 : Class := { plain "java/lang/constant/ConstantDesc" (some 0) with
  accessFlags := 1537
  interfaces := #[]
  cf := some (fileOf pool6 1 #[] #[] 1537 3 #[] #[])
  fields := #[]
  methods := #[]
  instanceTypes := #[]
  staticTypes := #[]
  resolved := Array.replicate 37 none
  statics := none }

def pool7 : Array CpInfo := pool [(1, .methodref 2 3), (0, .class_ 4), (0, .nameAndType 5 6), (0, u "java/lang/Object"), (0, u "<init>"), (0, u "()V"), (0, .string 8), (0, u ""), (0, .fieldref 10 11), (0, .class_ 12), (0, .nameAndType 13 14), (0, u "java/lang/String"), (0, u "value"), (0, u "[B"), (0, .fieldref 10 16), (0, .nameAndType 17 18), (0, u "coder"), (0, u "B"), (2, u "hash"), (0, u "I"), (2, u "hashIsZero"), (0, u "Z"), (0, .methodref 10 28), (0, .nameAndType 5 29), (0, u "([CIILjava/lang/Void;)V"), (8, .fieldref 10 39), (0, .nameAndType 40 26), (0, u "COMPACT_STRINGS"), (1, .class_ 44), (1, u "java/lang/StringUTF16"), (0, u "compress"), (1, .methodref 42 48), (0, .nameAndType 49 50), (0, u "coderFromArrayLen"), (0, u "([BI)B"), (56, .class_ 109), (1, u "java/lang/StringLatin1"), (32, u "()Z"), (34, .methodref 42 178), (0, .nameAndType 45 179), (0, u "([CII)[B"), (154, u "()I"), (0, .methodref 10 336), (0, .nameAndType 17 337), (0, u "()B"), (25, u "([BI)C"), (27, u "(II)V"), (35, u "(I)C"), (64, .methodref 10 493), (0, .nameAndType 494 142), (0, u "isLatin1"), (0, .methodref 107 496), (0, .nameAndType 497 363), (0, u "charAt"), (0, .methodref 42 496), (2, u "checkIndex"), (5, u "length"), (67, .class_ 576), (0, u "java/lang/CharSequence"), (22, u "CASE_INSENSITIVE_ORDER"), (0, u "Ljava/util/Comparator;"), (409, u "([C)V"), (42, .fieldref 1054 1055), (0, .class_ 1056), (0, .nameAndType 1057 1058), (0, u "jdk/internal/util/Preconditions"), (0, u "SIOOBE_FORMATTER"), (0, u "Ljava/util/function/BiFunction;"), (0, .methodref 1054 1060), (0, .nameAndType 501 1061), (0, u "(IILjava/util/function/BiFunction;)I"), (39, u "serialPersistentFields"), (0, u "[Ljava/io/ObjectStreamField;"), (0, .class_ 1104), (0, u "java/lang/String$CaseInsensitiveComparator"), (1, .class_ 1107), (0, u "java/io/Serializable"), (0, .class_ 1109), (0, u "java/lang/Comparable"), (0, .class_ 1111), (0, u "java/lang/constant/Constable"), (0, .class_ 1113), (0, u "java/lang/constant/ConstantDesc"), (2, u "serialVersionUID"), (0, u "J"), (3, u "REPL"), (0, u "C"), (2, u "LATIN1"), (1, u "UTF16")] 323

def k7m0 : Method := { name := "<init>", desc := "()V", sig := { parameters := [], returnType := none }, accessFlags := 1, code := none }
def k7c1 : Code := { maxStack := 5, maxLocals := 2, code := jdk_42_method_3_code, exceptionTable := #[], attributes := #[] }
def k7m1 : Method := { name := "<init>", desc := "([C)V", sig := { parameters := [(.array .char)], returnType := none }, accessFlags := 1, code := some k7c1 }
def k7c2 : Code := { maxStack := 2, maxLocals := 1, code := jdk_42_method_54_code, exceptionTable := #[], attributes := #[] }
def k7m2 : Method := { name := "length", desc := "()I", sig := { parameters := [], returnType := some .int }, accessFlags := 1, code := some k7c2 }
def k7c3 : Code := { maxStack := 2, maxLocals := 2, code := jdk_42_method_56_code, exceptionTable := #[], attributes := #[] }
def k7m3 : Method := { name := "charAt", desc := "(I)C", sig := { parameters := [.int], returnType := some .char }, accessFlags := 1, code := some k7c3 }
def k7c4 : Code := { maxStack := 4, maxLocals := 6, code := jdk_42_method_149_code, exceptionTable := #[], attributes := #[] }
def k7m4 : Method := { name := "<init>", desc := "([CIILjava/lang/Void;)V", sig := { parameters := [(.array .char), .int, .int, (.object "java/lang/Void")], returnType := none }, accessFlags := 2, code := some k7c4 }
def k7c5 : Code := { maxStack := 1, maxLocals := 1, code := jdk_42_method_152_code, exceptionTable := #[], attributes := #[] }
def k7m5 : Method := { name := "coder", desc := "()B", sig := { parameters := [], returnType := some .byte }, accessFlags := 0, code := some k7c5 }
def k7c6 : Code := { maxStack := 1, maxLocals := 1, code := jdk_42_method_154_code, exceptionTable := #[], attributes := #[] }
def k7m6 : Method := { name := "isLatin1", desc := "()Z", sig := { parameters := [], returnType := some .boolean }, accessFlags := 0, code := some k7c6 }
def k7c7 : Code := { maxStack := 3, maxLocals := 2, code := jdk_42_method_155_code, exceptionTable := #[], attributes := #[] }
def k7m7 : Method := { name := "checkIndex", desc := "(II)V", sig := { parameters := [.int, .int], returnType := none }, accessFlags := 8, code := some k7c7 }
/-- java/lang/String -/
def k7 : Class := { plain "java/lang/String" (some 0) with
  accessFlags := 49
  interfaces := #[2, 3, 4, 5, 6]
  cf := some (fileOf pool7 10 #[.nestMembers #[1103]] #[{ accessFlags := 1, nameIndex := 5, descriptorIndex := 6, attributes := #[] }, { accessFlags := 1, nameIndex := 5, descriptorIndex := 1010, attributes := #[] }, { accessFlags := 1, nameIndex := 507, descriptorIndex := 334, attributes := #[] }, { accessFlags := 1, nameIndex := 497, descriptorIndex := 427, attributes := #[] }, { accessFlags := 2, nameIndex := 5, descriptorIndex := 29, attributes := #[] }, { accessFlags := 0, nameIndex := 17, descriptorIndex := 337, attributes := #[] }, { accessFlags := 0, nameIndex := 494, descriptorIndex := 142, attributes := #[] }, { accessFlags := 8, nameIndex := 501, descriptorIndex := 391, attributes := #[] }] 49 2 #[1106, 1108, 575, 1110, 1112] #[{ accessFlags := 18, nameIndex := 13, descriptorIndex := 14, attributes := #[] }, { accessFlags := 18, nameIndex := 17, descriptorIndex := 18, attributes := #[] }, { accessFlags := 2, nameIndex := 21, descriptorIndex := 22, attributes := #[] }, { accessFlags := 2, nameIndex := 25, descriptorIndex := 26, attributes := #[] }, { accessFlags := 26, nameIndex := 1116, descriptorIndex := 1117, attributes := #[] }, { accessFlags := 24, nameIndex := 40, descriptorIndex := 26, attributes := #[] }, { accessFlags := 26, nameIndex := 1101, descriptorIndex := 1102, attributes := #[] }, { accessFlags := 26, nameIndex := 1121, descriptorIndex := 1122, attributes := #[] }, { accessFlags := 25, nameIndex := 599, descriptorIndex := 600, attributes := #[] }, { accessFlags := 24, nameIndex := 1125, descriptorIndex := 18, attributes := #[] }, { accessFlags := 24, nameIndex := 1127, descriptorIndex := 18, attributes := #[] }])
  fields := #[{ name := "value", type := (.array .byte), accessFlags := 18, slot := 0, constantValue := 0 }, { name := "coder", type := .byte, accessFlags := 18, slot := 1, constantValue := 0 }, { name := "hash", type := .int, accessFlags := 2, slot := 2, constantValue := 0 }, { name := "hashIsZero", type := .boolean, accessFlags := 2, slot := 3, constantValue := 0 }, { name := "serialVersionUID", type := .long, accessFlags := 26, slot := 0, constantValue := 0 }, { name := "COMPACT_STRINGS", type := .boolean, accessFlags := 24, slot := 1, constantValue := 0 }, { name := "serialPersistentFields", type := (.array (.object "java/io/ObjectStreamField")), accessFlags := 26, slot := 2, constantValue := 0 }, { name := "REPL", type := .char, accessFlags := 26, slot := 3, constantValue := 0 }, { name := "CASE_INSENSITIVE_ORDER", type := (.object "java/util/Comparator"), accessFlags := 25, slot := 4, constantValue := 0 }, { name := "LATIN1", type := .byte, accessFlags := 24, slot := 5, constantValue := 0 }, { name := "UTF16", type := .byte, accessFlags := 24, slot := 6, constantValue := 0 }]
  methods := #[k7m0, k7m1, k7m2, k7m3, k7m4, k7m5, k7m6, k7m7]
  instanceTypes := #[(.array .byte), .byte, .int, .boolean]
  staticTypes := #[.long, .boolean, (.array (.object "java/io/ObjectStreamField")), .char, (.object "java/util/Comparator"), .byte, .byte]
  resolved := Array.replicate 1451 none
  statics := some 0 }

def pool8 : Array CpInfo := pool [(2, .class_ 4), (1, u "java/lang/Object"), (0, u "<init>"), (0, u "()V"), (0, .methodref 8 9), (0, .class_ 10), (0, .nameAndType 11 12), (0, u "java/lang/String"), (0, u "length"), (0, u "()I"), (0, .methodref 14 15), (0, .class_ 16), (0, .nameAndType 17 18), (0, u "com/example/vestbook/vestbook/WholeNumbers"), (0, u "isDigits"), (0, u "(Ljava/lang/String;)Z"), (0, .methodref 14 20), (0, .nameAndType 17 21), (0, u "(Ljava/lang/String;II)Z"), (0, .methodref 8 23), (0, .nameAndType 24 25), (0, u "charAt"), (0, u "(I)C"), (2, u "isPlanYear")] 5

def k8m0 : Method := { name := "<init>", desc := "()V", sig := { parameters := [], returnType := none }, accessFlags := 2, code := none }
def k8c1 : Code := { maxStack := 2, maxLocals := 1, code := prog_7_method_2_code, exceptionTable := #[], attributes := #[] }
def k8m1 : Method := { name := "isPlanYear", desc := "(Ljava/lang/String;)Z", sig := { parameters := [(.object "java/lang/String")], returnType := some .boolean }, accessFlags := 9, code := some k8c1 }
def k8c2 : Code := { maxStack := 3, maxLocals := 1, code := prog_7_method_5_code, exceptionTable := #[], attributes := #[] }
def k8m2 : Method := { name := "isDigits", desc := "(Ljava/lang/String;)Z", sig := { parameters := [(.object "java/lang/String")], returnType := some .boolean }, accessFlags := 9, code := some k8c2 }
def k8c3 : Code := { maxStack := 2, maxLocals := 5, code := prog_7_method_6_code, exceptionTable := #[], attributes := #[] }
def k8m3 : Method := { name := "isDigits", desc := "(Ljava/lang/String;II)Z", sig := { parameters := [(.object "java/lang/String"), .int, .int], returnType := some .boolean }, accessFlags := 9, code := some k8c3 }
/-- com/example/vestbook/vestbook/WholeNumbers -/
def k8 : Class := { plain "com/example/vestbook/vestbook/WholeNumbers" (some 0) with
  accessFlags := 49
  interfaces := #[]
  cf := some (fileOf pool8 14 #[] #[{ accessFlags := 2, nameIndex := 5, descriptorIndex := 6, attributes := #[] }, { accessFlags := 9, nameIndex := 28, descriptorIndex := 18, attributes := #[] }, { accessFlags := 9, nameIndex := 17, descriptorIndex := 18, attributes := #[] }, { accessFlags := 9, nameIndex := 17, descriptorIndex := 21, attributes := #[] }] 49 2 #[] #[])
  fields := #[]
  methods := #[k8m0, k8m1, k8m2, k8m3]
  instanceTypes := #[]
  staticTypes := #[]
  resolved := Array.replicate 34 none
  statics := none }

def pool9 : Array CpInfo := pool [(3, .class_ 4), (0, u "java/lang/String"), (1, .class_ 8), (1, u "java/lang/Object"), (0, u "<init>"), (0, u "()V"), (0, .methodref 12 13), (0, .class_ 14), (0, .nameAndType 15 16), (0, u "java/lang/StringUTF16"), (0, u "newBytesLength"), (0, u "(I)I"), (3, .integer 1073741823), (23, .fieldref 12 45), (0, .nameAndType 46 47), (0, u "$assertionsDisabled"), (0, u "Z"), (0, .methodref 12 49), (0, .nameAndType 50 51), (0, u "length"), (0, u "([B)I"), (7, .fieldref 12 60), (0, .nameAndType 61 62), (0, u "HI_BYTE_SHIFT"), (0, u "I"), (0, .fieldref 12 64), (0, .nameAndType 65 62), (0, u "LO_BYTE_SHIFT"), (1, .methodref 12 68), (0, .nameAndType 69 70), (0, u "checkIndex"), (0, u "(I[B)V"), (0, .methodref 12 72), (0, .nameAndType 73 74), (0, u "getChar"), (0, u "([BI)C"), (32, .methodref 12 108), (0, .nameAndType 109 110), (0, u "newBytesFor"), (0, u "(I)[B"), (0, .methodref 12 112), (0, .nameAndType 113 114), (0, u "putChar"), (0, u "([BII)V"), (0, .methodref 12 116), (0, .nameAndType 117 118), (0, u "compress"), (0, u "([CI[BII)I"), (0, .methodref 12 120), (0, .nameAndType 121 122), (0, u "toBytes"), (0, u "([CII)[B"), (138, u "coderFromArrayLen"), (0, u "([BI)B"), (106, .class_ 371), (1, u "java/lang/StringUTF16$LinesSpliterator"), (20, u "charAt"), (21, .methodref 3 415), (0, .nameAndType 69 416), (0, u "(II)V"), (13, u "MAX_LENGTH"), (196, .class_ 628), (0, u "java/lang/StringUTF16$CodePointsSpliterator"), (0, .class_ 630), (0, u "java/lang/StringUTF16$CharsSpliterator")] 4

def k9m0 : Method := { name := "<init>", desc := "()V", sig := { parameters := [], returnType := none }, accessFlags := 0, code := none }
def k9c1 : Code := { maxStack := 1, maxLocals := 1, code := jdk_52_method_2_code, exceptionTable := #[], attributes := #[] }
def k9m1 : Method := { name := "newBytesFor", desc := "(I)[B", sig := { parameters := [.int], returnType := some (.array .byte) }, accessFlags := 9, code := some k9c1 }
def k9c2 : Code := { maxStack := 4, maxLocals := 1, code := jdk_52_method_3_code, exceptionTable := #[], attributes := #[] }
def k9m2 : Method := { name := "newBytesLength", desc := "(I)I", sig := { parameters := [.int], returnType := some .int }, accessFlags := 9, code := some k9c2 }
def k9c3 : Code := { maxStack := 4, maxLocals := 3, code := jdk_52_method_4_code, exceptionTable := #[], attributes := #[] }
def k9m3 : Method := { name := "putChar", desc := "([BII)V", sig := { parameters := [(.array .byte), .int, .int], returnType := none }, accessFlags := 8, code := some k9c3 }
def k9c4 : Code := { maxStack := 3, maxLocals := 2, code := jdk_52_method_5_code, exceptionTable := #[], attributes := #[] }
def k9m4 : Method := { name := "getChar", desc := "([BI)C", sig := { parameters := [(.array .byte), .int], returnType := some .char }, accessFlags := 8, code := some k9c4 }
def k9c5 : Code := { maxStack := 2, maxLocals := 1, code := jdk_52_method_6_code, exceptionTable := #[], attributes := #[] }
def k9m5 : Method := { name := "length", desc := "([B)I", sig := { parameters := [(.array .byte)], returnType := some .int }, accessFlags := 9, code := some k9c5 }
def k9c6 : Code := { maxStack := 4, maxLocals := 5, code := jdk_52_method_14_code, exceptionTable := #[], attributes := #[] }
def k9m6 : Method := { name := "toBytes", desc := "([CII)[B", sig := { parameters := [(.array .char), .int, .int], returnType := some (.array .byte) }, accessFlags := 9, code := some k9c6 }
def k9c7 : Code := { maxStack := 2, maxLocals := 2, code := jdk_52_method_15_code, exceptionTable := #[], attributes := #[] }
def k9m7 : Method := { name := "coderFromArrayLen", desc := "([BI)B", sig := { parameters := [(.array .byte), .int], returnType := some .byte }, accessFlags := 8, code := some k9c7 }
def k9c8 : Code := { maxStack := 5, maxLocals := 6, code := jdk_52_method_16_code, exceptionTable := #[], attributes := #[] }
def k9m8 : Method := { name := "compress", desc := "([CII)[B", sig := { parameters := [(.array .char), .int, .int], returnType := some (.array .byte) }, accessFlags := 9, code := some k9c8 }
def k9c9 : Code := { maxStack := 3, maxLocals := 7, code := jdk_52_method_21_code, exceptionTable := #[], attributes := #[] }
def k9m9 : Method := { name := "compress", desc := "([CI[BII)I", sig := { parameters := [(.array .char), .int, (.array .byte), .int, .int], returnType := some .int }, accessFlags := 9, code := some k9c9 }
def k9c10 : Code := { maxStack := 2, maxLocals := 2, code := jdk_52_method_83_code, exceptionTable := #[], attributes := #[] }
def k9m10 : Method := { name := "charAt", desc := "([BI)C", sig := { parameters := [(.array .byte), .int], returnType := some .char }, accessFlags := 9, code := some k9c10 }
def k9c11 : Code := { maxStack := 2, maxLocals := 2, code := jdk_52_method_91_code, exceptionTable := #[], attributes := #[] }
def k9m11 : Method := { name := "checkIndex", desc := "(I[B)V", sig := { parameters := [.int, (.array .byte)], returnType := none }, accessFlags := 9, code := some k9c11 }
/-- java/lang/StringUTF16 -/
def k9 : Class := { plain "java/lang/StringUTF16" (some 0) with
  accessFlags := 48
  interfaces := #[]
  cf := some (fileOf pool9 12 #[.nestMembers #[627, 629, 369]] #[{ accessFlags := 0, nameIndex := 9, descriptorIndex := 10, attributes := #[] }, { accessFlags := 9, nameIndex := 109, descriptorIndex := 110, attributes := #[] }, { accessFlags := 9, nameIndex := 15, descriptorIndex := 16, attributes := #[] }, { accessFlags := 8, nameIndex := 113, descriptorIndex := 114, attributes := #[] }, { accessFlags := 8, nameIndex := 73, descriptorIndex := 74, attributes := #[] }, { accessFlags := 9, nameIndex := 50, descriptorIndex := 51, attributes := #[] }, { accessFlags := 9, nameIndex := 121, descriptorIndex := 122, attributes := #[] }, { accessFlags := 8, nameIndex := 261, descriptorIndex := 262, attributes := #[] }, { accessFlags := 9, nameIndex := 117, descriptorIndex := 122, attributes := #[] }, { accessFlags := 9, nameIndex := 117, descriptorIndex := 118, attributes := #[] }, { accessFlags := 9, nameIndex := 392, descriptorIndex := 74, attributes := #[] }, { accessFlags := 9, nameIndex := 69, descriptorIndex := 70, attributes := #[] }] 48 6 #[] #[{ accessFlags := 26, nameIndex := 61, descriptorIndex := 62, attributes := #[] }, { accessFlags := 26, nameIndex := 65, descriptorIndex := 62, attributes := #[] }, { accessFlags := 24, nameIndex := 430, descriptorIndex := 62, attributes := #[] }, { accessFlags := 4120, nameIndex := 46, descriptorIndex := 47, attributes := #[] }])
  fields := #[{ name := "HI_BYTE_SHIFT", type := .int, accessFlags := 26, slot := 0, constantValue := 0 }, { name := "LO_BYTE_SHIFT", type := .int, accessFlags := 26, slot := 1, constantValue := 0 }, { name := "MAX_LENGTH", type := .int, accessFlags := 24, slot := 2, constantValue := 0 }, { name := "$assertionsDisabled", type := .boolean, accessFlags := 4120, slot := 3, constantValue := 0 }]
  methods := #[k9m0, k9m1, k9m2, k9m3, k9m4, k9m5, k9m6, k9m7, k9m8, k9m9, k9m10, k9m11]
  instanceTypes := #[]
  staticTypes := #[.int, .int, .int, .boolean]
  resolved := Array.replicate 635 none
  statics := some 1 }

def pool10 : Array CpInfo := pool [(1, .class_ 2), (0, u "java/lang/String"), (1, .class_ 6), (1, u "java/lang/Object"), (0, u "<init>"), (0, u "()V"), (0, .methodref 1 10), (0, .nameAndType 11 12), (0, u "checkIndex"), (0, u "(II)V"), (1, .class_ 16), (1, u "java/lang/StringLatin1"), (36, u "([BI)C"), (67, u "$assertionsDisabled"), (0, u "Z"), (98, .class_ 223), (1, u "java/lang/StringLatin1$LinesSpliterator"), (28, u "charAt"), (137, .class_ 391), (0, u "java/lang/StringLatin1$CharsSpliterator")] 3

def k10m0 : Method := { name := "<init>", desc := "()V", sig := { parameters := [], returnType := none }, accessFlags := 0, code := none }
def k10c1 : Code := { maxStack := 2, maxLocals := 2, code := jdk_43_method_2_code, exceptionTable := #[], attributes := #[] }
def k10m1 : Method := { name := "charAt", desc := "([BI)C", sig := { parameters := [(.array .byte), .int], returnType := some .char }, accessFlags := 9, code := some k10c1 }
/-- java/lang/StringLatin1 -/
def k10 : Class := { plain "java/lang/StringLatin1" (some 0) with
  accessFlags := 48
  interfaces := #[]
  cf := some (fileOf pool10 14 #[.nestMembers #[390, 221]] #[{ accessFlags := 0, nameIndex := 7, descriptorIndex := 8, attributes := #[] }, { accessFlags := 9, nameIndex := 252, descriptorIndex := 53, attributes := #[] }] 48 4 #[] #[{ accessFlags := 4120, nameIndex := 121, descriptorIndex := 122, attributes := #[] }])
  fields := #[{ name := "$assertionsDisabled", type := .boolean, accessFlags := 4120, slot := 0, constantValue := 0 }]
  methods := #[k10m0, k10m1]
  instanceTypes := #[]
  staticTypes := #[.boolean]
  resolved := Array.replicate 395 none
  statics := none }

def pool11 : Array CpInfo := pool [(2, .class_ 4), (1, u "java/lang/Object"), (0, u "<init>"), (0, u "()V"), (17, .class_ 26), (1, u "jdk/internal/util/Preconditions"), (6, u "checkIndex"), (21, .class_ 56), (0, u "jdk/internal/util/Preconditions$4"), (57, .class_ 115), (0, u "jdk/internal/util/Preconditions$1"), (7, u "SIOOBE_FORMATTER"), (0, u "Ljava/util/function/BiFunction;"), (0, .class_ 126), (0, u "jdk/internal/util/Preconditions$2"), (3, u "AIOOBE_FORMATTER"), (0, .class_ 132), (0, u "jdk/internal/util/Preconditions$3"), (3, u "IOOBE_FORMATTER"), (41, u "(IILjava/util/function/BiFunction;)I")] 15

def k11m0 : Method := { name := "<init>", desc := "()V", sig := { parameters := [], returnType := none }, accessFlags := 1, code := none }
def k11c1 : Code := { maxStack := 3, maxLocals := 3, code := jdk_41_method_11_code, exceptionTable := #[], attributes := #[] }
def k11m1 : Method := { name := "checkIndex", desc := "(IILjava/util/function/BiFunction;)I", sig := { parameters := [.int, .int, (.object "java/util/function/BiFunction")], returnType := some .int }, accessFlags := 9, code := some k11c1 }
/-- jdk/internal/util/Preconditions -/
def k11 : Class := { plain "jdk/internal/util/Preconditions" (some 0) with
  accessFlags := 33
  interfaces := #[]
  cf := some (fileOf pool11 24 #[.nestMembers #[55, 131, 125, 114]] #[{ accessFlags := 1, nameIndex := 5, descriptorIndex := 6, attributes := #[] }, { accessFlags := 9, nameIndex := 33, descriptorIndex := 178, attributes := #[] }] 33 2 #[] #[{ accessFlags := 25, nameIndex := 123, descriptorIndex := 124, attributes := #[] }, { accessFlags := 25, nameIndex := 130, descriptorIndex := 124, attributes := #[] }, { accessFlags := 25, nameIndex := 136, descriptorIndex := 124, attributes := #[] }])
  fields := #[{ name := "SIOOBE_FORMATTER", type := (.object "java/util/function/BiFunction"), accessFlags := 25, slot := 0, constantValue := 0 }, { name := "AIOOBE_FORMATTER", type := (.object "java/util/function/BiFunction"), accessFlags := 25, slot := 1, constantValue := 0 }, { name := "IOOBE_FORMATTER", type := (.object "java/util/function/BiFunction"), accessFlags := 25, slot := 2, constantValue := 0 }]
  methods := #[k11m0, k11m1]
  instanceTypes := #[]
  staticTypes := #[(.object "java/util/function/BiFunction"), (.object "java/util/function/BiFunction"), (.object "java/util/function/BiFunction")]
  resolved := Array.replicate 194 none
  statics := some 2 }

def pool12 : Array CpInfo := pool [(9, u "<init>"), (6, .class_ 18), (1, u "java/lang/Object"), (0, u "()V"), (1, .class_ 23), (1, u "jdk/internal/util/ArraysSupport"), (0, u "LOG2_ARRAY_LONG_INDEX_SCALE"), (0, u "I"), (2, u "U"), (0, u "Ljdk/internal/misc/Unsafe;"), (8, u "BIG_ENDIAN"), (0, u "Z"), (8, u "LOG2_BYTE_BIT_SIZE"), (4, u "LOG2_ARRAY_INT_INDEX_SCALE"), (54, u "JLA"), (0, u "Ljdk/internal/access/JavaLangAccess;"), (11, u "LOG2_ARRAY_BOOLEAN_INDEX_SCALE"), (9, u "LOG2_ARRAY_BYTE_INDEX_SCALE"), (5, u "LOG2_ARRAY_CHAR_INDEX_SCALE"), (5, u "LOG2_ARRAY_SHORT_INDEX_SCALE"), (18, u "LOG2_ARRAY_FLOAT_INDEX_SCALE"), (24, u "LOG2_ARRAY_DOUBLE_INDEX_SCALE"), (89, u "T_BOOLEAN"), (2, u "T_CHAR"), (1, u "T_FLOAT"), (1, u "T_DOUBLE"), (1, u "T_BYTE"), (1, u "T_SHORT"), (1, u "T_INT"), (1, u "T_LONG"), (1, u "SOFT_MAX_ARRAY_LENGTH")] 83

def k12m0 : Method := { name := "<init>", desc := "()V", sig := { parameters := [], returnType := none }, accessFlags := 2, code := none }
/-- jdk/internal/util/ArraysSupport -/
def k12 : Class := { plain "jdk/internal/util/ArraysSupport" (some 0) with
  accessFlags := 33
  interfaces := #[]
  cf := some (fileOf pool12 21 #[] #[{ accessFlags := 2, nameIndex := 9, descriptorIndex := 19, attributes := #[] }] 33 16 #[] #[{ accessFlags := 24, nameIndex := 28, descriptorIndex := 29, attributes := #[] }, { accessFlags := 26, nameIndex := 38, descriptorIndex := 39, attributes := #[] }, { accessFlags := 25, nameIndex := 121, descriptorIndex := 25, attributes := #[] }, { accessFlags := 25, nameIndex := 131, descriptorIndex := 25, attributes := #[] }, { accessFlags := 25, nameIndex := 137, descriptorIndex := 25, attributes := #[] }, { accessFlags := 25, nameIndex := 143, descriptorIndex := 25, attributes := #[] }, { accessFlags := 25, nameIndex := 53, descriptorIndex := 25, attributes := #[] }, { accessFlags := 25, nameIndex := 24, descriptorIndex := 25, attributes := #[] }, { accessFlags := 25, nameIndex := 162, descriptorIndex := 25, attributes := #[] }, { accessFlags := 25, nameIndex := 187, descriptorIndex := 25, attributes := #[] }, { accessFlags := 26, nameIndex := 48, descriptorIndex := 25, attributes := #[] }, { accessFlags := 25, nameIndex := 277, descriptorIndex := 25, attributes := #[] }, { accessFlags := 25, nameIndex := 280, descriptorIndex := 25, attributes := #[] }, { accessFlags := 25, nameIndex := 282, descriptorIndex := 25, attributes := #[] }, { accessFlags := 25, nameIndex := 284, descriptorIndex := 25, attributes := #[] }, { accessFlags := 25, nameIndex := 286, descriptorIndex := 25, attributes := #[] }, { accessFlags := 25, nameIndex := 288, descriptorIndex := 25, attributes := #[] }, { accessFlags := 25, nameIndex := 290, descriptorIndex := 25, attributes := #[] }, { accessFlags := 25, nameIndex := 292, descriptorIndex := 25, attributes := #[] }, { accessFlags := 26, nameIndex := 108, descriptorIndex := 109, attributes := #[] }, { accessFlags := 25, nameIndex := 294, descriptorIndex := 25, attributes := #[] }])
  fields := #[{ name := "U", type := (.object "jdk/internal/misc/Unsafe"), accessFlags := 24, slot := 0, constantValue := 0 }, { name := "BIG_ENDIAN", type := .boolean, accessFlags := 26, slot := 1, constantValue := 0 }, { name := "LOG2_ARRAY_BOOLEAN_INDEX_SCALE", type := .int, accessFlags := 25, slot := 2, constantValue := 0 }, { name := "LOG2_ARRAY_BYTE_INDEX_SCALE", type := .int, accessFlags := 25, slot := 3, constantValue := 0 }, { name := "LOG2_ARRAY_CHAR_INDEX_SCALE", type := .int, accessFlags := 25, slot := 4, constantValue := 0 }, { name := "LOG2_ARRAY_SHORT_INDEX_SCALE", type := .int, accessFlags := 25, slot := 5, constantValue := 0 }, { name := "LOG2_ARRAY_INT_INDEX_SCALE", type := .int, accessFlags := 25, slot := 6, constantValue := 0 }, { name := "LOG2_ARRAY_LONG_INDEX_SCALE", type := .int, accessFlags := 25, slot := 7, constantValue := 0 }, { name := "LOG2_ARRAY_FLOAT_INDEX_SCALE", type := .int, accessFlags := 25, slot := 8, constantValue := 0 }, { name := "LOG2_ARRAY_DOUBLE_INDEX_SCALE", type := .int, accessFlags := 25, slot := 9, constantValue := 0 }, { name := "LOG2_BYTE_BIT_SIZE", type := .int, accessFlags := 26, slot := 10, constantValue := 0 }, { name := "T_BOOLEAN", type := .int, accessFlags := 25, slot := 11, constantValue := 0 }, { name := "T_CHAR", type := .int, accessFlags := 25, slot := 12, constantValue := 0 }, { name := "T_FLOAT", type := .int, accessFlags := 25, slot := 13, constantValue := 0 }, { name := "T_DOUBLE", type := .int, accessFlags := 25, slot := 14, constantValue := 0 }, { name := "T_BYTE", type := .int, accessFlags := 25, slot := 15, constantValue := 0 }, { name := "T_SHORT", type := .int, accessFlags := 25, slot := 16, constantValue := 0 }, { name := "T_INT", type := .int, accessFlags := 25, slot := 17, constantValue := 0 }, { name := "T_LONG", type := .int, accessFlags := 25, slot := 18, constantValue := 0 }, { name := "JLA", type := (.object "jdk/internal/access/JavaLangAccess"), accessFlags := 26, slot := 19, constantValue := 0 }, { name := "SOFT_MAX_ARRAY_LENGTH", type := .int, accessFlags := 25, slot := 20, constantValue := 0 }]
  methods := #[k12m0]
  instanceTypes := #[]
  staticTypes := #[(.object "jdk/internal/misc/Unsafe"), .boolean, .int, .int, .int, .int, .int, .int, .int, .int, .int, .int, .int, .int, .int, .int, .int, .int, .int, (.object "jdk/internal/access/JavaLangAccess"), .int]
  resolved := Array.replicate 378 none
  statics := none }

def pool13 : Array CpInfo := pool [(1, u "java/lang/Cloneable"), (0, .class_ 1), (0, u "java/lang/Object"), (0, .class_ 3)] 3

/-- java/lang/Cloneable -/
def k13 : Class := { plain "java/lang/Cloneable" (some 0) with
  accessFlags := 1537
  interfaces := #[]
  cf := some (fileOf pool13 2 #[] #[] 1537 4 #[] #[])
  fields := #[]
  methods := #[]
  instanceTypes := #[]
  staticTypes := #[]
  resolved := Array.replicate 8 none
  statics := none }

/-- the primitive byte -/
def k14 : Class := { plain "byte" none with kind := .primitive 'B', accessFlags := 0x411 }
/-- [B -/
def k15 : Class := { plain "[B" (some 0) with kind := .array 14 .byte, interfaces := #[13, 2], accessFlags := 1041 }

/-- the primitive char -/
def k16 : Class := { plain "char" none with kind := .primitive 'C', accessFlags := 0x411 }
/-- [C -/
def k17 : Class := { plain "[C" (some 0) with kind := .array 16 .char, interfaces := #[13, 2], accessFlags := 1041 }

/-- the primitive int -/
def k18 : Class := { plain "int" none with kind := .primitive 'I', accessFlags := 0x411 }
/-- [I -/
def k19 : Class := { plain "[I" (some 0) with kind := .array 18 .int, interfaces := #[13, 2], accessFlags := 1041 }

def heap : Heap := #[{ cls := 7, slots := #[.long 0, .int 1, .null, .int 0, .null, .int 0, .int 0], vm := .statics 7 },
  { cls := 9, slots := #[.int 0, .int 8, .int 0, .int 1], vm := .statics 9 },
  { cls := 11, slots := #[.null, .null, .null], vm := .statics 11 }]
def classes : Array Class := #[k0, k1, k2, k3, k4, k5, k6, k7, k8, k9, k10, k11, k12, k13, k14, k15, k16, k17, k18, k19]
def interned : List (Array UInt16 × Addr) := []
def slotsUsed : Nat := 14
def theMethod : MethodId := ⟨1, 4⟩
def args0 : Array Value := #[.int 1, .int 2, .int 3, .int 4, .int 5, .int 6]
def aboutOver (below : List Frame) : State where
  vm := { classes := classes, interned := interned.toArray }
  heap := heap
  slotsUsed := slotsUsed
  threads := #[{ frames := .invoking theMethod args0 :: below }]
def below0 : List Frame := [.native { method := ⟨0, 0⟩, args := #[] }]
def about1 : State := aboutOver below0
def p0 : Program := .bare "" "" ""
def e0 : Env := launch0.env 0 0 0
theorem w_frames : about1.frames = Frame.invoking theMethod args0 :: below0 := rfl
set_option maxRecDepth 65536 in
theorem w_args : argsFit about1.vm theMethod args0 = true := by decide +kernel
set_option maxRecDepth 65536 in
theorem w_heap : heapFits about1 = true := by decide +kernel
set_option maxRecDepth 65536 in
theorem w_runnable : about1.curStatus? = some .runnable := by decide +kernel
set_option maxRecDepth 65536 in
theorem w_alone : about1.alone = true := by decide +kernel
set_option maxRecDepth 65536 in
theorem w_named : about1.methodNamed? x = some theMethod := by decide +kernel
set_option maxRecDepth 65536 in
theorem w_hears : about1.hears theMethod below0 = true := by decide +kernel
set_option maxRecDepth 65536 in
theorem w_ripe : about1.ripe theMethod args0 below0 = true := by decide +kernel
theorem w_running : about1.status = .running := rfl
set_option maxRecDepth 65536 in
theorem w_room : about1.hasRoom e0.platform room_1 = true :=
  launch0.hasRoom_least _ room_1 (by decide +kernel) (by decide +kernel) (by decide +kernel) (by decide +kernel) (by decide +kernel) (by decide +kernel)
theorem allAtoms_all (ts : List Jvm.Cond) (a : Array Jvm.Value) (st : Jvm.State) : (allAtoms ts).before a st = ts.all (fun c => c.before a st) := by
  induction ts with
  | nil => rfl
  | cons c t ih =>
    show (Jvm.Cond.and c (allAtoms t)).before a st = _
    rw [Jvm.Cond.before_and, ih, List.all_cons]
def words1 : List Jvm.Cond := Jvm.Cond.code x code maxLocals ret :: tables_1
/-- a 'code' word, met by the world's own term for the bytes: nothing is compared byte by byte -/
theorem code_word {y : MethodName} {bytes : ByteArray} {mx : Nat} {rt : Option FieldType} {a : Array Value} {s : State} {m : MethodId} {meth : Method} {c : Code} (h1 : s.methodNamed? y = some m) (h2 : s.vm.method? m = some meth) (h3 : meth.code = some c) (h4 : c.code = bytes)
    (h5 : (c.maxLocals == mx && c.exceptionTable.isEmpty && decide (c.maxStack ≤ mostOperands) && decide (meth.sig.returnType = rt) && !meth.locks && decide (parseMethodDescriptor y.desc = some meth.sig)) = true) : (Jvm.Cond.code y bytes mx rt).before a s = true := by
  simp only [Bool.and_eq_true, beq_iff_eq, Bool.not_eq_true', decide_eq_true_eq] at h5
  obtain ⟨⟨⟨⟨⟨g1, g2⟩, g3⟩, g4⟩, g5⟩, g6⟩ := h5
  simp [Cond.before, Cond.holds, Cond.value, h1, h2, h3, h4, g1, g2, g3, g4, g5, g6]
def isCode : Jvm.Cond → Bool
  | .code _ _ _ _ => true
  | _ => false
theorem all_split {L : List Jvm.Cond} {P : Jvm.Cond → Bool} (h1 : L.all (fun c => isCode c || P c) = true) (h2 : ∀ c ∈ L.filter isCode, P c = true) : L.all P = true := by
  refine List.all_eq_true.mpr fun c hc => ?_
  have h := List.all_eq_true.mp h1 c hc
  rcases Bool.eq_false_or_eq_true (isCode c) with hi | hi
  · exact h2 c (List.mem_filter.mpr ⟨hc, hi⟩)
  · simpa [hi] using h
set_option maxRecDepth 65536 in
theorem w_c0 : (Jvm.Cond.code x code maxLocals ret).before args0 about1 = true := code_word (m := ⟨1, 4⟩) (meth := k1m4) (c := k1c4) (by decide +kernel) rfl rfl rfl (by decide +kernel)
set_option maxRecDepth 65536 in
theorem w_c1 : (Jvm.Cond.code ({ cls := "com/example/vestbook/vestbook/WholeNumbersIsPlanYearPinLaw", name := "draw", desc := "(I)C" } : Jvm.MethodName) method_2_code (1 : Nat) (Option.some Jvm.ClassFile.FieldType.char)).before args0 about1 = true := code_word (m := ⟨1, 1⟩) (meth := k1m1) (c := k1c1) (by decide +kernel) rfl rfl rfl (by decide +kernel)
set_option maxRecDepth 65536 in
theorem w_c2 : (Jvm.Cond.code ({ cls := "com/example/vestbook/vestbook/WholeNumbersIsPlanYearPinLaw", name := "make", desc := "(ICCCCC)Ljava/lang/String;" } : Jvm.MethodName) method_4_code (6 : Nat) (Option.some (Jvm.ClassFile.FieldType.object "java/lang/String"))).before args0 about1 = true := code_word (m := ⟨1, 3⟩) (meth := k1m3) (c := k1c3) (by decide +kernel) rfl rfl rfl (by decide +kernel)
set_option maxRecDepth 65536 in
theorem w_c3 : (Jvm.Cond.code ({ cls := "java/lang/String", name := "<init>", desc := "([C)V" } : Jvm.MethodName) jdk_42_method_3_code (2 : Nat) (Option.none : Option Jvm.ClassFile.FieldType)).before args0 about1 = true := code_word (m := ⟨7, 1⟩) (meth := k7m1) (c := k7c1) (by decide +kernel) rfl rfl rfl (by decide +kernel)
set_option maxRecDepth 65536 in
theorem w_c4 : (Jvm.Cond.code ({ cls := "java/lang/String", name := "<init>", desc := "([CIILjava/lang/Void;)V" } : Jvm.MethodName) jdk_42_method_149_code (6 : Nat) (Option.none : Option Jvm.ClassFile.FieldType)).before args0 about1 = true := code_word (m := ⟨7, 4⟩) (meth := k7m4) (c := k7c4) (by decide +kernel) rfl rfl rfl (by decide +kernel)
set_option maxRecDepth 65536 in
theorem w_c5 : (Jvm.Cond.code ({ cls := "java/lang/Object", name := "<init>", desc := "()V" } : Jvm.MethodName) object_method_1_code (1 : Nat) (Option.none : Option Jvm.ClassFile.FieldType)).before args0 about1 = true := code_word (m := ⟨0, 0⟩) (meth := k0m0) (c := k0c0) (by decide +kernel) rfl rfl rfl (by decide +kernel)
set_option maxRecDepth 65536 in
theorem w_c6 : (Jvm.Cond.code ({ cls := "com/example/vestbook/vestbook/WholeNumbers", name := "isPlanYear", desc := "(Ljava/lang/String;)Z" } : Jvm.MethodName) prog_7_method_2_code (1 : Nat) (Option.some Jvm.ClassFile.FieldType.boolean)).before args0 about1 = true := code_word (m := ⟨8, 1⟩) (meth := k8m1) (c := k8c1) (by decide +kernel) rfl rfl rfl (by decide +kernel)
set_option maxRecDepth 65536 in
theorem w_c7 : (Jvm.Cond.code ({ cls := "java/lang/String", name := "length", desc := "()I" } : Jvm.MethodName) jdk_42_method_54_code (1 : Nat) (Option.some Jvm.ClassFile.FieldType.int)).before args0 about1 = true := code_word (m := ⟨7, 2⟩) (meth := k7m2) (c := k7c2) (by decide +kernel) rfl rfl rfl (by decide +kernel)
set_option maxRecDepth 65536 in
theorem w_c8 : (Jvm.Cond.code ({ cls := "java/lang/String", name := "coder", desc := "()B" } : Jvm.MethodName) jdk_42_method_152_code (1 : Nat) (Option.some Jvm.ClassFile.FieldType.byte)).before args0 about1 = true := code_word (m := ⟨7, 5⟩) (meth := k7m5) (c := k7c5) (by decide +kernel) rfl rfl rfl (by decide +kernel)
set_option maxRecDepth 65536 in
theorem w_c9 : (Jvm.Cond.code ({ cls := "java/lang/StringUTF16", name := "compress", desc := "([CII)[B" } : Jvm.MethodName) jdk_52_method_16_code (6 : Nat) (Option.some (Jvm.ClassFile.FieldType.array Jvm.ClassFile.FieldType.byte))).before args0 about1 = true := code_word (m := ⟨9, 8⟩) (meth := k9m8) (c := k9c8) (by decide +kernel) rfl rfl rfl (by decide +kernel)
set_option maxRecDepth 65536 in
theorem w_c10 : (Jvm.Cond.code ({ cls := "java/lang/StringUTF16", name := "compress", desc := "([CI[BII)I" } : Jvm.MethodName) jdk_52_method_21_code (7 : Nat) (Option.some Jvm.ClassFile.FieldType.int)).before args0 about1 = true := code_word (m := ⟨9, 9⟩) (meth := k9m9) (c := k9c9) (by decide +kernel) rfl rfl rfl (by decide +kernel)
set_option maxRecDepth 65536 in
theorem w_c11 : (Jvm.Cond.code ({ cls := "java/lang/StringUTF16", name := "coderFromArrayLen", desc := "([BI)B" } : Jvm.MethodName) jdk_52_method_15_code (2 : Nat) (Option.some Jvm.ClassFile.FieldType.byte)).before args0 about1 = true := code_word (m := ⟨9, 7⟩) (meth := k9m7) (c := k9c7) (by decide +kernel) rfl rfl rfl (by decide +kernel)
set_option maxRecDepth 65536 in
theorem w_c12 : (Jvm.Cond.code ({ cls := "com/example/vestbook/vestbook/WholeNumbersIsPlanYearPinLaw", name := "dig", desc := "(C)Z" } : Jvm.MethodName) method_3_code (1 : Nat) (Option.some Jvm.ClassFile.FieldType.boolean)).before args0 about1 = true := code_word (m := ⟨1, 2⟩) (meth := k1m2) (c := k1c2) (by decide +kernel) rfl rfl rfl (by decide +kernel)
set_option maxRecDepth 65536 in
theorem w_c13 : (Jvm.Cond.code ({ cls := "com/example/vestbook/vestbook/WholeNumbers", name := "isDigits", desc := "(Ljava/lang/String;)Z" } : Jvm.MethodName) prog_7_method_5_code (1 : Nat) (Option.some Jvm.ClassFile.FieldType.boolean)).before args0 about1 = true := code_word (m := ⟨8, 2⟩) (meth := k8m2) (c := k8c2) (by decide +kernel) rfl rfl rfl (by decide +kernel)
set_option maxRecDepth 65536 in
theorem w_c14 : (Jvm.Cond.code ({ cls := "com/example/vestbook/vestbook/WholeNumbers", name := "isDigits", desc := "(Ljava/lang/String;II)Z" } : Jvm.MethodName) prog_7_method_6_code (5 : Nat) (Option.some Jvm.ClassFile.FieldType.boolean)).before args0 about1 = true := code_word (m := ⟨8, 3⟩) (meth := k8m3) (c := k8c3) (by decide +kernel) rfl rfl rfl (by decide +kernel)
set_option maxRecDepth 65536 in
theorem w_c15 : (Jvm.Cond.code ({ cls := "java/lang/String", name := "charAt", desc := "(I)C" } : Jvm.MethodName) jdk_42_method_56_code (2 : Nat) (Option.some Jvm.ClassFile.FieldType.char)).before args0 about1 = true := code_word (m := ⟨7, 3⟩) (meth := k7m3) (c := k7c3) (by decide +kernel) rfl rfl rfl (by decide +kernel)
set_option maxRecDepth 65536 in
theorem w_c16 : (Jvm.Cond.code ({ cls := "java/lang/String", name := "isLatin1", desc := "()Z" } : Jvm.MethodName) jdk_42_method_154_code (1 : Nat) (Option.some Jvm.ClassFile.FieldType.boolean)).before args0 about1 = true := code_word (m := ⟨7, 6⟩) (meth := k7m6) (c := k7c6) (by decide +kernel) rfl rfl rfl (by decide +kernel)
set_option maxRecDepth 65536 in
theorem w_c17 : (Jvm.Cond.code ({ cls := "java/lang/StringLatin1", name := "charAt", desc := "([BI)C" } : Jvm.MethodName) jdk_43_method_2_code (2 : Nat) (Option.some Jvm.ClassFile.FieldType.char)).before args0 about1 = true := code_word (m := ⟨10, 1⟩) (meth := k10m1) (c := k10c1) (by decide +kernel) rfl rfl rfl (by decide +kernel)
set_option maxRecDepth 65536 in
theorem w_c18 : (Jvm.Cond.code ({ cls := "java/lang/String", name := "checkIndex", desc := "(II)V" } : Jvm.MethodName) jdk_42_method_155_code (2 : Nat) (Option.none : Option Jvm.ClassFile.FieldType)).before args0 about1 = true := code_word (m := ⟨7, 7⟩) (meth := k7m7) (c := k7c7) (by decide +kernel) rfl rfl rfl (by decide +kernel)
set_option maxRecDepth 65536 in
theorem w_c19 : (Jvm.Cond.code ({ cls := "jdk/internal/util/Preconditions", name := "checkIndex", desc := "(IILjava/util/function/BiFunction;)I" } : Jvm.MethodName) jdk_41_method_11_code (3 : Nat) (Option.some Jvm.ClassFile.FieldType.int)).before args0 about1 = true := code_word (m := ⟨11, 1⟩) (meth := k11m1) (c := k11c1) (by decide +kernel) rfl rfl rfl (by decide +kernel)
set_option maxRecDepth 65536 in
theorem w_c20 : (Jvm.Cond.code ({ cls := "java/lang/StringUTF16", name := "toBytes", desc := "([CII)[B" } : Jvm.MethodName) jdk_52_method_14_code (5 : Nat) (Option.some (Jvm.ClassFile.FieldType.array Jvm.ClassFile.FieldType.byte))).before args0 about1 = true := code_word (m := ⟨9, 6⟩) (meth := k9m6) (c := k9c6) (by decide +kernel) rfl rfl rfl (by decide +kernel)
set_option maxRecDepth 65536 in
theorem w_c21 : (Jvm.Cond.code ({ cls := "java/lang/StringUTF16", name := "newBytesFor", desc := "(I)[B" } : Jvm.MethodName) jdk_52_method_2_code (1 : Nat) (Option.some (Jvm.ClassFile.FieldType.array Jvm.ClassFile.FieldType.byte))).before args0 about1 = true := code_word (m := ⟨9, 1⟩) (meth := k9m1) (c := k9c1) (by decide +kernel) rfl rfl rfl (by decide +kernel)
set_option maxRecDepth 65536 in
theorem w_c22 : (Jvm.Cond.code ({ cls := "java/lang/StringUTF16", name := "newBytesLength", desc := "(I)I" } : Jvm.MethodName) jdk_52_method_3_code (1 : Nat) (Option.some Jvm.ClassFile.FieldType.int)).before args0 about1 = true := code_word (m := ⟨9, 2⟩) (meth := k9m2) (c := k9c2) (by decide +kernel) rfl rfl rfl (by decide +kernel)
set_option maxRecDepth 65536 in
theorem w_c23 : (Jvm.Cond.code ({ cls := "java/lang/StringUTF16", name := "putChar", desc := "([BII)V" } : Jvm.MethodName) jdk_52_method_4_code (3 : Nat) (Option.none : Option Jvm.ClassFile.FieldType)).before args0 about1 = true := code_word (m := ⟨9, 3⟩) (meth := k9m3) (c := k9c3) (by decide +kernel) rfl rfl rfl (by decide +kernel)
set_option maxRecDepth 65536 in
theorem w_c24 : (Jvm.Cond.code ({ cls := "java/lang/StringUTF16", name := "getChar", desc := "([BI)C" } : Jvm.MethodName) jdk_52_method_5_code (2 : Nat) (Option.some Jvm.ClassFile.FieldType.char)).before args0 about1 = true := code_word (m := ⟨9, 4⟩) (meth := k9m4) (c := k9c4) (by decide +kernel) rfl rfl rfl (by decide +kernel)
set_option maxRecDepth 65536 in
theorem w_c25 : (Jvm.Cond.code ({ cls := "java/lang/StringUTF16", name := "charAt", desc := "([BI)C" } : Jvm.MethodName) jdk_52_method_83_code (2 : Nat) (Option.some Jvm.ClassFile.FieldType.char)).before args0 about1 = true := code_word (m := ⟨9, 10⟩) (meth := k9m10) (c := k9c10) (by decide +kernel) rfl rfl rfl (by decide +kernel)
set_option maxRecDepth 65536 in
theorem w_c26 : (Jvm.Cond.code ({ cls := "java/lang/StringUTF16", name := "checkIndex", desc := "(I[B)V" } : Jvm.MethodName) jdk_52_method_91_code (2 : Nat) (Option.none : Option Jvm.ClassFile.FieldType)).before args0 about1 = true := code_word (m := ⟨9, 11⟩) (meth := k9m11) (c := k9c11) (by decide +kernel) rfl rfl rfl (by decide +kernel)
set_option maxRecDepth 65536 in
theorem w_c27 : (Jvm.Cond.code ({ cls := "java/lang/StringUTF16", name := "length", desc := "([B)I" } : Jvm.MethodName) jdk_52_method_6_code (1 : Nat) (Option.some Jvm.ClassFile.FieldType.int)).before args0 about1 = true := code_word (m := ⟨9, 5⟩) (meth := k9m5) (c := k9c5) (by decide +kernel) rfl rfl rfl (by decide +kernel)
def codes1 : List Jvm.Cond := [Jvm.Cond.code x code maxLocals ret, Jvm.Cond.code ({ cls := "com/example/vestbook/vestbook/WholeNumbersIsPlanYearPinLaw", name := "draw", desc := "(I)C" } : Jvm.MethodName) method_2_code (1 : Nat) (Option.some Jvm.ClassFile.FieldType.char), Jvm.Cond.code ({ cls := "com/example/vestbook/vestbook/WholeNumbersIsPlanYearPinLaw", name := "make", desc := "(ICCCCC)Ljava/lang/String;" } : Jvm.MethodName) method_4_code (6 : Nat) (Option.some (Jvm.ClassFile.FieldType.object "java/lang/String")), Jvm.Cond.code ({ cls := "java/lang/String", name := "<init>", desc := "([C)V" } : Jvm.MethodName) jdk_42_method_3_code (2 : Nat) (Option.none : Option Jvm.ClassFile.FieldType), Jvm.Cond.code ({ cls := "java/lang/String", name := "<init>", desc := "([CIILjava/lang/Void;)V" } : Jvm.MethodName) jdk_42_method_149_code (6 : Nat) (Option.none : Option Jvm.ClassFile.FieldType), Jvm.Cond.code ({ cls := "java/lang/Object", name := "<init>", desc := "()V" } : Jvm.MethodName) object_method_1_code (1 : Nat) (Option.none : Option Jvm.ClassFile.FieldType), Jvm.Cond.code ({ cls := "com/example/vestbook/vestbook/WholeNumbers", name := "isPlanYear", desc := "(Ljava/lang/String;)Z" } : Jvm.MethodName) prog_7_method_2_code (1 : Nat) (Option.some Jvm.ClassFile.FieldType.boolean), Jvm.Cond.code ({ cls := "java/lang/String", name := "length", desc := "()I" } : Jvm.MethodName) jdk_42_method_54_code (1 : Nat) (Option.some Jvm.ClassFile.FieldType.int), Jvm.Cond.code ({ cls := "java/lang/String", name := "coder", desc := "()B" } : Jvm.MethodName) jdk_42_method_152_code (1 : Nat) (Option.some Jvm.ClassFile.FieldType.byte), Jvm.Cond.code ({ cls := "java/lang/StringUTF16", name := "compress", desc := "([CII)[B" } : Jvm.MethodName) jdk_52_method_16_code (6 : Nat) (Option.some (Jvm.ClassFile.FieldType.array Jvm.ClassFile.FieldType.byte)), Jvm.Cond.code ({ cls := "java/lang/StringUTF16", name := "compress", desc := "([CI[BII)I" } : Jvm.MethodName) jdk_52_method_21_code (7 : Nat) (Option.some Jvm.ClassFile.FieldType.int), Jvm.Cond.code ({ cls := "java/lang/StringUTF16", name := "coderFromArrayLen", desc := "([BI)B" } : Jvm.MethodName) jdk_52_method_15_code (2 : Nat) (Option.some Jvm.ClassFile.FieldType.byte), Jvm.Cond.code ({ cls := "com/example/vestbook/vestbook/WholeNumbersIsPlanYearPinLaw", name := "dig", desc := "(C)Z" } : Jvm.MethodName) method_3_code (1 : Nat) (Option.some Jvm.ClassFile.FieldType.boolean), Jvm.Cond.code ({ cls := "com/example/vestbook/vestbook/WholeNumbers", name := "isDigits", desc := "(Ljava/lang/String;)Z" } : Jvm.MethodName) prog_7_method_5_code (1 : Nat) (Option.some Jvm.ClassFile.FieldType.boolean), Jvm.Cond.code ({ cls := "com/example/vestbook/vestbook/WholeNumbers", name := "isDigits", desc := "(Ljava/lang/String;II)Z" } : Jvm.MethodName) prog_7_method_6_code (5 : Nat) (Option.some Jvm.ClassFile.FieldType.boolean), Jvm.Cond.code ({ cls := "java/lang/String", name := "charAt", desc := "(I)C" } : Jvm.MethodName) jdk_42_method_56_code (2 : Nat) (Option.some Jvm.ClassFile.FieldType.char), Jvm.Cond.code ({ cls := "java/lang/String", name := "isLatin1", desc := "()Z" } : Jvm.MethodName) jdk_42_method_154_code (1 : Nat) (Option.some Jvm.ClassFile.FieldType.boolean), Jvm.Cond.code ({ cls := "java/lang/StringLatin1", name := "charAt", desc := "([BI)C" } : Jvm.MethodName) jdk_43_method_2_code (2 : Nat) (Option.some Jvm.ClassFile.FieldType.char), Jvm.Cond.code ({ cls := "java/lang/String", name := "checkIndex", desc := "(II)V" } : Jvm.MethodName) jdk_42_method_155_code (2 : Nat) (Option.none : Option Jvm.ClassFile.FieldType), Jvm.Cond.code ({ cls := "jdk/internal/util/Preconditions", name := "checkIndex", desc := "(IILjava/util/function/BiFunction;)I" } : Jvm.MethodName) jdk_41_method_11_code (3 : Nat) (Option.some Jvm.ClassFile.FieldType.int), Jvm.Cond.code ({ cls := "java/lang/StringUTF16", name := "toBytes", desc := "([CII)[B" } : Jvm.MethodName) jdk_52_method_14_code (5 : Nat) (Option.some (Jvm.ClassFile.FieldType.array Jvm.ClassFile.FieldType.byte)), Jvm.Cond.code ({ cls := "java/lang/StringUTF16", name := "newBytesFor", desc := "(I)[B" } : Jvm.MethodName) jdk_52_method_2_code (1 : Nat) (Option.some (Jvm.ClassFile.FieldType.array Jvm.ClassFile.FieldType.byte)), Jvm.Cond.code ({ cls := "java/lang/StringUTF16", name := "newBytesLength", desc := "(I)I" } : Jvm.MethodName) jdk_52_method_3_code (1 : Nat) (Option.some Jvm.ClassFile.FieldType.int), Jvm.Cond.code ({ cls := "java/lang/StringUTF16", name := "putChar", desc := "([BII)V" } : Jvm.MethodName) jdk_52_method_4_code (3 : Nat) (Option.none : Option Jvm.ClassFile.FieldType), Jvm.Cond.code ({ cls := "java/lang/StringUTF16", name := "getChar", desc := "([BI)C" } : Jvm.MethodName) jdk_52_method_5_code (2 : Nat) (Option.some Jvm.ClassFile.FieldType.char), Jvm.Cond.code ({ cls := "java/lang/StringUTF16", name := "charAt", desc := "([BI)C" } : Jvm.MethodName) jdk_52_method_83_code (2 : Nat) (Option.some Jvm.ClassFile.FieldType.char), Jvm.Cond.code ({ cls := "java/lang/StringUTF16", name := "checkIndex", desc := "(I[B)V" } : Jvm.MethodName) jdk_52_method_91_code (2 : Nat) (Option.none : Option Jvm.ClassFile.FieldType), Jvm.Cond.code ({ cls := "java/lang/StringUTF16", name := "length", desc := "([B)I" } : Jvm.MethodName) jdk_52_method_6_code (1 : Nat) (Option.some Jvm.ClassFile.FieldType.int)]
set_option maxRecDepth 65536 in
theorem codes_eq : words1.filter isCode = codes1 := rfl
theorem w_codes : ∀ c ∈ words1.filter isCode, c.before args0 about1 = true := by
  rw [codes_eq]
  intro c hc
  simp only [codes1, List.mem_cons, List.not_mem_nil, or_false] at hc
  rcases hc with rfl | rfl | rfl | rfl | rfl | rfl | rfl | rfl | rfl | rfl | rfl | rfl | rfl | rfl | rfl | rfl | rfl | rfl | rfl | rfl | rfl | rfl | rfl | rfl | rfl | rfl | rfl | rfl
  · exact w_c0
  · exact w_c1
  · exact w_c2
  · exact w_c3
  · exact w_c4
  · exact w_c5
  · exact w_c6
  · exact w_c7
  · exact w_c8
  · exact w_c9
  · exact w_c10
  · exact w_c11
  · exact w_c12
  · exact w_c13
  · exact w_c14
  · exact w_c15
  · exact w_c16
  · exact w_c17
  · exact w_c18
  · exact w_c19
  · exact w_c20
  · exact w_c21
  · exact w_c22
  · exact w_c23
  · exact w_c24
  · exact w_c25
  · exact w_c26
  · exact w_c27
set_option maxRecDepth 65536 in
theorem w_t1 : (words1.take 24).all (fun c => isCode c || c.before args0 about1) = true := by decide +kernel
set_option maxRecDepth 65536 in
theorem w_t2 : ((words1.drop 24).take 24).all (fun c => isCode c || c.before args0 about1) = true := by decide +kernel
set_option maxRecDepth 65536 in
theorem w_t3 : (((words1.drop 24).drop 24).take 24).all (fun c => isCode c || c.before args0 about1) = true := by decide +kernel
set_option maxRecDepth 65536 in
theorem w_t4 : ((((words1.drop 24).drop 24).drop 24).take 24).all (fun c => isCode c || c.before args0 about1) = true := by decide +kernel
set_option maxRecDepth 65536 in
theorem w_t5 : ((((words1.drop 24).drop 24).drop 24).drop 24).all (fun c => isCode c || c.before args0 about1) = true := by decide +kernel
theorem w_tables : (allAtoms (Jvm.Cond.code x code maxLocals ret :: tables_1)).before args0 about1 = true := by
  rw [allAtoms_all]
  show words1.all (fun c => c.before args0 about1) = true
  refine all_split ?_ w_codes
  rw [← List.take_append_drop 24 words1, List.all_append, w_t1, ← List.take_append_drop 24 (words1.drop 24), List.all_append, w_t2, ← List.take_append_drop 24 ((words1.drop 24).drop 24), List.all_append, w_t3, ← List.take_append_drop 24 (((words1.drop 24).drop 24).drop 24), List.all_append, w_t4, w_t5]
  rfl
set_option maxRecDepth 65536 in
theorem w_rest : rest_1_c.before args0 about1 = true := by decide +kernel
set_option maxRecDepth 65536 in
theorem w_case : (Jvm.Cond.and given_1 narrow_1).before args0 about1 = true := by decide +kernel
set_option maxRecDepth 65536 in
theorem w_consts : constsHeld consts_1 about1 := Jvm.Lit.constsHeldB_iff.mp (by decide +kernel)
theorem w_applies : (headSpec (Jvm.Cond.code x code maxLocals ret :: tables_1) room_1).applies x e0.platform about1 = true :=
  (Spec.applies_iff w_frames).mpr ⟨w_running, w_runnable, w_alone, w_named, w_hears, w_ripe, w_room, w_tables⟩
theorem atStart : AtStart classFile x code maxLocals ret World_1 tables_1 room_1 Calls_1 rest_1 Pre_1 launch0 p0 e0 about1 theMethod args0 below0 :=
  ⟨lists_1, trivial, launch0.admits_env _ _ _, launch0.least_env, fairChoices_fair.cas, fairChoices_fair.clock, w_frames, w_args, w_heap, w_applies, ⟨w_consts, trivial⟩, w_rest, w_case⟩
end start1
theorem witness_1 : WitnessClaimed_1 := ⟨start1.p0, start1.e0, start1.about1, start1.theMethod, start1.args0, start1.below0, start1.atStart⟩
end Jvm.Pilot.@@N@@
