import JvmDerived
import JvmDerived.Pilot.@@N@@Statement
import JvmDerived.Pilot.@@N@@Code
set_option linter.unusedVariables false
set_option linter.unusedSimpArgs false
set_option maxRecDepth 65536
set_option maxHeartbeats 4000000
@@BLOCK:LamKit.lean.txt@@
@@BLOCK:TracedD.lean.txt@@
/- laws to paste: Road.backV, Road.eqW, Road.codOf (cut by pick.py; bodies as the Statement names them) -/
namespace Jvm.Pilot.@@N@@
namespace StrChars
open Jvm Sem ClassFile Op Lib Jvm.Stand Jvm.Free.XT Jvm.Free.ALB Jvm.Free.JM Jvm.Free
open Jvm.Lib.Cold (StaticIs)
/-- a char array whose places are chars -/
def Ch (a : Addr) (A : Cell) (U : State) : Prop := Arr .char a A U ∧ Typed .char A
theorem Ch.mv {a : Addr} {A : Cell} {U U' : State} (h : Ch a A U) (hal : U.vm.Alike U'.vm) (hh : U'.heap = U.heap) : Ch a A U' := ⟨h.1.mv hal hh, h.2⟩
theorem Ch.keep {a : Addr} {A : Cell} {U U' : State} (h : Ch a A U) (hal : U.vm.Alike U'.vm) (hk : U'.heap[a]? = some A) : Ch a A U' := ⟨h.1.keep hal hk, h.2⟩
/-- what place i of a char[]'s cell holds -/
def cv (A : Cell) (i : Nat) : Int32 := match A.slots[i]? with | some (.int x) => x | _ => 0
theorem Ch.get {a : Addr} {A : Cell} {U : State} (h : Ch a A U) {i : Nat} (hi : i < A.slots.size) : A.slots[i]? = some (.int (cv A i)) := by
  have e := Array.getElem?_eq_getElem hi
  have f := h.2 i _ e
  unfold cv; rw [e]
  generalize A.slots[i] = v at f
  cases v <;> simp [fits] at f ⊢
/-- the byte that i2b leaves of a char -/
def lo8 (x : Int32) : Int32 := x.toInt8.toInt32
theorem fits_lo8 (y : Int32) : fits .byte (.int (lo8 y)) = true := by
  have h1 := y.toInt8.le_toInt
  have h2 := y.toInt8.toInt_lt
  simp only [lo8, fits, Bool.and_eq_true, decide_eq_true_eq, Int32.le_iff_toInt_le, Int8.toInt_toInt32, show (-128 : Int32).toInt = -128 from by decide, show (127 : Int32).toInt = 127 from by decide]
  omega
/-- A' is A but that each place j of lo .. hi - 1 holds f j -/
def Laid (A A' : Cell) (lo hi : Nat) (f : Nat → Value) : Prop := A'.cls = A.cls ∧ A'.vm = A.vm ∧ A'.slots.size = A.slots.size ∧ ∀ i, A'.slots[i]? = if lo ≤ i ∧ i < hi then some (f i) else A.slots[i]?
theorem Laid.zero (A : Cell) (lo : Nat) (f : Nat → Value) : Laid A A lo (lo + 0) f := ⟨rfl, rfl, rfl, fun i => by rw [if_neg (by omega)]⟩
theorem Laid.step {A Ak : Cell} {lo k : Nat} {f : Nat → Value} {v : Value} (h : Laid A Ak lo k f) (hlo : lo ≤ k) (hk : k < Ak.slots.size) (hv : v = f k) : Laid A (Ak.setSlot k v) lo (k + 1) f := by
  refine ⟨h.1, h.2.1, by simpa [Cell.setSlot] using h.2.2.1, fun i => ?_⟩
  by_cases e : k = i
  · subst e; rw [Cell.slots_setSlot_self v hk, if_pos (by omega), hv]
  · rw [Cell.slots_setSlot_ne v e, h.2.2.2 i]
    by_cases q : lo ≤ i ∧ i < k
    · rw [if_pos q, if_pos (by omega)]
    · rw [if_neg q, if_neg (by omega)]
def U16 : String := "java/lang/StringUTF16"
namespace Cmp5
def yN : MethodName := ⟨"java/lang/StringUTF16", "compress", "([CI[BII)I"⟩
abbrev yB : ByteArray := jdk_52_method_21_code
theorem d0 : decode yB 0 = .ok (.iconst 0, 1) := by decide +kernel
theorem d1 : decode yB 1 = .ok (.istore 5, 2) := by decide +kernel
theorem d3 : decode yB 3 = .ok (.iload 5, 2) := by decide +kernel
theorem d5 : decode yB 5 = .ok (.iload 4, 2) := by decide +kernel
theorem d7 : decode yB 7 = .ok (.if_icmp (.ge) 37, 3) := by decide +kernel
theorem d10 : decode yB 10 = .ok (.aload_n 0, 1) := by decide +kernel
theorem d11 : decode yB 11 = .ok (.iload_n 1, 1) := by decide +kernel
theorem d12 : decode yB 12 = .ok (.caload, 1) := by decide +kernel
theorem d13 : decode yB 13 = .ok (.istore 6, 2) := by decide +kernel
theorem d15 : decode yB 15 = .ok (.iload 6, 2) := by decide +kernel
theorem d17 : decode yB 17 = .ok (.sipush 255, 3) := by decide +kernel
theorem d20 : decode yB 20 = .ok (.if_icmp (.le) 6, 3) := by decide +kernel
theorem d26 : decode yB 26 = .ok (.aload_n 2, 1) := by decide +kernel
theorem d27 : decode yB 27 = .ok (.iload_n 3, 1) := by decide +kernel
theorem d28 : decode yB 28 = .ok (.iload 6, 2) := by decide +kernel
theorem d30 : decode yB 30 = .ok (.i2b, 1) := by decide +kernel
theorem d31 : decode yB 31 = .ok (.bastore, 1) := by decide +kernel
theorem d32 : decode yB 32 = .ok (.iinc 1 1, 3) := by decide +kernel
theorem d35 : decode yB 35 = .ok (.iinc 3 1, 3) := by decide +kernel
theorem d38 : decode yB 38 = .ok (.iinc 5 1, 3) := by decide +kernel
theorem d41 : decode yB 41 = .ok (.goto (-38), 3) := by decide +kernel
theorem d44 : decode yB 44 = .ok (.iload 4, 2) := by decide +kernel
theorem d46 : decode yB 46 = .ok (.ireturn, 1) := by decide +kernel
def site : List Cond := []
def tab : Cond := tabOf yN yB 7 (some .int) site
def P (b : Addr) (A : Cell) (d : Addr) (B : Cell) (o q len : Nat) (args : Array Value) (s : State) : Prop := args = #[.ref b, .int (Int32.ofNat o), .ref d, .int (Int32.ofNat q), .int (Int32.ofNat len)] ∧ Ch b A s ∧ Arr .byte d B s ∧ b ≠ d ∧ o + len ≤ A.slots.size ∧ q + len ≤ B.slots.size ∧ ∀ i, i < len → ¬ 255 < cv A (o + i)
def E (b : Addr) (A : Cell) (d : Addr) (B : Cell) (o q len : Nat) (r : Option Value) (s u : State) : Prop := r = some (.int (Int32.ofNat len)) ∧ ∃ B', Put d B' s u ∧ Laid B B' q (q + len) (fun j => Value.int (lo8 (cv A (o + (j - q)))))
/-- no char of the range above 255: len; the places written hold each char's low byte -/
theorem law (l : Launch) (b : Addr) (A : Cell) (d : Addr) (B : Cell) (o q len : Nat) : Law l yN 5 5 0 0 yB 7 (some .int) site (P b A d B o q len) (E b A d B o q len) (copyLocs d q len) 0 0 := by
  refine Law.of_walk (plainFor_of_name (by decide +kernel)) (by decide +kernel) (by decide +kernel) (by decide) (fun _ _ h => by rw [h.1]; rfl) (fun _ U U' hal hh h => ⟨h.1, h.2.1.mv hal hh, h.2.2.1.mv hal hh, h.2.2.2⟩) (fun r U U' V V' h1 hal h2 h => ⟨h.1, h.2.elim fun B' q => ⟨B', q.1.mv h1 h2, q.2⟩⟩) ?_
  intro p e s m args below meth c s₁ X0 hexec hbytes hml hret hlk hnm hown hh0 W hP
  obtain ⟨rfl, hA, hB, hne, l1, l2, hp⟩ := hP
  have c1 : Steps p.tables e below (s₁.setTop (entryFrame m #[.ref b, .int (Int32.ofNat o), .ref d, .int (Int32.ofNat q), .int (Int32.ofNat len)] 7)) (s₁.setTop (mkF m 0 #[.val (.ref b), .val (.int (Int32.ofNat o)), .val (.ref d), .val (.int (Int32.ofNat q)), .val (.int (Int32.ofNat len)), .unset, .unset] [])) := entry rfl
  have hA0 := hA.1.mv X0.warmed.alike hh0
  have hB0 := hB.mv X0.warmed.alike hh0
  have a31 := hA.1.2.2.2
  have c2 : Steps p.tables e below (s₁.setTop (entryFrame m #[.ref b, .int (Int32.ofNat o), .ref d, .int (Int32.ofNat q), .int (Int32.ofNat len)] 7)) (s₁.setTop (mkF m 3 #[.val (.ref b), .val (.int (Int32.ofNat o)), .val (.ref d), .val (.int (Int32.ofNat q)), .val (.int (Int32.ofNat len)), .val (.int 0), .unset] [])) := c1.trans (by
    refine iconstV X0.here hexec rfl 0 (hb hbytes d0) (by decide) ?_
    refine XS.istore X0.here hexec rfl (hb hbytes d1) rfl rfl ?_
    exact Steps.refl _)
  have loop : ∀ (r i : Nat), i + r = len → ∀ (z : Slot), (z = .unset ∨ ∃ w, z = .val w ∧ w.category = 1) → ∀ (Tl : State) (Bk : Cell), Stand p l e { frames := 0, locals := 0, cells := 0, slots := 0 } s m #[.ref b, .int (Int32.ofNat o), .ref d, .int (Int32.ofNat q), .int (Int32.ofNat len)] below meth c Tl ([] ++ copyLocs d q i) 0 0 → Put d Bk s₁ Tl → Laid B Bk q (q + i) (fun j => Value.int (lo8 (cv A (o + (j - q))))) →
      Steps p.tables e below (s₁.setTop (entryFrame m #[.ref b, .int (Int32.ofNat o), .ref d, .int (Int32.ofNat q), .int (Int32.ofNat len)] 7)) (Tl.setTop (mkF m 3 #[.val (.ref b), .val (.int (Int32.ofNat (o + i))), .val (.ref d), .val (.int (Int32.ofNat (q + i))), .val (.int (Int32.ofNat len)), .val (.int (Int32.ofNat i)), z] [])) → ∃ (T' : State) (B' : Cell) (z' : Slot), Stand p l e { frames := 0, locals := 0, cells := 0, slots := 0 } s m #[.ref b, .int (Int32.ofNat o), .ref d, .int (Int32.ofNat q), .int (Int32.ofNat len)] below meth c T' ([] ++ copyLocs d q len) 0 0 ∧ Put d B' s₁ T' ∧ Laid B B' q (q + len) (fun j => Value.int (lo8 (cv A (o + (j - q))))) ∧
      Steps p.tables e below (s₁.setTop (entryFrame m #[.ref b, .int (Int32.ofNat o), .ref d, .int (Int32.ofNat q), .int (Int32.ofNat len)] 7)) (T'.setTop (mkF m 3 #[.val (.ref b), .val (.int (Int32.ofNat (o + len))), .val (.ref d), .val (.int (Int32.ofNat (q + len))), .val (.int (Int32.ofNat len)), .val (.int (Int32.ofNat len)), z'] [])) := by
    intro r
    induction r with
    | zero =>
      intro i hi z hz Tl Bk Xl pl fl cl
      have hil : i = len := by omega
      rw [hil] at Xl fl cl
      exact ⟨Tl, Bk, z, Xl, pl, fl, cl⟩
    | succ r ih =>
      intro i hi z hz Tl Bk Xl pl fl cl
      have all := X0.warmed.alike.symm.trans Xl.warmed.alike
      have hAl := hA0.keep all (pl.other hne hA0.1)
      have hBk := hB0.like all pl.1 fl.1 fl.2.1 fl.2.2.1
      have hlt : q + i < Bk.slots.size := by rw [fl.2.2.1]; omega
      have c3 : Steps p.tables e below (s₁.setTop (entryFrame m #[.ref b, .int (Int32.ofNat o), .ref d, .int (Int32.ofNat q), .int (Int32.ofNat len)] 7)) (Tl.setTop (mkF m 12 #[.val (.ref b), .val (.int (Int32.ofNat (o + i))), .val (.ref d), .val (.int (Int32.ofNat (q + i))), .val (.int (Int32.ofNat len)), .val (.int (Int32.ofNat i)), z] [.int (Int32.ofNat (o + i)), .ref b])) := cl.trans (by
        refine XS.iload Xl.here hexec rfl (hb hbytes d3) rfl ?_
        refine XS.iload Xl.here hexec rfl (hb hbytes d5) rfl ?_
        refine XS.icmpNo Xl.here hexec rfl (hb hbytes d7) rfl (ii_ge_f (lt32 (by omega) (by omega))) ?_
        refine XS.aloadN Xl.here hexec rfl (hb hbytes d10) rfl rfl ?_
        refine XS.iloadN Xl.here hexec rfl (hb hbytes d11) rfl ?_
        exact Steps.refl _)
      have c4 : Steps p.tables e below (s₁.setTop (entryFrame m #[.ref b, .int (Int32.ofNat o), .ref d, .int (Int32.ofNat q), .int (Int32.ofNat len)] 7)) (Tl.setTop (mkF m 13 #[.val (.ref b), .val (.int (Int32.ofNat (o + i))), .val (.ref d), .val (.int (Int32.ofNat (q + i))), .val (.int (Int32.ofNat len)), .val (.int (Int32.ofNat i)), z] [.int (cv A (o + i))])) := c3.trans (by
        refine Xl.aget hexec hAl rfl (hA.get (i := o + i) (by omega)) rfl rfl (hb hbytes d12) ?_
        exact Steps.refl _)
      have c5 : Steps p.tables e below (s₁.setTop (entryFrame m #[.ref b, .int (Int32.ofNat o), .ref d, .int (Int32.ofNat q), .int (Int32.ofNat len)] 7)) (Tl.setTop (mkF m 15 #[.val (.ref b), .val (.int (Int32.ofNat (o + i))), .val (.ref d), .val (.int (Int32.ofNat (q + i))), .val (.int (Int32.ofNat len)), .val (.int (Int32.ofNat i)), .val (.int (cv A (o + i)))] [])) := c4.trans (by
        refine XS.istoreS Xl.here hexec rfl (hb hbytes d13) rfl rfl hz ?_
        exact Steps.refl _)
      have c6 : Steps p.tables e below (s₁.setTop (entryFrame m #[.ref b, .int (Int32.ofNat o), .ref d, .int (Int32.ofNat q), .int (Int32.ofNat len)] 7)) (Tl.setTop (mkF m 31 #[.val (.ref b), .val (.int (Int32.ofNat (o + i))), .val (.ref d), .val (.int (Int32.ofNat (q + i))), .val (.int (Int32.ofNat len)), .val (.int (Int32.ofNat i)), .val (.int (cv A (o + i)))] [.int (lo8 (cv A (o + i))), .int (Int32.ofNat (q + i)), .ref d])) := c5.trans (by
        refine XS.iload Xl.here hexec rfl (hb hbytes d15) rfl ?_
        refine sipushV Xl.here hexec rfl 255 (hb hbytes d17) (by decide) ?_
        refine XS.icmpYes Xl.here hexec rfl (pc0 := 20) rfl (hb hbytes d20) rfl (ii_le_t (hp i (by omega))) (by decide) rfl ?_
        refine XS.aloadN Xl.here hexec rfl (hb hbytes d26) rfl rfl ?_
        refine XS.iloadN Xl.here hexec rfl (hb hbytes d27) rfl ?_
        refine XS.iload Xl.here hexec rfl (hb hbytes d28) rfl ?_
        refine i2b Xl.here hexec rfl (hb hbytes d30) rfl ?_
        exact Steps.refl _)
      obtain ⟨T7, X7, p7, st7⟩ := Xl.aput hexec hBk rfl hlt rfl (fits_lo8 (cv A (o + i))) (g := (mkF m 31 #[.val (.ref b), .val (.int (Int32.ofNat (o + i))), .val (.ref d), .val (.int (Int32.ofNat (q + i))), .val (.int (Int32.ofNat len)), .val (.int (Int32.ofNat i)), .val (.int (cv A (o + i)))] [.int (lo8 (cv A (o + i))), .int (Int32.ofNat (q + i)), .ref d])) rfl (rest := []) rfl (hb hbytes d31)
      have c8 : Steps p.tables e below (s₁.setTop (entryFrame m #[.ref b, .int (Int32.ofNat o), .ref d, .int (Int32.ofNat q), .int (Int32.ofNat len)] 7)) (T7.setTop (mkF m 32 #[.val (.ref b), .val (.int (Int32.ofNat (o + i))), .val (.ref d), .val (.int (Int32.ofNat (q + i))), .val (.int (Int32.ofNat len)), .val (.int (Int32.ofNat i)), .val (.int (cv A (o + i)))] [])) := c6.trans (st7 _ (Steps.refl _))
      have c9 : Steps p.tables e below (s₁.setTop (entryFrame m #[.ref b, .int (Int32.ofNat o), .ref d, .int (Int32.ofNat q), .int (Int32.ofNat len)] 7)) (T7.setTop (mkF m 3 #[.val (.ref b), .val (.int (Int32.ofNat (o + i) + 1)), .val (.ref d), .val (.int (Int32.ofNat (q + i) + 1)), .val (.int (Int32.ofNat len)), .val (.int (Int32.ofNat i + 1)), .val (.int (cv A (o + i)))] [])) := c8.trans (by
        refine iincV X7.here hexec rfl 1 (hb hbytes d32) (by decide) rfl rfl ?_
        refine iincV X7.here hexec rfl 1 (hb hbytes d35) (by decide) rfl rfl ?_
        refine iincV X7.here hexec rfl 1 (hb hbytes d38) (by decide) rfl rfl ?_
        refine XS.goto X7.here hexec rfl (pc0 := 41) rfl (hb hbytes d41) (by decide) rfl ?_
        exact Steps.refl _)
      have c10 : Steps p.tables e below (s₁.setTop (entryFrame m #[.ref b, .int (Int32.ofNat o), .ref d, .int (Int32.ofNat q), .int (Int32.ofNat len)] 7)) (T7.setTop (mkF m 3 #[.val (.ref b), .val (.int (Int32.ofNat (o + (i + 1)))), .val (.ref d), .val (.int (Int32.ofNat (q + (i + 1)))), .val (.int (Int32.ofNat len)), .val (.int (Int32.ofNat (i + 1))), .val (.int (cv A (o + i)))] [])) := by
        have := c9
        rw [succ32, succ32, succ32] at this
        exact this
      exact ih (i + 1) (by omega) _ (Or.inr ⟨_, rfl, rfl⟩) T7 _ (by rw [copyLocs_step, ← List.append_assoc]; exact X7) (pl.trans p7) (fl.step (by omega) hlt (by simp)) c10
  obtain ⟨T9, B9, z9, X9, p9, f9, g9⟩ := loop len 0 (by omega) .unset (Or.inl rfl) s₁ B (by simpa [copyLocs] using X0) ⟨hB0.1, fun _ _ => rfl, rfl⟩ (Laid.zero _ _ _) c2
  have c11 : Steps p.tables e below (s₁.setTop (entryFrame m #[.ref b, .int (Int32.ofNat o), .ref d, .int (Int32.ofNat q), .int (Int32.ofNat len)] 7)) (T9.setTop (mkF m 46 #[.val (.ref b), .val (.int (Int32.ofNat (o + len))), .val (.ref d), .val (.int (Int32.ofNat (q + len))), .val (.int (Int32.ofNat len)), .val (.int (Int32.ofNat len)), z9] [.int (Int32.ofNat len)])) := g9.trans (by
    refine XS.iload X9.here hexec rfl (hb hbytes d3) rfl ?_
    refine XS.iload X9.here hexec rfl (hb hbytes d5) rfl ?_
    refine XS.icmpYes X9.here hexec rfl (pc0 := 7) rfl (hb hbytes d7) rfl (ii_ge_t (nlt32 (by omega) (Nat.le_refl _))) (by decide) rfl ?_
    refine XS.iload X9.here hexec rfl (hb hbytes d44) rfl ?_
    exact Steps.refl _)
  exact ⟨T9, some (.int (Int32.ofNat len)), _, _, _, X9, by simp, rfl, rfl, (fun h => by cases h), ⟨rfl, B9, p9.from hh0, f9⟩, fun fs hl => c11.trans (X9.ireturnOut hexec hret rfl (Or.inl rfl) (hb hbytes d46) hl)⟩
end Cmp5
namespace Cmp3
def yN : MethodName := ⟨"java/lang/StringUTF16", "compress", "([CII)[B"⟩
abbrev yB : ByteArray := jdk_52_method_16_code
theorem d0 : decode yB 0 = .ok (.iload_n 2, 1) := by decide +kernel
theorem d1 : decode yB 1 = .ok (.newarray .byte, 2) := by decide +kernel
theorem d3 : decode yB 3 = .ok (.astore_n 3, 1) := by decide +kernel
theorem d4 : decode yB 4 = .ok (.aload_n 0, 1) := by decide +kernel
theorem d5 : decode yB 5 = .ok (.iload_n 1, 1) := by decide +kernel
theorem d6 : decode yB 6 = .ok (.aload_n 3, 1) := by decide +kernel
theorem d7 : decode yB 7 = .ok (.iconst 0, 1) := by decide +kernel
theorem d8 : decode yB 8 = .ok (.iload_n 2, 1) := by decide +kernel
theorem d9 : decode yB 9 = .ok (.invokestatic 115, 3) := by decide +kernel
theorem d12 : decode yB 12 = .ok (.istore 4, 2) := by decide +kernel
theorem d14 : decode yB 14 = .ok (.iload 4, 2) := by decide +kernel
theorem d16 : decode yB 16 = .ok (.iload_n 2, 1) := by decide +kernel
theorem d17 : decode yB 17 = .ok (.if_icmp (.eq) 40, 3) := by decide +kernel
theorem d57 : decode yB 57 = .ok (.aload_n 3, 1) := by decide +kernel
theorem d58 : decode yB 58 = .ok (.areturn, 1) := by decide +kernel
def site : List Cond := [.arrayClass .byte, Cmp5.tab] ++ staticW U16 115 Cmp5.yN
def tab : Cond := tabOf yN yB 6 (some (.array .byte)) site
def P (b : Addr) (A : Cell) (o len : Nat) (args : Array Value) (s : State) : Prop := args = #[.ref b, .int (Int32.ofNat o), .int (Int32.ofNat len)] ∧ Ch b A s ∧ o + len ≤ A.slots.size ∧ len ≤ 536870912 ∧ ∀ i, i < len → ¬ 255 < cv A (o + i)
def E (b : Addr) (A : Cell) (o len : Nat) (r : Option Value) (s u : State) : Prop := NewArr .byte "[B" len (fun j => .int (lo8 (cv A (o + j)))) r s u ∧ u.heap.size = s.heap.size + 1
/-- no char of the range above 255: a new byte[] of their low bytes -/
theorem law (l : Launch) (b : Addr) (A : Cell) (o len : Nat) : Law l yN 3 3 1 18 yB 6 (some (.array .byte)) site (P b A o len) (E b A o len) [] 1 len := by
  refine Law.of_walk (plainFor_of_name (by decide +kernel)) (by decide +kernel) (by decide +kernel) (by decide) (fun _ _ h => by rw [h.1]; rfl) (fun _ U U' hal hh h => ⟨h.1, h.2.1.mv hal hh, h.2.2⟩) (fun r U U' V V' h1 hal h2 h => ⟨NewArr.mv r U U' V V' h1 hal h2 h.1, by rw [h1, h2]; exact h.2⟩) ?_
  intro p e s m args below meth c s₁ X0 hexec hbytes hml hret hlk hnm hown hh0 W hP
  obtain ⟨rfl, hA, l1, l2, hp⟩ := hP
  have a31 := hA.1.2.2.2
  have c1 : Steps p.tables e below (s₁.setTop (entryFrame m #[.ref b, .int (Int32.ofNat o), .int (Int32.ofNat len)] 6)) (s₁.setTop (mkF m 0 #[.val (.ref b), .val (.int (Int32.ofNat o)), .val (.int (Int32.ofNat len)), .unset, .unset, .unset] [])) := entry rfl
  have c2 : Steps p.tables e below (s₁.setTop (entryFrame m #[.ref b, .int (Int32.ofNat o), .int (Int32.ofNat len)] 6)) (s₁.setTop (mkF m 1 #[.val (.ref b), .val (.int (Int32.ofNat o)), .val (.int (Int32.ofNat len)), .unset, .unset, .unset] [.int (Int32.ofNat len)])) := c1.trans (by
    refine XS.iloadN X0.here hexec rfl (hb hbytes d0) rfl ?_
    exact Steps.refl _)
  obtain ⟨T3, B3, X3, ba3, bs3, bv3, bh3, bf3, st3⟩ := X0.anew hexec (atype := .byte) (wk W (.arrayClass .byte)) rfl (by show len * 1 ≤ _; omega) (by omega) (g := (mkF m 1 #[.val (.ref b), .val (.int (Int32.ofNat o)), .val (.int (Int32.ofNat len)), .unset, .unset, .unset] [.int (Int32.ofNat len)])) rfl (hb hbytes d1) (rest := []) rfl (Nat.le_refl _) (by show 0 + len ≤ len; omega)
  rw [hh0] at ba3 st3
  have kp3 : XT.Kept s T3 := (XT.Kept.of_eq hh0).push bh3
  have hA3 := hA.keep X3.warmed.alike (kp3 _ _ hA.1.1)
  have hne : b ≠ s.heap.size := hA.1.ne
  have c4 : Steps p.tables e below (s₁.setTop (entryFrame m #[.ref b, .int (Int32.ofNat o), .int (Int32.ofNat len)] 6)) (T3.setTop (mkF m 3 #[.val (.ref b), .val (.int (Int32.ofNat o)), .val (.int (Int32.ofNat len)), .unset, .unset, .unset] [.ref s.heap.size])) := c2.trans (st3 _ (Steps.refl _))
  have c5 : Steps p.tables e below (s₁.setTop (entryFrame m #[.ref b, .int (Int32.ofNat o), .int (Int32.ofNat len)] 6)) (T3.setTop (mkF m 9 #[.val (.ref b), .val (.int (Int32.ofNat o)), .val (.int (Int32.ofNat len)), .val (.ref s.heap.size), .unset, .unset] [.int (Int32.ofNat len), .int 0, .ref s.heap.size, .int (Int32.ofNat o), .ref b])) := c4.trans (by
    refine XS.astoreN X3.here hexec rfl (hb hbytes d3) rfl rfl rfl ?_
    refine XS.aloadN X3.here hexec rfl (hb hbytes d4) rfl rfl ?_
    refine XS.iloadN X3.here hexec rfl (hb hbytes d5) rfl ?_
    refine XS.aloadN X3.here hexec rfl (hb hbytes d6) rfl rfl ?_
    refine iconstV X3.here hexec rfl 0 (hb hbytes d7) (by decide) ?_
    refine XS.iloadN X3.here hexec rfl (hb hbytes d8) rfl ?_
    exact Steps.refl _)
  obtain ⟨v6, T6, X6, E6, g6⟩ := X3.callS hexec (Cmp5.law l b A s.heap.size B3 o 0 len) hown (wks W (staticW U16 115 Cmp5.yN)) (wk W Cmp5.tab) (W := 0) (Nat.le_of_ble_eq_true rfl) (Nat.le_of_ble_eq_true rfl) (Nat.le_refl _) (by show 0 + len + 0 ≤ len; omega) (g := (mkF m 9 #[.val (.ref b), .val (.int (Int32.ofNat o)), .val (.int (Int32.ofNat len)), .val (.ref s.heap.size), .unset, .unset] [.int (Int32.ofNat len), .int (Int32.ofNat 0), .ref s.heap.size, .int (Int32.ofNat o), .ref b])) rfl (by rw [hml]; rfl) c5 (argsL := [.ref b, .int (Int32.ofNat o), .ref s.heap.size, .int (Int32.ofNat 0), .int (Int32.ofNat len)]) (rest := []) rfl rfl (by show 2 * 0 + 0 ≤ _; decide) (hb hbytes d9) (⟨rfl, hA3, ba3, hne, l1, by rw [bs3]; simp, hp⟩)
  obtain ⟨rfl, B6, p6, f6⟩ := E6
  have c7 : Steps p.tables e below (s₁.setTop (entryFrame m #[.ref b, .int (Int32.ofNat o), .int (Int32.ofNat len)] 6)) (T6.setTop (mkF m 12 #[.val (.ref b), .val (.int (Int32.ofNat o)), .val (.int (Int32.ofNat len)), .val (.ref s.heap.size), .unset, .unset] [.int (Int32.ofNat len)])) := g6
  have c8 : Steps p.tables e below (s₁.setTop (entryFrame m #[.ref b, .int (Int32.ofNat o), .int (Int32.ofNat len)] 6)) (T6.setTop (mkF m 58 #[.val (.ref b), .val (.int (Int32.ofNat o)), .val (.int (Int32.ofNat len)), .val (.ref s.heap.size), .val (.int (Int32.ofNat len)), .unset] [.ref s.heap.size])) := c7.trans (by
    refine XS.istore X6.here hexec rfl (hb hbytes d12) rfl rfl ?_
    refine XS.iload X6.here hexec rfl (hb hbytes d14) rfl ?_
    refine XS.iloadN X6.here hexec rfl (hb hbytes d16) rfl ?_
    refine XS.icmpYes X6.here hexec rfl (pc0 := 17) rfl (hb hbytes d17) rfl (ii_eq_t rfl) (by decide) rfl ?_
    refine XS.aloadN X6.here hexec rfl (hb hbytes d57) rfl rfl ?_
    exact Steps.refl _)
  have X8 := X6.wide (L' := []) (cells' := 1) (slots' := len) (fun x hx hlt => by
    simp only [List.nil_append, copyLocs, List.mem_map, List.mem_range] at hx
    obtain ⟨i, -, rfl⟩ := hx
    exact absurd hlt (Nat.lt_irrefl _)) (Nat.le_refl _) (by omega)
  exact ⟨T6, some (.ref s.heap.size), _, _, _, X8, rfl, rfl, rfl, (fun h => by cases h), ⟨⟨rfl, B6, ba3.like (X3.warmed.alike.symm.trans X6.warmed.alike) p6.1 f6.1 f6.2.1 f6.2.2.1, f6.2.1.trans bv3, by rw [X6.warmed.alike.findClass, f6.1]; exact bf3, by rw [f6.2.2.1, bs3]; simp, fun j hj => by rw [f6.2.2.2 j, if_pos (by omega)]; rfl, kp3.put p6 (Nat.le_refl _)⟩, by rw [p6.2.2, bh3, hh0]; simp⟩, fun fs hl => c8.trans (X8.areturnOut hexec rfl hret rfl (hb hbytes d58) hl)⟩
end Cmp3
namespace CodL
def yN : MethodName := ⟨"java/lang/StringUTF16", "coderFromArrayLen", "([BI)B"⟩
abbrev yB : ByteArray := jdk_52_method_15_code
theorem d0 : decode yB 0 = .ok (.iload_n 1, 1) := by decide +kernel
theorem d1 : decode yB 1 = .ok (.aload_n 0, 1) := by decide +kernel
theorem d2 : decode yB 2 = .ok (.arraylength, 1) := by decide +kernel
theorem d3 : decode yB 3 = .ok (.isub, 1) := by decide +kernel
theorem d4 : decode yB 4 = .ok (.bipush 31, 2) := by decide +kernel
theorem d6 : decode yB 6 = .ok (.iushr, 1) := by decide +kernel
theorem d7 : decode yB 7 = .ok (.i2b, 1) := by decide +kernel
theorem d8 : decode yB 8 = .ok (.ireturn, 1) := by decide +kernel
def site : List Cond := []
def tab : Cond := tabOf yN yB 2 (some .byte) site
def P (d : Addr) (B : Cell) (args : Array Value) (s : State) : Prop := args = #[.ref d, .int (Int32.ofNat B.slots.size)] ∧ Arr .byte d B s
def E (r : Option Value) (s u : State) : Prop := XT.PureE (some (.int 0)) r s u
/-- an array as long as the number of chars: LATIN1 -/
theorem law (l : Launch) (d : Addr) (B : Cell) : Law l yN 2 2 0 0 yB 2 (some .byte) site (P d B) E [] 0 0 := by
  refine Law.of_walk (plainFor_of_name (by decide +kernel)) (by decide +kernel) (by decide +kernel) (by decide) (fun _ _ h => by rw [h.1]; rfl) (fun _ U U' hal hh h => ⟨h.1, h.2.mv hal hh⟩) (fun r U U' V V' h1 hal h2 h => XT.PureE.mv r U U' V V' h1 hal h2 h) ?_
  intro p e s m args below meth c s₁ X0 hexec hbytes hml hret hlk hnm hown hh0 W hP
  obtain ⟨rfl, hB⟩ := hP
  have hB0 := hB.mv X0.warmed.alike hh0
  have c1 : Steps p.tables e below (s₁.setTop (entryFrame m #[.ref d, .int (Int32.ofNat B.slots.size)] 2)) (s₁.setTop (mkF m 0 #[.val (.ref d), .val (.int (Int32.ofNat B.slots.size))] [])) := entry rfl
  have c2 : Steps p.tables e below (s₁.setTop (entryFrame m #[.ref d, .int (Int32.ofNat B.slots.size)] 2)) (s₁.setTop (mkF m 2 #[.val (.ref d), .val (.int (Int32.ofNat B.slots.size))] [.ref d, .int (Int32.ofNat B.slots.size)])) := c1.trans (by
    refine XS.iloadN X0.here hexec rfl (hb hbytes d0) rfl ?_
    refine XS.aloadN X0.here hexec rfl (hb hbytes d1) rfl rfl ?_
    exact Steps.refl _)
  have c3 : Steps p.tables e below (s₁.setTop (entryFrame m #[.ref d, .int (Int32.ofNat B.slots.size)] 2)) (s₁.setTop (mkF m 8 #[.val (.ref d), .val (.int (Int32.ofNat B.slots.size))] [.int (lo8 (ushr (Int32.ofNat B.slots.size - Int32.ofNat B.slots.size) 31))])) := c2.trans (by
    refine X0.alen hexec hB0 rfl rfl (hb hbytes d2) ?_
    refine XS.isub X0.here hexec rfl (hb hbytes d3) rfl ?_
    refine bipushV X0.here hexec rfl 31 (hb hbytes d4) (by decide) ?_
    refine iushr X0.here hexec rfl (hb hbytes d6) rfl ?_
    refine i2b X0.here hexec rfl (hb hbytes d7) rfl ?_
    exact Steps.refl _)
  have e0 : lo8 (ushr (Int32.ofNat B.slots.size - Int32.ofNat B.slots.size) 31) = 0 := by rw [Int32.sub_self]; decide
  rw [e0] at c3
  exact ⟨s₁, some (.int 0), _, _, _, X0, rfl, rfl, rfl, (fun h => by cases h), ⟨rfl, hh0⟩, fun fs hl => c3.trans (X0.ireturnOut hexec hret rfl (Or.inr (Or.inr (Or.inl rfl))) (hb hbytes d8) hl)⟩
end CodL
/-- the String at a is Latin-1 over a new byte[] (the heap's one new cell): the low bytes of the len chars of A from o on; every cell but a is kept -/
def Got (a : Addr) (D : Cell) (fV fC : Field) (A : Cell) (o len : Nat) (r : Option Value) (s u : State) : Prop := r = none ∧ ∃ D' V : Cell, Blank "java/lang/String" a D' u ∧ Same D D' [fV.slot, fC.slot] ∧ D'.slots[fV.slot]? = some (.ref s.heap.size) ∧ D'.slots[fC.slot]? = some (.int 0) ∧ Arr .byte s.heap.size V u ∧ V.vm = .none ∧ u.vm.findClass "[B" = some V.cls ∧ V.slots.size = len ∧ (∀ j, j < len → V.slots[j]? = some (.int (lo8 (cv A (o + j))))) ∧ (∀ (y : Addr) (c : Cell), y ≠ a → s.heap[y]? = some c → u.heap[y]? = some c) ∧ u.heap.size = s.heap.size + 1
theorem Got.mv {a : Addr} {D A : Cell} {fV fC : Field} {o len : Nat} : ∀ r (U U' V V' : State), U'.heap = U.heap → V.vm.Alike V'.vm → V'.heap = V.heap → Got a D fV fC A o len r U V → Got a D fV fC A o len r U' V' :=
  fun r U U' V V' h1 hal h2 ⟨e0, D', X, a1, a2, a3, a4, a5, a6, a7, a8, a9, a10, a11⟩ => ⟨e0, D', X, a1.mv hal h2, a2, by rw [h1]; exact a3, a4, by rw [h1]; exact a5.mv hal h2, a6, by rw [hal.findClass]; exact a7, a8, a9, by rw [h1, h2]; exact a10, by rw [h1, h2]; exact a11⟩
namespace New4
def yN : MethodName := ⟨"java/lang/String", "<init>", "([CIILjava/lang/Void;)V"⟩
abbrev yB : ByteArray := jdk_42_method_149_code
theorem d0 : decode yB 0 = .ok (.aload_n 0, 1) := by decide +kernel
theorem d1 : decode yB 1 = .ok (.invokespecial 1, 3) := by decide +kernel
theorem d4 : decode yB 4 = .ok (.iload_n 3, 1) := by decide +kernel
theorem d5 : decode yB 5 = .ok (.ifCond (.ne) 22, 3) := by decide +kernel
theorem d27 : decode yB 27 = .ok (.getstatic 38, 3) := by decide +kernel
theorem d30 : decode yB 30 = .ok (.ifCond (.eq) 28, 3) := by decide +kernel
theorem d33 : decode yB 33 = .ok (.aload_n 1, 1) := by decide +kernel
theorem d34 : decode yB 34 = .ok (.iload_n 2, 1) := by decide +kernel
theorem d35 : decode yB 35 = .ok (.iload_n 3, 1) := by decide +kernel
theorem d36 : decode yB 36 = .ok (.invokestatic 177, 3) := by decide +kernel
theorem d39 : decode yB 39 = .ok (.astore 5, 2) := by decide +kernel
theorem d41 : decode yB 41 = .ok (.aload_n 0, 1) := by decide +kernel
theorem d42 : decode yB 42 = .ok (.aload 5, 2) := by decide +kernel
theorem d44 : decode yB 44 = .ok (.iload_n 3, 1) := by decide +kernel
theorem d45 : decode yB 45 = .ok (.invokestatic 47, 3) := by decide +kernel
theorem d48 : decode yB 48 = .ok (.putfield 15, 3) := by decide +kernel
theorem d51 : decode yB 51 = .ok (.aload_n 0, 1) := by decide +kernel
theorem d52 : decode yB 52 = .ok (.aload 5, 2) := by decide +kernel
theorem d54 : decode yB 54 = .ok (.putfield 9, 3) := by decide +kernel
theorem d57 : decode yB 57 = .ok (.return_, 1) := by decide +kernel
def site : List Cond := [.fieldLink "java/lang/String" 38 "java/lang/String" "COMPACT_STRINGS" "Z", Cmp3.tab, CodL.tab, .laysFinal "java/lang/String" "java/lang/String" "value" "[B", .fieldLink "java/lang/String" 9 "java/lang/String" "value" "[B", .laysFinal "java/lang/String" "java/lang/String" "coder" "B", .fieldLink "java/lang/String" 15 "java/lang/String" "coder" "B"] ++ objW "java/lang/String" 1 ++ staticW "java/lang/String" 177 Cmp3.yN ++ staticW "java/lang/String" 47 CodL.yN
def tab : Cond := tabOf yN yB 6 none site
def P (a : Addr) (D : Cell) (fV fC : Field) (b : Addr) (A : Cell) (z : Int32) (o len : Nat) (args : Array Value) (s : State) : Prop := args = #[.ref a, .ref b, .int (Int32.ofNat o), .int (Int32.ofNat len), .null] ∧ Blank "java/lang/String" a D s ∧ Found "java/lang/String" "value" "[B" fV s ∧ Found "java/lang/String" "coder" "B" fC s ∧ Ch b A s ∧ StaticIs s "java/lang/String" "COMPACT_STRINGS" "Z" (.int z) ∧ ¬ z = 0 ∧ 0 < len ∧ o + len ≤ A.slots.size ∧ len ≤ 536870912 ∧ ∀ i, i < len → ¬ 255 < cv A (o + i)
def E (a : Addr) (D : Cell) (fV fC : Field) (A : Cell) (o len : Nat) (r : Option Value) (s u : State) : Prop := Got a D fV fC A o len r s u
/-- len > 0, no char of the range above 255: a Latin-1 String of their low bytes -/
theorem law (l : Launch) (a : Addr) (D : Cell) (fV fC : Field) (b : Addr) (A : Cell) (z : Int32) (o len : Nat) : Law l yN 5 4 2 35 yB 6 none site (P a D fV fC b A z o len) (E a D fV fC A o len) [⟨a, fC.slot⟩, ⟨a, fV.slot⟩] 1 len := by
  refine Law.of_walk (plainFor_of_name (by decide +kernel)) (by decide +kernel) (by decide +kernel) (by decide) (fun _ _ h => by rw [h.1]; rfl) (fun _ U U' hal hh h => ⟨h.1, h.2.1.mv hal hh, h.2.2.1.al hal, h.2.2.2.1.al hal, h.2.2.2.2.1.mv hal hh, h.2.2.2.2.2.1.there hal hh, h.2.2.2.2.2.2⟩) (fun r U U' V V' h1 hal h2 h => Got.mv r U U' V V' h1 hal h2 h) ?_
  intro p e s m args below meth c s₁ X0 hexec hbytes hml hret hlk hnm hown hh0 W hP
  obtain ⟨rfl, hB, f1, f2, hA, s1, hz, l0, l1, l2, hp⟩ := hP
  have a31 := hA.1.2.2.2
  have c1 : Steps p.tables e below (s₁.setTop (entryFrame m #[.ref a, .ref b, .int (Int32.ofNat o), .int (Int32.ofNat len), .null] 6)) (s₁.setTop (mkF m 0 #[.val (.ref a), .val (.ref b), .val (.int (Int32.ofNat o)), .val (.int (Int32.ofNat len)), .val .null, .unset] [])) := entry rfl
  have c2 : Steps p.tables e below (s₁.setTop (entryFrame m #[.ref a, .ref b, .int (Int32.ofNat o), .int (Int32.ofNat len), .null] 6)) (s₁.setTop (mkF m 1 #[.val (.ref a), .val (.ref b), .val (.int (Int32.ofNat o)), .val (.int (Int32.ofNat len)), .val .null, .unset] [.ref a])) := c1.trans (by
    refine XS.aloadN X0.here hexec rfl (hb hbytes d0) rfl rfl ?_
    exact Steps.refl _)
  obtain ⟨T3, X3, q3, st3⟩ := X0.oinit hexec hown (wks W (objW "java/lang/String" 1)) (g := (mkF m 1 #[.val (.ref a), .val (.ref b), .val (.int (Int32.ofNat o)), .val (.int (Int32.ofNat len)), .val .null, .unset] [.ref a])) rfl (by rw [hml]; rfl) (rest := []) rfl (hb hbytes d1) (W := 0) (by show 2 * 0 + 0 ≤ _; decide) (Nat.le_of_ble_eq_true rfl) (Nat.le_of_ble_eq_true rfl)
  have hh3 := q3.trans hh0
  have c4 : Steps p.tables e below (s₁.setTop (entryFrame m #[.ref a, .ref b, .int (Int32.ofNat o), .int (Int32.ofNat len), .null] 6)) (T3.setTop (mkF m 27 #[.val (.ref a), .val (.ref b), .val (.int (Int32.ofNat o)), .val (.int (Int32.ofNat len)), .val .null, .unset] [])) := (c2.trans (st3 _ (Steps.refl _))).trans (by
    refine XS.iloadN X3.here hexec rfl (hb hbytes d4) rfl ?_
    refine XS.ifYes X3.here hexec rfl (pc0 := 5) rfl (hb hbytes d5) rfl (i0_ne_t (nz32 (by omega) l0)) (by decide) rfl ?_
    exact Steps.refl _)
  obtain ⟨T5, X5, q5, st5⟩ := X3.sget hexec hown (wk W (.fieldLink "java/lang/String" 38 "java/lang/String" "COMPACT_STRINGS" "Z")) s1 (fun _ _ h => by rw [hh3]; exact h) (g := (mkF m 27 #[.val (.ref a), .val (.ref b), .val (.int (Int32.ofNat o)), .val (.int (Int32.ofNat len)), .val .null, .unset] [])) rfl (hb hbytes d27)
  have hh5 := q5.trans hh3
  have c6 : Steps p.tables e below (s₁.setTop (entryFrame m #[.ref a, .ref b, .int (Int32.ofNat o), .int (Int32.ofNat len), .null] 6)) (T5.setTop (mkF m 30 #[.val (.ref a), .val (.ref b), .val (.int (Int32.ofNat o)), .val (.int (Int32.ofNat len)), .val .null, .unset] [.int z])) := c4.trans (st5 _ (Steps.refl _))
  have c7 : Steps p.tables e below (s₁.setTop (entryFrame m #[.ref a, .ref b, .int (Int32.ofNat o), .int (Int32.ofNat len), .null] 6)) (T5.setTop (mkF m 36 #[.val (.ref a), .val (.ref b), .val (.int (Int32.ofNat o)), .val (.int (Int32.ofNat len)), .val .null, .unset] [.int (Int32.ofNat len), .int (Int32.ofNat o), .ref b])) := c6.trans (by
    refine XS.ifNo X5.here hexec rfl (hb hbytes d30) rfl (i0_eq_f hz) ?_
    refine XS.aloadN X5.here hexec rfl (hb hbytes d33) rfl rfl ?_
    refine XS.iloadN X5.here hexec rfl (hb hbytes d34) rfl ?_
    refine XS.iloadN X5.here hexec rfl (hb hbytes d35) rfl ?_
    exact Steps.refl _)
  obtain ⟨v8, T8, X8, E8, g8⟩ := X5.callS hexec (Cmp3.law l b A o len) hown (wks W (staticW "java/lang/String" 177 Cmp3.yN)) (wk W Cmp3.tab) (W := 0) (Nat.le_of_ble_eq_true rfl) (Nat.le_of_ble_eq_true rfl) (Nat.le_refl _) (by show 0 + len ≤ len; omega) (g := (mkF m 36 #[.val (.ref a), .val (.ref b), .val (.int (Int32.ofNat o)), .val (.int (Int32.ofNat len)), .val .null, .unset] [.int (Int32.ofNat len), .int (Int32.ofNat o), .ref b])) rfl (by rw [hml]; rfl) c7 (argsL := [.ref b, .int (Int32.ofNat o), .int (Int32.ofNat len)]) (rest := []) rfl rfl (by show 2 * 0 + 0 ≤ _; decide) (hb hbytes d36) (⟨rfl, hA.mv X5.warmed.alike hh5, l1, l2, hp⟩)
  obtain ⟨e8, z8⟩ := E8
  obtain ⟨rfl, N, n1, n2, n3, n4, n5, n6⟩ := NewArr.mv _ T5 s _ _ hh5.symm (Vm.Alike.refl _) rfl e8
  rw [hh5] at z8
  have hB1 := hB.keep X8.warmed.alike (n6 _ _ hB.1)
  have hne : s.heap.size ≠ a := (Nat.ne_of_lt (Array.getElem?_eq_some_iff.mp hB.1).1).symm
  have c9 : Steps p.tables e below (s₁.setTop (entryFrame m #[.ref a, .ref b, .int (Int32.ofNat o), .int (Int32.ofNat len), .null] 6)) (T8.setTop (mkF m 39 #[.val (.ref a), .val (.ref b), .val (.int (Int32.ofNat o)), .val (.int (Int32.ofNat len)), .val .null, .unset] [.ref s.heap.size])) := g8
  have c10 : Steps p.tables e below (s₁.setTop (entryFrame m #[.ref a, .ref b, .int (Int32.ofNat o), .int (Int32.ofNat len), .null] 6)) (T8.setTop (mkF m 45 #[.val (.ref a), .val (.ref b), .val (.int (Int32.ofNat o)), .val (.int (Int32.ofNat len)), .val .null, .val (.ref s.heap.size)] [.int (Int32.ofNat N.slots.size), .ref s.heap.size, .ref a])) := by
    have hc : Steps p.tables e below (s₁.setTop (entryFrame m #[.ref a, .ref b, .int (Int32.ofNat o), .int (Int32.ofNat len), .null] 6)) (T8.setTop (mkF m 45 #[.val (.ref a), .val (.ref b), .val (.int (Int32.ofNat o)), .val (.int (Int32.ofNat len)), .val .null, .val (.ref s.heap.size)] [.int (Int32.ofNat len), .ref s.heap.size, .ref a])) := c9.trans (by
      refine XS.astore X8.here hexec rfl (hb hbytes d39) rfl rfl rfl ?_
      refine XS.aloadN X8.here hexec rfl (hb hbytes d41) rfl rfl ?_
      refine XS.aload X8.here hexec rfl (hb hbytes d42) rfl rfl ?_
      refine XS.iloadN X8.here hexec rfl (hb hbytes d44) rfl ?_
      exact Steps.refl _)
    rw [n4]; exact hc
  obtain ⟨v11, T11, X11, E11, g11⟩ := X8.callS hexec (CodL.law l s.heap.size N) hown (wks W (staticW "java/lang/String" 47 CodL.yN)) (wk W CodL.tab) (W := 1) (Nat.le_of_ble_eq_true rfl) (Nat.le_of_ble_eq_true rfl) (Nat.le_refl _) (by show 0 + len + 0 ≤ len; omega) (g := (mkF m 45 #[.val (.ref a), .val (.ref b), .val (.int (Int32.ofNat o)), .val (.int (Int32.ofNat len)), .val .null, .val (.ref s.heap.size)] [.int (Int32.ofNat N.slots.size), .ref s.heap.size, .ref a])) rfl (by rw [hml]; rfl) c10 (argsL := [.ref s.heap.size, .int (Int32.ofNat N.slots.size)]) (rest := [.ref a]) rfl rfl (by show 2 * 0 + (1 + 0) ≤ _; decide) (hb hbytes d45) (⟨rfl, n1⟩)
  obtain ⟨rfl, q11⟩ := E11
  have hB11 := hB1.mv (X8.warmed.alike.symm.trans X11.warmed.alike) q11
  have c12 : Steps p.tables e below (s₁.setTop (entryFrame m #[.ref a, .ref b, .int (Int32.ofNat o), .int (Int32.ofNat len), .null] 6)) (T11.setTop (mkF m 48 #[.val (.ref a), .val (.ref b), .val (.int (Int32.ofNat o)), .val (.int (Int32.ofNat len)), .val .null, .val (.ref s.heap.size)] [.int 0, .ref a])) := g11
  obtain ⟨T13, X13, p13, bl13, sl13, st13⟩ := X11.finit hexec hown (wk W (.fieldLink "java/lang/String" 15 "java/lang/String" "coder" "B")) (Or.inr ⟨_, (wk W (.laysFinal "java/lang/String" "java/lang/String" "coder" "B"))⟩) (Or.inl ⟨rfl, hnm⟩) f2 (Or.inl rfl) hB11 (t := .byte) (by decide +kernel) rfl (g := (mkF m 48 #[.val (.ref a), .val (.ref b), .val (.int (Int32.ofNat o)), .val (.int (Int32.ofNat len)), .val .null, .val (.ref s.heap.size)] [.int 0, .ref a])) rfl (rest := []) rfl (hb hbytes d48)
  have c14 : Steps p.tables e below (s₁.setTop (entryFrame m #[.ref a, .ref b, .int (Int32.ofNat o), .int (Int32.ofNat len), .null] 6)) (T13.setTop (mkF m 54 #[.val (.ref a), .val (.ref b), .val (.int (Int32.ofNat o)), .val (.int (Int32.ofNat len)), .val .null, .val (.ref s.heap.size)] [.ref s.heap.size, .ref a])) := (c12.trans (st13 _ (Steps.refl _))).trans (by
    refine XS.aloadN X13.here hexec rfl (hb hbytes d51) rfl rfl ?_
    refine XS.aload X13.here hexec rfl (hb hbytes d52) rfl rfl ?_
    exact Steps.refl _)
  obtain ⟨T15, X15, p15, bl15, sl15, st15⟩ := X13.finit hexec hown (wk W (.fieldLink "java/lang/String" 9 "java/lang/String" "value" "[B")) (Or.inr ⟨_, (wk W (.laysFinal "java/lang/String" "java/lang/String" "value" "[B"))⟩) (Or.inl ⟨rfl, hnm⟩) f1 (Or.inl rfl) bl13 (t := (.array .byte)) (by decide +kernel) rfl (g := (mkF m 54 #[.val (.ref a), .val (.ref b), .val (.int (Int32.ofNat o)), .val (.int (Int32.ofNat len)), .val .null, .val (.ref s.heap.size)] [.ref s.heap.size, .ref a])) rfl (rest := []) rfl (hb hbytes d54)
  have c16 : Steps p.tables e below (s₁.setTop (entryFrame m #[.ref a, .ref b, .int (Int32.ofNat o), .int (Int32.ofNat len), .null] 6)) (T15.setTop (mkF m 57 #[.val (.ref a), .val (.ref b), .val (.int (Int32.ofNat o)), .val (.int (Int32.ofNat len)), .val .null, .val (.ref s.heap.size)] [])) := c14.trans (st15 _ (Steps.refl _))
  have ap := apart (Or.inr ⟨_, (wk W (.laysFinal "java/lang/String" "java/lang/String" "value" "[B"))⟩) (Or.inr ⟨_, (wk W (.laysFinal "java/lang/String" "java/lang/String" "coder" "B"))⟩) f1 f2 (t₁ := .array .byte) (t₂ := .byte) (by decide +kernel) (by decide +kernel) (by decide)
  have al := X8.warmed.alike.symm.trans X15.warmed.alike
  have n7 : T11.heap[s.heap.size]? = some N := by rw [q11]; exact n1.1
  exact ⟨T15, none, _, _, _, X15, by simp, rfl, by omega, (fun _ => rfl), ⟨rfl, _, N, bl15, ((Same.refl D _).set _ (by simp)).set _ (by simp), sl15, (Cell.slots_setSlot_ne _ ap).trans sl13, n1.keep al (p15.other hne (p13.other hne n7)), n2, by rw [al.findClass]; exact n3, n4, n5, fun y c h1 h2 => p15.other h1 (p13.other h1 (by rw [q11]; exact n6 y c h2)), by rw [p15.2.2, p13.2.2, q11]; exact z8⟩, fun fs hl => c16.trans (X15.returnOut hexec hret (hb hbytes d57) hl)⟩
end New4
namespace New1
def yN : MethodName := ⟨"java/lang/String", "<init>", "([C)V"⟩
abbrev yB : ByteArray := jdk_42_method_3_code
theorem d0 : decode yB 0 = .ok (.aload_n 0, 1) := by decide +kernel
theorem d1 : decode yB 1 = .ok (.aload_n 1, 1) := by decide +kernel
theorem d2 : decode yB 2 = .ok (.iconst 0, 1) := by decide +kernel
theorem d3 : decode yB 3 = .ok (.aload_n 1, 1) := by decide +kernel
theorem d4 : decode yB 4 = .ok (.arraylength, 1) := by decide +kernel
theorem d5 : decode yB 5 = .ok (.aconst_null, 1) := by decide +kernel
theorem d6 : decode yB 6 = .ok (.invokespecial 27, 3) := by decide +kernel
theorem d9 : decode yB 9 = .ok (.return_, 1) := by decide +kernel
def site : List Cond := [New4.tab] ++ initW "java/lang/String" 27 New4.yN
def tab : Cond := tabOf yN yB 2 none site
def P (a : Addr) (D : Cell) (fV fC : Field) (b : Addr) (A : Cell) (z : Int32) (args : Array Value) (s : State) : Prop := args = #[.ref a, .ref b] ∧ Blank "java/lang/String" a D s ∧ Found "java/lang/String" "value" "[B" fV s ∧ Found "java/lang/String" "coder" "B" fC s ∧ Ch b A s ∧ StaticIs s "java/lang/String" "COMPACT_STRINGS" "Z" (.int z) ∧ ¬ z = 0 ∧ 0 < A.slots.size ∧ A.slots.size ≤ 536870912 ∧ ∀ i, i < A.slots.size → ¬ 255 < cv A i
def E (a : Addr) (D : Cell) (fV fC : Field) (A : Cell) (r : Option Value) (s u : State) : Prop := Got a D fV fC A 0 A.slots.size r s u
/-- new String(chars), not empty, no char above 255: a Latin-1 String of their low bytes -/
theorem law (l : Launch) (a : Addr) (D : Cell) (fV fC : Field) (b : Addr) (A : Cell) (z : Int32) : Law l yN 2 1 3 52 yB 2 none site (P a D fV fC b A z) (E a D fV fC A) [⟨a, fC.slot⟩, ⟨a, fV.slot⟩] 1 A.slots.size := by
  refine Law.of_walk (plainFor_of_name (by decide +kernel)) (by decide +kernel) (by decide +kernel) (by decide) (fun _ _ h => by rw [h.1]; rfl) (fun _ U U' hal hh h => ⟨h.1, h.2.1.mv hal hh, h.2.2.1.al hal, h.2.2.2.1.al hal, h.2.2.2.2.1.mv hal hh, h.2.2.2.2.2.1.there hal hh, h.2.2.2.2.2.2⟩) (fun r U U' V V' h1 hal h2 h => Got.mv r U U' V V' h1 hal h2 h) ?_
  intro p e s m args below meth c s₁ X0 hexec hbytes hml hret hlk hnm hown hh0 W hP
  obtain ⟨rfl, hB, f1, f2, hA, s1, hz, l0, l2, hp⟩ := hP
  have c1 : Steps p.tables e below (s₁.setTop (entryFrame m #[.ref a, .ref b] 2)) (s₁.setTop (mkF m 0 #[.val (.ref a), .val (.ref b)] [])) := entry rfl
  have c2 : Steps p.tables e below (s₁.setTop (entryFrame m #[.ref a, .ref b] 2)) (s₁.setTop (mkF m 6 #[.val (.ref a), .val (.ref b)] [.null, .int (Int32.ofNat A.slots.size), .int 0, .ref b, .ref a])) := c1.trans (by
    refine XS.aloadN X0.here hexec rfl (hb hbytes d0) rfl rfl ?_
    refine XS.aloadN X0.here hexec rfl (hb hbytes d1) rfl rfl ?_
    refine iconstV X0.here hexec rfl 0 (hb hbytes d2) (by decide) ?_
    refine XS.aloadN X0.here hexec rfl (hb hbytes d3) rfl rfl ?_
    refine X0.alen hexec (hA.1.mv X0.warmed.alike hh0) rfl rfl (hb hbytes d4) ?_
    refine XS.aconstNull X0.here hexec rfl (hb hbytes d5) ?_
    exact Steps.refl _)
  obtain ⟨v3, T3, X3, E3, g3⟩ := X0.callN hexec (New4.law l a D fV fC b A z 0 A.slots.size) rfl hown (wks W (initW "java/lang/String" 27 New4.yN)) (W New4.tab (by simp only [site, List.mem_cons, List.mem_append, true_or, or_true])) (W := 0) (Nat.le_of_ble_eq_true rfl) (Nat.le_of_ble_eq_true rfl) (Nat.le_refl _) (by show 0 + A.slots.size ≤ A.slots.size; omega) (g := (mkF m 6 #[.val (.ref a), .val (.ref b)] [.null, .int (Int32.ofNat A.slots.size), .int (Int32.ofNat 0), .ref b, .ref a])) rfl (by rw [hml]; rfl) c2 (argsL := [.ref b, .int (Int32.ofNat 0), .int (Int32.ofNat A.slots.size), .null]) (rest := []) rfl rfl (by show 2 * 0 + 0 ≤ _; decide) (hb hbytes d6) (⟨rfl, hB.mv X0.warmed.alike hh0, f1.al X0.warmed.alike, f2.al X0.warmed.alike, hA.mv X0.warmed.alike hh0, s1.there X0.warmed.alike hh0, hz, l0, by omega, l2, fun i hi => by rw [Nat.zero_add]; exact hp i hi⟩)
  have e0 := Got.mv _ s₁ s _ _ hh0.symm (Vm.Alike.refl _) rfl E3
  obtain rfl := e0.1
  have c4 : Steps p.tables e below (s₁.setTop (entryFrame m #[.ref a, .ref b] 2)) (T3.setTop (mkF m 9 #[.val (.ref a), .val (.ref b)] [])) := g3
  exact ⟨T3, none, _, _, _, X3, by simp, rfl, by omega, (fun _ => rfl), e0, fun fs hl => c4.trans (X3.returnOut hexec hret (hb hbytes d9) hl)⟩
theorem pays {l : Launch} {R : Room} {p : Program} {e : Env} {below : List Frame} {s : State} {sargs : Array Value} {len W : Nat} (a : Addr) (D : Cell) (fV fC : Field) (b : Addr) (A : Cell) (z : Int32) (htab : tab.before sargs s = true) (hfr : 4 ≤ R.frames) (hlo : W + 65 ≤ R.locals) :
    Back l R p e below s sargs yN len W (fun A₁ a₁ => A₁.cells + 1 ≤ R.cells ∧ A₁.slots + A.slots.size ≤ R.slots ∧ P a D fV fC b A z a₁ A₁.U) (fun A₁ _ v₁ B₁ => E a D fV fC A v₁ A₁.U B₁.U ∧ B₁.locs = A₁.locs ++ [⟨a, fC.slot⟩, ⟨a, fV.slot⟩] ∧ B₁.cells = A₁.cells + 1 ∧ B₁.slots = A₁.slots + A.slots.size) :=
  (law l a D fV fC b A z).pays htab hfr (by omega)
end New1
/-- the byte, read back as charAt reads it, is the char -/
theorem lo8_mask {x : Int32} (h0 : ¬ x < 0) (h1 : ¬ 255 < x) : lo8 x &&& 255 = x := by
  have t : ∀ k : Fin 256, lo8 (Int32.ofNat k.val) &&& 255 = Int32.ofNat k.val := by decide +kernel
  rw [Int32.lt_iff_toInt_lt] at h0 h1
  have e0 : (0 : Int32).toInt = 0 := rfl
  have e1 : (255 : Int32).toInt = 255 := rfl
  obtain ⟨k, hk⟩ : ∃ k : Nat, x.toInt = k := ⟨x.toInt.toNat, by omega⟩
  have hx : x = Int32.ofNat k := Int32.toInt_inj.mp (by rw [hk, Int32.toInt_ofNat_small (by omega)])
  rw [hx]
  exact t ⟨k, by omega⟩
end StrChars
namespace StrChars.Road
open Jvm Sem ClassFile Op Lib Jvm.Stand Jvm.Free Jvm.Free.XT
open Jvm.Lib.Cold (StaticIs)
abbrev ST : String := "java/lang/String"
/-- every table word that New1's law asks, flat -/
abbrev words : List Jvm.Cond := [.code New1.yN New1.yB 2 none, .initialized ST, .methodLink ST 27 New4.yN, .instanceMethod New4.yN,
  .code New4.yN New4.yB 6 none, .fieldLink ST 38 ST "COMPACT_STRINGS" "Z", .laysFinal ST ST "value" "[B", .fieldLink ST 9 ST "value" "[B", .laysFinal ST ST "coder" "B", .fieldLink ST 15 ST "coder" "B",
  .methodLink ST 1 Lib.objectInit, .instanceMethod Lib.objectInit, .code Lib.objectInit ⟨#[0xb1]⟩ 1 none, .methodLink ST 177 Cmp3.yN, .static Cmp3.yN, .methodLink ST 47 CodL.yN, .static CodL.yN,
  .code Cmp3.yN Cmp3.yB 6 (some (.array .byte)), .initialized U16, .arrayClass .byte, .methodLink U16 115 Cmp5.yN, .static Cmp5.yN, .code Cmp5.yN Cmp5.yB 7 (some .int), .code CodL.yN CodL.yB 2 (some .byte)]
theorem tab_of {a : Array Value} {s : State} (h : ∀ w ∈ words, w.before a s = true) : New1.tab.before a s = true := by
  have h5 : Cmp5.tab.before a s = true := unparts (wk h (.code Cmp5.yN Cmp5.yB 7 (some .int))) (wks h (.initialized Cmp5.yN.cls :: Cmp5.site))
  have hc : CodL.tab.before a s = true := unparts (wk h (.code CodL.yN CodL.yB 2 (some .byte))) (wks h (.initialized CodL.yN.cls :: CodL.site))
  have q5 : ∀ w ∈ Cmp5.tab :: words, w.before a s = true := fun w hw => (List.mem_cons.mp hw).elim (fun e => e ▸ h5) (h w)
  have h3 : Cmp3.tab.before a s = true := unparts (wk q5 (.code Cmp3.yN Cmp3.yB 6 (some (.array .byte)))) (wks q5 (.initialized Cmp3.yN.cls :: Cmp3.site))
  have q3 : ∀ w ∈ Cmp3.tab :: CodL.tab :: words, w.before a s = true := fun w hw => (List.mem_cons.mp hw).elim (fun e => e ▸ h3) fun hw => (List.mem_cons.mp hw).elim (fun e => e ▸ hc) (h w)
  have h4 : New4.tab.before a s = true := unparts (wk q3 (.code New4.yN New4.yB 6 none)) (wks q3 (.initialized New4.yN.cls :: New4.site))
  have q4 : ∀ w ∈ New4.tab :: words, w.before a s = true := fun w hw => (List.mem_cons.mp hw).elim (fun e => e ▸ h4) (h w)
  exact unparts (wk q4 (.code New1.yN New1.yB 2 none)) (wks q4 (.initialized New1.yN.cls :: New1.site))
/-- the words ride from the start Z to the walk's own state -/
theorem moved {Z s : State} {a0 args : Array Value} (hZ : Z.Warmed39 s.vm) (hw : ∀ d ∈ words, d.before a0 Z = true) : ∀ d ∈ words, d.before args s = true := fun d hd => by
  have q := hw d hd
  have t : ∀ d ∈ words, d = .arrayClass .byte ∨ (d.onTables && d.keepsFace) = true := by decide +kernel
  rcases t d hd with rfl | t
  · exact RoadKit.mvA hZ q
  · exact RoadKit.mv hZ q t
/-- WHAT COMES BACK, over the tables of the start Z: h the heap at the call, h' behind it -/
def Q (Z : State) (x : Addr) (A : Cell) (h : Heap) (v : Option Value) (h' : Heap) (L : List Loc) : Prop := v = none ∧ (∀ y ∈ L, y.base = x) ∧ RoadKit.Keep h h' [x] ∧ h'.size = h.size + 1 ∧ RoadKit.Exa Z h' x ST ∧ RoadKit.Fld Z h' x ST "value" "[B" (.ref h.size) ∧ RoadKit.Fld Z h' x ST "coder" "B" (.int 0) ∧
  (∃ V : Cell, RoadKit.Arr Z h' h.size V .byte ∧ V.vm = .none ∧ Z.vm.findClass "[B" = some V.cls ∧ V.slots.size = A.slots.size ∧ ∀ j, j < A.slots.size → V.slots[j]? = some (.int (lo8 (cv A j)))) ∧
  ∀ (O n d : String) (w : Value), RoadKit.Fld Z h x O n d w → RoadKit.slotOf Z O n d ≠ RoadKit.slotOf Z ST "value" "[B" → RoadKit.slotOf Z O n d ≠ RoadKit.slotOf Z ST "coder" "B" → RoadKit.Fld Z h' x O n d w
/-- **new String(chars) AT A CALL, IN THE ROAD'S FORM**: for specialBack behind newO: x the fresh String, b the char[] with the cell A -/
theorem back {p : Program} {l : Launch} {e : Env} {R : Room} {s : State} {args : Array Value} {below : List Frame} {len W : Nat} {Z : State} {a0 : Array Value} {h : Heap} (hZ : Z.Warmed39 s.vm) (hw : ∀ d ∈ words, d.before a0 Z = true) {kI : Nat} (wi : (Jvm.Cond.instantiable ST kI).before a0 Z = true)
    {x b : Addr} {A : Cell} {z : Int32} {v0 c0 : Value} (E : RoadKit.Exa Z h x ST) (V : RoadKit.Fld Z h x ST "value" "[B" v0) (C : RoadKit.Fld Z h x ST "coder" "B" c0) (K : RoadKit.Arr Z h b A .char) (hty : Typed .char A) (S : RoadKit.Sta Z h ST "COMPACT_STRINGS" "Z" (.int z)) (hz : ¬ z = 0)
    (l0 : 0 < A.slots.size) (l2 : A.slots.size ≤ 536870912) (hp : ∀ i, i < A.slots.size → ¬ 255 < cv A i) (hfr : 4 ≤ R.frames) (hlo : W + 65 ≤ R.locals) :
    Back l R p e below s args New1.yN len W (fun P a => a = #[.ref x, .ref b] ∧ P.U.heap = h ∧ P.cells + 1 ≤ R.cells ∧ P.slots + A.slots.size ≤ R.slots)
      (fun P _ v B => ∃ L, Q Z x A h v B.U.heap L ∧ B.locs = P.locs ++ L ∧ B.cells = P.cells + 1 ∧ B.slots = P.slots + A.slots.size) := by
  intro m meth c P g ig mk a X hg hsize hdg hW hn hp'
  obtain ⟨rfl, rfl, r1, r2⟩ := hp'
  have al : Z.vm.Alike P.U.vm := hZ.alike.trans X.warmed.alike
  obtain ⟨D, cfV, kV, iV, fV, hD, gV, stV, knV, obV, asV, slV⟩ := id V
  obtain ⟨D', cfC, kC, iC, fC, hD', gC, stC, -, -, asC, slC⟩ := id C
  cases hD.symm.trans hD'
  obtain ⟨D2, kD, e1, e2, e3, e4, e5⟩ := id E
  cases hD.symm.trans e1
  obtain ⟨c2, k2, i1, i2, i3, -⟩ := Cond.instantiable_spec wi
  cases e2.symm.trans i1
  cases e3.symm.trans i2
  obtain ⟨kU, u1, u2⟩ := al.2.2 _ _ e3
  have hB : Blank ST x D P.U := ⟨hD, ⟨knV, fun q hq => by rw [hq] at obV; cases obV⟩, by rw [al.findClass]; exact e2, kU, u1, by rw [u2]; exact i3, by rw [u2]; exact e5 i3⟩
  have F1 : Found ST "value" "[B" fV P.U := ⟨SBG.found_only al ⟨cfV, kV, iV, gV⟩, stV⟩
  have F2 : Found ST "coder" "B" fC P.U := ⟨SBG.found_only al ⟨cfC, kC, iC, gC⟩, stC⟩
  have hA : Ch b A P.U := ⟨⟨K.1, State.isArrayOf_alike al K.2.1, K.2.2, by omega⟩, hty⟩
  have hS : StaticIs P.U ST "COMPACT_STRINGS" "Z" (.int z) := by
    obtain ⟨cfS, iS, kS, fS, st, cS, t1, t2, t3, t4, t5, t6, t7⟩ := S
    exact StaticIs.there (s := { Z with heap := P.U.heap }) ⟨cfS, iS, kS, fS, st, cS, t1, t2, t3, t4, t5, (fun q => by rw [q] at t6; cases t6), t7⟩ al rfl
  obtain ⟨v, B, X', ⟨⟨hv, E', V', q1, q2, q3, q4, q5, q6, q7, q8, q9, q10, q11⟩, hl, hc, hs⟩, st⟩ := New1.pays x D fV fC b A z (tab_of (moved hZ hw)) hfr hlo m meth c P g ig mk _ X hg hsize hdg hW hn ⟨r1, r2, rfl, hB, F1, F2, hA, hS, hz, l0, l2, hp⟩
  have al' : Z.vm.Alike B.U.vm := hZ.alike.trans X'.warmed.alike
  have hsz : E'.slots.size = D.slots.size := by
    obtain ⟨-, -, -, kB, w1, w2, w3⟩ := q1
    obtain ⟨kB', y1, y2⟩ := al'.2.2 _ _ e3
    rw [q2.2.1] at w1
    cases w1.symm.trans y1
    rw [w3, e5 i3, y2]
  refine ⟨v, B, X', ⟨_, ⟨hv, ?_, ⟨by omega, fun y cy hy hn' => q10 y cy (by simpa using hn') hy, fun y cy hy => ?_⟩, q11, ⟨E', _, q1.1, by rw [q2.2.1]; exact e2, by rw [q2.2.1]; exact e3, by rw [q2.1]; exact obV, fun _ => by rw [hsz]; exact e5 i3⟩,
    ⟨E', cfV, kV, iV, fV, q1.1, gV, stV, by rw [q2.1]; exact knV, by rw [q2.1]; exact obV, by rw [q2.2.1]; exact asV, q3⟩, ⟨E', cfC, kC, iC, fC, q1.1, gC, stC, by rw [q2.1]; exact knV, by rw [q2.1]; exact obV, by rw [q2.2.1]; exact asC, q4⟩,
    ⟨V', ⟨q5.1, State.isArrayOf_alike al'.symm q5.2.1, q5.2.2.1⟩, q6, by rw [← al'.findClass]; exact q7, q8, fun j hj => by have := q9 j hj; rwa [Nat.zero_add] at this⟩, fun O n d w F n1 n2 => ?_⟩, hl, hc, hs⟩, st⟩
  · intro y hy
    simp only [List.mem_cons, List.not_mem_nil, or_false] at hy
    rcases hy with rfl | rfl <;> rfl
  · by_cases q : y = x
    · subst q
      cases hD.symm.trans hy
      exact ⟨E', q1.1, q2.2.1, q2.1, hsz⟩
    · exact ⟨cy, q10 y cy q hy, rfl, rfl, rfl⟩
  · obtain ⟨D3, cf, k, i, f, g1, g2, g3, g4, g5, g6, g7⟩ := F
    cases hD.symm.trans g1
    simp only [RoadKit.slotOf, g2, gV, gC, Option.map_some, Option.getD_some] at n1 n2
    exact ⟨E', cf, k, i, f, q1.1, g2, g3, by rw [q2.1]; exact g4, by rw [q2.1]; exact g5, by rw [q2.2.1]; exact g6, by rw [q2.2.2 f.slot (by simp [n1, n2])]; exact g7⟩
end StrChars.Road
namespace StrChars.Road
open Jvm Sem ClassFile Op Lib Jvm.Stand Jvm.Free Jvm.Free.XT
/-- WHAT COMES BACK, the byte[] as a list of values -/
def QA (Z : State) (x : Addr) (zn : Int32) (cs : List Int32) (h : Heap) (v : Option Value) (h' : Heap) (L : List Loc) : Prop := v = none ∧ (∀ y ∈ L, y.base = x) ∧ RoadKit.Keep h h' [x] ∧ h'.size = h.size + 1 ∧ RoadKit.Exa Z h' x ST ∧ RoadKit.Fld Z h' x ST "value" "[B" (.ref h.size) ∧ RoadKit.Fld Z h' x ST "coder" "B" (.int 0) ∧
  (∃ kb, Z.vm.findClass "[B" = some kb ∧ RoadKit.Arv Z h' h.size kb .byte zn (cs.map fun c => .int (lo8 c)) (.int 0)) ∧
  ∀ (O n d : String) (w : Value), RoadKit.Fld Z h x O n d w → RoadKit.slotOf Z O n d ≠ RoadKit.slotOf Z ST "value" "[B" → RoadKit.slotOf Z O n d ≠ RoadKit.slotOf Z ST "coder" "B" → RoadKit.Fld Z h' x O n d w
/-- **new String(chars) AT A CALL, THE ARRAYS AS LISTS**: the char[] at b holds cs, not empty, no char above 255 -/
theorem backArv {p : Program} {l : Launch} {e : Env} {R : Room} {s : State} {args : Array Value} {below : List Frame} {len W : Nat} {Z : State} {a0 : Array Value} {h : Heap} (hZ : Z.Warmed39 s.vm) (hw : ∀ d ∈ words, d.before a0 Z = true) {kI : Nat} (wi : (Jvm.Cond.instantiable ST kI).before a0 Z = true)
    {x b : Addr} {k : ClassId} {zn z : Int32} {cs : List Int32} {dv v0 c0 : Value} (E : RoadKit.Exa Z h x ST) (V : RoadKit.Fld Z h x ST "value" "[B" v0) (C : RoadKit.Fld Z h x ST "coder" "B" c0) (K : RoadKit.Arv Z h b k .char zn (cs.map Value.int) dv) (S : RoadKit.Sta Z h ST "COMPACT_STRINGS" "Z" (.int z)) (hz : ¬ z = 0)
    (hlen : zn.toNatClampNeg = cs.length) (h0 : 0 < cs.length) (hbig : cs.length ≤ 536870912) (hall : ∀ c ∈ cs, ¬ 255 < c) (hfr : 4 ≤ R.frames) (hlo : W + 65 ≤ R.locals) :
    Back l R p e below s args New1.yN len W (fun P a => a = #[.ref x, .ref b] ∧ P.U.heap = h ∧ P.cells + 1 ≤ R.cells ∧ P.slots + cs.length ≤ R.slots)
      (fun P _ v B => ∃ L, QA Z x zn cs h v B.U.heap L ∧ B.locs = P.locs ++ L ∧ B.cells = P.cells + 1 ∧ B.slots = P.slots + cs.length) := by
  obtain ⟨A, K1, K2, K3, K4, K5, K6⟩ := K
  have e : A.slots.size = cs.length := K3.trans hlen
  have hat : ∀ (i : Nat) (hi : i < cs.length), A.slots[i]? = some (.int cs[i]) := fun i hi => by rw [K5 i (by omega)]; simp [List.getD_eq_getElem?_getD, hi]
  have hcv : ∀ (i : Nat) (hi : i < cs.length), cv A i = cs[i] := fun i hi => by unfold cv; rw [hat i hi]
  have hty : Typed .char A := fun i v hv => by
    have hi : i < A.slots.size := (Array.getElem?_eq_some_iff.mp hv).1
    have q := K5 i hi
    rw [hv] at q
    rw [Option.some.inj q]
    exact K6 i hi
  refine Back.mono (back hZ hw wi E V C K1 hty S hz (by omega) (by omega) (fun i hi => by rw [hcv i (by omega)]; exact hall _ (List.getElem_mem _)) hfr hlo) (fun P a hp => ⟨hp.1, hp.2.1, hp.2.2.1, by rw [e]; exact hp.2.2.2⟩) (fun P a v B hp hq => ?_)
  obtain ⟨L, ⟨q1, q2, q3, q4, q5, q6, q7, ⟨V', v1, v2, v3, v4, v5⟩, q9⟩, hl, hc, hs⟩ := hq
  refine ⟨L, ⟨q1, q2, q3, q4, q5, q6, q7, ⟨V'.cls, v3, V', v1, rfl, by rw [v4, e, hlen], K4, fun i hi => ?_, fun i hi => ?_⟩, q9⟩, hl, hc, by rw [hs, e]⟩
  · have hi' : i < cs.length := by omega
    rw [v5 i (by omega), hcv i hi']; simp [List.getD_eq_getElem?_getD, hi']
  · have hi' : i < cs.length := by omega
    simp only [List.getD_eq_getElem?_getD, List.getElem?_map, List.getElem?_eq_getElem hi', Option.map_some, Option.getD_some]
    exact fits_lo8 _
end StrChars.Road
namespace StrChars.Road
open Jvm Sem ClassFile Op Lib Jvm.Stand Jvm.Free Jvm.Free.XT
/-- WHAT COMES BACK, in the writer's own shape -/
def QV (Z : State) (x : Addr) (N : Int32) (bs : List Int32) (h : Heap) (n0 : Nat) (v : Option Value) (h' : Heap) (L : List Loc) : Prop := v = none ∧ RoadKit.Fr n0 L ∧ RoadKit.Keep h h' [x] ∧ RoadKit.Exa Z h' x ST ∧ RoadKit.Fld Z h' x ST "coder" "B" (.int 0) ∧
  ∃ (t : Addr) (kb : ClassId), n0 ≤ t ∧ h.size ≤ t ∧ ¬ t = x ∧ RoadKit.Fld Z h' x ST "value" "[B" (.ref t) ∧ RoadKit.Arv Z h' t kb .byte N (bs.map Value.int) (.int 0)
/-- **new String(chars) AT A CALL, FOR THE WRITER**: a char[] of n known ints, each 0 to 255 -/
theorem backV {p : Program} {l : Launch} {e : Env} {R : Room} {s : State} {args : Array Value} {below : List Frame} {len W : Nat} {Z : State} {a0 : Array Value} {h : Heap} (hZ : Z.Warmed39 s.vm) (hw : ∀ d ∈ words, d.before a0 Z = true) {kI : Nat} (wi : (Jvm.Cond.instantiable ST kI).before a0 Z = true)
    {x b : Addr} {kC : ClassId} {cs bs : List Int32} {d v0 c0 : Value} {z N : Int32} {n n0 : Nat} (hx0 : n0 ≤ x) (hh0 : n0 ≤ h.size) (E : RoadKit.Exa Z h x ST) (V : RoadKit.Fld Z h x ST "value" "[B" v0) (C : RoadKit.Fld Z h x ST "coder" "B" c0) (K : RoadKit.Arv Z h b kC .char N (cs.map Value.int) d) (S : RoadKit.Sta Z h ST "COMPACT_STRINGS" "Z" (.int z)) (hz : ¬ z = 0)
    (hn : cs.length = n) (hN : N = Int32.ofNat n) (l0 : 0 < n) (l2 : n ≤ 4000) (hp : ∀ c ∈ cs, ¬ c < 0 ∧ ¬ (255 : Int32) < c) (hb : bs = cs.map (fun c => c.toInt8.toInt32)) (hfr : 4 ≤ R.frames) (hlo : W + 65 ≤ R.locals) :
    Back l R p e below s args (⟨"java/lang/String", "<init>", "([C)V"⟩ : MethodName) len W (fun P a => a = #[.ref x, .ref b] ∧ P.U.heap = h ∧ P.cells + 1 ≤ R.cells ∧ P.slots + n ≤ R.slots)
      (fun P _ v B => ∃ L, QV Z x N bs h n0 v B.U.heap L ∧ B.locs = P.locs ++ L ∧ B.cells = P.cells + 1 ∧ B.slots = P.slots + n) := by
  subst hn hN hb
  refine Back.mono (backArv hZ hw wi E V C K S hz (n32 (by omega)) l0 (by omega) (fun c hc => (hp c hc).2) hfr hlo) (fun P a hp => hp) (fun P a v B hp hq => ?_)
  obtain ⟨L, ⟨q1, q2, q3, q4, q5, q6, q7, ⟨kb, v1, v2⟩, q9⟩, hl, hc, hs⟩ := hq
  exact ⟨L, ⟨q1, fun y hy => by rw [q2 y hy]; exact hx0, q3, q5, q7, h.size, kb, hh0, Nat.le_refl _, Nat.ne_of_gt E.lt, q6, by rw [List.map_map]; exact v2⟩, hl, hc, hs⟩
end StrChars.Road
namespace StrChars
open Jvm Sem ClassFile Op Lib Jvm.Stand Jvm.Free.XT Jvm.Free.ALB Jvm.Free.JM Jvm.Free
open Jvm.Lib.Cold (StaticIs)
def hi8 (x : Int32) : Int32 := lo8 (x >>> ((8 : Int32) &&& 31))
/-- what StringUTF16.getChar makes of two bytes -/
def pairCh (u v : Int32) : Int32 := (((u &&& 255) <<< ((0 : Int32) &&& 31)) ||| ((v &&& 255) <<< ((8 : Int32) &&& 31))).toUInt32.toUInt16.toUInt32.toInt32
theorem lo8_and (x : Int32) : (lo8 x &&& 255).toBitVec.toNat = x.toBitVec.toNat % 256 := by
  have h : (lo8 x).toBitVec = (x.toBitVec.signExtend 8).signExtend 32 := by rw [lo8, Int8.toBitVec_toInt32, Int32.toBitVec_toInt8]
  rw [Int32.toBitVec_and, BitVec.toNat_and, h]
  have e : ((x.toBitVec.signExtend 8).signExtend 32).toNat % 256 = x.toBitVec.toNat % 256 := by
    rw [BitVec.toNat_signExtend]
    have hlt := x.toBitVec.isLt
    simp only [BitVec.toNat_setWidth, BitVec.toNat_signExtend]
    split <;> split <;> omega
  rw [← e]
  exact Nat.and_two_pow_sub_one_eq_mod _ 8
theorem pair_says {c : Int32} (h0 : ¬ c < 0) (h1 : ¬ 65535 < c) : pairCh (lo8 c) (hi8 c) = c := by
  rw [Int32.lt_iff_toInt_lt] at h0 h1
  have e0 : (0 : Int32).toInt = 0 := rfl
  have e1 : (65535 : Int32).toInt = 65535 := rfl
  have hc : c.toInt = c.toBitVec.toNat := by
    have := c.toBitVec.isLt
    have e : c.toInt = c.toBitVec.toInt := rfl
    rw [e] at h0 h1
    rw [e]
    rw [BitVec.toInt_eq_toNat_cond] at h0 h1 ⊢
    split at h0 <;> split <;> omega
  have hn : c.toBitVec.toNat < 65536 := by omega
  have a1 := lo8_and c
  have a2 : (hi8 c &&& 255).toBitVec.toNat = c.toBitVec.toNat / 256 := by
    rw [hi8, lo8_and]
    have e : ((8 : Int32) &&& 31) = 8 := by decide
    rw [e, Int32.toBitVec_shiftRight]
    have e2 : ((8 : Int32).toBitVec.smod 32) = 8#32 := by decide
    rw [e2, BitVec.sshiftRight_eq', BitVec.toNat_sshiftRight_of_msb_false (by rw [BitVec.msb_eq_false_iff_two_mul_lt]; omega)]
    show c.toBitVec.toNat >>> 8 % 256 = _
    rw [Nat.shiftRight_eq_div_pow]
    omega
  unfold pairCh
  apply Int32.toBitVec_inj.mp
  apply BitVec.eq_of_toNat_eq
  have f0 : ((0 : Int32) &&& 31) = 0 := by decide
  have f8 : ((8 : Int32) &&& 31) = 8 := by decide
  rw [f0, f8]
  have g : (((lo8 c &&& 255) <<< (0 : Int32)) ||| ((hi8 c &&& 255) <<< (8 : Int32))).toBitVec.toNat = c.toBitVec.toNat := by
    rw [Int32.toBitVec_or, Int32.toBitVec_shiftLeft, Int32.toBitVec_shiftLeft]
    have s0 : ((0 : Int32).toBitVec.smod 32) = 0#32 := by decide
    have s8 : ((8 : Int32).toBitVec.smod 32) = 8#32 := by decide
    rw [s0, s8, BitVec.toNat_or]
    simp only [BitVec.shiftLeft_eq', BitVec.toNat_shiftLeft, a1, a2]
    show (c.toBitVec.toNat % 256) <<< 0 % 2 ^ 32 ||| (c.toBitVec.toNat / 256) <<< 8 % 2 ^ 32 = _
    rw [Nat.shiftLeft_zero, Nat.mod_eq_of_lt (show c.toBitVec.toNat % 256 < 2 ^ 32 by omega), Nat.mod_eq_of_lt (show (c.toBitVec.toNat / 256) <<< 8 < 2 ^ 32 by rw [Nat.shiftLeft_eq]; omega), Nat.or_comm, ← Nat.shiftLeft_add_eq_or_of_lt (by omega), Nat.shiftLeft_eq]
    omega
  show BitVec.toNat (((((lo8 c &&& 255) <<< (0 : Int32)) ||| ((hi8 c &&& 255) <<< (8 : Int32))).toBitVec.setWidth 16).setWidth 32) = _
  rw [BitVec.toNat_setWidth, BitVec.toNat_setWidth, g]
  omega
end StrChars
namespace StrChars
open Jvm Sem ClassFile Op Lib Jvm.Stand Jvm.Free.XT Jvm.Free.ALB Jvm.Free.JM Jvm.Free
open Jvm.Lib.Cold (StaticIs)
/-- the array's cell V codes the n chars f 0 .. f (n - 1) by the coder cd, as the JDK does: coder 1 just where some char is above 255 -/
def Cod (cd : Int32) (n : Nat) (f : Nat → Int32) (V : Cell) : Prop := (cd = 0 ∧ V.slots.size = n ∧ ∀ j, j < n → V.slots[j]? = some (.int (lo8 (f j))) ∧ ¬ 255 < f j) ∨ (cd = 1 ∧ V.slots.size = 2 * n ∧ (∀ j, j < n → V.slots[2 * j]? = some (.int (lo8 (f j))) ∧ V.slots[2 * j + 1]? = some (.int (hi8 (f j)))) ∧ ∃ j, j < n ∧ 255 < f j)
/-- **x is a String of the n chars f 0 .. f (n - 1)**, Latin-1 or UTF-16; its array at t has the cell V -/
def Txt (x t : Addr) (V : Cell) (cd : Int32) (n : Nat) (f : Nat → Int32) (U : State) : Prop := Exact "java/lang/String" x U ∧ Has x "java/lang/String" "value" "[B" (.ref t) U ∧ Has x "java/lang/String" "coder" "B" (.int cd) U ∧ XT.Arr .byte t V U ∧ Cod cd n f V ∧ ∀ j, j < n → ¬ f j < 0 ∧ ¬ 65535 < f j
theorem Txt.mv {x t : Addr} {V : Cell} {cd : Int32} {n : Nat} {f : Nat → Int32} {U U' : State} (h : Txt x t V cd n f U) (hal : U.vm.Alike U'.vm) (hh : U'.heap = U.heap) : Txt x t V cd n f U' := ⟨h.1.mv hal hh, h.2.1.mv hal hh, h.2.2.1.mv hal hh, h.2.2.2.1.mv hal hh, h.2.2.2.2⟩
end StrChars
namespace StrChars.Road
open Jvm Sem ClassFile Op Lib Jvm.Stand Jvm.Free Jvm.Free.XT
open Jvm.Lib.Cold (StaticIs)
theorem consq {a : Array Value} {s : State} {c : Jvm.Cond} {L : List Jvm.Cond} (h0 : c.before a s = true) (h : ∀ w ∈ L, w.before a s = true) : ∀ w ∈ c :: L, w.before a s = true := fun w hw => (List.mem_cons.mp hw).elim (fun e => e ▸ h0) (h w)
/-- the bytes of the chars cs, low before high -/
def wideBytes : List Int32 → List Value
  | [] => []
  | c :: cs => .int (lo8 c) :: .int (hi8 c) :: wideBytes cs
theorem wide_lo (d : Value) : ∀ (cs : List Int32) (j : Nat), j < cs.length → (wideBytes cs).getD (2 * j) d = .int (lo8 (cs.getD j 0))
  | [], j, h => absurd h (Nat.not_lt_zero j)
  | c :: cs, 0, _ => rfl
  | c :: cs, j + 1, h => by
    have q := wide_lo d cs j (by simpa using h)
    rw [show 2 * (j + 1) = 2 * j + 1 + 1 from by omega]
    simpa [wideBytes] using q
theorem wide_hi (d : Value) : ∀ (cs : List Int32) (j : Nat), j < cs.length → (wideBytes cs).getD (2 * j + 1) d = .int (hi8 (cs.getD j 0))
  | [], j, h => absurd h (Nat.not_lt_zero j)
  | c :: cs, 0, _ => rfl
  | c :: cs, j + 1, h => by
    have q := wide_hi d cs j (by simpa using h)
    rw [show 2 * (j + 1) + 1 = 2 * j + 1 + 1 + 1 from by omega]
    simpa [wideBytes] using q
theorem low_at (d : Value) (cs : List Int32) (j : Nat) (h : j < cs.length) : (cs.map fun c => Value.int (lo8 c)).getD j d = .int (lo8 (cs.getD j 0)) := by
  simp [List.getD_eq_getElem?_getD, h]
/-- an array of N2 bytes vs codes the chars cs by the coder cd -/
def CodA (cs : List Int32) (cd N2 : Int32) (vs : List Value) : Prop := (cd = 0 ∧ N2 = Int32.ofNat cs.length ∧ vs = (cs.map fun c => Value.int (lo8 c)) ∧ ∀ c ∈ cs, ¬ 255 < c) ∨ (cd = 1 ∧ N2 = Int32.ofNat (2 * cs.length) ∧ vs = wideBytes cs ∧ ∃ c ∈ cs, 255 < c)
theorem CodA.cod {cs : List Int32} {cd N2 : Int32} {vs : List Value} {V : Cell} (h : CodA cs cd N2 vs) (hn : 2 * cs.length < 2 ^ 31) (hs : V.slots.size = N2.toNatClampNeg) (hv : RoadKit.Has V vs (.int 0)) : Cod cd cs.length (fun j => cs.getD j 0) V := by
  rcases h with ⟨rfl, rfl, rfl, h⟩ | ⟨rfl, rfl, rfl, c, hc, hw⟩
  · rw [n32 (by omega)] at hs
    exact Or.inl ⟨rfl, hs, fun j hj => ⟨by rw [hv j (by omega), low_at _ _ _ hj], by
      have e : cs.getD j 0 = cs[j] := by simp [List.getD_eq_getElem?_getD, hj]
      show ¬ 255 < cs.getD j 0
      rw [e]; exact h _ (List.getElem_mem _)⟩⟩
  · rw [n32 (by omega)] at hs
    obtain ⟨j, hj, rfl⟩ := List.getElem_of_mem hc
    exact Or.inr ⟨rfl, hs, fun j hj => ⟨by rw [hv _ (by omega), wide_lo _ _ _ hj], by rw [hv _ (by omega), wide_hi _ _ _ hj]⟩, j, hj, by
      have e : cs.getD j 0 = cs[j] := by simp [List.getD_eq_getElem?_getD, hj]
      show 255 < cs.getD j 0
      rw [e]; exact hw⟩
/-- an object of exactly java/lang/String, its two fields found: as the laws ask it -/
theorem strObj {Z U : State} {a0 : Array Value} {kI : Nat} (wi : (Jvm.Cond.instantiable ST kI).before a0 Z = true) (al : Z.vm.Alike U.vm) {x : Addr} {v0 c0 : Value} (E : RoadKit.Exa Z U.heap x ST) (V : RoadKit.Fld Z U.heap x ST "value" "[B" v0) (C : RoadKit.Fld Z U.heap x ST "coder" "B" c0) :
    ∃ (D : Cell) (fV fC : Field), Blank ST x D U ∧ Found ST "value" "[B" fV U ∧ Found ST "coder" "B" fC U ∧ D.slots[fV.slot]? = some v0 ∧ D.slots[fC.slot]? = some c0 ∧ RoadKit.slotOf Z ST "value" "[B" = fV.slot ∧ RoadKit.slotOf Z ST "coder" "B" = fC.slot := by
  obtain ⟨D, cfV, kV, iV, fV, hD, gV, stV, knV, obV, asV, slV⟩ := V
  obtain ⟨D', cfC, kC, iC, fC, hD', gC, stC, -, -, asC, slC⟩ := C
  cases hD.symm.trans hD'
  obtain ⟨D2, kD, e1, e2, e3, e4, e5⟩ := E
  cases hD.symm.trans e1
  obtain ⟨c2, k2, i1, i2, i3, -⟩ := Cond.instantiable_spec wi
  cases e2.symm.trans i1
  cases e3.symm.trans i2
  obtain ⟨kU, u1, u2⟩ := al.2.2 _ _ e3
  exact ⟨D, fV, fC, ⟨hD, ⟨knV, fun q hq => by rw [hq] at obV; cases obV⟩, by rw [al.findClass]; exact e2, kU, u1, by rw [u2]; exact i3, by rw [u2]; exact e5 i3⟩, ⟨SBG.found_only al ⟨cfV, kV, iV, gV⟩, stV⟩, ⟨SBG.found_only al ⟨cfC, kC, iC, gC⟩, stC⟩, slV, slC, by simp [RoadKit.slotOf, gV], by simp [RoadKit.slotOf, gC]⟩
theorem sta_is {Z U : State} (al : Z.vm.Alike U.vm) {C n d : String} {v : Value} (S : RoadKit.Sta Z U.heap C n d v) : StaticIs U C n d v := by
  obtain ⟨cfS, iS, kS, fS, st, cS, t1, t2, t3, t4, t5, t6, t7⟩ := S
  exact StaticIs.there (s := { Z with heap := U.heap }) ⟨cfS, iS, kS, fS, st, cS, t1, t2, t3, t4, t5, (fun q => by rw [q] at t6; cases t6), t7⟩ al rfl
end StrChars.Road
namespace StrChars
open Jvm Sem ClassFile Op Lib Jvm.Stand Jvm.Free.XT Jvm.Free.ALB Jvm.Free.JM Jvm.Free
open Jvm.Lib.Cold (StaticIs)
/-- what place i of a byte[]'s cell holds -/
def yv (A : Cell) (i : Nat) : Int32 := match A.slots[i]? with | some (.int x) => x | _ => 0
theorem yv_get {a : Addr} {A : Cell} {U : State} (h : XT.Arr .byte a A U) (ht : Typed .byte A) {i : Nat} (hi : i < A.slots.size) : A.slots[i]? = some (.int (yv A i)) := by
  have e := Array.getElem?_eq_getElem hi
  have f := ht i _ e
  unfold yv; rw [e]
  generalize A.slots[i] = v at f
  cases v <;> simp [fits] at f ⊢
/-- the two arrays are equal, place for place -/
def EqC (A B : Cell) : Prop := A.slots.size = B.slots.size ∧ ∀ i, i < A.slots.size → yv A i = yv B i
/-- a boolean that says whether p -/
def Says01 (q : Prop) (r : Option Value) (s u : State) : Prop := ∃ v : Int32, r = some (.int v) ∧ u.heap = s.heap ∧ ((v = 1 ∧ q) ∨ (v = 0 ∧ ¬ q))
theorem Says01.mv {q : Prop} : ∀ r (U U' V V' : State), U'.heap = U.heap → V.vm.Alike V'.vm → V'.heap = V.heap → Says01 q r U V → Says01 q r U' V' :=
  fun r U U' V V' h1 _ h2 ⟨v, a, b, c⟩ => ⟨v, a, by rw [h1, h2]; exact b, c⟩
namespace LEq
def yN : MethodName := ⟨"java/lang/StringLatin1", "equals", "([B[B)Z"⟩
abbrev yB : ByteArray := jdk_43_method_13_code
theorem d0 : decode yB 0 = .ok (.aload_n 0, 1) := by decide +kernel
theorem d1 : decode yB 1 = .ok (.arraylength, 1) := by decide +kernel
theorem d2 : decode yB 2 = .ok (.aload_n 1, 1) := by decide +kernel
theorem d3 : decode yB 3 = .ok (.arraylength, 1) := by decide +kernel
theorem d4 : decode yB 4 = .ok (.if_icmp (.ne) 30, 3) := by decide +kernel
theorem d7 : decode yB 7 = .ok (.iconst 0, 1) := by decide +kernel
theorem d8 : decode yB 8 = .ok (.istore_n 2, 1) := by decide +kernel
theorem d9 : decode yB 9 = .ok (.iload_n 2, 1) := by decide +kernel
theorem d10 : decode yB 10 = .ok (.aload_n 0, 1) := by decide +kernel
theorem d11 : decode yB 11 = .ok (.arraylength, 1) := by decide +kernel
theorem d12 : decode yB 12 = .ok (.if_icmp (.ge) 20, 3) := by decide +kernel
theorem d15 : decode yB 15 = .ok (.aload_n 0, 1) := by decide +kernel
theorem d16 : decode yB 16 = .ok (.iload_n 2, 1) := by decide +kernel
theorem d17 : decode yB 17 = .ok (.baload, 1) := by decide +kernel
theorem d18 : decode yB 18 = .ok (.aload_n 1, 1) := by decide +kernel
theorem d19 : decode yB 19 = .ok (.iload_n 2, 1) := by decide +kernel
theorem d20 : decode yB 20 = .ok (.baload, 1) := by decide +kernel
theorem d21 : decode yB 21 = .ok (.if_icmp (.eq) 5, 3) := by decide +kernel
theorem d24 : decode yB 24 = .ok (.iconst 0, 1) := by decide +kernel
theorem d25 : decode yB 25 = .ok (.ireturn, 1) := by decide +kernel
theorem d26 : decode yB 26 = .ok (.iinc 2 1, 3) := by decide +kernel
theorem d29 : decode yB 29 = .ok (.goto (-20), 3) := by decide +kernel
theorem d32 : decode yB 32 = .ok (.iconst 1, 1) := by decide +kernel
theorem d33 : decode yB 33 = .ok (.ireturn, 1) := by decide +kernel
theorem d34 : decode yB 34 = .ok (.iconst 0, 1) := by decide +kernel
theorem d35 : decode yB 35 = .ok (.ireturn, 1) := by decide +kernel
def site : List Cond := []
def tab : Cond := tabOf yN yB 3 (some .boolean) site
def P (a : Addr) (A : Cell) (b : Addr) (B : Cell) (args : Array Value) (s : State) : Prop := args = #[.ref a, .ref b] ∧ XT.Arr .byte a A s ∧ Typed .byte A ∧ XT.Arr .byte b B s ∧ Typed .byte B
/-- whether two byte[] are equal, place for place -/
theorem law (l : Launch) (a : Addr) (A : Cell) (b : Addr) (B : Cell) : Law l yN 2 2 0 0 yB 3 (some .boolean) site (P a A b B) (Says01 (EqC A B)) [] 0 0 := by
  refine Law.of_walk (plainFor_of_name (by decide +kernel)) (by decide +kernel) (by decide +kernel) (by decide) (fun _ _ h => by rw [h.1]; rfl) (fun _ U U' hal hh h => ⟨h.1, h.2.1.mv hal hh, h.2.2.1, h.2.2.2.1.mv hal hh, h.2.2.2.2⟩) (fun r U U' V V' h1 hal h2 h => Says01.mv r U U' V V' h1 hal h2 h) ?_
  intro p e s m args below meth c s₁ X0 hexec hbytes hml hret hlk hnm hown hh0 W hP
  obtain ⟨rfl, hA, tA, hB, tB⟩ := hP
  have a31 := hA.2.2.2
  have b31 := hB.2.2.2
  have hA0 := hA.mv X0.warmed.alike hh0
  have hB0 := hB.mv X0.warmed.alike hh0
  have c1 : Steps p.tables e below (s₁.setTop (entryFrame m #[.ref a, .ref b] 3)) (s₁.setTop (mkF m 0 #[.val (.ref a), .val (.ref b), .unset] [])) := entry rfl
  have c2 : Steps p.tables e below (s₁.setTop (entryFrame m #[.ref a, .ref b] 3)) (s₁.setTop (mkF m 4 #[.val (.ref a), .val (.ref b), .unset] [.int (Int32.ofNat B.slots.size), .int (Int32.ofNat A.slots.size)])) := c1.trans (by
    refine XS.aloadN X0.here hexec rfl (hb hbytes d0) rfl rfl ?_
    refine X0.alen hexec hA0 rfl rfl (hb hbytes d1) ?_
    refine XS.aloadN X0.here hexec rfl (hb hbytes d2) rfl rfl ?_
    refine X0.alen hexec hB0 rfl rfl (hb hbytes d3) ?_
    exact Steps.refl _)
  by_cases hs : A.slots.size = B.slots.size
  · have c3 : Steps p.tables e below (s₁.setTop (entryFrame m #[.ref a, .ref b] 3)) (s₁.setTop (mkF m 9 #[.val (.ref a), .val (.ref b), .val (.int 0)] [])) := c2.trans (by
      refine XS.icmpNo X0.here hexec rfl (hb hbytes d4) rfl (ii_ne_f (by rw [hs])) ?_
      refine iconstV X0.here hexec rfl 0 (hb hbytes d7) (by decide) ?_
      refine XS.istoreN X0.here hexec rfl (hb hbytes d8) rfl rfl ?_
      exact Steps.refl _)
    have loop : ∀ (r i : Nat), i + r = A.slots.size → (∀ j, j < i → yv A j = yv B j) → Steps p.tables e below (s₁.setTop (entryFrame m #[.ref a, .ref b] 3)) (s₁.setTop (mkF m 9 #[.val (.ref a), .val (.ref b), .val (.int (Int32.ofNat i))] [])) → ∃ (pc : Nat) (Ls : Array Slot) (v : Int32), (pc = 25 ∨ pc = 33) ∧ ((v = 1 ∧ EqC A B) ∨ (v = 0 ∧ ¬ EqC A B)) ∧ Steps p.tables e below (s₁.setTop (entryFrame m #[.ref a, .ref b] 3)) (s₁.setTop (mkF m pc Ls [.int v])) := by
      intro r
      induction r with
      | zero =>
        intro i hi he cl
        exact ⟨33, _, 1, Or.inr rfl, Or.inl ⟨rfl, hs, fun j hj => he j (by omega)⟩, cl.trans (by
          refine XS.iloadN X0.here hexec rfl (hb hbytes d9) rfl ?_
          refine XS.aloadN X0.here hexec rfl (hb hbytes d10) rfl rfl ?_
          refine X0.alen hexec hA0 rfl rfl (hb hbytes d11) ?_
          refine XS.icmpYes X0.here hexec rfl (pc0 := 12) rfl (hb hbytes d12) rfl (ii_ge_t (nlt32 (by omega) (by omega))) (by decide) rfl ?_
          refine iconstV X0.here hexec rfl 1 (hb hbytes d32) (by decide) ?_
          exact Steps.refl _)⟩
      | succ r ih =>
        intro i hi he cl
        have c4 : Steps p.tables e below (s₁.setTop (entryFrame m #[.ref a, .ref b] 3)) (s₁.setTop (mkF m 21 #[.val (.ref a), .val (.ref b), .val (.int (Int32.ofNat i))] [.int (yv B i), .int (yv A i)])) := cl.trans (by
          refine XS.iloadN X0.here hexec rfl (hb hbytes d9) rfl ?_
          refine XS.aloadN X0.here hexec rfl (hb hbytes d10) rfl rfl ?_
          refine X0.alen hexec hA0 rfl rfl (hb hbytes d11) ?_
          refine XS.icmpNo X0.here hexec rfl (hb hbytes d12) rfl (ii_ge_f (lt32 (by omega) (by omega))) ?_
          refine XS.aloadN X0.here hexec rfl (hb hbytes d15) rfl rfl ?_
          refine XS.iloadN X0.here hexec rfl (hb hbytes d16) rfl ?_
          refine X0.aget hexec hA0 rfl (yv_get hA tA (i := i) (by omega)) rfl rfl (hb hbytes d17) ?_
          refine XS.aloadN X0.here hexec rfl (hb hbytes d18) rfl rfl ?_
          refine XS.iloadN X0.here hexec rfl (hb hbytes d19) rfl ?_
          refine X0.aget hexec hB0 rfl (yv_get hB tB (i := i) (by omega)) rfl rfl (hb hbytes d20) ?_
          exact Steps.refl _)
        by_cases hv : yv A i = yv B i
        · have c5 : Steps p.tables e below (s₁.setTop (entryFrame m #[.ref a, .ref b] 3)) (s₁.setTop (mkF m 9 #[.val (.ref a), .val (.ref b), .val (.int (Int32.ofNat i + 1))] [])) := c4.trans (by
            refine XS.icmpYes X0.here hexec rfl (pc0 := 21) rfl (hb hbytes d21) rfl (ii_eq_t hv) (by decide) rfl ?_
            refine iincV X0.here hexec rfl 1 (hb hbytes d26) (by decide) rfl rfl ?_
            refine XS.goto X0.here hexec rfl (pc0 := 29) rfl (hb hbytes d29) (by decide) rfl ?_
            exact Steps.refl _)
          rw [succ32] at c5
          exact ih (i + 1) (by omega) (fun j hj => by
            by_cases e : j = i
            · rw [e]; exact hv
            · exact he j (by omega)) c5
        · exact ⟨25, _, 0, Or.inl rfl, Or.inr ⟨rfl, fun q => hv (q.2 i (by omega))⟩, c4.trans (by
            refine XS.icmpNo X0.here hexec rfl (hb hbytes d21) rfl (ii_eq_f hv) ?_
            refine iconstV X0.here hexec rfl 0 (hb hbytes d24) (by decide) ?_
            exact Steps.refl _)⟩
    obtain ⟨pc, Ls, v, hpc, hv, cz⟩ := loop A.slots.size 0 (by omega) (fun j hj => absurd hj (Nat.not_lt_zero j)) c3
    have nv : narrow .boolean (.int v) = .int v := by rcases hv with ⟨rfl, -⟩ | ⟨rfl, -⟩ <;> rfl
    rcases hpc with rfl | rfl
    · exact ⟨s₁, some (.int v), _, _, _, X0, rfl, rfl, rfl, (fun h => by cases h), ⟨v, rfl, hh0, hv⟩, fun fs hl => cz.trans (X0.ireturnOut hexec hret nv (Or.inr (Or.inl rfl)) (hb hbytes d25) hl)⟩
    · exact ⟨s₁, some (.int v), _, _, _, X0, rfl, rfl, rfl, (fun h => by cases h), ⟨v, rfl, hh0, hv⟩, fun fs hl => cz.trans (X0.ireturnOut hexec hret nv (Or.inr (Or.inl rfl)) (hb hbytes d33) hl)⟩
  · have c3 : Steps p.tables e below (s₁.setTop (entryFrame m #[.ref a, .ref b] 3)) (s₁.setTop (mkF m 35 #[.val (.ref a), .val (.ref b), .unset] [.int 0])) := c2.trans (by
      refine XS.icmpYes X0.here hexec rfl (pc0 := 4) rfl (hb hbytes d4) rfl (ii_ne_t (ne32 a31 b31 hs)) (by decide) rfl ?_
      refine iconstV X0.here hexec rfl 0 (hb hbytes d34) (by decide) ?_
      exact Steps.refl _)
    exact ⟨s₁, some (.int 0), _, _, _, X0, rfl, rfl, rfl, (fun h => by cases h), ⟨0, rfl, hh0, Or.inr ⟨rfl, fun q => hs q.1⟩⟩, fun fs hl => c3.trans (X0.ireturnOut hexec hret rfl (Or.inr (Or.inl rfl)) (hb hbytes d35) hl)⟩
end LEq
theorem Cod.ty {cd : Int32} {n : Nat} {f : Nat → Int32} {V : Cell} (h : Cod cd n f V) : Typed .byte V := fun i v hv => by
  have hi : i < V.slots.size := (Array.getElem?_eq_some_iff.mp hv).1
  rcases h with ⟨-, k1, k2⟩ | ⟨-, k1, k2, -⟩
  · rw [(k2 i (by omega)).1] at hv; cases hv; exact fits_lo8 _
  · rcases Nat.mod_two_eq_zero_or_one i with e | e
    · obtain ⟨j, rfl⟩ : ∃ j, i = 2 * j := ⟨i / 2, by omega⟩
      rw [(k2 j (by omega)).1] at hv; cases hv; exact fits_lo8 _
    · obtain ⟨j, rfl⟩ : ∃ j, i = 2 * j + 1 := ⟨i / 2, by omega⟩
      rw [(k2 j (by omega)).2] at hv; cases hv; exact fits_lo8 _
/-- the same text -/
def SameT (n : Nat) (f : Nat → Int32) (k : Nat) (g : Nat → Int32) : Prop := n = k ∧ ∀ j, j < n → f j = g j
theorem lo8_inj {x y : Int32} (h0 : ¬ x < 0) (h1 : ¬ 255 < x) (k0 : ¬ y < 0) (k1 : ¬ 255 < y) (h : lo8 x = lo8 y) : x = y := by
  rw [← lo8_mask h0 h1, ← lo8_mask k0 k1, h]
/-- arrays coded by one coder are equal just where the texts are -/
theorem Cod.eqv {cd : Int32} {n k : Nat} {f g : Nat → Int32} {V V' : Cell} (h : Cod cd n f V) (h' : Cod cd k g V') (hf : ∀ j, j < n → ¬ f j < 0 ∧ ¬ 65535 < f j) (hg : ∀ j, j < k → ¬ g j < 0 ∧ ¬ 65535 < g j) : EqC V V' ↔ SameT n f k g := by
  have yvv : ∀ {W : Cell} {i : Nat} {x : Int32}, W.slots[i]? = some (.int x) → yv W i = x := fun q => by unfold yv; rw [q]
  rcases h with ⟨rfl, k1, k2⟩ | ⟨rfl, k1, k2, -⟩
  · rcases h' with ⟨-, m1, m2⟩ | ⟨e, -⟩
    · constructor
      · rintro ⟨e1, e2⟩
        refine ⟨by omega, fun j hj => ?_⟩
        have q := e2 j (by omega)
        rw [yvv (k2 j hj).1, yvv (m2 j (by omega)).1] at q
        exact lo8_inj (hf j hj).1 (k2 j hj).2 (hg j (by omega)).1 (m2 j (by omega)).2 q
      · rintro ⟨rfl, e2⟩
        refine ⟨by omega, fun j hj => ?_⟩
        rw [yvv (k2 j (by omega)).1, yvv (m2 j (by omega)).1, e2 j (by omega)]
    · exact absurd e (by decide)
  · rcases h' with ⟨e, -⟩ | ⟨-, m1, m2, -⟩
    · exact absurd e (by decide)
    · constructor
      · rintro ⟨e1, e2⟩
        refine ⟨by omega, fun j hj => ?_⟩
        have q1 := e2 (2 * j) (by omega)
        have q2 := e2 (2 * j + 1) (by omega)
        rw [yvv (k2 j hj).1, yvv (m2 j (by omega)).1] at q1
        rw [yvv (k2 j hj).2, yvv (m2 j (by omega)).2] at q2
        rw [← pair_says (hf j hj).1 (hf j hj).2, ← pair_says (hg j (by omega)).1 (hg j (by omega)).2, q1, q2]
      · rintro ⟨rfl, e2⟩
        refine ⟨by omega, fun i hi => ?_⟩
        rcases Nat.mod_two_eq_zero_or_one i with e | e
        · obtain ⟨j, rfl⟩ : ∃ j, i = 2 * j := ⟨i / 2, by omega⟩
          rw [yvv (k2 j (by omega)).1, yvv (m2 j (by omega)).1, e2 j (by omega)]
        · obtain ⟨j, rfl⟩ : ∃ j, i = 2 * j + 1 := ⟨i / 2, by omega⟩
          rw [yvv (k2 j (by omega)).2, yvv (m2 j (by omega)).2, e2 j (by omega)]
/-- two codings differ: so do the texts -/
theorem Cod.dif {cd cd' : Int32} {n k : Nat} {f g : Nat → Int32} {V V' : Cell} (h : Cod cd n f V) (h' : Cod cd' k g V') (hne : ¬ cd = cd') : ¬ SameT n f k g := by
  rintro ⟨rfl, e⟩
  rcases h with ⟨rfl, -, k2⟩ | ⟨rfl, -, -, j, hj, hw⟩
  · rcases h' with ⟨rfl, -⟩ | ⟨-, -, -, j, hj, hw⟩
    · exact hne rfl
    · exact (k2 j hj).2 (by rw [e j hj]; exact hw)
  · rcases h' with ⟨-, -, m2⟩ | ⟨rfl, -⟩
    · exact (m2 j hj).2 (by rw [← e j hj]; exact hw)
    · exact hne rfl
/-- an object of exactly C is an instance of C -/
theorem cinst {p : Program} {l : Launch} {e : Env} {R : Room} {s : State} {m : MethodId} {args : Array Value} {below : List Frame} {meth : Method} {c : Code} {T : State} {locs : List Loc} {cells slots : Nat} (X : Stand p l e R s m args below meth c T locs cells slots) (hexec : p.tables.exec = Jvm.exec) {own C : String} {index : Nat} (hown : s.vm.findClass own = some m.cls) (hlink : (Cond.classLink own index C).before args s = true) {a : Addr} (hE : Exact C a T)
    {g : JFrame} (hg : g.method = m) {rest : List Value} (hstack : g.stack = .ref a :: rest) (hdg : decode c.code g.pc = .ok (.instanceof index, 3)) :
    ∃ T', Stand p l e R s m args below meth c T' locs cells slots ∧ T'.heap = T.heap ∧ ∀ target, Steps p.tables e below (T'.setTop { g with pc := g.pc + 3, stack := .int 1 :: rest }) target → Steps p.tables e below (T.setTop g) target := by
  obtain ⟨cB, h1, D, h2, h3, h4⟩ := hE
  have h1' : s.vm.findClass C = some cB := by rw [← X.warmed.alike.findClass]; exact h1
  obtain ⟨vm', X', st⟩ := X.instanceofYes hexec hown hlink h2 h4 h1' (by rw [h3]; exact Jvm.Free.SB.assignable_self _ _) hg hstack hdg
  exact ⟨_, X', rfl, st⟩
theorem cself {p : Program} {l : Launch} {e : Env} {R : Room} {s : State} {m : MethodId} {args : Array Value} {below : List Frame} {meth : Method} {c : Code} {T : State} {locs : List Loc} {cells slots : Nat} (X : Stand p l e R s m args below meth c T locs cells slots) (hexec : p.tables.exec = Jvm.exec) {own C : String} {index : Nat} (hown : s.vm.findClass own = some m.cls) (hlink : (Cond.classLink own index C).before args s = true) {a : Addr} (hE : Exact C a T)
    {g : JFrame} (hg : g.method = m) {rest : List Value} (hstack : g.stack = .ref a :: rest) (hdg : decode c.code g.pc = .ok (.checkcast index, 3)) :
    ∃ T', Stand p l e R s m args below meth c T' locs cells slots ∧ T'.heap = T.heap ∧ ∀ target, Steps p.tables e below (T'.setTop { g with pc := g.pc + 3, stack := .ref a :: rest }) target → Steps p.tables e below (T.setTop g) target := by
  obtain ⟨cB, h1, D, h2, h3, h4⟩ := hE
  have h1' : s.vm.findClass C = some cB := by rw [← X.warmed.alike.findClass]; exact h1
  obtain ⟨vm', X', st⟩ := X.checkcastYes hexec hown hlink h2 h4 h1' (by rw [h3]; exact Jvm.Free.SB.assignable_self _ _) hg hstack hdg
  exact ⟨_, X', rfl, fun t h => st t (by rw [← hstack] at h; exact h)⟩
namespace SEq
def yN : MethodName := ⟨"java/lang/String", "equals", "(Ljava/lang/Object;)Z"⟩
abbrev yB : ByteArray := jdk_42_method_66_code
theorem d0 : decode yB 0 = .ok (.aload_n 0, 1) := by decide +kernel
theorem d1 : decode yB 1 = .ok (.aload_n 1, 1) := by decide +kernel
theorem d2 : decode yB 2 = .ok (.if_acmp (.ne) 5, 3) := by decide +kernel
theorem d5 : decode yB 5 = .ok (.iconst 1, 1) := by decide +kernel
theorem d6 : decode yB 6 = .ok (.ireturn, 1) := by decide +kernel
theorem d7 : decode yB 7 = .ok (.aload_n 1, 1) := by decide +kernel
theorem d8 : decode yB 8 = .ok (.instanceof 10, 3) := by decide +kernel
theorem d11 : decode yB 11 = .ok (.ifCond (.eq) 43, 3) := by decide +kernel
theorem d14 : decode yB 14 = .ok (.aload_n 1, 1) := by decide +kernel
theorem d15 : decode yB 15 = .ok (.checkcast 10, 3) := by decide +kernel
theorem d18 : decode yB 18 = .ok (.astore_n 2, 1) := by decide +kernel
theorem d19 : decode yB 19 = .ok (.getstatic 38, 3) := by decide +kernel
theorem d22 : decode yB 22 = .ok (.ifCond (.eq) 14, 3) := by decide +kernel
theorem d25 : decode yB 25 = .ok (.aload_n 0, 1) := by decide +kernel
theorem d26 : decode yB 26 = .ok (.getfield 15, 3) := by decide +kernel
theorem d29 : decode yB 29 = .ok (.aload_n 2, 1) := by decide +kernel
theorem d30 : decode yB 30 = .ok (.getfield 15, 3) := by decide +kernel
theorem d33 : decode yB 33 = .ok (.if_icmp (.ne) 21, 3) := by decide +kernel
theorem d36 : decode yB 36 = .ok (.aload_n 0, 1) := by decide +kernel
theorem d37 : decode yB 37 = .ok (.getfield 9, 3) := by decide +kernel
theorem d40 : decode yB 40 = .ok (.aload_n 2, 1) := by decide +kernel
theorem d41 : decode yB 41 = .ok (.getfield 9, 3) := by decide +kernel
theorem d44 : decode yB 44 = .ok (.invokestatic 541, 3) := by decide +kernel
theorem d47 : decode yB 47 = .ok (.ifCond (.eq) 7, 3) := by decide +kernel
theorem d50 : decode yB 50 = .ok (.iconst 1, 1) := by decide +kernel
theorem d51 : decode yB 51 = .ok (.goto 4, 3) := by decide +kernel
theorem d54 : decode yB 54 = .ok (.iconst 0, 1) := by decide +kernel
theorem d55 : decode yB 55 = .ok (.ireturn, 1) := by decide +kernel
def site : List Cond := [.classLink "java/lang/String" 10 "java/lang/String", .fieldLink "java/lang/String" 38 "java/lang/String" "COMPACT_STRINGS" "Z", .fieldLink "java/lang/String" 15 "java/lang/String" "coder" "B", .fieldLink "java/lang/String" 9 "java/lang/String" "value" "[B", LEq.tab] ++ staticW "java/lang/String" 541 LEq.yN
def tab : Cond := tabOf yN yB 3 (some .boolean) site
def P (x t : Addr) (V : Cell) (cd : Int32) (n : Nat) (f : Nat → Int32) (y t' : Addr) (V' : Cell) (cd' : Int32) (k : Nat) (g : Nat → Int32) (z : Int32) (args : Array Value) (s : State) : Prop := args = #[.ref x, .ref y] ∧ Txt x t V cd n f s ∧ Txt y t' V' cd' k g s ∧ StaticIs s "java/lang/String" "COMPACT_STRINGS" "Z" (.int z) ∧ ¬ z = 0
/-- equals(Object) of two Strings: whether the texts are the same -/
theorem law (l : Launch) (x t : Addr) (V : Cell) (cd : Int32) (n : Nat) (f : Nat → Int32) (y t' : Addr) (V' : Cell) (cd' : Int32) (k : Nat) (g : Nat → Int32) (z : Int32) : Law l yN 2 1 1 14 yB 3 (some .boolean) site (P x t V cd n f y t' V' cd' k g z) (Says01 (SameT n f k g)) [] 0 0 := by
  refine Law.of_walk (plainFor_of_name (by decide +kernel)) (by decide +kernel) (by decide +kernel) (by decide) (fun _ _ h => by rw [h.1]; rfl) (fun _ U U' hal hh h => ⟨h.1, h.2.1.mv hal hh, h.2.2.1.mv hal hh, h.2.2.2.1.there hal hh, h.2.2.2.2⟩) (fun r U U' V V' h1 hal h2 h => Says01.mv r U U' V V' h1 hal h2 h) ?_
  intro p e s m args below meth c s₁ X0 hexec hbytes hml hret hlk hnm hown hh0 W hP
  obtain ⟨rfl, hx, hy, s1, hz⟩ := hP
  have c1 : Steps p.tables e below (s₁.setTop (entryFrame m #[.ref x, .ref y] 3)) (s₁.setTop (mkF m 2 #[.val (.ref x), .val (.ref y), .unset] [.ref y, .ref x])) := Steps.trans (entry rfl) (by
    show Steps p.tables e below (s₁.setTop (mkF m 0 #[.val (.ref x), .val (.ref y), .unset] [])) _
    refine XS.aloadN X0.here hexec rfl (hb hbytes d0) rfl rfl ?_
    refine XS.aloadN X0.here hexec rfl (hb hbytes d1) rfl rfl ?_
    exact Steps.refl _)
  by_cases hxy : x = y
  · have c2 : Steps p.tables e below (s₁.setTop (entryFrame m #[.ref x, .ref y] 3)) (s₁.setTop (mkF m 6 #[.val (.ref x), .val (.ref y), .unset] [.int 1])) := c1.trans (by
      refine acmpNo X0.here hexec rfl (hb hbytes d2) rfl rfl rfl (by simp [acmp, hxy]) ?_
      refine iconstV X0.here hexec rfl 1 (hb hbytes d5) (by decide) ?_
      exact Steps.refl _)
    subst hxy
    have ec : cd = cd' := by
      obtain ⟨D, fd, a1, a2, a3⟩ := hx.2.2.1
      obtain ⟨D', fd', b1, b2, b3⟩ := hy.2.2.1
      cases a1.symm.trans b1
      obtain ⟨q1, q2, q3, q4⟩ := a2.1
      obtain ⟨r1, r2, r3, r4⟩ := b2.1
      cases q4.symm.trans r4
      cases a3.symm.trans b3; rfl
    have et : t = t' := by
      obtain ⟨D, fd, a1, a2, a3⟩ := hx.2.1
      obtain ⟨D', fd', b1, b2, b3⟩ := hy.2.1
      cases a1.symm.trans b1
      obtain ⟨q1, q2, q3, q4⟩ := a2.1
      obtain ⟨r1, r2, r3, r4⟩ := b2.1
      cases q4.symm.trans r4
      cases a3.symm.trans b3; rfl
    subst ec et
    have ev : V = V' := by cases hx.2.2.2.1.1.symm.trans hy.2.2.2.1.1; rfl
    subst ev
    have hs : SameT n f k g := (Cod.eqv hx.2.2.2.2.1 hy.2.2.2.2.1 hx.2.2.2.2.2 hy.2.2.2.2.2).mp ⟨rfl, fun _ _ => rfl⟩
    exact ⟨s₁, some (.int 1), _, _, _, X0, rfl, rfl, rfl, (fun h => by cases h), ⟨1, rfl, hh0, Or.inl ⟨rfl, hs⟩⟩, fun fs hl => c2.trans (X0.ireturnOut hexec hret rfl (Or.inr (Or.inl rfl)) (hb hbytes d6) hl)⟩
  · have c2 : Steps p.tables e below (s₁.setTop (entryFrame m #[.ref x, .ref y] 3)) (s₁.setTop (mkF m 8 #[.val (.ref x), .val (.ref y), .unset] [.ref y])) := c1.trans (by
      refine acmpYes X0.here hexec rfl (pc0 := 2) rfl (hb hbytes d2) rfl rfl rfl (by simp [acmp, hxy]) (by decide) rfl ?_
      refine XS.aloadN X0.here hexec rfl (hb hbytes d7) rfl rfl ?_
      exact Steps.refl _)
    obtain ⟨T3, X3, q3, st3⟩ := cinst X0 hexec hown (wk W (.classLink "java/lang/String" 10 "java/lang/String")) (hy.mv X0.warmed.alike hh0).1 (g := (mkF m 8 #[.val (.ref x), .val (.ref y), .unset] [.ref y])) rfl (rest := []) rfl (hb hbytes d8)
    have hh3 := q3.trans hh0
    have c4 : Steps p.tables e below (s₁.setTop (entryFrame m #[.ref x, .ref y] 3)) (T3.setTop (mkF m 15 #[.val (.ref x), .val (.ref y), .unset] [.ref y])) := (c2.trans (st3 _ (Steps.refl _))).trans (by
      refine XS.ifNo X3.here hexec rfl (hb hbytes d11) rfl (i0_eq_f (by decide)) ?_
      refine XS.aloadN X3.here hexec rfl (hb hbytes d14) rfl rfl ?_
      exact Steps.refl _)
    obtain ⟨T5, X5, q5, st5⟩ := cself X3 hexec hown (wk W (.classLink "java/lang/String" 10 "java/lang/String")) (hy.mv X3.warmed.alike hh3).1 (g := (mkF m 15 #[.val (.ref x), .val (.ref y), .unset] [.ref y])) rfl (rest := []) rfl (hb hbytes d15)
    have hh5 := q5.trans hh3
    have c6 : Steps p.tables e below (s₁.setTop (entryFrame m #[.ref x, .ref y] 3)) (T5.setTop (mkF m 19 #[.val (.ref x), .val (.ref y), .val (.ref y)] [])) := (c4.trans (st5 _ (Steps.refl _))).trans (by
      refine XS.astoreN X5.here hexec rfl (hb hbytes d18) rfl rfl rfl ?_
      exact Steps.refl _)
    obtain ⟨T7, X7, q7, st7⟩ := X5.sget hexec hown (wk W (.fieldLink "java/lang/String" 38 "java/lang/String" "COMPACT_STRINGS" "Z")) s1 (fun _ _ h => by rw [hh5]; exact h) (g := (mkF m 19 #[.val (.ref x), .val (.ref y), .val (.ref y)] [])) rfl (hb hbytes d19)
    have hh7 := q7.trans hh5
    have c8 : Steps p.tables e below (s₁.setTop (entryFrame m #[.ref x, .ref y] 3)) (T7.setTop (mkF m 26 #[.val (.ref x), .val (.ref y), .val (.ref y)] [.ref x])) := (c6.trans (st7 _ (Steps.refl _))).trans (by
      refine XS.ifNo X7.here hexec rfl (hb hbytes d22) rfl (i0_eq_f hz) ?_
      refine XS.aloadN X7.here hexec rfl (hb hbytes d25) rfl rfl ?_
      exact Steps.refl _)
    obtain ⟨T9, X9, q9, st9⟩ := X7.hget hexec hown (wk W (.fieldLink "java/lang/String" 15 "java/lang/String" "coder" "B")) (hx.mv X7.warmed.alike hh7).2.2.1 (g := (mkF m 26 #[.val (.ref x), .val (.ref y), .val (.ref y)] [.ref x])) rfl (rest := []) rfl (hb hbytes d26)
    have hh9 := q9.trans hh7
    have c10 : Steps p.tables e below (s₁.setTop (entryFrame m #[.ref x, .ref y] 3)) (T9.setTop (mkF m 30 #[.val (.ref x), .val (.ref y), .val (.ref y)] [.ref y, .int cd])) := (c8.trans (st9 _ (Steps.refl _))).trans (by
      refine XS.aloadN X9.here hexec rfl (hb hbytes d29) rfl rfl ?_
      exact Steps.refl _)
    obtain ⟨T11, X11, q11, st11⟩ := X9.hget hexec hown (wk W (.fieldLink "java/lang/String" 15 "java/lang/String" "coder" "B")) (hy.mv X9.warmed.alike hh9).2.2.1 (g := (mkF m 30 #[.val (.ref x), .val (.ref y), .val (.ref y)] [.ref y, .int cd])) rfl (rest := [.int cd]) rfl (hb hbytes d30)
    have hh11 := q11.trans hh9
    have c12 : Steps p.tables e below (s₁.setTop (entryFrame m #[.ref x, .ref y] 3)) (T11.setTop (mkF m 33 #[.val (.ref x), .val (.ref y), .val (.ref y)] [.int cd', .int cd])) := c10.trans (st11 _ (Steps.refl _))
    by_cases hcd : cd = cd'
    · subst hcd
      have c13 : Steps p.tables e below (s₁.setTop (entryFrame m #[.ref x, .ref y] 3)) (T11.setTop (mkF m 37 #[.val (.ref x), .val (.ref y), .val (.ref y)] [.ref x])) := c12.trans (by
        refine XS.icmpNo X11.here hexec rfl (hb hbytes d33) rfl (ii_ne_f rfl) ?_
        refine XS.aloadN X11.here hexec rfl (hb hbytes d36) rfl rfl ?_
        exact Steps.refl _)
      obtain ⟨T14, X14, q14, st14⟩ := X11.hget hexec hown (wk W (.fieldLink "java/lang/String" 9 "java/lang/String" "value" "[B")) (hx.mv X11.warmed.alike hh11).2.1 (g := (mkF m 37 #[.val (.ref x), .val (.ref y), .val (.ref y)] [.ref x])) rfl (rest := []) rfl (hb hbytes d37)
      have hh14 := q14.trans hh11
      have c15 : Steps p.tables e below (s₁.setTop (entryFrame m #[.ref x, .ref y] 3)) (T14.setTop (mkF m 41 #[.val (.ref x), .val (.ref y), .val (.ref y)] [.ref y, .ref t])) := (c13.trans (st14 _ (Steps.refl _))).trans (by
        refine XS.aloadN X14.here hexec rfl (hb hbytes d40) rfl rfl ?_
        exact Steps.refl _)
      obtain ⟨T16, X16, q16, st16⟩ := X14.hget hexec hown (wk W (.fieldLink "java/lang/String" 9 "java/lang/String" "value" "[B")) (hy.mv X14.warmed.alike hh14).2.1 (g := (mkF m 41 #[.val (.ref x), .val (.ref y), .val (.ref y)] [.ref y, .ref t])) rfl (rest := [.ref t]) rfl (hb hbytes d41)
      have hh16 := q16.trans hh14
      have c17 : Steps p.tables e below (s₁.setTop (entryFrame m #[.ref x, .ref y] 3)) (T16.setTop (mkF m 44 #[.val (.ref x), .val (.ref y), .val (.ref y)] [.ref t', .ref t])) := c15.trans (st16 _ (Steps.refl _))
      obtain ⟨v18, T18, X18, E18, g18⟩ := X16.callS hexec (LEq.law l t V t' V') hown (wks W (staticW "java/lang/String" 541 LEq.yN)) (wk W LEq.tab) (W := 0) (Nat.le_of_ble_eq_true rfl) (Nat.le_of_ble_eq_true rfl) (Nat.le_refl _) (Nat.le_refl _) (g := (mkF m 44 #[.val (.ref x), .val (.ref y), .val (.ref y)] [.ref t', .ref t])) rfl (by rw [hml]; rfl) c17 (argsL := [.ref t, .ref t']) (rest := []) rfl rfl (by show 2 * 0 + 0 ≤ _; decide) (hb hbytes d44) (⟨rfl, hx.2.2.2.1.mv X16.warmed.alike hh16, hx.2.2.2.2.1.ty, hy.2.2.2.1.mv X16.warmed.alike hh16, hy.2.2.2.2.1.ty⟩)
      obtain ⟨v, rfl, q18, hv⟩ := E18
      have iff := Cod.eqv hx.2.2.2.2.1 hy.2.2.2.2.1 hx.2.2.2.2.2 hy.2.2.2.2.2
      rcases hv with ⟨rfl, he⟩ | ⟨rfl, he⟩
      · have c19 : Steps p.tables e below (s₁.setTop (entryFrame m #[.ref x, .ref y] 3)) (T18.setTop (mkF m 55 #[.val (.ref x), .val (.ref y), .val (.ref y)] [.int 1])) := Steps.trans g18 (by
          refine XS.ifNo X18.here hexec rfl (hb hbytes d47) rfl (i0_eq_f (by decide)) ?_
          refine iconstV X18.here hexec rfl 1 (hb hbytes d50) (by decide) ?_
          refine XS.goto X18.here hexec rfl (pc0 := 51) rfl (hb hbytes d51) (by decide) rfl ?_
          exact Steps.refl _)
        exact ⟨T18, some (.int 1), _, _, _, X18, rfl, rfl, rfl, (fun h => by cases h), ⟨1, rfl, q18.trans hh16, Or.inl ⟨rfl, iff.mp he⟩⟩, fun fs hl => c19.trans (X18.ireturnOut hexec hret rfl (Or.inr (Or.inl rfl)) (hb hbytes d55) hl)⟩
      · have c19 : Steps p.tables e below (s₁.setTop (entryFrame m #[.ref x, .ref y] 3)) (T18.setTop (mkF m 55 #[.val (.ref x), .val (.ref y), .val (.ref y)] [.int 0])) := Steps.trans g18 (by
          refine XS.ifYes X18.here hexec rfl (pc0 := 47) rfl (hb hbytes d47) rfl (i0_eq_t rfl) (by decide) rfl ?_
          refine iconstV X18.here hexec rfl 0 (hb hbytes d54) (by decide) ?_
          exact Steps.refl _)
        exact ⟨T18, some (.int 0), _, _, _, X18, rfl, rfl, rfl, (fun h => by cases h), ⟨0, rfl, q18.trans hh16, Or.inr ⟨rfl, fun q => he (iff.mpr q)⟩⟩, fun fs hl => c19.trans (X18.ireturnOut hexec hret rfl (Or.inr (Or.inl rfl)) (hb hbytes d55) hl)⟩
    · have c13 : Steps p.tables e below (s₁.setTop (entryFrame m #[.ref x, .ref y] 3)) (T11.setTop (mkF m 55 #[.val (.ref x), .val (.ref y), .val (.ref y)] [.int 0])) := c12.trans (by
        refine XS.icmpYes X11.here hexec rfl (pc0 := 33) rfl (hb hbytes d33) rfl (ii_ne_t hcd) (by decide) rfl ?_
        refine iconstV X11.here hexec rfl 0 (hb hbytes d54) (by decide) ?_
        exact Steps.refl _)
      exact ⟨T11, some (.int 0), _, _, _, X11, rfl, rfl, rfl, (fun h => by cases h), ⟨0, rfl, hh11, Or.inr ⟨rfl, Cod.dif hx.2.2.2.2.1 hy.2.2.2.2.1 hcd⟩⟩, fun fs hl => c13.trans (X11.ireturnOut hexec hret rfl (Or.inr (Or.inl rfl)) (hb hbytes d55) hl)⟩
theorem pays {l : Launch} {R : Room} {p : Program} {e : Env} {below : List Frame} {s : State} {sargs : Array Value} {len W : Nat} (x t : Addr) (V : Cell) (cd : Int32) (n : Nat) (f : Nat → Int32) (y t' : Addr) (V' : Cell) (cd' : Int32) (k : Nat) (g : Nat → Int32) (z : Int32) (htab : tab.before sargs s = true) (hfr : 2 ≤ R.frames) (hlo : W + 28 ≤ R.locals) :
    Back l R p e below s sargs yN len W (fun A₁ a₁ => A₁.cells + 0 ≤ R.cells ∧ A₁.slots + 0 ≤ R.slots ∧ P x t V cd n f y t' V' cd' k g z a₁ A₁.U) (fun A₁ _ v₁ B₁ => Says01 (SameT n f k g) v₁ A₁.U B₁.U ∧ B₁.locs = A₁.locs ++ [] ∧ B₁.cells = A₁.cells + 0 ∧ B₁.slots = A₁.slots + 0) :=
  (law l x t V cd n f y t' V' cd' k g z).pays htab hfr (by omega)
end SEq
end StrChars
namespace StrChars.Road
open Jvm Sem ClassFile Op Lib Jvm.Stand Jvm.Free Jvm.Free.XT
open Jvm.Lib.Cold (StaticIs)
/-- the words of String.equals(Object) -/
abbrev wordsEq : List Jvm.Cond := [.code SEq.yN SEq.yB 3 (some .boolean), .initialized ST, .classLink ST 10 ST, .fieldLink ST 38 ST "COMPACT_STRINGS" "Z", .fieldLink ST 15 ST "coder" "B", .fieldLink ST 9 ST "value" "[B", .methodLink ST 541 LEq.yN, .static LEq.yN, .code LEq.yN LEq.yB 3 (some .boolean), .initialized "java/lang/StringLatin1"]
theorem tabEq_of {a : Array Value} {s : State} (h : ∀ w ∈ wordsEq, w.before a s = true) : SEq.tab.before a s = true := by
  have hl : LEq.tab.before a s = true := unparts (wk h (.code LEq.yN LEq.yB 3 (some .boolean))) (wks h (.initialized LEq.yN.cls :: LEq.site))
  have q := consq hl h
  exact unparts (wk q (.code SEq.yN SEq.yB 3 (some .boolean))) (wks q (.initialized SEq.yN.cls :: SEq.site))
theorem movedEq {Z s : State} {a0 args : Array Value} (hZ : Z.Warmed39 s.vm) (hw : ∀ d ∈ wordsEq, d.before a0 Z = true) : ∀ d ∈ wordsEq, d.before args s = true := fun d hd => by
  have t : ∀ d ∈ wordsEq, (d.onTables && d.keepsFace) = true := by decide +kernel
  exact RoadKit.mv hZ (hw d hd) (t d hd)
/-- the road's facts of a String, as the laws ask it -/
theorem txt_of {Z U : State} {a0 : Array Value} {kI : Nat} (wi : (Jvm.Cond.instantiable ST kI).before a0 Z = true) (al : Z.vm.Alike U.vm) {x t : Addr} {kb : ClassId} {cs : List Int32} {cd N2 : Int32} {vs : List Value} (E : RoadKit.Exa Z U.heap x ST) (V : RoadKit.Fld Z U.heap x ST "value" "[B" (.ref t)) (C : RoadKit.Fld Z U.heap x ST "coder" "B" (.int cd)) (K : RoadKit.Arv Z U.heap t kb .byte N2 vs (.int 0)) (hc : CodA cs cd N2 vs) (hb : ∀ c ∈ cs, ¬ c < 0 ∧ ¬ (65535 : Int32) < c) (l2 : cs.length ≤ 4000) :
    ∃ A, Txt x t A cd cs.length (fun j => cs.getD j 0) U := by
  obtain ⟨A, K1, K2, K3, K4, K5, K6⟩ := K
  have hcod := hc.cod (by omega) K3 K5
  obtain ⟨D, fV, fC, hB, F1, F2, g1, g2, -, -⟩ := strObj wi al E V C
  exact ⟨A, ⟨_, hB.2.2.1, D, hB.1, rfl, by cases q : D.vm <;> first | rfl | exact absurd q (hB.2.1.2 _)⟩, Has.of hB F1 g1, Has.of hB F2 g2, ⟨K1.1, State.isArrayOf_alike al K1.2.1, K1.2.2, by rcases hcod with ⟨-, q, -⟩ | ⟨-, q, -⟩ <;> omega⟩, hcod, fun j hj => by
    have e : cs.getD j 0 = cs[j] := by simp [List.getD_eq_getElem?_getD, hj]
    show ¬ cs.getD j 0 < 0 ∧ ¬ 65535 < cs.getD j 0
    rw [e]; exact hb _ (List.getElem_mem _)⟩
theorem same_list (cs ds : List Int32) : SameT cs.length (fun j => cs.getD j 0) ds.length (fun j => ds.getD j 0) ↔ cs = ds := by
  constructor
  · rintro ⟨e, q⟩
    refine List.ext_getElem e fun j h1 h2 => ?_
    have := q j h1
    simpa [List.getD_eq_getElem?_getD, h1, h2] using this
  · rintro rfl
    exact ⟨rfl, fun _ _ => rfl⟩
/-- **equals(Object) OF TWO SUCH STRINGS**: 1 just where the chars are the same -/
theorem eqW {p : Program} {l : Launch} {e : Env} {R : Room} {s : State} {args : Array Value} {below : List Frame} {len W : Nat} {Z : State} {a0 : Array Value} {h : Heap} (hZ : Z.Warmed39 s.vm) (hw : ∀ d ∈ wordsEq, d.before a0 Z = true) {kI : Nat} (wi : (Jvm.Cond.instantiable ST kI).before a0 Z = true)
    {x t : Addr} {kb : ClassId} {cs : List Int32} {cd N2 : Int32} {vs : List Value} (E : RoadKit.Exa Z h x ST) (V : RoadKit.Fld Z h x ST "value" "[B" (.ref t)) (C : RoadKit.Fld Z h x ST "coder" "B" (.int cd)) (K : RoadKit.Arv Z h t kb .byte N2 vs (.int 0)) (hc : CodA cs cd N2 vs) (hb : ∀ c ∈ cs, ¬ c < 0 ∧ ¬ (65535 : Int32) < c) (l2 : cs.length ≤ 4000)
    {y t' : Addr} {kb' : ClassId} {ds : List Int32} {cd' N2' : Int32} {vs' : List Value} (E' : RoadKit.Exa Z h y ST) (V' : RoadKit.Fld Z h y ST "value" "[B" (.ref t')) (C' : RoadKit.Fld Z h y ST "coder" "B" (.int cd')) (K' : RoadKit.Arv Z h t' kb' .byte N2' vs' (.int 0)) (hc' : CodA ds cd' N2' vs') (hb' : ∀ c ∈ ds, ¬ c < 0 ∧ ¬ (65535 : Int32) < c) (l2' : ds.length ≤ 4000)
    {z : Int32} (S : RoadKit.Sta Z h ST "COMPACT_STRINGS" "Z" (.int z)) (hz : ¬ z = 0) (hfr : 2 ≤ R.frames) (hlo : W + 28 ≤ R.locals) :
    Back l R p e below s args (⟨"java/lang/String", "equals", "(Ljava/lang/Object;)Z"⟩ : MethodName) len W (fun P a => a = #[.ref x, .ref y] ∧ P.U.heap = h ∧ P.cells + 0 ≤ R.cells ∧ P.slots + 0 ≤ R.slots)
      (fun P _ v B => ∃ L, (((v = some (.int 1) ∧ cs = ds) ∨ (v = some (.int 0) ∧ ¬ cs = ds)) ∧ L = [] ∧ B.U.heap = h) ∧ B.locs = P.locs ++ L ∧ B.cells = P.cells + 0 ∧ B.slots = P.slots + 0) := by
  intro m meth c P g ig mk a X hg hsize hdg hW hn hp'
  obtain ⟨rfl, rfl, r1, r2⟩ := hp'
  have al : Z.vm.Alike P.U.vm := hZ.alike.trans X.warmed.alike
  obtain ⟨A, hx⟩ := txt_of wi al E V C K hc hb l2
  obtain ⟨A', hy⟩ := txt_of wi al E' V' C' K' hc' hb' l2'
  obtain ⟨v, B, X', ⟨⟨w, hv, hh, hq⟩, hl, hk, hs⟩, st⟩ := SEq.pays x t A cd cs.length (fun j => cs.getD j 0) y t' A' cd' ds.length (fun j => ds.getD j 0) z (tabEq_of (movedEq hZ hw)) hfr hlo m meth c P g ig mk _ X hg hsize hdg hW hn ⟨r1, r2, rfl, hx, hy, sta_is al S, hz⟩
  refine ⟨v, B, X', ⟨[], ⟨?_, rfl, hh⟩, hl, hk, hs⟩, st⟩
  rcases hq with ⟨rfl, q⟩ | ⟨rfl, q⟩
  · exact Or.inl ⟨hv, (same_list cs ds).mp q⟩
  · exact Or.inr ⟨hv, fun e => q ((same_list cs ds).mpr e)⟩
end StrChars.Road
namespace StrChars.Road
open Jvm Sem ClassFile Op Lib Jvm.Stand Jvm.Free Jvm.Free.XT
open Jvm.Lib.Cold (StaticIs)
/-- what backV says of its String, as the contracts of this text ask it: cs's low bytes, coder 0 -/
theorem codOf {cs : List Int32} {n : Nat} (hn : cs.length = n) (hb : ∀ c ∈ cs, ¬ 255 < c) : CodA cs 0 (Int32.ofNat n) ((cs.map lo8).map Value.int) := Or.inl ⟨rfl, by rw [hn], by simp [List.map_map, Function.comp_def], hb⟩
end StrChars.Road
end Jvm.Pilot.@@N@@
namespace Jvm.Pilot.@@N@@
open Jvm Jvm.ClassFile Sem Op Lib Jvm.Free Jvm.Stand Jvm.LawKit Jvm.RoadKit Bundle Jvm.Pilot.@@N@@.Jvm.D
abbrev CL : List (String × Nat) := consts_1
abbrev NL : Bool := false
/-! OWN KIT: a forward form of the walk (Rc: the run has come to pc with these locals, this stack and this heap), over the library's Stand. -/
abbrev HW (a0 : Array Value) (Z : State) : Prop := ∀ d ∈ tables_1, d.before a0 Z = true
abbrev rmo (f c s l : Nat) : Room := { frames := f, cells := c, slots := s, locals := l }
section OwnKit
open Jvm.Free.SB Jvm.Free.SBG
def Sx (Z : State) (h : Heap) (Ds : List Addr) (a : Addr) (units : Array UInt16) : Prop :=
  ∃ (q : SQ) (cS : ClassId), q.sa = a ∧ Sl q cS ({ Z with heap := h } : State) ∧ (∃ kS : Class, Z.vm.classes[cS]? = some kS ∧ kS.kind = .ordinary ∧ q.sC.slots.size = kS.instanceTypes.size) ∧ Z.vm.findClass "[B" = some q.SA.cls ∧ q.SA.slots = stringBytes units ∧ q.sa ∉ Ds ∧ q.sd ∉ Ds
theorem own_al (Z : State) : Z.vm.Alike Z.vm := (State.Warmed39.refl Z).alike
theorem Sx.keep {Z : State} {h h' : Heap} {Ds ws : List Addr} {a : Addr} {u : Array UInt16} (F : Sx Z h Ds a u) (K : Keep h h' ws) (q : ∀ x ∈ ws, x ∈ Ds) : Sx Z h' Ds a u := by
  obtain ⟨s, cS, h1, h2, h3, h4, h5, h6, h7⟩ := F
  exact ⟨s, cS, h1, Sl.carry (U := ({ Z with heap := h } : State)) (U' := ({ Z with heap := h' } : State)) (own_al Z) (K.2.1 _ _ h2.1.1 (fun m => h6 (q _ m))) (K.2.1 _ _ h2.1.2.2.2.2.2.2.2.2.2.1 (fun m => h7 (q _ m))) h2, h3, h4, h5, h6, h7⟩
theorem Sx.less {Z : State} {h : Heap} {Ds Ds' : List Addr} {a : Addr} {u : Array UInt16} (F : Sx Z h Ds a u) (q : ∀ x ∈ Ds', x ∈ Ds) : Sx Z h Ds' a u := by
  obtain ⟨s, cS, h1, h2, h3, h4, h5, h6, h7⟩ := F
  exact ⟨s, cS, h1, h2, h3, h4, h5, fun m => h6 (q _ m), fun m => h7 (q _ m)⟩
theorem Sx.more {Z : State} {h : Heap} {Ds : List Addr} {a b : Addr} {u : Array UInt16} (F : Sx Z h Ds a u) (hb : h.size ≤ b) : Sx Z h (b :: Ds) a u := by
  obtain ⟨s, cS, h1, h2, h3, h4, h5, h6, h7⟩ := F
  have l1 : s.sa < h.size := (Array.getElem?_eq_some_iff.mp h2.1.1).1
  have l2 : s.sd < h.size := (Array.getElem?_eq_some_iff.mp h2.1.2.2.2.2.2.2.2.2.2.1).1
  refine ⟨s, cS, h1, h2, h3, h4, h5, fun m => ?_, fun m => ?_⟩
  · rcases List.mem_cons.mp m with e | e
    · exact absurd e (Nat.ne_of_lt (Nat.lt_of_lt_of_le l1 hb))
    · exact h6 e
  · rcases List.mem_cons.mp m with e | e
    · exact absurd e (Nat.ne_of_lt (Nat.lt_of_lt_of_le l2 hb))
    · exact h7 e
def Lk (Z : State) : Prop := ∀ (own : String) (idx : Nat), (own, idx) ∈ CL → ∃ (a0 : Array Value) (text : String), (Jvm.Cond.stringLink own idx text).before a0 Z = true ∧ (∀ c ∈ text.toList, c.toNat < 256) ∧ ∀ d ∈ Bundle.stringAtoms, d.before a0 Z = true
def JJ (Z : State) (n0 : Nat) (vm : Vm) (h : Heap) (Ds : List Addr) : Prop :=
  Old Z n0 h ∧ (NL = true → Z.WarmedH vm) ∧ (∀ x ∈ Ds, n0 ≤ x ∧ x < h.size) ∧ Lk Z ∧
    ∀ (own : String) (idx : Nat), (own, idx) ∈ CL → ∀ (c : ClassId) (k : Class) (cf : ClassFile) (i : Nat) (units : Array UInt16) (a : Addr), vm.findClass own = some c → vm.classes[c]? = some k → k.cf = some cf →
      cf.constantPool[idx]? = some (.string i) → cf.constantPool[i]? = some (.utf8 units) →
      (k.resolved[idx]? = some (some (.string a)) ∨ (k.resolved[idx]? = some none ∧ vm.interned.find? (fun p => p.1 == units) = some (units, a))) → Sx Z h Ds a units
theorem JJ.keep {Z : State} {n0 : Nat} {vm : Vm} {h h' : Heap} {Ds ws : List Addr} (J : JJ Z n0 vm h Ds) (K : Keep h h' ws) (q : ∀ x ∈ ws, x ∈ Ds) : JJ Z n0 vm h' Ds :=
  ⟨J.1.keep K (fun x hx => (J.2.2.1 x (q x hx)).1), J.2.1, fun x hx => ⟨(J.2.2.1 x hx).1, Nat.lt_of_lt_of_le (J.2.2.1 x hx).2 K.1⟩, J.2.2.2.1, fun o i hm c k cf j u a q1 q2 q3 q4 q5 q6 => (J.2.2.2.2 o i hm c k cf j u a q1 q2 q3 q4 q5 q6).keep K q⟩
theorem JJ.ext {Z : State} {n0 : Nat} {vm : Vm} {h h' : Heap} {Ds : List Addr} (J : JJ Z n0 vm h Ds) (E : Ext h h') : JJ Z n0 vm h' Ds := J.keep ((Keep.refl h []).ext E) (fun x hx => nomatch hx)
theorem JJ.less {Z : State} {n0 : Nat} {vm : Vm} {h : Heap} {Ds Ds' : List Addr} (J : JJ Z n0 vm h Ds) (q : ∀ x ∈ Ds', x ∈ Ds) : JJ Z n0 vm h Ds' :=
  ⟨J.1, J.2.1, fun x hx => J.2.2.1 x (q x hx), J.2.2.2.1, fun o i hm c k cf j u a q1 q2 q3 q4 q5 q6 => (J.2.2.2.2 o i hm c k cf j u a q1 q2 q3 q4 q5 q6).less q⟩
theorem own_n0 {Z : State} {n0 : Nat} {h : Heap} (X : Old Z n0 h) : n0 ≤ h.size := X.1 ▸ X.2.1
theorem JJ.born {Z : State} {n0 : Nat} {vm : Vm} {h h' : Heap} {Ds : List Addr} (J : JJ Z n0 vm h Ds) (E : Ext h h') (hb : h.size < h'.size) : JJ Z n0 vm h' (h.size :: Ds) := by
  refine ⟨J.1.ext E, J.2.1, fun x hx => ?_, J.2.2.2.1, fun o i hm c k cf j u a q1 q2 q3 q4 q5 q6 => ((J.2.2.2.2 o i hm c k cf j u a q1 q2 q3 q4 q5 q6).more (Nat.le_refl _)).keep ((Keep.refl h []).ext E) (fun x hx => nomatch hx)⟩
  rcases List.mem_cons.mp hx with e | e
  · subst e; exact ⟨own_n0 J.1, hb⟩
  · exact ⟨(J.2.2.1 x e).1, Nat.lt_of_lt_of_le (J.2.2.1 x e).2 E.1⟩
theorem JJ.step {Z t : State} {n0 : Nat} {vm' : Vm} {h : Heap} {Ds : List Addr} (J : JJ Z n0 t.vm h Ds) (hZ : Z.Warmed39 t.vm) (hW : t.Warmed39 vm')
    (hint : vm'.interned = t.vm.interned ∨ ∃ (u : Array UInt16) (a' : Addr), vm'.interned = t.vm.interned.push (u, a') ∧ (t.vm.interned.find? (fun p => p.1 == u) = none → Sx Z h Ds a' u)) (hcl : NL = true → Z.WarmedH vm') : JJ Z n0 vm' h Ds := by
  refine ⟨J.1, hcl, J.2.2.1, J.2.2.2.1, fun own idx hm c k' cf i units a hc' hk' hcf' hp hu hor => ?_⟩
  obtain ⟨a0, text, w, hlat, -⟩ := J.2.2.2.1 own idx hm
  have hal : t.vm.Alike vm' := hW.alike
  have hc : t.vm.findClass own = some c := by rw [← hal.findClass]; exact hc'
  have wt : (Jvm.Cond.stringLink own idx text).before a0 t = true := mvS (s := t) (vm0 := t.vm) hZ w
  obtain ⟨k, cf0, i0, units0, hk, hcf, hp0, hu0, hnm, htext, -⟩ := Cond.stringLink_spec hc wt
  obtain ⟨k'', hk'', hke, -, ee, -⟩ := hW.2.2.2 c k hk
  cases hk'.symm.trans hk''
  have hcfk : k'.cf = k.cf := by rw [hke]
  cases (hcfk ▸ hcf').symm.trans hcf
  cases hp.symm.trans hp0
  cases hu.symm.trans hu0
  have base := fun a => J.2.2.2.2 own idx hm c k cf i units a hc hk hcf hp hu
  have hfind : ∀ a, vm'.interned.find? (fun p => p.1 == units) = some (units, a) → k.resolved[idx]? = some none → Sx Z h Ds a units := by
    intro a hf hop
    rcases hint with e | ⟨u, a', e, hS⟩
    · rw [e] at hf; exact base a (Or.inr ⟨hop, hf⟩)
    · rw [e, Array.find?_push] at hf
      cases hs : t.vm.interned.find? (fun p => p.1 == units) with
      | some pr =>
        rw [hs] at hf
        have hpr : pr = (units, a) := by simpa using hf
        exact base a (Or.inr ⟨hop, by rw [hs, hpr]⟩)
      | none =>
        rw [hs, Option.none_or] at hf
        by_cases hb : (u == units) = true
        · have hu' : u = units := by simpa using hb
          subst hu'
          have : a' = a := by simpa using hf
          subst this
          exact hS hs
        · simp [hb] at hf
  rcases ee idx with e0 | ⟨hop, r, e1, hr | ⟨a3, t', si, us, rfl, -, q3, q4, q5⟩⟩
  · rcases hor with h0 | ⟨h0, hf⟩
    · exact base a (Or.inl (e0 ▸ h0))
    · exact hfind a hf (e0 ▸ h0)
  · exfalso
    cases r <;> simp [State.rightAt, hk, hcf, hnm] at hr
  · rw [hcf] at q3 q4
    have e3 : si = i := by
      have := q3.symm.trans hp
      simpa using this
    subst e3
    have e4 : us = units := by simpa [ConstantPool.utf8?, hu] using q4.symm
    subst e4
    rcases hor with h0 | ⟨h0, -⟩
    · have ea : a3 = a := by have := e1.symm.trans h0; simpa using this
      subst ea
      exact hfind a3 q5 hop
    · have := e1.symm.trans h0; simp at this
theorem JJ.warm {Z t : State} {n0 : Nat} {vm' : Vm} {h : Heap} {Ds : List Addr} (J : JJ Z n0 t.vm h Ds) (hZ : Z.Warmed39 t.vm) (hW : t.WarmedH vm') : JJ Z n0 vm' h Ds :=
  J.step hZ hW.wide (Or.inl hW.interned_eq) (fun e => State.WarmedH.trans (J.2.1 e) hW)
abbrev Cx : Type := Program × Launch × Env × State × MethodId × Array Value × List Frame × Method × Code × State
abbrev Cx.p (C : Cx) : Program := C.1
abbrev Cx.l (C : Cx) : Launch := C.2.1
abbrev Cx.e (C : Cx) : Env := C.2.2.1
abbrev Cx.s (C : Cx) : State := C.2.2.2.1
abbrev Cx.m (C : Cx) : MethodId := C.2.2.2.2.1
abbrev Cx.args (C : Cx) : Array Value := C.2.2.2.2.2.1
abbrev Cx.below (C : Cx) : List Frame := C.2.2.2.2.2.2.1
abbrev Cx.meth (C : Cx) : Method := C.2.2.2.2.2.2.2.1
abbrev Cx.c (C : Cx) : Code := C.2.2.2.2.2.2.2.2.1
abbrev Cx.s0 (C : Cx) : State := C.2.2.2.2.2.2.2.2.2
/-- the run has come to pc -/
def Rc (C : Cx) (R : Room) (own : String) (bs : ByteArray) (ml : Nat) (Z : State) (n0 ce sl pc : Nat) (Ls : Array Slot) (S : List Value) (h : Heap) (Ds : List Addr) : Prop :=
  ∃ (T : State) (locs : List Loc) (vm0 : Vm) (k0 : Nat), Stand C.p C.l C.e R (C.s.setVm vm0) C.m C.args C.below C.meth C.c T locs ce sl ∧ C.s.Since vm0 k0 ∧ k0 ≤ h.size ∧ Z.Warmed39 vm0 ∧ JJ Z n0 vm0 h Ds ∧ T.heap = h ∧ Fr n0 locs ∧
    (C.p.tables.exec = Jvm.exec ∧ C.c.code = bs ∧ C.c.maxLocals = ml ∧ vm0.findClass own = some C.m.cls ∧ C.meth.locks = false) ∧
    ∀ t, Steps C.p.tables C.e C.below (T.setTop (mkF C.m pc Ls S)) t → Steps C.p.tables C.e C.below C.s0 t
/-- the invocation has ended -/
def Done (C : Cx) (Z : State) (n0 : Nat) (Q : Option Value → Heap → List Addr → Prop) (kc ks : Nat) : Prop :=
  ∃ (t : State) (o : Outcome), Steps C.p.tables C.e C.below C.s0 t ∧ t.status = .running ∧ Ended t C.below o ∧ ∃ (v : Option Value) (L : List Loc) (Ds : List Addr), o = .returned v ∧ Q v t.heap Ds ∧ JJ Z n0 t.vm t.heap Ds ∧ Fr n0 L ∧ ReturnedEndW C.s o t L kc ks
/-- a contract -/
def Ctr (l : Launch) (Z : State) (y : MethodName) (bytes : ByteArray) (maxL : Nat) (ret : Option FieldType) (ws : List Jvm.Cond) (rm : Room) (as' : Array Value) (h : Heap) (n0 : Nat) (Ds : List Addr) (Q : Option Value → Heap → List Addr → Prop) : Prop :=
  MetFree l y (head1 (Jvm.Cond.code y bytes maxL ret :: ws) rm) (fun a U => a = as' ∧ Z.Warmed39 U.vm ∧ U.heap = h ∧ JJ Z n0 U.vm h Ds) (fun _ _ _ _ _ => True)
    (fun _ U o U' => ∃ (v : Option Value) (L : List Loc) (Ds' : List Addr), o = .returned v ∧ Q v U'.heap Ds' ∧ JJ Z n0 U'.vm U'.heap Ds' ∧ Fr n0 L ∧ ReturnedEndW U o U' L rm.cells rm.slots)
theorem ctr_of {l : Launch} {Z : State} {y : MethodName} {bytes : ByteArray} {maxL : Nat} {ret : Option FieldType} {ws : List Jvm.Cond} {rm : Room} {as' : Array Value} {h : Heap} {n0 : Nat} {Ds : List Addr} {Q : Option Value → Heap → List Addr → Prop} {Ls : Array Slot}
    (pf : plainFor y = true) (ef : ∀ m : MethodId, entryFrame m as' maxL = mkF m 0 Ls [])
    (wk : ∀ C : Cx, C.l = l → C.meth.sig.returnType = ret → C.meth.name = y.name → Rc C rm y.cls bytes maxL Z n0 0 0 0 Ls [] h Ds → Done C Z n0 Q rm.cells rm.slots) : Ctr l Z y bytes maxL ret ws rm as' h n0 Ds Q := by
  refine MetFree.of_bodySF pf hisR ?_
  intro p e s m args below meth c s₁ Bd hml0 hP hK
  obtain ⟨rfl, hZ, hh, hJ⟩ := hP
  have X0 : Stand p l e rm s m args below meth c s₁ [] 0 0 := Stand.of_body Bd
  have e0 : s₁.heap = h := by rw [← hh, Bd.state]; rfl
  have hown : s.vm.findClass y.cls = some m.cls := findClass_of_methodNamed Bd.named
  have hnm := (name_of_methodNamed Bd.named Bd.method).1
  have hlk : meth.locks = false := BodyLoose.notSynchronized Bd
  exact wk (p, l, e, s, m, args, below, meth, c, s₁.setTop (entryFrame m args maxL)) rfl Bd.returns hnm
    ⟨s₁, [], s.vm, 0, X0, (State.WarmedH.refl s).since 0, Nat.zero_le _, hZ, hJ, e0, Fr.nil n0, ⟨Bd.exec, Bd.bytes, hml0, hown, hlk⟩, fun t k => castTop (ef m) k⟩
theorem ctrBack {l : Launch} {R : Room} {p : Program} {e : Env} {below : List Frame} {s : State} {args : Array Value} {Z : State} {a0 : Array Value} {h : Heap} {n0 : Nat} {Ds : List Addr} {y : MethodName} {bytes : ByteArray} {maxL : Nat} {ret : Option FieldType} {rm : Room} {len W : Nat} {as' : Array Value} {Q : Option Value → Heap → List Addr → Prop}
    (hM : Ctr l Z y bytes maxL ret [] rm as' h n0 Ds Q) (hZ : Z.Warmed39 s.vm) (hJ : JJ Z n0 s.vm h Ds) (wc : (Jvm.Cond.code y bytes maxL ret).before a0 Z = true) (wz : (Jvm.Cond.initialized y.cls).before a0 Z = true) (hf : rm.frames + 1 ≤ R.frames) (hl : W + (maxL + 11) + rm.locals ≤ R.locals) :
    BackS l R p e below s args y len W (fun A a => a = as' ∧ A.U.heap = h ∧ A.cells + rm.cells ≤ R.cells ∧ A.slots + rm.slots ≤ R.slots)
      (fun A _ v B => ∃ (L : List Loc) (Ds' : List Addr), Q v B.U.heap Ds' ∧ JJ Z n0 B.U.vm B.U.heap Ds' ∧ Fr n0 L ∧ B.locs = A.locs ++ L ∧ B.cells = A.cells + rm.cells ∧ B.slots = A.slots + rm.slots) :=
  BackS.of_freeW (bytes := bytes) (maxL := maxL) (ret := ret) (E := fun _ _ o t L k n => k = rm.cells ∧ n = rm.slots ∧ ∃ (v : Option Value) (Ds' : List Addr), o = .returned v ∧ Q v t.heap Ds' ∧ JJ Z n0 t.vm t.heap Ds' ∧ Fr n0 L) hM hf hl
    (fun m meth c A a Y hp => have hU : Z.Warmed39 A.U.vm := wtrans hZ Y.warmed
      ⟨by show (Jvm.Cond.and _ .tt).before a A.U = true; rw [Cond.before_and, mv hU wc]; rfl, mv hU wc, mv hU wz, hp.2.2.1, hp.2.2.2⟩)
    (fun m meth c A a g mk Y hp => ⟨hp.1, wtrans hZ Y.warmed, hp.2.1, hJ.warm hZ Y.warmed⟩) (fun _ _ _ _ _ _ _ _ _ => trivial)
    (fun _ _ _ _ ⟨v, L, Ds', h1, h2, h3, h4, h5⟩ => ⟨L, _, _, h5, rfl, rfl, v, Ds', h1, h2, h3, h4⟩)
    (fun m meth c A a g mk v t L k n Y hp _ _ ⟨e1, e2, v', Ds', e3, e4, e5, e6⟩ => by cases e3; subst e1 e2; exact ⟨L, Ds', e4, e5, e6, rfl, rfl, rfl⟩)
variable {C : Cx} {R : Room} {own : String} {bs : ByteArray} {ml : Nat} {Z : State} {n0 ce sl pc : Nat} {Ls : Array Slot} {S rest : List Value} {h : Heap} {Ds : List Addr} {a0 : Array Value}
theorem Rc.go {pc' : Nat} {Ls' : Array Slot} {S' : List Value} (H : Rc C R own bs ml Z n0 ce sl pc Ls S h Ds) (f : ∀ T t, At T C.m C.c C.below → C.p.tables.exec = Jvm.exec → C.c.code = bs → Steps C.p.tables C.e C.below (T.setTop (mkF C.m pc' Ls' S')) t → Steps C.p.tables C.e C.below (T.setTop (mkF C.m pc Ls S)) t) : Rc C R own bs ml Z n0 ce sl pc' Ls' S' h Ds := by
  obtain ⟨T, locs, vm0, k0, X, h1, h2, h3, h4, h5, h6, h7, k⟩ := H
  exact ⟨T, locs, vm0, k0, X, h1, h2, h3, h4, h5, h6, h7, fun t ht => k _ (f T t X.here h7.1 h7.2.1 ht)⟩
theorem Rc.goX {pc' : Nat} {Ls' : Array Slot} {S' : List Value} (H : Rc C R own bs ml Z n0 ce sl pc Ls S h Ds) (f : ∀ (s : State) (T : State) (locs : List Loc) t, Stand C.p C.l C.e R s C.m C.args C.below C.meth C.c T locs ce sl → Z.Warmed39 s.vm → s.vm.findClass own = some C.m.cls → T.heap = h → C.p.tables.exec = Jvm.exec → C.c.code = bs → Steps C.p.tables C.e C.below (T.setTop (mkF C.m pc' Ls' S')) t → Steps C.p.tables C.e C.below (T.setTop (mkF C.m pc Ls S)) t) : Rc C R own bs ml Z n0 ce sl pc' Ls' S' h Ds := by
  obtain ⟨T, locs, vm0, k0, X, h1, h2, h3, h4, h5, h6, h7, k⟩ := H
  exact ⟨T, locs, vm0, k0, X, h1, h2, h3, h4, h5, h6, h7, fun t ht => k _ (f _ T locs t X h3 h7.2.2.2.1 h5 h7.1 h7.2.1 ht)⟩
theorem Rc.stk {S' : List Value} (H : Rc C R own bs ml Z n0 ce sl pc Ls S h Ds) (e : S = S') : Rc C R own bs ml Z n0 ce sl pc Ls S' h Ds := e ▸ H
theorem Rc.loc {Ls' : Array Slot} (H : Rc C R own bs ml Z n0 ce sl pc Ls S h Ds) (e : Ls = Ls') : Rc C R own bs ml Z n0 ce sl pc Ls' S h Ds := e ▸ H
theorem Rc.old (H : Rc C R own bs ml Z n0 ce sl pc Ls S h Ds) : Old Z n0 h := by
  obtain ⟨T, locs, vm0, k0, X, h1, h2, h3, h4, h5, h6, h7, k⟩ := H
  exact h4.1
theorem Rc.mem (H : Rc C R own bs ml Z n0 ce sl pc Ls S h Ds) {x : Addr} (hx : x ∈ Ds) : n0 ≤ x ∧ x < h.size := by
  obtain ⟨T, locs, vm0, k0, X, h1, h2, h3, h4, h5, h6, h7, k⟩ := H
  exact h4.2.2.1 x hx
theorem Rc.mono {ce' sl' : Nat} (H : Rc C R own bs ml Z n0 ce sl pc Ls S h Ds) (h1 : ce ≤ ce') (h2 : sl ≤ sl') : Rc C R own bs ml Z n0 ce' sl' pc Ls S h Ds := by
  obtain ⟨T, locs, vm0, k0, X, r⟩ := H
  exact ⟨T, locs, vm0, k0, X.mono h1 h2, r⟩
theorem Rc.less {Ds' : List Addr} (H : Rc C R own bs ml Z n0 ce sl pc Ls S h Ds) (q : ∀ x ∈ Ds', x ∈ Ds) : Rc C R own bs ml Z n0 ce sl pc Ls S h Ds' := by
  obtain ⟨T, locs, vm0, k0, X, h1, h2, h3, h4, r⟩ := H
  exact ⟨T, locs, vm0, k0, X, h1, h2, h3, h4.less q, r⟩
theorem Rc.iload {pc' : Nat} {k : Nat} {v : Int32} (H : Rc C R own bs ml Z n0 ce sl pc Ls S h Ds) (hd : decode bs pc = .ok (.iload k, 2)) (hl : Ls[k]? = some (.val (.int v))) (hp : pc + 2 = pc') : Rc C R own bs ml Z n0 ce sl pc' Ls (.int v :: S) h Ds := by
  subst hp
  exact H.go fun T t hA hx hby kk => XS.iload hA hx rfl (hb hby hd) hl kk
theorem Rc.iloadN {pc' : Nat} {k : Fin 4} {v : Int32} (H : Rc C R own bs ml Z n0 ce sl pc Ls S h Ds) (hd : decode bs pc = .ok (.iload_n k, 1)) (hl : Ls[k.val]? = some (.val (.int v))) (hp : pc + 1 = pc') : Rc C R own bs ml Z n0 ce sl pc' Ls (.int v :: S) h Ds := by
  subst hp
  exact H.go fun T t hA hx hby kk => XS.iloadN hA hx rfl (hb hby hd) hl kk
theorem Rc.aload {pc' : Nat} {k : Nat} {v : Value} (H : Rc C R own bs ml Z n0 ce sl pc Ls S h Ds) (hd : decode bs pc = .ok (.aload k, 2)) (hl : Ls[k]? = some (.val v)) (hv : v.isRef = true) (hp : pc + 2 = pc') : Rc C R own bs ml Z n0 ce sl pc' Ls (v :: S) h Ds := by
  subst hp
  exact H.go fun T t hA hx hby kk => XS.aload hA hx rfl (hb hby hd) hl hv kk
theorem Rc.aloadN {pc' : Nat} {k : Fin 4} {v : Value} (H : Rc C R own bs ml Z n0 ce sl pc Ls S h Ds) (hd : decode bs pc = .ok (.aload_n k, 1)) (hl : Ls[k.val]? = some (.val v)) (hv : v.isRef = true) (hp : pc + 1 = pc') : Rc C R own bs ml Z n0 ce sl pc' Ls (v :: S) h Ds := by
  subst hp
  exact H.go fun T t hA hx hby kk => XS.aloadN hA hx rfl (hb hby hd) hl hv kk
theorem Rc.lload {pc' : Nat} {k : Nat} {v : Int64} (H : Rc C R own bs ml Z n0 ce sl pc Ls S h Ds) (hd : decode bs pc = .ok (.lload k, 2)) (hl : Ls[k]? = some (.val (.long v))) (hp : pc + 2 = pc') : Rc C R own bs ml Z n0 ce sl pc' Ls (.long v :: S) h Ds := by
  subst hp
  exact H.go fun T t hA hx hby kk => XS.lload hA hx rfl (hb hby hd) hl kk
theorem Rc.lloadN {pc' : Nat} {k : Fin 4} {v : Int64} (H : Rc C R own bs ml Z n0 ce sl pc Ls S h Ds) (hd : decode bs pc = .ok (.lload_n k, 1)) (hl : Ls[k.val]? = some (.val (.long v))) (hp : pc + 1 = pc') : Rc C R own bs ml Z n0 ce sl pc' Ls (.long v :: S) h Ds := by
  subst hp
  exact H.go fun T t hA hx hby kk => XS.lloadN hA hx rfl (hb hby hd) hl kk
theorem Rc.istore {pc' : Nat} {k : Nat} {x : Int32} {l' : Array Slot} (H : Rc C R own bs ml Z n0 ce sl pc Ls (.int x :: rest) h Ds) (hd : decode bs pc = .ok (.istore k, 2)) (hl : storeLocals Ls k (.int x) = some l') (hp : pc + 2 = pc') : Rc C R own bs ml Z n0 ce sl pc' l' rest h Ds := by
  subst hp
  exact H.go fun T t hA hx hby kk => XS.istore hA hx rfl (hb hby hd) rfl hl kk
theorem Rc.istoreN {pc' : Nat} {k : Fin 4} {x : Int32} {l' : Array Slot} (H : Rc C R own bs ml Z n0 ce sl pc Ls (.int x :: rest) h Ds) (hd : decode bs pc = .ok (.istore_n k, 1)) (hl : storeLocals Ls k.val (.int x) = some l') (hp : pc + 1 = pc') : Rc C R own bs ml Z n0 ce sl pc' l' rest h Ds := by
  subst hp
  exact H.go fun T t hA hx hby kk => XS.istoreN hA hx rfl (hb hby hd) rfl hl kk
theorem Rc.astore {pc' : Nat} {k : Nat} {x : Value} {l' : Array Slot} (H : Rc C R own bs ml Z n0 ce sl pc Ls (x :: rest) h Ds) (hd : decode bs pc = .ok (.astore k, 2)) (hv : x.isRef = true) (hl : storeLocals Ls k x = some l') (hp : pc + 2 = pc') : Rc C R own bs ml Z n0 ce sl pc' l' rest h Ds := by
  subst hp
  exact H.go fun T t hA hx hby kk => XS.astore hA hx rfl (hb hby hd) rfl hv hl kk
theorem Rc.astoreN {pc' : Nat} {k : Fin 4} {x : Value} {l' : Array Slot} (H : Rc C R own bs ml Z n0 ce sl pc Ls (x :: rest) h Ds) (hd : decode bs pc = .ok (.astore_n k, 1)) (hv : x.isRef = true) (hl : storeLocals Ls k.val x = some l') (hp : pc + 1 = pc') : Rc C R own bs ml Z n0 ce sl pc' l' rest h Ds := by
  subst hp
  exact H.go fun T t hA hx hby kk => XS.astoreN hA hx rfl (hb hby hd) rfl hv hl kk
theorem Rc.lstore {pc' : Nat} {k : Nat} {x : Int64} {l' : Array Slot} (H : Rc C R own bs ml Z n0 ce sl pc Ls (.long x :: rest) h Ds) (hd : decode bs pc = .ok (.lstore k, 2)) (hl : storeLocals Ls k (.long x) = some l') (hp : pc + 2 = pc') : Rc C R own bs ml Z n0 ce sl pc' l' rest h Ds := by
  subst hp
  exact H.go fun T t hA hx hby kk => XS.lstore hA hx rfl (hb hby hd) rfl hl kk
theorem Rc.lstoreN {pc' : Nat} {k : Fin 4} {x : Int64} {l' : Array Slot} (H : Rc C R own bs ml Z n0 ce sl pc Ls (.long x :: rest) h Ds) (hd : decode bs pc = .ok (.lstore_n k, 1)) (hl : storeLocals Ls k.val (.long x) = some l') (hp : pc + 1 = pc') : Rc C R own bs ml Z n0 ce sl pc' l' rest h Ds := by
  subst hp
  exact H.go fun T t hA hx hby kk => XS.lstoreN hA hx rfl (hb hby hd) rfl hl kk
theorem Rc.iconst {pc' : Nat} {i : Int} {z : Int32} (H : Rc C R own bs ml Z n0 ce sl pc Ls S h Ds) (hd : decode bs pc = .ok (.iconst i, 1)) (hz : Int32.ofInt i = z) (hp : pc + 1 = pc') : Rc C R own bs ml Z n0 ce sl pc' Ls (.int z :: S) h Ds := by
  subst hp hz
  exact H.go fun T t hA hx hby kk => XS.iconst hA hx rfl (hb hby hd) kk
theorem Rc.bipush {pc' : Nat} {i : Int} {z : Int32} (H : Rc C R own bs ml Z n0 ce sl pc Ls S h Ds) (hd : decode bs pc = .ok (.bipush i, 2)) (hz : (Int8.ofInt i).toInt32 = z) (hp : pc + 2 = pc') : Rc C R own bs ml Z n0 ce sl pc' Ls (.int z :: S) h Ds := by
  subst hp hz
  exact H.go fun T t hA hx hby kk => XS.bipush hA hx rfl (hb hby hd) kk
theorem Rc.sipush {pc' : Nat} {i : Int} {z : Int32} (H : Rc C R own bs ml Z n0 ce sl pc Ls S h Ds) (hd : decode bs pc = .ok (.sipush i, 3)) (hz : (Int16.ofInt i).toInt32 = z) (hp : pc + 3 = pc') : Rc C R own bs ml Z n0 ce sl pc' Ls (.int z :: S) h Ds := by
  subst hp hz
  exact H.go fun T t hA hx hby kk => XS.sipush hA hx rfl (hb hby hd) kk
theorem Rc.lconst {pc' : Nat} {i : Fin 2} {z : Int64} (H : Rc C R own bs ml Z n0 ce sl pc Ls S h Ds) (hd : decode bs pc = .ok (.lconst i, 1)) (hz : Int64.ofNat i = z) (hp : pc + 1 = pc') : Rc C R own bs ml Z n0 ce sl pc' Ls (.long z :: S) h Ds := by
  subst hp hz
  exact H.go fun T t hA hx hby kk => XS.lconst hA hx rfl (hb hby hd) kk
theorem Rc.anull {pc' : Nat}  (H : Rc C R own bs ml Z n0 ce sl pc Ls S h Ds) (hd : decode bs pc = .ok (.aconst_null, 1)) (hp : pc + 1 = pc') : Rc C R own bs ml Z n0 ce sl pc' Ls (.null :: S) h Ds := by
  subst hp
  exact H.go fun T t hA hx hby kk => XS.aconstNull hA hx rfl (hb hby hd) kk
theorem Rc.iadd {pc' : Nat} {x y : Int32} (H : Rc C R own bs ml Z n0 ce sl pc Ls (.int y :: .int x :: rest) h Ds) (hd : decode bs pc = .ok (.iadd, 1)) (hp : pc + 1 = pc') : Rc C R own bs ml Z n0 ce sl pc' Ls (.int (x + y) :: rest) h Ds := by
  subst hp
  exact H.go fun T t hA hx hby kk => XS.iadd hA hx rfl (hb hby hd) rfl kk
theorem Rc.ladd {pc' : Nat} {x y : Int64} (H : Rc C R own bs ml Z n0 ce sl pc Ls (.long y :: .long x :: rest) h Ds) (hd : decode bs pc = .ok (.ladd, 1)) (hp : pc + 1 = pc') : Rc C R own bs ml Z n0 ce sl pc' Ls (.long (x + y) :: rest) h Ds := by
  subst hp
  exact H.go fun T t hA hx hby kk => XS.ladd hA hx rfl (hb hby hd) rfl kk
theorem Rc.isub {pc' : Nat} {x y : Int32} (H : Rc C R own bs ml Z n0 ce sl pc Ls (.int y :: .int x :: rest) h Ds) (hd : decode bs pc = .ok (.isub, 1)) (hp : pc + 1 = pc') : Rc C R own bs ml Z n0 ce sl pc' Ls (.int (x - y) :: rest) h Ds := by
  subst hp
  exact H.go fun T t hA hx hby kk => XS.isub hA hx rfl (hb hby hd) rfl kk
theorem Rc.lsub {pc' : Nat} {x y : Int64} (H : Rc C R own bs ml Z n0 ce sl pc Ls (.long y :: .long x :: rest) h Ds) (hd : decode bs pc = .ok (.lsub, 1)) (hp : pc + 1 = pc') : Rc C R own bs ml Z n0 ce sl pc' Ls (.long (x - y) :: rest) h Ds := by
  subst hp
  exact H.go fun T t hA hx hby kk => XS.lsub hA hx rfl (hb hby hd) rfl kk
theorem Rc.imul {pc' : Nat} {x y : Int32} (H : Rc C R own bs ml Z n0 ce sl pc Ls (.int y :: .int x :: rest) h Ds) (hd : decode bs pc = .ok (.imul, 1)) (hp : pc + 1 = pc') : Rc C R own bs ml Z n0 ce sl pc' Ls (.int (x * y) :: rest) h Ds := by
  subst hp
  exact H.go fun T t hA hx hby kk => XS.imul hA hx rfl (hb hby hd) rfl kk
theorem Rc.lmul {pc' : Nat} {x y : Int64} (H : Rc C R own bs ml Z n0 ce sl pc Ls (.long y :: .long x :: rest) h Ds) (hd : decode bs pc = .ok (.lmul, 1)) (hp : pc + 1 = pc') : Rc C R own bs ml Z n0 ce sl pc' Ls (.long (x * y) :: rest) h Ds := by
  subst hp
  exact H.go fun T t hA hx hby kk => XS.lmul hA hx rfl (hb hby hd) rfl kk
theorem Rc.iand {pc' : Nat} {x y : Int32} (H : Rc C R own bs ml Z n0 ce sl pc Ls (.int y :: .int x :: rest) h Ds) (hd : decode bs pc = .ok (.iand, 1)) (hp : pc + 1 = pc') : Rc C R own bs ml Z n0 ce sl pc' Ls (.int (x &&& y) :: rest) h Ds := by
  subst hp
  exact H.go fun T t hA hx hby kk => XS.iand hA hx rfl (hb hby hd) rfl kk
theorem Rc.land {pc' : Nat} {x y : Int64} (H : Rc C R own bs ml Z n0 ce sl pc Ls (.long y :: .long x :: rest) h Ds) (hd : decode bs pc = .ok (.land, 1)) (hp : pc + 1 = pc') : Rc C R own bs ml Z n0 ce sl pc' Ls (.long (x &&& y) :: rest) h Ds := by
  subst hp
  exact H.go fun T t hA hx hby kk => XS.land hA hx rfl (hb hby hd) rfl kk
theorem Rc.ior {pc' : Nat} {x y : Int32} (H : Rc C R own bs ml Z n0 ce sl pc Ls (.int y :: .int x :: rest) h Ds) (hd : decode bs pc = .ok (.ior, 1)) (hp : pc + 1 = pc') : Rc C R own bs ml Z n0 ce sl pc' Ls (.int (x ||| y) :: rest) h Ds := by
  subst hp
  exact H.go fun T t hA hx hby kk => XS.ior hA hx rfl (hb hby hd) rfl kk
theorem Rc.lor {pc' : Nat} {x y : Int64} (H : Rc C R own bs ml Z n0 ce sl pc Ls (.long y :: .long x :: rest) h Ds) (hd : decode bs pc = .ok (.lor, 1)) (hp : pc + 1 = pc') : Rc C R own bs ml Z n0 ce sl pc' Ls (.long (x ||| y) :: rest) h Ds := by
  subst hp
  exact H.go fun T t hA hx hby kk => XS.lor hA hx rfl (hb hby hd) rfl kk
theorem Rc.ixor {pc' : Nat} {x y : Int32} (H : Rc C R own bs ml Z n0 ce sl pc Ls (.int y :: .int x :: rest) h Ds) (hd : decode bs pc = .ok (.ixor, 1)) (hp : pc + 1 = pc') : Rc C R own bs ml Z n0 ce sl pc' Ls (.int (x ^^^ y) :: rest) h Ds := by
  subst hp
  exact H.go fun T t hA hx hby kk => XS.ixor hA hx rfl (hb hby hd) rfl kk
theorem Rc.lxor {pc' : Nat} {x y : Int64} (H : Rc C R own bs ml Z n0 ce sl pc Ls (.long y :: .long x :: rest) h Ds) (hd : decode bs pc = .ok (.lxor, 1)) (hp : pc + 1 = pc') : Rc C R own bs ml Z n0 ce sl pc' Ls (.long (x ^^^ y) :: rest) h Ds := by
  subst hp
  exact H.go fun T t hA hx hby kk => XS.lxor hA hx rfl (hb hby hd) rfl kk
theorem Rc.ishl {pc' : Nat} {x : Int32} {y : Int32} (H : Rc C R own bs ml Z n0 ce sl pc Ls (.int y :: .int x :: rest) h Ds) (hd : decode bs pc = .ok (.ishl, 1)) (hp : pc + 1 = pc') : Rc C R own bs ml Z n0 ce sl pc' Ls (.int (x <<< (y &&& 31)) :: rest) h Ds := by
  subst hp
  exact H.go fun T t hA hx hby kk => XS.ishl hA hx rfl (hb hby hd) rfl kk
theorem Rc.ishr {pc' : Nat} {x : Int32} {y : Int32} (H : Rc C R own bs ml Z n0 ce sl pc Ls (.int y :: .int x :: rest) h Ds) (hd : decode bs pc = .ok (.ishr, 1)) (hp : pc + 1 = pc') : Rc C R own bs ml Z n0 ce sl pc' Ls (.int (x >>> (y &&& 31)) :: rest) h Ds := by
  subst hp
  exact H.go fun T t hA hx hby kk => XS.ishr hA hx rfl (hb hby hd) rfl kk
theorem Rc.iushr {pc' : Nat} {x : Int32} {y : Int32} (H : Rc C R own bs ml Z n0 ce sl pc Ls (.int y :: .int x :: rest) h Ds) (hd : decode bs pc = .ok (.iushr, 1)) (hp : pc + 1 = pc') : Rc C R own bs ml Z n0 ce sl pc' Ls (.int ((x.toUInt32 >>> (y &&& 31).toUInt32).toInt32) :: rest) h Ds := by
  subst hp
  exact H.go fun T t hA hx hby kk => XS.iushr hA hx rfl (hb hby hd) rfl kk
theorem Rc.lshl {pc' : Nat} {x : Int64} {y : Int32} (H : Rc C R own bs ml Z n0 ce sl pc Ls (.int y :: .long x :: rest) h Ds) (hd : decode bs pc = .ok (.lshl, 1)) (hp : pc + 1 = pc') : Rc C R own bs ml Z n0 ce sl pc' Ls (.long (x <<< (y &&& 0x3f).toInt64) :: rest) h Ds := by
  subst hp
  exact H.go fun T t hA hx hby kk => XS.lshl hA hx rfl (hb hby hd) rfl kk
theorem Rc.lshr {pc' : Nat} {x : Int64} {y : Int32} (H : Rc C R own bs ml Z n0 ce sl pc Ls (.int y :: .long x :: rest) h Ds) (hd : decode bs pc = .ok (.lshr, 1)) (hp : pc + 1 = pc') : Rc C R own bs ml Z n0 ce sl pc' Ls (.long (x >>> (y &&& 0x3f).toInt64) :: rest) h Ds := by
  subst hp
  exact H.go fun T t hA hx hby kk => XS.lshr hA hx rfl (hb hby hd) rfl kk
theorem Rc.lushr {pc' : Nat} {x : Int64} {y : Int32} (H : Rc C R own bs ml Z n0 ce sl pc Ls (.int y :: .long x :: rest) h Ds) (hd : decode bs pc = .ok (.lushr, 1)) (hp : pc + 1 = pc') : Rc C R own bs ml Z n0 ce sl pc' Ls (.long ((x.toUInt64 >>> (y &&& 0x3f).toInt64.toUInt64).toInt64) :: rest) h Ds := by
  subst hp
  exact H.go fun T t hA hx hby kk => XS.lushr hA hx rfl (hb hby hd) rfl kk
theorem Rc.ineg {pc' : Nat} {x : Int32} (H : Rc C R own bs ml Z n0 ce sl pc Ls (.int x :: rest) h Ds) (hd : decode bs pc = .ok (.ineg, 1)) (hp : pc + 1 = pc') : Rc C R own bs ml Z n0 ce sl pc' Ls (.int (-x) :: rest) h Ds := by
  subst hp
  exact H.go fun T t hA hx hby kk => XS.ineg hA hx rfl (hb hby hd) rfl kk
theorem Rc.lneg {pc' : Nat} {x : Int64} (H : Rc C R own bs ml Z n0 ce sl pc Ls (.long x :: rest) h Ds) (hd : decode bs pc = .ok (.lneg, 1)) (hp : pc + 1 = pc') : Rc C R own bs ml Z n0 ce sl pc' Ls (.long (-x) :: rest) h Ds := by
  subst hp
  exact H.go fun T t hA hx hby kk => XS.lneg hA hx rfl (hb hby hd) rfl kk
theorem Rc.i2l {pc' : Nat} {x : Int32} (H : Rc C R own bs ml Z n0 ce sl pc Ls (.int x :: rest) h Ds) (hd : decode bs pc = .ok (.i2l, 1)) (hp : pc + 1 = pc') : Rc C R own bs ml Z n0 ce sl pc' Ls (.long x.toInt64 :: rest) h Ds := by
  subst hp
  exact H.go fun T t hA hx hby kk => XS.i2l hA hx rfl (hb hby hd) rfl kk
theorem Rc.l2i {pc' : Nat} {x : Int64} (H : Rc C R own bs ml Z n0 ce sl pc Ls (.long x :: rest) h Ds) (hd : decode bs pc = .ok (.l2i, 1)) (hp : pc + 1 = pc') : Rc C R own bs ml Z n0 ce sl pc' Ls (.int x.toInt32 :: rest) h Ds := by
  subst hp
  exact H.go fun T t hA hx hby kk => XS.l2i hA hx rfl (hb hby hd) rfl kk
theorem Rc.i2b {pc' : Nat} {x : Int32} (H : Rc C R own bs ml Z n0 ce sl pc Ls (.int x :: rest) h Ds) (hd : decode bs pc = .ok (.i2b, 1)) (hp : pc + 1 = pc') : Rc C R own bs ml Z n0 ce sl pc' Ls (.int x.toInt8.toInt32 :: rest) h Ds := by
  subst hp
  exact H.go fun T t hA hx hby kk => XS.i2b hA hx rfl (hb hby hd) rfl kk
theorem Rc.i2s {pc' : Nat} {x : Int32} (H : Rc C R own bs ml Z n0 ce sl pc Ls (.int x :: rest) h Ds) (hd : decode bs pc = .ok (.i2s, 1)) (hp : pc + 1 = pc') : Rc C R own bs ml Z n0 ce sl pc' Ls (.int x.toInt16.toInt32 :: rest) h Ds := by
  subst hp
  exact H.go fun T t hA hx hby kk => XS.i2s hA hx rfl (hb hby hd) rfl kk
theorem Rc.i2c {pc' : Nat} {x : Int32} (H : Rc C R own bs ml Z n0 ce sl pc Ls (.int x :: rest) h Ds) (hd : decode bs pc = .ok (.i2c, 1)) (hp : pc + 1 = pc') : Rc C R own bs ml Z n0 ce sl pc' Ls (.int x.toUInt32.toUInt16.toUInt32.toInt32 :: rest) h Ds := by
  subst hp
  exact H.go fun T t hA hx hby kk => XS.i2c hA hx rfl (hb hby hd) rfl kk
theorem Rc.lcmp {pc' : Nat} {x y : Int64} (H : Rc C R own bs ml Z n0 ce sl pc Ls (.long y :: .long x :: rest) h Ds) (hd : decode bs pc = .ok (.lcmp, 1)) (hp : pc + 1 = pc') : Rc C R own bs ml Z n0 ce sl pc' Ls (.int (lcmpW x y) :: rest) h Ds := by
  subst hp
  exact H.go fun T t hA hx hby kk => XS.lcmp hA hx rfl (hb hby hd) rfl kk
theorem Rc.idiv {pc' : Nat} {x y : Int32} (H : Rc C R own bs ml Z n0 ce sl pc Ls (.int y :: .int x :: rest) h Ds) (hd : decode bs pc = .ok (.idiv, 1)) (hy : y ≠ 0) (hp : pc + 1 = pc') : Rc C R own bs ml Z n0 ce sl pc' Ls (.int (x / y) :: rest) h Ds := by
  subst hp
  exact H.go fun T t hA hx hby kk => XS.idiv hA hx rfl (hb hby hd) rfl hy kk
theorem Rc.dup {pc' : Nat} {x : Value} (H : Rc C R own bs ml Z n0 ce sl pc Ls (x :: rest) h Ds) (hd : decode bs pc = .ok (.dup, 1)) (hc : x.category = 1) (hp : pc + 1 = pc') : Rc C R own bs ml Z n0 ce sl pc' Ls (x :: x :: rest) h Ds := by
  subst hp
  exact H.go fun T t hA hx hby kk => XS.dup hA hx rfl (hb hby hd) rfl hc kk
theorem Rc.pop {pc' : Nat} {x : Value} (H : Rc C R own bs ml Z n0 ce sl pc Ls (x :: rest) h Ds) (hd : decode bs pc = .ok (.pop, 1)) (hc : x.category = 1) (hp : pc + 1 = pc') : Rc C R own bs ml Z n0 ce sl pc' Ls rest h Ds := by
  subst hp
  exact H.go fun T t hA hx hby kk => XS.pop hA hx rfl (hb hby hd) rfl hc kk
theorem Rc.dupX1 {pc' : Nat} {x y : Value} (H : Rc C R own bs ml Z n0 ce sl pc Ls (x :: y :: rest) h Ds) (hd : decode bs pc = .ok (.dup_x1, 1)) (hc : x.category = 1) (hc' : y.category = 1) (hp : pc + 1 = pc') : Rc C R own bs ml Z n0 ce sl pc' Ls (x :: y :: x :: rest) h Ds := by
  subst hp
  exact H.go fun T t hA hx hby kk => XS.dupX1 hA hx rfl (hb hby hd) rfl hc hc' kk
theorem Rc.iinc {pc' : Nat} {k : Nat} {cst : Int} {x : Int32} {l' : Array Slot} (H : Rc C R own bs ml Z n0 ce sl pc Ls S h Ds) (hd : decode bs pc = .ok (.iinc k cst, 3)) (hl : Ls[k]? = some (.val (.int x))) (hl' : storeLocals Ls k (.int (x + Int32.ofInt cst)) = some l') (hp : pc + 3 = pc') : Rc C R own bs ml Z n0 ce sl pc' l' S h Ds := by
  subst hp
  exact H.go fun T t hA hx hby kk => XS.iinc hA hx rfl (hb hby hd) hl hl' kk
theorem Rc.irem {pc' : Nat} {x y : Int32} (H : Rc C R own bs ml Z n0 ce sl pc Ls (.int y :: .int x :: rest) h Ds) (hd : decode bs pc = .ok (.irem, 1)) (hy : y ≠ 0) (hp : pc + 1 = pc') : Rc C R own bs ml Z n0 ce sl pc' Ls (.int (x % y) :: rest) h Ds := by
  subst hp
  exact H.goX fun s T locs t X hZ hown eT hx hby kk => iremM X hx rfl (hb hby hd) rfl hy kk
theorem Rc.goto {pc' : Nat} {o : Int} (H : Rc C R own bs ml Z n0 ce sl pc Ls S h Ds) (hd : decode bs pc = .ok (.goto o, 3)) (ho : 0 ≤ (pc : Int) + o) (hp : ((pc : Int) + o).toNat = pc') : Rc C R own bs ml Z n0 ce sl pc' Ls S h Ds :=
  H.go fun T t hA hx hby kk => XS.goto hA hx rfl (pc0 := pc) rfl (hb hby hd) ho hp kk
theorem Rc.ifY {pc' : Nat} {o : Int} {cd : ClassFile.Cond} {x : Int32} (H : Rc C R own bs ml Z n0 ce sl pc Ls (.int x :: rest) h Ds) (hd : decode bs pc = .ok (.ifCond cd o, 3)) (hc : if_icmp.holds cd x 0 = true) (ho : 0 ≤ (pc : Int) + o) (hp : ((pc : Int) + o).toNat = pc') : Rc C R own bs ml Z n0 ce sl pc' Ls rest h Ds :=
  H.go fun T t hA hx hby kk => XS.ifYes hA hx rfl (pc0 := pc) rfl (hb hby hd) rfl ((if0 _ _).trans hc) ho hp kk
theorem Rc.ifN {pc' : Nat} {o : Int} {cd : ClassFile.Cond} {x : Int32} (H : Rc C R own bs ml Z n0 ce sl pc Ls (.int x :: rest) h Ds) (hd : decode bs pc = .ok (.ifCond cd o, 3)) (hc : if_icmp.holds cd x 0 = false) (hp : pc + 3 = pc') : Rc C R own bs ml Z n0 ce sl pc' Ls rest h Ds := by
  subst hp
  exact H.go fun T t hA hx hby kk => XS.ifNo hA hx rfl (hb hby hd) rfl ((if0 _ _).trans hc) kk
theorem Rc.icmpY {pc' : Nat} {o : Int} {cd : ClassFile.Cond} {x y : Int32} (H : Rc C R own bs ml Z n0 ce sl pc Ls (.int y :: .int x :: rest) h Ds) (hd : decode bs pc = .ok (.if_icmp cd o, 3)) (hc : if_icmp.holds cd x y = true) (ho : 0 ≤ (pc : Int) + o) (hp : ((pc : Int) + o).toNat = pc') : Rc C R own bs ml Z n0 ce sl pc' Ls rest h Ds :=
  H.go fun T t hA hx hby kk => XS.icmpYes hA hx rfl (pc0 := pc) rfl (hb hby hd) rfl hc ho hp kk
theorem Rc.icmpN {pc' : Nat} {o : Int} {cd : ClassFile.Cond} {x y : Int32} (H : Rc C R own bs ml Z n0 ce sl pc Ls (.int y :: .int x :: rest) h Ds) (hd : decode bs pc = .ok (.if_icmp cd o, 3)) (hc : if_icmp.holds cd x y = false) (hp : pc + 3 = pc') : Rc C R own bs ml Z n0 ce sl pc' Ls rest h Ds := by
  subst hp
  exact H.go fun T t hA hx hby kk => XS.icmpNo hA hx rfl (hb hby hd) rfl hc kk
theorem Rc.ifnullY {pc' : Nat} {o : Int} (H : Rc C R own bs ml Z n0 ce sl pc Ls (.null :: rest) h Ds) (hd : decode bs pc = .ok (.ifnull o, 3)) (ho : 0 ≤ (pc : Int) + o) (hp : ((pc : Int) + o).toNat = pc') : Rc C R own bs ml Z n0 ce sl pc' Ls rest h Ds :=
  H.go fun T t hA hx hby kk => XS.ifnullYes hA hx rfl (pc0 := pc) rfl (hb hby hd) rfl ho hp kk
theorem Rc.ifnullN {pc' : Nat} {b : Addr} {o : Int} (H : Rc C R own bs ml Z n0 ce sl pc Ls (.ref b :: rest) h Ds) (hd : decode bs pc = .ok (.ifnull o, 3)) (hp : pc + 3 = pc') : Rc C R own bs ml Z n0 ce sl pc' Ls rest h Ds := by
  subst hp
  exact H.go fun T t hA hx hby kk => XS.ifnullNo hA hx rfl (hb hby hd) rfl kk
theorem Rc.ifnonnullY {pc' : Nat} {b : Addr} {o : Int} (H : Rc C R own bs ml Z n0 ce sl pc Ls (.ref b :: rest) h Ds) (hd : decode bs pc = .ok (.ifnonnull o, 3)) (ho : 0 ≤ (pc : Int) + o) (hp : ((pc : Int) + o).toNat = pc') : Rc C R own bs ml Z n0 ce sl pc' Ls rest h Ds :=
  H.go fun T t hA hx hby kk => XS.ifnonnullYes hA hx rfl (pc0 := pc) rfl (hb hby hd) rfl ho hp kk
theorem Rc.ifnonnullN {pc' : Nat} {o : Int} (H : Rc C R own bs ml Z n0 ce sl pc Ls (.null :: rest) h Ds) (hd : decode bs pc = .ok (.ifnonnull o, 3)) (hp : pc + 3 = pc') : Rc C R own bs ml Z n0 ce sl pc' Ls rest h Ds := by
  subst hp
  exact H.go fun T t hA hx hby kk => XS.ifnonnullNo hA hx rfl (hb hby hd) rfl kk
theorem Rc.acmp {pc' : Nat} {o : Int} {cd : ACond} {x y : Value} {same : Bool} (H : Rc C R own bs ml Z n0 ce sl pc Ls (y :: x :: rest) h Ds) (hd : decode bs pc = .ok (.if_acmp cd o, 3)) (h1 : x.isRef = true) (h2 : y.isRef = true) (hq : decide (x = y) = same) (ho : 0 ≤ (pc : Int) + o) (hp : pc' = if acV cd same = true then ((pc : Int) + o).toNat else pc + 3) : Rc C R own bs ml Z n0 ce sl pc' Ls rest h Ds :=
  H.goX fun s T locs t X hZ hown eT hx hby kk => Jvm.RoadKit.acmp X hx rfl h1 h2 (pc0 := pc) rfl (hb hby hd) rfl hq ho hp kk

theorem own_ws1 {a : Addr} {Ds : List Addr} (ha : a ∈ Ds) : ∀ x ∈ [a], x ∈ Ds := fun x hx => by rw [List.mem_singleton.mp hx]; exact ha
theorem Rc.getF {pc' : Nat} {a : Addr} {v : Value} {R0 O n d host : String} {idx : Nat} (H : Rc C R own bs ml Z n0 ce sl pc Ls (.ref a :: rest) h Ds) (w : (Jvm.Cond.fieldLink own idx R0 n d).before a0 Z = true ∨ (Jvm.Cond.fieldLinkNest own idx R0 n d host).before a0 Z = true) (via : Via Z R0 O n d) (F : Fld Z h a O n d v) (hd : decode bs pc = .ok (.getfield idx, 3)) (hp : pc + 3 = pc') : Rc C R own bs ml Z n0 ce sl pc' Ls (v :: rest) h Ds := by
  subst hp
  obtain ⟨T, locs, vm0, k0, X, h1, h2, h3, h4, h5, h6, h7, k⟩ := H
  obtain ⟨T', X', e', st⟩ := RoadKit.getF X h7.1 (Z := Z) h3 h7.2.2.2.1 w via h5 F (g := mkF C.m pc Ls (.ref a :: rest)) rfl rfl (hb h7.2.1 hd)
  exact ⟨T', locs, vm0, k0, X', h1, h2, h3, h4, e', h6, h7, fun t ht => k _ (st _ ht)⟩
theorem Rc.getS {pc' : Nat} {v : Value} {R0 O n d host : String} {idx : Nat} (H : Rc C R own bs ml Z n0 ce sl pc Ls S h Ds) (w : (Jvm.Cond.fieldLink own idx R0 n d).before a0 Z = true ∨ (Jvm.Cond.fieldLinkNest own idx R0 n d host).before a0 Z = true) (via : Via Z R0 O n d) (F : Sta Z Z.heap O n d v) (hd : decode bs pc = .ok (.getstatic idx, 3)) (hp : pc + 3 = pc') : Rc C R own bs ml Z n0 ce sl pc' Ls (v :: S) h Ds := by
  subst hp
  obtain ⟨T, locs, vm0, k0, X, h1, h2, h3, h4, h5, h6, h7, k⟩ := H
  obtain ⟨T', X', e', st⟩ := getS2 X h7.1 (Z := Z) h3 h7.2.2.2.1 w via h5 (F.ext h4.1.2) (g := mkF C.m pc Ls S) rfl (hb h7.2.1 hd)
  exact ⟨T', locs, vm0, k0, X', h1, h2, h3, h4, e', h6, h7, fun t ht => k _ (st _ ht)⟩
theorem Rc.putF {pc' : Nat} {a : Addr} {v old : Value} {R0 O n d host Cc : String} {idx kk : Nat} {ty : FieldType} (H : Rc C R own bs ml Z n0 ce sl pc Ls (v :: .ref a :: rest) h Ds) (w : (Jvm.Cond.fieldLink own idx R0 n d).before a0 Z = true ∨ (Jvm.Cond.fieldLinkNest own idx R0 n d host).before a0 Z = true) (via : Via Z R0 O n d) (F : Fld Z h a O n d old) (E : Exa Z h a Cc)
    (L : (Jvm.Cond.lays Cc O n d).before a0 Z = true ∨ ((Jvm.Cond.laysFinal Cc O n d).before a0 Z = true ∧ own = O ∧ C.meth.name = "<init>")) (wi : (Jvm.Cond.instantiable Cc kk).before a0 Z = true) (hty : parseFieldDescriptor d = some ty) (hn : narrow ty v = v) (hf : fits ty v = true) (ha : a ∈ Ds) (hd : decode bs pc = .ok (.putfield idx, 3)) (hp : pc + 3 = pc') :
    ∃ h', Wr h h' a (RoadKit.slotOf Z O n d) v ∧ Rc C R own bs ml Z n0 ce sl pc' Ls rest h' Ds := by
  subst hp
  obtain ⟨T, locs, vm0, k0, X, h1, h2, h3, h4, h5, h6, h7, k⟩ := H
  obtain ⟨T', h', X', e', W', st⟩ := RoadKit.putF X h7.1 (Z := Z) h3 h7.2.2.2.1 w via h5 F E L wi hty hn hf (g := mkF C.m pc Ls (v :: .ref a :: rest)) rfl rfl (hb h7.2.1 hd)
  exact ⟨h', W', T', _, vm0, k0, X', h1, by rw [W'.size]; exact h2, h3, h4.keep (Keep.of_wr W') (own_ws1 ha), e', Fr.snoc X' h6 (h4.2.2.1 a ha).1, h7, fun t ht => k _ (st _ ht)⟩
theorem Rc.putFN {pc' : Nat} {a : Addr} {v v' old : Value} {R0 O n d Cc : String} {idx kk : Nat} {ty : FieldType} (H : Rc C R own bs ml Z n0 ce sl pc Ls (v :: .ref a :: rest) h Ds) (w : (Jvm.Cond.fieldLink own idx R0 n d).before a0 Z = true) (via : Via Z R0 O n d) (F : Fld Z h a O n d old) (E : Exa Z h a Cc)
    (L : (Jvm.Cond.lays Cc O n d).before a0 Z = true ∨ ((Jvm.Cond.laysFinal Cc O n d).before a0 Z = true ∧ own = O ∧ C.meth.name = "<init>")) (wi : (Jvm.Cond.instantiable Cc kk).before a0 Z = true) (hty : parseFieldDescriptor d = some ty) (hn : narrow ty v = v') (hf : fits ty v' = true) (ha : a ∈ Ds) (hd : decode bs pc = .ok (.putfield idx, 3)) (hp : pc + 3 = pc') :
    ∃ h', Wr h h' a (RoadKit.slotOf Z O n d) v' ∧ Rc C R own bs ml Z n0 ce sl pc' Ls rest h' Ds := by
  subst hp
  obtain ⟨T, locs, vm0, k0, X, h1, h2, h3, h4, h5, h6, h7, k⟩ := H
  obtain ⟨T', h', X', e', W', st⟩ := RoadKit.putFN X h7.1 (Z := Z) h3 h7.2.2.2.1 w via h5 F E L wi hty hn hf (g := mkF C.m pc Ls (v :: .ref a :: rest)) rfl rfl (hb h7.2.1 hd)
  exact ⟨h', W', T', _, vm0, k0, X', h1, by rw [W'.size]; exact h2, h3, h4.keep (Keep.of_wr W') (own_ws1 ha), e', Fr.snoc X' h6 (h4.2.2.1 a ha).1, h7, fun t ht => k _ (st _ ht)⟩
theorem Rc.newO {pc' : Nat} {Cc : String} {idx n : Nat} (H : Rc C R own bs ml Z n0 ce sl pc Ls S h Ds) (w : (Jvm.Cond.classLink own idx Cc).before a0 Z = true) (wi : (Jvm.Cond.instantiable Cc n).before a0 Z = true) (wz : (Jvm.Cond.initialized Cc).before a0 Z = true) (hd : decode bs pc = .ok (.new idx, 3)) (hc : ce + 1 ≤ R.cells) (hl : sl + n ≤ R.slots) (hp : pc + 3 = pc') :
    ∃ (h' : Heap) (b : Addr), b = h.size ∧ Ext h h' ∧ Exa Z h' b Cc ∧ (∀ {O nm d : String} {ty : FieldType}, Laid Z a0 Cc O nm d → parseFieldDescriptor d = some ty → Fld Z h' b O nm d (defaultValue ty)) ∧ Rc C R own bs ml Z n0 (ce + 1) (sl + n) pc' Ls (.ref b :: S) h' (b :: Ds) := by
  subst hp
  obtain ⟨T, locs, vm0, k0, X, h1, h2, h3, h4, h5, h6, h7, k⟩ := H
  obtain ⟨T', h', X', e', E', A', D', -, st⟩ := RoadKit.newO X h7.1 (Z := Z) h3 h7.2.2.2.1 w wi wz h5 (g := mkF C.m pc Ls S) rfl (hb h7.2.1 hd) hc hl
  exact ⟨h', h.size, rfl, E', A', D', T', _, vm0, k0, X', h1, Nat.le_trans h2 E'.1, h3, h4.born E' A'.lt, e', h6, h7, fun t ht => k _ (st _ ht)⟩
theorem Rc.newP {pc' : Nat} {aty : ArrayType} {n : Int32} {cap : Nat} (H : Rc C R own bs ml Z n0 ce sl pc Ls (.int n :: rest) h Ds) (w : (Jvm.Cond.arrayClass (newarray.typeOf aty)).before a0 Z = true) (hd : decode bs pc = .ok (.newarray aty, 2)) (hn : ¬ n < 0) (hcap : n.toNatClampNeg ≤ cap) (hb' : cap * 8 ≤ 536870912) (hc : ce + 1 ≤ R.cells) (hl : sl + cap ≤ R.slots) (hp : pc + 2 = pc') :
    ∃ (h' : Heap) (b : Addr) (kA : ClassId), b = h.size ∧ Ext h h' ∧ Arv Z h' b kA (newarray.typeOf aty) n [] (defaultValue (newarray.typeOf aty)) ∧ Rc C R own bs ml Z n0 (ce + 1) (sl + cap) pc' Ls (.ref b :: rest) h' (b :: Ds) := by
  subst hp
  obtain ⟨T, locs, vm0, k0, X, h1, h2, h3, h4, h5, h6, h7, k⟩ := H
  obtain ⟨T', h', kA, X', e', E', A', st⟩ := RoadKit.newP X h7.1 (Z := Z) h3 w h5 (g := mkF C.m pc Ls (.int n :: rest)) rfl (hb h7.2.1 hd) rfl hn hcap hb' hc hl
  exact ⟨h', h.size, kA, rfl, E', Arv.new A' hn, T', _, vm0, k0, X', h1, Nat.le_trans h2 E'.1, h3, h4.born E' A'.lt, e', h6, h7, fun t ht => k _ (st _ ht)⟩
theorem Rc.castore {pc' : Nat} {a : Addr} {x j z : Int32} {kA : ClassId} {vs : List Value} {dv : Value} (H : Rc C R own bs ml Z n0 ce sl pc Ls (.int x :: .int j :: .ref a :: rest) h Ds) (V : Arv Z h a kA .char z vs dv) (hj : ¬ j < 0 ∧ j < z) (i : Nat) (hi : j.toNatClampNeg = i) (hl : i < vs.length) (ha : a ∈ Ds) (hd : decode bs pc = .ok (.castore, 1)) (hp : pc + 1 = pc') :
    ∃ h', Keep h h' [a] ∧ Arv Z h' a kA .char z (vs.set i (.int (nar .char x))) dv ∧ Rc C R own bs ml Z n0 ce sl pc' Ls rest h' Ds := by
  subst hp
  obtain ⟨T, locs, vm0, k0, X, h1, h2, h3, h4, h5, h6, h7, k⟩ := H
  obtain ⟨cl, Ar, q1, q2, q3, q4, q5⟩ := V
  obtain ⟨T', h', X', e', W', st⟩ := stC X h7.1 (Z := Z) h3 h5 Ar (j := j) (inb_of q2 hj) (g := mkF C.m pc Ls (.int x :: .int j :: .ref a :: rest)) rfl rfl (hb h7.2.1 hd)
  exact ⟨h', Keep.of_wr W', Arv.set Ar q1 q2 q3 q4 q5 (fits_nar_char _) W' i hi hl, T', _, vm0, k0, X', h1, by rw [W'.size]; exact h2, h3, h4.keep (Keep.of_wr W') (own_ws1 ha), e', Fr.snoc X' h6 (h4.2.2.1 a ha).1, h7, fun t ht => k _ (st _ ht)⟩
theorem Rc.bastore {pc' : Nat} {a : Addr} {x j z : Int32} {kA : ClassId} {vs : List Value} {dv : Value} (H : Rc C R own bs ml Z n0 ce sl pc Ls (.int x :: .int j :: .ref a :: rest) h Ds) (V : Arv Z h a kA .byte z vs dv) (hj : ¬ j < 0 ∧ j < z) (i : Nat) (hi : j.toNatClampNeg = i) (hl : i < vs.length) (ha : a ∈ Ds) (hd : decode bs pc = .ok (.bastore, 1)) (hp : pc + 1 = pc') :
    ∃ h', Keep h h' [a] ∧ Arv Z h' a kA .byte z (vs.set i (.int (nar .byte x))) dv ∧ Rc C R own bs ml Z n0 ce sl pc' Ls rest h' Ds := by
  subst hp
  obtain ⟨T, locs, vm0, k0, X, h1, h2, h3, h4, h5, h6, h7, k⟩ := H
  obtain ⟨cl, Ar, q1, q2, q3, q4, q5⟩ := V
  obtain ⟨T', h', X', e', W', st⟩ := stB X h7.1 (Z := Z) h3 h5 Ar (j := j) (inb_of q2 hj) (g := mkF C.m pc Ls (.int x :: .int j :: .ref a :: rest)) rfl rfl (hb h7.2.1 hd)
  exact ⟨h', Keep.of_wr W', Arv.set Ar q1 q2 q3 q4 q5 (fits_nar_byte _) W' i hi hl, T', _, vm0, k0, X', h1, by rw [W'.size]; exact h2, h3, h4.keep (Keep.of_wr W') (own_ws1 ha), e', Fr.snoc X' h6 (h4.2.2.1 a ha).1, h7, fun t ht => k _ (st _ ht)⟩
theorem Rc.caload {pc' : Nat} {a : Addr} {j z : Int32} {v : Value} {kA : ClassId} {vs : List Value} {dv : Value} (H : Rc C R own bs ml Z n0 ce sl pc Ls (.int j :: .ref a :: rest) h Ds) (V : Arv Z h a kA .char z vs dv) (hj : ¬ j < 0 ∧ j < z) (hv : vs.getD j.toNatClampNeg dv = v) (hd : decode bs pc = .ok (.caload, 1)) (hp : pc + 1 = pc') : Rc C R own bs ml Z n0 ce sl pc' Ls (v :: rest) h Ds := by
  subst hp
  obtain ⟨cl, Ar, q1, q2, q3, q4, q5⟩ := V
  exact H.goX fun s T locs t X hZ hown eT hx hby kk => X.caload hx (j := j) (v := v) (by rw [eT]; exact Ar.1) (State.isArrayOf_alike hZ.alike Ar.2.1) Ar.2.2 (inb_of q2 hj) (q4.at (inb_of q2 hj) hv) (g := mkF C.m pc Ls (.int j :: .ref a :: rest)) rfl rfl (hb hby hd) _ kk
theorem Rc.baload {pc' : Nat} {a : Addr} {j z : Int32} {v : Value} {kA : ClassId} {vs : List Value} {dv : Value} (H : Rc C R own bs ml Z n0 ce sl pc Ls (.int j :: .ref a :: rest) h Ds) (V : Arv Z h a kA .byte z vs dv) (hj : ¬ j < 0 ∧ j < z) (hv : vs.getD j.toNatClampNeg dv = v) (hd : decode bs pc = .ok (.baload, 1)) (hp : pc + 1 = pc') : Rc C R own bs ml Z n0 ce sl pc' Ls (v :: rest) h Ds := by
  subst hp
  obtain ⟨cl, Ar, q1, q2, q3, q4, q5⟩ := V
  exact H.goX fun s T locs t X hZ hown eT hx hby kk => X.baloadBytes hx (j := j) (v := v) (by rw [eT]; exact Ar.1) (State.isArrayOf_alike hZ.alike Ar.2.1) Ar.2.2 (inb_of q2 hj) (q4.at (inb_of q2 hj) hv) (g := mkF C.m pc Ls (.int j :: .ref a :: rest)) rfl rfl (hb hby hd) _ kk
theorem Rc.aaload {pc' : Nat} {a : Addr} {j z : Int32} {v : Value} {kA : ClassId} {ty : FieldType} {vs : List Value} {dv : Value} (H : Rc C R own bs ml Z n0 ce sl pc Ls (.int j :: .ref a :: rest) h Ds) (V : Arv Z h a kA ty z vs dv) (hty : ty.isReference = true) (hj : ¬ j < 0 ∧ j < z) (hv : vs.getD j.toNatClampNeg dv = v) (hd : decode bs pc = .ok (.aaload, 1)) (hp : pc + 1 = pc') : Rc C R own bs ml Z n0 ce sl pc' Ls (v :: rest) h Ds := by
  subst hp
  obtain ⟨cl, Ar, q1, q2, q3, q4, q5⟩ := V
  exact H.goX fun s T locs t X hZ hown eT hx hby kk => X.aaload hx (j := j) (v := v) (by rw [eT]; exact Ar.1) (State.isArrayOf_alike hZ.alike Ar.2.1) hty Ar.2.2 (inb_of q2 hj) (q4.at (inb_of q2 hj) hv) (g := mkF C.m pc Ls (.int j :: .ref a :: rest)) rfl rfl (hb hby hd) _ kk
theorem Rc.arraylength {pc' : Nat} {a : Addr} {z : Int32} {kA : ClassId} {ty : FieldType} {vs : List Value} {dv : Value} (H : Rc C R own bs ml Z n0 ce sl pc Ls (.ref a :: rest) h Ds) (V : Arv Z h a kA ty z vs dv) (hd : decode bs pc = .ok (.arraylength, 1)) (hp : pc + 1 = pc') : Rc C R own bs ml Z n0 ce sl pc' Ls (.int z :: rest) h Ds := by
  subst hp
  obtain ⟨cl, Ar, q1, q2, q3, q4, q5⟩ := V
  have e := len_of q2 q3
  exact H.goX fun s T locs t X hZ hown eT hx hby kk => X.arraylength hx (by rw [eT]; exact Ar.1) (State.isArrayOf_alike hZ.alike Ar.2.1) (g := mkF C.m pc Ls (.ref a :: rest)) rfl rfl (hb hby hd) _ (by rw [e]; exact kk)
theorem Rc.initO {pc' : Nat} {a : Addr} {idx W : Nat} (H : Rc C R own bs ml Z n0 ce sl pc Ls (.ref a :: rest) h Ds) (w1 : (Jvm.Cond.methodLink own idx Lib.objectInit).before a0 Z = true) (w2 : (Jvm.Cond.instanceMethod Lib.objectInit).before a0 Z = true) (w3 : (Jvm.Cond.code Lib.objectInit ⟨#[0xb1]⟩ 1 none).before a0 Z = true) (hsz : Ls.size = ml) (hd : decode bs pc = .ok (.invokespecial idx, 3)) (hf : 1 ≤ R.frames) (hW : (rest.map fun v => v.category).sum = W) (hl : W + 12 ≤ R.locals) (hp : pc + 3 = pc') : Rc C R own bs ml Z n0 ce sl pc' Ls rest h Ds := by
  subst hp
  obtain ⟨T, locs, vm0, k0, X, h1, h2, h3, h4, h5, h6, h7, k⟩ := H
  obtain ⟨T', X', e', st⟩ := RoadKit.initO X h7.1 (Z := Z) h3 h7.2.2.2.1 w1 w2 w3 h5 (g := mkF C.m pc Ls (.ref a :: rest)) rfl (hsz.trans h7.2.2.1.symm) rfl (hb h7.2.1 hd) hf (W := W) (by show 2 * 0 + _ ≤ _; omega) hl
  exact ⟨T', locs, vm0, k0, X', h1, h2, h3, h4, e', h6, h7, fun t ht => k _ (st _ ht)⟩
theorem Rc.castY {pc' : Nat} {a : Addr} {K : String} {idx : Nat} (H : Rc C R own bs ml Z n0 ce sl pc Ls (.ref a :: rest) h Ds) (w : (Jvm.Cond.classLink own idx K).before a0 Z = true) (F : Ins Z h a K true) (hd : decode bs pc = .ok (.checkcast idx, 3)) (hp : pc + 3 = pc') : Rc C R own bs ml Z n0 ce sl pc' Ls (.ref a :: rest) h Ds := by
  subst hp
  obtain ⟨T, locs, vm0, k0, X, h1, h2, h3, h4, h5, h6, h7, k⟩ := H
  obtain ⟨T', X', e', st⟩ := RoadKit.castY X h7.1 (Z := Z) h3 h7.2.2.2.1 w h5 F (g := mkF C.m pc Ls (.ref a :: rest)) rfl rfl (hb h7.2.1 hd)
  exact ⟨T', locs, vm0, k0, X', h1, h2, h3, h4, e', h6, h7, fun t ht => k _ (st _ ht)⟩
theorem Rc.castNull {pc' : Nat} {idx : Nat} (H : Rc C R own bs ml Z n0 ce sl pc Ls (.null :: rest) h Ds) (hd : decode bs pc = .ok (.checkcast idx, 3)) (hp : pc + 3 = pc') : Rc C R own bs ml Z n0 ce sl pc' Ls (.null :: rest) h Ds := by
  subst hp
  exact H.goX fun s T locs t X hZ hown eT hx hby kk => X.checkcastNull hx (g := mkF C.m pc Ls (.null :: rest)) rfl rfl (hb hby hd) _ kk
theorem Rc.instNull {pc' : Nat} {idx : Nat} (H : Rc C R own bs ml Z n0 ce sl pc Ls (.null :: rest) h Ds) (hd : decode bs pc = .ok (.instanceof idx, 3)) (hp : pc + 3 = pc') : Rc C R own bs ml Z n0 ce sl pc' Ls (.int 0 :: rest) h Ds := by
  subst hp
  exact H.goX fun s T locs t X hZ hown eT hx hby kk => X.instanceofNull hx (g := mkF C.m pc Ls (.null :: rest)) rfl rfl (hb hby hd) _ kk
theorem Rc.instY {pc' : Nat} {a : Addr} {K : String} {idx : Nat} (H : Rc C R own bs ml Z n0 ce sl pc Ls (.ref a :: rest) h Ds) (w : (Jvm.Cond.classLink own idx K).before a0 Z = true) (F : Ins Z h a K true) (hd : decode bs pc = .ok (.instanceof idx, 3)) (hp : pc + 3 = pc') : Rc C R own bs ml Z n0 ce sl pc' Ls (.int 1 :: rest) h Ds := by
  subst hp
  obtain ⟨T, locs, vm0, k0, X, h1, h2, h3, h4, h5, h6, h7, k⟩ := H
  obtain ⟨T', X', e', st⟩ := RoadKit.instY X h7.1 (Z := Z) h3 h7.2.2.2.1 w h5 F (g := mkF C.m pc Ls (.ref a :: rest)) rfl rfl (hb h7.2.1 hd)
  exact ⟨T', locs, vm0, k0, X', h1, h2, h3, h4, e', h6, h7, fun t ht => k _ (st _ ht)⟩
theorem Rc.instNo {pc' : Nat} {a : Addr} {K Cc : String} {idx : Nat} (H : Rc C R own bs ml Z n0 ce sl pc Ls (.ref a :: rest) h Ds) (w : (Jvm.Cond.classLink own idx K).before a0 Z = true) (E : Exa Z h a Cc) (F : ∃ c t, Z.vm.findClass Cc = some c ∧ Z.vm.findClass K = some t ∧ Z.vm.assignable c t = false) (hd : decode bs pc = .ok (.instanceof idx, 3)) (hp : pc + 3 = pc') : Rc C R own bs ml Z n0 ce sl pc' Ls (.int 0 :: rest) h Ds := by
  subst hp
  obtain ⟨T, locs, vm0, k0, X, h1, h2, h3, h4, h5, h6, h7, k⟩ := H
  obtain ⟨T', X', e', st⟩ := RoadKit.instNo X h7.1 (Z := Z) h3 h7.2.2.2.1 w h5 E F (g := mkF C.m pc Ls (.ref a :: rest)) rfl rfl (hb h7.2.1 hd)
  exact ⟨T', locs, vm0, k0, X', h1, h2, h3, h4, e', h6, h7, fun t ht => k _ (st _ ht)⟩
/-! calls by a contract -/
abbrev NoMH (y : MethodName) : Prop := y.cls ≠ "java/lang/invoke/MethodHandle" ∧ y.cls ≠ "java/lang/invoke/VarHandle"
theorem own_fin {Q : Option Value → Heap → List Addr → Prop} {T : State} {locs : List Loc} {vm0 : Vm} {k0 pc' : Nat} {g : JFrame} {rm : Room} {v : Option Value} {B : Pt} {rest : List Value}
    (h1 : C.s.Since vm0 k0) (h2 : k0 ≤ h.size) (h3 : Z.Warmed39 vm0) (h5 : T.heap = h) (h6 : Fr n0 locs) (h7 : C.p.tables.exec = Jvm.exec ∧ C.c.code = bs ∧ C.c.maxLocals = ml ∧ vm0.findClass own = some C.m.cls ∧ C.meth.locks = false)
    (k : ∀ t, Steps C.p.tables C.e C.below (T.setTop g) t → Steps C.p.tables C.e C.below C.s0 t)
    (X' : Stand C.p C.l C.e R ((C.s.setVm vm0).setVm B.U.vm) C.m C.args C.below C.meth C.c B.U B.locs B.cells B.slots) (hS' : (C.s.setVm vm0).Since B.U.vm B.U.heap.size) (hgr : T.heap.size ≤ B.U.heap.size)
    (hq : ∃ (L : List Loc) (Ds' : List Addr), Q v B.U.heap Ds' ∧ JJ Z n0 B.U.vm B.U.heap Ds' ∧ Fr n0 L ∧ B.locs = locs ++ L ∧ B.cells = ce + rm.cells ∧ B.slots = sl + rm.slots)
    (st : Steps C.p.tables C.e C.below (T.setTop g) (B.U.setTop (mkF C.m pc' Ls (v.toList ++ rest)))) :
    ∃ (v : Option Value) (h' : Heap) (Ds' : List Addr), Q v h' Ds' ∧ Rc C R own bs ml Z n0 (ce + rm.cells) (sl + rm.slots) pc' Ls (v.toList ++ rest) h' Ds' := by
  obtain ⟨L, Ds', hQ, hJ, hFr, e1, e2, e3⟩ := hq
  refine ⟨v, B.U.heap, Ds', hQ, B.U, B.locs, B.U.vm, B.U.heap.size, ?_, h1.trans hS' (by rw [h5] at hgr; exact Nat.le_trans h2 hgr), Nat.le_refl _, State.Warmed39.trans (t := C.s.setVm vm0) h3 hS'.1, hJ, rfl, ?_, ⟨h7.1, h7.2.1, h7.2.2.1, ?_, h7.2.2.2.2⟩, fun t ht => k _ (st.trans ht)⟩
  · rw [← e2, ← e3]; exact X'
  · rw [e1]; exact Fr.app h6 hFr
  · rw [hS'.1.alike.findClass]; exact h7.2.2.2.1
theorem Rc.callS {pc' : Nat} {y : MethodName} {idx ml' W : Nat} {by' : ByteArray} {ret' : Option FieldType} {rm : Room} {argsL : List Value} {Q : Option Value → Heap → List Addr → Prop} (H : Rc C R own bs ml Z n0 ce sl pc Ls S h Ds)
    (hlink : (Jvm.Cond.methodLink own idx y).before a0 Z = true) (hstat : (Jvm.Cond.static y).before a0 Z = true) (hinit : (Jvm.Cond.initialized y.cls).before a0 Z = true) (hcode : (Jvm.Cond.code y by' ml' ret').before a0 Z = true) (hy : NoMH y)
    (K : Ctr C.l Z y by' ml' ret' [] rm argsL.toArray h n0 Ds Q) (hsz : Ls.size = ml) (hlen : ∀ sig, parseMethodDescriptor y.desc = some sig → argsL.length = sig.parameters.length) (hst : S = argsL.reverse ++ rest) (hW : (rest.map fun v => v.category).sum = W)
    (hd : decode bs pc = .ok (.invokestatic idx, 3)) (hfr : rm.frames + 1 ≤ R.frames) (hlo : W + (ml' + 11) + rm.locals ≤ R.locals) (hce : ce + rm.cells ≤ R.cells) (hsl : sl + rm.slots ≤ R.slots) (hp : pc + 3 = pc') :
    ∃ (v : Option Value) (h' : Heap) (Ds' : List Addr), Q v h' Ds' ∧ Rc C R own bs ml Z n0 (ce + rm.cells) (sl + rm.slots) pc' Ls (v.toList ++ rest) h' Ds' := by
  subst hp hst
  obtain ⟨T, locs, vm0, k0, X, h1, h2, h3, h4, h5, h6, h7, k⟩ := H
  obtain ⟨v, vm₁, B, hw1, X', hS', hgr, hq, st⟩ := callSS X h7.1 h7.2.2.2.1 (mvT (s := C.s.setVm vm0) h3 hlink) (mvT (s := C.s.setVm vm0) h3 hstat) (mvT (s := C.s.setVm vm0) h3 hinit) (mvT (s := C.s.setVm vm0) h3 hcode) hy (ctrBack (s := C.s.setVm vm0) (W := W) K h3 h4 hcode hinit hfr hlo) (g := mkF C.m pc Ls (argsL.reverse ++ rest)) rfl (hsz.trans h7.2.2.1.symm) hlen rfl (by show 2 * 0 + _ ≤ _; omega) (hb h7.2.1 hd) (fun vm₁ hw => ⟨rfl, h5, hce, hsl⟩)
  exact own_fin h1 h2 h3 h5 h6 h7 k X' hS' hgr hq st
theorem Rc.callSN {pc' : Nat} {y : MethodName} {host : String} {idx ml' W : Nat} {by' : ByteArray} {ret' : Option FieldType} {rm : Room} {argsL : List Value} {Q : Option Value → Heap → List Addr → Prop} (H : Rc C R own bs ml Z n0 ce sl pc Ls S h Ds)
    (hlink : (Jvm.Cond.methodLinkNest own idx y host).before a0 Z = true) (hstat : (Jvm.Cond.static y).before a0 Z = true) (hinit : (Jvm.Cond.initialized y.cls).before a0 Z = true) (hcode : (Jvm.Cond.code y by' ml' ret').before a0 Z = true) (hy : NoMH y)
    (K : Ctr C.l Z y by' ml' ret' [] rm argsL.toArray h n0 Ds Q) (hsz : Ls.size = ml) (hlen : ∀ sig, parseMethodDescriptor y.desc = some sig → argsL.length = sig.parameters.length) (hst : S = argsL.reverse ++ rest) (hW : (rest.map fun v => v.category).sum = W)
    (hd : decode bs pc = .ok (.invokestatic idx, 3)) (hfr : rm.frames + 1 ≤ R.frames) (hlo : W + (ml' + 11) + rm.locals ≤ R.locals) (hce : ce + rm.cells ≤ R.cells) (hsl : sl + rm.slots ≤ R.slots) (hp : pc + 3 = pc') :
    ∃ (v : Option Value) (h' : Heap) (Ds' : List Addr), Q v h' Ds' ∧ Rc C R own bs ml Z n0 (ce + rm.cells) (sl + rm.slots) pc' Ls (v.toList ++ rest) h' Ds' := by
  subst hp hst
  obtain ⟨T, locs, vm0, k0, X, h1, h2, h3, h4, h5, h6, h7, k⟩ := H
  obtain ⟨v, vm₁, B, hw1, X', hS', hgr, hq, st⟩ := callSNS X h7.1 h7.2.2.2.1 (Jvm.Cond.methodLinkNest_wide h3 hlink) (mvT (s := C.s.setVm vm0) h3 hstat) (mvT (s := C.s.setVm vm0) h3 hinit) (mvT (s := C.s.setVm vm0) h3 hcode) hy (ctrBack (s := C.s.setVm vm0) (W := W) K h3 h4 hcode hinit hfr hlo) (g := mkF C.m pc Ls (argsL.reverse ++ rest)) rfl (hsz.trans h7.2.2.1.symm) hlen rfl (by show 2 * 0 + _ ≤ _; omega) (hb h7.2.1 hd) (fun vm₁ hw => ⟨rfl, h5, hce, hsl⟩)
  exact own_fin h1 h2 h3 h5 h6 h7 k X' hS' hgr hq st
theorem Rc.callI {pc' : Nat} {y : MethodName} {idx ml' W : Nat} {by' : ByteArray} {rm : Room} {a : Addr} {argsL : List Value} {Q : Option Value → Heap → List Addr → Prop} (H : Rc C R own bs ml Z n0 ce sl pc Ls S h Ds) (hy1 : y.name = "<init>")
    (hlink : (Jvm.Cond.methodLink own idx y).before a0 Z = true) (hinst : (Jvm.Cond.instanceMethod y).before a0 Z = true) (hinit : (Jvm.Cond.initialized y.cls).before a0 Z = true) (hcode : (Jvm.Cond.code y by' ml' none).before a0 Z = true) (hy : NoMH y)
    (K : Ctr C.l Z y by' ml' none [] rm (.ref a :: argsL).toArray h n0 Ds Q) (hsz : Ls.size = ml) (hlen : ∀ sig, parseMethodDescriptor y.desc = some sig → argsL.length = sig.parameters.length) (hst : S = argsL.reverse ++ .ref a :: rest) (hW : (rest.map fun v => v.category).sum = W)
    (hd : decode bs pc = .ok (.invokespecial idx, 3)) (hfr : rm.frames + 1 ≤ R.frames) (hlo : W + (ml' + 11) + rm.locals ≤ R.locals) (hce : ce + rm.cells ≤ R.cells) (hsl : sl + rm.slots ≤ R.slots) (hp : pc + 3 = pc') :
    ∃ (v : Option Value) (h' : Heap) (Ds' : List Addr), Q v h' Ds' ∧ Rc C R own bs ml Z n0 (ce + rm.cells) (sl + rm.slots) pc' Ls (v.toList ++ rest) h' Ds' := by
  subst hp hst
  obtain ⟨T, locs, vm0, k0, X, h1, h2, h3, h4, h5, h6, h7, k⟩ := H
  obtain ⟨v, vm₁, B, hw1, X', hS', hgr, hq, st⟩ := X.specialBackS h7.1 hy1 h7.2.2.2.1 (mvT (s := C.s.setVm vm0) h3 hlink) (mvT (s := C.s.setVm vm0) h3 hinst) (mvT (s := C.s.setVm vm0) h3 hcode) hy (ctrBack (s := C.s.setVm vm0) (W := W) K h3 h4 hcode hinit hfr hlo) (g := mkF C.m pc Ls (argsL.reverse ++ .ref a :: rest)) rfl (hsz.trans h7.2.2.1.symm) (Steps.refl _) hlen rfl (by show 2 * 0 + _ ≤ _; omega) (hb h7.2.1 hd) (fun vm₁ hw => ⟨rfl, h5, hce, hsl⟩)
  exact own_fin h1 h2 h3 h5 h6 h7 k X' hS' hgr hq st
theorem Rc.callV {pc' : Nat} {y z : MethodName} {Cc : String} {idx ml' W : Nat} {by' : ByteArray} {ret' : Option FieldType} {rm : Room} {a : Addr} {argsL : List Value} {Q : Option Value → Heap → List Addr → Prop} (H : Rc C R own bs ml Z n0 ce sl pc Ls S h Ds)
    (hlink : (Jvm.Cond.methodLink own idx y).before a0 Z = true) (hdecl : (Jvm.Cond.declares y).before a0 Z = true) (hnf : ∀ s' : State, Z.Warmed39 s'.vm → NotFace s' y) (hsel : (Jvm.Cond.selects Cc y z).before a0 Z = true) (hinst : (Jvm.Cond.instanceMethod z).before a0 Z = true) (hinit : (Jvm.Cond.initialized z.cls).before a0 Z = true) (hcode : (Jvm.Cond.code z by' ml' ret').before a0 Z = true) (hy : NoMH y)
    (E : Exa Z h a Cc) (K : Ctr C.l Z z by' ml' ret' [] rm (.ref a :: argsL).toArray h n0 Ds Q) (hsz : Ls.size = ml) (hlen : ∀ sig, parseMethodDescriptor y.desc = some sig → argsL.length = sig.parameters.length) (hst : S = argsL.reverse ++ .ref a :: rest) (hW : (rest.map fun v => v.category).sum = W)
    (hd : decode bs pc = .ok (.invokevirtual idx, 3)) (hfr : rm.frames + 1 ≤ R.frames) (hlo : W + (ml' + 11) + rm.locals ≤ R.locals) (hce : ce + rm.cells ≤ R.cells) (hsl : sl + rm.slots ≤ R.slots) (hp : pc + 3 = pc') :
    ∃ (v : Option Value) (h' : Heap) (Ds' : List Addr), Q v h' Ds' ∧ Rc C R own bs ml Z n0 (ce + rm.cells) (sl + rm.slots) pc' Ls (v.toList ++ rest) h' Ds' := by
  subst hp hst
  obtain ⟨T, locs, vm0, k0, X, h1, h2, h3, h4, h5, h6, h7, k⟩ := H
  obtain ⟨cq, kq, qa, qb, qc⟩ := isOf (s := C.s.setVm vm0) h3 h5 E
  obtain ⟨v, vm₁, B, hw1, X', hS', hgr, hq, st⟩ := X.virtualBackS h7.1 (y := y) (z := z) h7.2.2.2.1 (mvT (s := C.s.setVm vm0) h3 hlink) (mvT (s := C.s.setVm vm0) h3 hdecl) (hnf _ h3) (mvT (s := C.s.setVm vm0) h3 hsel) (mvT (s := C.s.setVm vm0) h3 hinst) hy (ctrBack (s := C.s.setVm vm0) (W := W) K h3 h4 hcode hinit hfr hlo) qa qc (g := mkF C.m pc Ls (argsL.reverse ++ .ref a :: rest)) rfl (hsz.trans h7.2.2.1.symm) (Steps.refl _) hlen rfl (by show 2 * 0 + _ ≤ _; omega) (hb h7.2.1 hd) (fun vm₁ hw => ⟨rfl, h5, hce, hsl⟩)
  exact own_fin h1 h2 h3 h5 h6 h7 k X' hS' hgr hq st
/-! calls by a Back (a law of the library's) -/
theorem own_finB {Qb : Option Value → Heap → List Loc → Prop} {T : State} {locs : List Loc} {vm0 : Vm} {k0 pc' kc ks : Nat} {g : JFrame} {v : Option Value} {B : Pt} {rest : List Value}
    (h1 : C.s.Since vm0 k0) (h2 : k0 ≤ h.size) (h3 : Z.Warmed39 vm0) (h4 : JJ Z n0 vm0 h Ds) (h6 : Fr n0 locs) (h7 : C.p.tables.exec = Jvm.exec ∧ C.c.code = bs ∧ C.c.maxLocals = ml ∧ vm0.findClass own = some C.m.cls ∧ C.meth.locks = false)
    (k : ∀ t, Steps C.p.tables C.e C.below (T.setTop g) t → Steps C.p.tables C.e C.below C.s0 t)
    (hQ : ∀ v h' L, Qb v h' L → Fr n0 L ∧ ∃ ws, Keep h h' ws ∧ ∀ x ∈ ws, x ∈ Ds)
    (X' : Stand C.p C.l C.e R (C.s.setVm vm0) C.m C.args C.below C.meth C.c B.U B.locs B.cells B.slots)
    (hq : ∃ (L : List Loc), Qb v B.U.heap L ∧ B.locs = locs ++ L ∧ B.cells = ce + kc ∧ B.slots = sl + ks)
    (st : ∀ t, Steps C.p.tables C.e C.below (B.U.setTop (mkF C.m pc' Ls (v.toList ++ rest))) t → Steps C.p.tables C.e C.below (T.setTop g) t) :
    ∃ (v : Option Value) (h' : Heap) (L : List Loc), Qb v h' L ∧ Rc C R own bs ml Z n0 (ce + kc) (sl + ks) pc' Ls (v.toList ++ rest) h' Ds := by
  obtain ⟨L, hQb, e1, e2, e3⟩ := hq
  obtain ⟨hFr, ws, K, hws⟩ := hQ _ _ _ hQb
  refine ⟨v, B.U.heap, L, hQb, B.U, B.locs, vm0, k0, ?_, h1, Nat.le_trans h2 K.1, h3, h4.keep K hws, rfl, ?_, h7, fun t ht => k _ (st _ ht)⟩
  · rw [← e2, ← e3]; exact X'
  · rw [e1]; exact Fr.app h6 hFr
theorem Rc.backI {pc' : Nat} {y : MethodName} {idx ml' W kc ks : Nat} {by' : ByteArray} {a : Addr} {argsL : List Value} {Qb : Option Value → Heap → List Loc → Prop} (H : Rc C R own bs ml Z n0 ce sl pc Ls S h Ds) (hy1 : y.name = "<init>")
    (hlink : (Jvm.Cond.methodLink own idx y).before a0 Z = true) (hinst : (Jvm.Cond.instanceMethod y).before a0 Z = true) (hcode : (Jvm.Cond.code y by' ml' none).before a0 Z = true) (hy : NoMH y)
    (K : ∀ s' : State, Z.Warmed39 s'.vm → Back C.l R C.p C.e C.below s' C.args y 3 W (fun P a' => a' = (.ref a :: argsL).toArray ∧ P.U.heap = h ∧ P.cells + kc ≤ R.cells ∧ P.slots + ks ≤ R.slots) (fun P _ v B => ∃ L, Qb v B.U.heap L ∧ B.locs = P.locs ++ L ∧ B.cells = P.cells + kc ∧ B.slots = P.slots + ks))
    (hQ : ∀ v h' L, Qb v h' L → Fr n0 L ∧ ∃ ws, Keep h h' ws ∧ ∀ x ∈ ws, x ∈ Ds) (hsz : Ls.size = ml) (hlen : ∀ sig, parseMethodDescriptor y.desc = some sig → argsL.length = sig.parameters.length) (hst : S = argsL.reverse ++ .ref a :: rest) (hW : (rest.map fun v => v.category).sum = W)
    (hd : decode bs pc = .ok (.invokespecial idx, 3)) (hce : ce + kc ≤ R.cells) (hsl : sl + ks ≤ R.slots) (hp : pc + 3 = pc') :
    ∃ (v : Option Value) (h' : Heap) (L : List Loc), Qb v h' L ∧ Rc C R own bs ml Z n0 (ce + kc) (sl + ks) pc' Ls (v.toList ++ rest) h' Ds := by
  subst hp hst
  obtain ⟨T, locs, vm0, k0, X, h1, h2, h3, h4, h5, h6, h7, k⟩ := H
  obtain ⟨v, vm₁, B, hw1, X', hq, st⟩ := X.specialBack h7.1 hy1 h7.2.2.2.1 (mvT (s := C.s.setVm vm0) h3 hlink) (mvT (s := C.s.setVm vm0) h3 hinst) (mvT (s := C.s.setVm vm0) h3 hcode) hy (K _ h3) (g := mkF C.m pc Ls (argsL.reverse ++ .ref a :: rest)) rfl (hsz.trans h7.2.2.1.symm) (Steps.refl _) hlen rfl (by show 2 * 0 + _ ≤ _; omega) (hb h7.2.1 hd) (fun vm₁ hw => ⟨rfl, h5, hce, hsl⟩)
  exact own_finB h1 h2 h3 h4 h6 h7 k hQ X' hq (fun t ht => st.trans ht)
theorem Rc.backV {pc' : Nat} {y z : MethodName} {Cc : String} {idx W kc ks : Nat} {a : Addr} {argsL : List Value} {Qb : Option Value → Heap → List Loc → Prop} (H : Rc C R own bs ml Z n0 ce sl pc Ls S h Ds)
    (hlink : (Jvm.Cond.methodLink own idx y).before a0 Z = true) (hdecl : (Jvm.Cond.declares y).before a0 Z = true) (hnf : ∀ s' : State, Z.Warmed39 s'.vm → NotFace s' y) (hsel : (Jvm.Cond.selects Cc y z).before a0 Z = true) (hinst : (Jvm.Cond.instanceMethod z).before a0 Z = true) (hy : NoMH y) (E : Exa Z h a Cc)
    (K : ∀ s' : State, Z.Warmed39 s'.vm → Back C.l R C.p C.e C.below s' C.args z 3 W (fun P a' => a' = (.ref a :: argsL).toArray ∧ P.U.heap = h ∧ P.cells + kc ≤ R.cells ∧ P.slots + ks ≤ R.slots) (fun P _ v B => ∃ L, Qb v B.U.heap L ∧ B.locs = P.locs ++ L ∧ B.cells = P.cells + kc ∧ B.slots = P.slots + ks))
    (hQ : ∀ v h' L, Qb v h' L → Fr n0 L ∧ ∃ ws, Keep h h' ws ∧ ∀ x ∈ ws, x ∈ Ds) (hsz : Ls.size = ml) (hlen : ∀ sig, parseMethodDescriptor y.desc = some sig → argsL.length = sig.parameters.length) (hst : S = argsL.reverse ++ .ref a :: rest) (hW : (rest.map fun v => v.category).sum = W)
    (hd : decode bs pc = .ok (.invokevirtual idx, 3)) (hce : ce + kc ≤ R.cells) (hsl : sl + ks ≤ R.slots) (hp : pc + 3 = pc') :
    ∃ (v : Option Value) (h' : Heap) (L : List Loc), Qb v h' L ∧ Rc C R own bs ml Z n0 (ce + kc) (sl + ks) pc' Ls (v.toList ++ rest) h' Ds := by
  subst hp hst
  obtain ⟨T, locs, vm0, k0, X, h1, h2, h3, h4, h5, h6, h7, k⟩ := H
  obtain ⟨cq, kq, qa, qb, qc⟩ := isOf (s := C.s.setVm vm0) h3 h5 E
  obtain ⟨v, vm₁, B, hw1, X', hq, st⟩ := X.virtualBack h7.1 (y := y) (z := z) h7.2.2.2.1 (mvT (s := C.s.setVm vm0) h3 hlink) (mvT (s := C.s.setVm vm0) h3 hdecl) (hnf _ h3) (mvT (s := C.s.setVm vm0) h3 hsel) (mvT (s := C.s.setVm vm0) h3 hinst) hy (K _ h3) qa qc (g := mkF C.m pc Ls (argsL.reverse ++ .ref a :: rest)) rfl (hsz.trans h7.2.2.1.symm) (Steps.refl _) hlen rfl (by show 2 * 0 + _ ≤ _; omega) (hb h7.2.1 hd) (fun vm₁ hw => ⟨rfl, h5, hce, hsl⟩)
  exact own_finB h1 h2 h3 h4 h6 h7 k hQ X' hq (fun t ht => st.trans ht)
/-! returns -/
theorem Rc.retX {Q : Option Value → Heap → List Addr → Prop} {v : Option Value} {kc ks : Nat} {Ds' : List Addr} (H : Rc C R own bs ml Z n0 ce sl pc Ls S h Ds) (hv : C.meth.sig.returnType = none → v = none)
    (f : ∀ (s T : State) (locs : List Loc) (fs : List Frame), Stand C.p C.l C.e R s C.m C.args C.below C.meth C.c T locs ce sl → C.p.tables.exec = Jvm.exec → C.c.code = bs → (∀ (f : JFrame) (acts : List Action), f.method = C.m → f.locked = none → f.entered = [] → (doReturn C.e (T.setTop f) acts v).1 = T.setFrames fs) → Steps C.p.tables C.e C.below (T.setTop (mkF C.m pc Ls S)) (T.setFrames fs))
    (hk : ce ≤ kc) (hs : sl ≤ ks) (hds : ∀ x ∈ Ds', x ∈ Ds) (hq : Q v h Ds') : Done C Z n0 Q kc ks := by
  obtain ⟨T, locs, vm0, k0, X, h1, h2, h3, h4, h5, h6, h7, k⟩ := H
  obtain ⟨fs, hr, hrun, hend, hE⟩ := X.leaveW h1 (by rw [h5]; exact h2) hv h7.2.2.2.2
  refine ⟨T.setFrames fs, .returned v, k _ (f _ T locs fs X h7.1 h7.2.1 hr), hrun, hend, v, locs, Ds', rfl, ?_, ?_, h6, hE.1, hE.2.1, hE.2.2.1, hE.2.2.2.mono hk hs⟩
  · show Q v T.heap Ds'
    rw [h5]; exact hq
  · show JJ Z n0 T.vm T.heap Ds'
    rw [h5]
    exact (JJ.warm (t := C.s.setVm vm0) h4 h3 X.warmed).less hds
theorem Rc.retI {Q : Option Value → Heap → List Addr → Prop} {z : Int32} {kc ks : Nat} {Ds' : List Addr} (H : Rc C R own bs ml Z n0 ce sl pc Ls (.int z :: rest) h Ds) (hret : C.meth.sig.returnType = some .int) (hd : decode bs pc = .ok (.ireturn, 1)) (hk : ce ≤ kc) (hs : sl ≤ ks) (hds : ∀ x ∈ Ds', x ∈ Ds) (hq : Q (some (.int z)) h Ds') : Done C Z n0 Q kc ks :=
  H.retX (v := some (.int z)) (fun e => by rw [hret] at e; cases e) (fun s T locs fs X hx hby hr => retOut X hx hret rfl (Or.inl ⟨rfl, Or.inl rfl, z, rfl⟩) (hb hby hd) hr) hk hs hds hq
theorem Rc.retN {Q : Option Value → Heap → List Addr → Prop} {z z' : Int32} {t : FieldType} {kc ks : Nat} {Ds' : List Addr} (H : Rc C R own bs ml Z n0 ce sl pc Ls (.int z :: rest) h Ds) (hret : C.meth.sig.returnType = some t) (ht : t = .boolean ∨ t = .byte ∨ t = .char ∨ t = .short) (hz : nar t z = z') (hd : decode bs pc = .ok (.ireturn, 1)) (hk : ce ≤ kc) (hs : sl ≤ ks) (hds : ∀ x ∈ Ds', x ∈ Ds) (hq : Q (some (.int z')) h Ds') : Done C Z n0 Q kc ks := by
  subst hz
  exact H.retX (v := some (.int (nar t z))) (fun e => by rw [hret] at e; cases e) (fun s T locs fs X hx hby hr => RoadKit.retN X hx hret ht (hb hby hd) hr) hk hs hds hq
theorem Rc.retA {Q : Option Value → Heap → List Addr → Prop} {w : Value} {t : FieldType} {kc ks : Nat} {Ds' : List Addr} (H : Rc C R own bs ml Z n0 ce sl pc Ls (w :: rest) h Ds) (hret : C.meth.sig.returnType = some t) (ht : t.isReference = true) (hn : narrow t w = w) (hw : w.isRef = true) (hd : decode bs pc = .ok (.areturn, 1)) (hk : ce ≤ kc) (hs : sl ≤ ks) (hds : ∀ x ∈ Ds', x ∈ Ds) (hq : Q (some w) h Ds') : Done C Z n0 Q kc ks :=
  H.retX (v := some w) (fun e => by rw [hret] at e; cases e) (fun s T locs fs X hx hby hr => retOut X hx hret hn (Or.inr (Or.inr (Or.inr (Or.inr ⟨rfl, ht, hw⟩)))) (hb hby hd) hr) hk hs hds hq
theorem Rc.retV {Q : Option Value → Heap → List Addr → Prop} {kc ks : Nat} {Ds' : List Addr} (H : Rc C R own bs ml Z n0 ce sl pc Ls [] h Ds) (hret : C.meth.sig.returnType = none) (hd : decode bs pc = .ok (.return_, 1)) (hk : ce ≤ kc) (hs : sl ≤ ks) (hds : ∀ x ∈ Ds', x ∈ Ds) (hq : Q none h Ds') : Done C Z n0 Q kc ks :=
  H.retX (v := none) (fun _ => rfl) (fun s T locs fs X hx hby hr => X.returnOut hx hret (hb hby hd) hr) hk hs hds hq
/-! Strings -/
abbrev STR0 : String := "java/lang/String"
def bytesOfCs (cs : List Int32) : List Value := (cs.map fun c => c.toInt8.toInt32).map Value.int
def IsStr (Z : State) (h : Heap) (a : Addr) (cs : List Int32) : Prop :=
  Exa Z h a "java/lang/String" ∧ Fld Z h a "java/lang/String" "coder" "B" (.int 0) ∧ (∀ c ∈ cs, ¬ c < 0 ∧ ¬ (255 : Int32) < c) ∧ cs.length ≤ 4000 ∧
    ∃ (t : Addr) (kb : ClassId), Fld Z h a "java/lang/String" "value" "[B" (.ref t) ∧ Arv Z h t kb .byte (Int32.ofNat cs.length) (bytesOfCs cs) (.int 0)
def NotB (Z : State) (h : Heap) (w : Addr) : Prop := ∀ (t : Addr) (kb : ClassId) (z : Int32) (vs : List Value) (d : Value), Arv Z h t kb .byte z vs d → t ≠ w
theorem notB_exa {Z : State} {h : Heap} {w : Addr} {Cc : String} {n : Nat} {a0 : Array Value} (E : Exa Z h w Cc) (wi : (Jvm.Cond.instantiable Cc n).before a0 Z = true) : NotB Z h w := fun t kb z vs d F e => (E.neArv F wi) e.symm
theorem notB_arv {Z : State} {h : Heap} {w : Addr} {k : ClassId} {ty : FieldType} {z : Int32} {vs : List Value} {dv : Value} (V : Arv Z h w k ty z vs dv) (hty : ty ≠ .byte) : NotB Z h w := fun t kb z' vs' d F e => by
  subst e
  obtain ⟨c1, A1, -⟩ := F
  obtain ⟨c2, A2, -⟩ := V
  cases A1.1.symm.trans A2.1
  obtain ⟨-, k1, p1, comp1, q1⟩ := A1.2.1
  obtain ⟨-, k2, p2, comp2, q2⟩ := A2.2.1
  cases p1.symm.trans p2
  rw [q1] at q2
  cases q2
  exact hty rfl
theorem notB_new {Z : State} {h : Heap} {w : Addr} (e : h.size ≤ w) : NotB Z h w := fun t kb z vs d F q => by subst q; exact absurd F.lt (Nat.not_lt.mpr e)
theorem IsStr.keep {Z : State} {h h' : Heap} {a : Addr} {cs : List Int32} {ws : List Addr} (F : IsStr Z h a cs) (K : Keep h h' ws) (q : a ∉ ws) (q' : ∀ w ∈ ws, NotB Z h w) : IsStr Z h' a cs := by
  obtain ⟨f1, f2, f3, f4, t, kb, f5, f6⟩ := F
  exact ⟨f1.keep K, f2.keep K q, f3, f4, t, kb, f5.keep K q, f6.keep K (fun m => q' t m t kb _ _ _ f6 rfl)⟩
theorem IsStr.ext {Z : State} {h h' : Heap} {a : Addr} {cs : List Int32} (F : IsStr Z h a cs) (E : Ext h h') : IsStr Z h' a cs := F.keep ((Keep.refl h []).ext E) (fun m => nomatch m) (fun w m => nomatch m)
theorem IsStr.lt {Z : State} {h : Heap} {a : Addr} {cs : List Int32} (F : IsStr Z h a cs) : a < h.size := F.1.lt
theorem byte_of (n : Nat) (h : n < 256) : Jvm.Lit.byteI n.toUInt16 = (Int32.ofNat n).toInt8.toInt32 := by
  have t : ∀ k : Fin 256, Jvm.Lit.byteI k.val.toUInt16 = (Int32.ofNat k.val).toInt8.toInt32 := by decide +kernel
  exact t ⟨n, h⟩
theorem chr_of (n : Nat) (h : n < 256) : ¬ Int32.ofNat n < 0 ∧ ¬ (255 : Int32) < Int32.ofNat n := by
  have t : ∀ k : Fin 256, ¬ Int32.ofNat k.val < 0 ∧ ¬ (255 : Int32) < Int32.ofNat k.val := by decide +kernel
  exact t ⟨n, h⟩
theorem Sx.slOf {Z T : State} {h : Heap} {Ds : List Addr} {a : Addr} {u : Array UInt16} (F : Sx Z h Ds a u) (hal : Z.vm.Alike T.vm) (e : T.heap = h) : SlOf T a u := by
  obtain ⟨q, cS, h1, h2, ⟨kS, k1, k2, k3⟩, h4, h5, -, -⟩ := F
  obtain ⟨kS', hk', ek⟩ := hal.2.2 _ _ k1
  exact ⟨q, cS, h1, Sl.carry (U := ({ Z with heap := h } : State)) hal (by rw [e]; exact h2.1.1) (by rw [e]; exact h2.1.2.2.2.2.2.2.2.2.2.1) h2, ⟨kS', hk', by rw [ek]; exact k2, by rw [ek]; exact k3⟩, by rw [hal.findClass]; exact h4, h5⟩
theorem Sx.of_in {Z T : State} {Ds : List Addr} {a : Addr} {u : Array UInt16} {lo hi : Nat} (F : SlIn lo hi T a u) (hal : T.vm.Alike Z.vm) (hlo : lo ≤ hi) (ha : hi ≤ a) (hD : ∀ x ∈ Ds, x < hi) : Sx Z T.heap Ds a u := by
  obtain ⟨q, cS, h1, h2, ⟨kS, k1, k2, k3⟩, h4, h5, h6⟩ := F
  obtain ⟨kS', hk', ek⟩ := hal.2.2 _ _ k1
  subst h1
  have hb : hi ≤ q.sd := by
    rcases h6 with ⟨x, -⟩ | ⟨-, y⟩
    · exact absurd (Nat.lt_of_lt_of_le x hlo) (Nat.not_lt.mpr ha)
    · exact y
  exact ⟨q, cS, rfl, Sl.carry (U' := ({ Z with heap := T.heap } : State)) hal h2.1.1 h2.1.2.2.2.2.2.2.2.2.2.1 h2, ⟨kS', hk', by rw [ek]; exact k2, by rw [ek]; exact k3⟩, by rw [hal.findClass]; exact h4, h5, fun m => absurd (hD _ m) (Nat.not_lt.mpr ha), fun m => absurd (hD _ m) (Nat.not_lt.mpr hb)⟩
theorem Sx.str {Z : State} {h : Heap} {Ds : List Addr} {a : Addr} {units : Array UInt16} {text : String} {cs : List Int32} (F : Sx Z h Ds a units) (htext : utf16ToString? units = some text) (hlat : ∀ c ∈ text.toList, c.toNat < 256) (hcs : text.toList.map (fun c => Int32.ofNat c.toNat) = cs) (hlen : cs.length ≤ 4000) : IsStr Z h a cs ∧ a ∉ Ds := by
  obtain ⟨q, cS, hqa, ⟨⟨s1, s2, s3, ⟨cv, kv, iv, s4, s4'⟩, ⟨cc, kc, ic, s5, s5'⟩, s6, s7, s8, s9, s10, s11, s12, s13, s14, s15, s16⟩, hfS, hcS⟩, ⟨kS, k1, k2, k3⟩, hB, hbyt, hn1, hn2⟩ := F
  subst hqa
  have hl := Jvm.ClassFile.lat_of_text htext hlat
  have eu : bytesOfCs cs = units.toList.map fun u => Value.int (Jvm.Lit.byteI u) := by
    rw [Jvm.ClassFile.units_of_text htext hlat, List.map_map, ← hcs]
    show List.map Value.int (List.map (fun c => c.toInt8.toInt32) (List.map (fun c => Int32.ofNat c.toNat) text.toList)) = _
    rw [List.map_map, List.map_map]
    refine List.map_congr_left fun c hc => ?_
    show Value.int ((Int32.ofNat c.toNat).toInt8.toInt32) = Value.int (Jvm.Lit.byteI c.toNat.toUInt16)
    rw [byte_of _ (hlat c hc)]
  have el : cs.length = units.size := by
    have := congrArg List.length eu
    simpa [bytesOfCs] using this
  have hsl : q.SA.slots = units.map fun u => Value.int (Jvm.Lit.byteI u) := by rw [hbyt, SBG.stringBytes_lat hl]; rfl
  have hsz : q.SA.slots.size = units.size := by rw [hsl, Array.size_map]
  have Hh : Has q.SA (bytesOfCs cs) (.int 0) := fun j hj => by
    have hj' : j < units.size := by omega
    rw [hsl, eu]; simp [hj']
  have n32 : (Int32.ofNat cs.length).toNatClampNeg = cs.length := by
    have t : (Int32.ofNat cs.length).toInt = (cs.length : Int) := Int32.toInt_ofNat_small (by omega)
    show (Int32.ofNat cs.length).toInt.toNat = cs.length
    omega
  have nneg : ¬ Int32.ofNat cs.length < 0 := by
    have t : (Int32.ofNat cs.length).toInt = (cs.length : Int) := Int32.toInt_ofNat_small (by omega)
    rw [Int32.lt_iff_toInt_lt]
    have z0 : (0 : Int32).toInt = 0 := rfl
    omega
  refine ⟨⟨⟨q.sC, kS, s1, by rw [hcS]; exact hfS, by rw [hcS]; exact k1, s3, fun _ => k3⟩, ⟨q.sC, cc, kc, ic, q.fSC, s1, s5, s7, s2, s3, s5', s9⟩, ?_, hlen, q.sd, q.SA.cls, ⟨q.sC, cv, kv, iv, q.fSV, s1, s4, s6, s2, s3, s4', s8⟩, ⟨q.SA, ⟨s10, s11, s12⟩, rfl, by rw [hsz, n32, el], nneg, Hh, fun j hj => ?_⟩⟩, hn1⟩
  · intro c hc
    rw [← hcs] at hc
    obtain ⟨ch, h1, rfl⟩ := List.mem_map.mp hc
    exact chr_of _ (hlat ch h1)
  · have e1 := s16 j hj
    have e2 := Hh j hj
    rw [SBG.getD_of e2] at e1
    exact e1
theorem own_atoms {Z s : State} {a0 args : Array Value} (hZ : Z.Warmed39 s.vm) (wS : ∀ a ∈ Bundle.stringAtoms, a.before a0 Z = true) : ∀ a ∈ Bundle.stringAtoms, a.before args s = true := fun d hd => by
  have q := wS d hd
  simp only [Bundle.stringAtoms, List.mem_cons, List.not_mem_nil, or_false] at hd
  rcases hd with rfl | rfl | rfl | rfl | rfl | rfl | rfl
  · exact mv hZ q
  · exact mv hZ q
  · exact mvA hZ q
  · exact mv hZ q
  · exact mv hZ q
  · exact mv hZ q
  · exact mv hZ q
theorem open_stays {s : State} {vm' : Vm} (hW : s.WarmedH vm') {c : ClassId} {k k' : Class} {cf : ClassFile} {idx : Nat} {text : String} (hk : s.vm.classes[c]? = some k) (hk' : vm'.classes[c]? = some k') (hcf : k.cf = some cf) (hnm : namesOf? cf.constantPool idx = some (.string text)) (ho : k.resolved[idx]? = some none) : k'.resolved[idx]? = some none := by
  obtain ⟨-, -, hfw⟩ := hW
  obtain ⟨k2, hk2, -, -, ee, -⟩ := hfw _ k hk
  cases hk2.symm.trans hk'
  rcases ee idx with e0 | ⟨-, r, -, hr⟩
  · exact e0.trans ho
  · exfalso
    cases r <;> simp [State.rightAt, hk, hcf, hnm] at hr
/-- 'ldc' of a String constant at the state at hand -/
theorem ldcNow {p : Program} {l : Launch} {e : Env} {R : Room} {s : State} {m : MethodId} {args : Array Value} {below : List Frame} {meth : Method} {c : Code} {T : State} {locs : List Loc} {cells slots : Nat}
    (X : Stand p l e R s m args below meth c T locs cells slots) (hexec : p.tables.exec = Jvm.exec) {own text : String} {index : Nat} (hown : T.vm.findClass own = some m.cls)
    (hlink : (Jvm.Cond.stringLink own index text).before args T = true) (hS : ∀ a ∈ Bundle.stringAtoms, a.before args T = true) (hheld : ConstHeldL T own index) (hlat : ∀ units : Array UInt16, utf16ToString? units = some text → units.all (· < 256) = true)
    {g : JFrame} (hg : g.method = m) (hdg : decode c.code g.pc = .ok (.ldc index, 2)) {n : Nat} (hn : 4 * text.toList.length ≤ n) (hbig : n ≤ 536870912) (hRcells : cells + 2 ≤ R.cells) (hRslots : slots + (n + 4) ≤ R.slots) :
    ∃ (a : Addr) (T₂ : State), Stand p l e R (s.setVm T₂.vm) m args below meth c T₂ locs (cells + 2) (slots + (n + 4)) ∧ s.Since T₂.vm T₂.heap.size ∧ (∃ k₂, T₂.vm.classes[m.cls]? = some k₂ ∧ k₂.resolved[index]? = some (some (.string a))) ∧
      (∀ a0, a0 < T.heap.size → T₂.heap[a0]? = T.heap[a0]?) ∧ T.heap.size ≤ T₂.heap.size ∧ T.Warmed39 T₂.vm ∧ T.Interned1 T₂ ∧ (T₂.vm.interned = T.vm.interned ∨ ∃ (units : Array UInt16) (a' : Addr), utf16ToString? units = some text ∧ T₂.vm.interned = T.vm.interned.push (units, a')) ∧
      (∃ units : Array UInt16, utf16ToString? units = some text ∧ SlIn T.heap.size T.heap.size T₂ a units) ∧
      ∀ target, Steps p.tables e below (T₂.setTop { g with pc := g.pc + 2, stack := .ref a :: g.stack }) target → Steps p.tables e below (T.setTop g) target := by
  obtain ⟨g₀, hf0⟩ := X.frames_eq
  have hcur : T.cur < T.threads.size := State.cur_lt_of_frames hf0
  obtain ⟨th, hth, -⟩ := State.frames_cons hf0
  have hF : (T.setFrames (.invoking m args :: below)).frames = .invoking m args :: below := State.frames_setFrames _ hcur
  have hme : (T.setFrames (.invoking m args :: below)).me.stackBytes = T.me.stackBytes := by
    simp [State.me, State.setFrames, Array.getElem_modify, hcur]
  have hlim : e.platform.stackLimits (T.setFrames (.invoking m args :: below)).me = e.platform.stackLimits T.me := by
    show e.platform.limitsFor _ = e.platform.limitsFor _
    rw [hme]
  have hroom : (T.setFrames (.invoking m args :: below)).hasRoom e.platform ({ R with cells := R.cells - cells, slots := R.slots - slots } : Room) = true := by
    have h0 := X.room
    have hb := X.book
    have hsz := X.heapSize
    have hus := X.used
    have hU : (T.setFrames (.invoking m args :: below)).localsInUse = s.localsInUse := by
      rw [State.localsInUse_invoking hF (show (T.setFrames (.invoking m args :: below)).vm.method? m = some meth from X.method') X.code, State.localsInUse_invoking X.frames X.method X.code]
    have hfl : (T.setFrames (.invoking m args :: below)).frames.length = s.frames.length := by rw [hF, X.frames]
    unfold State.hasRoom at h0 ⊢
    rw [hU, hfl, hlim, X.limits, hme, X.bytes]
    simp only [Bool.and_eq_true, decide_eq_true_eq] at h0 ⊢
    obtain ⟨⟨⟨⟨q1, q2⟩, q3⟩, q4⟩, q5⟩ := h0
    refine ⟨⟨⟨⟨q1, q2⟩, ?_⟩, ?_⟩, hb⟩
    · show T.heap.size + (R.cells - cells) ≤ _
      omega
    · show T.slotsUsed + (R.slots - slots) ≤ _
      omega
  have hhears : (T.setFrames (.invoking m args :: below)).hears m below = true := by
    have h0 := X.hears
    have hmeth : ∀ mm : MethodId, (T.setFrames (.invoking m args :: below)).vm.method? mm = s.vm.method? mm := fun mm => X.warmed.alike.method? mm
    have hcode : ∀ mm : MethodId, (T.setFrames (.invoking m args :: below)).code? mm = s.code? mm := fun mm => by rw [State.code?_eq, State.code?_eq, hmeth]
    cases hb : below with
    | nil => rw [hb] at h0 hmeth; simp only [State.hears] at h0 ⊢; rw [hmeth]; exact h0
    | cons f r =>
      rw [hb] at h0 hmeth hcode
      cases f <;> simp only [State.hears] at h0 ⊢ <;> first | (rw [hcode]; exact h0) | (rw [hmeth]; exact h0) | exact h0
  have hsame : (T.setFrames (.invoking m args :: below)).sameButNew (T.setVm (T.setFrames (.invoking m args :: below)).vm) [] 0 0 := by
    have hd0 : T.heap.toList.drop T.heap.size = [] := List.drop_eq_nil_of_le (by simp)
    refine ⟨?_, Nat.le_refl _, Nat.le_refl _, ?_, ?_, fun a cl hcl => ⟨cl, hcl, rfl, rfl, fun _ _ => rfl⟩⟩
    · show T = { (T.setFrames (.invoking m args :: below)).setFrames T.frames with heap := T.heap, slotsUsed := T.slotsUsed }
      rw [State.setFrames_setFrames, State.setFrames_self hth]
    · show T.slotsUsed = T.slotsUsed + ((T.heap.toList.drop T.heap.size).map (·.slots.size)).sum
      rw [hd0]; rfl
    · show ((T.heap.toList.drop T.heap.size).map (·.slots.size)).sum ≤ 0
      rw [hd0]; exact Nat.le_refl _
  have X' : Stand p l e ({ R with cells := R.cells - cells, slots := R.slots - slots } : Room) (T.setFrames (.invoking m args :: below)) m args below meth c T [] 0 0 :=
    ⟨X.admits, X.cas, X.clock, hF, hroom, hhears, X.method', X.code, X.here, X.tail, State.WarmedH.refl (T.setFrames (.invoking m args :: below)), hlim.symm, hme.symm, hsame⟩
  obtain ⟨a, T₂, X2, hS2, hres, hkeep, hint1, hint, hin, st⟩ := X'.ldcColdF (fun b cl h => h) hexec (own := own) (text := text) (index := index) hown hlink (own_atoms (Z := T) (s := T.setFrames (.invoking m args :: below)) (State.Warmed39.refl T) hS) hheld hlat hg hdg hn hbig (by show 0 + 2 ≤ R.cells - cells; omega) (by show 0 + (n + 4) ≤ R.slots - slots; omega)
  have hsm : T.sameButNew (T₂.setVm T.vm) [] 2 (n + 4) := by
    have q := X2.same.setVm T.vm
    obtain ⟨r1, r2, r3, r4, r5, r6⟩ := q
    refine ⟨?_, r2, by simpa using r3, r4, by simpa using r5, r6⟩
    refine r1.trans ?_
    show ({ (T.setFrames (.invoking m args :: below)).setFrames T₂.frames with heap := T₂.heap, slotsUsed := T₂.slotsUsed } : State) = _
    rw [State.setFrames_setFrames]
    rfl
  obtain ⟨Y, hSY⟩ := X.movedW (T₂ := T₂) X2.here X2.tail (X2.limits.trans hlim) (X2.bytes.trans hme) hS2.1 hS2.2 hsm
  rw [List.append_nil] at Y
  exact ⟨a, T₂, Y, hSY, hres, hkeep, hint1.1, hS2.1, hint1, hint, hin, st⟩
theorem Rc.ldcS {pc' idx n : Nat} {text : String} {cs : List Int32} (H : Rc C R own bs ml Z n0 ce sl pc Ls S h Ds) (hm : (own, idx) ∈ CL) (w : (Jvm.Cond.stringLink own idx text).before a0 Z = true) (hlat : ∀ c ∈ text.toList, c.toNat < 256) (hcs : text.toList.map (fun c => Int32.ofNat c.toNat) = cs) (hlen : cs.length ≤ 4000)
    (hd : decode bs pc = .ok (.ldc idx, 2)) (hn : 4 * text.toList.length ≤ n) (hbig : n ≤ 536870912) (hc : ce + 2 ≤ R.cells) (hl : sl + (n + 4) ≤ R.slots) (hp : pc + 2 = pc') :
    ∃ (h' : Heap) (a : Addr), Ext h h' ∧ IsStr Z h' a cs ∧ a ∉ Ds ∧ Rc C R own bs ml Z n0 (ce + 2) (sl + (n + 4)) pc' Ls (.ref a :: S) h' Ds := by
  subst hp
  obtain ⟨T, locs, vm0, k0, X, h1, h2, h3, h4, h5, h6, h7, k⟩ := H
  obtain ⟨aS, -, -, -, wS⟩ := h4.2.2.2.1 own idx hm
  have hownB : (C.s.setVm vm0).vm.findClass own = some C.m.cls := h7.2.2.2.1
  have wB : (Jvm.Cond.stringLink own idx text).before C.args (C.s.setVm vm0) = true := mvS (s := C.s) h3 w
  obtain ⟨kB, cf, i, units, hkB, hcf, hpB, hu, hnm, htext, hres⟩ := Cond.stringLink_spec hownB wB
  rcases hres with hopen | ⟨a, hra⟩
  · -- open: the rebased cold law
    have hZT : Z.Warmed39 T.vm := State.Warmed39.trans (t := C.s.setVm vm0) h3 X.warmed.wide
    have JT : JJ Z n0 T.vm h Ds := JJ.warm (t := C.s.setVm vm0) h4 h3 X.warmed
    have hownT : T.vm.findClass own = some C.m.cls := by rw [X.warmed.alike.findClass]; exact hownB
    have wT : (Jvm.Cond.stringLink own idx text).before C.args T = true := mvS (s := T) (vm0 := T.vm) hZT w
    have hheld : ConstHeldL T own idx := fun c k cf i units a q1 q2 q3 q4 q5 q6 => (JT.2.2.2.2 own idx hm c k cf i units a q1 q2 q3 q4 q5 q6).slOf hZT.alike h5
    obtain ⟨a, T₂, X2, hS2, ⟨kk, hkk, hrr⟩, hkeep, hgr, hW2, hint1, hint, ⟨us, htu, hin⟩, st⟩ := ldcNow X h7.1 hownT wT (own_atoms hZT wS) hheld (fun units hu => Jvm.ClassFile.lat_of_text hu hlat) (g := mkF C.m pc Ls S) rfl (hb h7.2.1 hd) hn hbig hc hl
    have E : Ext h T₂.heap := by rw [← h5]; exact ext_of hkeep
    have sameU : ∀ u v : Array UInt16, utf16ToString? u = some text → utf16ToString? v = some text → u = v := fun u v hu hv => by
      apply Array.toList_inj.mp
      rw [Jvm.ClassFile.units_of_text hu hlat, Jvm.ClassFile.units_of_text hv hlat]
    -- the entry, as T and as T₂ have it
    obtain ⟨kT, cfT, iT, unT, hkT, hcfT, hpT, huT, hnmT, htT, hresT⟩ := Cond.stringLink_spec hownT wT
    obtain ⟨k2, hk2, hke2, -, ee2, -⟩ := hW2.2.2.2 _ kT hkT
    cases hk2.symm.trans hkk
    have hcl : NL = true → Z.WarmedH T₂.vm := fun e => by first | exact absurd e (by decide) | exact absurd hm (List.not_mem_nil)
    have hintJ : T₂.vm.interned = T.vm.interned ∨ ∃ (u : Array UInt16) (a' : Addr), T₂.vm.interned = T.vm.interned.push (u, a') ∧ (T.vm.interned.find? (fun p => p.1 == u) = none → Sx Z T₂.heap Ds a' u) := by
      rcases hint with e | ⟨u, a', hu', e⟩
      · exact Or.inl e
      · refine Or.inr ⟨u, a', e, fun hnone => ?_⟩
        have ha' : T.heap.size ≤ a' := by
          rcases hint1.2 with q | ⟨u2, a2, q, r1, -⟩
          · rw [q] at e
            have := congrArg Array.size e
            simp at this
          · have := q.symm.trans e
            have := Array.push_inj_right.mp this
            cases this
            exact r1
        -- a is a'
        have hopT : kT.resolved[idx]? = some none := open_stays X.warmed hkB hkT hcf hnm hopen
        have eu : u = unT := sameU _ _ hu' htT
        have eus : us = u := sameU _ _ htu hu'
        have haa : a = a' := by
          rcases ee2 idx with e0 | ⟨-, r, e1, hr | ⟨a3, t3, si, us3, rfl, -, z3, z4, z5⟩⟩
          · have := (e0.trans hopT).symm.trans hrr
            simp at this
          · exfalso
            cases r <;> simp [State.rightAt, hkT, hcfT, hnmT] at hr
          · rw [hcfT] at z3 z4
            have e3 : si = iT := by
              have := z3.symm.trans hpT
              simpa using this
            subst e3
            have e4 : us3 = unT := by simpa [ConstantPool.utf8?, huT] using z4.symm
            subst e4
            have ea : a3 = a := by have := e1.symm.trans hrr; simpa using this
            subst ea
            rw [e, Array.find?_push, ← eu, hnone, Option.none_or] at z5
            simp at z5
            exact z5.symm
        subst haa
        rw [← eus]
        exact Sx.of_in hin (State.Warmed39.trans hZT hW2).alike.symm (Nat.le_refl _) ha' (fun x hx => by rw [h5]; exact (h4.2.2.1 x hx).2)
    have J2 : JJ Z n0 T₂.vm T₂.heap Ds := (JT.ext E).step hZT hW2 hintJ hcl
    have hcf2 : kk.cf = some cfT := by rw [hke2]; exact hcfT
    have hown2 : T₂.vm.findClass own = some C.m.cls := by rw [hW2.alike.findClass]; exact hownT
    have SX := J2.2.2.2.2 own idx hm _ kk cfT iT unT a hown2 hkk hcf2 hpT huT (Or.inl hrr)
    obtain ⟨hstr, hnin⟩ := SX.str htT hlat hcs hlen
    exact ⟨T₂.heap, a, E, hstr, hnin, T₂, locs, T₂.vm, T₂.heap.size, X2, h1.trans hS2 (Nat.le_trans h2 E.1), Nat.le_refl _, State.Warmed39.trans hZT hW2, J2, rfl, h6, ⟨h7.1, h7.2.1, h7.2.2.1, hown2, h7.2.2.2.2⟩, fun t ht => k _ (st _ ht)⟩
  · -- resolved already
    have SX := h4.2.2.2.2 own idx hm _ kB cf i units a hownB hkB hcf hpB hu (Or.inl hra)
    obtain ⟨hstr, hnin⟩ := SX.str htext hlat hcs hlen
    have L : Lit (C.s.setVm vm0) own idx a := by
      have hkB' : vm0.classes[C.m.cls]? = some kB := hkB
      have hown' : vm0.findClass own = some C.m.cls := hownB
      simp [Lit, State.resolvedAt?, State.setVm, hown', hkB', hra]
    have st := ldcAgain X h7.1 h3 h7.2.2.2.1 w L (g := mkF C.m pc Ls S) rfl (hb h7.2.1 hd)
    exact ⟨h, a, ⟨Nat.le_refl _, fun _ _ q => q⟩, hstr, hnin, T, locs, vm0, k0, X.mono (by omega) (by omega), h1, h2, h3, h4, h5, h6, h7, fun t ht => k _ (st _ ht)⟩
theorem own_sx0 {s : State} {a : Addr} {units : Array UInt16} (F : SlOf s a units) : Sx s s.heap [] a units := by
  obtain ⟨q, cS, h1, h2, h3, h4, h5⟩ := F
  exact ⟨q, cS, h1, h2, h3, h4, h5, by simp, by simp⟩
theorem ch0 : ∀ c ∈ ([] : List Int32), ¬ c < 0 ∧ ¬ (255 : Int32) < c := fun c hc => nomatch hc
theorem chS {x : Int32} {cs : List Int32} (p : ¬ x < 0 ∧ ¬ (255 : Int32) < x) (q : ∀ c ∈ cs, ¬ c < 0 ∧ ¬ (255 : Int32) < c) : ∀ c ∈ x :: cs, ¬ c < 0 ∧ ¬ (255 : Int32) < c := fun c hc => by
  rcases List.mem_cons.mp hc with e | e
  · rw [e]; exact p
  · exact q c e
def bi (b : Bool) : Int32 := if b then 1 else 0
theorem bi_nar (b : Bool) : nar .boolean (bi b) = bi b := by cases b <;> rfl
theorem memS {n : Addr} {Ns Ds : List Addr} (h : n ∈ Ds) (f : ∀ x ∈ Ns, x ∈ Ds) : ∀ x ∈ n :: Ns, x ∈ Ds := fun x hx => by
  rcases List.mem_cons.mp hx with e | e
  · rw [e]; exact h
  · exact f x e
theorem own_toInt {x : Int32} (h : ¬ x < 0 ∧ ¬ (255 : Int32) < x) : 0 ≤ x.toInt ∧ x.toInt ≤ 255 := by
  obtain ⟨h1, h2⟩ := h
  rw [Int32.lt_iff_toInt_lt] at h1 h2
  have e0 : (0 : Int32).toInt = 0 := rfl
  have e1 : (255 : Int32).toInt = 255 := rfl
  omega
theorem ofFin {x : Int32} (h : ¬ x < 0 ∧ ¬ (255 : Int32) < x) : ∃ k : Fin 256, x = Int32.ofNat k.val := by
  have b := own_toInt h
  refine ⟨⟨x.toInt.toNat, by omega⟩, ?_⟩
  apply Int32.toInt_inj.mp
  rw [Int32.toInt_ofNat_of_lt (by show x.toInt.toNat < _; omega)]
  show x.toInt = (x.toInt.toNat : Int)
  omega
theorem nar_of {x : Int32} (h : ¬ x < 0 ∧ ¬ (255 : Int32) < x) : nar .char x = x := by
  obtain ⟨k, rfl⟩ := ofFin h
  revert k; decide +kernel
theorem own_nr {ty : FieldType} {v : Value} (ht : ty.isReference = true) (hv : v.isRef = true) : narrow ty v = v := by
  rcases ref_cases hv with rfl | ⟨_, rfl⟩ <;> cases ty <;> first | rfl | cases ht
theorem own_fr {ty : FieldType} {v : Value} (ht : ty.isReference = true) (hv : v.isRef = true) : fits ty v = true := by
  rcases ref_cases hv with rfl | ⟨_, rfl⟩ <;> cases ty <;> first | rfl | cases ht
theorem own_nsroot {Z : State} {a0 : Array Value} {O K : String} {n : Nat} (w : (Jvm.Cond.noSuperclass O).before a0 Z = true) (wi : (Jvm.Cond.instantiable K n).before a0 Z = true) (hn : O ≠ K) : NS Z O K := by
  obtain ⟨c, k, h1, h2, h3, -, -⟩ := Cond.noSuperclass_spec w
  obtain ⟨t, kt, g1, -⟩ := Cond.instantiable_spec wi
  have ne := ids_ne h1 g1 hn
  refine ⟨c, t, h1, g1, fun fuel => ?_⟩
  cases fuel with
  | zero => rfl
  | succ f => simp [Vm.isSubclassAux, ne, h2, h3]
theorem own_nsno {Z : State} {a0 : Array Value} {Cc S K : String} {m : Nat} (w : (Jvm.Cond.superclass Cc S).before a0 Z = true) (wi : (Jvm.Cond.instantiable K m).before a0 Z = true) (n : NS Z Cc K) (hn : Cc ≠ K) : ∃ c t, Z.vm.findClass Cc = some c ∧ Z.vm.findClass K = some t ∧ Z.vm.assignable c t = false := by
  obtain ⟨c, t, h0, g0, n3⟩ := n
  obtain ⟨p, k, kp, h1, h2, h3, h4, h5, -, h7⟩ := Cond.superclass_spec h0 w
  obtain ⟨t', k', g1, g2, g5, g7, -⟩ := Cond.instantiable_spec wi
  cases g0.symm.trans g1
  have g8 : k'.isInterface = false := by simp only [Bool.or_eq_false_iff] at g7; exact g7.1
  have ne := ids_ne h0 g0 hn
  refine ⟨c, t, h0, g0, ?_⟩
  show Z.vm.assignableAux (255 + 1) c t = false
  simp [Vm.assignableAux, ne, h2, g2, h5, g5, g8, Vm.isSubclass, n3]
/-! clones of arrays; more steps -/
theorem arv_of_arh {Z : State} {h : Heap} {a : Addr} {k : ClassId} {ty : FieldType} {z : Int32} {vs : List Value} {dv : Value} (F : Arh Z h a k ty z [] vs dv) : Arv Z h a k ty z vs dv := F
theorem Rc.clone {pc' idx W cap : Nat} {ad : String} {a : Addr} {kA : ClassId} {ty : FieldType} {z : Int32} {vs : List Value} {dv : Value} (H : Rc C R own bs ml Z n0 ce sl pc Ls (.ref a :: rest) h Ds)
    (w1 : (Jvm.Cond.methodLink own idx ⟨ad, "clone", "()Ljava/lang/Object;"⟩).before a0 Z = true) (w2 : (Jvm.Cond.sameMethod ad "java/lang/Object" "clone" "()Ljava/lang/Object;").before a0 Z = true) (w3 : (Jvm.Cond.native ⟨"java/lang/Object", "clone", "()Ljava/lang/Object;"⟩).before a0 Z = true)
    (w4 : (Jvm.Cond.instanceMethod ⟨"java/lang/Object", "clone", "()Ljava/lang/Object;"⟩).before a0 Z = true) (w5 : (Jvm.Cond.selects ad ⟨ad, "clone", "()Ljava/lang/Object;"⟩ ⟨"java/lang/Object", "clone", "()Ljava/lang/Object;"⟩).before a0 Z = true) (w6 : (Jvm.Cond.castable ad "java/lang/Cloneable").before a0 Z = true)
    (V : Arv Z h a kA ty z vs dv) (E : Exa Z h a ad) (hsz : Ls.size = ml) (hd : decode bs pc = .ok (.invokevirtual idx, 3)) (hf : 1 ≤ R.frames) (hW : (rest.map fun v => v.category).sum = W) (hl : W + 14 ≤ R.locals) (hcap : z.toNatClampNeg ≤ cap) (hc : ce + 1 ≤ R.cells) (hsl : sl + cap ≤ R.slots) (hp : pc + 3 = pc') :
    ∃ (h' : Heap) (b : Addr), b = h.size ∧ Ext h h' ∧ Arv Z h' b kA ty z vs dv ∧ Exa Z h' b ad ∧ Rc C R own bs ml Z n0 (ce + 1) (sl + cap) pc' Ls (.ref b :: rest) h' (b :: Ds) := by
  subst hp
  obtain ⟨T, locs, vm0, k0, X, h1, h2, h3, h4, h5, h6, h7, k⟩ := H
  obtain ⟨T', h', X', e', E', A', F', st⟩ := RoadKit.cloneH X h7.1 (Z := Z) h3 h7.2.2.2.1 w1 w2 w3 w4 w5 w6 h5 V.arh E (g := mkF C.m pc Ls (.ref a :: rest)) rfl (hsz.trans h7.2.2.1.symm) rfl (hb h7.2.1 hd) hf (W := W) (by show 2 * 0 + _ ≤ _; omega) hl hcap hc hsl
  exact ⟨h', h.size, rfl, E', arv_of_arh A', F', T', _, vm0, k0, X', h1, Nat.le_trans h2 E'.1, h3, h4.born E' F'.lt, e', h6, h7, fun t ht => k _ (st _ ht)⟩
theorem Rc.ldc2L {pc' idx : Nat} {v : Int64} (H : Rc C R own bs ml Z n0 ce sl pc Ls S h Ds) (w : (Jvm.Cond.constantLong own idx v).before a0 Z = true) (hd : decode bs pc = .ok (.ldc2_w idx, 3)) (hp : pc + 3 = pc') : Rc C R own bs ml Z n0 ce sl pc' Ls (.long v :: S) h Ds := by
  subst hp
  exact H.goX fun s T locs t X hZ hown eT hx hby kk => X.ldc2Long hx hown (mvT hZ w) (g := mkF C.m pc Ls S) rfl (hb hby hd) _ kk
theorem Rc.ldcI {pc' idx : Nat} {v : Int32} (H : Rc C R own bs ml Z n0 ce sl pc Ls S h Ds) (w : (Jvm.Cond.constant own idx v).before a0 Z = true) (hd : decode bs pc = .ok (.ldc idx, 2)) (hp : pc + 2 = pc') : Rc C R own bs ml Z n0 ce sl pc' Ls (.int v :: S) h Ds := by
  subst hp
  exact H.goX fun s T locs t X hZ hown eT hx hby kk => X.ldcInt hx hown (mvT hZ w) (g := mkF C.m pc Ls S) rfl (hb hby hd) _ kk
/-! the case's words, read -/
section GivenWords
variable {s : State} {args : Array Value} {t u : Term} {a b : Addr} {cl : Cell} {ty : FieldType} {i k : Int32} {v : Value} {Cc n d : String}
theorem g_int (h : (Jvm.Cond.eq t (.int k)).value args s none s [] = some true) : t.eval args s none [] s = some (.int k) := Cond.eq_int (Cond.before_iff.mpr h) rfl
theorem g_ref (h : (Jvm.Cond.eq t u).value args s none s [] = some true) (hu : u.eval args s none [] s = some (.ref b)) : t.eval args s none [] s = some (.ref b) := by
  obtain ⟨x, y, h1, h2, h3, h4⟩ := cmp_v (Or.inl h)
  rw [hu] at h2
  cases h2
  have hx : x.isRef = true := by
    cases x <;> simp_all [Kin, Value.isRef]
  have q := gotT (eq_R h1 hu hx rfl) h
  rw [h1, q]
theorem g_fld (ht : t.eval args s none [] s = some (.ref a)) (e : (Term.field t Cc n d).eval args s none [] s = some v) : Fld s s.heap a Cc n d v := Fld.start (by rw [← fld_at (args := args) (first := s) (o := none) (idx := []) (C := Cc) (n := n) (dd := d) ht]; exact e)
theorem g_elem (e : (Term.elem t (.int i)).eval args s none [] s = some v) (ht : t.eval args s none [] s = some (.ref a)) (A : Arr s s.heap a cl ty) : cl.slots[i.toNatClampNeg]? = some v := (elem_in e ht rfl A.1).2
theorem g_len (e : (Term.length t).eval args s none [] s = some (.int k)) (ht : t.eval args s none [] s = some (.ref a)) (A : Arr s s.heap a cl ty) : cl.slots.size < 2 ^ 31 ∧ cl.slots.size.toInt32 = k := by
  have ha : s.arrayAt? a = some cl := A.fin (own_al s)
  have hl : cl.slots.size < 2 ^ 31 := SBG.length_lt ht ha e
  have q := len_f ht ha hl
  rw [q] at e
  exact ⟨hl, by simpa using e⟩
theorem g_str {cs : List Int32} {kb : ClassId} {b' : Addr} (X : Exa s s.heap a "java/lang/String") (Fc : Fld s s.heap a "java/lang/String" "coder" "B" (.int 0)) (Fv : Fld s s.heap a "java/lang/String" "value" "[B" (.ref b')) (V : Arv s s.heap b' kb .byte (Int32.ofNat cs.length) (bytesOfCs cs) (.int 0)) (h1 : ∀ c ∈ cs, ¬ c < 0 ∧ ¬ (255 : Int32) < c) (h2 : cs.length ≤ 4000) : IsStr s s.heap a cs := ⟨X, Fc, h1, h2, b', kb, Fv, V⟩
end GivenWords
/-! iaload; a call of a private instance method -/
theorem Rc.iaload {pc' : Nat} {a : Addr} {j z : Int32} {v : Value} {kA : ClassId} {vs : List Value} {dv : Value} (H : Rc C R own bs ml Z n0 ce sl pc Ls (.int j :: .ref a :: rest) h Ds) (V : Arv Z h a kA .int z vs dv) (hj : ¬ j < 0 ∧ j < z) (hv : vs.getD j.toNatClampNeg dv = v) (hd : decode bs pc = .ok (.iaload, 1)) (hp : pc + 1 = pc') : Rc C R own bs ml Z n0 ce sl pc' Ls (v :: rest) h Ds := by
  subst hp
  obtain ⟨cl, Ar, q1, q2, q3, q4, q5⟩ := V
  exact H.goX fun s T locs t X hZ hown eT hx hby kk => X.iaload hx (j := j) (v := v) (by rw [eT]; exact Ar.1) (State.isArrayOf_alike hZ.alike Ar.2.1) Ar.2.2 (inb_of q2 hj) (q4.at (inb_of q2 hj) hv) (g := mkF C.m pc Ls (.int j :: .ref a :: rest)) rfl rfl (hb hby hd) _ kk
theorem Rc.callP {pc' : Nat} {y : MethodName} {idx ml' W : Nat} {by' : ByteArray} {ret' : Option FieldType} {rm : Room} {a : Addr} {argsL : List Value} {Q : Option Value → Heap → List Addr → Prop} (H : Rc C R own bs ml Z n0 ce sl pc Ls S h Ds)
    (hlink : (Jvm.Cond.methodLink own idx y).before a0 Z = true) (hpriv : (Jvm.Cond.privateMethod y).before a0 Z = true) (hsel : (Jvm.Cond.selects y.cls y y).before a0 Z = true) (hinst : (Jvm.Cond.instanceMethod y).before a0 Z = true) (hinit : (Jvm.Cond.initialized y.cls).before a0 Z = true) (hcode : (Jvm.Cond.code y by' ml' ret').before a0 Z = true) (hy : NoMH y)
    (E : Exa Z h a y.cls) (K : Ctr C.l Z y by' ml' ret' [] rm (.ref a :: argsL).toArray h n0 Ds Q) (hsz : Ls.size = ml) (hlen : ∀ sig, parseMethodDescriptor y.desc = some sig → argsL.length = sig.parameters.length) (hst : S = argsL.reverse ++ .ref a :: rest) (hW : (rest.map fun v => v.category).sum = W)
    (hd : decode bs pc = .ok (.invokevirtual idx, 3)) (hfr : rm.frames + 1 ≤ R.frames) (hlo : W + (ml' + 11) + rm.locals ≤ R.locals) (hce : ce + rm.cells ≤ R.cells) (hsl : sl + rm.slots ≤ R.slots) (hp : pc + 3 = pc') :
    ∃ (v : Option Value) (h' : Heap) (Ds' : List Addr), Q v h' Ds' ∧ Rc C R own bs ml Z n0 (ce + rm.cells) (sl + rm.slots) pc' Ls (v.toList ++ rest) h' Ds' := by
  subst hp hst
  obtain ⟨T, locs, vm0, k0, X, h1, h2, h3, h4, h5, h6, h7, k⟩ := H
  obtain ⟨cq, kq, qa, qb, ⟨cellB, hcellT, hclsB, hstatB⟩⟩ := isOf (s := C.s.setVm vm0) h3 h5 E
  obtain ⟨v, vm₁, B, hw1, X', hS', hgr, hq, st⟩ := X.privateBackS h7.1 (y := y) h7.2.2.2.1 (mvT (s := C.s.setVm vm0) h3 hlink) (mvT (s := C.s.setVm vm0) h3 hinst) (mvT (s := C.s.setVm vm0) h3 hsel) (Cond.privateMethod_at (args := C.args) (mvT (s := C.s.setVm vm0) h3 hpriv)) (mvT (s := C.s.setVm vm0) h3 hcode) hy (ctrBack (s := C.s.setVm vm0) (W := W) K h3 h4 hcode hinit hfr hlo) (g := mkF C.m pc Ls (argsL.reverse ++ .ref a :: rest)) rfl (hsz.trans h7.2.2.1.symm) (Steps.refl _) hcellT (fun z h => by rw [h] at hstatB; cases hstatB) hlen rfl (by show 2 * 0 + _ ≤ _; omega) (hb h7.2.1 hd) (fun vm₁ hw => ⟨rfl, h5, hce, hsl⟩)
  exact own_fin h1 h2 h3 h5 h6 h7 k X' hS' hgr hq st
/-! calls of a superclass's method; of a private method on a subclass's object; System.arraycopy of bytes -/
theorem own_decl {y : MethodName} {by' : ByteArray} {ml' : Nat} {ret' : Option FieldType} (wi : (Jvm.Cond.instanceMethod y).before a0 Z = true) (wc : (Jvm.Cond.code y by' ml' ret').before a0 Z = true) : (Jvm.Cond.declares y).before a0 Z = true := by
  obtain ⟨mk, methM, hnamed, hmethM, hstM, habM⟩ := Cond.instanceMethod_spec wi
  obtain ⟨m2, cM, q1, -, -, -, -, -, -, hsig⟩ := Cond.code_spec hnamed wc
  cases hmethM.symm.trans q1
  simp [Cond.before, Cond.holds, Cond.value, hnamed, hmethM, hstM, hsig]
theorem own_nf {s : State} {args : Array Value} {y y' : MethodName} {Cc : String} (ws : (Jvm.Cond.selects Cc y' y').before args s = true) (hc : y'.cls = y.cls) : NotFace s y := fun r0 h0 => by
  obtain ⟨c2, r2, m2, q1, q2, q3, q4, kP, hkP, hkPi⟩ := Cond.selects_spec ws
  have a1 := findClass_of_methodNamed h0
  have a2 := findClass_of_methodNamed q3
  rw [hc, a1] at a2
  have e := Option.some.inj a2
  exact ⟨kP, by rw [e]; exact hkP, hkPi⟩
theorem own_same {y y' : MethodName} {Cc : String} (wi : (Jvm.Cond.instanceMethod y).before a0 Z = true) (ws : (Jvm.Cond.selects Cc y' y').before a0 Z = true) (hc : y'.cls = y.cls) (hy : NoMH y) : (Jvm.Cond.sameMethod y.cls y.cls y.name y.desc).before a0 Z = true := by
  obtain ⟨mk, methM, hnamed, hmethM, hstM, habM⟩ := Cond.instanceMethod_spec wi
  have hf := State.methodFound?_of_named hnamed hy
  have hcn := findClass_of_methodNamed hnamed
  obtain ⟨kp, hp, hpi⟩ := own_nf ws hc mk hnamed
  have hn' : Z.methodNamed? ⟨y.cls, y.name, y.desc⟩ = some mk := hnamed
  simp [Cond.before, Cond.holds, Cond.value, hcn, hf, hn', hp, hpi]
theorem Rc.callSup {pc' : Nat} {y : MethodName} {Cc : String} {idx ml' W : Nat} {by' : ByteArray} {ret' : Option FieldType} {rm : Room} {a : Addr} {argsL : List Value} {Q : Option Value → Heap → List Addr → Prop} (H : Rc C R own bs ml Z n0 ce sl pc Ls S h Ds) (hn : y.name ≠ "<init>")
    (hlink : (Jvm.Cond.methodLink own idx y).before a0 Z = true) (hsame : (Jvm.Cond.sameMethod y.cls y.cls y.name y.desc).before a0 Z = true) (hsup : (Jvm.Cond.superclass own y.cls).before a0 Z = true) (hinst : (Jvm.Cond.instanceMethod y).before a0 Z = true) (hinit : (Jvm.Cond.initialized y.cls).before a0 Z = true) (hcode : (Jvm.Cond.code y by' ml' ret').before a0 Z = true)
    (E : Exa Z h a Cc) (K : Ctr C.l Z y by' ml' ret' [] rm (.ref a :: argsL).toArray h n0 Ds Q) (hsz : Ls.size = ml) (hlen : ∀ sig, parseMethodDescriptor y.desc = some sig → argsL.length = sig.parameters.length) (hst : S = argsL.reverse ++ .ref a :: rest) (hW : (rest.map fun v => v.category).sum = W)
    (hd : decode bs pc = .ok (.invokespecial idx, 3)) (hfr : rm.frames + 1 ≤ R.frames) (hlo : W + (ml' + 11) + rm.locals ≤ R.locals) (hce : ce + rm.cells ≤ R.cells) (hsl : sl + rm.slots ≤ R.slots) (hp : pc + 3 = pc') :
    ∃ (v : Option Value) (h' : Heap) (Ds' : List Addr), Q v h' Ds' ∧ Rc C R own bs ml Z n0 (ce + rm.cells) (sl + rm.slots) pc' Ls (v.toList ++ rest) h' Ds' := by
  subst hp hst
  obtain ⟨T, locs, vm0, k0, X, h1, h2, h3, h4, h5, h6, h7, k⟩ := H
  obtain ⟨v, vm₁, B, hw1, X', hS', hgr, hq, st⟩ := RoadKit.superBackS X h7.1 (Z := Z) h3 h7.2.2.2.1 hlink hsame hinst hsup hn (ctrBack (s := C.s.setVm vm0) (W := W) K h3 h4 hcode hinit hfr hlo) h5 (Ins.self E) (g := mkF C.m pc Ls (argsL.reverse ++ .ref a :: rest)) rfl (hsz.trans h7.2.2.1.symm) hcode hlen rfl (by show 2 * 0 + _ ≤ _; omega) (hb h7.2.1 hd) (fun vm₁ hw => ⟨rfl, h5, hce, hsl⟩)
  exact own_fin h1 h2 h3 h5 h6 h7 k X' hS' hgr hq st
theorem Rc.copyB {pc' idx W : Nat} {a b : Addr} {sp dp nn z z' : Int32} {kA kB : ClassId} {vs vd us : List Value} {dv dd : Value} {ty : FieldType} (H : Rc C R own bs ml Z n0 ce sl pc Ls (.int nn :: .int dp :: .ref b :: .int sp :: .ref a :: rest) h Ds)
    (w1 : (Jvm.Cond.methodLink own idx Jvm.Stand.acN).before a0 Z = true) (w2 : (Jvm.Cond.native Jvm.Stand.acN).before a0 Z = true) (w3 : (Jvm.Cond.static Jvm.Stand.acN).before a0 Z = true) (w4 : (Jvm.Cond.initialized "java/lang/System").before a0 Z = true)
    (A : Arv Z h a kA ty z vs dv) (B : Arv Z h b kB ty z' vd dd) (hty : refKind ty = false) (g1 : ¬ sp < 0) (g2 : ¬ dp < 0) (g3 : ¬ nn < 0) (g4 : sp.toNatClampNeg + nn.toNatClampNeg ≤ z.toNatClampNeg) (g5 : dp.toNatClampNeg + nn.toNatClampNeg ≤ z'.toNatClampNeg)
    (hus : us = (List.range nn.toNatClampNeg).map fun i => vs.getD (sp.toNatClampNeg + i) dv) (hl : dp.toNatClampNeg + nn.toNatClampNeg ≤ vd.length) (hbm : b ∈ Ds) (hsz : Ls.size = ml) (hd : decode bs pc = .ok (.invokestatic idx, 3)) (hf : 1 ≤ R.frames) (hW : (rest.map fun v => v.category).sum = W) (hlo : W + (nativeFrameWords "java/lang/System" "arraycopy" 5 + 11) ≤ R.locals) (hp : pc + 3 = pc') :
    ∃ h', Keep h h' [b] ∧ Arv Z h' b kB ty z' (vd.take dp.toNatClampNeg ++ us ++ vd.drop (dp.toNatClampNeg + nn.toNatClampNeg)) dd ∧ Rc C R own bs ml Z n0 ce sl pc' Ls rest h' Ds := by
  subst hp
  obtain ⟨T, locs, vm0, k0, X, h1, h2, h3, h4, h5, h6, h7, k⟩ := H
  obtain ⟨T', h', L, X', e', hFr, K', V', st⟩ := RoadKit.cpA X h7.1 (Z := Z) h3 h7.2.2.2.1 w1 w2 w3 w4 h5 A B (Or.inl ⟨rfl, hty⟩) g1 g2 g3 g4 g5 hus hl h6 (h4.2.2.1 b hbm).1 (g := mkF C.m pc Ls (.int nn :: .int dp :: .ref b :: .int sp :: .ref a :: rest)) rfl (hsz.trans h7.2.2.1.symm) rfl (hb h7.2.1 hd) hf (W := W) (by show 2 * 0 + _ ≤ _; omega) hlo
  exact ⟨h', K', V', T', L, vm0, k0, X', h1, Nat.le_trans h2 K'.1, h3, h4.keep K' (own_ws1 hbm), e', hFr, h7, fun t ht => k _ (st _ ht)⟩
/-! a lambda that captures values (never called here); ctr_of with the method's own name -/
theorem ctr_ofN {l : Launch} {Z : State} {y : MethodName} {bytes : ByteArray} {maxL : Nat} {ret : Option FieldType} {ws : List Jvm.Cond} {rm : Room} {as' : Array Value} {h : Heap} {n0 : Nat} {Ds : List Addr} {Q : Option Value → Heap → List Addr → Prop} {Ls : Array Slot}
    (pf : plainFor y = true) (ef : ∀ m : MethodId, entryFrame m as' maxL = mkF m 0 Ls [])
    (wk : ∀ C : Cx, C.l = l → C.meth.sig.returnType = ret → C.meth.name = y.name → C.s.methodNamed? y = some C.m → Rc C rm y.cls bytes maxL Z n0 0 0 0 Ls [] h Ds → Done C Z n0 Q rm.cells rm.slots) : Ctr l Z y bytes maxL ret ws rm as' h n0 Ds Q := by
  refine MetFree.of_bodySF pf hisR ?_
  intro p e s m args below meth c s₁ Bd hml0 hP hK
  obtain ⟨rfl, hZ, hh, hJ⟩ := hP
  have X0 : Stand p l e rm s m args below meth c s₁ [] 0 0 := Stand.of_body Bd
  have e0 : s₁.heap = h := by rw [← hh, Bd.state]; rfl
  have hown : s.vm.findClass y.cls = some m.cls := findClass_of_methodNamed Bd.named
  have hnm := (name_of_methodNamed Bd.named Bd.method).1
  have hlk : meth.locks = false := BodyLoose.notSynchronized Bd
  exact wk (p, l, e, s, m, args, below, meth, c, s₁.setTop (entryFrame m args maxL)) rfl Bd.returns hnm Bd.named
    ⟨s₁, [], s.vm, 0, X0, (State.WarmedH.refl s).since 0, Nat.zero_le _, hZ, hJ, e0, Fr.nil n0, ⟨Bd.exec, Bd.bytes, hml0, hown, hlk⟩, fun t k => castTop (ef m) k⟩
theorem Rc.lam {pc' idx fi W : Nat} {x : MethodName} {σ : Lambda.Shape} {vals : List Value} (H : Rc C R own bs ml Z n0 ce sl pc Ls S h Ds) (hmn : C.s.methodNamed? x = some C.m) (w : (Jvm.Cond.lambdaSite x pc idx σ).before a0 Z = true) (hcap : σ.captured ≠ []) (hok : Jvm.LamKit.capOK σ x.cls fi 0 = true) (wO : (Jvm.Cond.instantiable "java/lang/Object" 0).before a0 Z = true)
    (hsz : Ls.size = ml) (hlen : vals.length = σ.captured.length) (hst : S = vals.reverse ++ rest) (hfit : ∀ (i : Nat) t v, σ.captured[i]? = some t → vals[i]? = some v → narrow t v = v ∧ fits t v = true) (hd : decode bs pc = .ok (.invokedynamic idx, 5)) (hW : (S.map fun v => v.category).sum = W) (hlo : W + 3072 ≤ R.locals) (hc : ce + 1 ≤ R.cells) (hl : sl + vals.length ≤ R.slots) (hp : pc + 5 = pc') :
    ∃ (h' : Heap) (b : Addr), b = h.size ∧ Ext h h' ∧ Rc C R own bs ml Z n0 (ce + 1) (sl + vals.length) pc' Ls (.ref b :: rest) h' (b :: Ds) := by
  subst hp hst
  obtain ⟨T, locs, vm0, k0, X, h1, h2, h3, h4, h5, h6, h7, k⟩ := H
  subst h5
  obtain ⟨cK, one, hat⟩ := Cond.lambdaSite_spec w
  obtain ⟨mD, kD, cfD, i0, p0, lk, hmD, hkD, hcfD, hsh, -, hfind, hmade, hcan, hl'⟩ := State.lambdaAt?_spec hat
  have hm0 : (C.s.setVm vm0).methodNamed? x = some C.m := (State.methodNamed?_setVm h1.1.alike x).trans hmn
  have hmZ : (C.s.setVm vm0).methodNamed? x = some mD := ((State.methodNamed?_setVm h3.alike x).trans hmD : (Z.setVm vm0).methodNamed? x = some mD)
  have hmm : C.m = mD := Option.some.inj (hm0.symm.trans hmZ)
  rw [← hmm] at hkD hfind hmade
  obtain ⟨kD', hkD', hnameD⟩ := className_of_methodNamed hmD
  rw [← hmm] at hkD'
  cases hkD.symm.trans hkD'
  rcases hl' with ⟨a, cell, -, -, hc0, -⟩ | ⟨rfl, -, -⟩
  · exact absurd hc0 hcap
  · obtain ⟨b, nt, desc, site, q1, q2, q3, q4⟩ := Jvm.Lambda.shapeOf?_site hsh
    obtain ⟨kc, f, hkc, hkind, hty, -⟩ := Jvm.LamKit.made_cap hok hkD hnameD hmade (Jvm.LamKit.noFields wO (State.WarmedH.refl Z))
    obtain ⟨kS, hkS, eS⟩ := h3.alike.2.2 _ _ hkD
    obtain ⟨kcS, hkcS, ecS⟩ := h3.alike.2.2 _ _ hkc
    have et : kcS.instanceTypes = σ.captured.toArray := by rw [ecS]; exact hty
    have ek : kcS.kind = .ordinary := by rw [ecS]; exact hkind
    have hz : ((kcS.instanceTypes.toList.zip vals).map fun (t, v) => narrow t v) = vals := by rw [et]; exact Jvm.LamKit.zip_narrow _ _ hlen fun i t v a b => (hfit i t v a b).1
    have hw : C.e.platform.lambdaLinkWords = 3072 := by rw [X.admits.platform]
    have q := X.lambdaMakes h7.1 (g := mkF C.m pc Ls (vals.reverse ++ rest)) rfl (hsz.trans h7.2.2.1.symm) (hb h7.2.1 hd) (vals := vals) (rest := rest) hkS (by rw [eS]; exact hfind) (by rw [eS]; exact hcfD) q1 q2 (parseLong_of_parse q3) (by rw [q4]; exact hlen) rfl hkcS (by rw [hw]; show 2 * 0 + ((vals.reverse ++ rest).map fun v => v.category).sum + 3072 ≤ _; omega) hc (by rw [hz]; exact hl)
      (fun i v hv => by
        rw [hz] at hv
        have hv' : vals[i]? = some v := by simpa using hv
        have hi : i < σ.captured.length := by rw [← hlen]; exact (List.getElem?_eq_some_iff.mp hv').1
        have := (hfit i _ v (List.getElem?_eq_getElem hi) hv').2
        simp [State.fitsSlot, State.slotType?, hkcS, ek, et, List.getElem?_eq_getElem hi, this])
    rw [hz] at q
    have E' : Ext T.heap (T.pushCell { cls := cK, slots := vals.toArray, vm := .none }).heap := by
      refine ⟨by show T.heap.size ≤ (T.heap.push _).size; simp, fun x c hx => ?_⟩
      have hlt := (Array.getElem?_eq_some_iff.mp hx).1
      show (T.heap.push _)[x]? = some c
      rw [Array.getElem?_push, if_neg (Nat.ne_of_lt hlt)]; exact hx
    have hlt : T.heap.size < (T.pushCell { cls := cK, slots := vals.toArray, vm := .none }).heap.size := by show T.heap.size < (T.heap.push _).size; simp
    exact ⟨_, T.heap.size, rfl, E', _, locs, vm0, k0, by simpa using q.1, h1, Nat.le_trans h2 E'.1, h3, h4.born E' hlt, rfl, h6, h7, fun t ht => k _ (q.2 _ ht)⟩
/-! contracts under which a stack trace may be filled in; an exception's constructor; a call of an inherited method; returns of longs -/
def CtrK (l : Launch) (Z : State) (y : MethodName) (bytes : ByteArray) (maxL : Nat) (ret : Option FieldType) (ws : List Jvm.Cond) (rm : Room) (as' : Array Value) (h : Heap) (n0 : Nat) (Ds : List Addr) (Q : Option Value → Heap → List Addr → Prop) : Prop :=
  MetFree l y (head1 (Jvm.Cond.code y bytes maxL ret :: ws) rm) (fun a U => a = as' ∧ Z.Warmed39 U.vm ∧ U.heap = h ∧ JJ Z n0 U.vm h Ds) (fun _ _ bl s _ => s.vm.MethodsKnown ∧ s.vm.FramesKnown bl)
    (fun _ U o U' => ∃ (v : Option Value) (L : List Loc) (Ds' : List Addr), o = .returned v ∧ Q v U'.heap Ds' ∧ JJ Z n0 U'.vm U'.heap Ds' ∧ Fr n0 L ∧ ReturnedEndW U o U' L rm.cells rm.slots)
theorem ctr_ofK {l : Launch} {Z : State} {y : MethodName} {bytes : ByteArray} {maxL : Nat} {ret : Option FieldType} {ws : List Jvm.Cond} {rm : Room} {as' : Array Value} {h : Heap} {n0 : Nat} {Ds : List Addr} {Q : Option Value → Heap → List Addr → Prop} {Ls : Array Slot}
    (pf : plainFor y = true) (ef : ∀ m : MethodId, entryFrame m as' maxL = mkF m 0 Ls [])
    (wk : ∀ C : Cx, C.l = l → C.meth.sig.returnType = ret → C.meth.name = y.name → (C.s.vm.MethodsKnown ∧ C.s.vm.FramesKnown C.below) → Old Z n0 C.s.heap → Rc C rm y.cls bytes maxL Z n0 0 0 0 Ls [] h Ds → Done C Z n0 Q rm.cells rm.slots) : CtrK l Z y bytes maxL ret ws rm as' h n0 Ds Q := by
  refine MetFree.of_bodySF pf hisR ?_
  intro p e s m args below meth c s₁ Bd hml0 hP hK
  obtain ⟨rfl, hZ, hh, hJ⟩ := hP
  have X0 : Stand p l e rm s m args below meth c s₁ [] 0 0 := Stand.of_body Bd
  have e0 : s₁.heap = h := by rw [← hh, Bd.state]; rfl
  have hown : s.vm.findClass y.cls = some m.cls := findClass_of_methodNamed Bd.named
  have hnm := (name_of_methodNamed Bd.named Bd.method).1
  have hlk : meth.locks = false := BodyLoose.notSynchronized Bd
  exact wk (p, l, e, s, m, args, below, meth, c, s₁.setTop (entryFrame m args maxL)) rfl Bd.returns hnm hK (by show Old Z n0 s.heap; rw [hh]; exact hJ.1)
    ⟨s₁, [], s.vm, 0, X0, (State.WarmedH.refl s).since 0, Nat.zero_le _, hZ, hJ, e0, Fr.nil n0, ⟨Bd.exec, Bd.bytes, hml0, hown, hlk⟩, fun t k => castTop (ef m) k⟩
theorem ctrBackK {l : Launch} {R : Room} {p : Program} {e : Env} {below : List Frame} {s : State} {args : Array Value} {Z : State} {a0 : Array Value} {h : Heap} {n0 : Nat} {Ds : List Addr} {y : MethodName} {bytes : ByteArray} {maxL : Nat} {ret : Option FieldType} {rm : Room} {len W : Nat} {as' : Array Value} {Q : Option Value → Heap → List Addr → Prop}
    (hM : CtrK l Z y bytes maxL ret [] rm as' h n0 Ds Q) (hZ : Z.Warmed39 s.vm) (hJ : JJ Z n0 s.vm h Ds) (wc : (Jvm.Cond.code y bytes maxL ret).before a0 Z = true) (wz : (Jvm.Cond.initialized y.cls).before a0 Z = true) (hf : rm.frames + 1 ≤ R.frames) (hl : W + (maxL + 11) + rm.locals ≤ R.locals) (hTK : s.vm.MethodsKnown) (hBelow : s.vm.FramesKnown below) :
    BackS l R p e below s args y len W (fun A a => a = as' ∧ A.U.heap = h ∧ A.cells + rm.cells ≤ R.cells ∧ A.slots + rm.slots ≤ R.slots)
      (fun A _ v B => ∃ (L : List Loc) (Ds' : List Addr), Q v B.U.heap Ds' ∧ JJ Z n0 B.U.vm B.U.heap Ds' ∧ Fr n0 L ∧ B.locs = A.locs ++ L ∧ B.cells = A.cells + rm.cells ∧ B.slots = A.slots + rm.slots) :=
  BackS.of_freeWG (bytes := bytes) (maxL := maxL) (ret := ret) (E := fun _ _ o t L k n => k = rm.cells ∧ n = rm.slots ∧ ∃ (v : Option Value) (Ds' : List Addr), o = .returned v ∧ Q v t.heap Ds' ∧ JJ Z n0 t.vm t.heap Ds' ∧ Fr n0 L) hM hf hl
    (fun m meth c A a Y hp => have hU : Z.Warmed39 A.U.vm := wtrans hZ Y.warmed
      ⟨by show (Jvm.Cond.and _ .tt).before a A.U = true; rw [Cond.before_and, mv hU wc]; rfl, mv hU wc, mv hU wz, hp.2.2.1, hp.2.2.2⟩)
    (fun m meth c A a g mk Y hp => ⟨hp.1, wtrans hZ Y.warmed, hp.2.1, hJ.warm hZ Y.warmed⟩) (fun m meth c A a g mk Y _ hg => known_frames Y hg hTK hBelow)
    (fun _ _ _ _ ⟨v, L, Ds', h1, h2, h3, h4, h5⟩ => ⟨L, _, _, h5, rfl, rfl, v, Ds', h1, h2, h3, h4⟩)
    (fun m meth c A a g mk v t L k n Y hp _ _ ⟨e1, e2, v', Ds', e3, e4, e5, e6⟩ => by cases e3; subst e1 e2; exact ⟨L, Ds', e4, e5, e6, rfl, rfl, rfl⟩)
theorem Rc.callIK {pc' : Nat} {y : MethodName} {idx ml' W : Nat} {by' : ByteArray} {rm : Room} {a : Addr} {argsL : List Value} {Q : Option Value → Heap → List Addr → Prop} (H : Rc C R own bs ml Z n0 ce sl pc Ls S h Ds) (hKn : C.s.vm.MethodsKnown ∧ C.s.vm.FramesKnown C.below) (hy1 : y.name = "<init>")
    (hlink : (Jvm.Cond.methodLink own idx y).before a0 Z = true) (hinst : (Jvm.Cond.instanceMethod y).before a0 Z = true) (hinit : (Jvm.Cond.initialized y.cls).before a0 Z = true) (hcode : (Jvm.Cond.code y by' ml' none).before a0 Z = true) (hy : NoMH y)
    (K : CtrK C.l Z y by' ml' none [] rm (.ref a :: argsL).toArray h n0 Ds Q) (hsz : Ls.size = ml) (hlen : ∀ sig, parseMethodDescriptor y.desc = some sig → argsL.length = sig.parameters.length) (hst : S = argsL.reverse ++ .ref a :: rest) (hW : (rest.map fun v => v.category).sum = W)
    (hd : decode bs pc = .ok (.invokespecial idx, 3)) (hfr : rm.frames + 1 ≤ R.frames) (hlo : W + (ml' + 11) + rm.locals ≤ R.locals) (hce : ce + rm.cells ≤ R.cells) (hsl : sl + rm.slots ≤ R.slots) (hp : pc + 3 = pc') :
    ∃ (v : Option Value) (h' : Heap) (Ds' : List Addr), Q v h' Ds' ∧ Rc C R own bs ml Z n0 (ce + rm.cells) (sl + rm.slots) pc' Ls (v.toList ++ rest) h' Ds' := by
  subst hp hst
  obtain ⟨T, locs, vm0, k0, X, h1, h2, h3, h4, h5, h6, h7, k⟩ := H
  obtain ⟨v, vm₁, B, hw1, X', hS', hgr, hq, st⟩ := X.specialBackS h7.1 hy1 h7.2.2.2.1 (mvT (s := C.s.setVm vm0) h3 hlink) (mvT (s := C.s.setVm vm0) h3 hinst) (mvT (s := C.s.setVm vm0) h3 hcode) hy (ctrBackK (s := C.s.setVm vm0) (W := W) K h3 h4 hcode hinit hfr hlo (Vm.MethodsKnown.alikeC h1.1.alike hKn.1) (Vm.FramesKnown.alikeC h1.1.alike hKn.2)) (g := mkF C.m pc Ls (argsL.reverse ++ .ref a :: rest)) rfl (hsz.trans h7.2.2.1.symm) (Steps.refl _) hlen rfl (by show 2 * 0 + _ ≤ _; omega) (hb h7.2.1 hd) (fun vm₁ hw => ⟨rfl, h5, hce, hsl⟩)
  exact own_fin h1 h2 h3 h5 h6 h7 k X' hS' hgr hq st
theorem Rc.callVK {pc' : Nat} {y z : MethodName} {Cc : String} {idx ml' W : Nat} {by' : ByteArray} {ret' : Option FieldType} {rm : Room} {a : Addr} {argsL : List Value} {Q : Option Value → Heap → List Addr → Prop} (H : Rc C R own bs ml Z n0 ce sl pc Ls S h Ds) (hKn : C.s.vm.MethodsKnown ∧ C.s.vm.FramesKnown C.below)
    (hlink : (Jvm.Cond.methodLink own idx y).before a0 Z = true) (hdecl : (Jvm.Cond.declares y).before a0 Z = true) (hnf : ∀ s' : State, Z.Warmed39 s'.vm → NotFace s' y) (hsel : (Jvm.Cond.selects Cc y z).before a0 Z = true) (hinst : (Jvm.Cond.instanceMethod z).before a0 Z = true) (hinit : (Jvm.Cond.initialized z.cls).before a0 Z = true) (hcode : (Jvm.Cond.code z by' ml' ret').before a0 Z = true) (hy : NoMH y)
    (E : Exa Z h a Cc) (K : CtrK C.l Z z by' ml' ret' [] rm (.ref a :: argsL).toArray h n0 Ds Q) (hsz : Ls.size = ml) (hlen : ∀ sig, parseMethodDescriptor y.desc = some sig → argsL.length = sig.parameters.length) (hst : S = argsL.reverse ++ .ref a :: rest) (hW : (rest.map fun v => v.category).sum = W)
    (hd : decode bs pc = .ok (.invokevirtual idx, 3)) (hfr : rm.frames + 1 ≤ R.frames) (hlo : W + (ml' + 11) + rm.locals ≤ R.locals) (hce : ce + rm.cells ≤ R.cells) (hsl : sl + rm.slots ≤ R.slots) (hp : pc + 3 = pc') :
    ∃ (v : Option Value) (h' : Heap) (Ds' : List Addr), Q v h' Ds' ∧ Rc C R own bs ml Z n0 (ce + rm.cells) (sl + rm.slots) pc' Ls (v.toList ++ rest) h' Ds' := by
  subst hp hst
  obtain ⟨T, locs, vm0, k0, X, h1, h2, h3, h4, h5, h6, h7, k⟩ := H
  obtain ⟨cq, kq, qa, qb, qc⟩ := isOf (s := C.s.setVm vm0) h3 h5 E
  obtain ⟨v, vm₁, B, hw1, X', hS', hgr, hq, st⟩ := X.virtualBackS h7.1 (y := y) (z := z) h7.2.2.2.1 (mvT (s := C.s.setVm vm0) h3 hlink) (mvT (s := C.s.setVm vm0) h3 hdecl) (hnf _ h3) (mvT (s := C.s.setVm vm0) h3 hsel) (mvT (s := C.s.setVm vm0) h3 hinst) hy (ctrBackK (s := C.s.setVm vm0) (W := W) K h3 h4 hcode hinit hfr hlo (Vm.MethodsKnown.alikeC h1.1.alike hKn.1) (Vm.FramesKnown.alikeC h1.1.alike hKn.2)) qa qc (g := mkF C.m pc Ls (argsL.reverse ++ .ref a :: rest)) rfl (hsz.trans h7.2.2.1.symm) (Steps.refl _) hlen rfl (by show 2 * 0 + _ ≤ _; omega) (hb h7.2.1 hd) (fun vm₁ hw => ⟨rfl, h5, hce, hsl⟩)
  exact own_fin h1 h2 h3 h5 h6 h7 k X' hS' hgr hq st
theorem Rc.callVUp {pc' : Nat} {x z : MethodName} {Cc owner : String} {idx ml' W : Nat} {by' : ByteArray} {ret' : Option FieldType} {rm : Room} {a : Addr} {argsL : List Value} {Q : Option Value → Heap → List Addr → Prop} (H : Rc C R own bs ml Z n0 ce sl pc Ls S h Ds)
    (hlink : (Jvm.Cond.methodLink own idx x).before a0 Z = true) (hsame : (Jvm.Cond.sameMethod x.cls owner x.name x.desc).before a0 Z = true) (hdecl : (Jvm.Cond.declares ⟨owner, x.name, x.desc⟩).before a0 Z = true) (hown' : owner ≠ "java/lang/invoke/MethodHandle" ∧ owner ≠ "java/lang/invoke/VarHandle") (hsel : (Jvm.Cond.selects Cc x z).before a0 Z = true) (hinst : (Jvm.Cond.instanceMethod z).before a0 Z = true) (hinit : (Jvm.Cond.initialized z.cls).before a0 Z = true) (hcode : (Jvm.Cond.code z by' ml' ret').before a0 Z = true)
    (E : Exa Z h a Cc) (K : Ctr C.l Z z by' ml' ret' [] rm (.ref a :: argsL).toArray h n0 Ds Q) (hsz : Ls.size = ml) (hlen : ∀ sig, parseMethodDescriptor x.desc = some sig → argsL.length = sig.parameters.length) (hst : S = argsL.reverse ++ .ref a :: rest) (hW : (rest.map fun v => v.category).sum = W)
    (hd : decode bs pc = .ok (.invokevirtual idx, 3)) (hfr : rm.frames + 1 ≤ R.frames) (hlo : W + (ml' + 11) + rm.locals ≤ R.locals) (hce : ce + rm.cells ≤ R.cells) (hsl : sl + rm.slots ≤ R.slots) (hp : pc + 3 = pc') :
    ∃ (v : Option Value) (h' : Heap) (Ds' : List Addr), Q v h' Ds' ∧ Rc C R own bs ml Z n0 (ce + rm.cells) (sl + rm.slots) pc' Ls (v.toList ++ rest) h' Ds' := by
  subst hp hst
  obtain ⟨T, locs, vm0, k0, X, h1, h2, h3, h4, h5, h6, h7, k⟩ := H
  obtain ⟨cq, kq, qa, qb, qc⟩ := isOf (s := C.s.setVm vm0) h3 h5 E
  obtain ⟨v, vm₁, B, hw1, X', hS', hgr, hq, st⟩ := X.virtualBackUpS h7.1 (x := x) (y := z) (owner := owner) h7.2.2.2.1 (mvT (s := C.s.setVm vm0) h3 hlink) (mvT (s := C.s.setVm vm0) h3 hsame) (mvT (s := C.s.setVm vm0) h3 hdecl) hown' (mvT (s := C.s.setVm vm0) h3 hsel) (mvT (s := C.s.setVm vm0) h3 hinst) (ctrBack (s := C.s.setVm vm0) (W := W) K h3 h4 hcode hinit hfr hlo) qa qc (g := mkF C.m pc Ls (argsL.reverse ++ .ref a :: rest)) rfl (hsz.trans h7.2.2.1.symm) (Steps.refl _) hlen rfl (by show 2 * 0 + _ ≤ _; omega) (hb h7.2.1 hd) (fun vm₁ hw => ⟨rfl, h5, hce, hsl⟩)
  exact own_fin h1 h2 h3 h5 h6 h7 k X' hS' hgr hq st
theorem Rc.newOU {pc' : Nat} {Cc : String} {idx n : Nat} (H : Rc C R own bs ml Z n0 ce sl pc Ls S h Ds) (w : (Jvm.Cond.classLink own idx Cc).before a0 Z = true) (wi : (Jvm.Cond.instantiable Cc n).before a0 Z = true) (wz : (Jvm.Cond.initialized Cc).before a0 Z = true) (hd : decode bs pc = .ok (.new idx, 3)) (hc : ce + 1 ≤ R.cells) (hl : sl + n ≤ R.slots) (hp : pc + 3 = pc') :
    ∃ (h' : Heap) (b : Addr), b = h.size ∧ Ext h h' ∧ Exa Z h' b Cc ∧ Unt h' b ∧ (∀ {O nm d : String} {ty : FieldType}, Laid Z a0 Cc O nm d → parseFieldDescriptor d = some ty → Fld Z h' b O nm d (defaultValue ty)) ∧ Rc C R own bs ml Z n0 (ce + 1) (sl + n) pc' Ls (.ref b :: S) h' (b :: Ds) := by
  subst hp
  obtain ⟨T, locs, vm0, k0, X, h1, h2, h3, h4, h5, h6, h7, k⟩ := H
  obtain ⟨T', h', X', e', E', A', D', U', st⟩ := RoadKit.newO X h7.1 (Z := Z) h3 h7.2.2.2.1 w wi wz h5 (g := mkF C.m pc Ls S) rfl (hb h7.2.1 hd) hc hl
  exact ⟨h', h.size, rfl, E', A', U', D', T', _, vm0, k0, X', h1, Nat.le_trans h2 E'.1, h3, h4.born E' A'.lt, e', h6, h7, fun t ht => k _ (st _ ht)⟩
theorem Rc.newPE {pc' : Nat} {aty : ArrayType} {n : Int32} {cap : Nat} {ad : String} (H : Rc C R own bs ml Z n0 ce sl pc Ls (.int n :: rest) h Ds) (w : (Jvm.Cond.arrayClass (newarray.typeOf aty)).before a0 Z = true) (hd : decode bs pc = .ok (.newarray aty, 2)) (hn : ¬ n < 0) (hcap : n.toNatClampNeg ≤ cap) (hb' : cap * 8 ≤ 536870912) (hc : ce + 1 ≤ R.cells) (hl : sl + cap ≤ R.slots) (had : "[" ++ (newarray.typeOf aty).toString = ad) (hp : pc + 2 = pc') :
    ∃ (h' : Heap) (b : Addr) (kA : ClassId), b = h.size ∧ Ext h h' ∧ Arv Z h' b kA (newarray.typeOf aty) n [] (defaultValue (newarray.typeOf aty)) ∧ Exa Z h' b ad ∧ Rc C R own bs ml Z n0 (ce + 1) (sl + cap) pc' Ls (.ref b :: rest) h' (b :: Ds) := by
  subst hp
  obtain ⟨T, locs, vm0, k0, X, h1, h2, h3, h4, h5, h6, h7, k⟩ := H
  obtain ⟨T', h', kA, X', e', E', A', X2, st⟩ := RoadKit.newPE X h7.1 (Z := Z) h3 w h5 (g := mkF C.m pc Ls (.int n :: rest)) rfl (hb h7.2.1 hd) rfl hn hcap hb' hc hl had
  exact ⟨h', h.size, kA, rfl, E', Arv.new A' hn, X2, T', _, vm0, k0, X', h1, Nat.le_trans h2 E'.1, h3, h4.born E' A'.lt, e', h6, h7, fun t ht => k _ (st _ ht)⟩
theorem Rc.exc1 {pc' ic n W : Nat} {rc : String} {links : List Jvm.Free.Exc.Link} {a : Addr} {msg : Value} (H : Rc C R own bs ml Z n0 ce sl pc Ls (msg :: .ref a :: rest) h Ds) (hst : C.l.stackTraces = true) (hKn : C.s.vm.MethodsKnown ∧ C.s.vm.FramesKnown C.below) (hO : Old Z n0 C.s.heap)
    (hok : Jvm.Free.Exc.linksOk 1 links = true) (w1 : (Jvm.Cond.methodLink own ic (Jvm.Free.Exc.ctor 1 (Jvm.Free.Exc.headName links))).before a0 Z = true) (w2 : (Jvm.Cond.instanceMethod (Jvm.Free.Exc.ctor 1 (Jvm.Free.Exc.headName links))).before a0 Z = true) (wT : (Jvm.Free.Exc.chainTab 1 rc links).before a0 Z = true) (wi : (Jvm.Cond.instantiable rc n).before a0 Z = true) (r : ∀ d ∈ twoRefs, d.before a0 Z = true)
    (E : Exa Z h a rc) (N : Unt h a) (B : Fld Z h a "java/lang/Throwable" "backtrace" "Ljava/lang/Object;" .null) (B2 : Fld Z h a "java/lang/Throwable" "detailMessage" "Ljava/lang/String;" .null) (hmsg : msg.isRef = true) (ha : a ∈ Ds) (hsz : Ls.size = ml) (hd : decode bs pc = .ok (.invokespecial ic, 3)) (hW : (rest.map fun v => v.category).sum = W)
    (hf : 4 + links.length ≤ R.frames) (hlo : W + (56 + 14 * links.length) ≤ R.locals) (hc : ce + 1 ≤ R.cells) (hsl : sl + 2752 ≤ R.slots) (hp : pc + 3 = pc') :
    ∃ h', Keep h h' [a] ∧ Exa Z h' a rc ∧ Fld Z h' a "java/lang/Throwable" "detailMessage" "Ljava/lang/String;" msg ∧ Rc C R own bs ml Z n0 (ce + 1) (sl + 2752) pc' Ls rest h' Ds := by
  subst hp
  obtain ⟨T, locs, vm0, k0, X, h1, h2, h3, h4, h5, h6, h7, k⟩ := H
  obtain ⟨T', h', X', e', K', E', -, F', -, -, st⟩ := RoadKit.excL1 X h7.1 hst (Z := Z) h3 h7.2.2.2.1 hok w1 w2 wT wi r (ThS.ext (show Ext Z.heap (C.s.setVm vm0).heap from hO.2) ThS.start) (ThS.ext h4.1.2 ThS.start) (Vm.MethodsKnown.alikeC h1.1.alike hKn.1) (Vm.FramesKnown.alikeC h1.1.alike hKn.2) h5 E N B B2 hmsg (g := mkF C.m pc Ls (msg :: .ref a :: rest)) rfl (hsz.trans h7.2.2.1.symm) rfl (hb h7.2.1 hd) hf (by show 2 * 0 + _ + _ ≤ _; omega) hc hsl
  exact ⟨h', keep_of_kp K', E', F', T', _, vm0, k0, X', h1, Nat.le_trans h2 (keep_of_kp K').1, h3, h4.keep (keep_of_kp K') (own_ws1 ha), e', Fr.six h6 (h4.2.2.1 a ha).1, h7, fun t ht => k _ (st _ ht)⟩
theorem Rc.retJ {Q : Option Value → Heap → List Addr → Prop} {z : Int64} {kc ks : Nat} {Ds' : List Addr} (H : Rc C R own bs ml Z n0 ce sl pc Ls (.long z :: rest) h Ds) (hret : C.meth.sig.returnType = some .long) (hd : decode bs pc = .ok (.lreturn, 1)) (hk : ce ≤ kc) (hs : sl ≤ ks) (hds : ∀ x ∈ Ds', x ∈ Ds) (hq : Q (some (.long z)) h Ds') : Done C Z n0 Q kc ks :=
  H.retX (v := some (.long z)) (fun e => by rw [hret] at e; cases e) (fun s T locs fs X hx hby hr => retOut X hx hret rfl (Or.inr (Or.inl ⟨rfl, rfl, z, rfl⟩)) (hb hby hd) hr) hk hs hds hq
/-! the String laws of the paste, in the forward form -/
abbrev CompactOn (Z : State) : Prop := ∃ z : Int32, Sta Z Z.heap "java/lang/String" "COMPACT_STRINGS" "Z" (.int z) ∧ ¬ z = 0
abbrev SiooOk (Z : State) : Prop := ∃ fm : Value, Sta Z Z.heap "jdk/internal/util/Preconditions" "SIOOBE_FORMATTER" "Ljava/util/function/BiFunction;" fm ∧ fm.isRef = true
theorem own_up {cs : List Int32} (h : ∀ c ∈ cs, ¬ c < 0 ∧ ¬ (255 : Int32) < c) : ∀ c ∈ cs, ¬ c < 0 ∧ ¬ (65535 : Int32) < c := fun c hc => ⟨(h c hc).1, fun q => (h c hc).2 (by rw [Int32.lt_iff_toInt_lt] at q ⊢; have e1 : (65535 : Int32).toInt = 65535 := rfl; have e2 : (255 : Int32).toInt = 255 := rfl; omega)⟩
theorem Rc.newStr {pc' idx W : Nat} {x b : Addr} {kC : ClassId} {cs : List Int32} {d v0 c0 : Value} {N : Int32} (H : Rc C R own bs ml Z n0 ce sl pc Ls (.ref b :: .ref x :: rest) h Ds) (hws : ∀ d ∈ StrChars.Road.words, d.before a0 Z = true) (wi : (Jvm.Cond.instantiable "java/lang/String" 4).before a0 Z = true)
    (hlink : (Jvm.Cond.methodLink own idx ⟨"java/lang/String", "<init>", "([C)V"⟩).before a0 Z = true) (hinst : (Jvm.Cond.instanceMethod ⟨"java/lang/String", "<init>", "([C)V"⟩).before a0 Z = true) (CS : CompactOn Z)
    (E : Exa Z h x "java/lang/String") (V : Fld Z h x "java/lang/String" "value" "[B" v0) (Cd : Fld Z h x "java/lang/String" "coder" "B" c0) (K : Arv Z h b kC .char N (cs.map Value.int) d) (hN : N = Int32.ofNat cs.length) (l0 : 0 < cs.length) (l2 : cs.length ≤ 4000) (hp : ∀ c ∈ cs, ¬ c < 0 ∧ ¬ (255 : Int32) < c) (hx : x ∈ Ds)
    (hsz : Ls.size = ml) (hW : (rest.map fun v => v.category).sum = W) (hd : decode bs pc = .ok (.invokespecial idx, 3)) (hfr : 4 ≤ R.frames) (hlo : W + 65 ≤ R.locals) (hce : ce + 1 ≤ R.cells) (hsl : sl + cs.length ≤ R.slots) (hpc : pc + 3 = pc') :
    ∃ h', Keep h h' [x] ∧ IsStr Z h' x cs ∧ Rc C R own bs ml Z n0 (ce + 1) (sl + cs.length) pc' Ls rest h' Ds := by
  obtain ⟨z, hS, hz⟩ := CS
  obtain ⟨v, h', L, ⟨q1, q2, q3, q4, q5, t, kb, -, -, -, q6, q7⟩, R'⟩ := H.backI (y := ⟨"java/lang/String", "<init>", "([C)V"⟩) (kc := 1) (ks := cs.length) (argsL := [.ref b]) (Qb := fun v h' L => StrChars.Road.QV Z x N (cs.map (fun c => c.toInt8.toInt32)) h n0 v h' L) rfl hlink hinst (hws _ (List.mem_of_getElem? (i := 0) rfl)) (by decide)
    (fun s' hZ' => StrChars.Road.backV (W := W) hZ' hws wi (cs := cs) (bs := cs.map (fun c => c.toInt8.toInt32)) (n := cs.length) (H.mem hx).1 (own_n0 H.old) E V Cd K (hS.ext H.old.2) hz rfl hN l0 l2 hp rfl hfr hlo)
    (fun v h' L q => ⟨q.2.1, [x], q.2.2.1, own_ws1 hx⟩) hsz (lenOf (ps := [.array .char]) (r := none) (by decide +kernel) rfl) rfl hW hd hce hsl hpc
  subst q1
  exact ⟨h', q3, ⟨q4, q5, hp, l2, t, kb, q6, by rw [← hN]; exact q7⟩, R'⟩
theorem n4_8 : decode StrChars.New4.yB 8 = .ok (.aload_n 0, 1) := by decide +kernel
theorem n4_9 : decode StrChars.New4.yB 9 = .ok (.ldc 7, 2) := by decide +kernel
theorem n4_11 : decode StrChars.New4.yB 11 = .ok (.getfield 9, 3) := by decide +kernel
theorem n4_14 : decode StrChars.New4.yB 14 = .ok (.putfield 9, 3) := by decide +kernel
theorem n4_17 : decode StrChars.New4.yB 17 = .ok (.aload_n 0, 1) := by decide +kernel
theorem n4_18 : decode StrChars.New4.yB 18 = .ok (.ldc 7, 2) := by decide +kernel
theorem n4_20 : decode StrChars.New4.yB 20 = .ok (.getfield 15, 3) := by decide +kernel
theorem n4_23 : decode StrChars.New4.yB 23 = .ok (.putfield 15, 3) := by decide +kernel
theorem n4_26 : decode StrChars.New4.yB 26 = .ok (.return_, 1) := by decide +kernel
/-- the empty String: new String(char[0]) -/
def QE (Z : State) (x : Addr) (h : Heap) (Ds : List Addr) (v : Option Value) (h' : Heap) (Ds' : List Addr) : Prop := v = none ∧ Ds = Ds' ∧ Keep h h' [x] ∧ IsStr Z h' x []
abbrev rmE4 : Room := { frames := 1, cells := 4, slots := 8, locals := 12 }
theorem initE4 {l : Launch} {Z : State} {a0 : Array Value} {h : Heap} {n0 : Nat} {Ds : List Addr} {x b : Addr} {v0 c0 : Value} (hws : ∀ d ∈ StrChars.Road.words, d.before a0 Z = true) (wi : (Jvm.Cond.instantiable "java/lang/String" 4).before a0 Z = true) (hm : ("java/lang/String", 7) ∈ CL) (wl : (Jvm.Cond.stringLink "java/lang/String" 7 "").before a0 Z = true)
    (E : Exa Z h x "java/lang/String") (V : Fld Z h x "java/lang/String" "value" "[B" v0) (Cd : Fld Z h x "java/lang/String" "coder" "B" c0) (hx : x ∈ Ds) :
    Ctr l Z StrChars.New4.yN StrChars.New4.yB 6 none [] rmE4 #[.ref x, .ref b, .int 0, .int 0, .null] h n0 Ds (QE Z x h Ds) := by
  refine ctr_of (Ls := #[.val (.ref x), .val (.ref b), .val (.int 0), .val (.int 0), .val .null, .unset]) (plainFor_of_name (by first | (simp [plainName, overriddenIn, StrChars.New4.yN]; done) | decide +kernel)) (fun m => by first | (simp [entryFrame, mkF, argsToLocals, Value.category]; done) | rfl) ?_
  intro C hl hret hnm R
  have R := R.aloadN (pc' := 1) (v := .ref x) StrChars.New4.d0 rfl rfl rfl
  have R := R.initO (pc' := 4) (W := 0) (hws _ (List.mem_of_getElem? (i := 10) rfl)) (hws _ (List.mem_of_getElem? (i := 11) rfl)) (hws _ (List.mem_of_getElem? (i := 12) rfl)) rfl StrChars.New4.d1 (by decide) rfl (by decide) rfl
  have R := R.iloadN (pc' := 5) (v := 0) StrChars.New4.d4 rfl rfl
  have R := R.ifN (pc' := 8) StrChars.New4.d5 (teq rfl).2 rfl
  have R := R.aloadN (pc' := 9) (v := .ref x) n4_8 rfl rfl rfl
  obtain ⟨h1, a1, E1, S1, n1, R⟩ := R.ldcS (pc' := 11) (n := 0) (cs := []) hm wl (by decide) (by decide) (by decide) n4_9 (by decide) (by decide) (by decide) (by decide) rfl
  obtain ⟨s1, s2, s3, s4, t, kb, s5, s6⟩ := S1
  have R := R.getF (pc' := 14) (host := "") (Or.inl (hws _ (List.mem_of_getElem? (i := 7) rfl))) Via.refl s5 n4_11 rfl
  obtain ⟨h2, W2, R⟩ := R.putF (pc' := 17) (ty := .array .byte) (host := "") (Or.inl (hws _ (List.mem_of_getElem? (i := 7) rfl))) Via.refl (V.ext E1) (E.ext E1) (Or.inr ⟨hws _ (List.mem_of_getElem? (i := 6) rfl), rfl, hnm⟩) wi (by decide) rfl rfl hx n4_14 rfl
  have R := R.aloadN (pc' := 18) (v := .ref x) n4_17 rfl rfl rfl
  have hax : a1 ≠ x := fun e => n1 (e ▸ hx)
  obtain ⟨h3, a3, E3, S3, n3, R⟩ := R.ldcS (pc' := 20) (n := 0) (cs := []) hm wl (by decide) (by decide) (by decide) n4_18 (by decide) (by decide) (by decide) (by decide) rfl
  have R := R.getF (pc' := 23) (host := "") (Or.inl (hws _ (List.mem_of_getElem? (i := 9) rfl))) Via.refl S3.2.1 n4_20 rfl
  have Cd2 := ((Cd.ext E1).other W2 (Or.inr (slot_ne (Or.inr (hws _ (List.mem_of_getElem? (i := 8) rfl))) (Or.inr (hws _ (List.mem_of_getElem? (i := 6) rfl))) (by decide) (t := .byte) (t' := .array .byte) (by decide) (by decide)))).ext E3
  obtain ⟨h4, W4, R⟩ := R.putFN (pc' := 26) (ty := .byte) (v' := .int 0) (hws _ (List.mem_of_getElem? (i := 9) rfl)) Via.refl Cd2 (((E.ext E1).wr W2).ext E3) (Or.inr ⟨hws _ (List.mem_of_getElem? (i := 8) rfl), rfl, hnm⟩) wi (by decide) rfl rfl hx n4_23 rfl
  have F1 := (((V.ext E1).same W2).ext E3).other W4 (Or.inr (slot_ne (Or.inr (hws _ (List.mem_of_getElem? (i := 6) rfl))) (Or.inr (hws _ (List.mem_of_getElem? (i := 8) rfl))) (by decide) (t := .array .byte) (t' := .byte) (by decide) (by decide)))
  have Ex := ((((E.ext E1).wr W2).ext E3).wr W4)
  have tx : x ≠ t := (E.ext E1).neArv s6 wi
  have A1 := ((s6.other W2 (Ne.symm tx)).ext E3).other W4 (Ne.symm tx)
  have K : Keep h h4 [x] := ((((Keep.refl h [x]).ext E1).wr W2 (Or.inl (List.mem_singleton.mpr rfl))).ext E3).wr W4 (Or.inl (List.mem_singleton.mpr rfl))
  exact R.retV (Ds' := Ds) hret n4_26 (by decide) (by decide) (fun _ q => q) ⟨rfl, rfl, K, Ex, Cd2.same W4, s3, s4, t, kb, F1, A1⟩
abbrev rmE1 : Room := { frames := 2, cells := 4, slots := 8, locals := 29 }
theorem initE1 {l : Launch} {Z : State} {a0 : Array Value} {h : Heap} {n0 : Nat} {Ds : List Addr} {x b : Addr} {v0 c0 d : Value} {kC : ClassId} {vs : List Value} (hws : ∀ d ∈ StrChars.Road.words, d.before a0 Z = true) (wi : (Jvm.Cond.instantiable "java/lang/String" 4).before a0 Z = true) (hm : ("java/lang/String", 7) ∈ CL) (wl : (Jvm.Cond.stringLink "java/lang/String" 7 "").before a0 Z = true)
    (E : Exa Z h x "java/lang/String") (V : Fld Z h x "java/lang/String" "value" "[B" v0) (Cd : Fld Z h x "java/lang/String" "coder" "B" c0) (K : Arv Z h b kC .char 0 vs d) (hx : x ∈ Ds) :
    Ctr l Z StrChars.New1.yN StrChars.New1.yB 2 none [] rmE1 #[.ref x, .ref b] h n0 Ds (QE Z x h Ds) := by
  refine ctr_of (Ls := #[.val (.ref x), .val (.ref b)]) (plainFor_of_name (by first | (simp [plainName, overriddenIn, StrChars.New1.yN]; done) | decide +kernel)) (fun m => by first | (simp [entryFrame, mkF, argsToLocals, Value.category]; done) | rfl) ?_
  intro C hl hret hnm R
  subst hl
  have R := R.aloadN (pc' := 1) (v := .ref x) StrChars.New1.d0 rfl rfl rfl
  have R := R.aloadN (pc' := 2) (v := .ref b) StrChars.New1.d1 rfl rfl rfl
  have R := R.iconst (pc' := 3) (z := 0) StrChars.New1.d2 rfl rfl
  have R := R.aloadN (pc' := 4) (v := .ref b) StrChars.New1.d3 rfl rfl rfl
  have R := R.arraylength (pc' := 5) K StrChars.New1.d4 rfl
  have R := R.anull (pc' := 6) StrChars.New1.d5 rfl
  obtain ⟨v, h', Ds', ⟨rfl, rfl, q3, q4⟩, R⟩ := R.callI (pc' := 9) (argsL := [.ref b, .int 0, .int 0, .null]) (rest := []) (W := 0) rfl (hws _ (List.mem_of_getElem? (i := 2) rfl)) (hws _ (List.mem_of_getElem? (i := 3) rfl)) (hws _ (List.mem_of_getElem? (i := 1) rfl)) (hws _ (List.mem_of_getElem? (i := 4) rfl)) (by decide) (initE4 hws wi hm wl E V Cd hx) rfl (lenOf (ps := [.array .char, .int, .int, .object "java/lang/Void"]) (r := none) (by decide +kernel) rfl) rfl rfl StrChars.New1.d6 (by decide) (by decide) (by decide) (by decide) rfl
  exact R.retV (Ds' := Ds) hret StrChars.New1.d9 (by decide) (by decide) (fun _ q => q) ⟨rfl, rfl, q3, q4⟩
theorem Rc.newStrE {pc' idx W : Nat} {x b : Addr} {kC : ClassId} {d v0 c0 : Value} {vs : List Value} (H : Rc C R own bs ml Z n0 ce sl pc Ls (.ref b :: .ref x :: rest) h Ds) (hws : ∀ d ∈ StrChars.Road.words, d.before a0 Z = true) (wi : (Jvm.Cond.instantiable "java/lang/String" 4).before a0 Z = true) (hm : ("java/lang/String", 7) ∈ CL) (wl : (Jvm.Cond.stringLink "java/lang/String" 7 "").before a0 Z = true)
    (hlink : (Jvm.Cond.methodLink own idx ⟨"java/lang/String", "<init>", "([C)V"⟩).before a0 Z = true) (hinst : (Jvm.Cond.instanceMethod ⟨"java/lang/String", "<init>", "([C)V"⟩).before a0 Z = true)
    (E : Exa Z h x "java/lang/String") (V : Fld Z h x "java/lang/String" "value" "[B" v0) (Cd : Fld Z h x "java/lang/String" "coder" "B" c0) (K : Arv Z h b kC .char 0 vs d) (hx : x ∈ Ds)
    (hsz : Ls.size = ml) (hW : (rest.map fun v => v.category).sum = W) (hd : decode bs pc = .ok (.invokespecial idx, 3)) (hfr : 3 ≤ R.frames) (hlo : W + 42 ≤ R.locals) (hce : ce + 4 ≤ R.cells) (hsl : sl + 8 ≤ R.slots) (hpc : pc + 3 = pc') :
    ∃ h', Keep h h' [x] ∧ IsStr Z h' x [] ∧ Rc C R own bs ml Z n0 (ce + 4) (sl + 8) pc' Ls rest h' Ds := by
  obtain ⟨v, h', Ds', ⟨rfl, rfl, q3, q4⟩, R'⟩ := H.callI (y := ⟨"java/lang/String", "<init>", "([C)V"⟩) (argsL := [.ref b]) rfl hlink hinst (hws _ (List.mem_of_getElem? (i := 1) rfl)) (hws _ (List.mem_of_getElem? (i := 0) rfl)) (by decide) (initE1 (l := C.l) hws wi hm wl E V Cd K hx) hsz (lenOf (ps := [.array .char]) (r := none) (by decide +kernel) rfl) rfl hW hd hfr (by show W + (2 + 11) + 29 ≤ _; omega) hce hsl hpc
  exact ⟨h', q3, q4, R'⟩
theorem Rc.str_eq {pc' idx W : Nat} {x : Addr} {cs : List Int32} {y : Addr} {ds : List Int32} (H : Rc C R own bs ml Z n0 ce sl pc Ls (.ref y :: .ref x :: rest) h Ds) (hws : ∀ d ∈ StrChars.Road.wordsEq, d.before a0 Z = true) (wi : (Jvm.Cond.instantiable "java/lang/String" 4).before a0 Z = true)
    (hlink : (Jvm.Cond.methodLink own idx ⟨"java/lang/String", "equals", "(Ljava/lang/Object;)Z"⟩).before a0 Z = true) (hdecl : (Jvm.Cond.declares ⟨"java/lang/String", "equals", "(Ljava/lang/Object;)Z"⟩).before a0 Z = true) (hsel : (Jvm.Cond.selects "java/lang/String" ⟨"java/lang/String", "equals", "(Ljava/lang/Object;)Z"⟩ ⟨"java/lang/String", "equals", "(Ljava/lang/Object;)Z"⟩).before a0 Z = true) (hinst : (Jvm.Cond.instanceMethod ⟨"java/lang/String", "equals", "(Ljava/lang/Object;)Z"⟩).before a0 Z = true) (CS : CompactOn Z) (F' : IsStr Z h y ds) (F : IsStr Z h x cs)
    (hsz : Ls.size = ml) (hW : (rest.map fun v => v.category).sum = W) (hd : decode bs pc = .ok (.invokevirtual idx, 3)) (hfr : 2 ≤ R.frames) (hlo : W + 28 ≤ R.locals) (hce : ce + 0 ≤ R.cells) (hsl : sl + 0 ≤ R.slots) (hpc : pc + 3 = pc') :
    Rc C R own bs ml Z n0 ce sl pc' Ls ((.int (if cs = ds then 1 else 0)) :: rest) h Ds := by
  obtain ⟨z, hS, hz⟩ := CS
  obtain ⟨f1, f2, f3, f4, t, kb, f5, f6⟩ := F
  obtain ⟨g1, g2, g3, g4, t', kb', g5, g6⟩ := F'
  obtain ⟨v, h', L, ⟨q1, q2, q3⟩, R'⟩ := H.backV (y := ⟨"java/lang/String", "equals", "(Ljava/lang/Object;)Z"⟩) (z := ⟨"java/lang/String", "equals", "(Ljava/lang/Object;)Z"⟩) (kc := 0) (ks := 0) (argsL := [.ref y]) (Qb := fun v h' L => ((v = some (.int 1) ∧ cs = ds) ∨ (v = some (.int 0) ∧ ¬ cs = ds)) ∧ L = [] ∧ h' = h) hlink hdecl (fun s' hZ' => notFace_of_selects (args := #[]) (mvT hZ' hsel)) hsel hinst (by decide) f1
    (fun s' hZ' => StrChars.Road.eqW (W := W) hZ' hws wi f1 f5 f2 f6 (StrChars.Road.codOf rfl (fun c hc => (f3 c hc).2)) (own_up f3) f4 g1 g5 g2 g6 (StrChars.Road.codOf rfl (fun c hc => (g3 c hc).2)) (own_up g3) g4 (hS.ext H.old.2) hz hfr hlo)
    (fun v h' L q => by obtain ⟨-, rfl, rfl⟩ := q; exact ⟨Fr.nil n0, [], Keep.refl _ _, fun x hx => nomatch hx⟩) hsz (lenOf (ps := [.object "java/lang/Object"]) (r := some .boolean) (by decide +kernel) rfl) rfl hW hd hce hsl hpc
  subst q3
  rcases q1 with ⟨rfl, e⟩ | ⟨rfl, e⟩
  · rw [if_pos e]; exact R'
  · rw [if_neg e]; exact R'

theorem own_pure {x : Value} {C : Cx} {R : Room} {own : String} {bs : ByteArray} {ml : Nat} {Z : State} {n0 ce sl pc : Nat} {Ls : Array Slot} {rest : List Value} {h : Heap} {Ds : List Addr} (H : ∃ (v : Option Value) (h' : Heap) (Ds' : List Addr), (v = some x ∧ h = h' ∧ Ds = Ds') ∧ Rc C R own bs ml Z n0 ce sl pc Ls (v.toList ++ rest) h' Ds') : Rc C R own bs ml Z n0 ce sl pc Ls (x :: rest) h Ds := by
  obtain ⟨_, _, _, ⟨rfl, rfl, rfl⟩, q⟩ := H; exact q
theorem own_pure0 {C : Cx} {R : Room} {own : String} {bs : ByteArray} {ml : Nat} {Z : State} {n0 ce sl pc : Nat} {Ls : Array Slot} {rest : List Value} {h : Heap} {Ds : List Addr} (H : ∃ (v : Option Value) (h' : Heap) (Ds' : List Addr), (v = none ∧ h = h' ∧ Ds = Ds') ∧ Rc C R own bs ml Z n0 ce sl pc Ls (v.toList ++ rest) h' Ds') : Rc C R own bs ml Z n0 ce sl pc Ls rest h Ds := by
  obtain ⟨_, _, _, ⟨rfl, rfl, rfl⟩, q⟩ := H; exact q
end OwnKit
theorem own_and255 (x : Int32) : ∃ k : Fin 256, x &&& 255 = Int32.ofNat k.val := by
  have h : (x &&& 255).toBitVec.toNat < 256 := by
    simp only [Int32.toBitVec_and, BitVec.toNat_and]
    exact Nat.lt_succ_of_le Nat.and_le_right
  refine ⟨⟨_, h⟩, ?_⟩
  apply Int32.toBitVec_inj.mp
  show _ = BitVec.ofNat 32 _
  rw [BitVec.ofNat_toNat]; simp
theorem own_and7 (x : Int32) : ∃ k : Fin 8, x &&& 7 = Int32.ofNat k.val := by
  have h : (x &&& 7).toBitVec.toNat < 8 := by
    simp only [Int32.toBitVec_and, BitVec.toNat_and]
    exact Nat.lt_succ_of_le Nat.and_le_right
  refine ⟨⟨_, h⟩, ?_⟩
  apply Int32.toBitVec_inj.mp
  show _ = BitVec.ofNat 32 _
  rw [BitVec.ofNat_toNat]; simp
theorem own_and3 (x : Int32) : ∃ k : Fin 4, x &&& 3 = Int32.ofNat k.val := by
  have h : (x &&& 3).toBitVec.toNat < 4 := by
    simp only [Int32.toBitVec_and, BitVec.toNat_and]
    exact Nat.lt_succ_of_le Nat.and_le_right
  refine ⟨⟨_, h⟩, ?_⟩
  apply Int32.toBitVec_inj.mp
  show _ = BitVec.ofNat 32 _
  rw [BitVec.ofNat_toNat]; simp
theorem own_and1 (x : Int32) : ∃ k : Fin 2, x &&& 1 = Int32.ofNat k.val := by
  have h : (x &&& 1).toBitVec.toNat < 2 := by
    simp only [Int32.toBitVec_and, BitVec.toNat_and]
    exact Nat.lt_succ_of_le Nat.and_le_right
  refine ⟨⟨_, h⟩, ?_⟩
  apply Int32.toBitVec_inj.mp
  show _ = BitVec.ofNat 32 _
  rw [BitVec.ofNat_toNat]; simp
theorem own_lt {i j : Nat} (hj : j ≤ 4000) (h : i < j) : Int32.ofNat i < Int32.ofNat j := by
  rw [Int32.lt_iff_toInt_lt, Int32.toInt_ofNat_of_lt (by omega), Int32.toInt_ofNat_of_lt (by omega)]; omega
theorem own_nlt {i j : Nat} (hi : i ≤ 4000) (h : j ≤ i) : ¬ Int32.ofNat i < Int32.ofNat j := by
  rw [Int32.lt_iff_toInt_lt, Int32.toInt_ofNat_of_lt (by omega), Int32.toInt_ofNat_of_lt (by omega)]; omega
theorem i32_succ (i : Nat) : Int32.ofNat i + 1 = Int32.ofNat (i + 1) := by
  apply Int32.toBitVec_inj.mp
  show BitVec.ofNat 32 i + 1#32 = BitVec.ofNat 32 (i + 1)
  rw [BitVec.ofNat_add]
theorem nar_i2c (x : Int32) : nar .char x.toUInt32.toUInt16.toUInt32.toInt32 = x.toUInt32.toUInt16.toUInt32.toInt32 := by
  generalize x.toUInt32.toUInt16 = y
  simp [nar]
theorem c255 (x : Int32) : ¬ (x &&& (255 : Int32)).toUInt32.toUInt16.toUInt32.toInt32 < 0 ∧ ¬ (255 : Int32) < (x &&& (255 : Int32)).toUInt32.toUInt16.toUInt32.toInt32 := by
  obtain ⟨k, hk⟩ := own_and255 x
  rw [hk]
  clear hk; revert k; decide +kernel
theorem own_ltI {k n : Nat} (hk : k ≤ 4000) (hn : n ≤ 4000) (h : Int32.ofNat k < Int32.ofNat n) : k < n := by
  apply Classical.byContradiction; intro q
  exact own_nlt hk (by omega) h
theorem own_getD {cs : List Int32} {k : Nat} (h : k < cs.length) (p : ∀ c ∈ cs, ¬ c < 0 ∧ ¬ (255 : Int32) < c) : ¬ cs.getD k 0 < 0 ∧ ¬ (255 : Int32) < cs.getD k 0 := by
  rw [List.getD_eq_getElem?_getD, List.getElem?_eq_getElem h]
  exact p _ (List.getElem_mem h)
theorem own_l255 (x : Int64) : ∃ k : Fin 256, x &&& 255 = Int64.ofNat k.val := by
  have h : (x &&& 255).toBitVec.toNat < 256 := by
    simp only [Int64.toBitVec_and, BitVec.toNat_and]
    exact Nat.lt_succ_of_le Nat.and_le_right
  refine ⟨⟨_, h⟩, ?_⟩
  apply Int64.toBitVec_inj.mp
  show _ = BitVec.ofNat 64 _
  rw [BitVec.ofNat_toNat]; simp
theorem cl255 (x : Int64) : ¬ (x &&& (255 : Int64)).toInt32.toUInt32.toUInt16.toUInt32.toInt32 < 0 ∧ ¬ (255 : Int32) < (x &&& (255 : Int64)).toInt32.toUInt32.toUInt16.toUInt32.toInt32 := by
  obtain ⟨k, hk⟩ := own_l255 x
  rw [hk]
  clear hk; revert k; decide +kernel
theorem own_clamp {k : Nat} (h : k < 2147483648) : (Int32.ofNat k).toNatClampNeg = k := by
  show (Int32.ofNat k).toInt.toNat = k
  rw [Int32.toInt_ofNat_of_lt (by omega)]; omega
theorem own_j {k n : Nat} (hn : n ≤ 4000) (h : k < n) : ¬ Int32.ofNat k < 0 ∧ Int32.ofNat k < Int32.ofNat n := ⟨own_nlt (j := 0) (by omega) (Nat.zero_le _), own_lt hn h⟩
theorem own_bget {cs : List Int32} {k : Nat} (hl : cs.length ≤ 4000) (h : k < cs.length) : (bytesOfCs cs).getD (Int32.ofNat k).toNatClampNeg (.int 0) = .int (cs.getD k 0).toInt8.toInt32 := by
  rw [own_clamp (by omega)]
  simp only [bytesOfCs, List.getD_eq_getElem?_getD, List.getElem?_map, List.getElem?_eq_getElem h]
  rfl
theorem own_b2c {c : Int32} (h : ¬ c < 0 ∧ ¬ (255 : Int32) < c) : (c.toInt8.toInt32 &&& (255 : Int32)).toUInt32.toUInt16.toUInt32.toInt32 = c := by
  obtain ⟨k, rfl⟩ := ofFin h
  clear h; revert k; decide +kernel
theorem nar_i2b (x : Int32) : nar .byte x.toInt8.toInt32 = x.toInt8.toInt32 := by
  generalize x.toInt8 = y
  simp [nar]
theorem own_shr0 (c : Int32) : c >>> ((0 : Int32) &&& 31) = c := by
  apply Int32.toBitVec_inj.mp
  simp
def dgt (m k : Nat) : Int32 := Int32.ofNat (48 + m / 10 ^ k % 10)
def digs : Nat → Nat → List Int32
  | 0, _ => []
  | k + 1, m => dgt m k :: digs k m
theorem digs_len : ∀ (k m : Nat), (digs k m).length = k
  | 0, _ => rfl
  | k + 1, m => by show (digs k m).length + 1 = k + 1; rw [digs_len k m]
theorem dgt_b (m k : Nat) : ¬ dgt m k < 0 ∧ ¬ (255 : Int32) < dgt m k := by
  have h : m / 10 ^ k % 10 < 10 := Nat.mod_lt _ (by decide)
  unfold dgt
  have t : ∀ d : Fin 10, ¬ Int32.ofNat (48 + d.val) < 0 ∧ ¬ (255 : Int32) < Int32.ofNat (48 + d.val) := by decide +kernel
  exact t ⟨_, h⟩
theorem dgt_byte (m k : Nat) : (dgt m k).toInt8.toInt32 = dgt m k := by
  have h : m / 10 ^ k % 10 < 10 := Nat.mod_lt _ (by decide)
  unfold dgt
  have t : ∀ d : Fin 10, (Int32.ofNat (48 + d.val)).toInt8.toInt32 = Int32.ofNat (48 + d.val) := by decide +kernel
  exact t ⟨_, h⟩
theorem dgt_ne (m k : Nat) : ¬ dgt m k = 45 := by
  have h : m / 10 ^ k % 10 < 10 := Nat.mod_lt _ (by decide)
  unfold dgt
  have t : ∀ d : Fin 10, ¬ Int32.ofNat (48 + d.val) = 45 := by decide +kernel
  exact t ⟨_, h⟩
theorem ng_toInt {m : Nat} (h : m ≤ 2147483648) : (-(Int32.ofNat m)).toInt = -(m : Int) := by
  rw [Int32.toInt_neg]
  rcases Nat.lt_or_ge m 2147483648 with q | q
  · rw [Int32.toInt_ofNat_of_lt q, Int.bmod_eq_of_le (by omega) (by omega)]
  · have : m = 2147483648 := by omega
    subst this; rfl
theorem ng_lt {K m : Nat} (hK : K ≤ 2147483648) (hm : m ≤ 2147483648) : (-(Int32.ofNat K)) < (-(Int32.ofNat m)) ↔ m < K := by
  rw [Int32.lt_iff_toInt_lt, ng_toInt hK, ng_toInt hm]; omega
theorem ng_div {m : Nat} (h : m ≤ 2147483648) : (-(Int32.ofNat m)) / (100 : Int32) = -(Int32.ofNat (m / 100)) := by
  apply Int32.toInt_inj.mp
  rw [Int32.toInt_div_of_ne_right _ _ (by decide), ng_toInt h, ng_toInt (by omega)]
  have e : (100 : Int32).toInt = 100 := rfl
  rw [e, Int.neg_tdiv, Int.tdiv_eq_ediv_of_nonneg (by omega)]
  omega
theorem ng_rem {m : Nat} (h : m ≤ 2147483648) : (-(Int32.ofNat (m / 100))) * (100 : Int32) - (-(Int32.ofNat m)) = Int32.ofNat (m % 100) := by
  apply Int32.toInt_inj.mp
  have e : (100 : Int32).toInt = 100 := rfl
  rw [Int32.toInt_sub, Int32.toInt_mul, ng_toInt h, ng_toInt (by omega), e, Int32.toInt_ofNat_of_lt (by omega)]
  rw [Int.bmod_eq_of_le (n := (-((m / 100 : Nat) : Int)) * 100) (by omega) (by omega)]
  rw [Int.bmod_eq_of_le (by omega) (by omega)]
  omega
theorem ng_neg (m : Nat) : (-(-(Int32.ofNat m))) = Int32.ofNat m := by
  rw [Int32.neg_neg]
theorem own_dec {n k : Nat} (h : n + k < 4000) : Int32.ofNat (n + (k + 1)) + (-1 : Int32) = Int32.ofNat (n + k) := by
  apply Int32.toInt_inj.mp
  have e : (-1 : Int32).toInt = -1 := rfl
  rw [Int32.toInt_add, e, Int32.toInt_ofNat_of_lt (by omega), Int32.toInt_ofNat_of_lt (by omega)]
  rw [Int.bmod_eq_of_le (by omega) (by omega)]
  omega
theorem own_nat {i j : Nat} (hi : i ≤ 4000) (hj : j ≤ 4000) (h : Int32.ofNat i = Int32.ofNat j) : i = j := by
  have q := congrArg Int32.toInt h
  rw [Int32.toInt_ofNat_of_lt (by omega), Int32.toInt_ofNat_of_lt (by omega)] at q
  omega
theorem own_sub {i j : Nat} (h : i ≤ j) (hj : j ≤ 4000) : Int32.ofNat j - Int32.ofNat i = Int32.ofNat (j - i) := by
  apply Int32.toInt_inj.mp
  rw [Int32.toInt_sub, Int32.toInt_ofNat_of_lt (by omega), Int32.toInt_ofNat_of_lt (by omega), Int32.toInt_ofNat_of_lt (by omega)]
  rw [Int.bmod_eq_of_le (by omega) (by omega)]; omega
theorem own_addc {i c : Nat} (h : i + c ≤ 4000) : Int32.ofNat i + Int32.ofNat c = Int32.ofNat (i + c) := by
  apply Int32.toInt_inj.mp
  rw [Int32.toInt_add, Int32.toInt_ofNat_of_lt (by omega), Int32.toInt_ofNat_of_lt (by omega), Int32.toInt_ofNat_of_lt (by omega)]
  rw [Int.bmod_eq_of_le (by omega) (by omega)]; omega
theorem own_sub0 (x : Int32) : x - (0 : Int32) = x := by
  apply Int32.toBitVec_inj.mp; simp
theorem own_shl0 (c : Int32) : c <<< ((0 : Int32) &&& 31) = c := by
  apply Int32.toBitVec_inj.mp; simp
theorem own_fit {N cap : Nat} (h : N ≤ cap) (hc : cap ≤ 4000) : ¬ (0 : Int32) < (Int32.ofNat N - Int32.ofNat cap) := by
  have e0 : (0 : Int32).toInt = 0 := rfl
  rw [Int32.lt_iff_toInt_lt, Int32.toInt_sub, Int32.toInt_ofNat_of_lt (by omega), Int32.toInt_ofNat_of_lt (by omega), Int.bmod_eq_of_le (by omega) (by omega), e0]
  omega
def wr (vd : List Value) : Nat → List Value → List Value
  | _, [] => vd
  | n, b :: bs => (wr vd (n + 1) bs).set n b
theorem wr_block (vd : List Value) : ∀ (bs : List Value) (n : Nat), n + bs.length ≤ vd.length → wr vd n bs = vd.take n ++ bs ++ vd.drop (n + bs.length)
  | [], n, _ => by simp [wr]
  | b :: bs, n, h => by
    have ih := wr_block vd bs (n + 1) (by simp at h; omega)
    have hn : n < vd.length := by simp at h; omega
    show (wr vd (n + 1) bs).set n b = _
    rw [ih, List.take_add_one, List.getElem?_eq_getElem hn]
    have hl : (vd.take n).length = n := by rw [List.length_take]; omega
    simp only [Option.toList_some, List.append_assoc, List.cons_append, List.nil_append]
    have e : n + 1 + bs.length = n + (bs.length + 1) := by omega
    rw [List.set_append_right _ _ (by rw [hl]; exact Nat.le_refl n), hl, Nat.sub_self, List.set_cons_zero, List.length_cons, e]
theorem wr_len (vd : List Value) : ∀ (bs : List Value) (n : Nat), (wr vd n bs).length = vd.length
  | [], _ => rfl
  | b :: bs, n => by show ((wr vd (n + 1) bs).set n b).length = _; rw [List.length_set, wr_len vd bs (n + 1)]
theorem range_getD (l : List Value) (d : Value) : l = (List.range l.length).map fun i => l.getD (0 + i) d := by
  apply List.ext_getElem?
  intro i
  rcases Nat.lt_or_ge i l.length with h | h
  · rw [List.getElem?_map, List.getElem?_range h]; simp [h]
  · rw [List.getElem?_eq_none h, List.getElem?_eq_none (by simpa using h)]
theorem take_getD (l : List Value) (d : Value) {N : Nat} (hN : N ≤ l.length) : l.take N = (List.range N).map fun i => l.getD (0 + i) d := by
  apply List.ext_getElem?
  intro i
  rcases Nat.lt_or_ge i N with h | h
  · rw [List.getElem?_take, if_pos h, List.getElem?_map, List.getElem?_range h]; simp [Nat.lt_of_lt_of_le h hN]
  · rw [List.getElem?_eq_none (by rw [List.length_take]; omega), List.getElem?_eq_none (by simpa using h)]
def onesL : List Value := (List.range 100).map fun i => .int (Int32.ofNat (48 + i % 10))
def tensL : List Value := (List.range 100).map fun i => .int (Int32.ofNat (48 + i / 10))
theorem ones_at {r : Nat} (h : r < 100) : onesL.getD r (.int 0) = .int (Int32.ofNat (48 + r % 10)) := by
  unfold onesL; rw [List.getD_eq_getElem?_getD, List.getElem?_map, List.getElem?_range h]; rfl
theorem tens_at {r : Nat} (h : r < 100) : tensL.getD r (.int 0) = .int (Int32.ofNat (48 + r / 10)) := by
  unfold tensL; rw [List.getD_eq_getElem?_getD, List.getElem?_map, List.getElem?_range h]; rfl
def ndig (m : Nat) : Nat := if m < 10 then 1 else if m < 100 then 2 else if m < 1000 then 3 else if m < 10000 then 4 else if m < 100000 then 5 else if m < 1000000 then 6 else if m < 10000000 then 7 else if m < 100000000 then 8 else if m < 1000000000 then 9 else 10
def dec (i : Int32) : List Int32 := if i < 0 then 45 :: digs (ndig i.toInt.natAbs) i.toInt.natAbs else digs (ndig i.toInt.natAbs) i.toInt.natAbs
theorem ndig_pos (m : Nat) : 1 ≤ ndig m ∧ ndig m ≤ 10 := by
  unfold ndig; repeat' split
  all_goals omega
theorem dec_neg {m : Nat} (h0 : 1 ≤ m) (h : m ≤ 2147483648) : dec (-(Int32.ofNat m)) = 45 :: digs (ndig m) m := by
  have e := ng_toInt h
  have q : (-(Int32.ofNat m)) < 0 := by rw [Int32.lt_iff_toInt_lt, e]; have e0 : (0 : Int32).toInt = 0 := rfl; omega
  have a : (-(Int32.ofNat m)).toInt.natAbs = m := by rw [e]; omega
  unfold dec; rw [if_pos q, a]
theorem dec_pos {m : Nat} (h : m < 2147483648) : dec (Int32.ofNat m) = digs (ndig m) m := by
  have e := Int32.toInt_ofNat_of_lt h
  have q : ¬ (Int32.ofNat m) < 0 := by rw [Int32.lt_iff_toInt_lt, e]; have e0 : (0 : Int32).toInt = 0 := rfl; omega
  have a : (Int32.ofNat m).toInt.natAbs = m := by rw [e]; omega
  unfold dec; rw [if_neg q, a]
theorem int_cases (i : Int32) : (∃ m : Nat, 1 ≤ m ∧ m ≤ 2147483648 ∧ i = -(Int32.ofNat m)) ∨ (∃ m : Nat, m < 2147483648 ∧ i = Int32.ofNat m) := by
  have hb : -2147483648 ≤ i.toInt ∧ i.toInt < 2147483648 := ⟨Int32.le_toInt i, Int32.toInt_lt i⟩
  rcases Int.lt_or_le i.toInt 0 with h | h
  · refine Or.inl ⟨i.toInt.natAbs, by omega, by omega, ?_⟩
    apply Int32.toInt_inj.mp; rw [ng_toInt (by omega)]; omega
  · refine Or.inr ⟨i.toInt.toNat, by omega, ?_⟩
    apply Int32.toInt_inj.mp; rw [Int32.toInt_ofNat_of_lt (by omega)]; omega
theorem nd_range {m : Nat} : (ndig m = 1 ∧ m < 10) ∨ (ndig m = 2 ∧ 10 ≤ m ∧ m < 100) ∨ (ndig m = 3 ∧ 100 ≤ m ∧ m < 1000) ∨ (ndig m = 4 ∧ 1000 ≤ m ∧ m < 10000) ∨ (ndig m = 5 ∧ 10000 ≤ m ∧ m < 100000) ∨ (ndig m = 6 ∧ 100000 ≤ m ∧ m < 1000000) ∨ (ndig m = 7 ∧ 1000000 ≤ m ∧ m < 10000000) ∨ (ndig m = 8 ∧ 10000000 ≤ m ∧ m < 100000000) ∨ (ndig m = 9 ∧ 100000000 ≤ m ∧ m < 1000000000) ∨ (ndig m = 10 ∧ 1000000000 ≤ m) := by
  unfold ndig
  repeat' split
  all_goals omega
def z18 : List Value := [.int 0, .int 0, .int 0, .int 0, .int 0, .int 0, .int 0, .int 0, .int 0, .int 0, .int 0, .int 0, .int 0, .int 0, .int 0, .int 0, .int 0, .int 0]
theorem nn0 {k : Nat} (h : k ≤ 4000) : ¬ Int32.ofNat k < 0 := own_nlt (j := 0) h (Nat.zero_le _)
theorem bytes_len (cs : List Int32) : (bytesOfCs cs).length = cs.length := by simp [bytesOfCs]
theorem bytes_app (cs ds : List Int32) : bytesOfCs (cs ++ ds) = bytesOfCs cs ++ bytesOfCs ds := by simp [bytesOfCs]
theorem app_vd (cs ds : List Int32) (tl : List Value) : (bytesOfCs cs ++ tl).take cs.length ++ bytesOfCs ds ++ (bytesOfCs cs ++ tl).drop (cs.length + ds.length) = bytesOfCs (cs ++ ds) ++ tl.drop ds.length := by
  have h := bytes_len cs
  rw [bytes_app, List.take_append_of_le_length (by omega), List.take_of_length_le (by omega), List.drop_append, List.drop_of_length_le (by omega), h]
  simp
theorem take_vd (cs : List Int32) (tl : List Value) : (bytesOfCs cs ++ tl).take cs.length = bytesOfCs cs := by
  have h := bytes_len cs
  rw [List.take_append_of_le_length (by omega), List.take_of_length_le (by omega)]
theorem hus_all (l : List Value) (d : Value) {k : Nat} (hk : k < 2147483648) (hl : l.length = k) : l = (List.range (Int32.ofNat k).toNatClampNeg).map fun i => l.getD ((0 : Int32).toNatClampNeg + i) d := by
  rw [own_clamp hk, ← hl]
  exact range_getD l d
theorem hus_take (l : List Value) (d : Value) {k : Nat} (hk : k < 2147483648) (hl : k ≤ l.length) : l.take k = (List.range (Int32.ofNat k).toNatClampNeg).map fun i => l.getD ((0 : Int32).toNatClampNeg + i) d := by
  rw [own_clamp hk]
  exact take_getD l d hl
theorem neg_lt0 {m : Nat} (h0 : 1 ≤ m) (h : m ≤ 2147483648) : (-(Int32.ofNat m)) < 0 := by
  have e0 : (0 : Int32).toInt = 0 := rfl
  rw [Int32.lt_iff_toInt_lt, ng_toInt h, e0]; omega
theorem pos_nlt0 {m : Nat} (h : m < 2147483648) : ¬ Int32.ofNat m < 0 := by
  have e0 : (0 : Int32).toInt = 0 := rfl
  rw [Int32.lt_iff_toInt_lt, Int32.toInt_ofNat_of_lt h, e0]; omega
theorem nar_dgt (m k : Nat) : nar .byte (dgt m k) = dgt m k := by
  have q := nar_i2b (dgt m k)
  rw [dgt_byte] at q
  exact q
theorem bytes_digs : ∀ (k m : Nat), bytesOfCs (digs k m) = (digs k m).map Value.int
  | 0, _ => rfl
  | k + 1, m => by
    show Value.int (dgt m k).toInt8.toInt32 :: bytesOfCs (digs k m) = Value.int (dgt m k) :: (digs k m).map Value.int
    rw [dgt_byte, bytes_digs k m]
def DgOk (Z : State) : Prop := ∃ (o1 : Addr) (k1 : ClassId) (o2 : Addr) (k2 : ClassId), Sta Z Z.heap "java/lang/Integer" "DigitOnes" "[B" (.ref o1) ∧ Arv Z Z.heap o1 k1 .byte (100 : Int32) onesL (.int 0) ∧ Sta Z Z.heap "java/lang/Integer" "DigitTens" "[B" (.ref o2) ∧ Arv Z Z.heap o2 k2 .byte (100 : Int32) tensL (.int 0)
theorem dgt_div (M j : Nat) : dgt (M / 100) j = dgt M (j + 2) := by
  unfold dgt
  rw [Nat.div_div_eq_div_mul, show 100 * 10 ^ j = 10 ^ (j + 2) by rw [Nat.pow_add]; omega]
theorem digs_two : ∀ (c M : Nat), digs (c + 2) M = digs c (M / 100) ++ [dgt M 1, dgt M 0]
  | 0, M => rfl
  | c + 1, M => by
    show dgt M (c + 2) :: digs (c + 2) M = dgt (M / 100) c :: (digs c (M / 100) ++ [dgt M 1, dgt M 0])
    rw [digs_two c M, dgt_div]
theorem ndig_two {M : Nat} (h : 100 ≤ M) (hM : M ≤ 2147483648) : ndig M = ndig (M / 100) + 2 := by
  rcases nd_range (m := M) with ⟨e, q1⟩ | ⟨e, q1, q2⟩ | ⟨e, q1, q2⟩ | ⟨e, q1, q2⟩ | ⟨e, q1, q2⟩ | ⟨e, q1, q2⟩ | ⟨e, q1, q2⟩ | ⟨e, q1, q2⟩ | ⟨e, q1, q2⟩ | ⟨e, q1⟩ <;> rcases nd_range (m := M / 100) with ⟨e', p1⟩ | ⟨e', p1, p2⟩ | ⟨e', p1, p2⟩ | ⟨e', p1, p2⟩ | ⟨e', p1, p2⟩ | ⟨e', p1, p2⟩ | ⟨e', p1, p2⟩ | ⟨e', p1, p2⟩ | ⟨e', p1, p2⟩ | ⟨e', p1⟩ <;> omega
theorem ndig_one {M : Nat} (h : M < 10) : ndig M = 1 := if_pos h
theorem ndig_ten {M : Nat} (h : 10 ≤ M) (h2 : M < 100) : ndig M = 2 := by unfold ndig; rw [if_neg (by omega), if_pos h2]
theorem set_tk {α : Type} (l : List α) {n k : Nat} (x : α) (h : n ≤ k) : (l.set k x).take n = l.take n := by
  rw [List.take_set]; exact List.set_eq_of_length_le (by rw [List.length_take]; omega)
theorem set_dp {α : Type} (l : List α) {k : Nat} (x : α) (h : k < l.length) : (l.set k x).drop k = x :: l.drop (k + 1) := by
  rw [List.drop_set, if_neg (by omega), Nat.sub_self, List.drop_eq_getElem_cons h]; rfl
def blk (vd : List Value) (n : Nat) (cs : List Int32) : List Value := vd.take n ++ bytesOfCs cs ++ vd.drop (n + cs.length)
theorem blk_len {vd : List Value} {n : Nat} {cs : List Int32} (h : n + cs.length ≤ vd.length) : (blk vd n cs).length = vd.length := by
  unfold blk; rw [List.length_append, List.length_append, List.length_take, List.length_drop, bytes_len]; omega
theorem bytes_dgt (M j : Nat) : bytesOfCs [dgt M j] = [.int (dgt M j)] := by
  show [Value.int (dgt M j).toInt8.toInt32] = _; rw [dgt_byte]
theorem blk_two {vd : List Value} {n c M : Nat} (h : n + (c + 2) ≤ vd.length) : blk ((vd.set (n + (c + 1)) (.int (dgt M 0))).set (n + c) (.int (dgt M 1))) n (digs c (M / 100)) = blk vd n (digs (c + 2) M) := by
  unfold blk
  rw [digs_len, digs_len, set_tk _ _ (by omega), set_tk _ _ (by omega), set_dp _ _ (by rw [List.length_set]; omega), show n + c + 1 = n + (c + 1) by omega, set_dp _ _ (by omega), digs_two, bytes_app]
  show _ = vd.take n ++ (_ ++ (Value.int (dgt M 1).toInt8.toInt32 :: Value.int (dgt M 0).toInt8.toInt32 :: [])) ++ _
  rw [dgt_byte, dgt_byte, show n + (c + 1) + 1 = n + (c + 2) by omega]
  simp
theorem blk_1 {vd : List Value} {n M : Nat} (h : n + 1 ≤ vd.length) : vd.set (n + 0) (.int (dgt M 0)) = blk vd n (digs 1 M) := by
  have e : bytesOfCs (digs 1 M) = [.int (dgt M 0)] := bytes_dgt M 0
  unfold blk
  rw [digs_len, e, Nat.add_zero n, ← List.take_append_drop n (vd.set n _), set_tk _ _ (Nat.le_refl n), set_dp _ _ (by omega)]; simp
theorem blk_2 {vd : List Value} {n M : Nat} (h : n + 2 ≤ vd.length) : (vd.set (n + 1) (.int (dgt M 0))).set (n + 0) (.int (dgt M 1)) = blk vd n (digs 2 M) := by
  rw [← blk_two (c := 0) h]
  unfold blk
  show _ = List.take n _ ++ [] ++ List.drop (n + 0) _
  rw [List.append_nil, Nat.add_zero n, List.take_append_drop]
theorem blk_sg {vd : List Value} {n : Nat} {cs : List Int32} (h : n + 1 + cs.length ≤ vd.length) : (blk vd (n + 1) cs).set (n + 0) (.int 45) = blk vd n (45 :: cs) := by
  unfold blk
  rw [Nat.add_zero n, List.append_assoc, List.set_append_left _ _ (by rw [List.length_take]; omega), List.length_cons, show n + 1 + cs.length = n + (cs.length + 1) by omega]
  have e : (vd.take (n + 1)).set n (.int 45) = vd.take n ++ [.int 45] := by
    rw [← List.take_append_drop n ((vd.take (n + 1)).set n _), set_tk _ _ (Nat.le_refl n), set_dp _ _ (by rw [List.length_take]; omega), List.take_take, Nat.min_eq_left (by omega), List.drop_of_length_le (by rw [List.length_take]; omega)]
  rw [e]
  show _ = vd.take n ++ (Value.int (45 : Int32).toInt8.toInt32 :: bytesOfCs cs) ++ _
  simp
theorem eD0 {M : Nat} : Int32.ofNat (48 + M % 10) = dgt M 0 := congrArg Int32.ofNat (show 48 + M % 10 = 48 + M / 1 % 10 by omega)
theorem eD1 {M : Nat} (h : M < 100) : Int32.ofNat (48 + M / 10) = dgt M 1 := congrArg Int32.ofNat (show 48 + M / 10 = 48 + M / 10 % 10 by omega)
theorem eD2 {M : Nat} : Int32.ofNat (48 + M % 100 % 10) = dgt M 0 := congrArg Int32.ofNat (show 48 + M % 100 % 10 = 48 + M / 1 % 10 by omega)
theorem eD3 {M : Nat} : Int32.ofNat (48 + M % 100 / 10) = dgt M 1 := congrArg Int32.ofNat (show 48 + M % 100 / 10 = 48 + M / 10 % 10 by omega)
theorem app_hl {cs ds : List Int32} {tl : List Value} {c : Nat} (h : (bytesOfCs cs ++ tl).length = c) (hn : cs.length + ds.length ≤ c) : (bytesOfCs (cs ++ ds) ++ tl.drop ds.length).length = c := by
  rw [List.length_append, bytes_len] at h ⊢
  rw [List.length_append, List.length_drop]; omega
theorem app_vg (cs ds : List Int32) (tl : List Value) : ((bytesOfCs cs ++ tl) ++ z18).take cs.length ++ bytesOfCs ds ++ ((bytesOfCs cs ++ tl) ++ z18).drop (cs.length + ds.length) = bytesOfCs (cs ++ ds) ++ (tl ++ z18).drop ds.length := by
  rw [List.append_assoc (bytesOfCs cs)]; exact app_vd cs ds (tl ++ z18)
theorem app_hg {cs ds : List Int32} {tl : List Value} (h : (bytesOfCs cs ++ tl).length = 16) (hn : cs.length + ds.length ≤ 34) : (bytesOfCs (cs ++ ds) ++ (tl ++ z18).drop ds.length).length = 34 := by
  have hz : z18.length = 18 := rfl
  exact app_hl (by rw [List.length_append, bytes_len] at h ⊢; rw [List.length_append, hz]; omega) hn
def txt (F R : List Int32) (i : Int32) : List Int32 := ((((([] : List Int32) ++ F) ++ [58]) ++ dec i) ++ [58, 32]) ++ R
theorem dec_len (i : Int32) : 1 ≤ (dec i).length ∧ (dec i).length ≤ 11 := by
  unfold dec
  split
  · rw [List.length_cons, digs_len]; have := ndig_pos i.toInt.natAbs; omega
  · rw [digs_len]; have := ndig_pos i.toInt.natAbs; omega
theorem digs_b : ∀ (k m : Nat), ∀ c ∈ digs k m, ¬ c < 0 ∧ ¬ (255 : Int32) < c
  | 0, _ => fun c hc => nomatch hc
  | k + 1, m => chS (dgt_b m k) (digs_b k m)
theorem dec_b (i : Int32) : ∀ c ∈ dec i, ¬ c < 0 ∧ ¬ (255 : Int32) < c := by
  unfold dec
  split
  · exact chS ⟨by decide, by decide⟩ (digs_b _ _)
  · exact digs_b _ _
theorem app_b {cs ds : List Int32} (h1 : ∀ c ∈ cs, ¬ c < 0 ∧ ¬ (255 : Int32) < c) (h2 : ∀ c ∈ ds, ¬ c < 0 ∧ ¬ (255 : Int32) < c) : ∀ c ∈ cs ++ ds, ¬ c < 0 ∧ ¬ (255 : Int32) < c := fun c hc => (List.mem_append.mp hc).elim (h1 c) (h2 c)
theorem txt_b {F R : List Int32} {i : Int32} (h1 : ∀ c ∈ F, ¬ c < 0 ∧ ¬ (255 : Int32) < c) (h2 : ∀ c ∈ R, ¬ c < 0 ∧ ¬ (255 : Int32) < c) : ∀ c ∈ txt F R i, ¬ c < 0 ∧ ¬ (255 : Int32) < c :=
  app_b (app_b (app_b (app_b (app_b ch0 h1) (chS ⟨by decide, by decide⟩ ch0)) (dec_b i)) (chS ⟨by decide, by decide⟩ (chS ⟨by decide, by decide⟩ ch0))) h2
/-! Throwable.fillInStackTrace on an object of a class that the tables say lays Throwable's fields (no word that Throwable itself lays 'suppressedExceptions') -/
section OwnFill
variable {C : Cx} {R : Room} {bs : ByteArray} {ml : Nat} {Z : State} {n0 ce sl pc : Nat} {Ls : Array Slot} {rest : List Value} {h : Heap} {Ds : List Addr} {a0 : Array Value}
open Jvm.Bundle LibCode.Throwable Jvm.Free.Exc
abbrev RFn : String := "provento/files/Refusal"
def thW : List Jvm.Cond := [.initialized tN, .superclass tN "java/lang/Object", .instanceMethod tFill, .codeSync tFill Fill.code 1 (some (.object tN)), .instanceMethod tFill0, .native tFill0, .instanceMethod oInit, .code oInit ⟨#[0xb1]⟩ 1 none,
  .methodLink tN 1 oInit, .methodLink tN 27 tFill, .methodLink tN 202 tFill0, .fieldLink tN 7 tN "cause" thD, .fieldLink tN 17 tN "stackTrace" steD, .fieldLink tN 24 tN "suppressedExceptions" listD, .fieldLink tN 13 tN "UNASSIGNED_STACK" steD, .fieldLink tN 20 tN "SUPPRESSED_SENTINEL" listD,
  .laysStatic tN "UNASSIGNED_STACK" steD, .laysStatic tN "SUPPRESSED_SENTINEL" listD, .lays RFn tN "cause" thD, .lays RFn tN "stackTrace" steD, .lays RFn tN "suppressedExceptions" listD, .lays RFn tN "detailMessage" msgD, .lays RFn tN "backtrace" obD, .lays RFn tN "depth" "I",
  .fieldLink tN 198 tN "backtrace" obD, .declares tFill, .selects RFn tFill0 tFill0, .selects RFn tFill tFill, .arrayOver (.object "java/lang/Object"), .soleField tN "backtrace", .soleField tN "depth"]
theorem thW_in : ∀ d ∈ thW, d ∈ tables_1 := by decide +kernel
theorem thW_ok : thW.all xOk = true := rfl
set_option maxHeartbeats 4000000 in
theorem own_links {args : Array Value} {s : State} {pl : Platform} (howns : pl.frameOwnsMonitors = true) (hfin : pl.finalization = false) (hpl : pl.magicAccessors = ({} : Platform).magicAccessors) (w : ∀ d, d ∈ thW → d.before args s = true) :
    ∃ T : ThrowableC, T.Links pl s ∧ s.vm.findClass tN = some T.cT ∧ s.methodNamed? tFill = some T.fill ∧ s.methodNamed? tFill0 = some T.fill0 ∧ s.fieldFound? tN "stackTrace" steD = some (T.cT, T.kT, T.i17, T.fStack) ∧ s.fieldFound? tN "UNASSIGNED_STACK" steD = some (T.cT, T.kT, T.i13, T.fUnassigned) ∧ T.fStack.type = .array (.object "java/lang/StackTraceElement") := by
  have g : ∀ (i : Nat) {d : Jvm.Cond}, thW[i]? = some d → d.holds args s none s [] = true := fun i d q => w d (List.mem_of_getElem? q)
  -- the class
  obtain ⟨⟨c, j0⟩, v0, r1, r2, r3, r4, r5, r6⟩ := Cond.native_spec (g 5 rfl)
  have hc : s.vm.findClass tN = some c := findClass_of_methodNamed r1
  obtain ⟨k, hk, hkn⟩ := Vm.findClass_spec hc
  obtain ⟨_, _, _, _, x1, _, _, x2, _, x3⟩ := Cond.superclass_spec hc (g 1 rfl)
  cases hk.symm.trans x1
  -- its two methods, Object's constructor
  obtain ⟨jF, vF, f1, f2, f3, f4, f5, -, -⟩ := Cond.ownMethod (x := tFill) hc hk (g 2 rfl)
  obtain ⟨_, cF, f6, f7, f8, f9, f10, f11, -, f12⟩ := Cond.codeSync_spec f1 (g 3 rfl)
  cases f2.symm.trans f6
  obtain ⟨_, _, y1, y2, y3, y4, y5, y6, y7⟩ := Cond.ownMethod (x := tFill0) hc hk (g 4 rfl)
  cases r1.symm.trans y1
  cases r2.symm.trans y2
  obtain ⟨mo, vo, o1, o2, o3, o4⟩ := Cond.instanceMethod_spec (g 6 rfl)
  obtain ⟨_, co, o5, o6, o7, -, -, o8, -, o9⟩ := Cond.code_spec o1 (g 7 rfl)
  cases o2.symm.trans o5
  obtain ⟨ko, o10, o11⟩ := Vm.findClass_spec (findClass_of_methodNamed o1)
  obtain ⟨o12, o13⟩ := name_of_methodNamed o1 o2
  -- the pool's entries
  obtain ⟨a1, b1, cf, l1, m1, n1, q1⟩ := Cond.linkedMethod hc hk o1 (g 8 rfl) pl hpl
  obtain ⟨a2, b2, _, l2, m2, n2, q2⟩ := Cond.linkedMethod hc hk f1 (g 9 rfl) pl hpl
  cases n1.symm.trans n2
  obtain ⟨a3, b3, _, l3, m3, n3, q3⟩ := Cond.linkedMethod hc hk r1 (g 10 rfl) pl hpl
  cases n1.symm.trans n3
  -- the fields: by the subclass's layout
  obtain ⟨d7, j7, F7, c1, c2, c3, c4, c5, -, -, -⟩ := Cond.ownField (t := .object tN) hc hk (by decide +kernel) (g 11 rfl) (g 18 rfl) pl hpl
  obtain ⟨d17, j17, F17, s1, s2, s3, s4, s5, s6, s7, s8⟩ := Cond.ownField (t := .array (.object "java/lang/StackTraceElement")) hc hk (by decide +kernel) (g 12 rfl) (g 19 rfl) pl hpl
  obtain ⟨d24, j24, F24, e1, e2, e3, e4, e5, e6, -, e8⟩ := Cond.ownField (t := .object "java/util/List") hc hk (by decide +kernel) (g 13 rfl) (g 20 rfl) pl hpl
  obtain ⟨d13, j13, F13, st, _, u1, u2, u3, u4, -, -, u5, -, -, -, -, u6⟩ := Cond.ownStatic (t := .array (.object "java/lang/StackTraceElement")) hc hk (by decide +kernel) (g 14 rfl) (g 16 rfl) pl hpl
  obtain ⟨d20, j20, F20, _, _, t1, t2, t3, t4, -, -, -, -, -, -, -, -⟩ := Cond.ownStatic (t := .object "java/util/List") hc hk (by decide +kernel) (g 15 rfl) (g 17 rfl) pl hpl
  obtain ⟨_, _, _, _, _, FM, _, _, -, p1, p2, -⟩ := Cond.lays_spec (g 21 rfl)
  have hap : F17.slot ≠ F24.slot := Cond.lays_apart (g 19 rfl) (g 20 rfl) s8 e8 (by rw [s6, e6]; decide)
  have pF : vF.sig.parameters = [] := by
    have q : (parseMethodDescriptor tFill.desc).map (·.parameters) = some [] := by decide +kernel
    rw [f12] at q; exact Option.some.inj q
  have p0 : v0.sig.parameters = [.int] := by
    have q : (parseMethodDescriptor tFill0.desc).map (·.parameters) = some [.int] := by decide +kernel
    rw [r6] at q; exact Option.some.inj q
  have pO : vo.sig.parameters.length = 0 := by
    have q : (parseMethodDescriptor oInit.desc).map (fun z => z.parameters.length) = some 0 := by decide +kernel
    rw [o9] at q; exact Option.some.inj q
  refine ⟨⟨⟨c, k, c, st, jF, j0, jF, mo, ko, vF, v0, vF, vo, cF, cF, co, F7, F7, F17, F7, F24, FM, F13, F20⟩, cf, a1, b1, a2, b2, a3, b3, d7, j7, d13, j13, d17, j17, d20, j20, d24, j24⟩, ?_, hc, f1, r1, s8, u6, s7⟩
  constructor <;> first | assumption | exact Vm.findClass_boot hc hk | exact Cond.initialized_spec hc hk (g 0 rfl) | (show lookupSpecial s.vm mo.cls "<init>" vo.desc = _; rw [o13]; exact lookupSpecial_of_named o1 o2 o3)
theorem own_fldk {h' : Heap} {ws : List Addr} {a : Addr} {O f d : String} {v : Value} (F : Fld Z h a O f d v) (K : Keep h h' ws) : ∃ u, Fld Z h' a O f d u := by
  obtain ⟨c, cf, k, i, fd, q1, q2, q3, q4, q5, q6, q7⟩ := F
  obtain ⟨c', r1, r2, r3, r4⟩ := K.2.2 _ _ q1
  have hl : fd.slot < c'.slots.size := by rw [r4]; exact (Array.getElem?_eq_some_iff.mp q7).1
  exact ⟨c'.slots[fd.slot], c', cf, k, i, fd, r1, q2, q3, by rw [r3]; exact q4, by rw [r3]; exact q5, by rw [r2]; exact q6, Array.getElem?_eq_getElem hl⟩
set_option maxHeartbeats 4000000 in
theorem Rc.fill {pc' W n : Nat} {a au : Addr} (H : Rc C R "java/lang/Throwable" bs ml Z n0 ce sl pc Ls (.ref a :: rest) h Ds) (hst : C.l.stackTraces = true) (hKn : C.s.vm.MethodsKnown ∧ C.s.vm.FramesKnown C.below) (hO : Old Z n0 C.s.heap) (hw : HW a0 Z) (wi : (Jvm.Cond.instantiable RFn n).before a0 Z = true)
    (E : Exa Z h a RFn) (N : Unt h a) (B : Fld Z h a "java/lang/Throwable" "backtrace" "Ljava/lang/Object;" .null) (Fs : Fld Z h a "java/lang/Throwable" "stackTrace" "[Ljava/lang/StackTraceElement;" (.ref au)) (Su : Sta Z Z.heap "java/lang/Throwable" "UNASSIGNED_STACK" "[Ljava/lang/StackTraceElement;" (.ref au)) (ha : a ∈ Ds)
    (hsz : Ls.size = ml) (hd : decode bs pc = .ok (.invokevirtual 27, 3)) (hW : (rest.map fun v => v.category).sum = W) (hf : 3 ≤ R.frames) (hlo : W + 42 ≤ R.locals) (hc : ce + 1 ≤ R.cells) (hsl : sl + 2752 ≤ R.slots) (hp : pc + 3 = pc') :
    ∃ h', Keep h h' [a] ∧ Rc C R "java/lang/Throwable" bs ml Z n0 (ce + 1) (sl + 2752) pc' Ls (.ref a :: rest) h' Ds := by
  subst hp
  obtain ⟨T, locs, vm0, k0, X, h1, h2, h3, h4, h5, h6, h7, k⟩ := H
  have hT0 : ThS Z (C.s.setVm vm0).heap := ThS.ext (show Ext Z.heap (C.s.setVm vm0).heap from hO.2) ThS.start
  have w : ∀ d, d ∈ thW → d.before C.args (C.s.setVm vm0) = true := fun d hd => mvX hT0 h3 (List.all_eq_true.mp thW_ok d hd) (hw d (thW_in d hd))
  have g : ∀ (i : Nat) {d : Jvm.Cond}, thW[i]? = some d → d.before C.args (C.s.setVm vm0) = true := fun i d q => w d (List.mem_of_getElem? q)
  have g' : ∀ (i : Nat) {d : Jvm.Cond}, thW[i]? = some d → d.holds C.args (C.s.setVm vm0) none (C.s.setVm vm0) [] = true := fun i d q => w d (List.mem_of_getElem? q)
  have hpl : C.e.platform.magicAccessors = ({} : Platform).magicAccessors := by rw [X.admits.platform]
  have htr : C.e.platform.stackTraces = true := by rw [X.admits.platform]; exact hst
  obtain ⟨TT, L, yC, yF, y0, yS, yU, tS⟩ := own_links (args := C.args) (s := C.s.setVm vm0) (pl := C.e.platform) (by rw [X.admits.platform]) (by rw [X.admits.platform]) hpl w
  have hal : Z.vm.Alike (C.s.setVm vm0).vm := h3.alike
  -- the object
  obtain ⟨cell, kc, e1, e2, e3, e4, e5⟩ := id E
  obtain ⟨_, u1, u2, u3⟩ := N
  cases e1.symm.trans u1
  obtain ⟨_, _, _, j0, fb0, b1, b2, -, -, -, -, b7⟩ := B
  cases e1.symm.trans b1
  obtain ⟨_, _, _, _, fs0, s1, s2, -, -, -, -, s7⟩ := Fs
  cases e1.symm.trans s1
  obtain ⟨_, _, i1, i2, i3, -⟩ := Cond.instantiable_spec wi
  cases e2.symm.trans i1
  cases e3.symm.trans i2
  obtain ⟨kX, hk, ek⟩ := hal.2.2 _ _ e3
  have hfound : (C.s.setVm vm0).vm.findClass RFn = some cell.cls := by rw [hal.findClass]; exact e2
  have hord : kX.kind = .ordinary := by rw [ek]; exact i3
  have hsize : cell.slots.size = kX.instanceTypes.size := by rw [ek]; exact e5 i3
  -- the statics
  obtain ⟨cfU, iU, kU, fU, stA, cellS, z1, z2, z3, z4, z5, z6, z7⟩ := Su.ext h4.1.2
  obtain ⟨kU', z8, z9⟩ := State.fieldFound?_setVm (s := Z) hal z1
  cases yU.symm.trans (show (C.s.setVm vm0).fieldFound? tN "UNASSIGNED_STACK" steD = _ from z8)
  have hstA : TT.aS = stA := Option.some.inj (L.statics.symm.trans (by rw [z9]; exact z4))
  have hneS : TT.aS ≠ a := fun q => by
    rw [hstA] at q; rw [q] at z5; cases e1.symm.trans z5; rw [e4] at z6; cases z6
  -- the fields
  obtain ⟨kS', s8, -⟩ := State.fieldFound?_setVm (s := Z) hal s2
  cases yS.symm.trans (show (C.s.setVm vm0).fieldFound? tN "stackTrace" steD = _ from s8)
  obtain ⟨ci, j, fB, v1, v2, v3, v4, -, v5, v6, v7⟩ := Cond.ownField (t := .object "java/lang/Object") yC L.cls (by decide +kernel) (g' 24 rfl) (g' 22 rfl) C.e.platform hpl
  obtain ⟨kB', b8, -⟩ := State.fieldFound?_setVm (s := Z) hal b2
  cases v7.symm.trans (show (C.s.setVm vm0).fieldFound? tN "backtrace" obD = _ from b8)
  obtain ⟨_, _, cD, kD, jD, fD, _, _, d1, d2, -⟩ := Cond.lays_spec (g' 23 rfl)
  cases (Cond.lays_declared (g' 23 rfl) d1).symm.trans yC
  obtain ⟨d3, d4⟩ := State.fieldFound?_spec d1
  cases d3.symm.trans L.cls
  obtain ⟨d5, d6⟩ := State.fieldFound?_type d1 (t := .int) (by decide +kernel)
  have hfb := Cond.soleField_find yC L.cls (g' 29 rfl) v3 v5 v4
  have hfd := Cond.soleField_find yC L.cls (g' 30 rfl) d4 d5 d2
  obtain ⟨comp, cO, kO, -, -, o1, o2, o3⟩ := Cond.arrayOver_spec (g 28 rfl)
  obtain ⟨tyS, -⟩ := Cond.laysAt hfound hk yS (g' 19 rfl)
  obtain ⟨tyB, -⟩ := Cond.laysAt hfound hk v7 (g' 22 rfl)
  obtain ⟨tyD, -⟩ := Cond.laysAt hfound hk d1 (g' 23 rfl)
  have tk : ∀ {f : Field} {v : Value}, kX.instanceTypes[f.slot]? = some f.type → fits f.type v = true → Jvm.Takes (C.s.setVm vm0) cell f v := fun {f v} q1 q2 => by
    obtain ⟨t1, t2⟩ := Takes.of_laid (v := v) hk hord q1 q2
    exact ⟨by rw [hsize]; simpa using t1, by rw [u2]; exact t2⟩
  have hsel0 : selectMethod C.e.platform (C.s.setVm vm0).vm cell.cls TT.fill0 = .method TT.fill0 := by
    obtain ⟨_, _, _, q1, q2, q3, q4, -⟩ := Cond.selects_spec (g' 26 rfl)
    cases q1.symm.trans hfound
    cases q2.symm.trans (State.methodFound?_of_named y0 (by decide))
    cases q3.symm.trans y0
    rw [Launch.admits_selectMethod X.admits]; exact q4
  have hcT : T.heap[a]? = some cell := by rw [h5]; exact e1
  have hsT : T.heap[TT.aS]? = some cellS := by rw [h5, hstA]; exact z5
  obtain ⟨v, vm1, ⟨U, LL, cc, ss⟩, hw1, X', ⟨hv, vm', lines, hl, hw2, hU, hL, hcc, hss⟩, st⟩ := X.virtualBack h7.1 (own := "java/lang/Throwable") (C := RFn) (index := 27) (y := tFill) (z := tFill) h7.2.2.2.1 (g 9 rfl) (g 25 rfl) (notFace_of_selects (g 27 rfl)) (g 27 rfl) (g 2 rfl) (by decide)
    (Jvm.Free.Str.fillPays (l := C.l) (R := R) (W := W) (len := 3) (sargs := C.args) h7.1 htr TT L yF (u0 := ⟨.ref au, rfl⟩) (by simp) (self := a) (cell := cell) (cellS := cellS) (fun _ => by rw [u2]; simp) (by rw [u2]; simp) (by rw [u3]) (by rw [u3]) s7 hsel0 hneS (fun q => by rw [q] at z6; cases z6) z7 (tk tyS (by rw [tS]; rfl))
      ⟨{ ci198 := ci, i198 := j0, fBack := fb0 }, ⟨v1, v2, v3, v4⟩, b7⟩ (Vm.MethodsKnown.alikeC h1.1.alike hKn.1) (Vm.FramesKnown.alikeC h1.1.alike hKn.2) yC o3 o1 o2 hfb hfd (fun x => tk tyB (by rw [v6]; rfl)) (fun x => tk tyD (by rw [d6]; rfl)) (by omega) hlo)
    (b := a) (cB := cell.cls) hfound ⟨cell, hcT, rfl, e4⟩ (g := mkF C.m pc Ls (.ref a :: rest)) rfl (hsz.trans h7.2.2.1.symm) (Steps.refl _) (argsL := []) (rest := rest)
    (fun sig q => by rw [show parseMethodDescriptor tFill.desc = some ⟨[], some (.object tN)⟩ from by decide +kernel] at q; rw [← Option.some.inj q]; rfl) rfl (by show 2 * 0 + _ ≤ W; omega) (hb h7.2.1 hd)
    (fun vmx hWx => ⟨rfl, hc, hsl, hcT, hsT⟩)
  dsimp only [Pt.U, Pt.locs, Pt.cells, Pt.slots] at X' hU hL hcc hss st
  subst hv hL hcc hss
  have hlt : a < h.size := (Array.getElem?_eq_some_iff.mp e1).1
  have hUh : U.heap = (h.push (traceHolder cO lines)).setIfInBounds a (Jvm.Free.Str.filledOn TT.toThrowableT fb0 fD cell ⟨.ref au, rfl⟩ h.size lines.length.toInt32) := by
    rw [hU, ← h5]; rfl
  have K : Keep h U.heap [a] := by
    rw [hUh]
    refine ⟨by simp, fun x c q ne => ?_, fun x c q => ?_⟩
    · have hx := (Array.getElem?_eq_some_iff.mp q).1
      have hne : a ≠ x := fun z => ne (by rw [z]; exact List.mem_singleton.mpr rfl)
      rw [Array.getElem?_setIfInBounds, if_neg hne, Array.getElem?_push, if_neg (Nat.ne_of_lt hx)]; exact q
    · have hx := (Array.getElem?_eq_some_iff.mp q).1
      by_cases z : a = x
      · subst z
        cases e1.symm.trans q
        refine ⟨Jvm.Free.Str.filledOn TT.toThrowableT fb0 fD cell ⟨.ref au, rfl⟩ h.size lines.length.toInt32, by rw [Array.getElem?_setIfInBounds, if_pos rfl, if_pos (by rw [Array.size_push]; omega)], rfl, rfl, by simp [Jvm.Free.Str.filledOn, Cell.setSlot]⟩
      · exact ⟨c, by rw [Array.getElem?_setIfInBounds, if_neg z, Array.getElem?_push, if_neg (Nat.ne_of_lt hx)]; exact q, rfl, rfl, rfl⟩
  exact ⟨U.heap, K, U, _, vm0, k0, X'.more (Nat.le_refl _) (Nat.add_le_add_left (traceHolder_size_le cO hl) _), h1, Nat.le_trans h2 K.1, h3, h4.keep K (own_ws1 ha), rfl, h6.app (fun y hy => by
    have hb : y.base = a := by simp only [List.mem_cons, List.not_mem_nil, or_false] at hy; rcases hy with rfl | rfl | rfl <;> rfl
    rw [hb]; exact (h4.2.2.1 a ha).1), h7, fun t ht => k _ (st.trans ht)⟩
end OwnFill
def z16 : List Value := [.int 0, .int 0, .int 0, .int 0, .int 0, .int 0, .int 0, .int 0, .int 0, .int 0, .int 0, .int 0, .int 0, .int 0, .int 0, .int 0]
theorem txt_len (F R' : List Int32) (i : Int32) : (txt F R' i).length = F.length + 1 + (dec i).length + 2 + R'.length := by
  unfold txt; simp only [List.length_append, List.length_cons, List.length_nil]; omega
theorem gl {l r : List Int32} {k : Nat} (h : k < l.length) : (l ++ r).getD k 0 = l.getD k 0 := by
  rw [List.getD_eq_getElem?_getD, List.getD_eq_getElem?_getD, List.getElem?_append_left h]
theorem gr {l r : List Int32} (k : Nat) {n : Nat} (h : l.length = n) : (l ++ r).getD (n + k) 0 = r.getD k 0 := by
  rw [List.getD_eq_getElem?_getD, List.getD_eq_getElem?_getD, List.getElem?_append_right (by omega), ← h, Nat.add_sub_cancel_left]
theorem txt_F {F R' : List Int32} {i : Int32} {k : Nat} (h : k < F.length) : (txt F R' i).getD k 0 = F.getD k 0 := by
  unfold txt
  rw [gl (by simp only [List.length_append, List.length_cons, List.length_nil]; omega), gl (by simp only [List.length_append, List.length_cons, List.length_nil]; omega), gl (by simp only [List.length_append, List.length_cons, List.length_nil]; omega), gl (by simp only [List.length_append, List.length_cons, List.length_nil]; omega)]
  rfl
theorem txt_c1 (F R' : List Int32) (i : Int32) : (txt F R' i).getD F.length 0 = 58 := by
  unfold txt
  rw [gl (by simp only [List.length_append, List.length_cons, List.length_nil]; omega), gl (by simp only [List.length_append, List.length_cons, List.length_nil]; omega), gl (by simp only [List.length_append, List.length_cons, List.length_nil]; omega)]
  exact gr (l := [] ++ F) (r := [58]) 0 (n := F.length) rfl
theorem txt_d {F R' : List Int32} {i : Int32} {k : Nat} (h : k < (dec i).length) : (txt F R' i).getD (F.length + 1 + k) 0 = (dec i).getD k 0 := by
  unfold txt
  rw [gl (by simp only [List.length_append, List.length_cons, List.length_nil]; omega), gl (by simp only [List.length_append, List.length_cons, List.length_nil]; omega)]
  exact gr k (by simp only [List.length_append, List.length_cons, List.length_nil]; omega)
theorem txt_c2 (F R' : List Int32) (i : Int32) : (txt F R' i).getD (F.length + 1 + (dec i).length) 0 = 58 := by
  unfold txt
  rw [gl (by simp only [List.length_append, List.length_cons, List.length_nil]; omega)]
  exact gr (r := [58, 32]) 0 (n := F.length + 1 + (dec i).length) (by simp only [List.length_append, List.length_cons, List.length_nil]; omega)
theorem txt_sp (F R' : List Int32) (i : Int32) : (txt F R' i).getD (F.length + 1 + (dec i).length + 1) 0 = 32 := by
  unfold txt
  rw [gl (by simp only [List.length_append, List.length_cons, List.length_nil]; omega)]
  exact gr (r := [58, 32]) 1 (n := F.length + 1 + (dec i).length) (by simp only [List.length_append, List.length_cons, List.length_nil]; omega)
theorem txt_R (F R' : List Int32) (i : Int32) (k : Nat) : (txt F R' i).getD (F.length + 1 + (dec i).length + 2 + k) 0 = R'.getD k 0 := by
  unfold txt
  exact gr k (by simp only [List.length_append, List.length_cons, List.length_nil]; omega)
theorem digs_last : ∀ (k m : Nat), (digs (k + 1) m).getD k 0 = dgt m 0
  | 0, m => rfl
  | k + 1, m => by show (digs (k + 1) m).getD k 0 = dgt m 0; exact digs_last k m
theorem dec_last (i : Int32) : (dec i).getD ((dec i).length - 1) 0 = Int32.ofNat (48 + i.toInt.natAbs % 10) := by
  have hn := (ndig_pos i.toInt.natAbs).1
  obtain ⟨k, hk⟩ : ∃ k, ndig i.toInt.natAbs = k + 1 := ⟨ndig i.toInt.natAbs - 1, by omega⟩
  have e : dgt i.toInt.natAbs 0 = Int32.ofNat (48 + i.toInt.natAbs % 10) := by unfold dgt; rw [Nat.pow_zero, Nat.div_one]
  rw [← e]
  unfold dec
  rw [hk]
  split
  · rw [List.length_cons, digs_len]
    exact digs_last k _
  · rw [digs_len]
    exact digs_last k _
theorem dec_minus {i : Int32} (h : i < 0) : (dec i).getD 0 0 = 45 := by unfold dec; rw [if_pos h]; rfl
theorem dec_plus {i : Int32} (h : ¬ i < 0) : ¬ (dec i).getD 0 0 = 45 := by
  have hn := (ndig_pos i.toInt.natAbs).1
  obtain ⟨k, hk⟩ : ∃ k, ndig i.toInt.natAbs = k + 1 := ⟨ndig i.toInt.natAbs - 1, by omega⟩
  unfold dec
  rw [if_neg h, hk]
  exact dgt_ne _ k
theorem txt_minus {F R' : List Int32} {i : Int32} (h : i < 0) : (txt F R' i).getD (F.length + 1) 0 = 45 := (txt_d (k := 0) (dec_len i).1).trans (dec_minus h)
theorem txt_plus {F R' : List Int32} {i : Int32} (h : ¬ i < 0) : ¬ (txt F R' i).getD (F.length + 1) 0 = 45 := fun q => dec_plus h ((txt_d (F := F) (R' := R') (k := 0) (dec_len i).1).symm.trans q)
theorem txt_last (F R' : List Int32) (i : Int32) : (txt F R' i).getD (F.length + (dec i).length) 0 = Int32.ofNat (48 + i.toInt.natAbs % 10) := by
  have hd := (dec_len i).1
  rw [show F.length + (dec i).length = F.length + 1 + ((dec i).length - 1) by omega, txt_d (by omega), dec_last]
theorem rem10 (i : Int32) : (i % (10 : Int32)).toInt = i.toInt.tmod 10 := by
  have e : (10 : Int32).toInt = 10 := rfl
  rw [Int32.toInt_mod, e]
theorem last10 (i : Int32) : ((48 : Int32) + (if (i % (10 : Int32)) < (0 : Int32) then (-(i % (10 : Int32))) else (i % (10 : Int32)))).toUInt32.toUInt16.toUInt32.toInt32 = Int32.ofNat (48 + i.toInt.natAbs % 10) := by
  have h := rem10 i
  have e0 : (0 : Int32).toInt = 0 := rfl
  have hb : i.toInt.natAbs % 10 < 10 := Nat.mod_lt _ (by decide)
  have t : ∀ d : Fin 10, ((48 : Int32) + Int32.ofNat d.val).toUInt32.toUInt16.toUInt32.toInt32 = Int32.ofNat (48 + d.val) := by decide +kernel
  have q : (if (i % (10 : Int32)) < (0 : Int32) then (-(i % (10 : Int32))) else (i % (10 : Int32))) = Int32.ofNat (i.toInt.natAbs % 10) := by
    apply Int32.toInt_inj.mp
    rw [Int32.toInt_ofNat_of_lt (by omega)]
    split
    · rename_i c
      rw [Int32.lt_iff_toInt_lt, e0, h] at c
      rw [Int32.toInt_neg, h]
      have := Int.tmod_lt_of_pos i.toInt (b := 10) (by decide)
      rcases Int.lt_or_le i.toInt 0 with g | g
      · have e : i.toInt.tmod 10 = -((-i.toInt) % 10) := by rw [← Int.tmod_eq_emod_of_nonneg (by omega), Int.neg_tmod, Int.neg_neg]
        rw [e, Int.bmod_eq_of_le (by omega) (by omega)]; omega
      · rw [Int.tmod_eq_emod_of_nonneg g] at c; omega
    · rename_i c
      rw [Int32.lt_iff_toInt_lt, e0, h] at c
      rw [h]
      rcases Int.lt_or_le i.toInt 0 with g | g
      · have e : i.toInt.tmod 10 = -((-i.toInt) % 10) := by rw [← Int.tmod_eq_emod_of_nonneg (by omega), Int.neg_tmod, Int.neg_neg]
        rw [e] at c ⊢; omega
      · rw [Int.tmod_eq_emod_of_nonneg g]; omega
  rw [q]
  exact t ⟨_, hb⟩
theorem lcK {m K : Nat} (hm : m ≤ 2147483648) (hK : K ≤ 1000000000) : lcmpW (Int64.ofNat m) (Int64.ofNat K) < 0 ↔ m < K := by
  rw [lw_lt, Int64.lt_iff_toInt_lt, Int64.toInt_ofNat_of_lt (by omega), Int64.toInt_ofNat_of_lt (by omega)]; omega
def s_absJ (p0 : Int64) : Int64 := if (lcmpW p0 (0 : Int64)) < (0 : Int32) then (-p0) else p0
theorem absJ_neg {m : Nat} (h0 : 1 ≤ m) (h : m ≤ 2147483648) : s_absJ (-(Int32.ofNat m)).toInt64 = Int64.ofNat m := by
  have e := ng_toInt h
  have e0 : (0 : Int64).toInt = 0 := rfl
  have c : lcmpW (-(Int32.ofNat m)).toInt64 (0 : Int64) < 0 := by rw [lw_lt, Int64.lt_iff_toInt_lt, Int32.toInt_toInt64, e, e0]; omega
  unfold s_absJ
  rw [if_pos c]
  apply Int64.toInt_inj.mp
  rw [Int64.toInt_neg, Int32.toInt_toInt64, e, Int64.toInt_ofNat_of_lt (by omega), Int.bmod_eq_of_le (by omega) (by omega)]; omega
theorem absJ_pos {m : Nat} (h : m < 2147483648) : s_absJ (Int32.ofNat m).toInt64 = Int64.ofNat m := by
  have e := Int32.toInt_ofNat_of_lt h
  have e0 : (0 : Int64).toInt = 0 := rfl
  have c : ¬ lcmpW (Int32.ofNat m).toInt64 (0 : Int64) < 0 := by rw [lw_lt, Int64.lt_iff_toInt_lt, Int32.toInt_toInt64, e, e0]; omega
  unfold s_absJ
  rw [if_neg c]
  apply Int64.toInt_inj.mp
  rw [Int32.toInt_toInt64, e, Int64.toInt_ofNat_of_lt (by omega)]
theorem w8 {a0 : Array Value} {Z : State} (hw : HW a0 Z) : (Jvm.Cond.fieldLink "java/lang/String" (38 : Nat) "java/lang/String" "COMPACT_STRINGS" "Z").before a0 Z = true := hw _ (List.mem_of_getElem? (i := 8) rfl)
theorem d18_0 : decode jdk_42_method_152_code 0 = .ok (.getstatic 38, 3) := by decide +kernel
theorem d18_3 : decode jdk_42_method_152_code 3 = .ok (.ifCond .eq 10, 3) := by decide +kernel
theorem d18_6 : decode jdk_42_method_152_code 6 = .ok (.aload_n 0, 1) := by decide +kernel
theorem w28 {a0 : Array Value} {Z : State} (hw : HW a0 Z) : (Jvm.Cond.fieldLink "java/lang/String" (15 : Nat) "java/lang/String" "coder" "B").before a0 Z = true := hw _ (List.mem_of_getElem? (i := 28) rfl)
theorem d18_7 : decode jdk_42_method_152_code 7 = .ok (.getfield 15, 3) := by decide +kernel
theorem d18_10 : decode jdk_42_method_152_code 10 = .ok (.goto 4, 3) := by decide +kernel
theorem d18_14 : decode jdk_42_method_152_code 14 = .ok (.ireturn, 1) := by decide +kernel
theorem pn0 : plainName "java/lang/String" = true := by first | (simp [plainName, overriddenIn]; done) | decide +kernel
theorem d48_0 : decode jdk_42_method_154_code 0 = .ok (.getstatic 38, 3) := by decide +kernel
theorem d48_3 : decode jdk_42_method_154_code 3 = .ok (.ifCond .eq 14, 3) := by decide +kernel
theorem d48_6 : decode jdk_42_method_154_code 6 = .ok (.aload_n 0, 1) := by decide +kernel
theorem d48_7 : decode jdk_42_method_154_code 7 = .ok (.getfield 15, 3) := by decide +kernel
theorem d48_10 : decode jdk_42_method_154_code 10 = .ok (.ifCond .ne 7, 3) := by decide +kernel
theorem d48_13 : decode jdk_42_method_154_code 13 = .ok (.iconst 1, 1) := by decide +kernel
theorem d48_14 : decode jdk_42_method_154_code 14 = .ok (.goto 4, 3) := by decide +kernel
theorem d48_18 : decode jdk_42_method_154_code 18 = .ok (.ireturn, 1) := by decide +kernel
theorem d17_0 : decode jdk_42_method_54_code 0 = .ok (.aload_n 0, 1) := by decide +kernel
theorem w26 {a0 : Array Value} {Z : State} (hw : HW a0 Z) : (Jvm.Cond.fieldLink "java/lang/String" (9 : Nat) "java/lang/String" "value" "[B").before a0 Z = true := hw _ (List.mem_of_getElem? (i := 26) rfl)
theorem d17_1 : decode jdk_42_method_54_code 1 = .ok (.getfield 9, 3) := by decide +kernel
theorem d17_4 : decode jdk_42_method_54_code 4 = .ok (.arraylength, 1) := by decide +kernel
theorem d17_5 : decode jdk_42_method_54_code 5 = .ok (.aload_n 0, 1) := by decide +kernel
theorem w114 {a0 : Array Value} {Z : State} (hw : HW a0 Z) : (Jvm.Cond.methodLink "java/lang/String" (335 : Nat) ({ cls := "java/lang/String", name := "coder", desc := "()B" } : Jvm.MethodName)).before a0 Z = true := hw _ (List.mem_of_getElem? (i := 114) rfl)
theorem pd0 : parseMethodDescriptor "()B" = some ⟨[], some .byte⟩ := by decide +kernel
theorem d17_6 : decode jdk_42_method_54_code 6 = .ok (.invokevirtual 335, 3) := by decide +kernel
theorem w117 {a0 : Array Value} {Z : State} (hw : HW a0 Z) : (Jvm.Cond.selects "java/lang/String" ({ cls := "java/lang/String", name := "coder", desc := "()B" } : Jvm.MethodName) ({ cls := "java/lang/String", name := "coder", desc := "()B" } : Jvm.MethodName)).before a0 Z = true := hw _ (List.mem_of_getElem? (i := 117) rfl)
theorem w115 {a0 : Array Value} {Z : State} (hw : HW a0 Z) : (Jvm.Cond.declares ({ cls := "java/lang/String", name := "coder", desc := "()B" } : Jvm.MethodName)).before a0 Z = true := hw _ (List.mem_of_getElem? (i := 115) rfl)
theorem w116 {a0 : Array Value} {Z : State} (hw : HW a0 Z) : (Jvm.Cond.instanceMethod ({ cls := "java/lang/String", name := "coder", desc := "()B" } : Jvm.MethodName)).before a0 Z = true := hw _ (List.mem_of_getElem? (i := 116) rfl)
theorem w6 {a0 : Array Value} {Z : State} (hw : HW a0 Z) : (Jvm.Cond.initialized "java/lang/String").before a0 Z = true := hw _ (List.mem_of_getElem? (i := 6) rfl)
theorem w118 {a0 : Array Value} {Z : State} (hw : HW a0 Z) : (Jvm.Cond.code ({ cls := "java/lang/String", name := "coder", desc := "()B" } : Jvm.MethodName) jdk_42_method_152_code (1 : Nat) (Option.some Jvm.ClassFile.FieldType.byte)).before a0 Z = true := hw _ (List.mem_of_getElem? (i := 118) rfl)
theorem d17_9 : decode jdk_42_method_54_code 9 = .ok (.ishr, 1) := by decide +kernel
theorem d17_10 : decode jdk_42_method_54_code 10 = .ok (.ireturn, 1) := by decide +kernel
theorem d51_0 : decode jdk_41_method_11_code 0 = .ok (.iload_n 0, 1) := by decide +kernel
theorem d51_1 : decode jdk_41_method_11_code 1 = .ok (.ifCond .lt 8, 3) := by decide +kernel
theorem d51_4 : decode jdk_41_method_11_code 4 = .ok (.iload_n 0, 1) := by decide +kernel
theorem d51_5 : decode jdk_41_method_11_code 5 = .ok (.iload_n 1, 1) := by decide +kernel
theorem d51_6 : decode jdk_41_method_11_code 6 = .ok (.if_icmp .lt 10, 3) := by decide +kernel
theorem d51_16 : decode jdk_41_method_11_code 16 = .ok (.iload_n 0, 1) := by decide +kernel
theorem d51_17 : decode jdk_41_method_11_code 17 = .ok (.ireturn, 1) := by decide +kernel
theorem pn1 : plainName "jdk/internal/util/Preconditions" = true := by first | (simp [plainName, overriddenIn]; done) | decide +kernel
theorem d50_0 : decode jdk_42_method_155_code 0 = .ok (.iload_n 0, 1) := by decide +kernel
theorem d50_1 : decode jdk_42_method_155_code 1 = .ok (.iload_n 1, 1) := by decide +kernel
theorem w298 {a0 : Array Value} {Z : State} (hw : HW a0 Z) : (Jvm.Cond.fieldLink "java/lang/String" (1053 : Nat) "jdk/internal/util/Preconditions" "SIOOBE_FORMATTER" "Ljava/util/function/BiFunction;").before a0 Z = true := hw _ (List.mem_of_getElem? (i := 298) rfl)
theorem d50_2 : decode jdk_42_method_155_code 2 = .ok (.getstatic 1053, 3) := by decide +kernel
theorem w300 {a0 : Array Value} {Z : State} (hw : HW a0 Z) : (Jvm.Cond.methodLink "java/lang/String" (1059 : Nat) ({ cls := "jdk/internal/util/Preconditions", name := "checkIndex", desc := "(IILjava/util/function/BiFunction;)I" } : Jvm.MethodName)).before a0 Z = true := hw _ (List.mem_of_getElem? (i := 300) rfl)
theorem pd1 : parseMethodDescriptor "(IILjava/util/function/BiFunction;)I" = some ⟨[.int, .int, (.object "java/util/function/BiFunction")], some .int⟩ := by decide +kernel
theorem d50_5 : decode jdk_42_method_155_code 5 = .ok (.invokestatic 1059, 3) := by decide +kernel
theorem w301 {a0 : Array Value} {Z : State} (hw : HW a0 Z) : (Jvm.Cond.static ({ cls := "jdk/internal/util/Preconditions", name := "checkIndex", desc := "(IILjava/util/function/BiFunction;)I" } : Jvm.MethodName)).before a0 Z = true := hw _ (List.mem_of_getElem? (i := 301) rfl)
theorem w299 {a0 : Array Value} {Z : State} (hw : HW a0 Z) : (Jvm.Cond.initialized "jdk/internal/util/Preconditions").before a0 Z = true := hw _ (List.mem_of_getElem? (i := 299) rfl)
theorem w302 {a0 : Array Value} {Z : State} (hw : HW a0 Z) : (Jvm.Cond.code ({ cls := "jdk/internal/util/Preconditions", name := "checkIndex", desc := "(IILjava/util/function/BiFunction;)I" } : Jvm.MethodName) jdk_41_method_11_code (3 : Nat) (Option.some Jvm.ClassFile.FieldType.int)).before a0 Z = true := hw _ (List.mem_of_getElem? (i := 302) rfl)
theorem d50_8 : decode jdk_42_method_155_code 8 = .ok (.pop, 1) := by decide +kernel
theorem d50_9 : decode jdk_42_method_155_code 9 = .ok (.return_, 1) := by decide +kernel
theorem d49_0 : decode jdk_43_method_2_code 0 = .ok (.iload_n 1, 1) := by decide +kernel
theorem d49_1 : decode jdk_43_method_2_code 1 = .ok (.aload_n 0, 1) := by decide +kernel
theorem d49_2 : decode jdk_43_method_2_code 2 = .ok (.arraylength, 1) := by decide +kernel
theorem w295 {a0 : Array Value} {Z : State} (hw : HW a0 Z) : (Jvm.Cond.methodLink "java/lang/StringLatin1" (9 : Nat) ({ cls := "java/lang/String", name := "checkIndex", desc := "(II)V" } : Jvm.MethodName)).before a0 Z = true := hw _ (List.mem_of_getElem? (i := 295) rfl)
theorem pd2 : parseMethodDescriptor "(II)V" = some ⟨[.int, .int], none⟩ := by decide +kernel
theorem d49_3 : decode jdk_43_method_2_code 3 = .ok (.invokestatic 9, 3) := by decide +kernel
theorem w296 {a0 : Array Value} {Z : State} (hw : HW a0 Z) : (Jvm.Cond.static ({ cls := "java/lang/String", name := "checkIndex", desc := "(II)V" } : Jvm.MethodName)).before a0 Z = true := hw _ (List.mem_of_getElem? (i := 296) rfl)
theorem w297 {a0 : Array Value} {Z : State} (hw : HW a0 Z) : (Jvm.Cond.code ({ cls := "java/lang/String", name := "checkIndex", desc := "(II)V" } : Jvm.MethodName) jdk_42_method_155_code (2 : Nat) (Option.none : Option Jvm.ClassFile.FieldType)).before a0 Z = true := hw _ (List.mem_of_getElem? (i := 297) rfl)
theorem d49_6 : decode jdk_43_method_2_code 6 = .ok (.aload_n 0, 1) := by decide +kernel
theorem d49_7 : decode jdk_43_method_2_code 7 = .ok (.iload_n 1, 1) := by decide +kernel
theorem d49_8 : decode jdk_43_method_2_code 8 = .ok (.baload, 1) := by decide +kernel
theorem d49_9 : decode jdk_43_method_2_code 9 = .ok (.sipush 255, 3) := by decide +kernel
theorem d49_12 : decode jdk_43_method_2_code 12 = .ok (.iand, 1) := by decide +kernel
theorem d49_13 : decode jdk_43_method_2_code 13 = .ok (.i2c, 1) := by decide +kernel
theorem d49_14 : decode jdk_43_method_2_code 14 = .ok (.ireturn, 1) := by decide +kernel
theorem pn2 : plainName "java/lang/StringLatin1" = true := by first | (simp [plainName, overriddenIn]; done) | decide +kernel
theorem d47_0 : decode jdk_42_method_56_code 0 = .ok (.aload_n 0, 1) := by decide +kernel
theorem w287 {a0 : Array Value} {Z : State} (hw : HW a0 Z) : (Jvm.Cond.methodLink "java/lang/String" (492 : Nat) ({ cls := "java/lang/String", name := "isLatin1", desc := "()Z" } : Jvm.MethodName)).before a0 Z = true := hw _ (List.mem_of_getElem? (i := 287) rfl)
theorem pd3 : parseMethodDescriptor "()Z" = some ⟨[], some .boolean⟩ := by decide +kernel
theorem d47_1 : decode jdk_42_method_56_code 1 = .ok (.invokevirtual 492, 3) := by decide +kernel
theorem w290 {a0 : Array Value} {Z : State} (hw : HW a0 Z) : (Jvm.Cond.selects "java/lang/String" ({ cls := "java/lang/String", name := "isLatin1", desc := "()Z" } : Jvm.MethodName) ({ cls := "java/lang/String", name := "isLatin1", desc := "()Z" } : Jvm.MethodName)).before a0 Z = true := hw _ (List.mem_of_getElem? (i := 290) rfl)
theorem w288 {a0 : Array Value} {Z : State} (hw : HW a0 Z) : (Jvm.Cond.declares ({ cls := "java/lang/String", name := "isLatin1", desc := "()Z" } : Jvm.MethodName)).before a0 Z = true := hw _ (List.mem_of_getElem? (i := 288) rfl)
theorem w289 {a0 : Array Value} {Z : State} (hw : HW a0 Z) : (Jvm.Cond.instanceMethod ({ cls := "java/lang/String", name := "isLatin1", desc := "()Z" } : Jvm.MethodName)).before a0 Z = true := hw _ (List.mem_of_getElem? (i := 289) rfl)
theorem w291 {a0 : Array Value} {Z : State} (hw : HW a0 Z) : (Jvm.Cond.code ({ cls := "java/lang/String", name := "isLatin1", desc := "()Z" } : Jvm.MethodName) jdk_42_method_154_code (1 : Nat) (Option.some Jvm.ClassFile.FieldType.boolean)).before a0 Z = true := hw _ (List.mem_of_getElem? (i := 291) rfl)
theorem d47_4 : decode jdk_42_method_56_code 4 = .ok (.ifCond .eq 12, 3) := by decide +kernel
theorem d47_7 : decode jdk_42_method_56_code 7 = .ok (.aload_n 0, 1) := by decide +kernel
theorem d47_8 : decode jdk_42_method_56_code 8 = .ok (.getfield 9, 3) := by decide +kernel
theorem d47_11 : decode jdk_42_method_56_code 11 = .ok (.iload_n 1, 1) := by decide +kernel
theorem w292 {a0 : Array Value} {Z : State} (hw : HW a0 Z) : (Jvm.Cond.methodLink "java/lang/String" (495 : Nat) ({ cls := "java/lang/StringLatin1", name := "charAt", desc := "([BI)C" } : Jvm.MethodName)).before a0 Z = true := hw _ (List.mem_of_getElem? (i := 292) rfl)
theorem pd4 : parseMethodDescriptor "([BI)C" = some ⟨[(.array .byte), .int], some .char⟩ := by decide +kernel
theorem d47_12 : decode jdk_42_method_56_code 12 = .ok (.invokestatic 495, 3) := by decide +kernel
theorem w293 {a0 : Array Value} {Z : State} (hw : HW a0 Z) : (Jvm.Cond.static ({ cls := "java/lang/StringLatin1", name := "charAt", desc := "([BI)C" } : Jvm.MethodName)).before a0 Z = true := hw _ (List.mem_of_getElem? (i := 293) rfl)
theorem w11 {a0 : Array Value} {Z : State} (hw : HW a0 Z) : (Jvm.Cond.initialized "java/lang/StringLatin1").before a0 Z = true := hw _ (List.mem_of_getElem? (i := 11) rfl)
theorem w294 {a0 : Array Value} {Z : State} (hw : HW a0 Z) : (Jvm.Cond.code ({ cls := "java/lang/StringLatin1", name := "charAt", desc := "([BI)C" } : Jvm.MethodName) jdk_43_method_2_code (2 : Nat) (Option.some Jvm.ClassFile.FieldType.char)).before a0 Z = true := hw _ (List.mem_of_getElem? (i := 294) rfl)
theorem d47_15 : decode jdk_42_method_56_code 15 = .ok (.ireturn, 1) := by decide +kernel
theorem d22_0 : decode jdk_42_method_147_code 0 = .ok (.aload_n 0, 1) := by decide +kernel
theorem d22_1 : decode jdk_42_method_147_code 1 = .ok (.invokevirtual 335, 3) := by decide +kernel
theorem d22_4 : decode jdk_42_method_147_code 4 = .ok (.iload_n 3, 1) := by decide +kernel
theorem d22_5 : decode jdk_42_method_147_code 5 = .ok (.if_icmp .ne 23, 3) := by decide +kernel
theorem d22_8 : decode jdk_42_method_147_code 8 = .ok (.aload_n 0, 1) := by decide +kernel
theorem d22_9 : decode jdk_42_method_147_code 9 = .ok (.getfield 9, 3) := by decide +kernel
theorem d22_12 : decode jdk_42_method_147_code 12 = .ok (.iconst 0, 1) := by decide +kernel
theorem d22_13 : decode jdk_42_method_147_code 13 = .ok (.aload_n 1, 1) := by decide +kernel
theorem d22_14 : decode jdk_42_method_147_code 14 = .ok (.iload_n 2, 1) := by decide +kernel
theorem d22_15 : decode jdk_42_method_147_code 15 = .ok (.iload_n 3, 1) := by decide +kernel
theorem d22_16 : decode jdk_42_method_147_code 16 = .ok (.ishl, 1) := by decide +kernel
theorem d22_17 : decode jdk_42_method_147_code 17 = .ok (.aload_n 0, 1) := by decide +kernel
theorem d22_18 : decode jdk_42_method_147_code 18 = .ok (.getfield 9, 3) := by decide +kernel
theorem d22_21 : decode jdk_42_method_147_code 21 = .ok (.arraylength, 1) := by decide +kernel
theorem w142 {a0 : Array Value} {Z : State} (hw : HW a0 Z) : (Jvm.Cond.methodLink "java/lang/String" (212 : Nat) ({ cls := "java/lang/System", name := "arraycopy", desc := "(Ljava/lang/Object;ILjava/lang/Object;II)V" } : Jvm.MethodName)).before a0 Z = true := hw _ (List.mem_of_getElem? (i := 142) rfl)
theorem w145 {a0 : Array Value} {Z : State} (hw : HW a0 Z) : (Jvm.Cond.native ({ cls := "java/lang/System", name := "arraycopy", desc := "(Ljava/lang/Object;ILjava/lang/Object;II)V" } : Jvm.MethodName)).before a0 Z = true := hw _ (List.mem_of_getElem? (i := 145) rfl)
theorem w143 {a0 : Array Value} {Z : State} (hw : HW a0 Z) : (Jvm.Cond.static ({ cls := "java/lang/System", name := "arraycopy", desc := "(Ljava/lang/Object;ILjava/lang/Object;II)V" } : Jvm.MethodName)).before a0 Z = true := hw _ (List.mem_of_getElem? (i := 143) rfl)
theorem w144 {a0 : Array Value} {Z : State} (hw : HW a0 Z) : (Jvm.Cond.initialized "java/lang/System").before a0 Z = true := hw _ (List.mem_of_getElem? (i := 144) rfl)
theorem d22_22 : decode jdk_42_method_147_code 22 = .ok (.invokestatic 212, 3) := by decide +kernel
theorem d22_25 : decode jdk_42_method_147_code 25 = .ok (.goto 18, 3) := by decide +kernel
theorem d22_43 : decode jdk_42_method_147_code 43 = .ok (.return_, 1) := by decide +kernel
theorem w94 {a0 : Array Value} {Z : State} (hw : HW a0 Z) : (Jvm.Cond.fieldLink "java/lang/AbstractStringBuilder" (18 : Nat) "java/lang/String" "COMPACT_STRINGS" "Z").before a0 Z = true := hw _ (List.mem_of_getElem? (i := 94) rfl)
theorem d21_0 : decode jdk_68_method_71_code 0 = .ok (.getstatic 18, 3) := by decide +kernel
theorem d21_3 : decode jdk_68_method_71_code 3 = .ok (.ifCond .eq 18, 3) := by decide +kernel
theorem d21_6 : decode jdk_68_method_71_code 6 = .ok (.aload_n 0, 1) := by decide +kernel
theorem w97 {a0 : Array Value} {Z : State} (hw : HW a0 Z) : (Jvm.Cond.fieldLink "java/lang/AbstractStringBuilder" (22 : Nat) "java/lang/AbstractStringBuilder" "coder" "B").before a0 Z = true := hw _ (List.mem_of_getElem? (i := 97) rfl)
theorem d21_7 : decode jdk_68_method_71_code 7 = .ok (.getfield 22, 3) := by decide +kernel
theorem d21_10 : decode jdk_68_method_71_code 10 = .ok (.aload_n 1, 1) := by decide +kernel
theorem w136 {a0 : Array Value} {Z : State} (hw : HW a0 Z) : (Jvm.Cond.methodLink "java/lang/AbstractStringBuilder" (40 : Nat) ({ cls := "java/lang/String", name := "coder", desc := "()B" } : Jvm.MethodName)).before a0 Z = true := hw _ (List.mem_of_getElem? (i := 136) rfl)
theorem d21_11 : decode jdk_68_method_71_code 11 = .ok (.invokevirtual 40, 3) := by decide +kernel
theorem d21_14 : decode jdk_68_method_71_code 14 = .ok (.if_icmp .eq 7, 3) := by decide +kernel
theorem d21_21 : decode jdk_68_method_71_code 21 = .ok (.return_, 1) := by decide +kernel
theorem pn3 : plainName "java/lang/AbstractStringBuilder" = true := by first | (simp [plainName, overriddenIn]; done) | decide +kernel
theorem d20_0 : decode jdk_68_method_73_code 0 = .ok (.aload_n 0, 1) := by decide +kernel
theorem d20_1 : decode jdk_68_method_73_code 1 = .ok (.aload_n 2, 1) := by decide +kernel
theorem w131 {a0 : Array Value} {Z : State} (hw : HW a0 Z) : (Jvm.Cond.methodLink "java/lang/AbstractStringBuilder" (397 : Nat) ({ cls := "java/lang/AbstractStringBuilder", name := "inflateIfNeededFor", desc := "(Ljava/lang/String;)V" } : Jvm.MethodName)).before a0 Z = true := hw _ (List.mem_of_getElem? (i := 131) rfl)
theorem pd5 : parseMethodDescriptor "(Ljava/lang/String;)V" = some ⟨[(.object "java/lang/String")], none⟩ := by decide +kernel
theorem d20_2 : decode jdk_68_method_73_code 2 = .ok (.invokevirtual 397, 3) := by decide +kernel
theorem w134 {a0 : Array Value} {Z : State} (hw : HW a0 Z) : (Jvm.Cond.selects "java/lang/StringBuilder" ({ cls := "java/lang/AbstractStringBuilder", name := "inflateIfNeededFor", desc := "(Ljava/lang/String;)V" } : Jvm.MethodName) ({ cls := "java/lang/AbstractStringBuilder", name := "inflateIfNeededFor", desc := "(Ljava/lang/String;)V" } : Jvm.MethodName)).before a0 Z = true := hw _ (List.mem_of_getElem? (i := 134) rfl)
theorem w132 {a0 : Array Value} {Z : State} (hw : HW a0 Z) : (Jvm.Cond.instanceMethod ({ cls := "java/lang/AbstractStringBuilder", name := "inflateIfNeededFor", desc := "(Ljava/lang/String;)V" } : Jvm.MethodName)).before a0 Z = true := hw _ (List.mem_of_getElem? (i := 132) rfl)
theorem w135 {a0 : Array Value} {Z : State} (hw : HW a0 Z) : (Jvm.Cond.code ({ cls := "java/lang/AbstractStringBuilder", name := "inflateIfNeededFor", desc := "(Ljava/lang/String;)V" } : Jvm.MethodName) jdk_68_method_71_code (2 : Nat) (Option.none : Option Jvm.ClassFile.FieldType)).before a0 Z = true := hw _ (List.mem_of_getElem? (i := 135) rfl)
theorem w91 {a0 : Array Value} {Z : State} (hw : HW a0 Z) : (Jvm.Cond.initialized "java/lang/AbstractStringBuilder").before a0 Z = true := hw _ (List.mem_of_getElem? (i := 91) rfl)
theorem d20_5 : decode jdk_68_method_73_code 5 = .ok (.aload_n 2, 1) := by decide +kernel
theorem d20_6 : decode jdk_68_method_73_code 6 = .ok (.aload_n 0, 1) := by decide +kernel
theorem w95 {a0 : Array Value} {Z : State} (hw : HW a0 Z) : (Jvm.Cond.fieldLink "java/lang/AbstractStringBuilder" (15 : Nat) "java/lang/AbstractStringBuilder" "value" "[B").before a0 Z = true := hw _ (List.mem_of_getElem? (i := 95) rfl)
theorem d20_7 : decode jdk_68_method_73_code 7 = .ok (.getfield 15, 3) := by decide +kernel
theorem d20_10 : decode jdk_68_method_73_code 10 = .ok (.iload_n 1, 1) := by decide +kernel
theorem d20_11 : decode jdk_68_method_73_code 11 = .ok (.aload_n 0, 1) := by decide +kernel
theorem d20_12 : decode jdk_68_method_73_code 12 = .ok (.getfield 22, 3) := by decide +kernel
theorem w137 {a0 : Array Value} {Z : State} (hw : HW a0 Z) : (Jvm.Cond.methodLink "java/lang/AbstractStringBuilder" (399 : Nat) ({ cls := "java/lang/String", name := "getBytes", desc := "([BIB)V" } : Jvm.MethodName)).before a0 Z = true := hw _ (List.mem_of_getElem? (i := 137) rfl)
theorem pd6 : parseMethodDescriptor "([BIB)V" = some ⟨[(.array .byte), .int, .byte], none⟩ := by decide +kernel
theorem d20_15 : decode jdk_68_method_73_code 15 = .ok (.invokevirtual 399, 3) := by decide +kernel
theorem w140 {a0 : Array Value} {Z : State} (hw : HW a0 Z) : (Jvm.Cond.selects "java/lang/String" ({ cls := "java/lang/String", name := "getBytes", desc := "([BIB)V" } : Jvm.MethodName) ({ cls := "java/lang/String", name := "getBytes", desc := "([BIB)V" } : Jvm.MethodName)).before a0 Z = true := hw _ (List.mem_of_getElem? (i := 140) rfl)
theorem w138 {a0 : Array Value} {Z : State} (hw : HW a0 Z) : (Jvm.Cond.declares ({ cls := "java/lang/String", name := "getBytes", desc := "([BIB)V" } : Jvm.MethodName)).before a0 Z = true := hw _ (List.mem_of_getElem? (i := 138) rfl)
theorem w139 {a0 : Array Value} {Z : State} (hw : HW a0 Z) : (Jvm.Cond.instanceMethod ({ cls := "java/lang/String", name := "getBytes", desc := "([BIB)V" } : Jvm.MethodName)).before a0 Z = true := hw _ (List.mem_of_getElem? (i := 139) rfl)
theorem w141 {a0 : Array Value} {Z : State} (hw : HW a0 Z) : (Jvm.Cond.code ({ cls := "java/lang/String", name := "getBytes", desc := "([BIB)V" } : Jvm.MethodName) jdk_42_method_147_code (4 : Nat) (Option.none : Option Jvm.ClassFile.FieldType)).before a0 Z = true := hw _ (List.mem_of_getElem? (i := 141) rfl)
theorem d20_18 : decode jdk_68_method_73_code 18 = .ok (.return_, 1) := by decide +kernel
theorem d19_0 : decode jdk_68_method_9_code 0 = .ok (.aload_n 0, 1) := by decide +kernel
theorem d19_1 : decode jdk_68_method_9_code 1 = .ok (.getfield 15, 3) := by decide +kernel
theorem d19_4 : decode jdk_68_method_9_code 4 = .ok (.arraylength, 1) := by decide +kernel
theorem d19_5 : decode jdk_68_method_9_code 5 = .ok (.aload_n 0, 1) := by decide +kernel
theorem d19_6 : decode jdk_68_method_9_code 6 = .ok (.getfield 22, 3) := by decide +kernel
theorem d19_9 : decode jdk_68_method_9_code 9 = .ok (.ishr, 1) := by decide +kernel
theorem d19_10 : decode jdk_68_method_9_code 10 = .ok (.istore_n 2, 1) := by decide +kernel
theorem d19_11 : decode jdk_68_method_9_code 11 = .ok (.iload_n 1, 1) := by decide +kernel
theorem d19_12 : decode jdk_68_method_9_code 12 = .ok (.iload_n 2, 1) := by decide +kernel
theorem d19_13 : decode jdk_68_method_9_code 13 = .ok (.isub, 1) := by decide +kernel
theorem d19_14 : decode jdk_68_method_9_code 14 = .ok (.ifCond .le 24, 3) := by decide +kernel
theorem d19_38 : decode jdk_68_method_9_code 38 = .ok (.return_, 1) := by decide +kernel
theorem d37_0 : decode jdk_29_method_69_code 0 = .ok (.iload_n 0, 1) := by decide +kernel
theorem d37_1 : decode jdk_29_method_69_code 1 = .ok (.iload_n 1, 1) := by decide +kernel
theorem d37_2 : decode jdk_29_method_69_code 2 = .ok (.if_icmp .gt 7, 3) := by decide +kernel
theorem d37_5 : decode jdk_29_method_69_code 5 = .ok (.iload_n 0, 1) := by decide +kernel
theorem d37_6 : decode jdk_29_method_69_code 6 = .ok (.goto 4, 3) := by decide +kernel
theorem d37_10 : decode jdk_29_method_69_code 10 = .ok (.ireturn, 1) := by decide +kernel
theorem d59_0 : decode jdk_65_method_121_code 0 = .ok (.iload_n 1, 1) := by decide +kernel
theorem d59_1 : decode jdk_65_method_121_code 1 = .ok (.aload_n 0, 1) := by decide +kernel
theorem d59_2 : decode jdk_65_method_121_code 2 = .ok (.arraylength, 1) := by decide +kernel
theorem d59_3 : decode jdk_65_method_121_code 3 = .ok (.if_icmp .ne 11, 3) := by decide +kernel
theorem d59_14 : decode jdk_65_method_121_code 14 = .ok (.iload_n 1, 1) := by decide +kernel
theorem w18 {a0 : Array Value} {Z : State} (hw : HW a0 Z) : (Jvm.Cond.arrayClass Jvm.ClassFile.FieldType.byte).before a0 Z = true := hw _ (List.mem_of_getElem? (i := 18) rfl)
theorem d59_15 : decode jdk_65_method_121_code 15 = .ok (.newarray .byte, 2) := by decide +kernel
theorem d59_17 : decode jdk_65_method_121_code 17 = .ok (.astore_n 2, 1) := by decide +kernel
theorem d59_18 : decode jdk_65_method_121_code 18 = .ok (.aload_n 0, 1) := by decide +kernel
theorem d59_19 : decode jdk_65_method_121_code 19 = .ok (.iconst 0, 1) := by decide +kernel
theorem d59_20 : decode jdk_65_method_121_code 20 = .ok (.aload_n 2, 1) := by decide +kernel
theorem d59_21 : decode jdk_65_method_121_code 21 = .ok (.iconst 0, 1) := by decide +kernel
theorem d59_22 : decode jdk_65_method_121_code 22 = .ok (.aload_n 0, 1) := by decide +kernel
theorem d59_23 : decode jdk_65_method_121_code 23 = .ok (.arraylength, 1) := by decide +kernel
theorem d59_24 : decode jdk_65_method_121_code 24 = .ok (.iload_n 1, 1) := by decide +kernel
theorem w206 {a0 : Array Value} {Z : State} (hw : HW a0 Z) : (Jvm.Cond.methodLink "java/util/Arrays" (304 : Nat) ({ cls := "java/lang/Math", name := "min", desc := "(II)I" } : Jvm.MethodName)).before a0 Z = true := hw _ (List.mem_of_getElem? (i := 206) rfl)
theorem pd7 : parseMethodDescriptor "(II)I" = some ⟨[.int, .int], some .int⟩ := by decide +kernel
theorem d59_25 : decode jdk_65_method_121_code 25 = .ok (.invokestatic 304, 3) := by decide +kernel
theorem w207 {a0 : Array Value} {Z : State} (hw : HW a0 Z) : (Jvm.Cond.static ({ cls := "java/lang/Math", name := "min", desc := "(II)I" } : Jvm.MethodName)).before a0 Z = true := hw _ (List.mem_of_getElem? (i := 207) rfl)
theorem w208 {a0 : Array Value} {Z : State} (hw : HW a0 Z) : (Jvm.Cond.initialized "java/lang/Math").before a0 Z = true := hw _ (List.mem_of_getElem? (i := 208) rfl)
theorem w209 {a0 : Array Value} {Z : State} (hw : HW a0 Z) : (Jvm.Cond.code ({ cls := "java/lang/Math", name := "min", desc := "(II)I" } : Jvm.MethodName) jdk_29_method_69_code (2 : Nat) (Option.some Jvm.ClassFile.FieldType.int)).before a0 Z = true := hw _ (List.mem_of_getElem? (i := 209) rfl)
theorem w210 {a0 : Array Value} {Z : State} (hw : HW a0 Z) : (Jvm.Cond.methodLink "java/util/Arrays" (150 : Nat) ({ cls := "java/lang/System", name := "arraycopy", desc := "(Ljava/lang/Object;ILjava/lang/Object;II)V" } : Jvm.MethodName)).before a0 Z = true := hw _ (List.mem_of_getElem? (i := 210) rfl)
theorem d59_28 : decode jdk_65_method_121_code 28 = .ok (.invokestatic 150, 3) := by decide +kernel
theorem d59_31 : decode jdk_65_method_121_code 31 = .ok (.aload_n 2, 1) := by decide +kernel
theorem d59_32 : decode jdk_65_method_121_code 32 = .ok (.areturn, 1) := by decide +kernel
theorem pn4 : plainName "java/util/Arrays" = true := by first | (simp [plainName, overriddenIn]; done) | decide +kernel
theorem d58_0 : decode jdk_29_method_65_code 0 = .ok (.iload_n 0, 1) := by decide +kernel
theorem d58_1 : decode jdk_29_method_65_code 1 = .ok (.iload_n 1, 1) := by decide +kernel
theorem d58_2 : decode jdk_29_method_65_code 2 = .ok (.if_icmp .lt 7, 3) := by decide +kernel
theorem d58_9 : decode jdk_29_method_65_code 9 = .ok (.iload_n 1, 1) := by decide +kernel
theorem d58_10 : decode jdk_29_method_65_code 10 = .ok (.ireturn, 1) := by decide +kernel
theorem d57_0 : decode jdk_48_method_27_code 0 = .ok (.iload_n 0, 1) := by decide +kernel
theorem d57_1 : decode jdk_48_method_27_code 1 = .ok (.iload_n 1, 1) := by decide +kernel
theorem d57_2 : decode jdk_48_method_27_code 2 = .ok (.iload_n 2, 1) := by decide +kernel
theorem w343 {a0 : Array Value} {Z : State} (hw : HW a0 Z) : (Jvm.Cond.methodLink "jdk/internal/util/ArraysSupport" (194 : Nat) ({ cls := "java/lang/Math", name := "max", desc := "(II)I" } : Jvm.MethodName)).before a0 Z = true := hw _ (List.mem_of_getElem? (i := 343) rfl)
theorem d57_3 : decode jdk_48_method_27_code 3 = .ok (.invokestatic 194, 3) := by decide +kernel
theorem w344 {a0 : Array Value} {Z : State} (hw : HW a0 Z) : (Jvm.Cond.static ({ cls := "java/lang/Math", name := "max", desc := "(II)I" } : Jvm.MethodName)).before a0 Z = true := hw _ (List.mem_of_getElem? (i := 344) rfl)
theorem w345 {a0 : Array Value} {Z : State} (hw : HW a0 Z) : (Jvm.Cond.code ({ cls := "java/lang/Math", name := "max", desc := "(II)I" } : Jvm.MethodName) jdk_29_method_65_code (2 : Nat) (Option.some Jvm.ClassFile.FieldType.int)).before a0 Z = true := hw _ (List.mem_of_getElem? (i := 345) rfl)
theorem d57_6 : decode jdk_48_method_27_code 6 = .ok (.iadd, 1) := by decide +kernel
theorem d57_7 : decode jdk_48_method_27_code 7 = .ok (.istore_n 3, 1) := by decide +kernel
theorem d57_8 : decode jdk_48_method_27_code 8 = .ok (.iconst 0, 1) := by decide +kernel
theorem d57_9 : decode jdk_48_method_27_code 9 = .ok (.iload_n 3, 1) := by decide +kernel
theorem d57_10 : decode jdk_48_method_27_code 10 = .ok (.if_icmp .ge 11, 3) := by decide +kernel
theorem d57_13 : decode jdk_48_method_27_code 13 = .ok (.iload_n 3, 1) := by decide +kernel
theorem w346 {a0 : Array Value} {Z : State} (hw : HW a0 Z) : (Jvm.Cond.constant "jdk/internal/util/ArraysSupport" (200 : Nat) (2147483639 : Int32)).before a0 Z = true := hw _ (List.mem_of_getElem? (i := 346) rfl)
theorem d57_14 : decode jdk_48_method_27_code 14 = .ok (.ldc 200, 2) := by decide +kernel
theorem d57_16 : decode jdk_48_method_27_code 16 = .ok (.if_icmp .gt 5, 3) := by decide +kernel
theorem d57_19 : decode jdk_48_method_27_code 19 = .ok (.iload_n 3, 1) := by decide +kernel
theorem d57_20 : decode jdk_48_method_27_code 20 = .ok (.ireturn, 1) := by decide +kernel
theorem pn5 : plainName "jdk/internal/util/ArraysSupport" = true := by first | (simp [plainName, overriddenIn]; done) | decide +kernel
theorem d56_0 : decode jdk_68_method_10_code 0 = .ok (.aload_n 0, 1) := by decide +kernel
theorem d56_1 : decode jdk_68_method_10_code 1 = .ok (.getfield 15, 3) := by decide +kernel
theorem d56_4 : decode jdk_68_method_10_code 4 = .ok (.arraylength, 1) := by decide +kernel
theorem d56_5 : decode jdk_68_method_10_code 5 = .ok (.istore_n 2, 1) := by decide +kernel
theorem d56_6 : decode jdk_68_method_10_code 6 = .ok (.iload_n 1, 1) := by decide +kernel
theorem d56_7 : decode jdk_68_method_10_code 7 = .ok (.aload_n 0, 1) := by decide +kernel
theorem d56_8 : decode jdk_68_method_10_code 8 = .ok (.getfield 22, 3) := by decide +kernel
theorem d56_11 : decode jdk_68_method_10_code 11 = .ok (.ishl, 1) := by decide +kernel
theorem d56_12 : decode jdk_68_method_10_code 12 = .ok (.istore_n 3, 1) := by decide +kernel
theorem d56_13 : decode jdk_68_method_10_code 13 = .ok (.iload_n 3, 1) := by decide +kernel
theorem d56_14 : decode jdk_68_method_10_code 14 = .ok (.iload_n 2, 1) := by decide +kernel
theorem d56_15 : decode jdk_68_method_10_code 15 = .ok (.isub, 1) := by decide +kernel
theorem d56_16 : decode jdk_68_method_10_code 16 = .ok (.istore 4, 2) := by decide +kernel
theorem d56_18 : decode jdk_68_method_10_code 18 = .ok (.iload_n 2, 1) := by decide +kernel
theorem d56_19 : decode jdk_68_method_10_code 19 = .ok (.iload 4, 2) := by decide +kernel
theorem d56_21 : decode jdk_68_method_10_code 21 = .ok (.iload_n 2, 1) := by decide +kernel
theorem d56_22 : decode jdk_68_method_10_code 22 = .ok (.iconst 2, 1) := by decide +kernel
theorem d56_23 : decode jdk_68_method_10_code 23 = .ok (.aload_n 0, 1) := by decide +kernel
theorem d56_24 : decode jdk_68_method_10_code 24 = .ok (.getfield 22, 3) := by decide +kernel
theorem d56_27 : decode jdk_68_method_10_code 27 = .ok (.ishl, 1) := by decide +kernel
theorem d56_28 : decode jdk_68_method_10_code 28 = .ok (.iadd, 1) := by decide +kernel
theorem w339 {a0 : Array Value} {Z : State} (hw : HW a0 Z) : (Jvm.Cond.methodLink "java/lang/AbstractStringBuilder" (114 : Nat) ({ cls := "jdk/internal/util/ArraysSupport", name := "newLength", desc := "(III)I" } : Jvm.MethodName)).before a0 Z = true := hw _ (List.mem_of_getElem? (i := 339) rfl)
theorem pd8 : parseMethodDescriptor "(III)I" = some ⟨[.int, .int, .int], some .int⟩ := by decide +kernel
theorem d56_29 : decode jdk_68_method_10_code 29 = .ok (.invokestatic 114, 3) := by decide +kernel
theorem w340 {a0 : Array Value} {Z : State} (hw : HW a0 Z) : (Jvm.Cond.static ({ cls := "jdk/internal/util/ArraysSupport", name := "newLength", desc := "(III)I" } : Jvm.MethodName)).before a0 Z = true := hw _ (List.mem_of_getElem? (i := 340) rfl)
theorem w341 {a0 : Array Value} {Z : State} (hw : HW a0 Z) : (Jvm.Cond.initialized "jdk/internal/util/ArraysSupport").before a0 Z = true := hw _ (List.mem_of_getElem? (i := 341) rfl)
theorem w342 {a0 : Array Value} {Z : State} (hw : HW a0 Z) : (Jvm.Cond.code ({ cls := "jdk/internal/util/ArraysSupport", name := "newLength", desc := "(III)I" } : Jvm.MethodName) jdk_48_method_27_code (4 : Nat) (Option.some Jvm.ClassFile.FieldType.int)).before a0 Z = true := hw _ (List.mem_of_getElem? (i := 342) rfl)
theorem d56_32 : decode jdk_68_method_10_code 32 = .ok (.istore 5, 2) := by decide +kernel
theorem d56_34 : decode jdk_68_method_10_code 34 = .ok (.iload 5, 2) := by decide +kernel
theorem w347 {a0 : Array Value} {Z : State} (hw : HW a0 Z) : (Jvm.Cond.constant "java/lang/AbstractStringBuilder" (39 : Nat) (2147483647 : Int32)).before a0 Z = true := hw _ (List.mem_of_getElem? (i := 347) rfl)
theorem d56_36 : decode jdk_68_method_10_code 36 = .ok (.ldc 39, 2) := by decide +kernel
theorem d56_38 : decode jdk_68_method_10_code 38 = .ok (.if_icmp .ne 13, 3) := by decide +kernel
theorem d56_51 : decode jdk_68_method_10_code 51 = .ok (.iload 5, 2) := by decide +kernel
theorem d56_53 : decode jdk_68_method_10_code 53 = .ok (.aload_n 0, 1) := by decide +kernel
theorem d56_54 : decode jdk_68_method_10_code 54 = .ok (.getfield 22, 3) := by decide +kernel
theorem d56_57 : decode jdk_68_method_10_code 57 = .ok (.ishr, 1) := by decide +kernel
theorem d56_58 : decode jdk_68_method_10_code 58 = .ok (.ireturn, 1) := by decide +kernel
theorem d19_17 : decode jdk_68_method_9_code 17 = .ok (.aload_n 0, 1) := by decide +kernel
theorem d19_18 : decode jdk_68_method_9_code 18 = .ok (.aload_n 0, 1) := by decide +kernel
theorem d19_19 : decode jdk_68_method_9_code 19 = .ok (.getfield 15, 3) := by decide +kernel
theorem d19_22 : decode jdk_68_method_9_code 22 = .ok (.aload_n 0, 1) := by decide +kernel
theorem d19_23 : decode jdk_68_method_9_code 23 = .ok (.iload_n 1, 1) := by decide +kernel
theorem w334 {a0 : Array Value} {Z : State} (hw : HW a0 Z) : (Jvm.Cond.methodLink "java/lang/AbstractStringBuilder" (104 : Nat) ({ cls := "java/lang/AbstractStringBuilder", name := "newCapacity", desc := "(I)I" } : Jvm.MethodName)).before a0 Z = true := hw _ (List.mem_of_getElem? (i := 334) rfl)
theorem pd9 : parseMethodDescriptor "(I)I" = some ⟨[.int], some .int⟩ := by decide +kernel
theorem d19_24 : decode jdk_68_method_9_code 24 = .ok (.invokevirtual 104, 3) := by decide +kernel
theorem w337 {a0 : Array Value} {Z : State} (hw : HW a0 Z) : (Jvm.Cond.selects "java/lang/StringBuilder" ({ cls := "java/lang/AbstractStringBuilder", name := "newCapacity", desc := "(I)I" } : Jvm.MethodName) ({ cls := "java/lang/AbstractStringBuilder", name := "newCapacity", desc := "(I)I" } : Jvm.MethodName)).before a0 Z = true := hw _ (List.mem_of_getElem? (i := 337) rfl)
theorem w335 {a0 : Array Value} {Z : State} (hw : HW a0 Z) : (Jvm.Cond.instanceMethod ({ cls := "java/lang/AbstractStringBuilder", name := "newCapacity", desc := "(I)I" } : Jvm.MethodName)).before a0 Z = true := hw _ (List.mem_of_getElem? (i := 335) rfl)
theorem w338 {a0 : Array Value} {Z : State} (hw : HW a0 Z) : (Jvm.Cond.code ({ cls := "java/lang/AbstractStringBuilder", name := "newCapacity", desc := "(I)I" } : Jvm.MethodName) jdk_68_method_10_code (6 : Nat) (Option.some Jvm.ClassFile.FieldType.int)).before a0 Z = true := hw _ (List.mem_of_getElem? (i := 338) rfl)
theorem d19_27 : decode jdk_68_method_9_code 27 = .ok (.aload_n 0, 1) := by decide +kernel
theorem d19_28 : decode jdk_68_method_9_code 28 = .ok (.getfield 22, 3) := by decide +kernel
theorem d19_31 : decode jdk_68_method_9_code 31 = .ok (.ishl, 1) := by decide +kernel
theorem w348 {a0 : Array Value} {Z : State} (hw : HW a0 Z) : (Jvm.Cond.methodLink "java/lang/AbstractStringBuilder" (108 : Nat) ({ cls := "java/util/Arrays", name := "copyOf", desc := "([BI)[B" } : Jvm.MethodName)).before a0 Z = true := hw _ (List.mem_of_getElem? (i := 348) rfl)
theorem pd10 : parseMethodDescriptor "([BI)[B" = some ⟨[(.array .byte), .int], some (.array .byte)⟩ := by decide +kernel
theorem d19_32 : decode jdk_68_method_9_code 32 = .ok (.invokestatic 108, 3) := by decide +kernel
theorem w349 {a0 : Array Value} {Z : State} (hw : HW a0 Z) : (Jvm.Cond.static ({ cls := "java/util/Arrays", name := "copyOf", desc := "([BI)[B" } : Jvm.MethodName)).before a0 Z = true := hw _ (List.mem_of_getElem? (i := 349) rfl)
theorem w198 {a0 : Array Value} {Z : State} (hw : HW a0 Z) : (Jvm.Cond.initialized "java/util/Arrays").before a0 Z = true := hw _ (List.mem_of_getElem? (i := 198) rfl)
theorem w350 {a0 : Array Value} {Z : State} (hw : HW a0 Z) : (Jvm.Cond.code ({ cls := "java/util/Arrays", name := "copyOf", desc := "([BI)[B" } : Jvm.MethodName) jdk_65_method_121_code (3 : Nat) (Option.some (Jvm.ClassFile.FieldType.array Jvm.ClassFile.FieldType.byte))).before a0 Z = true := hw _ (List.mem_of_getElem? (i := 350) rfl)
theorem w82 {a0 : Array Value} {Z : State} (hw : HW a0 Z) : (Jvm.Cond.instantiable "java/lang/StringBuilder" (4 : Nat)).before a0 Z = true := hw _ (List.mem_of_getElem? (i := 82) rfl)
theorem w96 {a0 : Array Value} {Z : State} (hw : HW a0 Z) : (Jvm.Cond.lays "java/lang/StringBuilder" "java/lang/AbstractStringBuilder" "value" "[B").before a0 Z = true := hw _ (List.mem_of_getElem? (i := 96) rfl)
theorem d19_35 : decode jdk_68_method_9_code 35 = .ok (.putfield 15, 3) := by decide +kernel
theorem w98 {a0 : Array Value} {Z : State} (hw : HW a0 Z) : (Jvm.Cond.lays "java/lang/StringBuilder" "java/lang/AbstractStringBuilder" "coder" "B").before a0 Z = true := hw _ (List.mem_of_getElem? (i := 98) rfl)
theorem w120 {a0 : Array Value} {Z : State} (hw : HW a0 Z) : (Jvm.Cond.lays "java/lang/StringBuilder" "java/lang/AbstractStringBuilder" "count" "I").before a0 Z = true := hw _ (List.mem_of_getElem? (i := 120) rfl)
theorem d16_0 : decode jdk_68_method_22_code 0 = .ok (.aload_n 1, 1) := by decide +kernel
theorem d16_1 : decode jdk_68_method_22_code 1 = .ok (.ifnonnull 8, 3) := by decide +kernel
theorem d16_9 : decode jdk_68_method_22_code 9 = .ok (.aload_n 1, 1) := by decide +kernel
theorem w109 {a0 : Array Value} {Z : State} (hw : HW a0 Z) : (Jvm.Cond.methodLink "java/lang/AbstractStringBuilder" (32 : Nat) ({ cls := "java/lang/String", name := "length", desc := "()I" } : Jvm.MethodName)).before a0 Z = true := hw _ (List.mem_of_getElem? (i := 109) rfl)
theorem pd11 : parseMethodDescriptor "()I" = some ⟨[], some .int⟩ := by decide +kernel
theorem d16_10 : decode jdk_68_method_22_code 10 = .ok (.invokevirtual 32, 3) := by decide +kernel
theorem w112 {a0 : Array Value} {Z : State} (hw : HW a0 Z) : (Jvm.Cond.selects "java/lang/String" ({ cls := "java/lang/String", name := "length", desc := "()I" } : Jvm.MethodName) ({ cls := "java/lang/String", name := "length", desc := "()I" } : Jvm.MethodName)).before a0 Z = true := hw _ (List.mem_of_getElem? (i := 112) rfl)
theorem w110 {a0 : Array Value} {Z : State} (hw : HW a0 Z) : (Jvm.Cond.declares ({ cls := "java/lang/String", name := "length", desc := "()I" } : Jvm.MethodName)).before a0 Z = true := hw _ (List.mem_of_getElem? (i := 110) rfl)
theorem w111 {a0 : Array Value} {Z : State} (hw : HW a0 Z) : (Jvm.Cond.instanceMethod ({ cls := "java/lang/String", name := "length", desc := "()I" } : Jvm.MethodName)).before a0 Z = true := hw _ (List.mem_of_getElem? (i := 111) rfl)
theorem w113 {a0 : Array Value} {Z : State} (hw : HW a0 Z) : (Jvm.Cond.code ({ cls := "java/lang/String", name := "length", desc := "()I" } : Jvm.MethodName) jdk_42_method_54_code (1 : Nat) (Option.some Jvm.ClassFile.FieldType.int)).before a0 Z = true := hw _ (List.mem_of_getElem? (i := 113) rfl)
theorem d16_13 : decode jdk_68_method_22_code 13 = .ok (.istore_n 2, 1) := by decide +kernel
theorem d16_14 : decode jdk_68_method_22_code 14 = .ok (.aload_n 0, 1) := by decide +kernel
theorem d16_15 : decode jdk_68_method_22_code 15 = .ok (.aload_n 0, 1) := by decide +kernel
theorem w119 {a0 : Array Value} {Z : State} (hw : HW a0 Z) : (Jvm.Cond.fieldLink "java/lang/AbstractStringBuilder" (79 : Nat) "java/lang/AbstractStringBuilder" "count" "I").before a0 Z = true := hw _ (List.mem_of_getElem? (i := 119) rfl)
theorem d16_16 : decode jdk_68_method_22_code 16 = .ok (.getfield 79, 3) := by decide +kernel
theorem d16_19 : decode jdk_68_method_22_code 19 = .ok (.iload_n 2, 1) := by decide +kernel
theorem d16_20 : decode jdk_68_method_22_code 20 = .ok (.iadd, 1) := by decide +kernel
theorem w121 {a0 : Array Value} {Z : State} (hw : HW a0 Z) : (Jvm.Cond.methodLink "java/lang/AbstractStringBuilder" (100 : Nat) ({ cls := "java/lang/AbstractStringBuilder", name := "ensureCapacityInternal", desc := "(I)V" } : Jvm.MethodName)).before a0 Z = true := hw _ (List.mem_of_getElem? (i := 121) rfl)
theorem pd12 : parseMethodDescriptor "(I)V" = some ⟨[.int], none⟩ := by decide +kernel
theorem d16_21 : decode jdk_68_method_22_code 21 = .ok (.invokevirtual 100, 3) := by decide +kernel
theorem w124 {a0 : Array Value} {Z : State} (hw : HW a0 Z) : (Jvm.Cond.selects "java/lang/StringBuilder" ({ cls := "java/lang/AbstractStringBuilder", name := "ensureCapacityInternal", desc := "(I)V" } : Jvm.MethodName) ({ cls := "java/lang/AbstractStringBuilder", name := "ensureCapacityInternal", desc := "(I)V" } : Jvm.MethodName)).before a0 Z = true := hw _ (List.mem_of_getElem? (i := 124) rfl)
theorem w122 {a0 : Array Value} {Z : State} (hw : HW a0 Z) : (Jvm.Cond.instanceMethod ({ cls := "java/lang/AbstractStringBuilder", name := "ensureCapacityInternal", desc := "(I)V" } : Jvm.MethodName)).before a0 Z = true := hw _ (List.mem_of_getElem? (i := 122) rfl)
theorem w125 {a0 : Array Value} {Z : State} (hw : HW a0 Z) : (Jvm.Cond.code ({ cls := "java/lang/AbstractStringBuilder", name := "ensureCapacityInternal", desc := "(I)V" } : Jvm.MethodName) jdk_68_method_9_code (3 : Nat) (Option.none : Option Jvm.ClassFile.FieldType)).before a0 Z = true := hw _ (List.mem_of_getElem? (i := 125) rfl)
theorem d16_24 : decode jdk_68_method_22_code 24 = .ok (.aload_n 0, 1) := by decide +kernel
theorem d16_25 : decode jdk_68_method_22_code 25 = .ok (.aload_n 0, 1) := by decide +kernel
theorem d16_26 : decode jdk_68_method_22_code 26 = .ok (.getfield 79, 3) := by decide +kernel
theorem d16_29 : decode jdk_68_method_22_code 29 = .ok (.aload_n 1, 1) := by decide +kernel
theorem w126 {a0 : Array Value} {Z : State} (hw : HW a0 Z) : (Jvm.Cond.methodLink "java/lang/AbstractStringBuilder" (208 : Nat) ({ cls := "java/lang/AbstractStringBuilder", name := "putStringAt", desc := "(ILjava/lang/String;)V" } : Jvm.MethodName)).before a0 Z = true := hw _ (List.mem_of_getElem? (i := 126) rfl)
theorem pd13 : parseMethodDescriptor "(ILjava/lang/String;)V" = some ⟨[.int, (.object "java/lang/String")], none⟩ := by decide +kernel
theorem d16_30 : decode jdk_68_method_22_code 30 = .ok (.invokevirtual 208, 3) := by decide +kernel
theorem w129 {a0 : Array Value} {Z : State} (hw : HW a0 Z) : (Jvm.Cond.selects "java/lang/StringBuilder" ({ cls := "java/lang/AbstractStringBuilder", name := "putStringAt", desc := "(ILjava/lang/String;)V" } : Jvm.MethodName) ({ cls := "java/lang/AbstractStringBuilder", name := "putStringAt", desc := "(ILjava/lang/String;)V" } : Jvm.MethodName)).before a0 Z = true := hw _ (List.mem_of_getElem? (i := 129) rfl)
theorem w127 {a0 : Array Value} {Z : State} (hw : HW a0 Z) : (Jvm.Cond.instanceMethod ({ cls := "java/lang/AbstractStringBuilder", name := "putStringAt", desc := "(ILjava/lang/String;)V" } : Jvm.MethodName)).before a0 Z = true := hw _ (List.mem_of_getElem? (i := 127) rfl)
theorem w130 {a0 : Array Value} {Z : State} (hw : HW a0 Z) : (Jvm.Cond.code ({ cls := "java/lang/AbstractStringBuilder", name := "putStringAt", desc := "(ILjava/lang/String;)V" } : Jvm.MethodName) jdk_68_method_73_code (3 : Nat) (Option.none : Option Jvm.ClassFile.FieldType)).before a0 Z = true := hw _ (List.mem_of_getElem? (i := 130) rfl)
theorem d16_33 : decode jdk_68_method_22_code 33 = .ok (.aload_n 0, 1) := by decide +kernel
theorem d16_34 : decode jdk_68_method_22_code 34 = .ok (.dup, 1) := by decide +kernel
theorem d16_35 : decode jdk_68_method_22_code 35 = .ok (.getfield 79, 3) := by decide +kernel
theorem d16_38 : decode jdk_68_method_22_code 38 = .ok (.iload_n 2, 1) := by decide +kernel
theorem d16_39 : decode jdk_68_method_22_code 39 = .ok (.iadd, 1) := by decide +kernel
theorem d16_40 : decode jdk_68_method_22_code 40 = .ok (.putfield 79, 3) := by decide +kernel
theorem d16_43 : decode jdk_68_method_22_code 43 = .ok (.aload_n 0, 1) := by decide +kernel
theorem d16_44 : decode jdk_68_method_22_code 44 = .ok (.areturn, 1) := by decide +kernel
theorem d15_0 : decode jdk_67_method_7_code 0 = .ok (.aload_n 0, 1) := by decide +kernel
theorem d15_1 : decode jdk_67_method_7_code 1 = .ok (.aload_n 1, 1) := by decide +kernel
theorem w104 {a0 : Array Value} {Z : State} (hw : HW a0 Z) : (Jvm.Cond.methodLink "java/lang/StringBuilder" (29 : Nat) ({ cls := "java/lang/AbstractStringBuilder", name := "append", desc := "(Ljava/lang/String;)Ljava/lang/AbstractStringBuilder;" } : Jvm.MethodName)).before a0 Z = true := hw _ (List.mem_of_getElem? (i := 104) rfl)
theorem pd14 : parseMethodDescriptor "(Ljava/lang/String;)Ljava/lang/AbstractStringBuilder;" = some ⟨[(.object "java/lang/String")], some (.object "java/lang/AbstractStringBuilder")⟩ := by decide +kernel
theorem d15_2 : decode jdk_67_method_7_code 2 = .ok (.invokespecial 29, 3) := by decide +kernel
theorem w105 {a0 : Array Value} {Z : State} (hw : HW a0 Z) : (Jvm.Cond.instanceMethod ({ cls := "java/lang/AbstractStringBuilder", name := "append", desc := "(Ljava/lang/String;)Ljava/lang/AbstractStringBuilder;" } : Jvm.MethodName)).before a0 Z = true := hw _ (List.mem_of_getElem? (i := 105) rfl)
theorem w106 {a0 : Array Value} {Z : State} (hw : HW a0 Z) : (Jvm.Cond.superclass "java/lang/StringBuilder" "java/lang/AbstractStringBuilder").before a0 Z = true := hw _ (List.mem_of_getElem? (i := 106) rfl)
theorem w108 {a0 : Array Value} {Z : State} (hw : HW a0 Z) : (Jvm.Cond.code ({ cls := "java/lang/AbstractStringBuilder", name := "append", desc := "(Ljava/lang/String;)Ljava/lang/AbstractStringBuilder;" } : Jvm.MethodName) jdk_68_method_22_code (3 : Nat) (Option.some (Jvm.ClassFile.FieldType.object "java/lang/AbstractStringBuilder"))).before a0 Z = true := hw _ (List.mem_of_getElem? (i := 108) rfl)
theorem d15_5 : decode jdk_67_method_7_code 5 = .ok (.pop, 1) := by decide +kernel
theorem d15_6 : decode jdk_67_method_7_code 6 = .ok (.aload_n 0, 1) := by decide +kernel
theorem d15_7 : decode jdk_67_method_7_code 7 = .ok (.areturn, 1) := by decide +kernel
theorem pn6 : plainName "java/lang/StringBuilder" = true := by first | (simp [plainName, overriddenIn]; done) | decide +kernel
theorem d26_0 : decode jdk_68_method_68_code 0 = .ok (.getstatic 18, 3) := by decide +kernel
theorem d26_3 : decode jdk_68_method_68_code 3 = .ok (.ifCond .eq 14, 3) := by decide +kernel
theorem d26_6 : decode jdk_68_method_68_code 6 = .ok (.aload_n 0, 1) := by decide +kernel
theorem d26_7 : decode jdk_68_method_68_code 7 = .ok (.getfield 22, 3) := by decide +kernel
theorem d26_10 : decode jdk_68_method_68_code 10 = .ok (.ifCond .ne 7, 3) := by decide +kernel
theorem d26_13 : decode jdk_68_method_68_code 13 = .ok (.iconst 1, 1) := by decide +kernel
theorem d26_14 : decode jdk_68_method_68_code 14 = .ok (.goto 4, 3) := by decide +kernel
theorem d26_18 : decode jdk_68_method_68_code 18 = .ok (.ireturn, 1) := by decide +kernel
theorem d25_0 : decode jdk_33_method_13_code 0 = .ok (.iconst 1, 1) := by decide +kernel
theorem d25_1 : decode jdk_33_method_13_code 1 = .ok (.istore_n 1, 1) := by decide +kernel
theorem d25_2 : decode jdk_33_method_13_code 2 = .ok (.iload_n 0, 1) := by decide +kernel
theorem d25_3 : decode jdk_33_method_13_code 3 = .ok (.ifCond .lt 8, 3) := by decide +kernel
theorem d25_11 : decode jdk_33_method_13_code 11 = .ok (.bipush (-10), 2) := by decide +kernel
theorem d25_13 : decode jdk_33_method_13_code 13 = .ok (.istore_n 2, 1) := by decide +kernel
theorem d25_14 : decode jdk_33_method_13_code 14 = .ok (.iconst 1, 1) := by decide +kernel
theorem d25_15 : decode jdk_33_method_13_code 15 = .ok (.istore_n 3, 1) := by decide +kernel
theorem d25_16 : decode jdk_33_method_13_code 16 = .ok (.iload_n 3, 1) := by decide +kernel
theorem d25_17 : decode jdk_33_method_13_code 17 = .ok (.bipush 10, 2) := by decide +kernel
theorem d25_19 : decode jdk_33_method_13_code 19 = .ok (.if_icmp .ge 23, 3) := by decide +kernel
theorem d25_22 : decode jdk_33_method_13_code 22 = .ok (.iload_n 0, 1) := by decide +kernel
theorem d25_23 : decode jdk_33_method_13_code 23 = .ok (.iload_n 2, 1) := by decide +kernel
theorem d25_24 : decode jdk_33_method_13_code 24 = .ok (.if_icmp .le 7, 3) := by decide +kernel
theorem d25_27 : decode jdk_33_method_13_code 27 = .ok (.iload_n 3, 1) := by decide +kernel
theorem d25_28 : decode jdk_33_method_13_code 28 = .ok (.iload_n 1, 1) := by decide +kernel
theorem d25_29 : decode jdk_33_method_13_code 29 = .ok (.iadd, 1) := by decide +kernel
theorem d25_30 : decode jdk_33_method_13_code 30 = .ok (.ireturn, 1) := by decide +kernel
theorem d25_31 : decode jdk_33_method_13_code 31 = .ok (.bipush 10, 2) := by decide +kernel
theorem d25_33 : decode jdk_33_method_13_code 33 = .ok (.iload_n 2, 1) := by decide +kernel
theorem d25_34 : decode jdk_33_method_13_code 34 = .ok (.imul, 1) := by decide +kernel
theorem d25_35 : decode jdk_33_method_13_code 35 = .ok (.istore_n 2, 1) := by decide +kernel
theorem d25_36 : decode jdk_33_method_13_code 36 = .ok (.iinc 3 1, 3) := by decide +kernel
theorem d25_39 : decode jdk_33_method_13_code 39 = .ok (.goto (-23), 3) := by decide +kernel
theorem d25_42 : decode jdk_33_method_13_code 42 = .ok (.bipush 10, 2) := by decide +kernel
theorem d25_44 : decode jdk_33_method_13_code 44 = .ok (.iload_n 1, 1) := by decide +kernel
theorem d25_45 : decode jdk_33_method_13_code 45 = .ok (.iadd, 1) := by decide +kernel
theorem d25_46 : decode jdk_33_method_13_code 46 = .ok (.ireturn, 1) := by decide +kernel
theorem d25_6 : decode jdk_33_method_13_code 6 = .ok (.iconst 0, 1) := by decide +kernel
theorem d25_7 : decode jdk_33_method_13_code 7 = .ok (.istore_n 1, 1) := by decide +kernel
theorem d25_8 : decode jdk_33_method_13_code 8 = .ok (.iload_n 0, 1) := by decide +kernel
theorem d25_9 : decode jdk_33_method_13_code 9 = .ok (.ineg, 1) := by decide +kernel
theorem d25_10 : decode jdk_33_method_13_code 10 = .ok (.istore_n 0, 1) := by decide +kernel
theorem pn7 : plainName "java/lang/Integer" = true := by first | (simp [plainName, overriddenIn]; done) | decide +kernel
theorem d27_22 : decode jdk_33_method_12_code 22 = .ok (.iload_n 0, 1) := by decide +kernel
theorem d27_23 : decode jdk_33_method_12_code 23 = .ok (.bipush (-100), 2) := by decide +kernel
theorem d27_25 : decode jdk_33_method_12_code 25 = .ok (.if_icmp .gt 47, 3) := by decide +kernel
theorem d27_28 : decode jdk_33_method_12_code 28 = .ok (.iload_n 0, 1) := by decide +kernel
theorem d27_29 : decode jdk_33_method_12_code 29 = .ok (.bipush 100, 2) := by decide +kernel
theorem d27_31 : decode jdk_33_method_12_code 31 = .ok (.idiv, 1) := by decide +kernel
theorem d27_32 : decode jdk_33_method_12_code 32 = .ok (.istore_n 3, 1) := by decide +kernel
theorem d27_33 : decode jdk_33_method_12_code 33 = .ok (.iload_n 3, 1) := by decide +kernel
theorem d27_34 : decode jdk_33_method_12_code 34 = .ok (.bipush 100, 2) := by decide +kernel
theorem d27_36 : decode jdk_33_method_12_code 36 = .ok (.imul, 1) := by decide +kernel
theorem d27_37 : decode jdk_33_method_12_code 37 = .ok (.iload_n 0, 1) := by decide +kernel
theorem d27_38 : decode jdk_33_method_12_code 38 = .ok (.isub, 1) := by decide +kernel
theorem d27_39 : decode jdk_33_method_12_code 39 = .ok (.istore 4, 2) := by decide +kernel
theorem d27_41 : decode jdk_33_method_12_code 41 = .ok (.iload_n 3, 1) := by decide +kernel
theorem d27_42 : decode jdk_33_method_12_code 42 = .ok (.istore_n 0, 1) := by decide +kernel
theorem d27_43 : decode jdk_33_method_12_code 43 = .ok (.aload_n 2, 1) := by decide +kernel
theorem d27_44 : decode jdk_33_method_12_code 44 = .ok (.iinc 5 (-1), 3) := by decide +kernel
theorem d27_47 : decode jdk_33_method_12_code 47 = .ok (.iload 5, 2) := by decide +kernel
theorem w168 {a0 : Array Value} {Z : State} (hw : HW a0 Z) : (Jvm.Cond.fieldLink "java/lang/Integer" (83 : Nat) "java/lang/Integer" "DigitOnes" "[B").before a0 Z = true := hw _ (List.mem_of_getElem? (i := 168) rfl)
theorem d27_49 : decode jdk_33_method_12_code 49 = .ok (.getstatic 83, 3) := by decide +kernel
theorem d27_52 : decode jdk_33_method_12_code 52 = .ok (.iload 4, 2) := by decide +kernel
theorem d27_54 : decode jdk_33_method_12_code 54 = .ok (.baload, 1) := by decide +kernel
theorem d27_55 : decode jdk_33_method_12_code 55 = .ok (.bastore, 1) := by decide +kernel
theorem d27_56 : decode jdk_33_method_12_code 56 = .ok (.aload_n 2, 1) := by decide +kernel
theorem d27_57 : decode jdk_33_method_12_code 57 = .ok (.iinc 5 (-1), 3) := by decide +kernel
theorem d27_60 : decode jdk_33_method_12_code 60 = .ok (.iload 5, 2) := by decide +kernel
theorem w306 {a0 : Array Value} {Z : State} (hw : HW a0 Z) : (Jvm.Cond.fieldLink "java/lang/Integer" (87 : Nat) "java/lang/Integer" "DigitTens" "[B").before a0 Z = true := hw _ (List.mem_of_getElem? (i := 306) rfl)
theorem d27_62 : decode jdk_33_method_12_code 62 = .ok (.getstatic 87, 3) := by decide +kernel
theorem d27_65 : decode jdk_33_method_12_code 65 = .ok (.iload 4, 2) := by decide +kernel
theorem d27_67 : decode jdk_33_method_12_code 67 = .ok (.baload, 1) := by decide +kernel
theorem d27_68 : decode jdk_33_method_12_code 68 = .ok (.bastore, 1) := by decide +kernel
theorem d27_69 : decode jdk_33_method_12_code 69 = .ok (.goto (-47), 3) := by decide +kernel
theorem d27_72 : decode jdk_33_method_12_code 72 = .ok (.aload_n 2, 1) := by decide +kernel
theorem d27_73 : decode jdk_33_method_12_code 73 = .ok (.iinc 5 (-1), 3) := by decide +kernel
theorem d27_76 : decode jdk_33_method_12_code 76 = .ok (.iload 5, 2) := by decide +kernel
theorem d27_78 : decode jdk_33_method_12_code 78 = .ok (.getstatic 83, 3) := by decide +kernel
theorem d27_81 : decode jdk_33_method_12_code 81 = .ok (.iload_n 0, 1) := by decide +kernel
theorem d27_82 : decode jdk_33_method_12_code 82 = .ok (.ineg, 1) := by decide +kernel
theorem d27_83 : decode jdk_33_method_12_code 83 = .ok (.baload, 1) := by decide +kernel
theorem d27_84 : decode jdk_33_method_12_code 84 = .ok (.bastore, 1) := by decide +kernel
theorem d27_85 : decode jdk_33_method_12_code 85 = .ok (.iload_n 0, 1) := by decide +kernel
theorem d27_86 : decode jdk_33_method_12_code 86 = .ok (.bipush (-9), 2) := by decide +kernel
theorem d27_88 : decode jdk_33_method_12_code 88 = .ok (.if_icmp .ge 16, 3) := by decide +kernel
theorem d27_91 : decode jdk_33_method_12_code 91 = .ok (.aload_n 2, 1) := by decide +kernel
theorem d27_92 : decode jdk_33_method_12_code 92 = .ok (.iinc 5 (-1), 3) := by decide +kernel
theorem d27_95 : decode jdk_33_method_12_code 95 = .ok (.iload 5, 2) := by decide +kernel
theorem d27_97 : decode jdk_33_method_12_code 97 = .ok (.getstatic 87, 3) := by decide +kernel
theorem d27_100 : decode jdk_33_method_12_code 100 = .ok (.iload_n 0, 1) := by decide +kernel
theorem d27_101 : decode jdk_33_method_12_code 101 = .ok (.ineg, 1) := by decide +kernel
theorem d27_102 : decode jdk_33_method_12_code 102 = .ok (.baload, 1) := by decide +kernel
theorem d27_103 : decode jdk_33_method_12_code 103 = .ok (.bastore, 1) := by decide +kernel
theorem d27_0 : decode jdk_33_method_12_code 0 = .ok (.iload_n 1, 1) := by decide +kernel
theorem d27_1 : decode jdk_33_method_12_code 1 = .ok (.istore 5, 2) := by decide +kernel
theorem d27_3 : decode jdk_33_method_12_code 3 = .ok (.iload_n 0, 1) := by decide +kernel
theorem d27_4 : decode jdk_33_method_12_code 4 = .ok (.ifCond .ge 7, 3) := by decide +kernel
theorem d27_7 : decode jdk_33_method_12_code 7 = .ok (.iconst 1, 1) := by decide +kernel
theorem d27_8 : decode jdk_33_method_12_code 8 = .ok (.goto 4, 3) := by decide +kernel
theorem d27_12 : decode jdk_33_method_12_code 12 = .ok (.istore 6, 2) := by decide +kernel
theorem d27_14 : decode jdk_33_method_12_code 14 = .ok (.iload 6, 2) := by decide +kernel
theorem d27_16 : decode jdk_33_method_12_code 16 = .ok (.ifCond .ne 6, 3) := by decide +kernel
theorem d27_104 : decode jdk_33_method_12_code 104 = .ok (.iload 6, 2) := by decide +kernel
theorem d27_106 : decode jdk_33_method_12_code 106 = .ok (.ifCond .eq 12, 3) := by decide +kernel
theorem d27_109 : decode jdk_33_method_12_code 109 = .ok (.aload_n 2, 1) := by decide +kernel
theorem d27_110 : decode jdk_33_method_12_code 110 = .ok (.iinc 5 (-1), 3) := by decide +kernel
theorem d27_113 : decode jdk_33_method_12_code 113 = .ok (.iload 5, 2) := by decide +kernel
theorem d27_115 : decode jdk_33_method_12_code 115 = .ok (.bipush 45, 2) := by decide +kernel
theorem d27_117 : decode jdk_33_method_12_code 117 = .ok (.bastore, 1) := by decide +kernel
theorem d27_118 : decode jdk_33_method_12_code 118 = .ok (.iload 5, 2) := by decide +kernel
theorem d27_120 : decode jdk_33_method_12_code 120 = .ok (.ireturn, 1) := by decide +kernel
theorem d27_11 : decode jdk_33_method_12_code 11 = .ok (.iconst 0, 1) := by decide +kernel
theorem d27_19 : decode jdk_33_method_12_code 19 = .ok (.iload_n 0, 1) := by decide +kernel
theorem d27_20 : decode jdk_33_method_12_code 20 = .ok (.ineg, 1) := by decide +kernel
theorem d27_21 : decode jdk_33_method_12_code 21 = .ok (.istore_n 0, 1) := by decide +kernel
theorem d24_0 : decode jdk_68_method_32_code 0 = .ok (.aload_n 0, 1) := by decide +kernel
theorem d24_1 : decode jdk_68_method_32_code 1 = .ok (.getfield 79, 3) := by decide +kernel
theorem d24_4 : decode jdk_68_method_32_code 4 = .ok (.istore_n 2, 1) := by decide +kernel
theorem d24_5 : decode jdk_68_method_32_code 5 = .ok (.iload_n 2, 1) := by decide +kernel
theorem d24_6 : decode jdk_68_method_32_code 6 = .ok (.iload_n 1, 1) := by decide +kernel
theorem w156 {a0 : Array Value} {Z : State} (hw : HW a0 Z) : (Jvm.Cond.methodLink "java/lang/AbstractStringBuilder" (245 : Nat) ({ cls := "java/lang/Integer", name := "stringSize", desc := "(I)I" } : Jvm.MethodName)).before a0 Z = true := hw _ (List.mem_of_getElem? (i := 156) rfl)
theorem d24_7 : decode jdk_68_method_32_code 7 = .ok (.invokestatic 245, 3) := by decide +kernel
theorem w157 {a0 : Array Value} {Z : State} (hw : HW a0 Z) : (Jvm.Cond.static ({ cls := "java/lang/Integer", name := "stringSize", desc := "(I)I" } : Jvm.MethodName)).before a0 Z = true := hw _ (List.mem_of_getElem? (i := 157) rfl)
theorem w158 {a0 : Array Value} {Z : State} (hw : HW a0 Z) : (Jvm.Cond.initialized "java/lang/Integer").before a0 Z = true := hw _ (List.mem_of_getElem? (i := 158) rfl)
theorem w159 {a0 : Array Value} {Z : State} (hw : HW a0 Z) : (Jvm.Cond.code ({ cls := "java/lang/Integer", name := "stringSize", desc := "(I)I" } : Jvm.MethodName) jdk_33_method_13_code (4 : Nat) (Option.some Jvm.ClassFile.FieldType.int)).before a0 Z = true := hw _ (List.mem_of_getElem? (i := 159) rfl)
theorem d24_10 : decode jdk_68_method_32_code 10 = .ok (.iadd, 1) := by decide +kernel
theorem d24_11 : decode jdk_68_method_32_code 11 = .ok (.istore_n 3, 1) := by decide +kernel
theorem d24_12 : decode jdk_68_method_32_code 12 = .ok (.aload_n 0, 1) := by decide +kernel
theorem d24_13 : decode jdk_68_method_32_code 13 = .ok (.iload_n 3, 1) := by decide +kernel
theorem d24_14 : decode jdk_68_method_32_code 14 = .ok (.invokevirtual 100, 3) := by decide +kernel
theorem d24_17 : decode jdk_68_method_32_code 17 = .ok (.aload_n 0, 1) := by decide +kernel
theorem w160 {a0 : Array Value} {Z : State} (hw : HW a0 Z) : (Jvm.Cond.methodLink "java/lang/AbstractStringBuilder" (83 : Nat) ({ cls := "java/lang/AbstractStringBuilder", name := "isLatin1", desc := "()Z" } : Jvm.MethodName)).before a0 Z = true := hw _ (List.mem_of_getElem? (i := 160) rfl)
theorem d24_18 : decode jdk_68_method_32_code 18 = .ok (.invokevirtual 83, 3) := by decide +kernel
theorem w163 {a0 : Array Value} {Z : State} (hw : HW a0 Z) : (Jvm.Cond.selects "java/lang/StringBuilder" ({ cls := "java/lang/AbstractStringBuilder", name := "isLatin1", desc := "()Z" } : Jvm.MethodName) ({ cls := "java/lang/AbstractStringBuilder", name := "isLatin1", desc := "()Z" } : Jvm.MethodName)).before a0 Z = true := hw _ (List.mem_of_getElem? (i := 163) rfl)
theorem w161 {a0 : Array Value} {Z : State} (hw : HW a0 Z) : (Jvm.Cond.declares ({ cls := "java/lang/AbstractStringBuilder", name := "isLatin1", desc := "()Z" } : Jvm.MethodName)).before a0 Z = true := hw _ (List.mem_of_getElem? (i := 161) rfl)
theorem w162 {a0 : Array Value} {Z : State} (hw : HW a0 Z) : (Jvm.Cond.instanceMethod ({ cls := "java/lang/AbstractStringBuilder", name := "isLatin1", desc := "()Z" } : Jvm.MethodName)).before a0 Z = true := hw _ (List.mem_of_getElem? (i := 162) rfl)
theorem w164 {a0 : Array Value} {Z : State} (hw : HW a0 Z) : (Jvm.Cond.code ({ cls := "java/lang/AbstractStringBuilder", name := "isLatin1", desc := "()Z" } : Jvm.MethodName) jdk_68_method_68_code (1 : Nat) (Option.some Jvm.ClassFile.FieldType.boolean)).before a0 Z = true := hw _ (List.mem_of_getElem? (i := 164) rfl)
theorem d24_21 : decode jdk_68_method_32_code 21 = .ok (.ifCond .eq 16, 3) := by decide +kernel
theorem d24_24 : decode jdk_68_method_32_code 24 = .ok (.iload_n 1, 1) := by decide +kernel
theorem d24_25 : decode jdk_68_method_32_code 25 = .ok (.iload_n 3, 1) := by decide +kernel
theorem d24_26 : decode jdk_68_method_32_code 26 = .ok (.aload_n 0, 1) := by decide +kernel
theorem d24_27 : decode jdk_68_method_32_code 27 = .ok (.getfield 15, 3) := by decide +kernel
theorem w165 {a0 : Array Value} {Z : State} (hw : HW a0 Z) : (Jvm.Cond.methodLink "java/lang/AbstractStringBuilder" (248 : Nat) ({ cls := "java/lang/Integer", name := "getChars", desc := "(II[B)I" } : Jvm.MethodName)).before a0 Z = true := hw _ (List.mem_of_getElem? (i := 165) rfl)
theorem pd15 : parseMethodDescriptor "(II[B)I" = some ⟨[.int, .int, (.array .byte)], some .int⟩ := by decide +kernel
theorem d24_30 : decode jdk_68_method_32_code 30 = .ok (.invokestatic 248, 3) := by decide +kernel
theorem w166 {a0 : Array Value} {Z : State} (hw : HW a0 Z) : (Jvm.Cond.static ({ cls := "java/lang/Integer", name := "getChars", desc := "(II[B)I" } : Jvm.MethodName)).before a0 Z = true := hw _ (List.mem_of_getElem? (i := 166) rfl)
theorem w167 {a0 : Array Value} {Z : State} (hw : HW a0 Z) : (Jvm.Cond.code ({ cls := "java/lang/Integer", name := "getChars", desc := "(II[B)I" } : Jvm.MethodName) jdk_33_method_12_code (7 : Nat) (Option.some Jvm.ClassFile.FieldType.int)).before a0 Z = true := hw _ (List.mem_of_getElem? (i := 167) rfl)
theorem d24_33 : decode jdk_68_method_32_code 33 = .ok (.pop, 1) := by decide +kernel
theorem d24_34 : decode jdk_68_method_32_code 34 = .ok (.goto 14, 3) := by decide +kernel
theorem d24_48 : decode jdk_68_method_32_code 48 = .ok (.aload_n 0, 1) := by decide +kernel
theorem d24_49 : decode jdk_68_method_32_code 49 = .ok (.iload_n 3, 1) := by decide +kernel
theorem d24_50 : decode jdk_68_method_32_code 50 = .ok (.putfield 79, 3) := by decide +kernel
theorem d24_53 : decode jdk_68_method_32_code 53 = .ok (.aload_n 0, 1) := by decide +kernel
theorem d24_54 : decode jdk_68_method_32_code 54 = .ok (.areturn, 1) := by decide +kernel
theorem d23_0 : decode jdk_67_method_15_code 0 = .ok (.aload_n 0, 1) := by decide +kernel
theorem d23_1 : decode jdk_67_method_15_code 1 = .ok (.iload_n 1, 1) := by decide +kernel
theorem w152 {a0 : Array Value} {Z : State} (hw : HW a0 Z) : (Jvm.Cond.methodLink "java/lang/StringBuilder" (53 : Nat) ({ cls := "java/lang/AbstractStringBuilder", name := "append", desc := "(I)Ljava/lang/AbstractStringBuilder;" } : Jvm.MethodName)).before a0 Z = true := hw _ (List.mem_of_getElem? (i := 152) rfl)
theorem pd16 : parseMethodDescriptor "(I)Ljava/lang/AbstractStringBuilder;" = some ⟨[.int], some (.object "java/lang/AbstractStringBuilder")⟩ := by decide +kernel
theorem d23_2 : decode jdk_67_method_15_code 2 = .ok (.invokespecial 53, 3) := by decide +kernel
theorem w153 {a0 : Array Value} {Z : State} (hw : HW a0 Z) : (Jvm.Cond.instanceMethod ({ cls := "java/lang/AbstractStringBuilder", name := "append", desc := "(I)Ljava/lang/AbstractStringBuilder;" } : Jvm.MethodName)).before a0 Z = true := hw _ (List.mem_of_getElem? (i := 153) rfl)
theorem w155 {a0 : Array Value} {Z : State} (hw : HW a0 Z) : (Jvm.Cond.code ({ cls := "java/lang/AbstractStringBuilder", name := "append", desc := "(I)Ljava/lang/AbstractStringBuilder;" } : Jvm.MethodName) jdk_68_method_32_code (4 : Nat) (Option.some (Jvm.ClassFile.FieldType.object "java/lang/AbstractStringBuilder"))).before a0 Z = true := hw _ (List.mem_of_getElem? (i := 155) rfl)
theorem d23_5 : decode jdk_67_method_15_code 5 = .ok (.pop, 1) := by decide +kernel
theorem d23_6 : decode jdk_67_method_15_code 6 = .ok (.aload_n 0, 1) := by decide +kernel
theorem d23_7 : decode jdk_67_method_15_code 7 = .ok (.areturn, 1) := by decide +kernel
theorem d14_0 : decode jdk_68_method_2_code 0 = .ok (.aload_n 0, 1) := by decide +kernel
theorem w93 {a0 : Array Value} {Z : State} (hw : HW a0 Z) : (Jvm.Cond.methodLink "java/lang/AbstractStringBuilder" (3 : Nat) ({ cls := "java/lang/Object", name := "<init>", desc := "()V" } : Jvm.MethodName)).before a0 Z = true := hw _ (List.mem_of_getElem? (i := 93) rfl)
theorem w25 {a0 : Array Value} {Z : State} (hw : HW a0 Z) : (Jvm.Cond.code ({ cls := "java/lang/Object", name := "<init>", desc := "()V" } : Jvm.MethodName) object_method_1_code (1 : Nat) (Option.none : Option Jvm.ClassFile.FieldType)).before a0 Z = true := hw _ (List.mem_of_getElem? (i := 25) rfl)
theorem w24 {a0 : Array Value} {Z : State} (hw : HW a0 Z) : (Jvm.Cond.instanceMethod ({ cls := "java/lang/Object", name := "<init>", desc := "()V" } : Jvm.MethodName)).before a0 Z = true := hw _ (List.mem_of_getElem? (i := 24) rfl)
theorem d14_1 : decode jdk_68_method_2_code 1 = .ok (.invokespecial 3, 3) := by decide +kernel
theorem d14_4 : decode jdk_68_method_2_code 4 = .ok (.getstatic 18, 3) := by decide +kernel
theorem d14_7 : decode jdk_68_method_2_code 7 = .ok (.ifCond .eq 18, 3) := by decide +kernel
theorem d14_10 : decode jdk_68_method_2_code 10 = .ok (.aload_n 0, 1) := by decide +kernel
theorem d14_11 : decode jdk_68_method_2_code 11 = .ok (.iload_n 1, 1) := by decide +kernel
theorem d14_12 : decode jdk_68_method_2_code 12 = .ok (.newarray .byte, 2) := by decide +kernel
theorem d14_14 : decode jdk_68_method_2_code 14 = .ok (.putfield 15, 3) := by decide +kernel
theorem d14_17 : decode jdk_68_method_2_code 17 = .ok (.aload_n 0, 1) := by decide +kernel
theorem d14_18 : decode jdk_68_method_2_code 18 = .ok (.iconst 0, 1) := by decide +kernel
theorem d14_19 : decode jdk_68_method_2_code 19 = .ok (.putfield 22, 3) := by decide +kernel
theorem d14_22 : decode jdk_68_method_2_code 22 = .ok (.goto 16, 3) := by decide +kernel
theorem d14_38 : decode jdk_68_method_2_code 38 = .ok (.return_, 1) := by decide +kernel
theorem d13_0 : decode jdk_67_method_1_code 0 = .ok (.aload_n 0, 1) := by decide +kernel
theorem d13_1 : decode jdk_67_method_1_code 1 = .ok (.bipush 16, 2) := by decide +kernel
theorem w87 {a0 : Array Value} {Z : State} (hw : HW a0 Z) : (Jvm.Cond.methodLink "java/lang/StringBuilder" (1 : Nat) ({ cls := "java/lang/AbstractStringBuilder", name := "<init>", desc := "(I)V" } : Jvm.MethodName)).before a0 Z = true := hw _ (List.mem_of_getElem? (i := 87) rfl)
theorem d13_3 : decode jdk_67_method_1_code 3 = .ok (.invokespecial 1, 3) := by decide +kernel
theorem w88 {a0 : Array Value} {Z : State} (hw : HW a0 Z) : (Jvm.Cond.instanceMethod ({ cls := "java/lang/AbstractStringBuilder", name := "<init>", desc := "(I)V" } : Jvm.MethodName)).before a0 Z = true := hw _ (List.mem_of_getElem? (i := 88) rfl)
theorem w92 {a0 : Array Value} {Z : State} (hw : HW a0 Z) : (Jvm.Cond.code ({ cls := "java/lang/AbstractStringBuilder", name := "<init>", desc := "(I)V" } : Jvm.MethodName) jdk_68_method_2_code (2 : Nat) (Option.none : Option Jvm.ClassFile.FieldType)).before a0 Z = true := hw _ (List.mem_of_getElem? (i := 92) rfl)
theorem d13_6 : decode jdk_67_method_1_code 6 = .ok (.return_, 1) := by decide +kernel
theorem d37_9 : decode jdk_29_method_69_code 9 = .ok (.iload_n 1, 1) := by decide +kernel
theorem d36_0 : decode jdk_65_method_131_code 0 = .ok (.iload_n 1, 1) := by decide +kernel
theorem d36_1 : decode jdk_65_method_131_code 1 = .ok (.iload_n 0, 1) := by decide +kernel
theorem d36_2 : decode jdk_65_method_131_code 2 = .ok (.if_icmp .ge 35, 3) := by decide +kernel
theorem d36_37 : decode jdk_65_method_131_code 37 = .ok (.return_, 1) := by decide +kernel
theorem d35_0 : decode jdk_65_method_133_code 0 = .ok (.iload_n 1, 1) := by decide +kernel
theorem d35_1 : decode jdk_65_method_133_code 1 = .ok (.iload_n 2, 1) := by decide +kernel
theorem w203 {a0 : Array Value} {Z : State} (hw : HW a0 Z) : (Jvm.Cond.methodLink "java/util/Arrays" (343 : Nat) ({ cls := "java/util/Arrays", name := "checkLength", desc := "(II)V" } : Jvm.MethodName)).before a0 Z = true := hw _ (List.mem_of_getElem? (i := 203) rfl)
theorem d35_2 : decode jdk_65_method_133_code 2 = .ok (.invokestatic 343, 3) := by decide +kernel
theorem w204 {a0 : Array Value} {Z : State} (hw : HW a0 Z) : (Jvm.Cond.static ({ cls := "java/util/Arrays", name := "checkLength", desc := "(II)V" } : Jvm.MethodName)).before a0 Z = true := hw _ (List.mem_of_getElem? (i := 204) rfl)
theorem w205 {a0 : Array Value} {Z : State} (hw : HW a0 Z) : (Jvm.Cond.code ({ cls := "java/util/Arrays", name := "checkLength", desc := "(II)V" } : Jvm.MethodName) jdk_65_method_131_code (2 : Nat) (Option.none : Option Jvm.ClassFile.FieldType)).before a0 Z = true := hw _ (List.mem_of_getElem? (i := 205) rfl)
theorem d35_5 : decode jdk_65_method_133_code 5 = .ok (.iload_n 2, 1) := by decide +kernel
theorem d35_6 : decode jdk_65_method_133_code 6 = .ok (.iload_n 1, 1) := by decide +kernel
theorem d35_7 : decode jdk_65_method_133_code 7 = .ok (.isub, 1) := by decide +kernel
theorem d35_8 : decode jdk_65_method_133_code 8 = .ok (.istore_n 3, 1) := by decide +kernel
theorem d35_9 : decode jdk_65_method_133_code 9 = .ok (.iload_n 3, 1) := by decide +kernel
theorem d35_10 : decode jdk_65_method_133_code 10 = .ok (.newarray .byte, 2) := by decide +kernel
theorem d35_12 : decode jdk_65_method_133_code 12 = .ok (.astore 4, 2) := by decide +kernel
theorem d35_14 : decode jdk_65_method_133_code 14 = .ok (.aload_n 0, 1) := by decide +kernel
theorem d35_15 : decode jdk_65_method_133_code 15 = .ok (.iload_n 1, 1) := by decide +kernel
theorem d35_16 : decode jdk_65_method_133_code 16 = .ok (.aload 4, 2) := by decide +kernel
theorem d35_18 : decode jdk_65_method_133_code 18 = .ok (.iconst 0, 1) := by decide +kernel
theorem d35_19 : decode jdk_65_method_133_code 19 = .ok (.aload_n 0, 1) := by decide +kernel
theorem d35_20 : decode jdk_65_method_133_code 20 = .ok (.arraylength, 1) := by decide +kernel
theorem d35_21 : decode jdk_65_method_133_code 21 = .ok (.iload_n 1, 1) := by decide +kernel
theorem d35_22 : decode jdk_65_method_133_code 22 = .ok (.isub, 1) := by decide +kernel
theorem d35_23 : decode jdk_65_method_133_code 23 = .ok (.iload_n 3, 1) := by decide +kernel
theorem d35_24 : decode jdk_65_method_133_code 24 = .ok (.invokestatic 304, 3) := by decide +kernel
theorem d35_27 : decode jdk_65_method_133_code 27 = .ok (.invokestatic 150, 3) := by decide +kernel
theorem d35_30 : decode jdk_65_method_133_code 30 = .ok (.aload 4, 2) := by decide +kernel
theorem d35_32 : decode jdk_65_method_133_code 32 = .ok (.areturn, 1) := by decide +kernel
theorem d34_0 : decode jdk_65_method_132_code 0 = .ok (.iload_n 1, 1) := by decide +kernel
theorem d34_1 : decode jdk_65_method_132_code 1 = .ok (.ifCond .ne 9, 3) := by decide +kernel
theorem d34_4 : decode jdk_65_method_132_code 4 = .ok (.iload_n 2, 1) := by decide +kernel
theorem d34_5 : decode jdk_65_method_132_code 5 = .ok (.aload_n 0, 1) := by decide +kernel
theorem d34_6 : decode jdk_65_method_132_code 6 = .ok (.arraylength, 1) := by decide +kernel
theorem d34_7 : decode jdk_65_method_132_code 7 = .ok (.if_icmp .eq 10, 3) := by decide +kernel
theorem d34_10 : decode jdk_65_method_132_code 10 = .ok (.aload_n 0, 1) := by decide +kernel
theorem d34_11 : decode jdk_65_method_132_code 11 = .ok (.iload_n 1, 1) := by decide +kernel
theorem d34_12 : decode jdk_65_method_132_code 12 = .ok (.iload_n 2, 1) := by decide +kernel
theorem w200 {a0 : Array Value} {Z : State} (hw : HW a0 Z) : (Jvm.Cond.methodLink "java/util/Arrays" (339 : Nat) ({ cls := "java/util/Arrays", name := "copyOfRangeByte", desc := "([BII)[B" } : Jvm.MethodName)).before a0 Z = true := hw _ (List.mem_of_getElem? (i := 200) rfl)
theorem pd17 : parseMethodDescriptor "([BII)[B" = some ⟨[(.array .byte), .int, .int], some (.array .byte)⟩ := by decide +kernel
theorem d34_13 : decode jdk_65_method_132_code 13 = .ok (.invokestatic 339, 3) := by decide +kernel
theorem w201 {a0 : Array Value} {Z : State} (hw : HW a0 Z) : (Jvm.Cond.static ({ cls := "java/util/Arrays", name := "copyOfRangeByte", desc := "([BII)[B" } : Jvm.MethodName)).before a0 Z = true := hw _ (List.mem_of_getElem? (i := 201) rfl)
theorem w202 {a0 : Array Value} {Z : State} (hw : HW a0 Z) : (Jvm.Cond.code ({ cls := "java/util/Arrays", name := "copyOfRangeByte", desc := "([BII)[B" } : Jvm.MethodName) jdk_65_method_133_code (5 : Nat) (Option.some (Jvm.ClassFile.FieldType.array Jvm.ClassFile.FieldType.byte))).before a0 Z = true := hw _ (List.mem_of_getElem? (i := 202) rfl)
theorem d34_16 : decode jdk_65_method_132_code 16 = .ok (.areturn, 1) := by decide +kernel
theorem d34_17 : decode jdk_65_method_132_code 17 = .ok (.aload_n 0, 1) := by decide +kernel
theorem w325 {a0 : Array Value} {Z : State} (hw : HW a0 Z) : (Jvm.Cond.methodLink "java/util/Arrays" (310 : Nat) ({ cls := "[B", name := "clone", desc := "()Ljava/lang/Object;" } : Jvm.MethodName)).before a0 Z = true := hw _ (List.mem_of_getElem? (i := 325) rfl)
theorem w326 {a0 : Array Value} {Z : State} (hw : HW a0 Z) : (Jvm.Cond.sameMethod "[B" "java/lang/Object" "clone" "()Ljava/lang/Object;").before a0 Z = true := hw _ (List.mem_of_getElem? (i := 326) rfl)
theorem w330 {a0 : Array Value} {Z : State} (hw : HW a0 Z) : (Jvm.Cond.native ({ cls := "java/lang/Object", name := "clone", desc := "()Ljava/lang/Object;" } : Jvm.MethodName)).before a0 Z = true := hw _ (List.mem_of_getElem? (i := 330) rfl)
theorem w328 {a0 : Array Value} {Z : State} (hw : HW a0 Z) : (Jvm.Cond.instanceMethod ({ cls := "java/lang/Object", name := "clone", desc := "()Ljava/lang/Object;" } : Jvm.MethodName)).before a0 Z = true := hw _ (List.mem_of_getElem? (i := 328) rfl)
theorem w329 {a0 : Array Value} {Z : State} (hw : HW a0 Z) : (Jvm.Cond.selects "[B" ({ cls := "[B", name := "clone", desc := "()Ljava/lang/Object;" } : Jvm.MethodName) ({ cls := "java/lang/Object", name := "clone", desc := "()Ljava/lang/Object;" } : Jvm.MethodName)).before a0 Z = true := hw _ (List.mem_of_getElem? (i := 329) rfl)
theorem w331 {a0 : Array Value} {Z : State} (hw : HW a0 Z) : (Jvm.Cond.castable "[B" "java/lang/Cloneable").before a0 Z = true := hw _ (List.mem_of_getElem? (i := 331) rfl)
theorem d34_18 : decode jdk_65_method_132_code 18 = .ok (.invokevirtual 310, 3) := by decide +kernel
theorem w332 {a0 : Array Value} {Z : State} (hw : HW a0 Z) : (Jvm.Cond.classLink "java/util/Arrays" (311 : Nat) "[B").before a0 Z = true := hw _ (List.mem_of_getElem? (i := 332) rfl)
theorem d34_21 : decode jdk_65_method_132_code 21 = .ok (.checkcast 311, 3) := by decide +kernel
theorem d34_24 : decode jdk_65_method_132_code 24 = .ok (.areturn, 1) := by decide +kernel
theorem d31_0 : decode jdk_68_method_64_code 0 = .ok (.aload_n 0, 1) := by decide +kernel
theorem d31_1 : decode jdk_68_method_64_code 1 = .ok (.getfield 15, 3) := by decide +kernel
theorem d31_4 : decode jdk_68_method_64_code 4 = .ok (.areturn, 1) := by decide +kernel
theorem d33_0 : decode jdk_68_method_6_code 0 = .ok (.aload_n 0, 1) := by decide +kernel
theorem d33_1 : decode jdk_68_method_6_code 1 = .ok (.getfield 79, 3) := by decide +kernel
theorem d33_4 : decode jdk_68_method_6_code 4 = .ok (.ireturn, 1) := by decide +kernel
theorem d32_0 : decode jdk_67_method_93_code 0 = .ok (.aload_n 0, 1) := by decide +kernel
theorem w193 {a0 : Array Value} {Z : State} (hw : HW a0 Z) : (Jvm.Cond.methodLink "java/lang/StringBuilder" (343 : Nat) ({ cls := "java/lang/AbstractStringBuilder", name := "length", desc := "()I" } : Jvm.MethodName)).before a0 Z = true := hw _ (List.mem_of_getElem? (i := 193) rfl)
theorem d32_1 : decode jdk_67_method_93_code 1 = .ok (.invokespecial 343, 3) := by decide +kernel
theorem w189 {a0 : Array Value} {Z : State} (hw : HW a0 Z) : (Jvm.Cond.instanceMethod ({ cls := "java/lang/AbstractStringBuilder", name := "length", desc := "()I" } : Jvm.MethodName)).before a0 Z = true := hw _ (List.mem_of_getElem? (i := 189) rfl)
theorem w194 {a0 : Array Value} {Z : State} (hw : HW a0 Z) : (Jvm.Cond.code ({ cls := "java/lang/AbstractStringBuilder", name := "length", desc := "()I" } : Jvm.MethodName) jdk_68_method_6_code (1 : Nat) (Option.some Jvm.ClassFile.FieldType.int)).before a0 Z = true := hw _ (List.mem_of_getElem? (i := 194) rfl)
theorem d32_4 : decode jdk_67_method_93_code 4 = .ok (.ireturn, 1) := by decide +kernel
theorem w14 {a0 : Array Value} {Z : State} (hw : HW a0 Z) : (Jvm.Cond.instantiable "java/lang/String" (4 : Nat)).before a0 Z = true := hw _ (List.mem_of_getElem? (i := 14) rfl)
theorem d30_0 : decode jdk_42_method_150_code 0 = .ok (.aload_n 0, 1) := by decide +kernel
theorem w23 {a0 : Array Value} {Z : State} (hw : HW a0 Z) : (Jvm.Cond.methodLink "java/lang/String" (1 : Nat) ({ cls := "java/lang/Object", name := "<init>", desc := "()V" } : Jvm.MethodName)).before a0 Z = true := hw _ (List.mem_of_getElem? (i := 23) rfl)
theorem d30_1 : decode jdk_42_method_150_code 1 = .ok (.invokespecial 1, 3) := by decide +kernel
theorem d30_4 : decode jdk_42_method_150_code 4 = .ok (.aload_n 1, 1) := by decide +kernel
theorem w182 {a0 : Array Value} {Z : State} (hw : HW a0 Z) : (Jvm.Cond.methodLink "java/lang/String" (552 : Nat) ({ cls := "java/lang/AbstractStringBuilder", name := "getValue", desc := "()[B" } : Jvm.MethodName)).before a0 Z = true := hw _ (List.mem_of_getElem? (i := 182) rfl)
theorem pd18 : parseMethodDescriptor "()[B" = some ⟨[], some (.array .byte)⟩ := by decide +kernel
theorem d30_5 : decode jdk_42_method_150_code 5 = .ok (.invokevirtual 552, 3) := by decide +kernel
theorem w185 {a0 : Array Value} {Z : State} (hw : HW a0 Z) : (Jvm.Cond.selects "java/lang/StringBuilder" ({ cls := "java/lang/AbstractStringBuilder", name := "getValue", desc := "()[B" } : Jvm.MethodName) ({ cls := "java/lang/AbstractStringBuilder", name := "getValue", desc := "()[B" } : Jvm.MethodName)).before a0 Z = true := hw _ (List.mem_of_getElem? (i := 185) rfl)
theorem w183 {a0 : Array Value} {Z : State} (hw : HW a0 Z) : (Jvm.Cond.declares ({ cls := "java/lang/AbstractStringBuilder", name := "getValue", desc := "()[B" } : Jvm.MethodName)).before a0 Z = true := hw _ (List.mem_of_getElem? (i := 183) rfl)
theorem w184 {a0 : Array Value} {Z : State} (hw : HW a0 Z) : (Jvm.Cond.instanceMethod ({ cls := "java/lang/AbstractStringBuilder", name := "getValue", desc := "()[B" } : Jvm.MethodName)).before a0 Z = true := hw _ (List.mem_of_getElem? (i := 184) rfl)
theorem w186 {a0 : Array Value} {Z : State} (hw : HW a0 Z) : (Jvm.Cond.code ({ cls := "java/lang/AbstractStringBuilder", name := "getValue", desc := "()[B" } : Jvm.MethodName) jdk_68_method_64_code (1 : Nat) (Option.some (Jvm.ClassFile.FieldType.array Jvm.ClassFile.FieldType.byte))).before a0 Z = true := hw _ (List.mem_of_getElem? (i := 186) rfl)
theorem d30_8 : decode jdk_42_method_150_code 8 = .ok (.astore_n 3, 1) := by decide +kernel
theorem d30_9 : decode jdk_42_method_150_code 9 = .ok (.aload_n 1, 1) := by decide +kernel
theorem w187 {a0 : Array Value} {Z : State} (hw : HW a0 Z) : (Jvm.Cond.methodLink "java/lang/String" (549 : Nat) ({ cls := "java/lang/AbstractStringBuilder", name := "length", desc := "()I" } : Jvm.MethodName)).before a0 Z = true := hw _ (List.mem_of_getElem? (i := 187) rfl)
theorem d30_10 : decode jdk_42_method_150_code 10 = .ok (.invokevirtual 549, 3) := by decide +kernel
theorem w190 {a0 : Array Value} {Z : State} (hw : HW a0 Z) : (Jvm.Cond.selects "java/lang/StringBuilder" ({ cls := "java/lang/AbstractStringBuilder", name := "length", desc := "()I" } : Jvm.MethodName) ({ cls := "java/lang/StringBuilder", name := "length", desc := "()I" } : Jvm.MethodName)).before a0 Z = true := hw _ (List.mem_of_getElem? (i := 190) rfl)
theorem w188 {a0 : Array Value} {Z : State} (hw : HW a0 Z) : (Jvm.Cond.declares ({ cls := "java/lang/AbstractStringBuilder", name := "length", desc := "()I" } : Jvm.MethodName)).before a0 Z = true := hw _ (List.mem_of_getElem? (i := 188) rfl)
theorem w191 {a0 : Array Value} {Z : State} (hw : HW a0 Z) : (Jvm.Cond.instanceMethod ({ cls := "java/lang/StringBuilder", name := "length", desc := "()I" } : Jvm.MethodName)).before a0 Z = true := hw _ (List.mem_of_getElem? (i := 191) rfl)
theorem w83 {a0 : Array Value} {Z : State} (hw : HW a0 Z) : (Jvm.Cond.initialized "java/lang/StringBuilder").before a0 Z = true := hw _ (List.mem_of_getElem? (i := 83) rfl)
theorem w192 {a0 : Array Value} {Z : State} (hw : HW a0 Z) : (Jvm.Cond.code ({ cls := "java/lang/StringBuilder", name := "length", desc := "()I" } : Jvm.MethodName) jdk_67_method_93_code (1 : Nat) (Option.some Jvm.ClassFile.FieldType.int)).before a0 Z = true := hw _ (List.mem_of_getElem? (i := 192) rfl)
theorem d30_13 : decode jdk_42_method_150_code 13 = .ok (.istore 4, 2) := by decide +kernel
theorem d30_15 : decode jdk_42_method_150_code 15 = .ok (.aload_n 1, 1) := by decide +kernel
theorem w195 {a0 : Array Value} {Z : State} (hw : HW a0 Z) : (Jvm.Cond.methodLink "java/lang/String" (1047 : Nat) ({ cls := "java/lang/AbstractStringBuilder", name := "isLatin1", desc := "()Z" } : Jvm.MethodName)).before a0 Z = true := hw _ (List.mem_of_getElem? (i := 195) rfl)
theorem d30_16 : decode jdk_42_method_150_code 16 = .ok (.invokevirtual 1047, 3) := by decide +kernel
theorem d30_19 : decode jdk_42_method_150_code 19 = .ok (.ifCond .eq 22, 3) := by decide +kernel
theorem d30_22 : decode jdk_42_method_150_code 22 = .ok (.aload_n 0, 1) := by decide +kernel
theorem d30_23 : decode jdk_42_method_150_code 23 = .ok (.iconst 0, 1) := by decide +kernel
theorem w29 {a0 : Array Value} {Z : State} (hw : HW a0 Z) : (Jvm.Cond.laysFinal "java/lang/String" "java/lang/String" "coder" "B").before a0 Z = true := hw _ (List.mem_of_getElem? (i := 29) rfl)
theorem d30_24 : decode jdk_42_method_150_code 24 = .ok (.putfield 15, 3) := by decide +kernel
theorem w27 {a0 : Array Value} {Z : State} (hw : HW a0 Z) : (Jvm.Cond.laysFinal "java/lang/String" "java/lang/String" "value" "[B").before a0 Z = true := hw _ (List.mem_of_getElem? (i := 27) rfl)
theorem d30_27 : decode jdk_42_method_150_code 27 = .ok (.aload_n 0, 1) := by decide +kernel
theorem d30_28 : decode jdk_42_method_150_code 28 = .ok (.aload_n 3, 1) := by decide +kernel
theorem d30_29 : decode jdk_42_method_150_code 29 = .ok (.iconst 0, 1) := by decide +kernel
theorem d30_30 : decode jdk_42_method_150_code 30 = .ok (.iload 4, 2) := by decide +kernel
theorem w196 {a0 : Array Value} {Z : State} (hw : HW a0 Z) : (Jvm.Cond.methodLink "java/lang/String" (54 : Nat) ({ cls := "java/util/Arrays", name := "copyOfRange", desc := "([BII)[B" } : Jvm.MethodName)).before a0 Z = true := hw _ (List.mem_of_getElem? (i := 196) rfl)
theorem d30_32 : decode jdk_42_method_150_code 32 = .ok (.invokestatic 54, 3) := by decide +kernel
theorem w197 {a0 : Array Value} {Z : State} (hw : HW a0 Z) : (Jvm.Cond.static ({ cls := "java/util/Arrays", name := "copyOfRange", desc := "([BII)[B" } : Jvm.MethodName)).before a0 Z = true := hw _ (List.mem_of_getElem? (i := 197) rfl)
theorem w199 {a0 : Array Value} {Z : State} (hw : HW a0 Z) : (Jvm.Cond.code ({ cls := "java/util/Arrays", name := "copyOfRange", desc := "([BII)[B" } : Jvm.MethodName) jdk_65_method_132_code (3 : Nat) (Option.some (Jvm.ClassFile.FieldType.array Jvm.ClassFile.FieldType.byte))).before a0 Z = true := hw _ (List.mem_of_getElem? (i := 199) rfl)
theorem d30_35 : decode jdk_42_method_150_code 35 = .ok (.putfield 9, 3) := by decide +kernel
theorem d30_38 : decode jdk_42_method_150_code 38 = .ok (.goto 59, 3) := by decide +kernel
theorem d30_97 : decode jdk_42_method_150_code 97 = .ok (.return_, 1) := by decide +kernel
theorem d29_0 : decode jdk_42_method_53_code 0 = .ok (.aload_n 0, 1) := by decide +kernel
theorem d29_1 : decode jdk_42_method_53_code 1 = .ok (.aload_n 1, 1) := by decide +kernel
theorem d29_2 : decode jdk_42_method_53_code 2 = .ok (.aconst_null, 1) := by decide +kernel
theorem w179 {a0 : Array Value} {Z : State} (hw : HW a0 Z) : (Jvm.Cond.methodLink "java/lang/String" (489 : Nat) ({ cls := "java/lang/String", name := "<init>", desc := "(Ljava/lang/AbstractStringBuilder;Ljava/lang/Void;)V" } : Jvm.MethodName)).before a0 Z = true := hw _ (List.mem_of_getElem? (i := 179) rfl)
theorem pd19 : parseMethodDescriptor "(Ljava/lang/AbstractStringBuilder;Ljava/lang/Void;)V" = some ⟨[(.object "java/lang/AbstractStringBuilder"), (.object "java/lang/Void")], none⟩ := by decide +kernel
theorem d29_3 : decode jdk_42_method_53_code 3 = .ok (.invokespecial 489, 3) := by decide +kernel
theorem w180 {a0 : Array Value} {Z : State} (hw : HW a0 Z) : (Jvm.Cond.instanceMethod ({ cls := "java/lang/String", name := "<init>", desc := "(Ljava/lang/AbstractStringBuilder;Ljava/lang/Void;)V" } : Jvm.MethodName)).before a0 Z = true := hw _ (List.mem_of_getElem? (i := 180) rfl)
theorem w181 {a0 : Array Value} {Z : State} (hw : HW a0 Z) : (Jvm.Cond.code ({ cls := "java/lang/String", name := "<init>", desc := "(Ljava/lang/AbstractStringBuilder;Ljava/lang/Void;)V" } : Jvm.MethodName) jdk_42_method_150_code (5 : Nat) (Option.none : Option Jvm.ClassFile.FieldType)).before a0 Z = true := hw _ (List.mem_of_getElem? (i := 181) rfl)
theorem d29_6 : decode jdk_42_method_53_code 6 = .ok (.return_, 1) := by decide +kernel
theorem w175 {a0 : Array Value} {Z : State} (hw : HW a0 Z) : (Jvm.Cond.classLink "java/lang/StringBuilder" (18 : Nat) "java/lang/String").before a0 Z = true := hw _ (List.mem_of_getElem? (i := 175) rfl)
theorem d28_0 : decode jdk_67_method_42_code 0 = .ok (.new 18, 3) := by decide +kernel
theorem d28_3 : decode jdk_67_method_42_code 3 = .ok (.dup, 1) := by decide +kernel
theorem d28_4 : decode jdk_67_method_42_code 4 = .ok (.aload_n 0, 1) := by decide +kernel
theorem w176 {a0 : Array Value} {Z : State} (hw : HW a0 Z) : (Jvm.Cond.methodLink "java/lang/StringBuilder" (137 : Nat) ({ cls := "java/lang/String", name := "<init>", desc := "(Ljava/lang/StringBuilder;)V" } : Jvm.MethodName)).before a0 Z = true := hw _ (List.mem_of_getElem? (i := 176) rfl)
theorem pd20 : parseMethodDescriptor "(Ljava/lang/StringBuilder;)V" = some ⟨[(.object "java/lang/StringBuilder")], none⟩ := by decide +kernel
theorem d28_5 : decode jdk_67_method_42_code 5 = .ok (.invokespecial 137, 3) := by decide +kernel
theorem w177 {a0 : Array Value} {Z : State} (hw : HW a0 Z) : (Jvm.Cond.instanceMethod ({ cls := "java/lang/String", name := "<init>", desc := "(Ljava/lang/StringBuilder;)V" } : Jvm.MethodName)).before a0 Z = true := hw _ (List.mem_of_getElem? (i := 177) rfl)
theorem w178 {a0 : Array Value} {Z : State} (hw : HW a0 Z) : (Jvm.Cond.code ({ cls := "java/lang/String", name := "<init>", desc := "(Ljava/lang/StringBuilder;)V" } : Jvm.MethodName) jdk_42_method_53_code (2 : Nat) (Option.none : Option Jvm.ClassFile.FieldType)).before a0 Z = true := hw _ (List.mem_of_getElem? (i := 178) rfl)
theorem d28_8 : decode jdk_67_method_42_code 8 = .ok (.areturn, 1) := by decide +kernel
theorem w81 {a0 : Array Value} {Z : State} (hw : HW a0 Z) : (Jvm.Cond.classLink "provento/files/Refusal" (13 : Nat) "java/lang/StringBuilder").before a0 Z = true := hw _ (List.mem_of_getElem? (i := 81) rfl)
theorem d12_0 : decode prog_43_method_4_code 0 = .ok (.new 13, 3) := by decide +kernel
theorem d12_3 : decode prog_43_method_4_code 3 = .ok (.dup, 1) := by decide +kernel
theorem w84 {a0 : Array Value} {Z : State} (hw : HW a0 Z) : (Jvm.Cond.methodLink "provento/files/Refusal" (15 : Nat) ({ cls := "java/lang/StringBuilder", name := "<init>", desc := "()V" } : Jvm.MethodName)).before a0 Z = true := hw _ (List.mem_of_getElem? (i := 84) rfl)
theorem pd21 : parseMethodDescriptor "()V" = some ⟨[], none⟩ := by decide +kernel
theorem d12_4 : decode prog_43_method_4_code 4 = .ok (.invokespecial 15, 3) := by decide +kernel
theorem w85 {a0 : Array Value} {Z : State} (hw : HW a0 Z) : (Jvm.Cond.instanceMethod ({ cls := "java/lang/StringBuilder", name := "<init>", desc := "()V" } : Jvm.MethodName)).before a0 Z = true := hw _ (List.mem_of_getElem? (i := 85) rfl)
theorem w86 {a0 : Array Value} {Z : State} (hw : HW a0 Z) : (Jvm.Cond.code ({ cls := "java/lang/StringBuilder", name := "<init>", desc := "()V" } : Jvm.MethodName) jdk_67_method_1_code (1 : Nat) (Option.none : Option Jvm.ClassFile.FieldType)).before a0 Z = true := hw _ (List.mem_of_getElem? (i := 86) rfl)
theorem d12_7 : decode prog_43_method_4_code 7 = .ok (.aload_n 0, 1) := by decide +kernel
theorem w99 {a0 : Array Value} {Z : State} (hw : HW a0 Z) : (Jvm.Cond.methodLink "provento/files/Refusal" (18 : Nat) ({ cls := "java/lang/StringBuilder", name := "append", desc := "(Ljava/lang/String;)Ljava/lang/StringBuilder;" } : Jvm.MethodName)).before a0 Z = true := hw _ (List.mem_of_getElem? (i := 99) rfl)
theorem pd22 : parseMethodDescriptor "(Ljava/lang/String;)Ljava/lang/StringBuilder;" = some ⟨[(.object "java/lang/String")], some (.object "java/lang/StringBuilder")⟩ := by decide +kernel
theorem d12_8 : decode prog_43_method_4_code 8 = .ok (.invokevirtual 18, 3) := by decide +kernel
theorem w102 {a0 : Array Value} {Z : State} (hw : HW a0 Z) : (Jvm.Cond.selects "java/lang/StringBuilder" ({ cls := "java/lang/StringBuilder", name := "append", desc := "(Ljava/lang/String;)Ljava/lang/StringBuilder;" } : Jvm.MethodName) ({ cls := "java/lang/StringBuilder", name := "append", desc := "(Ljava/lang/String;)Ljava/lang/StringBuilder;" } : Jvm.MethodName)).before a0 Z = true := hw _ (List.mem_of_getElem? (i := 102) rfl)
theorem w100 {a0 : Array Value} {Z : State} (hw : HW a0 Z) : (Jvm.Cond.declares ({ cls := "java/lang/StringBuilder", name := "append", desc := "(Ljava/lang/String;)Ljava/lang/StringBuilder;" } : Jvm.MethodName)).before a0 Z = true := hw _ (List.mem_of_getElem? (i := 100) rfl)
theorem w101 {a0 : Array Value} {Z : State} (hw : HW a0 Z) : (Jvm.Cond.instanceMethod ({ cls := "java/lang/StringBuilder", name := "append", desc := "(Ljava/lang/String;)Ljava/lang/StringBuilder;" } : Jvm.MethodName)).before a0 Z = true := hw _ (List.mem_of_getElem? (i := 101) rfl)
theorem w103 {a0 : Array Value} {Z : State} (hw : HW a0 Z) : (Jvm.Cond.code ({ cls := "java/lang/StringBuilder", name := "append", desc := "(Ljava/lang/String;)Ljava/lang/StringBuilder;" } : Jvm.MethodName) jdk_67_method_7_code (2 : Nat) (Option.some (Jvm.ClassFile.FieldType.object "java/lang/StringBuilder"))).before a0 Z = true := hw _ (List.mem_of_getElem? (i := 103) rfl)
theorem w146 {a0 : Array Value} {Z : State} (hw : HW a0 Z) : (Jvm.Cond.stringLink "provento/files/Refusal" (28 : Nat) ":").before a0 Z = true := hw _ (List.mem_of_getElem? (i := 146) rfl)
theorem d12_11 : decode prog_43_method_4_code 11 = .ok (.ldc 28, 2) := by decide +kernel
theorem d12_13 : decode prog_43_method_4_code 13 = .ok (.invokevirtual 18, 3) := by decide +kernel
theorem d12_16 : decode prog_43_method_4_code 16 = .ok (.iload_n 1, 1) := by decide +kernel
theorem w147 {a0 : Array Value} {Z : State} (hw : HW a0 Z) : (Jvm.Cond.methodLink "provento/files/Refusal" (30 : Nat) ({ cls := "java/lang/StringBuilder", name := "append", desc := "(I)Ljava/lang/StringBuilder;" } : Jvm.MethodName)).before a0 Z = true := hw _ (List.mem_of_getElem? (i := 147) rfl)
theorem pd23 : parseMethodDescriptor "(I)Ljava/lang/StringBuilder;" = some ⟨[.int], some (.object "java/lang/StringBuilder")⟩ := by decide +kernel
theorem d12_17 : decode prog_43_method_4_code 17 = .ok (.invokevirtual 30, 3) := by decide +kernel
theorem w150 {a0 : Array Value} {Z : State} (hw : HW a0 Z) : (Jvm.Cond.selects "java/lang/StringBuilder" ({ cls := "java/lang/StringBuilder", name := "append", desc := "(I)Ljava/lang/StringBuilder;" } : Jvm.MethodName) ({ cls := "java/lang/StringBuilder", name := "append", desc := "(I)Ljava/lang/StringBuilder;" } : Jvm.MethodName)).before a0 Z = true := hw _ (List.mem_of_getElem? (i := 150) rfl)
theorem w148 {a0 : Array Value} {Z : State} (hw : HW a0 Z) : (Jvm.Cond.declares ({ cls := "java/lang/StringBuilder", name := "append", desc := "(I)Ljava/lang/StringBuilder;" } : Jvm.MethodName)).before a0 Z = true := hw _ (List.mem_of_getElem? (i := 148) rfl)
theorem w149 {a0 : Array Value} {Z : State} (hw : HW a0 Z) : (Jvm.Cond.instanceMethod ({ cls := "java/lang/StringBuilder", name := "append", desc := "(I)Ljava/lang/StringBuilder;" } : Jvm.MethodName)).before a0 Z = true := hw _ (List.mem_of_getElem? (i := 149) rfl)
theorem w151 {a0 : Array Value} {Z : State} (hw : HW a0 Z) : (Jvm.Cond.code ({ cls := "java/lang/StringBuilder", name := "append", desc := "(I)Ljava/lang/StringBuilder;" } : Jvm.MethodName) jdk_67_method_15_code (2 : Nat) (Option.some (Jvm.ClassFile.FieldType.object "java/lang/StringBuilder"))).before a0 Z = true := hw _ (List.mem_of_getElem? (i := 151) rfl)
theorem w169 {a0 : Array Value} {Z : State} (hw : HW a0 Z) : (Jvm.Cond.stringLink "provento/files/Refusal" (22 : Nat) ": ").before a0 Z = true := hw _ (List.mem_of_getElem? (i := 169) rfl)
theorem d12_20 : decode prog_43_method_4_code 20 = .ok (.ldc 22, 2) := by decide +kernel
theorem d12_22 : decode prog_43_method_4_code 22 = .ok (.invokevirtual 18, 3) := by decide +kernel
theorem d12_25 : decode prog_43_method_4_code 25 = .ok (.aload_n 2, 1) := by decide +kernel
theorem d12_26 : decode prog_43_method_4_code 26 = .ok (.invokevirtual 18, 3) := by decide +kernel
theorem w170 {a0 : Array Value} {Z : State} (hw : HW a0 Z) : (Jvm.Cond.methodLink "provento/files/Refusal" (24 : Nat) ({ cls := "java/lang/StringBuilder", name := "toString", desc := "()Ljava/lang/String;" } : Jvm.MethodName)).before a0 Z = true := hw _ (List.mem_of_getElem? (i := 170) rfl)
theorem pd24 : parseMethodDescriptor "()Ljava/lang/String;" = some ⟨[], some (.object "java/lang/String")⟩ := by decide +kernel
theorem d12_29 : decode prog_43_method_4_code 29 = .ok (.invokevirtual 24, 3) := by decide +kernel
theorem w173 {a0 : Array Value} {Z : State} (hw : HW a0 Z) : (Jvm.Cond.selects "java/lang/StringBuilder" ({ cls := "java/lang/StringBuilder", name := "toString", desc := "()Ljava/lang/String;" } : Jvm.MethodName) ({ cls := "java/lang/StringBuilder", name := "toString", desc := "()Ljava/lang/String;" } : Jvm.MethodName)).before a0 Z = true := hw _ (List.mem_of_getElem? (i := 173) rfl)
theorem w171 {a0 : Array Value} {Z : State} (hw : HW a0 Z) : (Jvm.Cond.declares ({ cls := "java/lang/StringBuilder", name := "toString", desc := "()Ljava/lang/String;" } : Jvm.MethodName)).before a0 Z = true := hw _ (List.mem_of_getElem? (i := 171) rfl)
theorem w172 {a0 : Array Value} {Z : State} (hw : HW a0 Z) : (Jvm.Cond.instanceMethod ({ cls := "java/lang/StringBuilder", name := "toString", desc := "()Ljava/lang/String;" } : Jvm.MethodName)).before a0 Z = true := hw _ (List.mem_of_getElem? (i := 172) rfl)
theorem w174 {a0 : Array Value} {Z : State} (hw : HW a0 Z) : (Jvm.Cond.code ({ cls := "java/lang/StringBuilder", name := "toString", desc := "()Ljava/lang/String;" } : Jvm.MethodName) jdk_67_method_42_code (1 : Nat) (Option.some (Jvm.ClassFile.FieldType.object "java/lang/String"))).before a0 Z = true := hw _ (List.mem_of_getElem? (i := 174) rfl)
theorem d12_32 : decode prog_43_method_4_code 32 = .ok (.areturn, 1) := by decide +kernel
theorem pn8 : plainName "provento/files/Refusal" = true := by first | (simp [plainName, overriddenIn]; done) | decide +kernel
theorem d3_0 : decode jdk_43_method_3_code 0 = .ok (.iload_n 0, 1) := by decide +kernel
theorem d3_1 : decode jdk_43_method_3_code 1 = .ok (.sipush 255, 3) := by decide +kernel
theorem d3_4 : decode jdk_43_method_3_code 4 = .ok (.if_icmp .gt 7, 3) := by decide +kernel
theorem d3_11 : decode jdk_43_method_3_code 11 = .ok (.iconst 0, 1) := by decide +kernel
theorem d3_12 : decode jdk_43_method_3_code 12 = .ok (.ireturn, 1) := by decide +kernel
theorem d3_7 : decode jdk_43_method_3_code 7 = .ok (.iconst 1, 1) := by decide +kernel
theorem d3_8 : decode jdk_43_method_3_code 8 = .ok (.goto 4, 3) := by decide +kernel
theorem d4_0 : decode jdk_43_method_46_code 0 = .ok (.iconst 1, 1) := by decide +kernel
theorem d4_1 : decode jdk_43_method_46_code 1 = .ok (.newarray .byte, 2) := by decide +kernel
theorem d4_3 : decode jdk_43_method_46_code 3 = .ok (.dup, 1) := by decide +kernel
theorem d4_4 : decode jdk_43_method_46_code 4 = .ok (.iconst 0, 1) := by decide +kernel
theorem d4_5 : decode jdk_43_method_46_code 5 = .ok (.iload_n 0, 1) := by decide +kernel
theorem d4_6 : decode jdk_43_method_46_code 6 = .ok (.i2b, 1) := by decide +kernel
theorem d4_7 : decode jdk_43_method_46_code 7 = .ok (.bastore, 1) := by decide +kernel
theorem d4_8 : decode jdk_43_method_46_code 8 = .ok (.areturn, 1) := by decide +kernel
theorem d5_0 : decode jdk_42_method_151_code 0 = .ok (.aload_n 0, 1) := by decide +kernel
theorem d5_1 : decode jdk_42_method_151_code 1 = .ok (.invokespecial 1, 3) := by decide +kernel
theorem d5_4 : decode jdk_42_method_151_code 4 = .ok (.aload_n 0, 1) := by decide +kernel
theorem d5_5 : decode jdk_42_method_151_code 5 = .ok (.aload_n 1, 1) := by decide +kernel
theorem d5_6 : decode jdk_42_method_151_code 6 = .ok (.putfield 9, 3) := by decide +kernel
theorem d5_9 : decode jdk_42_method_151_code 9 = .ok (.aload_n 0, 1) := by decide +kernel
theorem d5_10 : decode jdk_42_method_151_code 10 = .ok (.iload_n 2, 1) := by decide +kernel
theorem d5_11 : decode jdk_42_method_151_code 11 = .ok (.putfield 15, 3) := by decide +kernel
theorem d5_14 : decode jdk_42_method_151_code 14 = .ok (.return_, 1) := by decide +kernel
theorem d2_0 : decode jdk_42_method_139_code 0 = .ok (.getstatic 38, 3) := by decide +kernel
theorem d2_3 : decode jdk_42_method_139_code 3 = .ok (.ifCond .eq 23, 3) := by decide +kernel
theorem d2_6 : decode jdk_42_method_139_code 6 = .ok (.iload_n 0, 1) := by decide +kernel
theorem w9 {a0 : Array Value} {Z : State} (hw : HW a0 Z) : (Jvm.Cond.methodLink "java/lang/String" (1015 : Nat) ({ cls := "java/lang/StringLatin1", name := "canEncode", desc := "(C)Z" } : Jvm.MethodName)).before a0 Z = true := hw _ (List.mem_of_getElem? (i := 9) rfl)
theorem w10 {a0 : Array Value} {Z : State} (hw : HW a0 Z) : (Jvm.Cond.static ({ cls := "java/lang/StringLatin1", name := "canEncode", desc := "(C)Z" } : Jvm.MethodName)).before a0 Z = true := hw _ (List.mem_of_getElem? (i := 10) rfl)
theorem w12 {a0 : Array Value} {Z : State} (hw : HW a0 Z) : (Jvm.Cond.code ({ cls := "java/lang/StringLatin1", name := "canEncode", desc := "(C)Z" } : Jvm.MethodName) jdk_43_method_3_code (1 : Nat) (Option.some Jvm.ClassFile.FieldType.boolean)).before a0 Z = true := hw _ (List.mem_of_getElem? (i := 12) rfl)
theorem pd25 : parseMethodDescriptor "(C)Z" = some ⟨[.char], some .boolean⟩ := by decide +kernel
theorem d2_7 : decode jdk_42_method_139_code 7 = .ok (.invokestatic 1015, 3) := by decide +kernel
theorem d2_10 : decode jdk_42_method_139_code 10 = .ok (.ifCond .eq 16, 3) := by decide +kernel
theorem w13 {a0 : Array Value} {Z : State} (hw : HW a0 Z) : (Jvm.Cond.classLink "java/lang/String" (10 : Nat) "java/lang/String").before a0 Z = true := hw _ (List.mem_of_getElem? (i := 13) rfl)
theorem d2_13 : decode jdk_42_method_139_code 13 = .ok (.new 10, 3) := by decide +kernel
theorem d2_16 : decode jdk_42_method_139_code 16 = .ok (.dup, 1) := by decide +kernel
theorem d2_17 : decode jdk_42_method_139_code 17 = .ok (.iload_n 0, 1) := by decide +kernel
theorem w15 {a0 : Array Value} {Z : State} (hw : HW a0 Z) : (Jvm.Cond.methodLink "java/lang/String" (1018 : Nat) ({ cls := "java/lang/StringLatin1", name := "toBytes", desc := "(C)[B" } : Jvm.MethodName)).before a0 Z = true := hw _ (List.mem_of_getElem? (i := 15) rfl)
theorem pd26 : parseMethodDescriptor "(C)[B" = some ⟨[.char], some (.array .byte)⟩ := by decide +kernel
theorem d2_18 : decode jdk_42_method_139_code 18 = .ok (.invokestatic 1018, 3) := by decide +kernel
theorem w16 {a0 : Array Value} {Z : State} (hw : HW a0 Z) : (Jvm.Cond.static ({ cls := "java/lang/StringLatin1", name := "toBytes", desc := "(C)[B" } : Jvm.MethodName)).before a0 Z = true := hw _ (List.mem_of_getElem? (i := 16) rfl)
theorem w17 {a0 : Array Value} {Z : State} (hw : HW a0 Z) : (Jvm.Cond.code ({ cls := "java/lang/StringLatin1", name := "toBytes", desc := "(C)[B" } : Jvm.MethodName) jdk_43_method_46_code (1 : Nat) (Option.some (Jvm.ClassFile.FieldType.array Jvm.ClassFile.FieldType.byte))).before a0 Z = true := hw _ (List.mem_of_getElem? (i := 17) rfl)
theorem d2_21 : decode jdk_42_method_139_code 21 = .ok (.iconst 0, 1) := by decide +kernel
theorem w19 {a0 : Array Value} {Z : State} (hw : HW a0 Z) : (Jvm.Cond.methodLink "java/lang/String" (209 : Nat) ({ cls := "java/lang/String", name := "<init>", desc := "([BB)V" } : Jvm.MethodName)).before a0 Z = true := hw _ (List.mem_of_getElem? (i := 19) rfl)
theorem pd27 : parseMethodDescriptor "([BB)V" = some ⟨[(.array .byte), .byte], none⟩ := by decide +kernel
theorem d2_22 : decode jdk_42_method_139_code 22 = .ok (.invokespecial 209, 3) := by decide +kernel
theorem w20 {a0 : Array Value} {Z : State} (hw : HW a0 Z) : (Jvm.Cond.instanceMethod ({ cls := "java/lang/String", name := "<init>", desc := "([BB)V" } : Jvm.MethodName)).before a0 Z = true := hw _ (List.mem_of_getElem? (i := 20) rfl)
theorem w22 {a0 : Array Value} {Z : State} (hw : HW a0 Z) : (Jvm.Cond.code ({ cls := "java/lang/String", name := "<init>", desc := "([BB)V" } : Jvm.MethodName) jdk_42_method_151_code (3 : Nat) (Option.none : Option Jvm.ClassFile.FieldType)).before a0 Z = true := hw _ (List.mem_of_getElem? (i := 22) rfl)
theorem d2_25 : decode jdk_42_method_139_code 25 = .ok (.areturn, 1) := by decide +kernel
theorem d1_0 : decode method_2_code 0 = .ok (.iload_n 2, 1) := by decide +kernel
theorem d1_1 : decode method_2_code 1 = .ok (.ifCond .ne 14, 3) := by decide +kernel
theorem w30 {a0 : Array Value} {Z : State} (hw : HW a0 Z) : (Jvm.Cond.classLink "provento/files/CsvRowRefusePinLaw" (7 : Nat) "java/lang/String").before a0 Z = true := hw _ (List.mem_of_getElem? (i := 30) rfl)
theorem d1_4 : decode method_2_code 4 = .ok (.new 7, 3) := by decide +kernel
theorem d1_7 : decode method_2_code 7 = .ok (.dup, 1) := by decide +kernel
theorem d1_8 : decode method_2_code 8 = .ok (.iconst 0, 1) := by decide +kernel
theorem w31 {a0 : Array Value} {Z : State} (hw : HW a0 Z) : (Jvm.Cond.arrayClass Jvm.ClassFile.FieldType.char).before a0 Z = true := hw _ (List.mem_of_getElem? (i := 31) rfl)
theorem d1_9 : decode method_2_code 9 = .ok (.newarray .char, 2) := by decide +kernel
theorem w32 {a0 : Array Value} {Z : State} (hw : HW a0 Z) : (Jvm.Cond.methodLink "provento/files/CsvRowRefusePinLaw" (9 : Nat) ({ cls := "java/lang/String", name := "<init>", desc := "([C)V" } : Jvm.MethodName)).before a0 Z = true := hw _ (List.mem_of_getElem? (i := 32) rfl)
theorem w38 {a0 : Array Value} {Z : State} (hw : HW a0 Z) : (Jvm.Cond.stringLink "java/lang/String" (7 : Nat) "").before a0 Z = true := hw _ (List.mem_of_getElem? (i := 38) rfl)
theorem w33 {a0 : Array Value} {Z : State} (hw : HW a0 Z) : (Jvm.Cond.instanceMethod ({ cls := "java/lang/String", name := "<init>", desc := "([C)V" } : Jvm.MethodName)).before a0 Z = true := hw _ (List.mem_of_getElem? (i := 33) rfl)
theorem d1_11 : decode method_2_code 11 = .ok (.invokespecial 9, 3) := by decide +kernel
theorem d1_14 : decode method_2_code 14 = .ok (.areturn, 1) := by decide +kernel
theorem d1_15 : decode method_2_code 15 = .ok (.iload_n 2, 1) := by decide +kernel
theorem d1_16 : decode method_2_code 16 = .ok (.iconst 1, 1) := by decide +kernel
theorem d1_17 : decode method_2_code 17 = .ok (.if_icmp .ne 13, 3) := by decide +kernel
theorem d1_20 : decode method_2_code 20 = .ok (.iload_n 0, 1) := by decide +kernel
theorem d1_21 : decode method_2_code 21 = .ok (.sipush 255, 3) := by decide +kernel
theorem d1_24 : decode method_2_code 24 = .ok (.iand, 1) := by decide +kernel
theorem d1_25 : decode method_2_code 25 = .ok (.i2c, 1) := by decide +kernel
theorem w4 {a0 : Array Value} {Z : State} (hw : HW a0 Z) : (Jvm.Cond.methodLink "provento/files/CsvRowRefusePinLaw" (12 : Nat) ({ cls := "java/lang/String", name := "valueOf", desc := "(C)Ljava/lang/String;" } : Jvm.MethodName)).before a0 Z = true := hw _ (List.mem_of_getElem? (i := 4) rfl)
theorem w5 {a0 : Array Value} {Z : State} (hw : HW a0 Z) : (Jvm.Cond.static ({ cls := "java/lang/String", name := "valueOf", desc := "(C)Ljava/lang/String;" } : Jvm.MethodName)).before a0 Z = true := hw _ (List.mem_of_getElem? (i := 5) rfl)
theorem w7 {a0 : Array Value} {Z : State} (hw : HW a0 Z) : (Jvm.Cond.code ({ cls := "java/lang/String", name := "valueOf", desc := "(C)Ljava/lang/String;" } : Jvm.MethodName) jdk_42_method_139_code (1 : Nat) (Option.some (Jvm.ClassFile.FieldType.object "java/lang/String"))).before a0 Z = true := hw _ (List.mem_of_getElem? (i := 7) rfl)
theorem pd28 : parseMethodDescriptor "(C)Ljava/lang/String;" = some ⟨[.char], some (.object "java/lang/String")⟩ := by decide +kernel
theorem d1_26 : decode method_2_code 26 = .ok (.invokestatic 12, 3) := by decide +kernel
theorem d1_29 : decode method_2_code 29 = .ok (.areturn, 1) := by decide +kernel
theorem d1_30 : decode method_2_code 30 = .ok (.iconst 2, 1) := by decide +kernel
theorem d1_31 : decode method_2_code 31 = .ok (.newarray .char, 2) := by decide +kernel
theorem d1_33 : decode method_2_code 33 = .ok (.astore_n 3, 1) := by decide +kernel
theorem d1_34 : decode method_2_code 34 = .ok (.aload_n 3, 1) := by decide +kernel
theorem d1_35 : decode method_2_code 35 = .ok (.iconst 0, 1) := by decide +kernel
theorem d1_36 : decode method_2_code 36 = .ok (.iload_n 0, 1) := by decide +kernel
theorem d1_37 : decode method_2_code 37 = .ok (.sipush 255, 3) := by decide +kernel
theorem d1_40 : decode method_2_code 40 = .ok (.iand, 1) := by decide +kernel
theorem d1_41 : decode method_2_code 41 = .ok (.i2c, 1) := by decide +kernel
theorem d1_42 : decode method_2_code 42 = .ok (.castore, 1) := by decide +kernel
theorem d1_43 : decode method_2_code 43 = .ok (.aload_n 3, 1) := by decide +kernel
theorem d1_44 : decode method_2_code 44 = .ok (.iconst 1, 1) := by decide +kernel
theorem d1_45 : decode method_2_code 45 = .ok (.iload_n 1, 1) := by decide +kernel
theorem d1_46 : decode method_2_code 46 = .ok (.sipush 255, 3) := by decide +kernel
theorem d1_49 : decode method_2_code 49 = .ok (.iand, 1) := by decide +kernel
theorem d1_50 : decode method_2_code 50 = .ok (.i2c, 1) := by decide +kernel
theorem d1_51 : decode method_2_code 51 = .ok (.castore, 1) := by decide +kernel
theorem d1_52 : decode method_2_code 52 = .ok (.new 7, 3) := by decide +kernel
theorem d1_55 : decode method_2_code 55 = .ok (.dup, 1) := by decide +kernel
theorem d1_56 : decode method_2_code 56 = .ok (.aload_n 3, 1) := by decide +kernel
theorem d1_57 : decode method_2_code 57 = .ok (.invokespecial 9, 3) := by decide +kernel
theorem d1_60 : decode method_2_code 60 = .ok (.areturn, 1) := by decide +kernel
theorem pn9 : plainName "provento/files/CsvRowRefusePinLaw" = true := by first | (simp [plainName, overriddenIn]; done) | decide +kernel
theorem d9_0 : decode prog_33_method_1_code 0 = .ok (.aload_n 0, 1) := by decide +kernel
theorem w48 {a0 : Array Value} {Z : State} (hw : HW a0 Z) : (Jvm.Cond.methodLink "provento/files/CsvRow" (1 : Nat) ({ cls := "java/lang/Object", name := "<init>", desc := "()V" } : Jvm.MethodName)).before a0 Z = true := hw _ (List.mem_of_getElem? (i := 48) rfl)
theorem d9_1 : decode prog_33_method_1_code 1 = .ok (.invokespecial 1, 3) := by decide +kernel
theorem d9_4 : decode prog_33_method_1_code 4 = .ok (.aload_n 0, 1) := by decide +kernel
theorem d9_5 : decode prog_33_method_1_code 5 = .ok (.aload_n 0, 1) := by decide +kernel
theorem w49 {a0 : Array Value} {Z : State} (hw : HW a0 Z) : (Jvm.Cond.lambdaSite ({ cls := "provento/files/CsvRow", name := "<init>", desc := "(Ljava/lang/String;ILjava/util/Map;Ljava/lang/String;[ILprovento/files/FieldTexts;)V" } : Jvm.MethodName) (6 : Nat) (7 : Nat) (Jvm.Lambda.Shape.mk "java/util/function/Function" "apply" (Jvm.ClassFile.MethodDescriptor.mk ([(Jvm.ClassFile.FieldType.object "java/lang/Object")] : List Jvm.ClassFile.FieldType) (Option.some (Jvm.ClassFile.FieldType.object "java/lang/Object"))) ([(Jvm.ClassFile.FieldType.object "provento/files/CsvRow")] : List Jvm.ClassFile.FieldType) (5 : Nat) "provento/files/CsvRow" "refuse" (Jvm.ClassFile.MethodDescriptor.mk ([(Jvm.ClassFile.FieldType.object "java/lang/String")] : List Jvm.ClassFile.FieldType) (Option.some (Jvm.ClassFile.FieldType.object "provento/files/Refusal"))) false (Jvm.ClassFile.MethodDescriptor.mk ([(Jvm.ClassFile.FieldType.object "java/lang/String")] : List Jvm.ClassFile.FieldType) (Option.some (Jvm.ClassFile.FieldType.object "provento/files/Refusal"))))).before a0 Z = true := hw _ (List.mem_of_getElem? (i := 49) rfl)
theorem w52 {a0 : Array Value} {Z : State} (hw : HW a0 Z) : (Jvm.Cond.instantiable "java/lang/Object" (0 : Nat)).before a0 Z = true := hw _ (List.mem_of_getElem? (i := 52) rfl)
theorem d9_6 : decode prog_33_method_1_code 6 = .ok (.invokedynamic 7, 5) := by decide +kernel
theorem w53 {a0 : Array Value} {Z : State} (hw : HW a0 Z) : (Jvm.Cond.fieldLink "provento/files/CsvRow" (11 : Nat) "provento/files/CsvRow" "refusal" "Ljava/util/function/Function;").before a0 Z = true := hw _ (List.mem_of_getElem? (i := 53) rfl)
theorem w42 {a0 : Array Value} {Z : State} (hw : HW a0 Z) : (Jvm.Cond.instantiable "provento/files/CsvRow" (7 : Nat)).before a0 Z = true := hw _ (List.mem_of_getElem? (i := 42) rfl)
theorem w54 {a0 : Array Value} {Z : State} (hw : HW a0 Z) : (Jvm.Cond.laysFinal "provento/files/CsvRow" "provento/files/CsvRow" "refusal" "Ljava/util/function/Function;").before a0 Z = true := hw _ (List.mem_of_getElem? (i := 54) rfl)
theorem d9_11 : decode prog_33_method_1_code 11 = .ok (.putfield 11, 3) := by decide +kernel
theorem w56 {a0 : Array Value} {Z : State} (hw : HW a0 Z) : (Jvm.Cond.laysFinal "provento/files/CsvRow" "provento/files/CsvRow" "file" "Ljava/lang/String;").before a0 Z = true := hw _ (List.mem_of_getElem? (i := 56) rfl)
theorem w58 {a0 : Array Value} {Z : State} (hw : HW a0 Z) : (Jvm.Cond.laysFinal "provento/files/CsvRow" "provento/files/CsvRow" "line" "I").before a0 Z = true := hw _ (List.mem_of_getElem? (i := 58) rfl)
theorem w60 {a0 : Array Value} {Z : State} (hw : HW a0 Z) : (Jvm.Cond.laysFinal "provento/files/CsvRow" "provento/files/CsvRow" "positions" "Ljava/util/Map;").before a0 Z = true := hw _ (List.mem_of_getElem? (i := 60) rfl)
theorem w62 {a0 : Array Value} {Z : State} (hw : HW a0 Z) : (Jvm.Cond.laysFinal "provento/files/CsvRow" "provento/files/CsvRow" "text" "Ljava/lang/String;").before a0 Z = true := hw _ (List.mem_of_getElem? (i := 62) rfl)
theorem w64 {a0 : Array Value} {Z : State} (hw : HW a0 Z) : (Jvm.Cond.laysFinal "provento/files/CsvRow" "provento/files/CsvRow" "ends" "[I").before a0 Z = true := hw _ (List.mem_of_getElem? (i := 64) rfl)
theorem w66 {a0 : Array Value} {Z : State} (hw : HW a0 Z) : (Jvm.Cond.laysFinal "provento/files/CsvRow" "provento/files/CsvRow" "texts" "Lprovento/files/FieldTexts;").before a0 Z = true := hw _ (List.mem_of_getElem? (i := 66) rfl)
theorem d9_14 : decode prog_33_method_1_code 14 = .ok (.aload_n 0, 1) := by decide +kernel
theorem d9_15 : decode prog_33_method_1_code 15 = .ok (.aload_n 1, 1) := by decide +kernel
theorem w55 {a0 : Array Value} {Z : State} (hw : HW a0 Z) : (Jvm.Cond.fieldLink "provento/files/CsvRow" (17 : Nat) "provento/files/CsvRow" "file" "Ljava/lang/String;").before a0 Z = true := hw _ (List.mem_of_getElem? (i := 55) rfl)
theorem d9_16 : decode prog_33_method_1_code 16 = .ok (.putfield 17, 3) := by decide +kernel
theorem d9_19 : decode prog_33_method_1_code 19 = .ok (.aload_n 0, 1) := by decide +kernel
theorem d9_20 : decode prog_33_method_1_code 20 = .ok (.iload_n 2, 1) := by decide +kernel
theorem w57 {a0 : Array Value} {Z : State} (hw : HW a0 Z) : (Jvm.Cond.fieldLink "provento/files/CsvRow" (21 : Nat) "provento/files/CsvRow" "line" "I").before a0 Z = true := hw _ (List.mem_of_getElem? (i := 57) rfl)
theorem d9_21 : decode prog_33_method_1_code 21 = .ok (.putfield 21, 3) := by decide +kernel
theorem d9_24 : decode prog_33_method_1_code 24 = .ok (.aload_n 0, 1) := by decide +kernel
theorem d9_25 : decode prog_33_method_1_code 25 = .ok (.aload_n 3, 1) := by decide +kernel
theorem w59 {a0 : Array Value} {Z : State} (hw : HW a0 Z) : (Jvm.Cond.fieldLink "provento/files/CsvRow" (25 : Nat) "provento/files/CsvRow" "positions" "Ljava/util/Map;").before a0 Z = true := hw _ (List.mem_of_getElem? (i := 59) rfl)
theorem d9_26 : decode prog_33_method_1_code 26 = .ok (.putfield 25, 3) := by decide +kernel
theorem d9_29 : decode prog_33_method_1_code 29 = .ok (.aload_n 0, 1) := by decide +kernel
theorem d9_30 : decode prog_33_method_1_code 30 = .ok (.aload 4, 2) := by decide +kernel
theorem w61 {a0 : Array Value} {Z : State} (hw : HW a0 Z) : (Jvm.Cond.fieldLink "provento/files/CsvRow" (29 : Nat) "provento/files/CsvRow" "text" "Ljava/lang/String;").before a0 Z = true := hw _ (List.mem_of_getElem? (i := 61) rfl)
theorem d9_32 : decode prog_33_method_1_code 32 = .ok (.putfield 29, 3) := by decide +kernel
theorem d9_35 : decode prog_33_method_1_code 35 = .ok (.aload_n 0, 1) := by decide +kernel
theorem d9_36 : decode prog_33_method_1_code 36 = .ok (.aload 5, 2) := by decide +kernel
theorem w63 {a0 : Array Value} {Z : State} (hw : HW a0 Z) : (Jvm.Cond.fieldLink "provento/files/CsvRow" (32 : Nat) "provento/files/CsvRow" "ends" "[I").before a0 Z = true := hw _ (List.mem_of_getElem? (i := 63) rfl)
theorem d9_38 : decode prog_33_method_1_code 38 = .ok (.putfield 32, 3) := by decide +kernel
theorem d9_41 : decode prog_33_method_1_code 41 = .ok (.aload_n 0, 1) := by decide +kernel
theorem d9_42 : decode prog_33_method_1_code 42 = .ok (.aload 6, 2) := by decide +kernel
theorem w65 {a0 : Array Value} {Z : State} (hw : HW a0 Z) : (Jvm.Cond.fieldLink "provento/files/CsvRow" (36 : Nat) "provento/files/CsvRow" "texts" "Lprovento/files/FieldTexts;").before a0 Z = true := hw _ (List.mem_of_getElem? (i := 65) rfl)
theorem d9_44 : decode prog_33_method_1_code 44 = .ok (.putfield 36, 3) := by decide +kernel
theorem d9_47 : decode prog_33_method_1_code 47 = .ok (.return_, 1) := by decide +kernel
theorem pn10 : plainName "provento/files/CsvRow" = true := by first | (simp [plainName, overriddenIn]; done) | decide +kernel
theorem d39_0 : decode jdk_78_method_2_code 0 = .ok (.aload_n 0, 1) := by decide +kernel
theorem w222 {a0 : Array Value} {Z : State} (hw : HW a0 Z) : (Jvm.Cond.methodLink "java/lang/Throwable" (1 : Nat) ({ cls := "java/lang/Object", name := "<init>", desc := "()V" } : Jvm.MethodName)).before a0 Z = true := hw _ (List.mem_of_getElem? (i := 222) rfl)
theorem d39_1 : decode jdk_78_method_2_code 1 = .ok (.invokespecial 1, 3) := by decide +kernel
theorem d39_4 : decode jdk_78_method_2_code 4 = .ok (.aload_n 0, 1) := by decide +kernel
theorem d39_5 : decode jdk_78_method_2_code 5 = .ok (.aload_n 0, 1) := by decide +kernel
theorem w223 {a0 : Array Value} {Z : State} (hw : HW a0 Z) : (Jvm.Cond.fieldLink "java/lang/Throwable" (7 : Nat) "java/lang/Throwable" "cause" "Ljava/lang/Throwable;").before a0 Z = true := hw _ (List.mem_of_getElem? (i := 223) rfl)
theorem w73 {a0 : Array Value} {Z : State} (hw : HW a0 Z) : (Jvm.Cond.instantiable "provento/files/Refusal" (6 : Nat)).before a0 Z = true := hw _ (List.mem_of_getElem? (i := 73) rfl)
theorem w224 {a0 : Array Value} {Z : State} (hw : HW a0 Z) : (Jvm.Cond.lays "provento/files/Refusal" "java/lang/Throwable" "cause" "Ljava/lang/Throwable;").before a0 Z = true := hw _ (List.mem_of_getElem? (i := 224) rfl)
theorem d39_6 : decode jdk_78_method_2_code 6 = .ok (.putfield 7, 3) := by decide +kernel
theorem w227 {a0 : Array Value} {Z : State} (hw : HW a0 Z) : (Jvm.Cond.lays "provento/files/Refusal" "java/lang/Throwable" "stackTrace" "[Ljava/lang/StackTraceElement;").before a0 Z = true := hw _ (List.mem_of_getElem? (i := 227) rfl)
theorem w230 {a0 : Array Value} {Z : State} (hw : HW a0 Z) : (Jvm.Cond.lays "provento/files/Refusal" "java/lang/Throwable" "suppressedExceptions" "Ljava/util/List;").before a0 Z = true := hw _ (List.mem_of_getElem? (i := 230) rfl)
theorem w255 {a0 : Array Value} {Z : State} (hw : HW a0 Z) : (Jvm.Cond.lays "provento/files/Refusal" "java/lang/Throwable" "backtrace" "Ljava/lang/Object;").before a0 Z = true := hw _ (List.mem_of_getElem? (i := 255) rfl)
theorem w254 {a0 : Array Value} {Z : State} (hw : HW a0 Z) : (Jvm.Cond.lays "provento/files/Refusal" "java/lang/Throwable" "detailMessage" "Ljava/lang/String;").before a0 Z = true := hw _ (List.mem_of_getElem? (i := 254) rfl)
theorem d39_9 : decode jdk_78_method_2_code 9 = .ok (.aload_n 0, 1) := by decide +kernel
theorem w225 {a0 : Array Value} {Z : State} (hw : HW a0 Z) : (Jvm.Cond.fieldLink "java/lang/Throwable" (13 : Nat) "java/lang/Throwable" "UNASSIGNED_STACK" "[Ljava/lang/StackTraceElement;").before a0 Z = true := hw _ (List.mem_of_getElem? (i := 225) rfl)
theorem d39_10 : decode jdk_78_method_2_code 10 = .ok (.getstatic 13, 3) := by decide +kernel
theorem w226 {a0 : Array Value} {Z : State} (hw : HW a0 Z) : (Jvm.Cond.fieldLink "java/lang/Throwable" (17 : Nat) "java/lang/Throwable" "stackTrace" "[Ljava/lang/StackTraceElement;").before a0 Z = true := hw _ (List.mem_of_getElem? (i := 226) rfl)
theorem d39_13 : decode jdk_78_method_2_code 13 = .ok (.putfield 17, 3) := by decide +kernel
theorem d39_16 : decode jdk_78_method_2_code 16 = .ok (.aload_n 0, 1) := by decide +kernel
theorem w228 {a0 : Array Value} {Z : State} (hw : HW a0 Z) : (Jvm.Cond.fieldLink "java/lang/Throwable" (20 : Nat) "java/lang/Throwable" "SUPPRESSED_SENTINEL" "Ljava/util/List;").before a0 Z = true := hw _ (List.mem_of_getElem? (i := 228) rfl)
theorem d39_17 : decode jdk_78_method_2_code 17 = .ok (.getstatic 20, 3) := by decide +kernel
theorem w229 {a0 : Array Value} {Z : State} (hw : HW a0 Z) : (Jvm.Cond.fieldLink "java/lang/Throwable" (24 : Nat) "java/lang/Throwable" "suppressedExceptions" "Ljava/util/List;").before a0 Z = true := hw _ (List.mem_of_getElem? (i := 229) rfl)
theorem d39_20 : decode jdk_78_method_2_code 20 = .ok (.putfield 24, 3) := by decide +kernel
theorem d39_23 : decode jdk_78_method_2_code 23 = .ok (.aload_n 0, 1) := by decide +kernel
theorem d39_24 : decode jdk_78_method_2_code 24 = .ok (.invokevirtual 27, 3) := by decide +kernel
theorem d39_27 : decode jdk_78_method_2_code 27 = .ok (.pop, 1) := by decide +kernel
theorem d39_28 : decode jdk_78_method_2_code 28 = .ok (.aload_n 0, 1) := by decide +kernel
theorem d39_29 : decode jdk_78_method_2_code 29 = .ok (.aload_n 1, 1) := by decide +kernel
theorem w258 {a0 : Array Value} {Z : State} (hw : HW a0 Z) : (Jvm.Cond.fieldLink "java/lang/Throwable" (31 : Nat) "java/lang/Throwable" "detailMessage" "Ljava/lang/String;").before a0 Z = true := hw _ (List.mem_of_getElem? (i := 258) rfl)
theorem d39_30 : decode jdk_78_method_2_code 30 = .ok (.putfield 31, 3) := by decide +kernel
theorem d39_33 : decode jdk_78_method_2_code 33 = .ok (.return_, 1) := by decide +kernel
theorem pn11 : plainName "java/lang/Throwable" = true := by first | (simp [plainName, overriddenIn]; done) | decide +kernel
theorem d38_0 : decode jdk_59_method_2_code 0 = .ok (.aload_n 0, 1) := by decide +kernel
theorem d38_1 : decode jdk_59_method_2_code 1 = .ok (.aload_n 1, 1) := by decide +kernel
theorem w216 {a0 : Array Value} {Z : State} (hw : HW a0 Z) : (Jvm.Cond.methodLink "java/lang/Exception" (7 : Nat) ({ cls := "java/lang/Throwable", name := "<init>", desc := "(Ljava/lang/String;)V" } : Jvm.MethodName)).before a0 Z = true := hw _ (List.mem_of_getElem? (i := 216) rfl)
theorem w217 {a0 : Array Value} {Z : State} (hw : HW a0 Z) : (Jvm.Cond.instanceMethod ({ cls := "java/lang/Throwable", name := "<init>", desc := "(Ljava/lang/String;)V" } : Jvm.MethodName)).before a0 Z = true := hw _ (List.mem_of_getElem? (i := 217) rfl)
theorem w220 {a0 : Array Value} {Z : State} (hw : HW a0 Z) : (Jvm.Cond.initialized "java/lang/Throwable").before a0 Z = true := hw _ (List.mem_of_getElem? (i := 220) rfl)
theorem w221 {a0 : Array Value} {Z : State} (hw : HW a0 Z) : (Jvm.Cond.code ({ cls := "java/lang/Throwable", name := "<init>", desc := "(Ljava/lang/String;)V" } : Jvm.MethodName) jdk_78_method_2_code (2 : Nat) (Option.none : Option Jvm.ClassFile.FieldType)).before a0 Z = true := hw _ (List.mem_of_getElem? (i := 221) rfl)
theorem d38_2 : decode jdk_59_method_2_code 2 = .ok (.invokespecial 7, 3) := by decide +kernel
theorem d38_5 : decode jdk_59_method_2_code 5 = .ok (.return_, 1) := by decide +kernel
theorem pn12 : plainName "java/lang/Exception" = true := by first | (simp [plainName, overriddenIn]; done) | decide +kernel
theorem d11_0 : decode prog_43_method_2_code 0 = .ok (.aload_n 0, 1) := by decide +kernel
theorem d11_1 : decode prog_43_method_2_code 1 = .ok (.aload_n 1, 1) := by decide +kernel
theorem d11_2 : decode prog_43_method_2_code 2 = .ok (.iload_n 2, 1) := by decide +kernel
theorem d11_3 : decode prog_43_method_2_code 3 = .ok (.aload_n 3, 1) := by decide +kernel
theorem w78 {a0 : Array Value} {Z : State} (hw : HW a0 Z) : (Jvm.Cond.methodLink "provento/files/Refusal" (7 : Nat) ({ cls := "provento/files/Refusal", name := "lineMessage", desc := "(Ljava/lang/String;ILjava/lang/String;)Ljava/lang/String;" } : Jvm.MethodName)).before a0 Z = true := hw _ (List.mem_of_getElem? (i := 78) rfl)
theorem pd29 : parseMethodDescriptor "(Ljava/lang/String;ILjava/lang/String;)Ljava/lang/String;" = some ⟨[(.object "java/lang/String"), .int, (.object "java/lang/String")], some (.object "java/lang/String")⟩ := by decide +kernel
theorem d11_4 : decode prog_43_method_2_code 4 = .ok (.invokestatic 7, 3) := by decide +kernel
theorem w79 {a0 : Array Value} {Z : State} (hw : HW a0 Z) : (Jvm.Cond.static ({ cls := "provento/files/Refusal", name := "lineMessage", desc := "(Ljava/lang/String;ILjava/lang/String;)Ljava/lang/String;" } : Jvm.MethodName)).before a0 Z = true := hw _ (List.mem_of_getElem? (i := 79) rfl)
theorem w74 {a0 : Array Value} {Z : State} (hw : HW a0 Z) : (Jvm.Cond.initialized "provento/files/Refusal").before a0 Z = true := hw _ (List.mem_of_getElem? (i := 74) rfl)
theorem w80 {a0 : Array Value} {Z : State} (hw : HW a0 Z) : (Jvm.Cond.code ({ cls := "provento/files/Refusal", name := "lineMessage", desc := "(Ljava/lang/String;ILjava/lang/String;)Ljava/lang/String;" } : Jvm.MethodName) prog_43_method_4_code (3 : Nat) (Option.some (Jvm.ClassFile.FieldType.object "java/lang/String"))).before a0 Z = true := hw _ (List.mem_of_getElem? (i := 80) rfl)
theorem w211 {a0 : Array Value} {Z : State} (hw : HW a0 Z) : (Jvm.Cond.methodLink "provento/files/Refusal" (1 : Nat) ({ cls := "java/lang/Exception", name := "<init>", desc := "(Ljava/lang/String;)V" } : Jvm.MethodName)).before a0 Z = true := hw _ (List.mem_of_getElem? (i := 211) rfl)
theorem w212 {a0 : Array Value} {Z : State} (hw : HW a0 Z) : (Jvm.Cond.instanceMethod ({ cls := "java/lang/Exception", name := "<init>", desc := "(Ljava/lang/String;)V" } : Jvm.MethodName)).before a0 Z = true := hw _ (List.mem_of_getElem? (i := 212) rfl)
theorem w214 {a0 : Array Value} {Z : State} (hw : HW a0 Z) : (Jvm.Cond.initialized "java/lang/Exception").before a0 Z = true := hw _ (List.mem_of_getElem? (i := 214) rfl)
theorem w215 {a0 : Array Value} {Z : State} (hw : HW a0 Z) : (Jvm.Cond.code ({ cls := "java/lang/Exception", name := "<init>", desc := "(Ljava/lang/String;)V" } : Jvm.MethodName) jdk_59_method_2_code (2 : Nat) (Option.none : Option Jvm.ClassFile.FieldType)).before a0 Z = true := hw _ (List.mem_of_getElem? (i := 215) rfl)
theorem d11_7 : decode prog_43_method_2_code 7 = .ok (.invokespecial 1, 3) := by decide +kernel
theorem d11_10 : decode prog_43_method_2_code 10 = .ok (.return_, 1) := by decide +kernel
theorem w72 {a0 : Array Value} {Z : State} (hw : HW a0 Z) : (Jvm.Cond.classLink "provento/files/CsvRow" (120 : Nat) "provento/files/Refusal").before a0 Z = true := hw _ (List.mem_of_getElem? (i := 72) rfl)
theorem d10_0 : decode prog_33_method_9_code 0 = .ok (.new 120, 3) := by decide +kernel
theorem d10_3 : decode prog_33_method_9_code 3 = .ok (.dup, 1) := by decide +kernel
theorem d10_4 : decode prog_33_method_9_code 4 = .ok (.aload_n 0, 1) := by decide +kernel
theorem d10_5 : decode prog_33_method_9_code 5 = .ok (.getfield 17, 3) := by decide +kernel
theorem d10_8 : decode prog_33_method_9_code 8 = .ok (.aload_n 0, 1) := by decide +kernel
theorem d10_9 : decode prog_33_method_9_code 9 = .ok (.getfield 21, 3) := by decide +kernel
theorem d10_12 : decode prog_33_method_9_code 12 = .ok (.aload_n 1, 1) := by decide +kernel
theorem w75 {a0 : Array Value} {Z : State} (hw : HW a0 Z) : (Jvm.Cond.methodLink "provento/files/CsvRow" (122 : Nat) ({ cls := "provento/files/Refusal", name := "<init>", desc := "(Ljava/lang/String;ILjava/lang/String;)V" } : Jvm.MethodName)).before a0 Z = true := hw _ (List.mem_of_getElem? (i := 75) rfl)
theorem w76 {a0 : Array Value} {Z : State} (hw : HW a0 Z) : (Jvm.Cond.instanceMethod ({ cls := "provento/files/Refusal", name := "<init>", desc := "(Ljava/lang/String;ILjava/lang/String;)V" } : Jvm.MethodName)).before a0 Z = true := hw _ (List.mem_of_getElem? (i := 76) rfl)
theorem w77 {a0 : Array Value} {Z : State} (hw : HW a0 Z) : (Jvm.Cond.code ({ cls := "provento/files/Refusal", name := "<init>", desc := "(Ljava/lang/String;ILjava/lang/String;)V" } : Jvm.MethodName) prog_43_method_2_code (4 : Nat) (Option.none : Option Jvm.ClassFile.FieldType)).before a0 Z = true := hw _ (List.mem_of_getElem? (i := 77) rfl)
theorem pd30 : parseMethodDescriptor "(Ljava/lang/String;ILjava/lang/String;)V" = some ⟨[(.object "java/lang/String"), .int, (.object "java/lang/String")], none⟩ := by decide +kernel
theorem d10_13 : decode prog_33_method_9_code 13 = .ok (.invokespecial 122, 3) := by decide +kernel
theorem d10_16 : decode prog_33_method_9_code 16 = .ok (.areturn, 1) := by decide +kernel
theorem d42_0 : decode jdk_78_method_6_code 0 = .ok (.aload_n 0, 1) := by decide +kernel
theorem d42_1 : decode jdk_78_method_6_code 1 = .ok (.getfield 31, 3) := by decide +kernel
theorem d42_4 : decode jdk_78_method_6_code 4 = .ok (.areturn, 1) := by decide +kernel
theorem d52_0 : decode jdk_29_method_59_code 0 = .ok (.iload_n 0, 1) := by decide +kernel
theorem d52_1 : decode jdk_29_method_59_code 1 = .ok (.ifCond .ge 8, 3) := by decide +kernel
theorem d52_4 : decode jdk_29_method_59_code 4 = .ok (.iload_n 0, 1) := by decide +kernel
theorem d52_5 : decode jdk_29_method_59_code 5 = .ok (.ineg, 1) := by decide +kernel
theorem d52_6 : decode jdk_29_method_59_code 6 = .ok (.goto 4, 3) := by decide +kernel
theorem d52_10 : decode jdk_29_method_59_code 10 = .ok (.ireturn, 1) := by decide +kernel
theorem d52_9 : decode jdk_29_method_59_code 9 = .ok (.iload_n 0, 1) := by decide +kernel
theorem d46_0 : decode jdk_29_method_61_code 0 = .ok (.lload_n 0, 1) := by decide +kernel
theorem d46_1 : decode jdk_29_method_61_code 1 = .ok (.lconst 0, 1) := by decide +kernel
theorem d46_2 : decode jdk_29_method_61_code 2 = .ok (.lcmp, 1) := by decide +kernel
theorem d46_3 : decode jdk_29_method_61_code 3 = .ok (.ifCond .ge 8, 3) := by decide +kernel
theorem d46_6 : decode jdk_29_method_61_code 6 = .ok (.lload_n 0, 1) := by decide +kernel
theorem d46_7 : decode jdk_29_method_61_code 7 = .ok (.lneg, 1) := by decide +kernel
theorem d46_8 : decode jdk_29_method_61_code 8 = .ok (.goto 4, 3) := by decide +kernel
theorem d46_12 : decode jdk_29_method_61_code 12 = .ok (.lreturn, 1) := by decide +kernel
theorem d46_11 : decode jdk_29_method_61_code 11 = .ok (.lload_n 0, 1) := by decide +kernel
theorem d45_0 : decode method_3_code 0 = .ok (.iload_n 0, 1) := by decide +kernel
theorem d45_1 : decode method_3_code 1 = .ok (.i2l, 1) := by decide +kernel
theorem w278 {a0 : Array Value} {Z : State} (hw : HW a0 Z) : (Jvm.Cond.methodLink "provento/files/CsvRowRefusePinLaw" (16 : Nat) ({ cls := "java/lang/Math", name := "abs", desc := "(J)J" } : Jvm.MethodName)).before a0 Z = true := hw _ (List.mem_of_getElem? (i := 278) rfl)
theorem pd31 : parseMethodDescriptor "(J)J" = some ⟨[.long], some .long⟩ := by decide +kernel
theorem d45_2 : decode method_3_code 2 = .ok (.invokestatic 16, 3) := by decide +kernel
theorem w279 {a0 : Array Value} {Z : State} (hw : HW a0 Z) : (Jvm.Cond.static ({ cls := "java/lang/Math", name := "abs", desc := "(J)J" } : Jvm.MethodName)).before a0 Z = true := hw _ (List.mem_of_getElem? (i := 279) rfl)
theorem w280 {a0 : Array Value} {Z : State} (hw : HW a0 Z) : (Jvm.Cond.code ({ cls := "java/lang/Math", name := "abs", desc := "(J)J" } : Jvm.MethodName) jdk_29_method_61_code (2 : Nat) (Option.some Jvm.ClassFile.FieldType.long)).before a0 Z = true := hw _ (List.mem_of_getElem? (i := 280) rfl)
theorem d45_5 : decode method_3_code 5 = .ok (.lstore_n 1, 1) := by decide +kernel
theorem d45_6 : decode method_3_code 6 = .ok (.lload_n 1, 1) := by decide +kernel
theorem w281 {a0 : Array Value} {Z : State} (hw : HW a0 Z) : (Jvm.Cond.constantLong "provento/files/CsvRowRefusePinLaw" (22 : Nat) (10 : Int64)).before a0 Z = true := hw _ (List.mem_of_getElem? (i := 281) rfl)
theorem d45_7 : decode method_3_code 7 = .ok (.ldc2_w 22, 3) := by decide +kernel
theorem d45_10 : decode method_3_code 10 = .ok (.lcmp, 1) := by decide +kernel
theorem d45_11 : decode method_3_code 11 = .ok (.ifCond .ge 7, 3) := by decide +kernel
theorem d45_14 : decode method_3_code 14 = .ok (.iconst 1, 1) := by decide +kernel
theorem d45_15 : decode method_3_code 15 = .ok (.goto 105, 3) := by decide +kernel
theorem d45_120 : decode method_3_code 120 = .ok (.istore_n 3, 1) := by decide +kernel
theorem d45_121 : decode method_3_code 121 = .ok (.iload_n 0, 1) := by decide +kernel
theorem d45_122 : decode method_3_code 122 = .ok (.ifCond .ge 9, 3) := by decide +kernel
theorem d45_125 : decode method_3_code 125 = .ok (.iload_n 3, 1) := by decide +kernel
theorem d45_126 : decode method_3_code 126 = .ok (.iconst 1, 1) := by decide +kernel
theorem d45_127 : decode method_3_code 127 = .ok (.iadd, 1) := by decide +kernel
theorem d45_128 : decode method_3_code 128 = .ok (.goto 4, 3) := by decide +kernel
theorem d45_132 : decode method_3_code 132 = .ok (.ireturn, 1) := by decide +kernel
theorem d45_131 : decode method_3_code 131 = .ok (.iload_n 3, 1) := by decide +kernel
theorem d45_18 : decode method_3_code 18 = .ok (.lload_n 1, 1) := by decide +kernel
theorem w307 {a0 : Array Value} {Z : State} (hw : HW a0 Z) : (Jvm.Cond.constantLong "provento/files/CsvRowRefusePinLaw" (24 : Nat) (100 : Int64)).before a0 Z = true := hw _ (List.mem_of_getElem? (i := 307) rfl)
theorem d45_19 : decode method_3_code 19 = .ok (.ldc2_w 24, 3) := by decide +kernel
theorem d45_22 : decode method_3_code 22 = .ok (.lcmp, 1) := by decide +kernel
theorem d45_23 : decode method_3_code 23 = .ok (.ifCond .ge 7, 3) := by decide +kernel
theorem d45_26 : decode method_3_code 26 = .ok (.iconst 2, 1) := by decide +kernel
theorem d45_27 : decode method_3_code 27 = .ok (.goto 93, 3) := by decide +kernel
theorem d45_30 : decode method_3_code 30 = .ok (.lload_n 1, 1) := by decide +kernel
theorem w308 {a0 : Array Value} {Z : State} (hw : HW a0 Z) : (Jvm.Cond.constantLong "provento/files/CsvRowRefusePinLaw" (26 : Nat) (1000 : Int64)).before a0 Z = true := hw _ (List.mem_of_getElem? (i := 308) rfl)
theorem d45_31 : decode method_3_code 31 = .ok (.ldc2_w 26, 3) := by decide +kernel
theorem d45_34 : decode method_3_code 34 = .ok (.lcmp, 1) := by decide +kernel
theorem d45_35 : decode method_3_code 35 = .ok (.ifCond .ge 7, 3) := by decide +kernel
theorem d45_38 : decode method_3_code 38 = .ok (.iconst 3, 1) := by decide +kernel
theorem d45_39 : decode method_3_code 39 = .ok (.goto 81, 3) := by decide +kernel
theorem d45_42 : decode method_3_code 42 = .ok (.lload_n 1, 1) := by decide +kernel
theorem w309 {a0 : Array Value} {Z : State} (hw : HW a0 Z) : (Jvm.Cond.constantLong "provento/files/CsvRowRefusePinLaw" (28 : Nat) (10000 : Int64)).before a0 Z = true := hw _ (List.mem_of_getElem? (i := 309) rfl)
theorem d45_43 : decode method_3_code 43 = .ok (.ldc2_w 28, 3) := by decide +kernel
theorem d45_46 : decode method_3_code 46 = .ok (.lcmp, 1) := by decide +kernel
theorem d45_47 : decode method_3_code 47 = .ok (.ifCond .ge 7, 3) := by decide +kernel
theorem d45_50 : decode method_3_code 50 = .ok (.iconst 4, 1) := by decide +kernel
theorem d45_51 : decode method_3_code 51 = .ok (.goto 69, 3) := by decide +kernel
theorem d45_54 : decode method_3_code 54 = .ok (.lload_n 1, 1) := by decide +kernel
theorem w310 {a0 : Array Value} {Z : State} (hw : HW a0 Z) : (Jvm.Cond.constantLong "provento/files/CsvRowRefusePinLaw" (30 : Nat) (100000 : Int64)).before a0 Z = true := hw _ (List.mem_of_getElem? (i := 310) rfl)
theorem d45_55 : decode method_3_code 55 = .ok (.ldc2_w 30, 3) := by decide +kernel
theorem d45_58 : decode method_3_code 58 = .ok (.lcmp, 1) := by decide +kernel
theorem d45_59 : decode method_3_code 59 = .ok (.ifCond .ge 7, 3) := by decide +kernel
theorem d45_62 : decode method_3_code 62 = .ok (.iconst 5, 1) := by decide +kernel
theorem d45_63 : decode method_3_code 63 = .ok (.goto 57, 3) := by decide +kernel
theorem d45_66 : decode method_3_code 66 = .ok (.lload_n 1, 1) := by decide +kernel
theorem w311 {a0 : Array Value} {Z : State} (hw : HW a0 Z) : (Jvm.Cond.constantLong "provento/files/CsvRowRefusePinLaw" (32 : Nat) (1000000 : Int64)).before a0 Z = true := hw _ (List.mem_of_getElem? (i := 311) rfl)
theorem d45_67 : decode method_3_code 67 = .ok (.ldc2_w 32, 3) := by decide +kernel
theorem d45_70 : decode method_3_code 70 = .ok (.lcmp, 1) := by decide +kernel
theorem d45_71 : decode method_3_code 71 = .ok (.ifCond .ge 8, 3) := by decide +kernel
theorem d45_74 : decode method_3_code 74 = .ok (.bipush 6, 2) := by decide +kernel
theorem d45_76 : decode method_3_code 76 = .ok (.goto 44, 3) := by decide +kernel
theorem d45_79 : decode method_3_code 79 = .ok (.lload_n 1, 1) := by decide +kernel
theorem w312 {a0 : Array Value} {Z : State} (hw : HW a0 Z) : (Jvm.Cond.constantLong "provento/files/CsvRowRefusePinLaw" (34 : Nat) (10000000 : Int64)).before a0 Z = true := hw _ (List.mem_of_getElem? (i := 312) rfl)
theorem d45_80 : decode method_3_code 80 = .ok (.ldc2_w 34, 3) := by decide +kernel
theorem d45_83 : decode method_3_code 83 = .ok (.lcmp, 1) := by decide +kernel
theorem d45_84 : decode method_3_code 84 = .ok (.ifCond .ge 8, 3) := by decide +kernel
theorem d45_87 : decode method_3_code 87 = .ok (.bipush 7, 2) := by decide +kernel
theorem d45_89 : decode method_3_code 89 = .ok (.goto 31, 3) := by decide +kernel
theorem d45_92 : decode method_3_code 92 = .ok (.lload_n 1, 1) := by decide +kernel
theorem w313 {a0 : Array Value} {Z : State} (hw : HW a0 Z) : (Jvm.Cond.constantLong "provento/files/CsvRowRefusePinLaw" (36 : Nat) (100000000 : Int64)).before a0 Z = true := hw _ (List.mem_of_getElem? (i := 313) rfl)
theorem d45_93 : decode method_3_code 93 = .ok (.ldc2_w 36, 3) := by decide +kernel
theorem d45_96 : decode method_3_code 96 = .ok (.lcmp, 1) := by decide +kernel
theorem d45_97 : decode method_3_code 97 = .ok (.ifCond .ge 8, 3) := by decide +kernel
theorem d45_100 : decode method_3_code 100 = .ok (.bipush 8, 2) := by decide +kernel
theorem d45_102 : decode method_3_code 102 = .ok (.goto 18, 3) := by decide +kernel
theorem d45_105 : decode method_3_code 105 = .ok (.lload_n 1, 1) := by decide +kernel
theorem w314 {a0 : Array Value} {Z : State} (hw : HW a0 Z) : (Jvm.Cond.constantLong "provento/files/CsvRowRefusePinLaw" (38 : Nat) (1000000000 : Int64)).before a0 Z = true := hw _ (List.mem_of_getElem? (i := 314) rfl)
theorem d45_106 : decode method_3_code 106 = .ok (.ldc2_w 38, 3) := by decide +kernel
theorem d45_109 : decode method_3_code 109 = .ok (.lcmp, 1) := by decide +kernel
theorem d45_110 : decode method_3_code 110 = .ok (.ifCond .ge 8, 3) := by decide +kernel
theorem d45_113 : decode method_3_code 113 = .ok (.bipush 9, 2) := by decide +kernel
theorem d45_115 : decode method_3_code 115 = .ok (.goto 5, 3) := by decide +kernel
theorem d45_118 : decode method_3_code 118 = .ok (.bipush 10, 2) := by decide +kernel
theorem w0 {a0 : Array Value} {Z : State} (hw : HW a0 Z) : (Jvm.Cond.methodLink "provento/files/CsvRowRefusePinLaw" (40 : Nat) ({ cls := "provento/files/CsvRowRefusePinLaw", name := "str", desc := "(III)Ljava/lang/String;" } : Jvm.MethodName)).before a0 Z = true := hw _ (List.mem_of_getElem? (i := 0) rfl)
theorem w1 {a0 : Array Value} {Z : State} (hw : HW a0 Z) : (Jvm.Cond.static ({ cls := "provento/files/CsvRowRefusePinLaw", name := "str", desc := "(III)Ljava/lang/String;" } : Jvm.MethodName)).before a0 Z = true := hw _ (List.mem_of_getElem? (i := 1) rfl)
theorem w2 {a0 : Array Value} {Z : State} (hw : HW a0 Z) : (Jvm.Cond.initialized "provento/files/CsvRowRefusePinLaw").before a0 Z = true := hw _ (List.mem_of_getElem? (i := 2) rfl)
theorem w3 {a0 : Array Value} {Z : State} (hw : HW a0 Z) : (Jvm.Cond.code ({ cls := "provento/files/CsvRowRefusePinLaw", name := "str", desc := "(III)Ljava/lang/String;" } : Jvm.MethodName) method_2_code (4 : Nat) (Option.some (Jvm.ClassFile.FieldType.object "java/lang/String"))).before a0 Z = true := hw _ (List.mem_of_getElem? (i := 3) rfl)
theorem pd32 : parseMethodDescriptor "(III)Ljava/lang/String;" = some ⟨[.int, .int, .int], some (.object "java/lang/String")⟩ := by decide +kernel
theorem w41 {a0 : Array Value} {Z : State} (hw : HW a0 Z) : (Jvm.Cond.classLink "provento/files/CsvRowRefusePinLaw" (46 : Nat) "provento/files/CsvRow").before a0 Z = true := hw _ (List.mem_of_getElem? (i := 41) rfl)
theorem w43 {a0 : Array Value} {Z : State} (hw : HW a0 Z) : (Jvm.Cond.initialized "provento/files/CsvRow").before a0 Z = true := hw _ (List.mem_of_getElem? (i := 43) rfl)
theorem w44 {a0 : Array Value} {Z : State} (hw : HW a0 Z) : (Jvm.Cond.arrayClass Jvm.ClassFile.FieldType.int).before a0 Z = true := hw _ (List.mem_of_getElem? (i := 44) rfl)
theorem w45 {a0 : Array Value} {Z : State} (hw : HW a0 Z) : (Jvm.Cond.methodLink "provento/files/CsvRowRefusePinLaw" (48 : Nat) ({ cls := "provento/files/CsvRow", name := "<init>", desc := "(Ljava/lang/String;ILjava/util/Map;Ljava/lang/String;[ILprovento/files/FieldTexts;)V" } : Jvm.MethodName)).before a0 Z = true := hw _ (List.mem_of_getElem? (i := 45) rfl)
theorem pd33 : parseMethodDescriptor "(Ljava/lang/String;ILjava/util/Map;Ljava/lang/String;[ILprovento/files/FieldTexts;)V" = some ⟨[(.object "java/lang/String"), .int, (.object "java/util/Map"), (.object "java/lang/String"), (.array .int), (.object "provento/files/FieldTexts")], none⟩ := by decide +kernel
theorem w46 {a0 : Array Value} {Z : State} (hw : HW a0 Z) : (Jvm.Cond.instanceMethod ({ cls := "provento/files/CsvRow", name := "<init>", desc := "(Ljava/lang/String;ILjava/util/Map;Ljava/lang/String;[ILprovento/files/FieldTexts;)V" } : Jvm.MethodName)).before a0 Z = true := hw _ (List.mem_of_getElem? (i := 46) rfl)
theorem w47 {a0 : Array Value} {Z : State} (hw : HW a0 Z) : (Jvm.Cond.code ({ cls := "provento/files/CsvRow", name := "<init>", desc := "(Ljava/lang/String;ILjava/util/Map;Ljava/lang/String;[ILprovento/files/FieldTexts;)V" } : Jvm.MethodName) prog_33_method_1_code (7 : Nat) (Option.none : Option Jvm.ClassFile.FieldType)).before a0 Z = true := hw _ (List.mem_of_getElem? (i := 47) rfl)
theorem w67 {a0 : Array Value} {Z : State} (hw : HW a0 Z) : (Jvm.Cond.methodLink "provento/files/CsvRowRefusePinLaw" (51 : Nat) ({ cls := "provento/files/CsvRow", name := "refuse", desc := "(Ljava/lang/String;)Lprovento/files/Refusal;" } : Jvm.MethodName)).before a0 Z = true := hw _ (List.mem_of_getElem? (i := 67) rfl)
theorem w70 {a0 : Array Value} {Z : State} (hw : HW a0 Z) : (Jvm.Cond.selects "provento/files/CsvRow" ({ cls := "provento/files/CsvRow", name := "refuse", desc := "(Ljava/lang/String;)Lprovento/files/Refusal;" } : Jvm.MethodName) ({ cls := "provento/files/CsvRow", name := "refuse", desc := "(Ljava/lang/String;)Lprovento/files/Refusal;" } : Jvm.MethodName)).before a0 Z = true := hw _ (List.mem_of_getElem? (i := 70) rfl)
theorem w68 {a0 : Array Value} {Z : State} (hw : HW a0 Z) : (Jvm.Cond.declares ({ cls := "provento/files/CsvRow", name := "refuse", desc := "(Ljava/lang/String;)Lprovento/files/Refusal;" } : Jvm.MethodName)).before a0 Z = true := hw _ (List.mem_of_getElem? (i := 68) rfl)
theorem w69 {a0 : Array Value} {Z : State} (hw : HW a0 Z) : (Jvm.Cond.instanceMethod ({ cls := "provento/files/CsvRow", name := "refuse", desc := "(Ljava/lang/String;)Lprovento/files/Refusal;" } : Jvm.MethodName)).before a0 Z = true := hw _ (List.mem_of_getElem? (i := 69) rfl)
theorem w71 {a0 : Array Value} {Z : State} (hw : HW a0 Z) : (Jvm.Cond.code ({ cls := "provento/files/CsvRow", name := "refuse", desc := "(Ljava/lang/String;)Lprovento/files/Refusal;" } : Jvm.MethodName) prog_33_method_9_code (2 : Nat) (Option.some (Jvm.ClassFile.FieldType.object "provento/files/Refusal"))).before a0 Z = true := hw _ (List.mem_of_getElem? (i := 71) rfl)
theorem pd34 : parseMethodDescriptor "(Ljava/lang/String;)Lprovento/files/Refusal;" = some ⟨[(.object "java/lang/String")], some (.object "provento/files/Refusal")⟩ := by decide +kernel
theorem w259 {a0 : Array Value} {Z : State} (hw : HW a0 Z) : (Jvm.Cond.methodLink "provento/files/CsvRowRefusePinLaw" (55 : Nat) ({ cls := "provento/files/Refusal", name := "getMessage", desc := "()Ljava/lang/String;" } : Jvm.MethodName)).before a0 Z = true := hw _ (List.mem_of_getElem? (i := 259) rfl)
theorem w260 {a0 : Array Value} {Z : State} (hw : HW a0 Z) : (Jvm.Cond.sameMethod "provento/files/Refusal" "java/lang/Throwable" "getMessage" "()Ljava/lang/String;").before a0 Z = true := hw _ (List.mem_of_getElem? (i := 260) rfl)
theorem w261 {a0 : Array Value} {Z : State} (hw : HW a0 Z) : (Jvm.Cond.declares ({ cls := "java/lang/Throwable", name := "getMessage", desc := "()Ljava/lang/String;" } : Jvm.MethodName)).before a0 Z = true := hw _ (List.mem_of_getElem? (i := 261) rfl)
theorem w263 {a0 : Array Value} {Z : State} (hw : HW a0 Z) : (Jvm.Cond.selects "provento/files/Refusal" ({ cls := "provento/files/Refusal", name := "getMessage", desc := "()Ljava/lang/String;" } : Jvm.MethodName) ({ cls := "java/lang/Throwable", name := "getMessage", desc := "()Ljava/lang/String;" } : Jvm.MethodName)).before a0 Z = true := hw _ (List.mem_of_getElem? (i := 263) rfl)
theorem w262 {a0 : Array Value} {Z : State} (hw : HW a0 Z) : (Jvm.Cond.instanceMethod ({ cls := "java/lang/Throwable", name := "getMessage", desc := "()Ljava/lang/String;" } : Jvm.MethodName)).before a0 Z = true := hw _ (List.mem_of_getElem? (i := 262) rfl)
theorem w264 {a0 : Array Value} {Z : State} (hw : HW a0 Z) : (Jvm.Cond.code ({ cls := "java/lang/Throwable", name := "getMessage", desc := "()Ljava/lang/String;" } : Jvm.MethodName) jdk_78_method_6_code (1 : Nat) (Option.some (Jvm.ClassFile.FieldType.object "java/lang/String"))).before a0 Z = true := hw _ (List.mem_of_getElem? (i := 264) rfl)
theorem w265 {a0 : Array Value} {Z : State} (hw : HW a0 Z) : (Jvm.Cond.methodLink "provento/files/CsvRowRefusePinLaw" (61 : Nat) ({ cls := "provento/files/Refusal", name := "lineMessage", desc := "(Ljava/lang/String;ILjava/lang/String;)Ljava/lang/String;" } : Jvm.MethodName)).before a0 Z = true := hw _ (List.mem_of_getElem? (i := 265) rfl)
theorem w266 {a0 : Array Value} {Z : State} (hw : HW a0 Z) : (Jvm.Cond.methodLink "provento/files/CsvRowRefusePinLaw" (65 : Nat) ({ cls := "java/lang/String", name := "equals", desc := "(Ljava/lang/Object;)Z" } : Jvm.MethodName)).before a0 Z = true := hw _ (List.mem_of_getElem? (i := 266) rfl)
theorem w267 {a0 : Array Value} {Z : State} (hw : HW a0 Z) : (Jvm.Cond.declares ({ cls := "java/lang/String", name := "equals", desc := "(Ljava/lang/Object;)Z" } : Jvm.MethodName)).before a0 Z = true := hw _ (List.mem_of_getElem? (i := 267) rfl)
theorem w269 {a0 : Array Value} {Z : State} (hw : HW a0 Z) : (Jvm.Cond.selects "java/lang/String" ({ cls := "java/lang/String", name := "equals", desc := "(Ljava/lang/Object;)Z" } : Jvm.MethodName) ({ cls := "java/lang/String", name := "equals", desc := "(Ljava/lang/Object;)Z" } : Jvm.MethodName)).before a0 Z = true := hw _ (List.mem_of_getElem? (i := 269) rfl)
theorem w268 {a0 : Array Value} {Z : State} (hw : HW a0 Z) : (Jvm.Cond.instanceMethod ({ cls := "java/lang/String", name := "equals", desc := "(Ljava/lang/Object;)Z" } : Jvm.MethodName)).before a0 Z = true := hw _ (List.mem_of_getElem? (i := 268) rfl)
theorem w274 {a0 : Array Value} {Z : State} (hw : HW a0 Z) : (Jvm.Cond.methodLink "provento/files/CsvRowRefusePinLaw" (69 : Nat) ({ cls := "java/lang/String", name := "length", desc := "()I" } : Jvm.MethodName)).before a0 Z = true := hw _ (List.mem_of_getElem? (i := 274) rfl)
theorem w275 {a0 : Array Value} {Z : State} (hw : HW a0 Z) : (Jvm.Cond.methodLink "provento/files/CsvRowRefusePinLaw" (73 : Nat) ({ cls := "provento/files/CsvRowRefusePinLaw", name := "decLen", desc := "(I)I" } : Jvm.MethodName)).before a0 Z = true := hw _ (List.mem_of_getElem? (i := 275) rfl)
theorem w276 {a0 : Array Value} {Z : State} (hw : HW a0 Z) : (Jvm.Cond.static ({ cls := "provento/files/CsvRowRefusePinLaw", name := "decLen", desc := "(I)I" } : Jvm.MethodName)).before a0 Z = true := hw _ (List.mem_of_getElem? (i := 276) rfl)
theorem w277 {a0 : Array Value} {Z : State} (hw : HW a0 Z) : (Jvm.Cond.code ({ cls := "provento/files/CsvRowRefusePinLaw", name := "decLen", desc := "(I)I" } : Jvm.MethodName) method_3_code (4 : Nat) (Option.some Jvm.ClassFile.FieldType.int)).before a0 Z = true := hw _ (List.mem_of_getElem? (i := 277) rfl)
theorem w282 {a0 : Array Value} {Z : State} (hw : HW a0 Z) : (Jvm.Cond.methodLink "provento/files/CsvRowRefusePinLaw" (77 : Nat) ({ cls := "java/lang/String", name := "charAt", desc := "(I)C" } : Jvm.MethodName)).before a0 Z = true := hw _ (List.mem_of_getElem? (i := 282) rfl)
theorem pd35 : parseMethodDescriptor "(I)C" = some ⟨[.int], some .char⟩ := by decide +kernel
theorem w285 {a0 : Array Value} {Z : State} (hw : HW a0 Z) : (Jvm.Cond.selects "java/lang/String" ({ cls := "java/lang/String", name := "charAt", desc := "(I)C" } : Jvm.MethodName) ({ cls := "java/lang/String", name := "charAt", desc := "(I)C" } : Jvm.MethodName)).before a0 Z = true := hw _ (List.mem_of_getElem? (i := 285) rfl)
theorem w283 {a0 : Array Value} {Z : State} (hw : HW a0 Z) : (Jvm.Cond.declares ({ cls := "java/lang/String", name := "charAt", desc := "(I)C" } : Jvm.MethodName)).before a0 Z = true := hw _ (List.mem_of_getElem? (i := 283) rfl)
theorem w284 {a0 : Array Value} {Z : State} (hw : HW a0 Z) : (Jvm.Cond.instanceMethod ({ cls := "java/lang/String", name := "charAt", desc := "(I)C" } : Jvm.MethodName)).before a0 Z = true := hw _ (List.mem_of_getElem? (i := 284) rfl)
theorem w286 {a0 : Array Value} {Z : State} (hw : HW a0 Z) : (Jvm.Cond.code ({ cls := "java/lang/String", name := "charAt", desc := "(I)C" } : Jvm.MethodName) jdk_42_method_56_code (2 : Nat) (Option.some Jvm.ClassFile.FieldType.char)).before a0 Z = true := hw _ (List.mem_of_getElem? (i := 286) rfl)
theorem w303 {a0 : Array Value} {Z : State} (hw : HW a0 Z) : (Jvm.Cond.methodLink "provento/files/CsvRowRefusePinLaw" (81 : Nat) ({ cls := "java/lang/Math", name := "abs", desc := "(I)I" } : Jvm.MethodName)).before a0 Z = true := hw _ (List.mem_of_getElem? (i := 303) rfl)
theorem w304 {a0 : Array Value} {Z : State} (hw : HW a0 Z) : (Jvm.Cond.static ({ cls := "java/lang/Math", name := "abs", desc := "(I)I" } : Jvm.MethodName)).before a0 Z = true := hw _ (List.mem_of_getElem? (i := 304) rfl)
theorem w305 {a0 : Array Value} {Z : State} (hw : HW a0 Z) : (Jvm.Cond.code ({ cls := "java/lang/Math", name := "abs", desc := "(I)I" } : Jvm.MethodName) jdk_29_method_59_code (1 : Nat) (Option.some Jvm.ClassFile.FieldType.int)).before a0 Z = true := hw _ (List.mem_of_getElem? (i := 305) rfl)
theorem rm_coder (l : Launch) (Z : State) (a0 : Array Value) (hw : HW a0 Z) (a : Addr) (h : Heap) (n0 : Nat) (Ds : List Addr) (own_cs : CompactOn Z) (F_c : Fld Z h a "java/lang/String" "coder" "B" (.int (0 : Int32))) :
    Ctr l Z (⟨"java/lang/String", "coder", "()B"⟩ : MethodName) jdk_42_method_152_code 1 (some .byte) [] (rmo 0 0 0 0) #[.ref a] h n0 Ds (fun v h' Ds' => v = some (.int (0 : Int32)) ∧ h = h' ∧ Ds = Ds') := by
  refine ctr_of (Ls := #[.val (.ref a)]) (plainFor_of_name pn0) (fun m => by first | (simp [entryFrame, mkF, argsToLocals, Value.category]; done) | rfl) ?_
  intro C hl hret hnm R
  subst hl
  obtain ⟨zc, S_zc, hzc⟩ := id own_cs
  replace R := ((((R.getS (pc' := 3) (host := "") (Or.inl (w8 hw)) Via.refl S_zc d18_0 rfl).ifN (pc' := 6) d18_3 (feq hzc).1 rfl).aloadN (pc' := 7) (v := (.ref a)) d18_6 rfl rfl rfl).getF (pc' := 10) (host := "") (Or.inl (w28 hw)) Via.refl F_c d18_7 rfl).goto (pc' := 14) d18_10 (by decide) rfl
  exact R.retN (Ds' := Ds) hret (by simp) (show nar .byte (0 : Int32) = (0 : Int32) from rfl) d18_14 (by decide) (by decide) (fun _ q => q) ⟨rfl, rfl, rfl⟩
theorem rm_isLatin1 (l : Launch) (Z : State) (a0 : Array Value) (hw : HW a0 Z) (a : Addr) (h : Heap) (n0 : Nat) (Ds : List Addr) (own_cs : CompactOn Z) (F_c : Fld Z h a "java/lang/String" "coder" "B" (.int (0 : Int32))) :
    Ctr l Z (⟨"java/lang/String", "isLatin1", "()Z"⟩ : MethodName) jdk_42_method_154_code 1 (some .boolean) [] (rmo 0 0 0 0) #[.ref a] h n0 Ds (fun v h' Ds' => v = some (.int (1 : Int32)) ∧ h = h' ∧ Ds = Ds') := by
  refine ctr_of (Ls := #[.val (.ref a)]) (plainFor_of_name pn0) (fun m => by first | (simp [entryFrame, mkF, argsToLocals, Value.category]; done) | rfl) ?_
  intro C hl hret hnm R
  subst hl
  obtain ⟨zc, S_zc, hzc⟩ := id own_cs
  replace R := (((((R.getS (pc' := 3) (host := "") (Or.inl (w8 hw)) Via.refl S_zc d48_0 rfl).ifN (pc' := 6) d48_3 (feq hzc).1 rfl).aloadN (pc' := 7) (v := (.ref a)) d48_6 rfl rfl rfl).getF (pc' := 10) (host := "") (Or.inl (w28 hw)) Via.refl F_c d48_7 rfl).ifN (pc' := 13) d48_10 (teq (by decide : (0 : Int32) = (0 : Int32))).2 rfl).iconst (pc' := 14) (z := (1 : Int32)) d48_13 rfl rfl
  replace R := R.goto (pc' := 18) d48_14 (by decide) rfl
  exact R.retN (Ds' := Ds) hret (by simp) (show nar .boolean (1 : Int32) = (1 : Int32) from rfl) d48_18 (by decide) (by decide) (fun _ q => q) ⟨rfl, rfl, rfl⟩
theorem rm_length (l : Launch) (Z : State) (a0 : Array Value) (hw : HW a0 Z) (a : Addr) (h : Heap) (n0 : Nat) (Ds : List Addr) (own_cs : CompactOn Z) {cs : List Int32} (S_a : IsStr Z h a cs) :
    Ctr l Z (⟨"java/lang/String", "length", "()I"⟩ : MethodName) jdk_42_method_54_code 1 (some .int) [] (rmo 1 0 0 13) #[.ref a] h n0 Ds (fun v h' Ds' => v = some (.int (Int32.ofNat cs.length)) ∧ h = h' ∧ Ds = Ds') := by
  refine ctr_of (Ls := #[.val (.ref a)]) (plainFor_of_name pn0) (fun m => by first | (simp [entryFrame, mkF, argsToLocals, Value.category]; done) | rfl) ?_
  intro C hl hret hnm R
  subst hl
  obtain ⟨e1, e2, e3, e4, t, kb, e5, e6⟩ := S_a
  replace R := (((R.aloadN (pc' := 1) (v := (.ref a)) d17_0 rfl rfl rfl).getF (pc' := 4) (host := "") (Or.inl (w26 hw)) Via.refl e5 d17_1 rfl).arraylength (pc' := 5) e6 d17_4 rfl).aloadN (pc' := 6) (v := (.ref a)) d17_5 rfl rfl rfl
  replace R := own_pure (R.callV (pc' := 9) (y := (⟨"java/lang/String", "coder", "()B"⟩ : MethodName)) (z := (⟨"java/lang/String", "coder", "()B"⟩ : MethodName)) (argsL := []) (rest := [(.int (Int32.ofNat cs.length))]) (W := 1) (w114 hw) (w115 hw) (fun s' hZ' => notFace_of_selects (args := #[]) (mvT hZ' (w117 hw))) (w117 hw) (w116 hw) (w6 hw) (w118 hw) (by decide) e1 (rm_coder C.l Z a0 hw a h n0 Ds own_cs e2) rfl (lenOf pd0 rfl) rfl rfl d17_6 (by decide) (by decide) (by decide) (by decide) rfl)
  replace R := R.ishr (pc' := 10) d17_9 rfl
  replace R := R.stk (congrArg (fun z => ([Value.int z] : List Value)) (own_shr0 (Int32.ofNat cs.length)))
  exact R.retI (Ds' := Ds) hret d17_10 (by decide) (by decide) (fun _ q => q) ⟨rfl, rfl, rfl⟩
theorem rm_pci (l : Launch) (Z : State) (a0 : Array Value) (hw : HW a0 Z) (p0 p1 : Int32) (fm : Value) (h : Heap) (n0 : Nat) (Ds : List Addr) (hfm : fm.isRef = true) (hp : ¬ p0 < 0 ∧ p0 < p1) :
    Ctr l Z (⟨"jdk/internal/util/Preconditions", "checkIndex", "(IILjava/util/function/BiFunction;)I"⟩ : MethodName) jdk_41_method_11_code 3 (some .int) [] (rmo 0 0 0 0) #[.int p0, .int p1, fm] h n0 Ds (fun v h' Ds' => v = some (.int p0) ∧ h = h' ∧ Ds = Ds') := by
  refine ctr_of (Ls := #[.val (.int p0), .val (.int p1), .val fm]) (plainFor_of_name pn1) (fun mm => by rcases ref_cases hfm with rfl | ⟨_, rfl⟩ <;> first | (simp [entryFrame, mkF, argsToLocals, Value.category]; done) | rfl) ?_
  intro C hl hret hnm R
  subst hl
  replace R := (((((R.iloadN (pc' := 1) d51_0 rfl rfl).ifN (pc' := 4) d51_1 (flt hp.1).1 rfl).iloadN (pc' := 5) d51_4 rfl rfl).iloadN (pc' := 6) d51_5 rfl rfl).icmpY (pc' := 16) d51_6 (tlt hp.2).1 (by decide) rfl).iloadN (pc' := 17) d51_16 rfl rfl
  exact R.retI (Ds' := Ds) hret d51_17 (by decide) (by decide) (fun _ q => q) ⟨rfl, rfl, rfl⟩
theorem rm_ci (l : Launch) (Z : State) (a0 : Array Value) (hw : HW a0 Z) (p0 p1 : Int32) (h : Heap) (n0 : Nat) (Ds : List Addr) (own_si : SiooOk Z) (hp : ¬ p0 < 0 ∧ p0 < p1) :
    Ctr l Z (⟨"java/lang/String", "checkIndex", "(II)V"⟩ : MethodName) jdk_42_method_155_code 2 none [] (rmo 1 0 0 14) #[.int p0, .int p1] h n0 Ds (fun v h' Ds' => v = none ∧ h = h' ∧ Ds = Ds') := by
  refine ctr_of (Ls := #[.val (.int p0), .val (.int p1)]) (plainFor_of_name pn0) (fun m => by first | (simp [entryFrame, mkF, argsToLocals, Value.category]; done) | rfl) ?_
  intro C hl hret hnm R
  subst hl
  obtain ⟨fm, S_fm, hfm⟩ := id own_si
  replace R := ((R.iloadN (pc' := 1) d50_0 rfl rfl).iloadN (pc' := 2) d50_1 rfl rfl).getS (pc' := 5) (host := "") (Or.inl (w298 hw)) Via.refl S_fm d50_2 rfl
  replace R := own_pure (R.callS (pc' := 8) (argsL := [(.int p0), (.int p1), fm]) (rest := []) (W := 0) (w300 hw) (w301 hw) (w299 hw) (w302 hw) (by decide) (rm_pci C.l Z a0 hw p0 p1 fm h n0 Ds hfm hp) rfl (lenOf pd1 rfl) rfl rfl d50_5 (by decide) (by decide) (by decide) (by decide) rfl)
  replace R := R.pop (pc' := 9) d50_8 rfl rfl
  exact R.retV (Ds' := Ds) hret d50_9 (by decide) (by decide) (fun _ q => q) ⟨rfl, rfl, rfl⟩
theorem rm_lch (l : Launch) (Z : State) (a0 : Array Value) (hw : HW a0 Z) (t : Addr) (p0 : Int32) (h : Heap) (n0 : Nat) (Ds : List Addr) (own_si : SiooOk Z) {cs : List Int32} {k : Nat} (hk : p0 = Int32.ofNat k) (hkl : k < cs.length) {kb : ClassId} (hl : cs.length ≤ 4000) (hok : ∀ c ∈ cs, ¬ c < 0 ∧ ¬ (255 : Int32) < c) (V_t : Arv Z h t kb .byte (Int32.ofNat cs.length) (bytesOfCs cs) (.int 0)) :
    Ctr l Z (⟨"java/lang/StringLatin1", "charAt", "([BI)C"⟩ : MethodName) jdk_43_method_2_code 2 (some .char) [] (rmo 2 0 0 27) #[.ref t, .int p0] h n0 Ds (fun v h' Ds' => v = some (.int (cs.getD k 0)) ∧ h = h' ∧ Ds = Ds') := by
  refine ctr_of (Ls := #[.val (.ref t), .val (.int p0)]) (plainFor_of_name pn2) (fun m => by first | (simp [entryFrame, mkF, argsToLocals, Value.category]; done) | rfl) ?_
  intro C hl hret hnm R
  subst hl
  have hp : ¬ p0 < 0 ∧ p0 < Int32.ofNat cs.length := by rw [hk]; exact own_j hl hkl
  replace R := ((R.iloadN (pc' := 1) d49_0 rfl rfl).aloadN (pc' := 2) (v := (.ref t)) d49_1 rfl rfl rfl).arraylength (pc' := 3) V_t d49_2 rfl
  replace R := own_pure0 (R.callS (pc' := 6) (argsL := [(.int p0), (.int (Int32.ofNat cs.length))]) (rest := []) (W := 0) (w295 hw) (w296 hw) (w6 hw) (w297 hw) (by decide) (rm_ci C.l Z a0 hw p0 (Int32.ofNat cs.length) h n0 Ds own_si hp) rfl (lenOf pd2 rfl) rfl rfl d49_3 (by decide) (by decide) (by decide) (by decide) rfl)
  replace R := (((((R.aloadN (pc' := 7) (v := (.ref t)) d49_6 rfl rfl rfl).iloadN (pc' := 8) d49_7 rfl rfl).baload (pc' := 9) (v := .int (cs.getD k 0).toInt8.toInt32) V_t hp (by rw [hk]; exact own_bget hl hkl) d49_8 rfl).sipush (pc' := 12) (z := (255 : Int32)) d49_9 rfl rfl).iand (pc' := 13) d49_12 rfl).i2c (pc' := 14) d49_13 rfl
  have hb := own_getD hkl hok
  replace R := R.stk (congrArg (fun z => ([Value.int z] : List Value)) (own_b2c hb))
  exact R.retN (Ds' := Ds) hret (by simp) (show nar .char (cs.getD k 0) = (cs.getD k 0) from nar_of hb) d49_14 (by decide) (by decide) (fun _ q => q) ⟨rfl, rfl, rfl⟩
theorem rm_charAt (l : Launch) (Z : State) (a0 : Array Value) (hw : HW a0 Z) (a : Addr) (p0 : Int32) (h : Heap) (n0 : Nat) (Ds : List Addr) (own_cs : CompactOn Z) (own_si : SiooOk Z) {cs : List Int32} {k : Nat} (hk : p0 = Int32.ofNat k) (hkl : k < cs.length) (S_a : IsStr Z h a cs) :
    Ctr l Z (⟨"java/lang/String", "charAt", "(I)C"⟩ : MethodName) jdk_42_method_56_code 2 (some .char) [] (rmo 3 0 0 40) #[.ref a, .int p0] h n0 Ds (fun v h' Ds' => v = some (.int (cs.getD k 0)) ∧ h = h' ∧ Ds = Ds') := by
  refine ctr_of (Ls := #[.val (.ref a), .val (.int p0)]) (plainFor_of_name pn0) (fun m => by first | (simp [entryFrame, mkF, argsToLocals, Value.category]; done) | rfl) ?_
  intro C hl hret hnm R
  subst hl
  obtain ⟨e1, e2, e3, e4, t, kb, e5, e6⟩ := S_a
  replace R := R.aloadN (pc' := 1) (v := (.ref a)) d47_0 rfl rfl rfl
  replace R := own_pure (R.callV (pc' := 4) (y := (⟨"java/lang/String", "isLatin1", "()Z"⟩ : MethodName)) (z := (⟨"java/lang/String", "isLatin1", "()Z"⟩ : MethodName)) (argsL := []) (rest := []) (W := 0) (w287 hw) (w288 hw) (fun s' hZ' => notFace_of_selects (args := #[]) (mvT hZ' (w290 hw))) (w290 hw) (w289 hw) (w6 hw) (w291 hw) (by decide) e1 (rm_isLatin1 C.l Z a0 hw a h n0 Ds own_cs e2) rfl (lenOf pd3 rfl) rfl rfl d47_1 (by decide) (by decide) (by decide) (by decide) rfl)
  replace R := (((R.ifN (pc' := 7) d47_4 (feq (by decide : ¬ ((1 : Int32) = (0 : Int32)))).1 rfl).aloadN (pc' := 8) (v := (.ref a)) d47_7 rfl rfl rfl).getF (pc' := 11) (host := "") (Or.inl (w26 hw)) Via.refl e5 d47_8 rfl).iloadN (pc' := 12) d47_11 rfl rfl
  replace R := own_pure (R.callS (pc' := 15) (argsL := [(.ref t), (.int p0)]) (rest := []) (W := 0) (w292 hw) (w293 hw) (w11 hw) (w294 hw) (by decide) (rm_lch C.l Z a0 hw t p0 h n0 Ds own_si hk hkl e4 e3 e6) rfl (lenOf pd4 rfl) rfl rfl d47_12 (by decide) (by decide) (by decide) (by decide) rfl)
  have hb := own_getD hkl e3
  exact R.retN (Ds' := Ds) hret (by simp) (show nar .char (cs.getD k 0) = (cs.getD k 0) from nar_of hb) d47_15 (by decide) (by decide) (fun _ q => q) ⟨rfl, rfl, rfl⟩
theorem rm_gb (l : Launch) (Z : State) (a0 : Array Value) (hw : HW a0 Z) (s : Addr) (h : Heap) (n0 : Nat) (Ds : List Addr) (own_cs : CompactOn Z) {vb : Addr} {kb : ClassId} {vd : List Value} {cap : Nat} (hcap : cap ≤ 100) (hvl : vd.length = cap) (hvb : vb ∈ Ds) (V_b : Arv Z h vb kb .byte (Int32.ofNat cap) vd (.int 0)) {ds : List Int32} (S_s : IsStr Z h s ds) {n : Nat} (hn : n + ds.length ≤ cap) :
    Ctr l Z (⟨"java/lang/String", "getBytes", "([BIB)V"⟩ : MethodName) jdk_42_method_147_code 4 none [] (rmo 1 0 0 80) #[.ref s, .ref vb, .int (Int32.ofNat n), .int (0 : Int32)] h n0 Ds (fun v h' Ds' => v = none ∧ Keep h h' [vb] ∧ Arv Z h' vb kb .byte (Int32.ofNat cap) (vd.take n ++ bytesOfCs ds ++ vd.drop (n + ds.length)) (.int 0) ∧ Ds = Ds') := by
  refine ctr_of (Ls := #[.val (.ref s), .val (.ref vb), .val (.int (Int32.ofNat n)), .val (.int (0 : Int32))]) (plainFor_of_name pn0) (fun m => by first | (simp [entryFrame, mkF, argsToLocals, Value.category]; done) | rfl) ?_
  intro C hl hret hnm R
  subst hl
  obtain ⟨e1, e2, e3, e4, t, kt, e5, e6⟩ := id S_s
  replace R := R.aloadN (pc' := 1) (v := (.ref s)) d22_0 rfl rfl rfl
  replace R := own_pure (R.callV (pc' := 4) (y := (⟨"java/lang/String", "coder", "()B"⟩ : MethodName)) (z := (⟨"java/lang/String", "coder", "()B"⟩ : MethodName)) (argsL := []) (rest := []) (W := 0) (w114 hw) (w115 hw) (fun s' hZ' => notFace_of_selects (args := #[]) (mvT hZ' (w117 hw))) (w117 hw) (w116 hw) (w6 hw) (w118 hw) (by decide) e1 (rm_coder C.l Z a0 hw s h n0 Ds own_cs e2) rfl (lenOf pd0 rfl) rfl rfl d22_1 (by decide) (by decide) (by decide) (by decide) rfl)
  replace R := (((((R.iloadN (pc' := 5) d22_4 rfl rfl).icmpN (pc' := 8) d22_5 (teq (by decide : (0 : Int32) = (0 : Int32))).2 rfl).aloadN (pc' := 9) (v := (.ref s)) d22_8 rfl rfl rfl).getF (pc' := 12) (host := "") (Or.inl (w26 hw)) Via.refl e5 d22_9 rfl).iconst (pc' := 13) (z := (0 : Int32)) d22_12 rfl rfl).aloadN (pc' := 14) (v := (.ref vb)) d22_13 rfl rfl rfl
  replace R := ((R.iloadN (pc' := 15) d22_14 rfl rfl).iloadN (pc' := 16) d22_15 rfl rfl).ishl (pc' := 17) d22_16 rfl
  replace R := R.stk (congrArg (fun z => ([Value.int z, (.ref vb), (.int (0 : Int32)), (.ref t)] : List Value)) (own_shl0 _))
  replace R := ((R.aloadN (pc' := 18) (v := (.ref s)) d22_17 rfl rfl rfl).getF (pc' := 21) (host := "") (Or.inl (w26 hw)) Via.refl e5 d22_18 rfl).arraylength (pc' := 22) e6 d22_21 rfl
  obtain ⟨h1, K1, V1, R⟩ := R.copyB (pc' := 25) (W := 0) (us := bytesOfCs ds) (w142 hw) (w145 hw) (w143 hw) (w144 hw) e6 V_b rfl (by decide) (nn0 (by omega)) (nn0 (by omega)) (by rw [own_clamp (by omega)]; exact Nat.le_of_eq (Nat.zero_add _)) (by rw [own_clamp (by omega), own_clamp (by omega), own_clamp (by omega)]; omega) (hus_all _ _ (by omega) (bytes_len ds)) (by rw [own_clamp (by omega), own_clamp (by omega)]; omega) hvb rfl d22_22 (by decide) rfl (by decide) rfl
  rw [own_clamp (k := n) (by omega), own_clamp (k := ds.length) (by omega)] at V1
  replace R := R.goto (pc' := 43) d22_25 (by decide) rfl
  have hK := ((Keep.refl h [vb]).trans K1 (allS (Or.inl (List.mem_of_getElem? (i := 0) rfl)) all0))
  exact R.retV (Ds' := Ds) hret d22_43 (by decide) (by decide) (fun _ q => q) ⟨rfl, hK, V1, rfl⟩
theorem rm_inf (l : Launch) (Z : State) (a0 : Array Value) (hw : HW a0 Z) (a s : Addr) (h : Heap) (n0 : Nat) (Ds : List Addr) (own_cs : CompactOn Z) (E_a : Exa Z h a "java/lang/StringBuilder") (F_coder : Fld Z h a "java/lang/AbstractStringBuilder" "coder" "B" (.int (0 : Int32))) {ds : List Int32} (S_s : IsStr Z h s ds) :
    Ctr l Z (⟨"java/lang/AbstractStringBuilder", "inflateIfNeededFor", "(Ljava/lang/String;)V"⟩ : MethodName) jdk_68_method_71_code 2 none [] (rmo 1 0 0 13) #[.ref a, .ref s] h n0 Ds (fun v h' Ds' => v = none ∧ h = h' ∧ Ds = Ds') := by
  refine ctr_of (Ls := #[.val (.ref a), .val (.ref s)]) (plainFor_of_name pn3) (fun m => by first | (simp [entryFrame, mkF, argsToLocals, Value.category]; done) | rfl) ?_
  intro C hl hret hnm R
  subst hl
  obtain ⟨zc, S_zc, hzc⟩ := id own_cs
  obtain ⟨e1, e2, e3, e4, t, kt, e5, e6⟩ := id S_s
  replace R := ((((R.getS (pc' := 3) (host := "") (Or.inl (w94 hw)) Via.refl S_zc d21_0 rfl).ifN (pc' := 6) d21_3 (feq hzc).1 rfl).aloadN (pc' := 7) (v := (.ref a)) d21_6 rfl rfl rfl).getF (pc' := 10) (host := "") (Or.inl (w97 hw)) Via.refl F_coder d21_7 rfl).aloadN (pc' := 11) (v := (.ref s)) d21_10 rfl rfl rfl
  replace R := own_pure (R.callV (pc' := 14) (y := (⟨"java/lang/String", "coder", "()B"⟩ : MethodName)) (z := (⟨"java/lang/String", "coder", "()B"⟩ : MethodName)) (argsL := []) (rest := [(.int (0 : Int32))]) (W := 1) (w136 hw) (w115 hw) (fun s' hZ' => notFace_of_selects (args := #[]) (mvT hZ' (w117 hw))) (w117 hw) (w116 hw) (w6 hw) (w118 hw) (by decide) e1 (rm_coder C.l Z a0 hw s h n0 Ds own_cs e2) rfl (lenOf pd0 rfl) rfl rfl d21_11 (by decide) (by decide) (by decide) (by decide) rfl)
  replace R := R.icmpY (pc' := 21) d21_14 (teq (by decide : (0 : Int32) = (0 : Int32))).1 (by decide) rfl
  exact R.retV (Ds' := Ds) hret d21_21 (by decide) (by decide) (fun _ q => q) ⟨rfl, rfl, rfl⟩
theorem rm_ps (l : Launch) (Z : State) (a0 : Array Value) (hw : HW a0 Z) (a s : Addr) (h : Heap) (n0 : Nat) (Ds : List Addr) (own_cs : CompactOn Z) {vb : Addr} {kb : ClassId} {vd : List Value} {cap : Nat} (hcap : cap ≤ 100) (hvl : vd.length = cap) (hvb : vb ∈ Ds) (V_b : Arv Z h vb kb .byte (Int32.ofNat cap) vd (.int 0)) (E_a : Exa Z h a "java/lang/StringBuilder") (F_value : Fld Z h a "java/lang/AbstractStringBuilder" "value" "[B" (.ref vb)) (F_coder : Fld Z h a "java/lang/AbstractStringBuilder" "coder" "B" (.int (0 : Int32))) {ds : List Int32} (S_s : IsStr Z h s ds) {n : Nat} (hn : n + ds.length ≤ cap) :
    Ctr l Z (⟨"java/lang/AbstractStringBuilder", "putStringAt", "(ILjava/lang/String;)V"⟩ : MethodName) jdk_68_method_73_code 3 none [] (rmo 2 0 0 95) #[.ref a, .int (Int32.ofNat n), .ref s] h n0 Ds (fun v h' Ds' => v = none ∧ Keep h h' [vb] ∧ Arv Z h' vb kb .byte (Int32.ofNat cap) (vd.take n ++ bytesOfCs ds ++ vd.drop (n + ds.length)) (.int 0) ∧ Ds = Ds') := by
  refine ctr_of (Ls := #[.val (.ref a), .val (.int (Int32.ofNat n)), .val (.ref s)]) (plainFor_of_name pn3) (fun m => by first | (simp [entryFrame, mkF, argsToLocals, Value.category]; done) | rfl) ?_
  intro C hl hret hnm R
  subst hl
  replace R := (R.aloadN (pc' := 1) (v := (.ref a)) d20_0 rfl rfl rfl).aloadN (pc' := 2) (v := (.ref s)) d20_1 rfl rfl rfl
  replace R := own_pure0 (R.callV (pc' := 5) (y := (⟨"java/lang/AbstractStringBuilder", "inflateIfNeededFor", "(Ljava/lang/String;)V"⟩ : MethodName)) (z := (⟨"java/lang/AbstractStringBuilder", "inflateIfNeededFor", "(Ljava/lang/String;)V"⟩ : MethodName)) (argsL := [(.ref s)]) (rest := []) (W := 0) (w131 hw) (own_decl (w132 hw) (w135 hw)) (fun s' hZ' => notFace_of_selects (args := #[]) (mvT hZ' (w134 hw))) (w134 hw) (w132 hw) (w91 hw) (w135 hw) (by decide) E_a (rm_inf C.l Z a0 hw a s h n0 Ds own_cs E_a F_coder S_s) rfl (lenOf pd5 rfl) rfl rfl d20_2 (by decide) (by decide) (by decide) (by decide) rfl)
  replace R := (((((R.aloadN (pc' := 6) (v := (.ref s)) d20_5 rfl rfl rfl).aloadN (pc' := 7) (v := (.ref a)) d20_6 rfl rfl rfl).getF (pc' := 10) (host := "") (Or.inl (w95 hw)) Via.refl F_value d20_7 rfl).iloadN (pc' := 11) d20_10 rfl rfl).aloadN (pc' := 12) (v := (.ref a)) d20_11 rfl rfl rfl).getF (pc' := 15) (host := "") (Or.inl (w97 hw)) Via.refl F_coder d20_12 rfl
  obtain ⟨_, h1, _, ⟨rfl, K1, V1, rfl⟩, R⟩ := R.callV (pc' := 18) (y := (⟨"java/lang/String", "getBytes", "([BIB)V"⟩ : MethodName)) (z := (⟨"java/lang/String", "getBytes", "([BIB)V"⟩ : MethodName)) (argsL := [(.ref vb), (.int (Int32.ofNat n)), (.int (0 : Int32))]) (rest := []) (W := 0) (w137 hw) (w138 hw) (fun s' hZ' => notFace_of_selects (args := #[]) (mvT hZ' (w140 hw))) (w140 hw) (w139 hw) (w6 hw) (w141 hw) (by decide) S_s.1 (rm_gb C.l Z a0 hw s h n0 Ds own_cs hcap hvl hvb V_b S_s hn) rfl (lenOf pd6 rfl) rfl rfl d20_15 (by decide) (by decide) (by decide) (by decide) rfl
  replace R := (R.mono (ce' := 0) (sl' := 0) (by decide) (by decide)).stk (S' := []) rfl
  have hK := ((Keep.refl h [vb]).trans K1 (allS (Or.inl (List.mem_of_getElem? (i := 0) rfl)) all0))
  exact R.retV (Ds' := Ds) hret d20_18 (by decide) (by decide) (fun _ q => q) ⟨rfl, hK, V1, rfl⟩
theorem rm_ec (l : Launch) (Z : State) (a0 : Array Value) (hw : HW a0 Z) (a : Addr) (h : Heap) (n0 : Nat) (Ds : List Addr) {vb : Addr} {kb : ClassId} {vd : List Value} {cap : Nat} (hcap : cap ≤ 100) (hvl : vd.length = cap) (hvb : vb ∈ Ds) (V_b : Arv Z h vb kb .byte (Int32.ofNat cap) vd (.int 0)) (E_a : Exa Z h a "java/lang/StringBuilder") (F_value : Fld Z h a "java/lang/AbstractStringBuilder" "value" "[B" (.ref vb)) (F_coder : Fld Z h a "java/lang/AbstractStringBuilder" "coder" "B" (.int (0 : Int32))) {N : Nat} (hN : N ≤ cap) :
    Ctr l Z (⟨"java/lang/AbstractStringBuilder", "ensureCapacityInternal", "(I)V"⟩ : MethodName) jdk_68_method_9_code 3 none [] (rmo 0 0 0 0) #[.ref a, .int (Int32.ofNat N)] h n0 Ds (fun v h' Ds' => v = none ∧ h = h' ∧ Ds = Ds') := by
  refine ctr_of (Ls := #[.val (.ref a), .val (.int (Int32.ofNat N)), .unset]) (plainFor_of_name pn3) (fun m => by first | (simp [entryFrame, mkF, argsToLocals, Value.category]; done) | rfl) ?_
  intro C hl hret hnm R
  subst hl
  replace R := (((((R.aloadN (pc' := 1) (v := (.ref a)) d19_0 rfl rfl rfl).getF (pc' := 4) (host := "") (Or.inl (w95 hw)) Via.refl F_value d19_1 rfl).arraylength (pc' := 5) V_b d19_4 rfl).aloadN (pc' := 6) (v := (.ref a)) d19_5 rfl rfl rfl).getF (pc' := 9) (host := "") (Or.inl (w97 hw)) Via.refl F_coder d19_6 rfl).ishr (pc' := 10) d19_9 rfl
  replace R := R.stk (congrArg (fun z => ([Value.int z] : List Value)) (own_shr0 _))
  replace R := ((((R.istoreN (pc' := 11) (l' := #[.val (.ref a), .val (.int (Int32.ofNat N)), .val (.int (Int32.ofNat cap))]) d19_10 rfl rfl).iloadN (pc' := 12) d19_11 rfl rfl).iloadN (pc' := 13) d19_12 rfl rfl).isub (pc' := 14) d19_13 rfl).ifY (pc' := 38) d19_14 (flt (own_fit hN (by omega))).2.2.2 (by decide) rfl
  exact R.retV (Ds' := Ds) hret d19_38 (by decide) (by decide) (fun _ q => q) ⟨rfl, rfl, rfl⟩
theorem rm_min1634 (l : Launch) (Z : State) (a0 : Array Value) (hw : HW a0 Z) (h : Heap) (n0 : Nat) (Ds : List Addr) :
    Ctr l Z (⟨"java/lang/Math", "min", "(II)I"⟩ : MethodName) jdk_29_method_69_code 2 (some .int) [] (rmo 0 0 0 0) #[.int (16 : Int32), .int (34 : Int32)] h n0 Ds (fun v h' Ds' => v = some (.int (16 : Int32)) ∧ h = h' ∧ Ds = Ds') := by
  refine ctr_of (Ls := #[.val (.int (16 : Int32)), .val (.int (34 : Int32))]) (Jvm.Free.JP.mathPlain rfl (by decide +kernel)) (fun m => by first | (simp [entryFrame, mkF, argsToLocals, Value.category]; done) | rfl) ?_
  intro C hl hret hnm R
  subst hl
  replace R := ((((R.iloadN (pc' := 1) d37_0 rfl rfl).iloadN (pc' := 2) d37_1 rfl rfl).icmpN (pc' := 5) d37_2 (flt (by decide : ¬ ((34 : Int32) < (16 : Int32)))).2.2.1 rfl).iloadN (pc' := 6) d37_5 rfl rfl).goto (pc' := 10) d37_6 (by decide) rfl
  exact R.retI (Ds' := Ds) hret d37_10 (by decide) (by decide) (fun _ q => q) ⟨rfl, rfl, rfl⟩
theorem rm_co (l : Launch) (Z : State) (a0 : Array Value) (hw : HW a0 Z) (h : Heap) (n0 : Nat) (Ds : List Addr) {vb : Addr} {kb : ClassId} {vd : List Value} (hvl : vd.length = 16) (V_b : Arv Z h vb kb .byte (16 : Int32) vd (.int 0)) :
    Ctr l Z (⟨"java/util/Arrays", "copyOf", "([BI)[B"⟩ : MethodName) jdk_65_method_121_code 3 (some (.array .byte)) [] (rmo 1 1 34 80) #[.ref vb, .int (34 : Int32)] h n0 Ds (fun v h' Ds' => ∃ (r : Addr) (kr : ClassId), v = some (.ref r) ∧ Keep h h' [] ∧ r = h.size ∧ Arv Z h' r kr .byte (34 : Int32) (vd ++ z18) (.int 0) ∧ r :: Ds = Ds') := by
  refine ctr_of (Ls := #[.val (.ref vb), .val (.int (34 : Int32)), .unset]) (plainFor_of_name pn4) (fun m => by first | (simp [entryFrame, mkF, argsToLocals, Value.category]; done) | rfl) ?_
  intro C hl hret hnm R
  subst hl
  have hlt : vb < h.size := V_b.lt
  replace R := ((((R.iloadN (pc' := 1) d59_0 rfl rfl).aloadN (pc' := 2) (v := (.ref vb)) d59_1 rfl rfl rfl).arraylength (pc' := 3) V_b d59_2 rfl).icmpY (pc' := 14) d59_3 (feq (by decide : ¬ ((34 : Int32) = (16 : Int32)))).2 (by decide) rfl).iloadN (pc' := 15) d59_14 rfl rfl
  obtain ⟨h1, b1, k1, g1, E1, V1, R⟩ := R.newP (pc' := 17) (aty := .byte) (cap := 34) (w18 hw) d59_15 (by decide) (by decide) (by decide) (by decide) (by decide) rfl
  have V1p : Arv Z h1 b1 k1 .byte (34 : Int32) [(.int (0 : Int32)), (.int (0 : Int32)), (.int (0 : Int32)), (.int (0 : Int32)), (.int (0 : Int32)), (.int (0 : Int32)), (.int (0 : Int32)), (.int (0 : Int32)), (.int (0 : Int32)), (.int (0 : Int32)), (.int (0 : Int32)), (.int (0 : Int32)), (.int (0 : Int32)), (.int (0 : Int32)), (.int (0 : Int32)), (.int (0 : Int32)), (.int (0 : Int32)), (.int (0 : Int32)), (.int (0 : Int32)), (.int (0 : Int32)), (.int (0 : Int32)), (.int (0 : Int32)), (.int (0 : Int32)), (.int (0 : Int32)), (.int (0 : Int32)), (.int (0 : Int32)), (.int (0 : Int32)), (.int (0 : Int32)), (.int (0 : Int32)), (.int (0 : Int32)), (.int (0 : Int32)), (.int (0 : Int32)), (.int (0 : Int32)), (.int (0 : Int32))] (.int (0 : Int32)) := V1.pad (pad_rep [] (.int (0 : Int32)) 34)
  replace R := (((((R.astoreN (pc' := 18) (l' := #[.val (.ref vb), .val (.int (34 : Int32)), .val (.ref b1)]) d59_17 rfl rfl rfl).aloadN (pc' := 19) (v := (.ref vb)) d59_18 rfl rfl rfl).iconst (pc' := 20) (z := (0 : Int32)) d59_19 rfl rfl).aloadN (pc' := 21) (v := (.ref b1)) d59_20 rfl rfl rfl).iconst (pc' := 22) (z := (0 : Int32)) d59_21 rfl rfl).aloadN (pc' := 23) (v := (.ref vb)) d59_22 rfl rfl rfl
  have K2 := ((Keep.refl h []).trans ((Keep.refl h []).ext E1) all0)
  have F3 := V_b.keep K2 nin0
  replace R := (R.arraylength (pc' := 24) F3 d59_23 rfl).iloadN (pc' := 25) d59_24 rfl rfl
  replace R := own_pure (R.callS (pc' := 28) (argsL := [(.int (16 : Int32)), (.int (34 : Int32))]) (rest := [(.int (0 : Int32)), (.ref b1), (.int (0 : Int32)), (.ref vb)]) (W := 4) (w206 hw) (w207 hw) (w208 hw) (w209 hw) (by decide) (rm_min1634 C.l Z a0 hw h1 n0 (b1 :: Ds)) rfl (lenOf pd7 rfl) rfl rfl d59_25 (by decide) (by decide) (by decide) (by decide) rfl)
  obtain ⟨h9, K9, V9, R⟩ := R.copyB (nn := Int32.ofNat 16) (pc' := 31) (W := 0) (us := vd) (w210 hw) (w145 hw) (w143 hw) (w144 hw) F3 V1p rfl (by decide) (by decide) (by decide) (by decide) (by decide) (hus_all _ _ (by omega) hvl) (Nat.le_of_ble_eq_true rfl) (List.mem_of_getElem? (i := 0) rfl) rfl d59_28 (by decide) rfl (by decide) rfl
  have V9p : Arv Z h9 b1 k1 .byte (34 : Int32) (vd ++ z18) (.int 0) := V9
  replace R := R.aloadN (pc' := 32) (v := (.ref b1)) d59_31 rfl rfl rfl
  have hK := (((Keep.refl h []).trans ((Keep.refl h []).ext E1) all0).trans K9 (allS (Or.inr (by rw [g1]; exact (Nat.le_refl _))) all0))
  exact R.retA (Ds' := b1 :: Ds) hret rfl rfl rfl d59_32 (by decide) (by decide) (fun _ q => q) ⟨b1, _, rfl, hK, g1, V9p, rfl⟩
theorem rm_max17 (l : Launch) (Z : State) (a0 : Array Value) (hw : HW a0 Z) (h : Heap) (n0 : Nat) (Ds : List Addr) :
    Ctr l Z (⟨"java/lang/Math", "max", "(II)I"⟩ : MethodName) jdk_29_method_65_code 2 (some .int) [] (rmo 0 0 0 0) #[.int (1 : Int32), .int (18 : Int32)] h n0 Ds (fun v h' Ds' => v = some (.int (18 : Int32)) ∧ h = h' ∧ Ds = Ds') := by
  refine ctr_of (Ls := #[.val (.int (1 : Int32)), .val (.int (18 : Int32))]) (Jvm.Free.JP.mathPlain rfl (by decide +kernel)) (fun m => by first | (simp [entryFrame, mkF, argsToLocals, Value.category]; done) | rfl) ?_
  intro C hl hret hnm R
  subst hl
  replace R := (((R.iloadN (pc' := 1) d58_0 rfl rfl).iloadN (pc' := 2) d58_1 rfl rfl).icmpY (pc' := 9) d58_2 (tlt (by decide : (1 : Int32) < (18 : Int32))).1 (by decide) rfl).iloadN (pc' := 10) d58_9 rfl rfl
  exact R.retI (Ds' := Ds) hret d58_10 (by decide) (by decide) (fun _ q => q) ⟨rfl, rfl, rfl⟩
theorem rm_nl17 (l : Launch) (Z : State) (a0 : Array Value) (hw : HW a0 Z) (h : Heap) (n0 : Nat) (Ds : List Addr) :
    Ctr l Z (⟨"jdk/internal/util/ArraysSupport", "newLength", "(III)I"⟩ : MethodName) jdk_48_method_27_code 4 (some .int) [] (rmo 1 0 0 14) #[.int (16 : Int32), .int (1 : Int32), .int (18 : Int32)] h n0 Ds (fun v h' Ds' => v = some (.int (34 : Int32)) ∧ h = h' ∧ Ds = Ds') := by
  refine ctr_of (Ls := #[.val (.int (16 : Int32)), .val (.int (1 : Int32)), .val (.int (18 : Int32)), .unset]) (plainFor_of_name pn5) (fun m => by first | (simp [entryFrame, mkF, argsToLocals, Value.category]; done) | rfl) ?_
  intro C hl hret hnm R
  subst hl
  replace R := ((R.iloadN (pc' := 1) d57_0 rfl rfl).iloadN (pc' := 2) d57_1 rfl rfl).iloadN (pc' := 3) d57_2 rfl rfl
  replace R := own_pure (R.callS (pc' := 6) (argsL := [(.int (1 : Int32)), (.int (18 : Int32))]) (rest := [(.int (16 : Int32))]) (W := 1) (w343 hw) (w344 hw) (w208 hw) (w345 hw) (by decide) (rm_max17 C.l Z a0 hw h n0 Ds) rfl (lenOf pd7 rfl) rfl rfl d57_3 (by decide) (by decide) (by decide) (by decide) rfl)
  replace R := (((((R.iadd (pc' := 7) d57_6 rfl).stk (S' := [(.int (34 : Int32))]) rfl).istoreN (pc' := 8) (l' := #[.val (.int (16 : Int32)), .val (.int (1 : Int32)), .val (.int (18 : Int32)), .val (.int (34 : Int32))]) d57_7 rfl rfl).iconst (pc' := 9) (z := (0 : Int32)) d57_8 rfl rfl).iloadN (pc' := 10) d57_9 rfl rfl).icmpN (pc' := 13) d57_10 (tlt (by decide : (0 : Int32) < (34 : Int32))).2.1 rfl
  replace R := (((R.iloadN (pc' := 14) d57_13 rfl rfl).ldcI (pc' := 16) (w346 hw) d57_14 rfl).icmpN (pc' := 19) d57_16 (flt (by decide : ¬ ((2147483639 : Int32) < (34 : Int32)))).2.2.1 rfl).iloadN (pc' := 20) d57_19 rfl rfl
  exact R.retI (Ds' := Ds) hret d57_20 (by decide) (by decide) (fun _ q => q) ⟨rfl, rfl, rfl⟩
theorem rm_nc17 (l : Launch) (Z : State) (a0 : Array Value) (hw : HW a0 Z) (a : Addr) (h : Heap) (n0 : Nat) (Ds : List Addr) {vb : Addr} {kb : ClassId} {vd : List Value} (hvl : vd.length = 16) (V_b : Arv Z h vb kb .byte (16 : Int32) vd (.int 0)) (E_a : Exa Z h a "java/lang/StringBuilder") (F_value : Fld Z h a "java/lang/AbstractStringBuilder" "value" "[B" (.ref vb)) (F_coder : Fld Z h a "java/lang/AbstractStringBuilder" "coder" "B" (.int (0 : Int32))) :
    Ctr l Z (⟨"java/lang/AbstractStringBuilder", "newCapacity", "(I)I"⟩ : MethodName) jdk_68_method_10_code 6 (some .int) [] (rmo 2 0 0 29) #[.ref a, .int (17 : Int32)] h n0 Ds (fun v h' Ds' => v = some (.int (34 : Int32)) ∧ h = h' ∧ Ds = Ds') := by
  refine ctr_of (Ls := #[.val (.ref a), .val (.int (17 : Int32)), .unset, .unset, .unset, .unset]) (plainFor_of_name pn3) (fun m => by first | (simp [entryFrame, mkF, argsToLocals, Value.category]; done) | rfl) ?_
  intro C hl hret hnm R
  subst hl
  replace R := (((((R.aloadN (pc' := 1) (v := (.ref a)) d56_0 rfl rfl rfl).getF (pc' := 4) (host := "") (Or.inl (w95 hw)) Via.refl F_value d56_1 rfl).arraylength (pc' := 5) V_b d56_4 rfl).istoreN (pc' := 6) (l' := #[.val (.ref a), .val (.int (17 : Int32)), .val (.int (16 : Int32)), .unset, .unset, .unset]) d56_5 rfl rfl).iloadN (pc' := 7) d56_6 rfl rfl).aloadN (pc' := 8) (v := (.ref a)) d56_7 rfl rfl rfl
  replace R := (((((R.getF (pc' := 11) (host := "") (Or.inl (w97 hw)) Via.refl F_coder d56_8 rfl).ishl (pc' := 12) d56_11 rfl).stk (S' := [(.int (17 : Int32))]) rfl).istoreN (pc' := 13) (l' := #[.val (.ref a), .val (.int (17 : Int32)), .val (.int (16 : Int32)), .val (.int (17 : Int32)), .unset, .unset]) d56_12 rfl rfl).iloadN (pc' := 14) d56_13 rfl rfl).iloadN (pc' := 15) d56_14 rfl rfl
  replace R := (((((R.isub (pc' := 16) d56_15 rfl).stk (S' := [(.int (1 : Int32))]) rfl).istore (pc' := 18) (l' := #[.val (.ref a), .val (.int (17 : Int32)), .val (.int (16 : Int32)), .val (.int (17 : Int32)), .val (.int (1 : Int32)), .unset]) d56_16 rfl rfl).iloadN (pc' := 19) d56_18 rfl rfl).iload (pc' := 21) d56_19 rfl rfl).iloadN (pc' := 22) d56_21 rfl rfl
  replace R := (((((R.iconst (pc' := 23) (z := (2 : Int32)) d56_22 rfl rfl).aloadN (pc' := 24) (v := (.ref a)) d56_23 rfl rfl rfl).getF (pc' := 27) (host := "") (Or.inl (w97 hw)) Via.refl F_coder d56_24 rfl).ishl (pc' := 28) d56_27 rfl).stk (S' := [(.int (2 : Int32)), (.int (16 : Int32)), (.int (1 : Int32)), (.int (16 : Int32))]) rfl).iadd (pc' := 29) d56_28 rfl
  replace R := R.stk (S' := [(.int (18 : Int32)), (.int (1 : Int32)), (.int (16 : Int32))]) rfl
  replace R := own_pure (R.callS (pc' := 32) (argsL := [(.int (16 : Int32)), (.int (1 : Int32)), (.int (18 : Int32))]) (rest := []) (W := 0) (w339 hw) (w340 hw) (w341 hw) (w342 hw) (by decide) (rm_nl17 C.l Z a0 hw h n0 Ds) rfl (lenOf pd8 rfl) rfl rfl d56_29 (by decide) (by decide) (by decide) (by decide) rfl)
  replace R := (((((R.istore (pc' := 34) (l' := #[.val (.ref a), .val (.int (17 : Int32)), .val (.int (16 : Int32)), .val (.int (17 : Int32)), .val (.int (1 : Int32)), .val (.int (34 : Int32))]) d56_32 rfl rfl).iload (pc' := 36) d56_34 rfl rfl).ldcI (pc' := 38) (w347 hw) d56_36 rfl).icmpY (pc' := 51) d56_38 (feq (by decide : ¬ ((34 : Int32) = (2147483647 : Int32)))).2 (by decide) rfl).iload (pc' := 53) d56_51 rfl rfl).aloadN (pc' := 54) (v := (.ref a)) d56_53 rfl rfl rfl
  replace R := ((R.getF (pc' := 57) (host := "") (Or.inl (w97 hw)) Via.refl F_coder d56_54 rfl).ishr (pc' := 58) d56_57 rfl).stk (S' := [(.int (34 : Int32))]) rfl
  exact R.retI (Ds' := Ds) hret d56_58 (by decide) (by decide) (fun _ q => q) ⟨rfl, rfl, rfl⟩
theorem rm_eg17 (l : Launch) (Z : State) (a0 : Array Value) (hw : HW a0 Z) (a : Addr) (h : Heap) (n0 : Nat) (Ds : List Addr) {vb : Addr} {kb : ClassId} {vd : List Value} (hvl : vd.length = 16) (V_b : Arv Z h vb kb .byte (16 : Int32) vd (.int 0)) (ha : a ∈ Ds) (nab : a ≠ vb) (E_a : Exa Z h a "java/lang/StringBuilder") (F_value : Fld Z h a "java/lang/AbstractStringBuilder" "value" "[B" (.ref vb)) (F_coder : Fld Z h a "java/lang/AbstractStringBuilder" "coder" "B" (.int (0 : Int32))) {cn : Int32} (F_count : Fld Z h a "java/lang/AbstractStringBuilder" "count" "I" (.int cn)) :
    Ctr l Z (⟨"java/lang/AbstractStringBuilder", "ensureCapacityInternal", "(I)V"⟩ : MethodName) jdk_68_method_9_code 3 none [] (rmo 3 1 34 95) #[.ref a, .int (17 : Int32)] h n0 Ds (fun v h' Ds' => ∃ (r : Addr) (kr : ClassId), v = none ∧ Keep h h' [a] ∧ r = h.size ∧ a ≠ r ∧ Exa Z h' a "java/lang/StringBuilder" ∧ Fld Z h' a "java/lang/AbstractStringBuilder" "value" "[B" (.ref r) ∧ Fld Z h' a "java/lang/AbstractStringBuilder" "coder" "B" (.int (0 : Int32)) ∧ Fld Z h' a "java/lang/AbstractStringBuilder" "count" "I" (.int cn) ∧ Arv Z h' r kr .byte (34 : Int32) (vd ++ z18) (.int 0) ∧ r :: Ds = Ds') := by
  refine ctr_of (Ls := #[.val (.ref a), .val (.int (17 : Int32)), .unset]) (plainFor_of_name pn3) (fun m => by first | (simp [entryFrame, mkF, argsToLocals, Value.category]; done) | rfl) ?_
  intro C hl hret hnm R
  subst hl
  replace R := (((((R.aloadN (pc' := 1) (v := (.ref a)) d19_0 rfl rfl rfl).getF (pc' := 4) (host := "") (Or.inl (w95 hw)) Via.refl F_value d19_1 rfl).arraylength (pc' := 5) V_b d19_4 rfl).aloadN (pc' := 6) (v := (.ref a)) d19_5 rfl rfl rfl).getF (pc' := 9) (host := "") (Or.inl (w97 hw)) Via.refl F_coder d19_6 rfl).ishr (pc' := 10) d19_9 rfl
  replace R := (((((R.stk (S' := [(.int (16 : Int32))]) rfl).istoreN (pc' := 11) (l' := #[.val (.ref a), .val (.int (17 : Int32)), .val (.int (16 : Int32))]) d19_10 rfl rfl).iloadN (pc' := 12) d19_11 rfl rfl).iloadN (pc' := 13) d19_12 rfl rfl).isub (pc' := 14) d19_13 rfl).stk (S' := [(.int (1 : Int32))]) rfl
  replace R := (((((R.ifN (pc' := 17) d19_14 (tlt (by decide : (0 : Int32) < (1 : Int32))).2.2.2 rfl).aloadN (pc' := 18) (v := (.ref a)) d19_17 rfl rfl rfl).aloadN (pc' := 19) (v := (.ref a)) d19_18 rfl rfl rfl).getF (pc' := 22) (host := "") (Or.inl (w95 hw)) Via.refl F_value d19_19 rfl).aloadN (pc' := 23) (v := (.ref a)) d19_22 rfl rfl rfl).iloadN (pc' := 24) d19_23 rfl rfl
  replace R := own_pure (R.callV (pc' := 27) (y := (⟨"java/lang/AbstractStringBuilder", "newCapacity", "(I)I"⟩ : MethodName)) (z := (⟨"java/lang/AbstractStringBuilder", "newCapacity", "(I)I"⟩ : MethodName)) (argsL := [(.int (17 : Int32))]) (rest := [(.ref vb), (.ref a)]) (W := 2) (w334 hw) (own_decl (w335 hw) (w338 hw)) (fun s' hZ' => notFace_of_selects (args := #[]) (mvT hZ' (w337 hw))) (w337 hw) (w335 hw) (w91 hw) (w338 hw) (by decide) E_a (rm_nc17 C.l Z a0 hw a h n0 Ds hvl V_b E_a F_value F_coder) rfl (lenOf pd9 rfl) rfl rfl d19_24 (by decide) (by decide) (by decide) (by decide) rfl)
  replace R := (((R.aloadN (pc' := 28) (v := (.ref a)) d19_27 rfl rfl rfl).getF (pc' := 31) (host := "") (Or.inl (w97 hw)) Via.refl F_coder d19_28 rfl).ishl (pc' := 32) d19_31 rfl).stk (S' := [(.int (34 : Int32)), (.ref vb), (.ref a)]) rfl
  obtain ⟨_, h1, _, ⟨r1, k1, rfl, K1, g1, V1, rfl⟩, R⟩ := R.callS (pc' := 35) (argsL := [(.ref vb), (.int (34 : Int32))]) (rest := [(.ref a)]) (W := 1) (w348 hw) (w349 hw) (w198 hw) (w350 hw) (by decide) (rm_co C.l Z a0 hw h n0 Ds hvl V_b) rfl (lenOf pd10 rfl) rfl rfl d19_32 (by decide) (by decide) (by decide) (by decide) rfl
  replace R := (R.mono (ce' := 1) (sl' := 34) (by decide) (by decide)).stk (S' := [(.ref r1), (.ref a)]) rfl
  have K2 := ((Keep.refl h []).trans K1 all0)
  have F3 := E_a.keep K2
  have nar : a ≠ r1 := Exa.neArv F3 V1 (w82 hw)
  have K4 := ((Keep.refl h []).trans K1 all0)
  have F5 := F_value.keep K4 nin0
  have K6 := ((Keep.refl h []).trans K1 all0)
  have F7 := F_coder.keep K6 nin0
  have K8 := ((Keep.refl h []).trans K1 all0)
  have F9 := F_count.keep K8 nin0
  obtain ⟨h10, W10, R⟩ := R.putF (pc' := 38) (ty := (.array .byte)) (host := "") (Or.inl (w95 hw)) Via.refl F5 F3 (Or.inl (w96 hw)) (w82 hw) (by decide) rfl rfl (List.mem_cons_of_mem _ ha) d19_35 rfl
  have F10 := F5.same W10
  have F11 := F7.other W10 (Or.inr (slot_ne (Or.inl (w98 hw)) (Or.inl (w96 hw)) (by decide) (t := .byte) (t' := (.array .byte)) (by decide) (by decide)))
  have F12 := F9.other W10 (Or.inr (slot_ne (Or.inl (w120 hw)) (Or.inl (w96 hw)) (by decide) (t := .int) (t' := (.array .byte)) (by decide) (by decide)))
  have hK := (((Keep.refl h [a]).trans K1 all0).trans (Keep.of_wr W10) (allS (Or.inl (List.mem_of_getElem? (i := 0) rfl)) all0))
  have K13 := ((Keep.refl h1 [a]).trans (Keep.of_wr W10) (allS (Or.inl (List.mem_of_getElem? (i := 0) rfl)) all0))
  have F14 := F3.keep K13
  have K15 := ((Keep.refl h1 [a]).trans (Keep.of_wr W10) (allS (Or.inl (List.mem_of_getElem? (i := 0) rfl)) all0))
  have F16 := V1.keep K15 (ninS (Ne.symm nar) nin0)
  exact R.retV (Ds' := r1 :: Ds) hret d19_38 (by decide) (by decide) (fun _ q => q) ⟨r1, _, rfl, hK, g1, nar, F14, F10, F11, F12, F16, rfl⟩
theorem rm_max18 (l : Launch) (Z : State) (a0 : Array Value) (hw : HW a0 Z) (h : Heap) (n0 : Nat) (Ds : List Addr) :
    Ctr l Z (⟨"java/lang/Math", "max", "(II)I"⟩ : MethodName) jdk_29_method_65_code 2 (some .int) [] (rmo 0 0 0 0) #[.int (2 : Int32), .int (18 : Int32)] h n0 Ds (fun v h' Ds' => v = some (.int (18 : Int32)) ∧ h = h' ∧ Ds = Ds') := by
  refine ctr_of (Ls := #[.val (.int (2 : Int32)), .val (.int (18 : Int32))]) (Jvm.Free.JP.mathPlain rfl (by decide +kernel)) (fun m => by first | (simp [entryFrame, mkF, argsToLocals, Value.category]; done) | rfl) ?_
  intro C hl hret hnm R
  subst hl
  replace R := (((R.iloadN (pc' := 1) d58_0 rfl rfl).iloadN (pc' := 2) d58_1 rfl rfl).icmpY (pc' := 9) d58_2 (tlt (by decide : (2 : Int32) < (18 : Int32))).1 (by decide) rfl).iloadN (pc' := 10) d58_9 rfl rfl
  exact R.retI (Ds' := Ds) hret d58_10 (by decide) (by decide) (fun _ q => q) ⟨rfl, rfl, rfl⟩
theorem rm_nl18 (l : Launch) (Z : State) (a0 : Array Value) (hw : HW a0 Z) (h : Heap) (n0 : Nat) (Ds : List Addr) :
    Ctr l Z (⟨"jdk/internal/util/ArraysSupport", "newLength", "(III)I"⟩ : MethodName) jdk_48_method_27_code 4 (some .int) [] (rmo 1 0 0 14) #[.int (16 : Int32), .int (2 : Int32), .int (18 : Int32)] h n0 Ds (fun v h' Ds' => v = some (.int (34 : Int32)) ∧ h = h' ∧ Ds = Ds') := by
  refine ctr_of (Ls := #[.val (.int (16 : Int32)), .val (.int (2 : Int32)), .val (.int (18 : Int32)), .unset]) (plainFor_of_name pn5) (fun m => by first | (simp [entryFrame, mkF, argsToLocals, Value.category]; done) | rfl) ?_
  intro C hl hret hnm R
  subst hl
  replace R := ((R.iloadN (pc' := 1) d57_0 rfl rfl).iloadN (pc' := 2) d57_1 rfl rfl).iloadN (pc' := 3) d57_2 rfl rfl
  replace R := own_pure (R.callS (pc' := 6) (argsL := [(.int (2 : Int32)), (.int (18 : Int32))]) (rest := [(.int (16 : Int32))]) (W := 1) (w343 hw) (w344 hw) (w208 hw) (w345 hw) (by decide) (rm_max18 C.l Z a0 hw h n0 Ds) rfl (lenOf pd7 rfl) rfl rfl d57_3 (by decide) (by decide) (by decide) (by decide) rfl)
  replace R := (((((R.iadd (pc' := 7) d57_6 rfl).stk (S' := [(.int (34 : Int32))]) rfl).istoreN (pc' := 8) (l' := #[.val (.int (16 : Int32)), .val (.int (2 : Int32)), .val (.int (18 : Int32)), .val (.int (34 : Int32))]) d57_7 rfl rfl).iconst (pc' := 9) (z := (0 : Int32)) d57_8 rfl rfl).iloadN (pc' := 10) d57_9 rfl rfl).icmpN (pc' := 13) d57_10 (tlt (by decide : (0 : Int32) < (34 : Int32))).2.1 rfl
  replace R := (((R.iloadN (pc' := 14) d57_13 rfl rfl).ldcI (pc' := 16) (w346 hw) d57_14 rfl).icmpN (pc' := 19) d57_16 (flt (by decide : ¬ ((2147483639 : Int32) < (34 : Int32)))).2.2.1 rfl).iloadN (pc' := 20) d57_19 rfl rfl
  exact R.retI (Ds' := Ds) hret d57_20 (by decide) (by decide) (fun _ q => q) ⟨rfl, rfl, rfl⟩
theorem rm_nc18 (l : Launch) (Z : State) (a0 : Array Value) (hw : HW a0 Z) (a : Addr) (h : Heap) (n0 : Nat) (Ds : List Addr) {vb : Addr} {kb : ClassId} {vd : List Value} (hvl : vd.length = 16) (V_b : Arv Z h vb kb .byte (16 : Int32) vd (.int 0)) (E_a : Exa Z h a "java/lang/StringBuilder") (F_value : Fld Z h a "java/lang/AbstractStringBuilder" "value" "[B" (.ref vb)) (F_coder : Fld Z h a "java/lang/AbstractStringBuilder" "coder" "B" (.int (0 : Int32))) :
    Ctr l Z (⟨"java/lang/AbstractStringBuilder", "newCapacity", "(I)I"⟩ : MethodName) jdk_68_method_10_code 6 (some .int) [] (rmo 2 0 0 29) #[.ref a, .int (18 : Int32)] h n0 Ds (fun v h' Ds' => v = some (.int (34 : Int32)) ∧ h = h' ∧ Ds = Ds') := by
  refine ctr_of (Ls := #[.val (.ref a), .val (.int (18 : Int32)), .unset, .unset, .unset, .unset]) (plainFor_of_name pn3) (fun m => by first | (simp [entryFrame, mkF, argsToLocals, Value.category]; done) | rfl) ?_
  intro C hl hret hnm R
  subst hl
  replace R := (((((R.aloadN (pc' := 1) (v := (.ref a)) d56_0 rfl rfl rfl).getF (pc' := 4) (host := "") (Or.inl (w95 hw)) Via.refl F_value d56_1 rfl).arraylength (pc' := 5) V_b d56_4 rfl).istoreN (pc' := 6) (l' := #[.val (.ref a), .val (.int (18 : Int32)), .val (.int (16 : Int32)), .unset, .unset, .unset]) d56_5 rfl rfl).iloadN (pc' := 7) d56_6 rfl rfl).aloadN (pc' := 8) (v := (.ref a)) d56_7 rfl rfl rfl
  replace R := (((((R.getF (pc' := 11) (host := "") (Or.inl (w97 hw)) Via.refl F_coder d56_8 rfl).ishl (pc' := 12) d56_11 rfl).stk (S' := [(.int (18 : Int32))]) rfl).istoreN (pc' := 13) (l' := #[.val (.ref a), .val (.int (18 : Int32)), .val (.int (16 : Int32)), .val (.int (18 : Int32)), .unset, .unset]) d56_12 rfl rfl).iloadN (pc' := 14) d56_13 rfl rfl).iloadN (pc' := 15) d56_14 rfl rfl
  replace R := (((((R.isub (pc' := 16) d56_15 rfl).stk (S' := [(.int (2 : Int32))]) rfl).istore (pc' := 18) (l' := #[.val (.ref a), .val (.int (18 : Int32)), .val (.int (16 : Int32)), .val (.int (18 : Int32)), .val (.int (2 : Int32)), .unset]) d56_16 rfl rfl).iloadN (pc' := 19) d56_18 rfl rfl).iload (pc' := 21) d56_19 rfl rfl).iloadN (pc' := 22) d56_21 rfl rfl
  replace R := (((((R.iconst (pc' := 23) (z := (2 : Int32)) d56_22 rfl rfl).aloadN (pc' := 24) (v := (.ref a)) d56_23 rfl rfl rfl).getF (pc' := 27) (host := "") (Or.inl (w97 hw)) Via.refl F_coder d56_24 rfl).ishl (pc' := 28) d56_27 rfl).stk (S' := [(.int (2 : Int32)), (.int (16 : Int32)), (.int (2 : Int32)), (.int (16 : Int32))]) rfl).iadd (pc' := 29) d56_28 rfl
  replace R := R.stk (S' := [(.int (18 : Int32)), (.int (2 : Int32)), (.int (16 : Int32))]) rfl
  replace R := own_pure (R.callS (pc' := 32) (argsL := [(.int (16 : Int32)), (.int (2 : Int32)), (.int (18 : Int32))]) (rest := []) (W := 0) (w339 hw) (w340 hw) (w341 hw) (w342 hw) (by decide) (rm_nl18 C.l Z a0 hw h n0 Ds) rfl (lenOf pd8 rfl) rfl rfl d56_29 (by decide) (by decide) (by decide) (by decide) rfl)
  replace R := (((((R.istore (pc' := 34) (l' := #[.val (.ref a), .val (.int (18 : Int32)), .val (.int (16 : Int32)), .val (.int (18 : Int32)), .val (.int (2 : Int32)), .val (.int (34 : Int32))]) d56_32 rfl rfl).iload (pc' := 36) d56_34 rfl rfl).ldcI (pc' := 38) (w347 hw) d56_36 rfl).icmpY (pc' := 51) d56_38 (feq (by decide : ¬ ((34 : Int32) = (2147483647 : Int32)))).2 (by decide) rfl).iload (pc' := 53) d56_51 rfl rfl).aloadN (pc' := 54) (v := (.ref a)) d56_53 rfl rfl rfl
  replace R := ((R.getF (pc' := 57) (host := "") (Or.inl (w97 hw)) Via.refl F_coder d56_54 rfl).ishr (pc' := 58) d56_57 rfl).stk (S' := [(.int (34 : Int32))]) rfl
  exact R.retI (Ds' := Ds) hret d56_58 (by decide) (by decide) (fun _ q => q) ⟨rfl, rfl, rfl⟩
theorem rm_eg18 (l : Launch) (Z : State) (a0 : Array Value) (hw : HW a0 Z) (a : Addr) (h : Heap) (n0 : Nat) (Ds : List Addr) {vb : Addr} {kb : ClassId} {vd : List Value} (hvl : vd.length = 16) (V_b : Arv Z h vb kb .byte (16 : Int32) vd (.int 0)) (ha : a ∈ Ds) (nab : a ≠ vb) (E_a : Exa Z h a "java/lang/StringBuilder") (F_value : Fld Z h a "java/lang/AbstractStringBuilder" "value" "[B" (.ref vb)) (F_coder : Fld Z h a "java/lang/AbstractStringBuilder" "coder" "B" (.int (0 : Int32))) {cn : Int32} (F_count : Fld Z h a "java/lang/AbstractStringBuilder" "count" "I" (.int cn)) :
    Ctr l Z (⟨"java/lang/AbstractStringBuilder", "ensureCapacityInternal", "(I)V"⟩ : MethodName) jdk_68_method_9_code 3 none [] (rmo 3 1 34 95) #[.ref a, .int (18 : Int32)] h n0 Ds (fun v h' Ds' => ∃ (r : Addr) (kr : ClassId), v = none ∧ Keep h h' [a] ∧ r = h.size ∧ a ≠ r ∧ Exa Z h' a "java/lang/StringBuilder" ∧ Fld Z h' a "java/lang/AbstractStringBuilder" "value" "[B" (.ref r) ∧ Fld Z h' a "java/lang/AbstractStringBuilder" "coder" "B" (.int (0 : Int32)) ∧ Fld Z h' a "java/lang/AbstractStringBuilder" "count" "I" (.int cn) ∧ Arv Z h' r kr .byte (34 : Int32) (vd ++ z18) (.int 0) ∧ r :: Ds = Ds') := by
  refine ctr_of (Ls := #[.val (.ref a), .val (.int (18 : Int32)), .unset]) (plainFor_of_name pn3) (fun m => by first | (simp [entryFrame, mkF, argsToLocals, Value.category]; done) | rfl) ?_
  intro C hl hret hnm R
  subst hl
  replace R := (((((R.aloadN (pc' := 1) (v := (.ref a)) d19_0 rfl rfl rfl).getF (pc' := 4) (host := "") (Or.inl (w95 hw)) Via.refl F_value d19_1 rfl).arraylength (pc' := 5) V_b d19_4 rfl).aloadN (pc' := 6) (v := (.ref a)) d19_5 rfl rfl rfl).getF (pc' := 9) (host := "") (Or.inl (w97 hw)) Via.refl F_coder d19_6 rfl).ishr (pc' := 10) d19_9 rfl
  replace R := (((((R.stk (S' := [(.int (16 : Int32))]) rfl).istoreN (pc' := 11) (l' := #[.val (.ref a), .val (.int (18 : Int32)), .val (.int (16 : Int32))]) d19_10 rfl rfl).iloadN (pc' := 12) d19_11 rfl rfl).iloadN (pc' := 13) d19_12 rfl rfl).isub (pc' := 14) d19_13 rfl).stk (S' := [(.int (2 : Int32))]) rfl
  replace R := (((((R.ifN (pc' := 17) d19_14 (tlt (by decide : (0 : Int32) < (2 : Int32))).2.2.2 rfl).aloadN (pc' := 18) (v := (.ref a)) d19_17 rfl rfl rfl).aloadN (pc' := 19) (v := (.ref a)) d19_18 rfl rfl rfl).getF (pc' := 22) (host := "") (Or.inl (w95 hw)) Via.refl F_value d19_19 rfl).aloadN (pc' := 23) (v := (.ref a)) d19_22 rfl rfl rfl).iloadN (pc' := 24) d19_23 rfl rfl
  replace R := own_pure (R.callV (pc' := 27) (y := (⟨"java/lang/AbstractStringBuilder", "newCapacity", "(I)I"⟩ : MethodName)) (z := (⟨"java/lang/AbstractStringBuilder", "newCapacity", "(I)I"⟩ : MethodName)) (argsL := [(.int (18 : Int32))]) (rest := [(.ref vb), (.ref a)]) (W := 2) (w334 hw) (own_decl (w335 hw) (w338 hw)) (fun s' hZ' => notFace_of_selects (args := #[]) (mvT hZ' (w337 hw))) (w337 hw) (w335 hw) (w91 hw) (w338 hw) (by decide) E_a (rm_nc18 C.l Z a0 hw a h n0 Ds hvl V_b E_a F_value F_coder) rfl (lenOf pd9 rfl) rfl rfl d19_24 (by decide) (by decide) (by decide) (by decide) rfl)
  replace R := (((R.aloadN (pc' := 28) (v := (.ref a)) d19_27 rfl rfl rfl).getF (pc' := 31) (host := "") (Or.inl (w97 hw)) Via.refl F_coder d19_28 rfl).ishl (pc' := 32) d19_31 rfl).stk (S' := [(.int (34 : Int32)), (.ref vb), (.ref a)]) rfl
  obtain ⟨_, h1, _, ⟨r1, k1, rfl, K1, g1, V1, rfl⟩, R⟩ := R.callS (pc' := 35) (argsL := [(.ref vb), (.int (34 : Int32))]) (rest := [(.ref a)]) (W := 1) (w348 hw) (w349 hw) (w198 hw) (w350 hw) (by decide) (rm_co C.l Z a0 hw h n0 Ds hvl V_b) rfl (lenOf pd10 rfl) rfl rfl d19_32 (by decide) (by decide) (by decide) (by decide) rfl
  replace R := (R.mono (ce' := 1) (sl' := 34) (by decide) (by decide)).stk (S' := [(.ref r1), (.ref a)]) rfl
  have K2 := ((Keep.refl h []).trans K1 all0)
  have F3 := E_a.keep K2
  have nar : a ≠ r1 := Exa.neArv F3 V1 (w82 hw)
  have K4 := ((Keep.refl h []).trans K1 all0)
  have F5 := F_value.keep K4 nin0
  have K6 := ((Keep.refl h []).trans K1 all0)
  have F7 := F_coder.keep K6 nin0
  have K8 := ((Keep.refl h []).trans K1 all0)
  have F9 := F_count.keep K8 nin0
  obtain ⟨h10, W10, R⟩ := R.putF (pc' := 38) (ty := (.array .byte)) (host := "") (Or.inl (w95 hw)) Via.refl F5 F3 (Or.inl (w96 hw)) (w82 hw) (by decide) rfl rfl (List.mem_cons_of_mem _ ha) d19_35 rfl
  have F10 := F5.same W10
  have F11 := F7.other W10 (Or.inr (slot_ne (Or.inl (w98 hw)) (Or.inl (w96 hw)) (by decide) (t := .byte) (t' := (.array .byte)) (by decide) (by decide)))
  have F12 := F9.other W10 (Or.inr (slot_ne (Or.inl (w120 hw)) (Or.inl (w96 hw)) (by decide) (t := .int) (t' := (.array .byte)) (by decide) (by decide)))
  have hK := (((Keep.refl h [a]).trans K1 all0).trans (Keep.of_wr W10) (allS (Or.inl (List.mem_of_getElem? (i := 0) rfl)) all0))
  have K13 := ((Keep.refl h1 [a]).trans (Keep.of_wr W10) (allS (Or.inl (List.mem_of_getElem? (i := 0) rfl)) all0))
  have F14 := F3.keep K13
  have K15 := ((Keep.refl h1 [a]).trans (Keep.of_wr W10) (allS (Or.inl (List.mem_of_getElem? (i := 0) rfl)) all0))
  have F16 := V1.keep K15 (ninS (Ne.symm nar) nin0)
  exact R.retV (Ds' := r1 :: Ds) hret d19_38 (by decide) (by decide) (fun _ q => q) ⟨r1, _, rfl, hK, g1, nar, F14, F10, F11, F12, F16, rfl⟩
theorem rm_aaf (l : Launch) (Z : State) (a0 : Array Value) (hw : HW a0 Z) (a s : Addr) (h : Heap) (n0 : Nat) (Ds : List Addr) (own_cs : CompactOn Z) {vb : Addr} {kb : ClassId} {vd : List Value} {cap : Nat} (hcap : cap ≤ 100) (hvl : vd.length = cap) (hvb : vb ∈ Ds) (V_b : Arv Z h vb kb .byte (Int32.ofNat cap) vd (.int 0)) {n : Nat} (ha : a ∈ Ds) (nab : a ≠ vb) (E_a : Exa Z h a "java/lang/StringBuilder") (F_value : Fld Z h a "java/lang/AbstractStringBuilder" "value" "[B" (.ref vb)) (F_coder : Fld Z h a "java/lang/AbstractStringBuilder" "coder" "B" (.int (0 : Int32))) (F_count : Fld Z h a "java/lang/AbstractStringBuilder" "count" "I" (.int (Int32.ofNat n))) {ds : List Int32} (S_s : IsStr Z h s ds) (hn : n + ds.length ≤ cap) :
    Ctr l Z (⟨"java/lang/AbstractStringBuilder", "append", "(Ljava/lang/String;)Ljava/lang/AbstractStringBuilder;"⟩ : MethodName) jdk_68_method_22_code 3 (some (.object "java/lang/AbstractStringBuilder")) [] (rmo 3 0 0 109) #[.ref a, .ref s] h n0 Ds (fun v h' Ds' => v = some (.ref a) ∧ Keep h h' [vb, a] ∧ Exa Z h' a "java/lang/StringBuilder" ∧ Fld Z h' a "java/lang/AbstractStringBuilder" "value" "[B" (.ref vb) ∧ Fld Z h' a "java/lang/AbstractStringBuilder" "coder" "B" (.int (0 : Int32)) ∧ Fld Z h' a "java/lang/AbstractStringBuilder" "count" "I" (.int (Int32.ofNat (n + ds.length))) ∧ Arv Z h' vb kb .byte (Int32.ofNat cap) (vd.take n ++ bytesOfCs ds ++ vd.drop (n + ds.length)) (.int 0) ∧ Ds = Ds') := by
  refine ctr_of (Ls := #[.val (.ref a), .val (.ref s), .unset]) (plainFor_of_name pn3) (fun m => by first | (simp [entryFrame, mkF, argsToLocals, Value.category]; done) | rfl) ?_
  intro C hl hret hnm R
  subst hl
  have e4 := S_s.2.2.2.1
  replace R := ((R.aloadN (pc' := 1) (v := (.ref s)) d16_0 rfl rfl rfl).ifnonnullY (pc' := 9) d16_1 (by decide) rfl).aloadN (pc' := 10) (v := (.ref s)) d16_9 rfl rfl rfl
  replace R := own_pure (R.callV (pc' := 13) (y := (⟨"java/lang/String", "length", "()I"⟩ : MethodName)) (z := (⟨"java/lang/String", "length", "()I"⟩ : MethodName)) (argsL := []) (rest := []) (W := 0) (w109 hw) (w110 hw) (fun s' hZ' => notFace_of_selects (args := #[]) (mvT hZ' (w112 hw))) (w112 hw) (w111 hw) (w6 hw) (w113 hw) (by decide) S_s.1 (rm_length C.l Z a0 hw s h n0 Ds own_cs S_s) rfl (lenOf pd11 rfl) rfl rfl d16_10 (by decide) (by decide) (by decide) (by decide) rfl)
  replace R := (((((R.istoreN (pc' := 14) (l' := #[.val (.ref a), .val (.ref s), .val (.int (Int32.ofNat ds.length))]) d16_13 rfl rfl).aloadN (pc' := 15) (v := (.ref a)) d16_14 rfl rfl rfl).aloadN (pc' := 16) (v := (.ref a)) d16_15 rfl rfl rfl).getF (pc' := 19) (host := "") (Or.inl (w119 hw)) Via.refl F_count d16_16 rfl).iloadN (pc' := 20) d16_19 rfl rfl).iadd (pc' := 21) d16_20 rfl
  replace R := R.stk (congrArg (fun z => ([Value.int z, (.ref a)] : List Value)) (own_addc (by omega)))
  replace R := own_pure0 (R.callV (pc' := 24) (y := (⟨"java/lang/AbstractStringBuilder", "ensureCapacityInternal", "(I)V"⟩ : MethodName)) (z := (⟨"java/lang/AbstractStringBuilder", "ensureCapacityInternal", "(I)V"⟩ : MethodName)) (argsL := [(.int (Int32.ofNat (n + ds.length)))]) (rest := []) (W := 0) (w121 hw) (own_decl (w122 hw) (w125 hw)) (fun s' hZ' => notFace_of_selects (args := #[]) (mvT hZ' (w124 hw))) (w124 hw) (w122 hw) (w91 hw) (w125 hw) (by decide) E_a (rm_ec C.l Z a0 hw a h n0 Ds hcap hvl hvb V_b E_a F_value F_coder hn) rfl (lenOf pd12 rfl) rfl rfl d16_21 (by decide) (by decide) (by decide) (by decide) rfl)
  replace R := (((R.aloadN (pc' := 25) (v := (.ref a)) d16_24 rfl rfl rfl).aloadN (pc' := 26) (v := (.ref a)) d16_25 rfl rfl rfl).getF (pc' := 29) (host := "") (Or.inl (w119 hw)) Via.refl F_count d16_26 rfl).aloadN (pc' := 30) (v := (.ref s)) d16_29 rfl rfl rfl
  obtain ⟨_, h1, _, ⟨rfl, K1, V1, rfl⟩, R⟩ := R.callV (pc' := 33) (y := (⟨"java/lang/AbstractStringBuilder", "putStringAt", "(ILjava/lang/String;)V"⟩ : MethodName)) (z := (⟨"java/lang/AbstractStringBuilder", "putStringAt", "(ILjava/lang/String;)V"⟩ : MethodName)) (argsL := [(.int (Int32.ofNat n)), (.ref s)]) (rest := []) (W := 0) (w126 hw) (own_decl (w127 hw) (w130 hw)) (fun s' hZ' => notFace_of_selects (args := #[]) (mvT hZ' (w129 hw))) (w129 hw) (w127 hw) (w91 hw) (w130 hw) (by decide) E_a (rm_ps C.l Z a0 hw a s h n0 Ds own_cs hcap hvl hvb V_b E_a F_value F_coder S_s hn) rfl (lenOf pd13 rfl) rfl rfl d16_30 (by decide) (by decide) (by decide) (by decide) rfl
  replace R := (((R.mono (ce' := 0) (sl' := 0) (by decide) (by decide)).stk (S' := []) rfl).aloadN (pc' := 34) (v := (.ref a)) d16_33 rfl rfl rfl).dup (pc' := 35) d16_34 rfl rfl
  have K2 := ((Keep.refl h [vb]).trans K1 (allS (Or.inl (List.mem_of_getElem? (i := 0) rfl)) all0))
  have F3 := F_count.keep K2 (ninS nab nin0)
  replace R := ((R.getF (pc' := 38) (host := "") (Or.inl (w119 hw)) Via.refl F3 d16_35 rfl).iloadN (pc' := 39) d16_38 rfl rfl).iadd (pc' := 40) d16_39 rfl
  replace R := R.stk (congrArg (fun z => ([Value.int z, (.ref a)] : List Value)) (own_addc (by omega)))
  have K4 := ((Keep.refl h [vb]).trans K1 (allS (Or.inl (List.mem_of_getElem? (i := 0) rfl)) all0))
  have F5 := E_a.keep K4
  have K6 := ((Keep.refl h [vb]).trans K1 (allS (Or.inl (List.mem_of_getElem? (i := 0) rfl)) all0))
  have F7 := F_value.keep K6 (ninS nab nin0)
  have K8 := ((Keep.refl h [vb]).trans K1 (allS (Or.inl (List.mem_of_getElem? (i := 0) rfl)) all0))
  have F9 := F_coder.keep K8 (ninS nab nin0)
  obtain ⟨h10, W10, R⟩ := R.putF (pc' := 43) (ty := .int) (host := "") (Or.inl (w119 hw)) Via.refl F3 F5 (Or.inl (w120 hw)) (w82 hw) (by decide) rfl rfl ha d16_40 rfl
  have F10 := F3.same W10
  have F11 := F7.other W10 (Or.inr (slot_ne (Or.inl (w96 hw)) (Or.inl (w120 hw)) (by decide) (t := (.array .byte)) (t' := .int) (by decide) (by decide)))
  have F12 := F9.other W10 (Or.inr (slot_ne (Or.inl (w98 hw)) (Or.inl (w120 hw)) (by decide) (t := .byte) (t' := .int) (by decide) (by decide)))
  replace R := R.aloadN (pc' := 44) (v := (.ref a)) d16_43 rfl rfl rfl
  have hK := (((Keep.refl h [vb, a]).trans K1 (allS (Or.inl (List.mem_of_getElem? (i := 0) rfl)) all0)).trans (Keep.of_wr W10) (allS (Or.inl (List.mem_of_getElem? (i := 1) rfl)) all0))
  have K13 := ((Keep.refl h1 [a]).trans (Keep.of_wr W10) (allS (Or.inl (List.mem_of_getElem? (i := 0) rfl)) all0))
  have F14 := F5.keep K13
  have K15 := ((Keep.refl h1 [a]).trans (Keep.of_wr W10) (allS (Or.inl (List.mem_of_getElem? (i := 0) rfl)) all0))
  have F16 := V1.keep K15 (ninS (Ne.symm nab) nin0)
  exact R.retA (Ds' := Ds) hret rfl rfl rfl d16_44 (by decide) (by decide) (fun _ q => q) ⟨rfl, hK, F14, F11, F12, F10, F16, rfl⟩
theorem rm_saf (l : Launch) (Z : State) (a0 : Array Value) (hw : HW a0 Z) (a s : Addr) (h : Heap) (n0 : Nat) (Ds : List Addr) (own_cs : CompactOn Z) {vb : Addr} {kb : ClassId} {vd : List Value} {cap : Nat} (hcap : cap ≤ 100) (hvl : vd.length = cap) (hvb : vb ∈ Ds) (V_b : Arv Z h vb kb .byte (Int32.ofNat cap) vd (.int 0)) {n : Nat} (ha : a ∈ Ds) (nab : a ≠ vb) (E_a : Exa Z h a "java/lang/StringBuilder") (F_value : Fld Z h a "java/lang/AbstractStringBuilder" "value" "[B" (.ref vb)) (F_coder : Fld Z h a "java/lang/AbstractStringBuilder" "coder" "B" (.int (0 : Int32))) (F_count : Fld Z h a "java/lang/AbstractStringBuilder" "count" "I" (.int (Int32.ofNat n))) {ds : List Int32} (S_s : IsStr Z h s ds) (hn : n + ds.length ≤ cap) :
    Ctr l Z (⟨"java/lang/StringBuilder", "append", "(Ljava/lang/String;)Ljava/lang/StringBuilder;"⟩ : MethodName) jdk_67_method_7_code 2 (some (.object "java/lang/StringBuilder")) [] (rmo 4 0 0 123) #[.ref a, .ref s] h n0 Ds (fun v h' Ds' => v = some (.ref a) ∧ Keep h h' [vb, a] ∧ Exa Z h' a "java/lang/StringBuilder" ∧ Fld Z h' a "java/lang/AbstractStringBuilder" "value" "[B" (.ref vb) ∧ Fld Z h' a "java/lang/AbstractStringBuilder" "coder" "B" (.int (0 : Int32)) ∧ Fld Z h' a "java/lang/AbstractStringBuilder" "count" "I" (.int (Int32.ofNat (n + ds.length))) ∧ Arv Z h' vb kb .byte (Int32.ofNat cap) (vd.take n ++ bytesOfCs ds ++ vd.drop (n + ds.length)) (.int 0) ∧ Ds = Ds') := by
  refine ctr_of (Ls := #[.val (.ref a), .val (.ref s)]) (plainFor_of_name pn6) (fun m => by first | (simp [entryFrame, mkF, argsToLocals, Value.category]; done) | rfl) ?_
  intro C hl hret hnm R
  subst hl
  have e4 := S_s.2.2.2.1
  replace R := (R.aloadN (pc' := 1) (v := (.ref a)) d15_0 rfl rfl rfl).aloadN (pc' := 2) (v := (.ref s)) d15_1 rfl rfl rfl
  obtain ⟨_, h1, _, ⟨rfl, K1, X1, F1_value, F1_coder, F1_count, V1, rfl⟩, R⟩ := R.callSup (pc' := 5) (y := (⟨"java/lang/AbstractStringBuilder", "append", "(Ljava/lang/String;)Ljava/lang/AbstractStringBuilder;"⟩ : MethodName)) (a := a) (argsL := [(.ref s)]) (rest := []) (W := 0) (by decide) (w104 hw) (own_same (w105 hw) (w124 hw) rfl (by decide)) (w106 hw) (w105 hw) (w91 hw) (w108 hw) E_a (rm_aaf C.l Z a0 hw a s h n0 Ds own_cs hcap hvl hvb V_b ha nab E_a F_value F_coder F_count S_s hn) rfl (lenOf pd14 rfl) rfl rfl d15_2 (by decide) (by decide) (by decide) (by decide) rfl
  replace R := (((R.mono (ce' := 0) (sl' := 0) (by decide) (by decide)).stk (S' := [(.ref a)]) rfl).pop (pc' := 6) d15_5 rfl rfl).aloadN (pc' := 7) (v := (.ref a)) d15_6 rfl rfl rfl
  have hK := ((Keep.refl h [vb, a]).trans K1 (allS (Or.inl (List.mem_of_getElem? (i := 0) rfl)) (allS (Or.inl (List.mem_of_getElem? (i := 1) rfl)) all0)))
  exact R.retA (Ds' := Ds) hret rfl rfl rfl d15_7 (by decide) (by decide) (fun _ q => q) ⟨rfl, hK, X1, F1_value, F1_coder, F1_count, V1, rfl⟩
theorem rm_aa17 (l : Launch) (Z : State) (a0 : Array Value) (hw : HW a0 Z) (a s : Addr) (h : Heap) (n0 : Nat) (Ds : List Addr) (own_cs : CompactOn Z) {vb : Addr} {kb : ClassId} {vd : List Value} (hvl : vd.length = 16) (V_b : Arv Z h vb kb .byte (16 : Int32) vd (.int 0)) {n : Nat} (ha : a ∈ Ds) (nab : a ≠ vb) (E_a : Exa Z h a "java/lang/StringBuilder") (F_value : Fld Z h a "java/lang/AbstractStringBuilder" "value" "[B" (.ref vb)) (F_coder : Fld Z h a "java/lang/AbstractStringBuilder" "coder" "B" (.int (0 : Int32))) (F_count : Fld Z h a "java/lang/AbstractStringBuilder" "count" "I" (.int (Int32.ofNat n))) {ds : List Int32} (S_s : IsStr Z h s ds) (hn : n + ds.length = 17) :
    Ctr l Z (⟨"java/lang/AbstractStringBuilder", "append", "(Ljava/lang/String;)Ljava/lang/AbstractStringBuilder;"⟩ : MethodName) jdk_68_method_22_code 3 (some (.object "java/lang/AbstractStringBuilder")) [] (rmo 4 1 34 109) #[.ref a, .ref s] h n0 Ds (fun v h' Ds' => ∃ (r : Addr) (kr : ClassId), v = some (.ref a) ∧ Keep h h' [a] ∧ Exa Z h' a "java/lang/StringBuilder" ∧ Fld Z h' a "java/lang/AbstractStringBuilder" "value" "[B" (.ref r) ∧ Fld Z h' a "java/lang/AbstractStringBuilder" "coder" "B" (.int (0 : Int32)) ∧ Fld Z h' a "java/lang/AbstractStringBuilder" "count" "I" (.int (Int32.ofNat (n + ds.length))) ∧ Arv Z h' r kr .byte (34 : Int32) ((vd ++ z18).take n ++ bytesOfCs ds ++ (vd ++ z18).drop (n + ds.length)) (.int 0) ∧ Ds = Ds') := by
  refine ctr_of (Ls := #[.val (.ref a), .val (.ref s), .unset]) (plainFor_of_name pn3) (fun m => by first | (simp [entryFrame, mkF, argsToLocals, Value.category]; done) | rfl) ?_
  intro C hl hret hnm R
  subst hl
  have e4 := S_s.2.2.2.1
  replace R := ((R.aloadN (pc' := 1) (v := (.ref s)) d16_0 rfl rfl rfl).ifnonnullY (pc' := 9) d16_1 (by decide) rfl).aloadN (pc' := 10) (v := (.ref s)) d16_9 rfl rfl rfl
  replace R := own_pure (R.callV (pc' := 13) (y := (⟨"java/lang/String", "length", "()I"⟩ : MethodName)) (z := (⟨"java/lang/String", "length", "()I"⟩ : MethodName)) (argsL := []) (rest := []) (W := 0) (w109 hw) (w110 hw) (fun s' hZ' => notFace_of_selects (args := #[]) (mvT hZ' (w112 hw))) (w112 hw) (w111 hw) (w6 hw) (w113 hw) (by decide) S_s.1 (rm_length C.l Z a0 hw s h n0 Ds own_cs S_s) rfl (lenOf pd11 rfl) rfl rfl d16_10 (by decide) (by decide) (by decide) (by decide) rfl)
  replace R := (((((R.istoreN (pc' := 14) (l' := #[.val (.ref a), .val (.ref s), .val (.int (Int32.ofNat ds.length))]) d16_13 rfl rfl).aloadN (pc' := 15) (v := (.ref a)) d16_14 rfl rfl rfl).aloadN (pc' := 16) (v := (.ref a)) d16_15 rfl rfl rfl).getF (pc' := 19) (host := "") (Or.inl (w119 hw)) Via.refl F_count d16_16 rfl).iloadN (pc' := 20) d16_19 rfl rfl).iadd (pc' := 21) d16_20 rfl
  replace R := R.stk (congrArg (fun z => ([Value.int z, (.ref a)] : List Value)) ((own_addc (by omega)).trans (by rw [hn])))
  obtain ⟨_, h1, _, ⟨r1, k1, rfl, K1, g1, n1, X1, F1_value, F1_coder, F1_count, V1, rfl⟩, R⟩ := R.callV (pc' := 24) (y := (⟨"java/lang/AbstractStringBuilder", "ensureCapacityInternal", "(I)V"⟩ : MethodName)) (z := (⟨"java/lang/AbstractStringBuilder", "ensureCapacityInternal", "(I)V"⟩ : MethodName)) (argsL := [(.int (17 : Int32))]) (rest := []) (W := 0) (w121 hw) (own_decl (w122 hw) (w125 hw)) (fun s' hZ' => notFace_of_selects (args := #[]) (mvT hZ' (w124 hw))) (w124 hw) (w122 hw) (w91 hw) (w125 hw) (by decide) E_a (rm_eg17 C.l Z a0 hw a h n0 Ds hvl V_b ha nab E_a F_value F_coder F_count) rfl (lenOf pd12 rfl) rfl rfl d16_21 (by decide) (by decide) (by decide) (by decide) rfl
  have nas : s ≠ a := fun e => by have q1 := S_s.1; rw [e] at q1; exact absurd rfl (Exa.ne q1 E_a (by decide))
  have S_s1 := S_s.keep K1 (ninS nas nin0) (allS (notB_exa E_a (w82 hw)) all0)
  replace R := (((((R.mono (ce' := 1) (sl' := 34) (by decide) (by decide)).stk (S' := []) rfl).aloadN (pc' := 25) (v := (.ref a)) d16_24 rfl rfl rfl).aloadN (pc' := 26) (v := (.ref a)) d16_25 rfl rfl rfl).getF (pc' := 29) (host := "") (Or.inl (w119 hw)) Via.refl F1_count d16_26 rfl).aloadN (pc' := 30) (v := (.ref s)) d16_29 rfl rfl rfl
  obtain ⟨_, h2, _, ⟨rfl, K2, V2, rfl⟩, R⟩ := R.callV (pc' := 33) (y := (⟨"java/lang/AbstractStringBuilder", "putStringAt", "(ILjava/lang/String;)V"⟩ : MethodName)) (z := (⟨"java/lang/AbstractStringBuilder", "putStringAt", "(ILjava/lang/String;)V"⟩ : MethodName)) (argsL := [(.int (Int32.ofNat n)), (.ref s)]) (rest := []) (W := 0) (w126 hw) (own_decl (w127 hw) (w130 hw)) (fun s' hZ' => notFace_of_selects (args := #[]) (mvT hZ' (w129 hw))) (w129 hw) (w127 hw) (w91 hw) (w130 hw) (by decide) X1 (rm_ps C.l Z a0 hw a s h1 n0 (r1 :: Ds) own_cs (Nat.le_of_ble_eq_true rfl : 34 ≤ 100) (by rw [List.length_append, hvl]; rfl) (List.mem_of_getElem? (i := 0) rfl) V1 X1 F1_value F1_coder S_s1 (by omega)) rfl (lenOf pd13 rfl) rfl rfl d16_30 (by decide) (by decide) (by decide) (by decide) rfl
  replace R := (((R.mono (ce' := 1) (sl' := 34) (by decide) (by decide)).stk (S' := []) rfl).aloadN (pc' := 34) (v := (.ref a)) d16_33 rfl rfl rfl).dup (pc' := 35) d16_34 rfl rfl
  have K3 := ((Keep.refl h1 [r1]).trans K2 (allS (Or.inl (List.mem_of_getElem? (i := 0) rfl)) all0))
  have F4 := F1_count.keep K3 (ninS n1 nin0)
  replace R := ((R.getF (pc' := 38) (host := "") (Or.inl (w119 hw)) Via.refl F4 d16_35 rfl).iloadN (pc' := 39) d16_38 rfl rfl).iadd (pc' := 40) d16_39 rfl
  replace R := R.stk (congrArg (fun z => ([Value.int z, (.ref a)] : List Value)) (own_addc (by omega)))
  have K5 := ((Keep.refl h1 [r1]).trans K2 (allS (Or.inl (List.mem_of_getElem? (i := 0) rfl)) all0))
  have F6 := X1.keep K5
  have K7 := ((Keep.refl h1 [r1]).trans K2 (allS (Or.inl (List.mem_of_getElem? (i := 0) rfl)) all0))
  have F8 := F1_value.keep K7 (ninS n1 nin0)
  have K9 := ((Keep.refl h1 [r1]).trans K2 (allS (Or.inl (List.mem_of_getElem? (i := 0) rfl)) all0))
  have F10 := F1_coder.keep K9 (ninS n1 nin0)
  obtain ⟨h11, W11, R⟩ := R.putF (pc' := 43) (ty := .int) (host := "") (Or.inl (w119 hw)) Via.refl F4 F6 (Or.inl (w120 hw)) (w82 hw) (by decide) rfl rfl (List.mem_cons_of_mem _ ha) d16_40 rfl
  have F11 := F4.same W11
  have F12 := F8.other W11 (Or.inr (slot_ne (Or.inl (w96 hw)) (Or.inl (w120 hw)) (by decide) (t := (.array .byte)) (t' := .int) (by decide) (by decide)))
  have F13 := F10.other W11 (Or.inr (slot_ne (Or.inl (w98 hw)) (Or.inl (w120 hw)) (by decide) (t := .byte) (t' := .int) (by decide) (by decide)))
  replace R := R.aloadN (pc' := 44) (v := (.ref a)) d16_43 rfl rfl rfl
  have hK := ((((Keep.refl h [a]).trans K1 (allS (Or.inl (List.mem_of_getElem? (i := 0) rfl)) all0)).trans K2 (allS (Or.inr (by rw [g1]; exact (Nat.le_refl _))) all0)).trans (Keep.of_wr W11) (allS (Or.inl (List.mem_of_getElem? (i := 0) rfl)) all0))
  have K14 := ((Keep.refl h2 [a]).trans (Keep.of_wr W11) (allS (Or.inl (List.mem_of_getElem? (i := 0) rfl)) all0))
  have F15 := F6.keep K14
  have K16 := ((Keep.refl h2 [a]).trans (Keep.of_wr W11) (allS (Or.inl (List.mem_of_getElem? (i := 0) rfl)) all0))
  have F17 := V2.keep K16 (ninS (Ne.symm n1) nin0)
  exact R.retA (Ds' := Ds) hret rfl rfl rfl d16_44 (by decide) (by decide) (fun _ q => (fun q => (List.mem_cons_of_mem _ q)) q) ⟨r1, _, rfl, hK, F15, F12, F13, F11, F17, rfl⟩
theorem rm_sa17 (l : Launch) (Z : State) (a0 : Array Value) (hw : HW a0 Z) (a s : Addr) (h : Heap) (n0 : Nat) (Ds : List Addr) (own_cs : CompactOn Z) {vb : Addr} {kb : ClassId} {vd : List Value} (hvl : vd.length = 16) (V_b : Arv Z h vb kb .byte (16 : Int32) vd (.int 0)) {n : Nat} (ha : a ∈ Ds) (nab : a ≠ vb) (E_a : Exa Z h a "java/lang/StringBuilder") (F_value : Fld Z h a "java/lang/AbstractStringBuilder" "value" "[B" (.ref vb)) (F_coder : Fld Z h a "java/lang/AbstractStringBuilder" "coder" "B" (.int (0 : Int32))) (F_count : Fld Z h a "java/lang/AbstractStringBuilder" "count" "I" (.int (Int32.ofNat n))) {ds : List Int32} (S_s : IsStr Z h s ds) (hn : n + ds.length = 17) :
    Ctr l Z (⟨"java/lang/StringBuilder", "append", "(Ljava/lang/String;)Ljava/lang/StringBuilder;"⟩ : MethodName) jdk_67_method_7_code 2 (some (.object "java/lang/StringBuilder")) [] (rmo 5 1 34 123) #[.ref a, .ref s] h n0 Ds (fun v h' Ds' => ∃ (r : Addr) (kr : ClassId), v = some (.ref a) ∧ Keep h h' [a] ∧ Exa Z h' a "java/lang/StringBuilder" ∧ Fld Z h' a "java/lang/AbstractStringBuilder" "value" "[B" (.ref r) ∧ Fld Z h' a "java/lang/AbstractStringBuilder" "coder" "B" (.int (0 : Int32)) ∧ Fld Z h' a "java/lang/AbstractStringBuilder" "count" "I" (.int (Int32.ofNat (n + ds.length))) ∧ Arv Z h' r kr .byte (34 : Int32) ((vd ++ z18).take n ++ bytesOfCs ds ++ (vd ++ z18).drop (n + ds.length)) (.int 0) ∧ Ds = Ds') := by
  refine ctr_of (Ls := #[.val (.ref a), .val (.ref s)]) (plainFor_of_name pn6) (fun m => by first | (simp [entryFrame, mkF, argsToLocals, Value.category]; done) | rfl) ?_
  intro C hl hret hnm R
  subst hl
  have e4 := S_s.2.2.2.1
  replace R := (R.aloadN (pc' := 1) (v := (.ref a)) d15_0 rfl rfl rfl).aloadN (pc' := 2) (v := (.ref s)) d15_1 rfl rfl rfl
  obtain ⟨_, h1, _, ⟨r1, k1, rfl, K1, X1, F1_value, F1_coder, F1_count, V1, rfl⟩, R⟩ := R.callSup (pc' := 5) (y := (⟨"java/lang/AbstractStringBuilder", "append", "(Ljava/lang/String;)Ljava/lang/AbstractStringBuilder;"⟩ : MethodName)) (a := a) (argsL := [(.ref s)]) (rest := []) (W := 0) (by decide) (w104 hw) (own_same (w105 hw) (w124 hw) rfl (by decide)) (w106 hw) (w105 hw) (w91 hw) (w108 hw) E_a (rm_aa17 C.l Z a0 hw a s h n0 Ds own_cs hvl V_b ha nab E_a F_value F_coder F_count S_s hn) rfl (lenOf pd14 rfl) rfl rfl d15_2 (by decide) (by decide) (by decide) (by decide) rfl
  replace R := (((R.mono (ce' := 1) (sl' := 34) (by decide) (by decide)).stk (S' := [(.ref a)]) rfl).pop (pc' := 6) d15_5 rfl rfl).aloadN (pc' := 7) (v := (.ref a)) d15_6 rfl rfl rfl
  have hK := ((Keep.refl h [a]).trans K1 (allS (Or.inl (List.mem_of_getElem? (i := 0) rfl)) all0))
  exact R.retA (Ds' := Ds) hret rfl rfl rfl d15_7 (by decide) (by decide) (fun _ q => q) ⟨r1, _, rfl, hK, X1, F1_value, F1_coder, F1_count, V1, rfl⟩
theorem rm_aa18 (l : Launch) (Z : State) (a0 : Array Value) (hw : HW a0 Z) (a s : Addr) (h : Heap) (n0 : Nat) (Ds : List Addr) (own_cs : CompactOn Z) {vb : Addr} {kb : ClassId} {vd : List Value} (hvl : vd.length = 16) (V_b : Arv Z h vb kb .byte (16 : Int32) vd (.int 0)) {n : Nat} (ha : a ∈ Ds) (nab : a ≠ vb) (E_a : Exa Z h a "java/lang/StringBuilder") (F_value : Fld Z h a "java/lang/AbstractStringBuilder" "value" "[B" (.ref vb)) (F_coder : Fld Z h a "java/lang/AbstractStringBuilder" "coder" "B" (.int (0 : Int32))) (F_count : Fld Z h a "java/lang/AbstractStringBuilder" "count" "I" (.int (Int32.ofNat n))) {ds : List Int32} (S_s : IsStr Z h s ds) (hn : n + ds.length = 18) :
    Ctr l Z (⟨"java/lang/AbstractStringBuilder", "append", "(Ljava/lang/String;)Ljava/lang/AbstractStringBuilder;"⟩ : MethodName) jdk_68_method_22_code 3 (some (.object "java/lang/AbstractStringBuilder")) [] (rmo 4 1 34 109) #[.ref a, .ref s] h n0 Ds (fun v h' Ds' => ∃ (r : Addr) (kr : ClassId), v = some (.ref a) ∧ Keep h h' [a] ∧ Exa Z h' a "java/lang/StringBuilder" ∧ Fld Z h' a "java/lang/AbstractStringBuilder" "value" "[B" (.ref r) ∧ Fld Z h' a "java/lang/AbstractStringBuilder" "coder" "B" (.int (0 : Int32)) ∧ Fld Z h' a "java/lang/AbstractStringBuilder" "count" "I" (.int (Int32.ofNat (n + ds.length))) ∧ Arv Z h' r kr .byte (34 : Int32) ((vd ++ z18).take n ++ bytesOfCs ds ++ (vd ++ z18).drop (n + ds.length)) (.int 0) ∧ Ds = Ds') := by
  refine ctr_of (Ls := #[.val (.ref a), .val (.ref s), .unset]) (plainFor_of_name pn3) (fun m => by first | (simp [entryFrame, mkF, argsToLocals, Value.category]; done) | rfl) ?_
  intro C hl hret hnm R
  subst hl
  have e4 := S_s.2.2.2.1
  replace R := ((R.aloadN (pc' := 1) (v := (.ref s)) d16_0 rfl rfl rfl).ifnonnullY (pc' := 9) d16_1 (by decide) rfl).aloadN (pc' := 10) (v := (.ref s)) d16_9 rfl rfl rfl
  replace R := own_pure (R.callV (pc' := 13) (y := (⟨"java/lang/String", "length", "()I"⟩ : MethodName)) (z := (⟨"java/lang/String", "length", "()I"⟩ : MethodName)) (argsL := []) (rest := []) (W := 0) (w109 hw) (w110 hw) (fun s' hZ' => notFace_of_selects (args := #[]) (mvT hZ' (w112 hw))) (w112 hw) (w111 hw) (w6 hw) (w113 hw) (by decide) S_s.1 (rm_length C.l Z a0 hw s h n0 Ds own_cs S_s) rfl (lenOf pd11 rfl) rfl rfl d16_10 (by decide) (by decide) (by decide) (by decide) rfl)
  replace R := (((((R.istoreN (pc' := 14) (l' := #[.val (.ref a), .val (.ref s), .val (.int (Int32.ofNat ds.length))]) d16_13 rfl rfl).aloadN (pc' := 15) (v := (.ref a)) d16_14 rfl rfl rfl).aloadN (pc' := 16) (v := (.ref a)) d16_15 rfl rfl rfl).getF (pc' := 19) (host := "") (Or.inl (w119 hw)) Via.refl F_count d16_16 rfl).iloadN (pc' := 20) d16_19 rfl rfl).iadd (pc' := 21) d16_20 rfl
  replace R := R.stk (congrArg (fun z => ([Value.int z, (.ref a)] : List Value)) ((own_addc (by omega)).trans (by rw [hn])))
  obtain ⟨_, h1, _, ⟨r1, k1, rfl, K1, g1, n1, X1, F1_value, F1_coder, F1_count, V1, rfl⟩, R⟩ := R.callV (pc' := 24) (y := (⟨"java/lang/AbstractStringBuilder", "ensureCapacityInternal", "(I)V"⟩ : MethodName)) (z := (⟨"java/lang/AbstractStringBuilder", "ensureCapacityInternal", "(I)V"⟩ : MethodName)) (argsL := [(.int (18 : Int32))]) (rest := []) (W := 0) (w121 hw) (own_decl (w122 hw) (w125 hw)) (fun s' hZ' => notFace_of_selects (args := #[]) (mvT hZ' (w124 hw))) (w124 hw) (w122 hw) (w91 hw) (w125 hw) (by decide) E_a (rm_eg18 C.l Z a0 hw a h n0 Ds hvl V_b ha nab E_a F_value F_coder F_count) rfl (lenOf pd12 rfl) rfl rfl d16_21 (by decide) (by decide) (by decide) (by decide) rfl
  have nas : s ≠ a := fun e => by have q1 := S_s.1; rw [e] at q1; exact absurd rfl (Exa.ne q1 E_a (by decide))
  have S_s1 := S_s.keep K1 (ninS nas nin0) (allS (notB_exa E_a (w82 hw)) all0)
  replace R := (((((R.mono (ce' := 1) (sl' := 34) (by decide) (by decide)).stk (S' := []) rfl).aloadN (pc' := 25) (v := (.ref a)) d16_24 rfl rfl rfl).aloadN (pc' := 26) (v := (.ref a)) d16_25 rfl rfl rfl).getF (pc' := 29) (host := "") (Or.inl (w119 hw)) Via.refl F1_count d16_26 rfl).aloadN (pc' := 30) (v := (.ref s)) d16_29 rfl rfl rfl
  obtain ⟨_, h2, _, ⟨rfl, K2, V2, rfl⟩, R⟩ := R.callV (pc' := 33) (y := (⟨"java/lang/AbstractStringBuilder", "putStringAt", "(ILjava/lang/String;)V"⟩ : MethodName)) (z := (⟨"java/lang/AbstractStringBuilder", "putStringAt", "(ILjava/lang/String;)V"⟩ : MethodName)) (argsL := [(.int (Int32.ofNat n)), (.ref s)]) (rest := []) (W := 0) (w126 hw) (own_decl (w127 hw) (w130 hw)) (fun s' hZ' => notFace_of_selects (args := #[]) (mvT hZ' (w129 hw))) (w129 hw) (w127 hw) (w91 hw) (w130 hw) (by decide) X1 (rm_ps C.l Z a0 hw a s h1 n0 (r1 :: Ds) own_cs (Nat.le_of_ble_eq_true rfl : 34 ≤ 100) (by rw [List.length_append, hvl]; rfl) (List.mem_of_getElem? (i := 0) rfl) V1 X1 F1_value F1_coder S_s1 (by omega)) rfl (lenOf pd13 rfl) rfl rfl d16_30 (by decide) (by decide) (by decide) (by decide) rfl
  replace R := (((R.mono (ce' := 1) (sl' := 34) (by decide) (by decide)).stk (S' := []) rfl).aloadN (pc' := 34) (v := (.ref a)) d16_33 rfl rfl rfl).dup (pc' := 35) d16_34 rfl rfl
  have K3 := ((Keep.refl h1 [r1]).trans K2 (allS (Or.inl (List.mem_of_getElem? (i := 0) rfl)) all0))
  have F4 := F1_count.keep K3 (ninS n1 nin0)
  replace R := ((R.getF (pc' := 38) (host := "") (Or.inl (w119 hw)) Via.refl F4 d16_35 rfl).iloadN (pc' := 39) d16_38 rfl rfl).iadd (pc' := 40) d16_39 rfl
  replace R := R.stk (congrArg (fun z => ([Value.int z, (.ref a)] : List Value)) (own_addc (by omega)))
  have K5 := ((Keep.refl h1 [r1]).trans K2 (allS (Or.inl (List.mem_of_getElem? (i := 0) rfl)) all0))
  have F6 := X1.keep K5
  have K7 := ((Keep.refl h1 [r1]).trans K2 (allS (Or.inl (List.mem_of_getElem? (i := 0) rfl)) all0))
  have F8 := F1_value.keep K7 (ninS n1 nin0)
  have K9 := ((Keep.refl h1 [r1]).trans K2 (allS (Or.inl (List.mem_of_getElem? (i := 0) rfl)) all0))
  have F10 := F1_coder.keep K9 (ninS n1 nin0)
  obtain ⟨h11, W11, R⟩ := R.putF (pc' := 43) (ty := .int) (host := "") (Or.inl (w119 hw)) Via.refl F4 F6 (Or.inl (w120 hw)) (w82 hw) (by decide) rfl rfl (List.mem_cons_of_mem _ ha) d16_40 rfl
  have F11 := F4.same W11
  have F12 := F8.other W11 (Or.inr (slot_ne (Or.inl (w96 hw)) (Or.inl (w120 hw)) (by decide) (t := (.array .byte)) (t' := .int) (by decide) (by decide)))
  have F13 := F10.other W11 (Or.inr (slot_ne (Or.inl (w98 hw)) (Or.inl (w120 hw)) (by decide) (t := .byte) (t' := .int) (by decide) (by decide)))
  replace R := R.aloadN (pc' := 44) (v := (.ref a)) d16_43 rfl rfl rfl
  have hK := ((((Keep.refl h [a]).trans K1 (allS (Or.inl (List.mem_of_getElem? (i := 0) rfl)) all0)).trans K2 (allS (Or.inr (by rw [g1]; exact (Nat.le_refl _))) all0)).trans (Keep.of_wr W11) (allS (Or.inl (List.mem_of_getElem? (i := 0) rfl)) all0))
  have K14 := ((Keep.refl h2 [a]).trans (Keep.of_wr W11) (allS (Or.inl (List.mem_of_getElem? (i := 0) rfl)) all0))
  have F15 := F6.keep K14
  have K16 := ((Keep.refl h2 [a]).trans (Keep.of_wr W11) (allS (Or.inl (List.mem_of_getElem? (i := 0) rfl)) all0))
  have F17 := V2.keep K16 (ninS (Ne.symm n1) nin0)
  exact R.retA (Ds' := Ds) hret rfl rfl rfl d16_44 (by decide) (by decide) (fun _ q => (fun q => (List.mem_cons_of_mem _ q)) q) ⟨r1, _, rfl, hK, F15, F12, F13, F11, F17, rfl⟩
theorem rm_sa18 (l : Launch) (Z : State) (a0 : Array Value) (hw : HW a0 Z) (a s : Addr) (h : Heap) (n0 : Nat) (Ds : List Addr) (own_cs : CompactOn Z) {vb : Addr} {kb : ClassId} {vd : List Value} (hvl : vd.length = 16) (V_b : Arv Z h vb kb .byte (16 : Int32) vd (.int 0)) {n : Nat} (ha : a ∈ Ds) (nab : a ≠ vb) (E_a : Exa Z h a "java/lang/StringBuilder") (F_value : Fld Z h a "java/lang/AbstractStringBuilder" "value" "[B" (.ref vb)) (F_coder : Fld Z h a "java/lang/AbstractStringBuilder" "coder" "B" (.int (0 : Int32))) (F_count : Fld Z h a "java/lang/AbstractStringBuilder" "count" "I" (.int (Int32.ofNat n))) {ds : List Int32} (S_s : IsStr Z h s ds) (hn : n + ds.length = 18) :
    Ctr l Z (⟨"java/lang/StringBuilder", "append", "(Ljava/lang/String;)Ljava/lang/StringBuilder;"⟩ : MethodName) jdk_67_method_7_code 2 (some (.object "java/lang/StringBuilder")) [] (rmo 5 1 34 123) #[.ref a, .ref s] h n0 Ds (fun v h' Ds' => ∃ (r : Addr) (kr : ClassId), v = some (.ref a) ∧ Keep h h' [a] ∧ Exa Z h' a "java/lang/StringBuilder" ∧ Fld Z h' a "java/lang/AbstractStringBuilder" "value" "[B" (.ref r) ∧ Fld Z h' a "java/lang/AbstractStringBuilder" "coder" "B" (.int (0 : Int32)) ∧ Fld Z h' a "java/lang/AbstractStringBuilder" "count" "I" (.int (Int32.ofNat (n + ds.length))) ∧ Arv Z h' r kr .byte (34 : Int32) ((vd ++ z18).take n ++ bytesOfCs ds ++ (vd ++ z18).drop (n + ds.length)) (.int 0) ∧ Ds = Ds') := by
  refine ctr_of (Ls := #[.val (.ref a), .val (.ref s)]) (plainFor_of_name pn6) (fun m => by first | (simp [entryFrame, mkF, argsToLocals, Value.category]; done) | rfl) ?_
  intro C hl hret hnm R
  subst hl
  have e4 := S_s.2.2.2.1
  replace R := (R.aloadN (pc' := 1) (v := (.ref a)) d15_0 rfl rfl rfl).aloadN (pc' := 2) (v := (.ref s)) d15_1 rfl rfl rfl
  obtain ⟨_, h1, _, ⟨r1, k1, rfl, K1, X1, F1_value, F1_coder, F1_count, V1, rfl⟩, R⟩ := R.callSup (pc' := 5) (y := (⟨"java/lang/AbstractStringBuilder", "append", "(Ljava/lang/String;)Ljava/lang/AbstractStringBuilder;"⟩ : MethodName)) (a := a) (argsL := [(.ref s)]) (rest := []) (W := 0) (by decide) (w104 hw) (own_same (w105 hw) (w124 hw) rfl (by decide)) (w106 hw) (w105 hw) (w91 hw) (w108 hw) E_a (rm_aa18 C.l Z a0 hw a s h n0 Ds own_cs hvl V_b ha nab E_a F_value F_coder F_count S_s hn) rfl (lenOf pd14 rfl) rfl rfl d15_2 (by decide) (by decide) (by decide) (by decide) rfl
  replace R := (((R.mono (ce' := 1) (sl' := 34) (by decide) (by decide)).stk (S' := [(.ref a)]) rfl).pop (pc' := 6) d15_5 rfl rfl).aloadN (pc' := 7) (v := (.ref a)) d15_6 rfl rfl rfl
  have hK := ((Keep.refl h [a]).trans K1 (allS (Or.inl (List.mem_of_getElem? (i := 0) rfl)) all0))
  exact R.retA (Ds' := Ds) hret rfl rfl rfl d15_7 (by decide) (by decide) (fun _ q => q) ⟨r1, _, rfl, hK, X1, F1_value, F1_coder, F1_count, V1, rfl⟩
theorem rm_il (l : Launch) (Z : State) (a0 : Array Value) (hw : HW a0 Z) (a : Addr) (h : Heap) (n0 : Nat) (Ds : List Addr) (own_cs : CompactOn Z) (E_a : Exa Z h a "java/lang/StringBuilder") (F_coder : Fld Z h a "java/lang/AbstractStringBuilder" "coder" "B" (.int (0 : Int32))) :
    Ctr l Z (⟨"java/lang/AbstractStringBuilder", "isLatin1", "()Z"⟩ : MethodName) jdk_68_method_68_code 1 (some .boolean) [] (rmo 0 0 0 0) #[.ref a] h n0 Ds (fun v h' Ds' => v = some (.int (1 : Int32)) ∧ h = h' ∧ Ds = Ds') := by
  refine ctr_of (Ls := #[.val (.ref a)]) (plainFor_of_name pn3) (fun m => by first | (simp [entryFrame, mkF, argsToLocals, Value.category]; done) | rfl) ?_
  intro C hl hret hnm R
  subst hl
  obtain ⟨zc, S_zc, hzc⟩ := id own_cs
  replace R := (((((R.getS (pc' := 3) (host := "") (Or.inl (w94 hw)) Via.refl S_zc d26_0 rfl).ifN (pc' := 6) d26_3 (feq hzc).1 rfl).aloadN (pc' := 7) (v := (.ref a)) d26_6 rfl rfl rfl).getF (pc' := 10) (host := "") (Or.inl (w97 hw)) Via.refl F_coder d26_7 rfl).ifN (pc' := 13) d26_10 (teq (by decide : (0 : Int32) = (0 : Int32))).2 rfl).iconst (pc' := 14) (z := (1 : Int32)) d26_13 rfl rfl
  replace R := R.goto (pc' := 18) d26_14 (by decide) rfl
  exact R.retN (Ds' := Ds) hret (by simp) (show nar .boolean (1 : Int32) = (1 : Int32) from rfl) d26_18 (by decide) (by decide) (fun _ q => q) ⟨rfl, rfl, rfl⟩
def s_sz (p0 : Int32) : Int32 := if p0 < (0 : Int32) then (if (-10 : Int32) < p0 then (2 : Int32) else (if (-100 : Int32) < p0 then (3 : Int32) else (if (-1000 : Int32) < p0 then (4 : Int32) else (if (-10000 : Int32) < p0 then (5 : Int32) else (if (-100000 : Int32) < p0 then (6 : Int32) else (if (-1000000 : Int32) < p0 then (7 : Int32) else (if (-10000000 : Int32) < p0 then (8 : Int32) else (if (-100000000 : Int32) < p0 then (9 : Int32) else (if (-1000000000 : Int32) < p0 then (10 : Int32) else (11 : Int32)))))))))) else (if (-10 : Int32) < (-p0) then (1 : Int32) else (if (-100 : Int32) < (-p0) then (2 : Int32) else (if (-1000 : Int32) < (-p0) then (3 : Int32) else (if (-10000 : Int32) < (-p0) then (4 : Int32) else (if (-100000 : Int32) < (-p0) then (5 : Int32) else (if (-1000000 : Int32) < (-p0) then (6 : Int32) else (if (-10000000 : Int32) < (-p0) then (7 : Int32) else (if (-100000000 : Int32) < (-p0) then (8 : Int32) else (if (-1000000000 : Int32) < (-p0) then (9 : Int32) else (10 : Int32))))))))))
theorem rm_szT (l : Launch) (Z : State) (a0 : Array Value) (hw : HW a0 Z) (p0 : Int32) (h : Heap) (n0 : Nat) (Ds : List Addr) :
    Ctr l Z (⟨"java/lang/Integer", "stringSize", "(I)I"⟩ : MethodName) jdk_33_method_13_code 4 (some .int) [] (rmo 0 0 0 0) #[(.int p0)] h n0 Ds (fun v h' Ds' => v = some (.int (s_sz p0)) ∧ h = h' ∧ Ds = Ds') := by
  refine ctr_of (Ls := #[.val (.int p0), .unset, .unset, .unset]) (plainFor_of_name pn7) (fun m => by first | (simp [entryFrame, mkF, argsToLocals, Value.category]; done) | rfl) ?_
  intro C hl hret hnm R
  subst hl
  replace R := ((R.iconst (pc' := 1) (z := (1 : Int32)) d25_0 rfl rfl).istoreN (pc' := 2) (l' := #[.val (.int p0), .val (.int (1 : Int32)), .unset, .unset]) d25_1 rfl rfl).iloadN (pc' := 3) d25_2 rfl rfl
  by_cases hc1 : p0 < (0 : Int32)
  · replace R := R.ifY (pc' := 11) d25_3 (tlt hc1).1 (by decide) rfl
    replace R := (((((R.bipush (pc' := 13) (z := (-10 : Int32)) d25_11 rfl rfl).istoreN (pc' := 14) (l' := #[.val (.int p0), .val (.int (1 : Int32)), .val (.int (-10 : Int32)), .unset]) d25_13 rfl rfl).iconst (pc' := 15) (z := (1 : Int32)) d25_14 rfl rfl).istoreN (pc' := 16) (l' := #[.val (.int p0), .val (.int (1 : Int32)), .val (.int (-10 : Int32)), .val (.int (1 : Int32))]) d25_15 rfl rfl).iloadN (pc' := 17) d25_16 rfl rfl).bipush (pc' := 19) (z := (10 : Int32)) d25_17 rfl rfl
    replace R := ((R.icmpN (pc' := 22) d25_19 (tlt (by decide : (1 : Int32) < (10 : Int32))).2.1 rfl).iloadN (pc' := 23) d25_22 rfl rfl).iloadN (pc' := 24) d25_23 rfl rfl
    by_cases hc2 : (-10 : Int32) < p0
    · replace R := R.icmpN (pc' := 27) d25_24 (tlt hc2).2.2.2 rfl
      replace R := (((R.iloadN (pc' := 28) d25_27 rfl rfl).iloadN (pc' := 29) d25_28 rfl rfl).iadd (pc' := 30) d25_29 rfl).stk (S' := [(.int (2 : Int32))]) rfl
      have hv : (2 : Int32) = (s_sz p0) := by unfold s_sz; rw [if_pos hc1, if_pos hc2]
      exact R.retI (Ds' := Ds) hret d25_30 (by decide) (by decide) (fun _ q => q) ⟨congrArg (fun z => some (Value.int z)) hv, rfl, rfl⟩
    · replace R := R.icmpY (pc' := 31) d25_24 (flt hc2).2.2.2 (by decide) rfl
      replace R := (((((R.bipush (pc' := 33) (z := (10 : Int32)) d25_31 rfl rfl).iloadN (pc' := 34) d25_33 rfl rfl).imul (pc' := 35) d25_34 rfl).stk (S' := [(.int (-100 : Int32))]) rfl).istoreN (pc' := 36) (l' := #[.val (.int p0), .val (.int (1 : Int32)), .val (.int (-100 : Int32)), .val (.int (1 : Int32))]) d25_35 rfl rfl).iinc (pc' := 39) (l' := #[.val (.int p0), .val (.int (1 : Int32)), .val (.int (-100 : Int32)), .val (.int (2 : Int32))]) d25_36 rfl rfl rfl
      replace R := (((((R.goto (pc' := 16) d25_39 (by decide) rfl).iloadN (pc' := 17) d25_16 rfl rfl).bipush (pc' := 19) (z := (10 : Int32)) d25_17 rfl rfl).icmpN (pc' := 22) d25_19 (tlt (by decide : (2 : Int32) < (10 : Int32))).2.1 rfl).iloadN (pc' := 23) d25_22 rfl rfl).iloadN (pc' := 24) d25_23 rfl rfl
      by_cases hc3 : (-100 : Int32) < p0
      · replace R := R.icmpN (pc' := 27) d25_24 (tlt hc3).2.2.2 rfl
        replace R := (((R.iloadN (pc' := 28) d25_27 rfl rfl).iloadN (pc' := 29) d25_28 rfl rfl).iadd (pc' := 30) d25_29 rfl).stk (S' := [(.int (3 : Int32))]) rfl
        have hv : (3 : Int32) = (s_sz p0) := by unfold s_sz; rw [if_pos hc1, if_neg hc2, if_pos hc3]
        exact R.retI (Ds' := Ds) hret d25_30 (by decide) (by decide) (fun _ q => q) ⟨congrArg (fun z => some (Value.int z)) hv, rfl, rfl⟩
      · replace R := R.icmpY (pc' := 31) d25_24 (flt hc3).2.2.2 (by decide) rfl
        replace R := (((((R.bipush (pc' := 33) (z := (10 : Int32)) d25_31 rfl rfl).iloadN (pc' := 34) d25_33 rfl rfl).imul (pc' := 35) d25_34 rfl).stk (S' := [(.int (-1000 : Int32))]) rfl).istoreN (pc' := 36) (l' := #[.val (.int p0), .val (.int (1 : Int32)), .val (.int (-1000 : Int32)), .val (.int (2 : Int32))]) d25_35 rfl rfl).iinc (pc' := 39) (l' := #[.val (.int p0), .val (.int (1 : Int32)), .val (.int (-1000 : Int32)), .val (.int (3 : Int32))]) d25_36 rfl rfl rfl
        replace R := (((((R.goto (pc' := 16) d25_39 (by decide) rfl).iloadN (pc' := 17) d25_16 rfl rfl).bipush (pc' := 19) (z := (10 : Int32)) d25_17 rfl rfl).icmpN (pc' := 22) d25_19 (tlt (by decide : (3 : Int32) < (10 : Int32))).2.1 rfl).iloadN (pc' := 23) d25_22 rfl rfl).iloadN (pc' := 24) d25_23 rfl rfl
        by_cases hc4 : (-1000 : Int32) < p0
        · replace R := R.icmpN (pc' := 27) d25_24 (tlt hc4).2.2.2 rfl
          replace R := (((R.iloadN (pc' := 28) d25_27 rfl rfl).iloadN (pc' := 29) d25_28 rfl rfl).iadd (pc' := 30) d25_29 rfl).stk (S' := [(.int (4 : Int32))]) rfl
          have hv : (4 : Int32) = (s_sz p0) := by unfold s_sz; rw [if_pos hc1, if_neg hc2, if_neg hc3, if_pos hc4]
          exact R.retI (Ds' := Ds) hret d25_30 (by decide) (by decide) (fun _ q => q) ⟨congrArg (fun z => some (Value.int z)) hv, rfl, rfl⟩
        · replace R := R.icmpY (pc' := 31) d25_24 (flt hc4).2.2.2 (by decide) rfl
          replace R := (((((R.bipush (pc' := 33) (z := (10 : Int32)) d25_31 rfl rfl).iloadN (pc' := 34) d25_33 rfl rfl).imul (pc' := 35) d25_34 rfl).stk (S' := [(.int (-10000 : Int32))]) rfl).istoreN (pc' := 36) (l' := #[.val (.int p0), .val (.int (1 : Int32)), .val (.int (-10000 : Int32)), .val (.int (3 : Int32))]) d25_35 rfl rfl).iinc (pc' := 39) (l' := #[.val (.int p0), .val (.int (1 : Int32)), .val (.int (-10000 : Int32)), .val (.int (4 : Int32))]) d25_36 rfl rfl rfl
          replace R := (((((R.goto (pc' := 16) d25_39 (by decide) rfl).iloadN (pc' := 17) d25_16 rfl rfl).bipush (pc' := 19) (z := (10 : Int32)) d25_17 rfl rfl).icmpN (pc' := 22) d25_19 (tlt (by decide : (4 : Int32) < (10 : Int32))).2.1 rfl).iloadN (pc' := 23) d25_22 rfl rfl).iloadN (pc' := 24) d25_23 rfl rfl
          by_cases hc5 : (-10000 : Int32) < p0
          · replace R := R.icmpN (pc' := 27) d25_24 (tlt hc5).2.2.2 rfl
            replace R := (((R.iloadN (pc' := 28) d25_27 rfl rfl).iloadN (pc' := 29) d25_28 rfl rfl).iadd (pc' := 30) d25_29 rfl).stk (S' := [(.int (5 : Int32))]) rfl
            have hv : (5 : Int32) = (s_sz p0) := by unfold s_sz; rw [if_pos hc1, if_neg hc2, if_neg hc3, if_neg hc4, if_pos hc5]
            exact R.retI (Ds' := Ds) hret d25_30 (by decide) (by decide) (fun _ q => q) ⟨congrArg (fun z => some (Value.int z)) hv, rfl, rfl⟩
          · replace R := R.icmpY (pc' := 31) d25_24 (flt hc5).2.2.2 (by decide) rfl
            replace R := (((((R.bipush (pc' := 33) (z := (10 : Int32)) d25_31 rfl rfl).iloadN (pc' := 34) d25_33 rfl rfl).imul (pc' := 35) d25_34 rfl).stk (S' := [(.int (-100000 : Int32))]) rfl).istoreN (pc' := 36) (l' := #[.val (.int p0), .val (.int (1 : Int32)), .val (.int (-100000 : Int32)), .val (.int (4 : Int32))]) d25_35 rfl rfl).iinc (pc' := 39) (l' := #[.val (.int p0), .val (.int (1 : Int32)), .val (.int (-100000 : Int32)), .val (.int (5 : Int32))]) d25_36 rfl rfl rfl
            replace R := (((((R.goto (pc' := 16) d25_39 (by decide) rfl).iloadN (pc' := 17) d25_16 rfl rfl).bipush (pc' := 19) (z := (10 : Int32)) d25_17 rfl rfl).icmpN (pc' := 22) d25_19 (tlt (by decide : (5 : Int32) < (10 : Int32))).2.1 rfl).iloadN (pc' := 23) d25_22 rfl rfl).iloadN (pc' := 24) d25_23 rfl rfl
            by_cases hc6 : (-100000 : Int32) < p0
            · replace R := R.icmpN (pc' := 27) d25_24 (tlt hc6).2.2.2 rfl
              replace R := (((R.iloadN (pc' := 28) d25_27 rfl rfl).iloadN (pc' := 29) d25_28 rfl rfl).iadd (pc' := 30) d25_29 rfl).stk (S' := [(.int (6 : Int32))]) rfl
              have hv : (6 : Int32) = (s_sz p0) := by unfold s_sz; rw [if_pos hc1, if_neg hc2, if_neg hc3, if_neg hc4, if_neg hc5, if_pos hc6]
              exact R.retI (Ds' := Ds) hret d25_30 (by decide) (by decide) (fun _ q => q) ⟨congrArg (fun z => some (Value.int z)) hv, rfl, rfl⟩
            · replace R := R.icmpY (pc' := 31) d25_24 (flt hc6).2.2.2 (by decide) rfl
              replace R := (((((R.bipush (pc' := 33) (z := (10 : Int32)) d25_31 rfl rfl).iloadN (pc' := 34) d25_33 rfl rfl).imul (pc' := 35) d25_34 rfl).stk (S' := [(.int (-1000000 : Int32))]) rfl).istoreN (pc' := 36) (l' := #[.val (.int p0), .val (.int (1 : Int32)), .val (.int (-1000000 : Int32)), .val (.int (5 : Int32))]) d25_35 rfl rfl).iinc (pc' := 39) (l' := #[.val (.int p0), .val (.int (1 : Int32)), .val (.int (-1000000 : Int32)), .val (.int (6 : Int32))]) d25_36 rfl rfl rfl
              replace R := (((((R.goto (pc' := 16) d25_39 (by decide) rfl).iloadN (pc' := 17) d25_16 rfl rfl).bipush (pc' := 19) (z := (10 : Int32)) d25_17 rfl rfl).icmpN (pc' := 22) d25_19 (tlt (by decide : (6 : Int32) < (10 : Int32))).2.1 rfl).iloadN (pc' := 23) d25_22 rfl rfl).iloadN (pc' := 24) d25_23 rfl rfl
              by_cases hc7 : (-1000000 : Int32) < p0
              · replace R := R.icmpN (pc' := 27) d25_24 (tlt hc7).2.2.2 rfl
                replace R := (((R.iloadN (pc' := 28) d25_27 rfl rfl).iloadN (pc' := 29) d25_28 rfl rfl).iadd (pc' := 30) d25_29 rfl).stk (S' := [(.int (7 : Int32))]) rfl
                have hv : (7 : Int32) = (s_sz p0) := by unfold s_sz; rw [if_pos hc1, if_neg hc2, if_neg hc3, if_neg hc4, if_neg hc5, if_neg hc6, if_pos hc7]
                exact R.retI (Ds' := Ds) hret d25_30 (by decide) (by decide) (fun _ q => q) ⟨congrArg (fun z => some (Value.int z)) hv, rfl, rfl⟩
              · replace R := R.icmpY (pc' := 31) d25_24 (flt hc7).2.2.2 (by decide) rfl
                replace R := (((((R.bipush (pc' := 33) (z := (10 : Int32)) d25_31 rfl rfl).iloadN (pc' := 34) d25_33 rfl rfl).imul (pc' := 35) d25_34 rfl).stk (S' := [(.int (-10000000 : Int32))]) rfl).istoreN (pc' := 36) (l' := #[.val (.int p0), .val (.int (1 : Int32)), .val (.int (-10000000 : Int32)), .val (.int (6 : Int32))]) d25_35 rfl rfl).iinc (pc' := 39) (l' := #[.val (.int p0), .val (.int (1 : Int32)), .val (.int (-10000000 : Int32)), .val (.int (7 : Int32))]) d25_36 rfl rfl rfl
                replace R := (((((R.goto (pc' := 16) d25_39 (by decide) rfl).iloadN (pc' := 17) d25_16 rfl rfl).bipush (pc' := 19) (z := (10 : Int32)) d25_17 rfl rfl).icmpN (pc' := 22) d25_19 (tlt (by decide : (7 : Int32) < (10 : Int32))).2.1 rfl).iloadN (pc' := 23) d25_22 rfl rfl).iloadN (pc' := 24) d25_23 rfl rfl
                by_cases hc8 : (-10000000 : Int32) < p0
                · replace R := R.icmpN (pc' := 27) d25_24 (tlt hc8).2.2.2 rfl
                  replace R := (((R.iloadN (pc' := 28) d25_27 rfl rfl).iloadN (pc' := 29) d25_28 rfl rfl).iadd (pc' := 30) d25_29 rfl).stk (S' := [(.int (8 : Int32))]) rfl
                  have hv : (8 : Int32) = (s_sz p0) := by unfold s_sz; rw [if_pos hc1, if_neg hc2, if_neg hc3, if_neg hc4, if_neg hc5, if_neg hc6, if_neg hc7, if_pos hc8]
                  exact R.retI (Ds' := Ds) hret d25_30 (by decide) (by decide) (fun _ q => q) ⟨congrArg (fun z => some (Value.int z)) hv, rfl, rfl⟩
                · replace R := R.icmpY (pc' := 31) d25_24 (flt hc8).2.2.2 (by decide) rfl
                  replace R := (((((R.bipush (pc' := 33) (z := (10 : Int32)) d25_31 rfl rfl).iloadN (pc' := 34) d25_33 rfl rfl).imul (pc' := 35) d25_34 rfl).stk (S' := [(.int (-100000000 : Int32))]) rfl).istoreN (pc' := 36) (l' := #[.val (.int p0), .val (.int (1 : Int32)), .val (.int (-100000000 : Int32)), .val (.int (7 : Int32))]) d25_35 rfl rfl).iinc (pc' := 39) (l' := #[.val (.int p0), .val (.int (1 : Int32)), .val (.int (-100000000 : Int32)), .val (.int (8 : Int32))]) d25_36 rfl rfl rfl
                  replace R := (((((R.goto (pc' := 16) d25_39 (by decide) rfl).iloadN (pc' := 17) d25_16 rfl rfl).bipush (pc' := 19) (z := (10 : Int32)) d25_17 rfl rfl).icmpN (pc' := 22) d25_19 (tlt (by decide : (8 : Int32) < (10 : Int32))).2.1 rfl).iloadN (pc' := 23) d25_22 rfl rfl).iloadN (pc' := 24) d25_23 rfl rfl
                  by_cases hc9 : (-100000000 : Int32) < p0
                  · replace R := R.icmpN (pc' := 27) d25_24 (tlt hc9).2.2.2 rfl
                    replace R := (((R.iloadN (pc' := 28) d25_27 rfl rfl).iloadN (pc' := 29) d25_28 rfl rfl).iadd (pc' := 30) d25_29 rfl).stk (S' := [(.int (9 : Int32))]) rfl
                    have hv : (9 : Int32) = (s_sz p0) := by unfold s_sz; rw [if_pos hc1, if_neg hc2, if_neg hc3, if_neg hc4, if_neg hc5, if_neg hc6, if_neg hc7, if_neg hc8, if_pos hc9]
                    exact R.retI (Ds' := Ds) hret d25_30 (by decide) (by decide) (fun _ q => q) ⟨congrArg (fun z => some (Value.int z)) hv, rfl, rfl⟩
                  · replace R := R.icmpY (pc' := 31) d25_24 (flt hc9).2.2.2 (by decide) rfl
                    replace R := (((((R.bipush (pc' := 33) (z := (10 : Int32)) d25_31 rfl rfl).iloadN (pc' := 34) d25_33 rfl rfl).imul (pc' := 35) d25_34 rfl).stk (S' := [(.int (-1000000000 : Int32))]) rfl).istoreN (pc' := 36) (l' := #[.val (.int p0), .val (.int (1 : Int32)), .val (.int (-1000000000 : Int32)), .val (.int (8 : Int32))]) d25_35 rfl rfl).iinc (pc' := 39) (l' := #[.val (.int p0), .val (.int (1 : Int32)), .val (.int (-1000000000 : Int32)), .val (.int (9 : Int32))]) d25_36 rfl rfl rfl
                    replace R := (((((R.goto (pc' := 16) d25_39 (by decide) rfl).iloadN (pc' := 17) d25_16 rfl rfl).bipush (pc' := 19) (z := (10 : Int32)) d25_17 rfl rfl).icmpN (pc' := 22) d25_19 (tlt (by decide : (9 : Int32) < (10 : Int32))).2.1 rfl).iloadN (pc' := 23) d25_22 rfl rfl).iloadN (pc' := 24) d25_23 rfl rfl
                    by_cases hc10 : (-1000000000 : Int32) < p0
                    · replace R := R.icmpN (pc' := 27) d25_24 (tlt hc10).2.2.2 rfl
                      replace R := (((R.iloadN (pc' := 28) d25_27 rfl rfl).iloadN (pc' := 29) d25_28 rfl rfl).iadd (pc' := 30) d25_29 rfl).stk (S' := [(.int (10 : Int32))]) rfl
                      have hv : (10 : Int32) = (s_sz p0) := by unfold s_sz; rw [if_pos hc1, if_neg hc2, if_neg hc3, if_neg hc4, if_neg hc5, if_neg hc6, if_neg hc7, if_neg hc8, if_neg hc9, if_pos hc10]
                      exact R.retI (Ds' := Ds) hret d25_30 (by decide) (by decide) (fun _ q => q) ⟨congrArg (fun z => some (Value.int z)) hv, rfl, rfl⟩
                    · replace R := R.icmpY (pc' := 31) d25_24 (flt hc10).2.2.2 (by decide) rfl
                      replace R := (((((R.bipush (pc' := 33) (z := (10 : Int32)) d25_31 rfl rfl).iloadN (pc' := 34) d25_33 rfl rfl).imul (pc' := 35) d25_34 rfl).stk (S' := [(.int (-10000000000 : Int32))]) rfl).istoreN (pc' := 36) (l' := #[.val (.int p0), .val (.int (1 : Int32)), .val (.int (-10000000000 : Int32)), .val (.int (9 : Int32))]) d25_35 rfl rfl).iinc (pc' := 39) (l' := #[.val (.int p0), .val (.int (1 : Int32)), .val (.int (-10000000000 : Int32)), .val (.int (10 : Int32))]) d25_36 rfl rfl rfl
                      replace R := (((((R.goto (pc' := 16) d25_39 (by decide) rfl).iloadN (pc' := 17) d25_16 rfl rfl).bipush (pc' := 19) (z := (10 : Int32)) d25_17 rfl rfl).icmpY (pc' := 42) d25_19 (flt (by decide : ¬ ((10 : Int32) < (10 : Int32)))).2.1 (by decide) rfl).bipush (pc' := 44) (z := (10 : Int32)) d25_42 rfl rfl).iloadN (pc' := 45) d25_44 rfl rfl
                      replace R := (R.iadd (pc' := 46) d25_45 rfl).stk (S' := [(.int (11 : Int32))]) rfl
                      have hv : (11 : Int32) = (s_sz p0) := by unfold s_sz; rw [if_pos hc1, if_neg hc2, if_neg hc3, if_neg hc4, if_neg hc5, if_neg hc6, if_neg hc7, if_neg hc8, if_neg hc9, if_neg hc10]
                      exact R.retI (Ds' := Ds) hret d25_46 (by decide) (by decide) (fun _ q => q) ⟨congrArg (fun z => some (Value.int z)) hv, rfl, rfl⟩
  · replace R := R.ifN (pc' := 6) d25_3 (flt hc1).1 rfl
    replace R := (((((R.iconst (pc' := 7) (z := (0 : Int32)) d25_6 rfl rfl).istoreN (pc' := 8) (l' := #[.val (.int p0), .val (.int (0 : Int32)), .unset, .unset]) d25_7 rfl rfl).iloadN (pc' := 9) d25_8 rfl rfl).ineg (pc' := 10) d25_9 rfl).istoreN (pc' := 11) (l' := #[.val (.int (-p0)), .val (.int (0 : Int32)), .unset, .unset]) d25_10 rfl rfl).bipush (pc' := 13) (z := (-10 : Int32)) d25_11 rfl rfl
    replace R := (((((R.istoreN (pc' := 14) (l' := #[.val (.int (-p0)), .val (.int (0 : Int32)), .val (.int (-10 : Int32)), .unset]) d25_13 rfl rfl).iconst (pc' := 15) (z := (1 : Int32)) d25_14 rfl rfl).istoreN (pc' := 16) (l' := #[.val (.int (-p0)), .val (.int (0 : Int32)), .val (.int (-10 : Int32)), .val (.int (1 : Int32))]) d25_15 rfl rfl).iloadN (pc' := 17) d25_16 rfl rfl).bipush (pc' := 19) (z := (10 : Int32)) d25_17 rfl rfl).icmpN (pc' := 22) d25_19 (tlt (by decide : (1 : Int32) < (10 : Int32))).2.1 rfl
    replace R := (R.iloadN (pc' := 23) d25_22 rfl rfl).iloadN (pc' := 24) d25_23 rfl rfl
    by_cases hc11 : (-10 : Int32) < (-p0)
    · replace R := R.icmpN (pc' := 27) d25_24 (tlt hc11).2.2.2 rfl
      replace R := (((R.iloadN (pc' := 28) d25_27 rfl rfl).iloadN (pc' := 29) d25_28 rfl rfl).iadd (pc' := 30) d25_29 rfl).stk (S' := [(.int (1 : Int32))]) rfl
      have hv : (1 : Int32) = (s_sz p0) := by unfold s_sz; rw [if_neg hc1, if_pos hc11]
      exact R.retI (Ds' := Ds) hret d25_30 (by decide) (by decide) (fun _ q => q) ⟨congrArg (fun z => some (Value.int z)) hv, rfl, rfl⟩
    · replace R := R.icmpY (pc' := 31) d25_24 (flt hc11).2.2.2 (by decide) rfl
      replace R := (((((R.bipush (pc' := 33) (z := (10 : Int32)) d25_31 rfl rfl).iloadN (pc' := 34) d25_33 rfl rfl).imul (pc' := 35) d25_34 rfl).stk (S' := [(.int (-100 : Int32))]) rfl).istoreN (pc' := 36) (l' := #[.val (.int (-p0)), .val (.int (0 : Int32)), .val (.int (-100 : Int32)), .val (.int (1 : Int32))]) d25_35 rfl rfl).iinc (pc' := 39) (l' := #[.val (.int (-p0)), .val (.int (0 : Int32)), .val (.int (-100 : Int32)), .val (.int (2 : Int32))]) d25_36 rfl rfl rfl
      replace R := (((((R.goto (pc' := 16) d25_39 (by decide) rfl).iloadN (pc' := 17) d25_16 rfl rfl).bipush (pc' := 19) (z := (10 : Int32)) d25_17 rfl rfl).icmpN (pc' := 22) d25_19 (tlt (by decide : (2 : Int32) < (10 : Int32))).2.1 rfl).iloadN (pc' := 23) d25_22 rfl rfl).iloadN (pc' := 24) d25_23 rfl rfl
      by_cases hc12 : (-100 : Int32) < (-p0)
      · replace R := R.icmpN (pc' := 27) d25_24 (tlt hc12).2.2.2 rfl
        replace R := (((R.iloadN (pc' := 28) d25_27 rfl rfl).iloadN (pc' := 29) d25_28 rfl rfl).iadd (pc' := 30) d25_29 rfl).stk (S' := [(.int (2 : Int32))]) rfl
        have hv : (2 : Int32) = (s_sz p0) := by unfold s_sz; rw [if_neg hc1, if_neg hc11, if_pos hc12]
        exact R.retI (Ds' := Ds) hret d25_30 (by decide) (by decide) (fun _ q => q) ⟨congrArg (fun z => some (Value.int z)) hv, rfl, rfl⟩
      · replace R := R.icmpY (pc' := 31) d25_24 (flt hc12).2.2.2 (by decide) rfl
        replace R := (((((R.bipush (pc' := 33) (z := (10 : Int32)) d25_31 rfl rfl).iloadN (pc' := 34) d25_33 rfl rfl).imul (pc' := 35) d25_34 rfl).stk (S' := [(.int (-1000 : Int32))]) rfl).istoreN (pc' := 36) (l' := #[.val (.int (-p0)), .val (.int (0 : Int32)), .val (.int (-1000 : Int32)), .val (.int (2 : Int32))]) d25_35 rfl rfl).iinc (pc' := 39) (l' := #[.val (.int (-p0)), .val (.int (0 : Int32)), .val (.int (-1000 : Int32)), .val (.int (3 : Int32))]) d25_36 rfl rfl rfl
        replace R := (((((R.goto (pc' := 16) d25_39 (by decide) rfl).iloadN (pc' := 17) d25_16 rfl rfl).bipush (pc' := 19) (z := (10 : Int32)) d25_17 rfl rfl).icmpN (pc' := 22) d25_19 (tlt (by decide : (3 : Int32) < (10 : Int32))).2.1 rfl).iloadN (pc' := 23) d25_22 rfl rfl).iloadN (pc' := 24) d25_23 rfl rfl
        by_cases hc13 : (-1000 : Int32) < (-p0)
        · replace R := R.icmpN (pc' := 27) d25_24 (tlt hc13).2.2.2 rfl
          replace R := (((R.iloadN (pc' := 28) d25_27 rfl rfl).iloadN (pc' := 29) d25_28 rfl rfl).iadd (pc' := 30) d25_29 rfl).stk (S' := [(.int (3 : Int32))]) rfl
          have hv : (3 : Int32) = (s_sz p0) := by unfold s_sz; rw [if_neg hc1, if_neg hc11, if_neg hc12, if_pos hc13]
          exact R.retI (Ds' := Ds) hret d25_30 (by decide) (by decide) (fun _ q => q) ⟨congrArg (fun z => some (Value.int z)) hv, rfl, rfl⟩
        · replace R := R.icmpY (pc' := 31) d25_24 (flt hc13).2.2.2 (by decide) rfl
          replace R := (((((R.bipush (pc' := 33) (z := (10 : Int32)) d25_31 rfl rfl).iloadN (pc' := 34) d25_33 rfl rfl).imul (pc' := 35) d25_34 rfl).stk (S' := [(.int (-10000 : Int32))]) rfl).istoreN (pc' := 36) (l' := #[.val (.int (-p0)), .val (.int (0 : Int32)), .val (.int (-10000 : Int32)), .val (.int (3 : Int32))]) d25_35 rfl rfl).iinc (pc' := 39) (l' := #[.val (.int (-p0)), .val (.int (0 : Int32)), .val (.int (-10000 : Int32)), .val (.int (4 : Int32))]) d25_36 rfl rfl rfl
          replace R := (((((R.goto (pc' := 16) d25_39 (by decide) rfl).iloadN (pc' := 17) d25_16 rfl rfl).bipush (pc' := 19) (z := (10 : Int32)) d25_17 rfl rfl).icmpN (pc' := 22) d25_19 (tlt (by decide : (4 : Int32) < (10 : Int32))).2.1 rfl).iloadN (pc' := 23) d25_22 rfl rfl).iloadN (pc' := 24) d25_23 rfl rfl
          by_cases hc14 : (-10000 : Int32) < (-p0)
          · replace R := R.icmpN (pc' := 27) d25_24 (tlt hc14).2.2.2 rfl
            replace R := (((R.iloadN (pc' := 28) d25_27 rfl rfl).iloadN (pc' := 29) d25_28 rfl rfl).iadd (pc' := 30) d25_29 rfl).stk (S' := [(.int (4 : Int32))]) rfl
            have hv : (4 : Int32) = (s_sz p0) := by unfold s_sz; rw [if_neg hc1, if_neg hc11, if_neg hc12, if_neg hc13, if_pos hc14]
            exact R.retI (Ds' := Ds) hret d25_30 (by decide) (by decide) (fun _ q => q) ⟨congrArg (fun z => some (Value.int z)) hv, rfl, rfl⟩
          · replace R := R.icmpY (pc' := 31) d25_24 (flt hc14).2.2.2 (by decide) rfl
            replace R := (((((R.bipush (pc' := 33) (z := (10 : Int32)) d25_31 rfl rfl).iloadN (pc' := 34) d25_33 rfl rfl).imul (pc' := 35) d25_34 rfl).stk (S' := [(.int (-100000 : Int32))]) rfl).istoreN (pc' := 36) (l' := #[.val (.int (-p0)), .val (.int (0 : Int32)), .val (.int (-100000 : Int32)), .val (.int (4 : Int32))]) d25_35 rfl rfl).iinc (pc' := 39) (l' := #[.val (.int (-p0)), .val (.int (0 : Int32)), .val (.int (-100000 : Int32)), .val (.int (5 : Int32))]) d25_36 rfl rfl rfl
            replace R := (((((R.goto (pc' := 16) d25_39 (by decide) rfl).iloadN (pc' := 17) d25_16 rfl rfl).bipush (pc' := 19) (z := (10 : Int32)) d25_17 rfl rfl).icmpN (pc' := 22) d25_19 (tlt (by decide : (5 : Int32) < (10 : Int32))).2.1 rfl).iloadN (pc' := 23) d25_22 rfl rfl).iloadN (pc' := 24) d25_23 rfl rfl
            by_cases hc15 : (-100000 : Int32) < (-p0)
            · replace R := R.icmpN (pc' := 27) d25_24 (tlt hc15).2.2.2 rfl
              replace R := (((R.iloadN (pc' := 28) d25_27 rfl rfl).iloadN (pc' := 29) d25_28 rfl rfl).iadd (pc' := 30) d25_29 rfl).stk (S' := [(.int (5 : Int32))]) rfl
              have hv : (5 : Int32) = (s_sz p0) := by unfold s_sz; rw [if_neg hc1, if_neg hc11, if_neg hc12, if_neg hc13, if_neg hc14, if_pos hc15]
              exact R.retI (Ds' := Ds) hret d25_30 (by decide) (by decide) (fun _ q => q) ⟨congrArg (fun z => some (Value.int z)) hv, rfl, rfl⟩
            · replace R := R.icmpY (pc' := 31) d25_24 (flt hc15).2.2.2 (by decide) rfl
              replace R := (((((R.bipush (pc' := 33) (z := (10 : Int32)) d25_31 rfl rfl).iloadN (pc' := 34) d25_33 rfl rfl).imul (pc' := 35) d25_34 rfl).stk (S' := [(.int (-1000000 : Int32))]) rfl).istoreN (pc' := 36) (l' := #[.val (.int (-p0)), .val (.int (0 : Int32)), .val (.int (-1000000 : Int32)), .val (.int (5 : Int32))]) d25_35 rfl rfl).iinc (pc' := 39) (l' := #[.val (.int (-p0)), .val (.int (0 : Int32)), .val (.int (-1000000 : Int32)), .val (.int (6 : Int32))]) d25_36 rfl rfl rfl
              replace R := (((((R.goto (pc' := 16) d25_39 (by decide) rfl).iloadN (pc' := 17) d25_16 rfl rfl).bipush (pc' := 19) (z := (10 : Int32)) d25_17 rfl rfl).icmpN (pc' := 22) d25_19 (tlt (by decide : (6 : Int32) < (10 : Int32))).2.1 rfl).iloadN (pc' := 23) d25_22 rfl rfl).iloadN (pc' := 24) d25_23 rfl rfl
              by_cases hc16 : (-1000000 : Int32) < (-p0)
              · replace R := R.icmpN (pc' := 27) d25_24 (tlt hc16).2.2.2 rfl
                replace R := (((R.iloadN (pc' := 28) d25_27 rfl rfl).iloadN (pc' := 29) d25_28 rfl rfl).iadd (pc' := 30) d25_29 rfl).stk (S' := [(.int (6 : Int32))]) rfl
                have hv : (6 : Int32) = (s_sz p0) := by unfold s_sz; rw [if_neg hc1, if_neg hc11, if_neg hc12, if_neg hc13, if_neg hc14, if_neg hc15, if_pos hc16]
                exact R.retI (Ds' := Ds) hret d25_30 (by decide) (by decide) (fun _ q => q) ⟨congrArg (fun z => some (Value.int z)) hv, rfl, rfl⟩
              · replace R := R.icmpY (pc' := 31) d25_24 (flt hc16).2.2.2 (by decide) rfl
                replace R := (((((R.bipush (pc' := 33) (z := (10 : Int32)) d25_31 rfl rfl).iloadN (pc' := 34) d25_33 rfl rfl).imul (pc' := 35) d25_34 rfl).stk (S' := [(.int (-10000000 : Int32))]) rfl).istoreN (pc' := 36) (l' := #[.val (.int (-p0)), .val (.int (0 : Int32)), .val (.int (-10000000 : Int32)), .val (.int (6 : Int32))]) d25_35 rfl rfl).iinc (pc' := 39) (l' := #[.val (.int (-p0)), .val (.int (0 : Int32)), .val (.int (-10000000 : Int32)), .val (.int (7 : Int32))]) d25_36 rfl rfl rfl
                replace R := (((((R.goto (pc' := 16) d25_39 (by decide) rfl).iloadN (pc' := 17) d25_16 rfl rfl).bipush (pc' := 19) (z := (10 : Int32)) d25_17 rfl rfl).icmpN (pc' := 22) d25_19 (tlt (by decide : (7 : Int32) < (10 : Int32))).2.1 rfl).iloadN (pc' := 23) d25_22 rfl rfl).iloadN (pc' := 24) d25_23 rfl rfl
                by_cases hc17 : (-10000000 : Int32) < (-p0)
                · replace R := R.icmpN (pc' := 27) d25_24 (tlt hc17).2.2.2 rfl
                  replace R := (((R.iloadN (pc' := 28) d25_27 rfl rfl).iloadN (pc' := 29) d25_28 rfl rfl).iadd (pc' := 30) d25_29 rfl).stk (S' := [(.int (7 : Int32))]) rfl
                  have hv : (7 : Int32) = (s_sz p0) := by unfold s_sz; rw [if_neg hc1, if_neg hc11, if_neg hc12, if_neg hc13, if_neg hc14, if_neg hc15, if_neg hc16, if_pos hc17]
                  exact R.retI (Ds' := Ds) hret d25_30 (by decide) (by decide) (fun _ q => q) ⟨congrArg (fun z => some (Value.int z)) hv, rfl, rfl⟩
                · replace R := R.icmpY (pc' := 31) d25_24 (flt hc17).2.2.2 (by decide) rfl
                  replace R := (((((R.bipush (pc' := 33) (z := (10 : Int32)) d25_31 rfl rfl).iloadN (pc' := 34) d25_33 rfl rfl).imul (pc' := 35) d25_34 rfl).stk (S' := [(.int (-100000000 : Int32))]) rfl).istoreN (pc' := 36) (l' := #[.val (.int (-p0)), .val (.int (0 : Int32)), .val (.int (-100000000 : Int32)), .val (.int (7 : Int32))]) d25_35 rfl rfl).iinc (pc' := 39) (l' := #[.val (.int (-p0)), .val (.int (0 : Int32)), .val (.int (-100000000 : Int32)), .val (.int (8 : Int32))]) d25_36 rfl rfl rfl
                  replace R := (((((R.goto (pc' := 16) d25_39 (by decide) rfl).iloadN (pc' := 17) d25_16 rfl rfl).bipush (pc' := 19) (z := (10 : Int32)) d25_17 rfl rfl).icmpN (pc' := 22) d25_19 (tlt (by decide : (8 : Int32) < (10 : Int32))).2.1 rfl).iloadN (pc' := 23) d25_22 rfl rfl).iloadN (pc' := 24) d25_23 rfl rfl
                  by_cases hc18 : (-100000000 : Int32) < (-p0)
                  · replace R := R.icmpN (pc' := 27) d25_24 (tlt hc18).2.2.2 rfl
                    replace R := (((R.iloadN (pc' := 28) d25_27 rfl rfl).iloadN (pc' := 29) d25_28 rfl rfl).iadd (pc' := 30) d25_29 rfl).stk (S' := [(.int (8 : Int32))]) rfl
                    have hv : (8 : Int32) = (s_sz p0) := by unfold s_sz; rw [if_neg hc1, if_neg hc11, if_neg hc12, if_neg hc13, if_neg hc14, if_neg hc15, if_neg hc16, if_neg hc17, if_pos hc18]
                    exact R.retI (Ds' := Ds) hret d25_30 (by decide) (by decide) (fun _ q => q) ⟨congrArg (fun z => some (Value.int z)) hv, rfl, rfl⟩
                  · replace R := R.icmpY (pc' := 31) d25_24 (flt hc18).2.2.2 (by decide) rfl
                    replace R := (((((R.bipush (pc' := 33) (z := (10 : Int32)) d25_31 rfl rfl).iloadN (pc' := 34) d25_33 rfl rfl).imul (pc' := 35) d25_34 rfl).stk (S' := [(.int (-1000000000 : Int32))]) rfl).istoreN (pc' := 36) (l' := #[.val (.int (-p0)), .val (.int (0 : Int32)), .val (.int (-1000000000 : Int32)), .val (.int (8 : Int32))]) d25_35 rfl rfl).iinc (pc' := 39) (l' := #[.val (.int (-p0)), .val (.int (0 : Int32)), .val (.int (-1000000000 : Int32)), .val (.int (9 : Int32))]) d25_36 rfl rfl rfl
                    replace R := (((((R.goto (pc' := 16) d25_39 (by decide) rfl).iloadN (pc' := 17) d25_16 rfl rfl).bipush (pc' := 19) (z := (10 : Int32)) d25_17 rfl rfl).icmpN (pc' := 22) d25_19 (tlt (by decide : (9 : Int32) < (10 : Int32))).2.1 rfl).iloadN (pc' := 23) d25_22 rfl rfl).iloadN (pc' := 24) d25_23 rfl rfl
                    by_cases hc19 : (-1000000000 : Int32) < (-p0)
                    · replace R := R.icmpN (pc' := 27) d25_24 (tlt hc19).2.2.2 rfl
                      replace R := (((R.iloadN (pc' := 28) d25_27 rfl rfl).iloadN (pc' := 29) d25_28 rfl rfl).iadd (pc' := 30) d25_29 rfl).stk (S' := [(.int (9 : Int32))]) rfl
                      have hv : (9 : Int32) = (s_sz p0) := by unfold s_sz; rw [if_neg hc1, if_neg hc11, if_neg hc12, if_neg hc13, if_neg hc14, if_neg hc15, if_neg hc16, if_neg hc17, if_neg hc18, if_pos hc19]
                      exact R.retI (Ds' := Ds) hret d25_30 (by decide) (by decide) (fun _ q => q) ⟨congrArg (fun z => some (Value.int z)) hv, rfl, rfl⟩
                    · replace R := R.icmpY (pc' := 31) d25_24 (flt hc19).2.2.2 (by decide) rfl
                      replace R := (((((R.bipush (pc' := 33) (z := (10 : Int32)) d25_31 rfl rfl).iloadN (pc' := 34) d25_33 rfl rfl).imul (pc' := 35) d25_34 rfl).stk (S' := [(.int (-10000000000 : Int32))]) rfl).istoreN (pc' := 36) (l' := #[.val (.int (-p0)), .val (.int (0 : Int32)), .val (.int (-10000000000 : Int32)), .val (.int (9 : Int32))]) d25_35 rfl rfl).iinc (pc' := 39) (l' := #[.val (.int (-p0)), .val (.int (0 : Int32)), .val (.int (-10000000000 : Int32)), .val (.int (10 : Int32))]) d25_36 rfl rfl rfl
                      replace R := (((((R.goto (pc' := 16) d25_39 (by decide) rfl).iloadN (pc' := 17) d25_16 rfl rfl).bipush (pc' := 19) (z := (10 : Int32)) d25_17 rfl rfl).icmpY (pc' := 42) d25_19 (flt (by decide : ¬ ((10 : Int32) < (10 : Int32)))).2.1 (by decide) rfl).bipush (pc' := 44) (z := (10 : Int32)) d25_42 rfl rfl).iloadN (pc' := 45) d25_44 rfl rfl
                      replace R := (R.iadd (pc' := 46) d25_45 rfl).stk (S' := [(.int (10 : Int32))]) rfl
                      have hv : (10 : Int32) = (s_sz p0) := by unfold s_sz; rw [if_neg hc1, if_neg hc11, if_neg hc12, if_neg hc13, if_neg hc14, if_neg hc15, if_neg hc16, if_neg hc17, if_neg hc18, if_neg hc19]
                      exact R.retI (Ds' := Ds) hret d25_46 (by decide) (by decide) (fun _ q => q) ⟨congrArg (fun z => some (Value.int z)) hv, rfl, rfl⟩
theorem sz_eq (i : Int32) : s_sz i = Int32.ofNat (dec i).length := by
  rcases int_cases i with ⟨m, h0, h1, rfl⟩ | ⟨m, h1, rfl⟩
  · unfold s_sz; rw [if_pos (neg_lt0 h0 h1), dec_neg h0 h1]
    rcases nd_range (m := m) with ⟨e, q1⟩ | ⟨e, q1, q2⟩ | ⟨e, q1, q2⟩ | ⟨e, q1, q2⟩ | ⟨e, q1, q2⟩ | ⟨e, q1, q2⟩ | ⟨e, q1, q2⟩ | ⟨e, q1, q2⟩ | ⟨e, q1, q2⟩ | ⟨e, q1⟩
    · rw [if_pos (show (-10 : Int32) < (-(Int32.ofNat m)) from (ng_lt (K := 10) (by decide) (by omega)).mpr (by omega)), e, List.length_cons, digs_len]; rfl
    · rw [if_neg (show ¬ ((-10 : Int32) < (-(Int32.ofNat m))) from fun q => absurd ((ng_lt (K := 10) (by decide) (by omega)).mp q) (by omega)), if_pos (show (-100 : Int32) < (-(Int32.ofNat m)) from (ng_lt (K := 100) (by decide) (by omega)).mpr (by omega)), e, List.length_cons, digs_len]; rfl
    · rw [if_neg (show ¬ ((-10 : Int32) < (-(Int32.ofNat m))) from fun q => absurd ((ng_lt (K := 10) (by decide) (by omega)).mp q) (by omega)), if_neg (show ¬ ((-100 : Int32) < (-(Int32.ofNat m))) from fun q => absurd ((ng_lt (K := 100) (by decide) (by omega)).mp q) (by omega)), if_pos (show (-1000 : Int32) < (-(Int32.ofNat m)) from (ng_lt (K := 1000) (by decide) (by omega)).mpr (by omega)), e, List.length_cons, digs_len]; rfl
    · rw [if_neg (show ¬ ((-10 : Int32) < (-(Int32.ofNat m))) from fun q => absurd ((ng_lt (K := 10) (by decide) (by omega)).mp q) (by omega)), if_neg (show ¬ ((-100 : Int32) < (-(Int32.ofNat m))) from fun q => absurd ((ng_lt (K := 100) (by decide) (by omega)).mp q) (by omega)), if_neg (show ¬ ((-1000 : Int32) < (-(Int32.ofNat m))) from fun q => absurd ((ng_lt (K := 1000) (by decide) (by omega)).mp q) (by omega)), if_pos (show (-10000 : Int32) < (-(Int32.ofNat m)) from (ng_lt (K := 10000) (by decide) (by omega)).mpr (by omega)), e, List.length_cons, digs_len]; rfl
    · rw [if_neg (show ¬ ((-10 : Int32) < (-(Int32.ofNat m))) from fun q => absurd ((ng_lt (K := 10) (by decide) (by omega)).mp q) (by omega)), if_neg (show ¬ ((-100 : Int32) < (-(Int32.ofNat m))) from fun q => absurd ((ng_lt (K := 100) (by decide) (by omega)).mp q) (by omega)), if_neg (show ¬ ((-1000 : Int32) < (-(Int32.ofNat m))) from fun q => absurd ((ng_lt (K := 1000) (by decide) (by omega)).mp q) (by omega)), if_neg (show ¬ ((-10000 : Int32) < (-(Int32.ofNat m))) from fun q => absurd ((ng_lt (K := 10000) (by decide) (by omega)).mp q) (by omega)), if_pos (show (-100000 : Int32) < (-(Int32.ofNat m)) from (ng_lt (K := 100000) (by decide) (by omega)).mpr (by omega)), e, List.length_cons, digs_len]; rfl
    · rw [if_neg (show ¬ ((-10 : Int32) < (-(Int32.ofNat m))) from fun q => absurd ((ng_lt (K := 10) (by decide) (by omega)).mp q) (by omega)), if_neg (show ¬ ((-100 : Int32) < (-(Int32.ofNat m))) from fun q => absurd ((ng_lt (K := 100) (by decide) (by omega)).mp q) (by omega)), if_neg (show ¬ ((-1000 : Int32) < (-(Int32.ofNat m))) from fun q => absurd ((ng_lt (K := 1000) (by decide) (by omega)).mp q) (by omega)), if_neg (show ¬ ((-10000 : Int32) < (-(Int32.ofNat m))) from fun q => absurd ((ng_lt (K := 10000) (by decide) (by omega)).mp q) (by omega)), if_neg (show ¬ ((-100000 : Int32) < (-(Int32.ofNat m))) from fun q => absurd ((ng_lt (K := 100000) (by decide) (by omega)).mp q) (by omega)), if_pos (show (-1000000 : Int32) < (-(Int32.ofNat m)) from (ng_lt (K := 1000000) (by decide) (by omega)).mpr (by omega)), e, List.length_cons, digs_len]; rfl
    · rw [if_neg (show ¬ ((-10 : Int32) < (-(Int32.ofNat m))) from fun q => absurd ((ng_lt (K := 10) (by decide) (by omega)).mp q) (by omega)), if_neg (show ¬ ((-100 : Int32) < (-(Int32.ofNat m))) from fun q => absurd ((ng_lt (K := 100) (by decide) (by omega)).mp q) (by omega)), if_neg (show ¬ ((-1000 : Int32) < (-(Int32.ofNat m))) from fun q => absurd ((ng_lt (K := 1000) (by decide) (by omega)).mp q) (by omega)), if_neg (show ¬ ((-10000 : Int32) < (-(Int32.ofNat m))) from fun q => absurd ((ng_lt (K := 10000) (by decide) (by omega)).mp q) (by omega)), if_neg (show ¬ ((-100000 : Int32) < (-(Int32.ofNat m))) from fun q => absurd ((ng_lt (K := 100000) (by decide) (by omega)).mp q) (by omega)), if_neg (show ¬ ((-1000000 : Int32) < (-(Int32.ofNat m))) from fun q => absurd ((ng_lt (K := 1000000) (by decide) (by omega)).mp q) (by omega)), if_pos (show (-10000000 : Int32) < (-(Int32.ofNat m)) from (ng_lt (K := 10000000) (by decide) (by omega)).mpr (by omega)), e, List.length_cons, digs_len]; rfl
    · rw [if_neg (show ¬ ((-10 : Int32) < (-(Int32.ofNat m))) from fun q => absurd ((ng_lt (K := 10) (by decide) (by omega)).mp q) (by omega)), if_neg (show ¬ ((-100 : Int32) < (-(Int32.ofNat m))) from fun q => absurd ((ng_lt (K := 100) (by decide) (by omega)).mp q) (by omega)), if_neg (show ¬ ((-1000 : Int32) < (-(Int32.ofNat m))) from fun q => absurd ((ng_lt (K := 1000) (by decide) (by omega)).mp q) (by omega)), if_neg (show ¬ ((-10000 : Int32) < (-(Int32.ofNat m))) from fun q => absurd ((ng_lt (K := 10000) (by decide) (by omega)).mp q) (by omega)), if_neg (show ¬ ((-100000 : Int32) < (-(Int32.ofNat m))) from fun q => absurd ((ng_lt (K := 100000) (by decide) (by omega)).mp q) (by omega)), if_neg (show ¬ ((-1000000 : Int32) < (-(Int32.ofNat m))) from fun q => absurd ((ng_lt (K := 1000000) (by decide) (by omega)).mp q) (by omega)), if_neg (show ¬ ((-10000000 : Int32) < (-(Int32.ofNat m))) from fun q => absurd ((ng_lt (K := 10000000) (by decide) (by omega)).mp q) (by omega)), if_pos (show (-100000000 : Int32) < (-(Int32.ofNat m)) from (ng_lt (K := 100000000) (by decide) (by omega)).mpr (by omega)), e, List.length_cons, digs_len]; rfl
    · rw [if_neg (show ¬ ((-10 : Int32) < (-(Int32.ofNat m))) from fun q => absurd ((ng_lt (K := 10) (by decide) (by omega)).mp q) (by omega)), if_neg (show ¬ ((-100 : Int32) < (-(Int32.ofNat m))) from fun q => absurd ((ng_lt (K := 100) (by decide) (by omega)).mp q) (by omega)), if_neg (show ¬ ((-1000 : Int32) < (-(Int32.ofNat m))) from fun q => absurd ((ng_lt (K := 1000) (by decide) (by omega)).mp q) (by omega)), if_neg (show ¬ ((-10000 : Int32) < (-(Int32.ofNat m))) from fun q => absurd ((ng_lt (K := 10000) (by decide) (by omega)).mp q) (by omega)), if_neg (show ¬ ((-100000 : Int32) < (-(Int32.ofNat m))) from fun q => absurd ((ng_lt (K := 100000) (by decide) (by omega)).mp q) (by omega)), if_neg (show ¬ ((-1000000 : Int32) < (-(Int32.ofNat m))) from fun q => absurd ((ng_lt (K := 1000000) (by decide) (by omega)).mp q) (by omega)), if_neg (show ¬ ((-10000000 : Int32) < (-(Int32.ofNat m))) from fun q => absurd ((ng_lt (K := 10000000) (by decide) (by omega)).mp q) (by omega)), if_neg (show ¬ ((-100000000 : Int32) < (-(Int32.ofNat m))) from fun q => absurd ((ng_lt (K := 100000000) (by decide) (by omega)).mp q) (by omega)), if_pos (show (-1000000000 : Int32) < (-(Int32.ofNat m)) from (ng_lt (K := 1000000000) (by decide) (by omega)).mpr (by omega)), e, List.length_cons, digs_len]; rfl
    · rw [if_neg (show ¬ ((-10 : Int32) < (-(Int32.ofNat m))) from fun q => absurd ((ng_lt (K := 10) (by decide) (by omega)).mp q) (by omega)), if_neg (show ¬ ((-100 : Int32) < (-(Int32.ofNat m))) from fun q => absurd ((ng_lt (K := 100) (by decide) (by omega)).mp q) (by omega)), if_neg (show ¬ ((-1000 : Int32) < (-(Int32.ofNat m))) from fun q => absurd ((ng_lt (K := 1000) (by decide) (by omega)).mp q) (by omega)), if_neg (show ¬ ((-10000 : Int32) < (-(Int32.ofNat m))) from fun q => absurd ((ng_lt (K := 10000) (by decide) (by omega)).mp q) (by omega)), if_neg (show ¬ ((-100000 : Int32) < (-(Int32.ofNat m))) from fun q => absurd ((ng_lt (K := 100000) (by decide) (by omega)).mp q) (by omega)), if_neg (show ¬ ((-1000000 : Int32) < (-(Int32.ofNat m))) from fun q => absurd ((ng_lt (K := 1000000) (by decide) (by omega)).mp q) (by omega)), if_neg (show ¬ ((-10000000 : Int32) < (-(Int32.ofNat m))) from fun q => absurd ((ng_lt (K := 10000000) (by decide) (by omega)).mp q) (by omega)), if_neg (show ¬ ((-100000000 : Int32) < (-(Int32.ofNat m))) from fun q => absurd ((ng_lt (K := 100000000) (by decide) (by omega)).mp q) (by omega)), if_neg (show ¬ ((-1000000000 : Int32) < (-(Int32.ofNat m))) from fun q => absurd ((ng_lt (K := 1000000000) (by decide) (by omega)).mp q) (by omega)), e, List.length_cons, digs_len]; rfl
  · unfold s_sz; rw [if_neg (pos_nlt0 h1), dec_pos h1]
    rcases nd_range (m := m) with ⟨e, q1⟩ | ⟨e, q1, q2⟩ | ⟨e, q1, q2⟩ | ⟨e, q1, q2⟩ | ⟨e, q1, q2⟩ | ⟨e, q1, q2⟩ | ⟨e, q1, q2⟩ | ⟨e, q1, q2⟩ | ⟨e, q1, q2⟩ | ⟨e, q1⟩
    · rw [if_pos (show (-10 : Int32) < (-(Int32.ofNat m)) from (ng_lt (K := 10) (by decide) (by omega)).mpr (by omega)), e, digs_len]; rfl
    · rw [if_neg (show ¬ ((-10 : Int32) < (-(Int32.ofNat m))) from fun q => absurd ((ng_lt (K := 10) (by decide) (by omega)).mp q) (by omega)), if_pos (show (-100 : Int32) < (-(Int32.ofNat m)) from (ng_lt (K := 100) (by decide) (by omega)).mpr (by omega)), e, digs_len]; rfl
    · rw [if_neg (show ¬ ((-10 : Int32) < (-(Int32.ofNat m))) from fun q => absurd ((ng_lt (K := 10) (by decide) (by omega)).mp q) (by omega)), if_neg (show ¬ ((-100 : Int32) < (-(Int32.ofNat m))) from fun q => absurd ((ng_lt (K := 100) (by decide) (by omega)).mp q) (by omega)), if_pos (show (-1000 : Int32) < (-(Int32.ofNat m)) from (ng_lt (K := 1000) (by decide) (by omega)).mpr (by omega)), e, digs_len]; rfl
    · rw [if_neg (show ¬ ((-10 : Int32) < (-(Int32.ofNat m))) from fun q => absurd ((ng_lt (K := 10) (by decide) (by omega)).mp q) (by omega)), if_neg (show ¬ ((-100 : Int32) < (-(Int32.ofNat m))) from fun q => absurd ((ng_lt (K := 100) (by decide) (by omega)).mp q) (by omega)), if_neg (show ¬ ((-1000 : Int32) < (-(Int32.ofNat m))) from fun q => absurd ((ng_lt (K := 1000) (by decide) (by omega)).mp q) (by omega)), if_pos (show (-10000 : Int32) < (-(Int32.ofNat m)) from (ng_lt (K := 10000) (by decide) (by omega)).mpr (by omega)), e, digs_len]; rfl
    · rw [if_neg (show ¬ ((-10 : Int32) < (-(Int32.ofNat m))) from fun q => absurd ((ng_lt (K := 10) (by decide) (by omega)).mp q) (by omega)), if_neg (show ¬ ((-100 : Int32) < (-(Int32.ofNat m))) from fun q => absurd ((ng_lt (K := 100) (by decide) (by omega)).mp q) (by omega)), if_neg (show ¬ ((-1000 : Int32) < (-(Int32.ofNat m))) from fun q => absurd ((ng_lt (K := 1000) (by decide) (by omega)).mp q) (by omega)), if_neg (show ¬ ((-10000 : Int32) < (-(Int32.ofNat m))) from fun q => absurd ((ng_lt (K := 10000) (by decide) (by omega)).mp q) (by omega)), if_pos (show (-100000 : Int32) < (-(Int32.ofNat m)) from (ng_lt (K := 100000) (by decide) (by omega)).mpr (by omega)), e, digs_len]; rfl
    · rw [if_neg (show ¬ ((-10 : Int32) < (-(Int32.ofNat m))) from fun q => absurd ((ng_lt (K := 10) (by decide) (by omega)).mp q) (by omega)), if_neg (show ¬ ((-100 : Int32) < (-(Int32.ofNat m))) from fun q => absurd ((ng_lt (K := 100) (by decide) (by omega)).mp q) (by omega)), if_neg (show ¬ ((-1000 : Int32) < (-(Int32.ofNat m))) from fun q => absurd ((ng_lt (K := 1000) (by decide) (by omega)).mp q) (by omega)), if_neg (show ¬ ((-10000 : Int32) < (-(Int32.ofNat m))) from fun q => absurd ((ng_lt (K := 10000) (by decide) (by omega)).mp q) (by omega)), if_neg (show ¬ ((-100000 : Int32) < (-(Int32.ofNat m))) from fun q => absurd ((ng_lt (K := 100000) (by decide) (by omega)).mp q) (by omega)), if_pos (show (-1000000 : Int32) < (-(Int32.ofNat m)) from (ng_lt (K := 1000000) (by decide) (by omega)).mpr (by omega)), e, digs_len]; rfl
    · rw [if_neg (show ¬ ((-10 : Int32) < (-(Int32.ofNat m))) from fun q => absurd ((ng_lt (K := 10) (by decide) (by omega)).mp q) (by omega)), if_neg (show ¬ ((-100 : Int32) < (-(Int32.ofNat m))) from fun q => absurd ((ng_lt (K := 100) (by decide) (by omega)).mp q) (by omega)), if_neg (show ¬ ((-1000 : Int32) < (-(Int32.ofNat m))) from fun q => absurd ((ng_lt (K := 1000) (by decide) (by omega)).mp q) (by omega)), if_neg (show ¬ ((-10000 : Int32) < (-(Int32.ofNat m))) from fun q => absurd ((ng_lt (K := 10000) (by decide) (by omega)).mp q) (by omega)), if_neg (show ¬ ((-100000 : Int32) < (-(Int32.ofNat m))) from fun q => absurd ((ng_lt (K := 100000) (by decide) (by omega)).mp q) (by omega)), if_neg (show ¬ ((-1000000 : Int32) < (-(Int32.ofNat m))) from fun q => absurd ((ng_lt (K := 1000000) (by decide) (by omega)).mp q) (by omega)), if_pos (show (-10000000 : Int32) < (-(Int32.ofNat m)) from (ng_lt (K := 10000000) (by decide) (by omega)).mpr (by omega)), e, digs_len]; rfl
    · rw [if_neg (show ¬ ((-10 : Int32) < (-(Int32.ofNat m))) from fun q => absurd ((ng_lt (K := 10) (by decide) (by omega)).mp q) (by omega)), if_neg (show ¬ ((-100 : Int32) < (-(Int32.ofNat m))) from fun q => absurd ((ng_lt (K := 100) (by decide) (by omega)).mp q) (by omega)), if_neg (show ¬ ((-1000 : Int32) < (-(Int32.ofNat m))) from fun q => absurd ((ng_lt (K := 1000) (by decide) (by omega)).mp q) (by omega)), if_neg (show ¬ ((-10000 : Int32) < (-(Int32.ofNat m))) from fun q => absurd ((ng_lt (K := 10000) (by decide) (by omega)).mp q) (by omega)), if_neg (show ¬ ((-100000 : Int32) < (-(Int32.ofNat m))) from fun q => absurd ((ng_lt (K := 100000) (by decide) (by omega)).mp q) (by omega)), if_neg (show ¬ ((-1000000 : Int32) < (-(Int32.ofNat m))) from fun q => absurd ((ng_lt (K := 1000000) (by decide) (by omega)).mp q) (by omega)), if_neg (show ¬ ((-10000000 : Int32) < (-(Int32.ofNat m))) from fun q => absurd ((ng_lt (K := 10000000) (by decide) (by omega)).mp q) (by omega)), if_pos (show (-100000000 : Int32) < (-(Int32.ofNat m)) from (ng_lt (K := 100000000) (by decide) (by omega)).mpr (by omega)), e, digs_len]; rfl
    · rw [if_neg (show ¬ ((-10 : Int32) < (-(Int32.ofNat m))) from fun q => absurd ((ng_lt (K := 10) (by decide) (by omega)).mp q) (by omega)), if_neg (show ¬ ((-100 : Int32) < (-(Int32.ofNat m))) from fun q => absurd ((ng_lt (K := 100) (by decide) (by omega)).mp q) (by omega)), if_neg (show ¬ ((-1000 : Int32) < (-(Int32.ofNat m))) from fun q => absurd ((ng_lt (K := 1000) (by decide) (by omega)).mp q) (by omega)), if_neg (show ¬ ((-10000 : Int32) < (-(Int32.ofNat m))) from fun q => absurd ((ng_lt (K := 10000) (by decide) (by omega)).mp q) (by omega)), if_neg (show ¬ ((-100000 : Int32) < (-(Int32.ofNat m))) from fun q => absurd ((ng_lt (K := 100000) (by decide) (by omega)).mp q) (by omega)), if_neg (show ¬ ((-1000000 : Int32) < (-(Int32.ofNat m))) from fun q => absurd ((ng_lt (K := 1000000) (by decide) (by omega)).mp q) (by omega)), if_neg (show ¬ ((-10000000 : Int32) < (-(Int32.ofNat m))) from fun q => absurd ((ng_lt (K := 10000000) (by decide) (by omega)).mp q) (by omega)), if_neg (show ¬ ((-100000000 : Int32) < (-(Int32.ofNat m))) from fun q => absurd ((ng_lt (K := 100000000) (by decide) (by omega)).mp q) (by omega)), if_pos (show (-1000000000 : Int32) < (-(Int32.ofNat m)) from (ng_lt (K := 1000000000) (by decide) (by omega)).mpr (by omega)), e, digs_len]; rfl
    · rw [if_neg (show ¬ ((-10 : Int32) < (-(Int32.ofNat m))) from fun q => absurd ((ng_lt (K := 10) (by decide) (by omega)).mp q) (by omega)), if_neg (show ¬ ((-100 : Int32) < (-(Int32.ofNat m))) from fun q => absurd ((ng_lt (K := 100) (by decide) (by omega)).mp q) (by omega)), if_neg (show ¬ ((-1000 : Int32) < (-(Int32.ofNat m))) from fun q => absurd ((ng_lt (K := 1000) (by decide) (by omega)).mp q) (by omega)), if_neg (show ¬ ((-10000 : Int32) < (-(Int32.ofNat m))) from fun q => absurd ((ng_lt (K := 10000) (by decide) (by omega)).mp q) (by omega)), if_neg (show ¬ ((-100000 : Int32) < (-(Int32.ofNat m))) from fun q => absurd ((ng_lt (K := 100000) (by decide) (by omega)).mp q) (by omega)), if_neg (show ¬ ((-1000000 : Int32) < (-(Int32.ofNat m))) from fun q => absurd ((ng_lt (K := 1000000) (by decide) (by omega)).mp q) (by omega)), if_neg (show ¬ ((-10000000 : Int32) < (-(Int32.ofNat m))) from fun q => absurd ((ng_lt (K := 10000000) (by decide) (by omega)).mp q) (by omega)), if_neg (show ¬ ((-100000000 : Int32) < (-(Int32.ofNat m))) from fun q => absurd ((ng_lt (K := 100000000) (by decide) (by omega)).mp q) (by omega)), if_neg (show ¬ ((-1000000000 : Int32) < (-(Int32.ofNat m))) from fun q => absurd ((ng_lt (K := 1000000000) (by decide) (by omega)).mp q) (by omega)), e, digs_len]; rfl
theorem rm_sz (l : Launch) (Z : State) (a0 : Array Value) (hw : HW a0 Z) (i : Int32) (h : Heap) (n0 : Nat) (Ds : List Addr) :
    Ctr l Z (⟨"java/lang/Integer", "stringSize", "(I)I"⟩ : MethodName) jdk_33_method_13_code 4 (some .int) [] (rmo 0 0 0 0) #[.int i] h n0 Ds (fun v h' Ds' => v = some (.int (Int32.ofNat (dec i).length)) ∧ h = h' ∧ Ds = Ds') := by
  rw [← sz_eq]; exact rm_szT l Z a0 hw i h n0 Ds
theorem gc_it {C : Cx} {rm : Room} {Z : State} {a0 : Array Value} (hw : HW a0 Z) {n0 ce sl : Nat} (own_dg : DgOk Z) {n cap : Nat} {x1 sg : Int32} {vb : Addr} {kb : ClassId} {Ds : List Addr} (hcap : cap ≤ 100) (hvb : vb ∈ Ds) {M : Nat} (hM : M ≤ 2147483648) {h : Heap} {vd : List Value} (hvl : vd.length = cap) (V_b : Arv Z h vb kb .byte (Int32.ofNat cap) vd (.int 0)) {L3 : Slot} (hL3 : L3 = .unset ∨ ∃ w : Value, L3 = .val w ∧ w.category = 1) {L4 : Slot} (hL4 : L4 = .unset ∨ ∃ w : Value, L4 = .val w ∧ w.category = 1) {c : Nat} (hlo : 100 ≤ M) (hn : n + (c + 2) ≤ cap)
    (R : Rc C rm "java/lang/Integer" jdk_33_method_12_code 7 Z n0 ce sl 22 #[.val (.int (-(Int32.ofNat M))), .val (.int x1), .val (.ref vb), L3, L4, .val (.int (Int32.ofNat (n + (c + 2)))), .val (.int sg)] [] h Ds) :
    ∃ h', Keep h h' [vb] ∧ Arv Z h' vb kb .byte (Int32.ofNat cap) ((vd.set (n + (c + 1)) (.int (dgt M 0))).set (n + c) (.int (dgt M 1))) (.int 0) ∧ Rc C rm "java/lang/Integer" jdk_33_method_12_code 7 Z n0 ce sl 22 #[.val (.int (-(Int32.ofNat (M / 100)))), .val (.int x1), .val (.ref vb), .val (.int (-(Int32.ofNat (M / 100)))), .val (.int (Int32.ofNat (M % 100))), .val (.int (Int32.ofNat (n + c))), .val (.int sg)] [] h' Ds := by
  obtain ⟨o1, k1, o2, k2, sO, vO, sT, vT⟩ := id own_dg
  have hK0 := (Keep.refl Z.heap []).ext R.old.2
  replace R := (((((R.iloadN (pc' := 23) d27_22 rfl rfl).bipush (pc' := 25) (z := (-100 : Int32)) d27_23 rfl rfl).icmpN (pc' := 28) d27_25 (flt (show ¬ ((-100 : Int32) < (-(Int32.ofNat M))) from fun q => absurd ((ng_lt (K := 100) (by decide) (by omega)).mp q) (by omega))).2.2.1 rfl).iloadN (pc' := 29) d27_28 rfl rfl).bipush (pc' := 31) (z := (100 : Int32)) d27_29 rfl rfl).idiv (pc' := 32) d27_31 (by decide) rfl
  replace R := R.stk (congrArg (fun z => ([Value.int z] : List Value)) (ng_div (by omega)))
  replace R := (((((R.istoreN (pc' := 33) (l' := #[.val (.int (-(Int32.ofNat M))), .val (.int x1), .val (.ref vb), .val (.int (-(Int32.ofNat (M / 100)))), L4, .val (.int (Int32.ofNat (n + (c + 2)))), .val (.int sg)]) d27_32 (by rcases hL3 with rfl | ⟨w, rfl, hw'⟩ <;> first | rfl | (cases w <;> first | rfl | simp [Value.category] at hw')) rfl).iloadN (pc' := 34) d27_33 rfl rfl).bipush (pc' := 36) (z := (100 : Int32)) d27_34 rfl rfl).imul (pc' := 37) d27_36 rfl).iloadN (pc' := 38) d27_37 rfl rfl).isub (pc' := 39) d27_38 rfl
  replace R := R.stk (congrArg (fun z => ([Value.int z] : List Value)) (ng_rem (by omega)))
  replace R := ((((R.istore (pc' := 41) (l' := #[.val (.int (-(Int32.ofNat M))), .val (.int x1), .val (.ref vb), .val (.int (-(Int32.ofNat (M / 100)))), .val (.int (Int32.ofNat (M % 100))), .val (.int (Int32.ofNat (n + (c + 2)))), .val (.int sg)]) d27_39 (by rcases hL4 with rfl | ⟨w, rfl, hw'⟩ <;> first | rfl | (cases w <;> first | rfl | simp [Value.category] at hw')) rfl).iloadN (pc' := 42) d27_41 rfl rfl).istoreN (pc' := 43) (l' := #[.val (.int (-(Int32.ofNat (M / 100)))), .val (.int x1), .val (.ref vb), .val (.int (-(Int32.ofNat (M / 100)))), .val (.int (Int32.ofNat (M % 100))), .val (.int (Int32.ofNat (n + (c + 2)))), .val (.int sg)]) d27_42 rfl rfl).aloadN (pc' := 44) (v := (.ref vb)) d27_43 rfl rfl rfl).iinc (pc' := 47) (l' := #[.val (.int (-(Int32.ofNat (M / 100)))), .val (.int x1), .val (.ref vb), .val (.int (-(Int32.ofNat (M / 100)))), .val (.int (Int32.ofNat (M % 100))), .val (.int ((Int32.ofNat (n + (c + 2))) + (-1 : Int32))), .val (.int sg)]) d27_44 rfl rfl rfl
  replace R := R.loc (congrArg (fun z => (#[.val (.int (-(Int32.ofNat (M / 100)))), .val (.int x1), .val (.ref vb), .val (.int (-(Int32.ofNat (M / 100)))), .val (.int (Int32.ofNat (M % 100))), .val (.int z), .val (.int sg)] : Array Slot)) (own_dec (n := n) (k := c + 1) (by omega)))
  replace R := ((R.iload (pc' := 49) d27_47 rfl rfl).getS (pc' := 52) (host := "") (Or.inl (w168 hw)) Via.refl sO d27_49 rfl).iload (pc' := 54) d27_52 rfl rfl
  have K1 := (Keep.refl Z.heap []).ext R.old.2
  have F2 := vO.keep K1 nin0
  replace R := R.baload (pc' := 55) (v := .int (dgt M 0)) F2 (own_j (k := (M % 100)) (n := 100) (by omega) (by omega)) (by rw [own_clamp (by omega), ones_at (by omega), eD2]) d27_54 rfl
  obtain ⟨h3, K3, V3, R⟩ := R.bastore (pc' := 56) V_b (own_j (k := (n + (c + 1))) (n := cap) (by omega) (by omega)) (n + (c + 1)) (own_clamp (by omega)) (by exact Nat.lt_of_lt_of_le (by omega) (Nat.le_of_eq hvl.symm)) hvb d27_55 rfl
  rw [nar_dgt] at V3
  replace R := (R.aloadN (pc' := 57) (v := (.ref vb)) d27_56 rfl rfl rfl).iinc (pc' := 60) (l' := #[.val (.int (-(Int32.ofNat (M / 100)))), .val (.int x1), .val (.ref vb), .val (.int (-(Int32.ofNat (M / 100)))), .val (.int (Int32.ofNat (M % 100))), .val (.int ((Int32.ofNat (n + (c + 1))) + (-1 : Int32))), .val (.int sg)]) d27_57 rfl rfl rfl
  replace R := R.loc (congrArg (fun z => (#[.val (.int (-(Int32.ofNat (M / 100)))), .val (.int x1), .val (.ref vb), .val (.int (-(Int32.ofNat (M / 100)))), .val (.int (Int32.ofNat (M % 100))), .val (.int z), .val (.int sg)] : Array Slot)) (own_dec (n := n) (k := c) (by omega)))
  replace R := ((R.iload (pc' := 62) d27_60 rfl rfl).getS (pc' := 65) (host := "") (Or.inl (w306 hw)) Via.refl sT d27_62 rfl).iload (pc' := 67) d27_65 rfl rfl
  have K4 := (Keep.refl Z.heap []).ext R.old.2
  have F5 := vT.keep K4 nin0
  replace R := R.baload (pc' := 68) (v := .int (dgt M 1)) F5 (own_j (k := (M % 100)) (n := 100) (by omega) (by omega)) (by rw [own_clamp (by omega), tens_at (by omega), eD3]) d27_67 rfl
  obtain ⟨h6, K6, V6, R⟩ := R.bastore (pc' := 69) V3 (own_j (k := (n + c)) (n := cap) (by omega) (by omega)) (n + c) (own_clamp (by omega)) (by rw [List.length_set]; exact Nat.lt_of_lt_of_le (by omega) (Nat.le_of_eq hvl.symm)) hvb d27_68 rfl
  rw [nar_dgt] at V6
  replace R := R.goto (pc' := 22) d27_69 (by decide) rfl
  exact ⟨_, (((Keep.refl h [vb]).trans K3 (allS (Or.inl (List.mem_of_getElem? (i := 0) rfl)) all0)).trans K6 (allS (Or.inl (List.mem_of_getElem? (i := 0) rfl)) all0)), V6, R⟩
theorem gc_t1 {C : Cx} {rm : Room} {Z : State} {a0 : Array Value} (hw : HW a0 Z) {n0 ce sl : Nat} (own_dg : DgOk Z) {n cap : Nat} {x1 sg : Int32} {vb : Addr} {kb : ClassId} {Ds : List Addr} (hcap : cap ≤ 100) (hvb : vb ∈ Ds) {M : Nat} (hM : M ≤ 2147483648) {h : Heap} {vd : List Value} (hvl : vd.length = cap) (V_b : Arv Z h vb kb .byte (Int32.ofNat cap) vd (.int 0)) {L3 L4 : Slot} (hhi : M < 10) (hn : n + 1 ≤ cap)
    (R : Rc C rm "java/lang/Integer" jdk_33_method_12_code 7 Z n0 ce sl 22 #[.val (.int (-(Int32.ofNat M))), .val (.int x1), .val (.ref vb), L3, L4, .val (.int (Int32.ofNat (n + 1))), .val (.int sg)] [] h Ds) :
    ∃ h', Keep h h' [vb] ∧ Arv Z h' vb kb .byte (Int32.ofNat cap) (vd.set (n + 0) (.int (dgt M 0))) (.int 0) ∧ Rc C rm "java/lang/Integer" jdk_33_method_12_code 7 Z n0 ce sl 104 #[.val (.int (-(Int32.ofNat M))), .val (.int x1), .val (.ref vb), L3, L4, .val (.int (Int32.ofNat (n + 0))), .val (.int sg)] [] h' Ds := by
  obtain ⟨o1, k1, o2, k2, sO, vO, sT, vT⟩ := id own_dg
  have hK0 := (Keep.refl Z.heap []).ext R.old.2
  replace R := ((((R.iloadN (pc' := 23) d27_22 rfl rfl).bipush (pc' := 25) (z := (-100 : Int32)) d27_23 rfl rfl).icmpY (pc' := 72) d27_25 (tlt (show (-100 : Int32) < (-(Int32.ofNat M)) from (ng_lt (K := 100) (by decide) (by omega)).mpr (by omega))).2.2.1 (by decide) rfl).aloadN (pc' := 73) (v := (.ref vb)) d27_72 rfl rfl rfl).iinc (pc' := 76) (l' := #[.val (.int (-(Int32.ofNat M))), .val (.int x1), .val (.ref vb), L3, L4, .val (.int ((Int32.ofNat (n + 1)) + (-1 : Int32))), .val (.int sg)]) d27_73 rfl rfl rfl
  replace R := R.loc (congrArg (fun z => (#[.val (.int (-(Int32.ofNat M))), .val (.int x1), .val (.ref vb), L3, L4, .val (.int z), .val (.int sg)] : Array Slot)) (own_dec (n := n) (k := 0) (by omega)))
  replace R := (((R.iload (pc' := 78) d27_76 rfl rfl).getS (pc' := 81) (host := "") (Or.inl (w168 hw)) Via.refl sO d27_78 rfl).iloadN (pc' := 82) d27_81 rfl rfl).ineg (pc' := 83) d27_82 rfl
  replace R := R.stk (congrArg (fun z => ([Value.int z, (.ref o1), (.int (Int32.ofNat (n + 0))), (.ref vb)] : List Value)) (ng_neg _))
  have K1 := (Keep.refl Z.heap []).ext R.old.2
  have F2 := vO.keep K1 nin0
  replace R := R.baload (pc' := 84) (v := .int (dgt M 0)) F2 (own_j (k := M) (n := 100) (by omega) (by omega)) (by rw [own_clamp (by omega), ones_at (by omega), eD0]) d27_83 rfl
  obtain ⟨h3, K3, V3, R⟩ := R.bastore (pc' := 85) V_b (own_j (k := (n + 0)) (n := cap) (by omega) (by omega)) (n + 0) (own_clamp (by omega)) (by exact Nat.lt_of_lt_of_le (by omega) (Nat.le_of_eq hvl.symm)) hvb d27_84 rfl
  rw [nar_dgt] at V3
  replace R := ((R.iloadN (pc' := 86) d27_85 rfl rfl).bipush (pc' := 88) (z := (-9 : Int32)) d27_86 rfl rfl).icmpY (pc' := 104) d27_88 (flt (show ¬ ((-(Int32.ofNat M)) < (-9 : Int32)) from fun q => absurd ((ng_lt (K := M) (m := 9) (by omega) (by decide)).mp q) (by omega))).2.1 (by decide) rfl
  exact ⟨_, ((Keep.refl h [vb]).trans K3 (allS (Or.inl (List.mem_of_getElem? (i := 0) rfl)) all0)), V3, R⟩
theorem gc_t2 {C : Cx} {rm : Room} {Z : State} {a0 : Array Value} (hw : HW a0 Z) {n0 ce sl : Nat} (own_dg : DgOk Z) {n cap : Nat} {x1 sg : Int32} {vb : Addr} {kb : ClassId} {Ds : List Addr} (hcap : cap ≤ 100) (hvb : vb ∈ Ds) {M : Nat} (hM : M ≤ 2147483648) {h : Heap} {vd : List Value} (hvl : vd.length = cap) (V_b : Arv Z h vb kb .byte (Int32.ofNat cap) vd (.int 0)) {L3 L4 : Slot} (hlo : 10 ≤ M) (hhi : M < 100) (hn : n + 2 ≤ cap)
    (R : Rc C rm "java/lang/Integer" jdk_33_method_12_code 7 Z n0 ce sl 22 #[.val (.int (-(Int32.ofNat M))), .val (.int x1), .val (.ref vb), L3, L4, .val (.int (Int32.ofNat (n + 2))), .val (.int sg)] [] h Ds) :
    ∃ h', Keep h h' [vb] ∧ Arv Z h' vb kb .byte (Int32.ofNat cap) ((vd.set (n + 1) (.int (dgt M 0))).set (n + 0) (.int (dgt M 1))) (.int 0) ∧ Rc C rm "java/lang/Integer" jdk_33_method_12_code 7 Z n0 ce sl 104 #[.val (.int (-(Int32.ofNat M))), .val (.int x1), .val (.ref vb), L3, L4, .val (.int (Int32.ofNat (n + 0))), .val (.int sg)] [] h' Ds := by
  obtain ⟨o1, k1, o2, k2, sO, vO, sT, vT⟩ := id own_dg
  have hK0 := (Keep.refl Z.heap []).ext R.old.2
  replace R := ((((R.iloadN (pc' := 23) d27_22 rfl rfl).bipush (pc' := 25) (z := (-100 : Int32)) d27_23 rfl rfl).icmpY (pc' := 72) d27_25 (tlt (show (-100 : Int32) < (-(Int32.ofNat M)) from (ng_lt (K := 100) (by decide) (by omega)).mpr (by omega))).2.2.1 (by decide) rfl).aloadN (pc' := 73) (v := (.ref vb)) d27_72 rfl rfl rfl).iinc (pc' := 76) (l' := #[.val (.int (-(Int32.ofNat M))), .val (.int x1), .val (.ref vb), L3, L4, .val (.int ((Int32.ofNat (n + 2)) + (-1 : Int32))), .val (.int sg)]) d27_73 rfl rfl rfl
  replace R := R.loc (congrArg (fun z => (#[.val (.int (-(Int32.ofNat M))), .val (.int x1), .val (.ref vb), L3, L4, .val (.int z), .val (.int sg)] : Array Slot)) (own_dec (n := n) (k := 1) (by omega)))
  replace R := (((R.iload (pc' := 78) d27_76 rfl rfl).getS (pc' := 81) (host := "") (Or.inl (w168 hw)) Via.refl sO d27_78 rfl).iloadN (pc' := 82) d27_81 rfl rfl).ineg (pc' := 83) d27_82 rfl
  replace R := R.stk (congrArg (fun z => ([Value.int z, (.ref o1), (.int (Int32.ofNat (n + 1))), (.ref vb)] : List Value)) (ng_neg _))
  have K1 := (Keep.refl Z.heap []).ext R.old.2
  have F2 := vO.keep K1 nin0
  replace R := R.baload (pc' := 84) (v := .int (dgt M 0)) F2 (own_j (k := M) (n := 100) (by omega) (by omega)) (by rw [own_clamp (by omega), ones_at (by omega), eD0]) d27_83 rfl
  obtain ⟨h3, K3, V3, R⟩ := R.bastore (pc' := 85) V_b (own_j (k := (n + 1)) (n := cap) (by omega) (by omega)) (n + 1) (own_clamp (by omega)) (by exact Nat.lt_of_lt_of_le (by omega) (Nat.le_of_eq hvl.symm)) hvb d27_84 rfl
  rw [nar_dgt] at V3
  replace R := ((((R.iloadN (pc' := 86) d27_85 rfl rfl).bipush (pc' := 88) (z := (-9 : Int32)) d27_86 rfl rfl).icmpN (pc' := 91) d27_88 (tlt (show (-(Int32.ofNat M)) < (-9 : Int32) from (ng_lt (K := M) (m := 9) (by omega) (by decide)).mpr (by omega))).2.1 rfl).aloadN (pc' := 92) (v := (.ref vb)) d27_91 rfl rfl rfl).iinc (pc' := 95) (l' := #[.val (.int (-(Int32.ofNat M))), .val (.int x1), .val (.ref vb), L3, L4, .val (.int ((Int32.ofNat (n + 1)) + (-1 : Int32))), .val (.int sg)]) d27_92 rfl rfl rfl
  replace R := R.loc (congrArg (fun z => (#[.val (.int (-(Int32.ofNat M))), .val (.int x1), .val (.ref vb), L3, L4, .val (.int z), .val (.int sg)] : Array Slot)) (own_dec (n := n) (k := 0) (by omega)))
  replace R := (((R.iload (pc' := 97) d27_95 rfl rfl).getS (pc' := 100) (host := "") (Or.inl (w306 hw)) Via.refl sT d27_97 rfl).iloadN (pc' := 101) d27_100 rfl rfl).ineg (pc' := 102) d27_101 rfl
  replace R := R.stk (congrArg (fun z => ([Value.int z, (.ref o2), (.int (Int32.ofNat (n + 0))), (.ref vb)] : List Value)) (ng_neg _))
  have K4 := (Keep.refl Z.heap []).ext R.old.2
  have F5 := vT.keep K4 nin0
  replace R := R.baload (pc' := 103) (v := .int (dgt M 1)) F5 (own_j (k := M) (n := 100) (by omega) (by omega)) (by rw [own_clamp (by omega), tens_at (by omega), eD1 (by omega)]) d27_102 rfl
  obtain ⟨h6, K6, V6, R⟩ := R.bastore (pc' := 104) V3 (own_j (k := (n + 0)) (n := cap) (by omega) (by omega)) (n + 0) (own_clamp (by omega)) (by rw [List.length_set]; exact Nat.lt_of_lt_of_le (by omega) (Nat.le_of_eq hvl.symm)) hvb d27_103 rfl
  rw [nar_dgt] at V6
  exact ⟨_, (((Keep.refl h [vb]).trans K3 (allS (Or.inl (List.mem_of_getElem? (i := 0) rfl)) all0)).trans K6 (allS (Or.inl (List.mem_of_getElem? (i := 0) rfl)) all0)), V6, R⟩
theorem gc_all {C : Cx} {rm : Room} {Z : State} {a0 : Array Value} (hw : HW a0 Z) {n0 ce sl : Nat} (own_dg : DgOk Z) {n cap : Nat} {x1 sg : Int32} {vb : Addr} {kb : ClassId} {Ds : List Addr} (hcap : cap ≤ 100) (hvb : vb ∈ Ds) : ∀ (M : Nat) (_ : M ≤ 2147483648) {h : Heap} {vd : List Value} (_ : vd.length = cap) (_ : Arv Z h vb kb .byte (Int32.ofNat cap) vd (.int 0)) {L3 : Slot} (_ : L3 = .unset ∨ ∃ w : Value, L3 = .val w ∧ w.category = 1) {L4 : Slot} (_ : L4 = .unset ∨ ∃ w : Value, L4 = .val w ∧ w.category = 1) (_ : n + ndig M ≤ cap) (_ : Rc C rm "java/lang/Integer" jdk_33_method_12_code 7 Z n0 ce sl 22 #[.val (.int (-(Int32.ofNat M))), .val (.int x1), .val (.ref vb), L3, L4, .val (.int (Int32.ofNat (n + ndig M))), .val (.int sg)] [] h Ds),
    ∃ (h' : Heap) (z0 : Int32) (L3 L4 : Slot), Keep h h' [vb] ∧ Arv Z h' vb kb .byte (Int32.ofNat cap) (blk vd n (digs (ndig M) M)) (.int 0) ∧ Rc C rm "java/lang/Integer" jdk_33_method_12_code 7 Z n0 ce sl 104 #[.val (.int z0), .val (.int x1), .val (.ref vb), L3, L4, .val (.int (Int32.ofNat (n + 0))), .val (.int sg)] [] h' Ds := by
  intro M
  induction M using Nat.strongRecOn with
  | _ M ih =>
    intro hM h vd hvl V_b L3 hL3 L4 hL4 hn R
    by_cases h1 : M < 10
    · rw [ndig_one h1] at hn R ⊢
      obtain ⟨h', K, V, R⟩ := gc_t1 hw own_dg hcap hvb hM hvl V_b h1 hn R
      exact ⟨h', _, _, _, K, by rw [← blk_1 (by omega)]; exact V, R⟩
    · by_cases h2 : M < 100
      · rw [ndig_ten (by omega) h2] at hn R ⊢
        obtain ⟨h', K, V, R⟩ := gc_t2 hw own_dg hcap hvb hM hvl V_b (by omega) h2 hn R
        exact ⟨h', _, _, _, K, by rw [← blk_2 (by omega)]; exact V, R⟩
      · rw [ndig_two (by omega) hM] at hn R ⊢
        obtain ⟨h', K, V, R⟩ := gc_it hw own_dg hcap hvb hM hvl V_b hL3 hL4 (by omega) hn R
        obtain ⟨h2, z0, L5, L6, K2, V2, R⟩ := ih (M / 100) (by omega) (by omega) (by rw [List.length_set, List.length_set]; exact hvl) V (Or.inr ⟨_, rfl, rfl⟩) (Or.inr ⟨_, rfl, rfl⟩) (by omega) R
        exact ⟨h2, z0, L5, L6, ((Keep.refl h [vb]).trans K (allS (Or.inl (List.mem_of_getElem? (i := 0) rfl)) all0)).trans K2 (allS (Or.inl (List.mem_of_getElem? (i := 0) rfl)) all0), by rw [← blk_two (by omega)]; exact V2, R⟩
theorem rm_gc1 (l : Launch) (Z : State) (a0 : Array Value) (hw : HW a0 Z) (h : Heap) (n0 : Nat) (Ds : List Addr) (own_dg : DgOk Z) {m : Nat} (h0 : 1 ≤ m) (h1 : m ≤ 2147483648) {n : Nat} {vb : Addr} {kb : ClassId} {vd : List Value} {cap : Nat} (hcap : cap ≤ 100) (hvl : vd.length = cap) (hvb : vb ∈ Ds) (V_b : Arv Z h vb kb .byte (Int32.ofNat cap) vd (.int 0)) (hn : n + (45 :: digs (ndig m) m).length ≤ cap) :
    Ctr l Z (⟨"java/lang/Integer", "getChars", "(II[B)I"⟩ : MethodName) jdk_33_method_12_code 7 (some .int) [] (rmo 0 0 0 0) #[.int (-(Int32.ofNat m)), .int (Int32.ofNat (n + (45 :: digs (ndig m) m).length)), .ref vb] h n0 Ds (fun v h' Ds' => v = some (.int (Int32.ofNat (n + 0))) ∧ Keep h h' [vb] ∧ Arv Z h' vb kb .byte (Int32.ofNat cap) (blk vd n (45 :: digs (ndig m) m)) (.int 0) ∧ Ds = Ds') := by
  refine ctr_of (Ls := #[.val (.int (-(Int32.ofNat m))), .val (.int (Int32.ofNat (n + (45 :: digs (ndig m) m).length))), .val (.ref vb), .unset, .unset, .unset, .unset]) (plainFor_of_name pn7) (fun m => by first | (simp [entryFrame, mkF, argsToLocals, Value.category]; done) | rfl) ?_
  intro C hl hret hnm R
  subst hl
  obtain ⟨o1, k1, o2, k2, sO, vO, sT, vT⟩ := id own_dg
  have hK0 := (Keep.refl Z.heap []).ext R.old.2
  replace R := (((((R.iloadN (pc' := 1) d27_0 rfl rfl).istore (pc' := 3) (l' := #[.val (.int (-(Int32.ofNat m))), .val (.int (Int32.ofNat (n + (45 :: digs (ndig m) m).length))), .val (.ref vb), .unset, .unset, .val (.int (Int32.ofNat (n + (45 :: digs (ndig m) m).length))), .unset]) d27_1 rfl rfl).iloadN (pc' := 4) d27_3 rfl rfl).ifN (pc' := 7) d27_4 (tlt (neg_lt0 h0 h1)).2.1 rfl).iconst (pc' := 8) (z := (1 : Int32)) d27_7 rfl rfl).goto (pc' := 12) d27_8 (by decide) rfl
  replace R := ((R.istore (pc' := 14) (l' := #[.val (.int (-(Int32.ofNat m))), .val (.int (Int32.ofNat (n + (45 :: digs (ndig m) m).length))), .val (.ref vb), .unset, .unset, .val (.int (Int32.ofNat (n + (45 :: digs (ndig m) m).length))), .val (.int (1 : Int32))]) d27_12 rfl rfl).iload (pc' := 16) d27_14 rfl rfl).ifY (pc' := 22) d27_16 (feq (by decide : ¬ ((1 : Int32) = (0 : Int32)))).2 (by decide) rfl
  have hn2 : n + (ndig m + 1) ≤ cap := by rw [List.length_cons, digs_len] at hn; exact hn
  replace R := R.loc (congrArg (fun z => (#[.val (.int (-(Int32.ofNat m))), .val (.int (Int32.ofNat (n + (45 :: digs (ndig m) m).length))), .val (.ref vb), .unset, .unset, .val (.int z), .val (.int (1 : Int32))] : Array Slot)) (congrArg Int32.ofNat (show n + (45 :: digs (ndig m) m).length = n + 1 + ndig m by rw [List.length_cons, digs_len]; omega)))
  obtain ⟨h9, z0, L3, L4, K9, V9, R⟩ := gc_all hw own_dg hcap hvb m (by omega) hvl V_b (Or.inl rfl) (Or.inl rfl) (by rw [List.length_cons, digs_len] at hn; omega) R
  replace R := ((R.iload (pc' := 106) d27_104 rfl rfl).ifN (pc' := 109) d27_106 (feq (by decide : ¬ ((1 : Int32) = (0 : Int32)))).1 rfl).aloadN (pc' := 110) (v := (.ref vb)) d27_109 rfl rfl rfl
  replace R := R.loc (congrArg (fun z => (#[.val (.int z0), .val (.int (Int32.ofNat (n + (45 :: digs (ndig m) m).length))), .val (.ref vb), L3, L4, .val (.int z), .val (.int (1 : Int32))] : Array Slot)) (rfl))
  replace R := R.iinc (pc' := 113) (l' := #[.val (.int z0), .val (.int (Int32.ofNat (n + (45 :: digs (ndig m) m).length))), .val (.ref vb), L3, L4, .val (.int ((Int32.ofNat (n + (0 + 1))) + (-1 : Int32))), .val (.int (1 : Int32))]) d27_110 rfl rfl rfl
  replace R := R.loc (congrArg (fun z => (#[.val (.int z0), .val (.int (Int32.ofNat (n + (45 :: digs (ndig m) m).length))), .val (.ref vb), L3, L4, .val (.int z), .val (.int (1 : Int32))] : Array Slot)) (own_dec (n := n) (k := 0) (by omega)))
  replace R := (R.iload (pc' := 115) d27_113 rfl rfl).bipush (pc' := 117) (z := (45 : Int32)) d27_115 rfl rfl
  obtain ⟨h1, K1, V1, R⟩ := R.bastore (pc' := 118) V9 (own_j (k := (n + 0)) (n := cap) (by omega) (by omega)) (n + 0) (own_clamp (by omega)) (by rw [blk_len (by rw [digs_len]; rw [List.length_cons, digs_len] at hn; omega)]; exact Nat.lt_of_lt_of_le (by omega) (Nat.le_of_eq hvl.symm)) hvb d27_117 rfl
  rw [show nar .byte (45 : Int32) = 45 from rfl] at V1
  replace R := R.iload (pc' := 120) d27_118 rfl rfl
  have hK := (((Keep.refl h [vb]).trans K9 (allS (Or.inl (List.mem_of_getElem? (i := 0) rfl)) all0)).trans K1 (allS (Or.inl (List.mem_of_getElem? (i := 0) rfl)) all0))
  have q := V1
  rw [blk_sg (by rw [digs_len]; rw [List.length_cons, digs_len] at hn; omega)] at q
  exact R.retI (Ds' := Ds) hret d27_120 (by decide) (by decide) (fun _ q => q) ⟨rfl, hK, q, rfl⟩
theorem rm_gc0 (l : Launch) (Z : State) (a0 : Array Value) (hw : HW a0 Z) (h : Heap) (n0 : Nat) (Ds : List Addr) (own_dg : DgOk Z) {m : Nat} (h1 : m < 2147483648) {n : Nat} {vb : Addr} {kb : ClassId} {vd : List Value} {cap : Nat} (hcap : cap ≤ 100) (hvl : vd.length = cap) (hvb : vb ∈ Ds) (V_b : Arv Z h vb kb .byte (Int32.ofNat cap) vd (.int 0)) (hn : n + (digs (ndig m) m).length ≤ cap) :
    Ctr l Z (⟨"java/lang/Integer", "getChars", "(II[B)I"⟩ : MethodName) jdk_33_method_12_code 7 (some .int) [] (rmo 0 0 0 0) #[.int (Int32.ofNat m), .int (Int32.ofNat (n + (digs (ndig m) m).length)), .ref vb] h n0 Ds (fun v h' Ds' => v = some (.int (Int32.ofNat (n + 0))) ∧ Keep h h' [vb] ∧ Arv Z h' vb kb .byte (Int32.ofNat cap) (blk vd n (digs (ndig m) m)) (.int 0) ∧ Ds = Ds') := by
  refine ctr_of (Ls := #[.val (.int (Int32.ofNat m)), .val (.int (Int32.ofNat (n + (digs (ndig m) m).length))), .val (.ref vb), .unset, .unset, .unset, .unset]) (plainFor_of_name pn7) (fun m => by first | (simp [entryFrame, mkF, argsToLocals, Value.category]; done) | rfl) ?_
  intro C hl hret hnm R
  subst hl
  obtain ⟨o1, k1, o2, k2, sO, vO, sT, vT⟩ := id own_dg
  have hK0 := (Keep.refl Z.heap []).ext R.old.2
  replace R := (((((R.iloadN (pc' := 1) d27_0 rfl rfl).istore (pc' := 3) (l' := #[.val (.int (Int32.ofNat m)), .val (.int (Int32.ofNat (n + (digs (ndig m) m).length))), .val (.ref vb), .unset, .unset, .val (.int (Int32.ofNat (n + (digs (ndig m) m).length))), .unset]) d27_1 rfl rfl).iloadN (pc' := 4) d27_3 rfl rfl).ifY (pc' := 11) d27_4 (flt (pos_nlt0 h1)).2.1 (by decide) rfl).iconst (pc' := 12) (z := (0 : Int32)) d27_11 rfl rfl).istore (pc' := 14) (l' := #[.val (.int (Int32.ofNat m)), .val (.int (Int32.ofNat (n + (digs (ndig m) m).length))), .val (.ref vb), .unset, .unset, .val (.int (Int32.ofNat (n + (digs (ndig m) m).length))), .val (.int (0 : Int32))]) d27_12 rfl rfl
  replace R := ((((R.iload (pc' := 16) d27_14 rfl rfl).ifN (pc' := 19) d27_16 (teq (by decide : (0 : Int32) = (0 : Int32))).2 rfl).iloadN (pc' := 20) d27_19 rfl rfl).ineg (pc' := 21) d27_20 rfl).istoreN (pc' := 22) (l' := #[.val (.int (-(Int32.ofNat m))), .val (.int (Int32.ofNat (n + (digs (ndig m) m).length))), .val (.ref vb), .unset, .unset, .val (.int (Int32.ofNat (n + (digs (ndig m) m).length))), .val (.int (0 : Int32))]) d27_21 rfl rfl
  replace R := R.loc (congrArg (fun z => (#[.val (.int (-(Int32.ofNat m))), .val (.int (Int32.ofNat (n + (digs (ndig m) m).length))), .val (.ref vb), .unset, .unset, .val (.int z), .val (.int (0 : Int32))] : Array Slot)) (congrArg (fun z => Int32.ofNat (n + z)) (digs_len _ _)))
  obtain ⟨h9, z0, L3, L4, K9, V9, R⟩ := gc_all hw own_dg hcap hvb m (by omega) hvl V_b (Or.inl rfl) (Or.inl rfl) (by rw [digs_len] at hn; omega) R
  replace R := ((R.iload (pc' := 106) d27_104 rfl rfl).ifY (pc' := 118) d27_106 (teq (by decide : (0 : Int32) = (0 : Int32))).1 (by decide) rfl).iload (pc' := 120) d27_118 rfl rfl
  have hK := ((Keep.refl h [vb]).trans K9 (allS (Or.inl (List.mem_of_getElem? (i := 0) rfl)) all0))
  have q := V9
  exact R.retI (Ds' := Ds) hret d27_120 (by decide) (by decide) (fun _ q => q) ⟨rfl, hK, q, rfl⟩
theorem rm_gc (l : Launch) (Z : State) (a0 : Array Value) (hw : HW a0 Z) (i : Int32) (h : Heap) (n0 : Nat) (Ds : List Addr) (own_dg : DgOk Z) {n : Nat} {vb : Addr} {kb : ClassId} {vd : List Value} {cap : Nat} (hcap : cap ≤ 100) (hvl : vd.length = cap) (hvb : vb ∈ Ds) (V_b : Arv Z h vb kb .byte (Int32.ofNat cap) vd (.int 0)) (hn : n + (dec i).length ≤ cap) :
    Ctr l Z (⟨"java/lang/Integer", "getChars", "(II[B)I"⟩ : MethodName) jdk_33_method_12_code 7 (some .int) [] (rmo 0 0 0 0) #[.int i, .int (Int32.ofNat (n + (dec i).length)), .ref vb] h n0 Ds (fun v h' Ds' => v = some (.int (Int32.ofNat (n + 0))) ∧ Keep h h' [vb] ∧ Arv Z h' vb kb .byte (Int32.ofNat cap) (blk vd n (dec i)) (.int 0) ∧ Ds = Ds') := by
  rcases int_cases i with ⟨m, h0, h1, rfl⟩ | ⟨m, h1, rfl⟩
  · rw [dec_neg h0 h1] at hn ⊢; exact rm_gc1 l Z a0 hw h n0 Ds own_dg h0 h1 hcap hvl hvb V_b hn
  · rw [dec_pos h1] at hn ⊢; exact rm_gc0 l Z a0 hw h n0 Ds own_dg h1 hcap hvl hvb V_b hn
theorem rm_ain (l : Launch) (Z : State) (a0 : Array Value) (hw : HW a0 Z) (a : Addr) (i : Int32) (h : Heap) (n0 : Nat) (Ds : List Addr) (own_cs : CompactOn Z) (own_dg : DgOk Z) {vb : Addr} {kb : ClassId} {vd : List Value} {cap : Nat} (hcap : cap ≤ 100) (hvl : vd.length = cap) (hvb : vb ∈ Ds) (V_b : Arv Z h vb kb .byte (Int32.ofNat cap) vd (.int 0)) {n : Nat} (ha : a ∈ Ds) (nab : a ≠ vb) (E_a : Exa Z h a "java/lang/StringBuilder") (F_value : Fld Z h a "java/lang/AbstractStringBuilder" "value" "[B" (.ref vb)) (F_coder : Fld Z h a "java/lang/AbstractStringBuilder" "coder" "B" (.int (0 : Int32))) (F_count : Fld Z h a "java/lang/AbstractStringBuilder" "count" "I" (.int (Int32.ofNat n))) (hn : n + (dec i).length ≤ cap) :
    Ctr l Z (⟨"java/lang/AbstractStringBuilder", "append", "(I)Ljava/lang/AbstractStringBuilder;"⟩ : MethodName) jdk_68_method_32_code 4 (some (.object "java/lang/AbstractStringBuilder")) [] (rmo 1 0 0 18) #[.ref a, .int i] h n0 Ds (fun v h' Ds' => v = some (.ref a) ∧ Keep h h' [vb, a] ∧ Exa Z h' a "java/lang/StringBuilder" ∧ Fld Z h' a "java/lang/AbstractStringBuilder" "value" "[B" (.ref vb) ∧ Fld Z h' a "java/lang/AbstractStringBuilder" "coder" "B" (.int (0 : Int32)) ∧ Fld Z h' a "java/lang/AbstractStringBuilder" "count" "I" (.int (Int32.ofNat (n + (dec i).length))) ∧ Arv Z h' vb kb .byte (Int32.ofNat cap) (vd.take n ++ bytesOfCs (dec i) ++ vd.drop (n + (dec i).length)) (.int 0) ∧ Ds = Ds') := by
  refine ctr_of (Ls := #[.val (.ref a), .val (.int i), .unset, .unset]) (plainFor_of_name pn3) (fun m => by first | (simp [entryFrame, mkF, argsToLocals, Value.category]; done) | rfl) ?_
  intro C hl hret hnm R
  subst hl
  replace R := ((((R.aloadN (pc' := 1) (v := (.ref a)) d24_0 rfl rfl rfl).getF (pc' := 4) (host := "") (Or.inl (w119 hw)) Via.refl F_count d24_1 rfl).istoreN (pc' := 5) (l' := #[.val (.ref a), .val (.int i), .val (.int (Int32.ofNat n)), .unset]) d24_4 rfl rfl).iloadN (pc' := 6) d24_5 rfl rfl).iloadN (pc' := 7) d24_6 rfl rfl
  replace R := own_pure (R.callS (pc' := 10) (argsL := [(.int i)]) (rest := [(.int (Int32.ofNat n))]) (W := 1) (w156 hw) (w157 hw) (w158 hw) (w159 hw) (by decide) (rm_sz C.l Z a0 hw i h n0 Ds) rfl (lenOf pd9 rfl) rfl rfl d24_7 (by decide) (by decide) (by decide) (by decide) rfl)
  replace R := R.iadd (pc' := 11) d24_10 rfl
  replace R := R.stk (congrArg (fun z => ([Value.int z] : List Value)) (own_addc (by omega)))
  replace R := ((R.istoreN (pc' := 12) (l' := #[.val (.ref a), .val (.int i), .val (.int (Int32.ofNat n)), .val (.int (Int32.ofNat (n + (dec i).length)))]) d24_11 rfl rfl).aloadN (pc' := 13) (v := (.ref a)) d24_12 rfl rfl rfl).iloadN (pc' := 14) d24_13 rfl rfl
  replace R := own_pure0 (R.callV (pc' := 17) (y := (⟨"java/lang/AbstractStringBuilder", "ensureCapacityInternal", "(I)V"⟩ : MethodName)) (z := (⟨"java/lang/AbstractStringBuilder", "ensureCapacityInternal", "(I)V"⟩ : MethodName)) (argsL := [(.int (Int32.ofNat (n + (dec i).length)))]) (rest := []) (W := 0) (w121 hw) (own_decl (w122 hw) (w125 hw)) (fun s' hZ' => notFace_of_selects (args := #[]) (mvT hZ' (w124 hw))) (w124 hw) (w122 hw) (w91 hw) (w125 hw) (by decide) E_a (rm_ec C.l Z a0 hw a h n0 Ds hcap hvl hvb V_b E_a F_value F_coder hn) rfl (lenOf pd12 rfl) rfl rfl d24_14 (by decide) (by decide) (by decide) (by decide) rfl)
  replace R := R.aloadN (pc' := 18) (v := (.ref a)) d24_17 rfl rfl rfl
  replace R := own_pure (R.callV (pc' := 21) (y := (⟨"java/lang/AbstractStringBuilder", "isLatin1", "()Z"⟩ : MethodName)) (z := (⟨"java/lang/AbstractStringBuilder", "isLatin1", "()Z"⟩ : MethodName)) (argsL := []) (rest := []) (W := 0) (w160 hw) (w161 hw) (fun s' hZ' => notFace_of_selects (args := #[]) (mvT hZ' (w163 hw))) (w163 hw) (w162 hw) (w91 hw) (w164 hw) (by decide) E_a (rm_il C.l Z a0 hw a h n0 Ds own_cs E_a F_coder) rfl (lenOf pd3 rfl) rfl rfl d24_18 (by decide) (by decide) (by decide) (by decide) rfl)
  replace R := ((((R.ifN (pc' := 24) d24_21 (feq (by decide : ¬ ((1 : Int32) = (0 : Int32)))).1 rfl).iloadN (pc' := 25) d24_24 rfl rfl).iloadN (pc' := 26) d24_25 rfl rfl).aloadN (pc' := 27) (v := (.ref a)) d24_26 rfl rfl rfl).getF (pc' := 30) (host := "") (Or.inl (w95 hw)) Via.refl F_value d24_27 rfl
  obtain ⟨_, h1, _, ⟨rfl, K1, V1, rfl⟩, R⟩ := R.callS (pc' := 33) (argsL := [(.int i), (.int (Int32.ofNat (n + (dec i).length))), (.ref vb)]) (rest := []) (W := 0) (w165 hw) (w166 hw) (w158 hw) (w167 hw) (by decide) (rm_gc C.l Z a0 hw i h n0 Ds own_dg hcap hvl hvb V_b hn) rfl (lenOf pd15 rfl) rfl rfl d24_30 (by decide) (by decide) (by decide) (by decide) rfl
  replace R := (((((R.mono (ce' := 0) (sl' := 0) (by decide) (by decide)).stk (S' := [(.int (Int32.ofNat (n + 0)))]) rfl).pop (pc' := 34) d24_33 rfl rfl).goto (pc' := 48) d24_34 (by decide) rfl).aloadN (pc' := 49) (v := (.ref a)) d24_48 rfl rfl rfl).iloadN (pc' := 50) d24_49 rfl rfl
  have K2 := ((Keep.refl h [vb]).trans K1 (allS (Or.inl (List.mem_of_getElem? (i := 0) rfl)) all0))
  have F3 := E_a.keep K2
  have K4 := ((Keep.refl h [vb]).trans K1 (allS (Or.inl (List.mem_of_getElem? (i := 0) rfl)) all0))
  have F5 := F_count.keep K4 (ninS nab nin0)
  have K6 := ((Keep.refl h [vb]).trans K1 (allS (Or.inl (List.mem_of_getElem? (i := 0) rfl)) all0))
  have F7 := F_value.keep K6 (ninS nab nin0)
  have K8 := ((Keep.refl h [vb]).trans K1 (allS (Or.inl (List.mem_of_getElem? (i := 0) rfl)) all0))
  have F9 := F_coder.keep K8 (ninS nab nin0)
  obtain ⟨h10, W10, R⟩ := R.putF (pc' := 53) (ty := .int) (host := "") (Or.inl (w119 hw)) Via.refl F5 F3 (Or.inl (w120 hw)) (w82 hw) (by decide) rfl rfl ha d24_50 rfl
  have F10 := F5.same W10
  have F11 := F7.other W10 (Or.inr (slot_ne (Or.inl (w96 hw)) (Or.inl (w120 hw)) (by decide) (t := (.array .byte)) (t' := .int) (by decide) (by decide)))
  have F12 := F9.other W10 (Or.inr (slot_ne (Or.inl (w98 hw)) (Or.inl (w120 hw)) (by decide) (t := .byte) (t' := .int) (by decide) (by decide)))
  replace R := R.aloadN (pc' := 54) (v := (.ref a)) d24_53 rfl rfl rfl
  have hK := (((Keep.refl h [vb, a]).trans K1 (allS (Or.inl (List.mem_of_getElem? (i := 0) rfl)) all0)).trans (Keep.of_wr W10) (allS (Or.inl (List.mem_of_getElem? (i := 1) rfl)) all0))
  have K13 := ((Keep.refl h1 [a]).trans (Keep.of_wr W10) (allS (Or.inl (List.mem_of_getElem? (i := 0) rfl)) all0))
  have F14 := F3.keep K13
  have K15 := ((Keep.refl h1 [a]).trans (Keep.of_wr W10) (allS (Or.inl (List.mem_of_getElem? (i := 0) rfl)) all0))
  have F16 := V1.keep K15 (ninS (Ne.symm nab) nin0)
  exact R.retA (Ds' := Ds) hret rfl rfl rfl d24_54 (by decide) (by decide) (fun _ q => q) ⟨rfl, hK, F14, F11, F12, F10, F16, rfl⟩
theorem rm_sint (l : Launch) (Z : State) (a0 : Array Value) (hw : HW a0 Z) (a : Addr) (i : Int32) (h : Heap) (n0 : Nat) (Ds : List Addr) (own_cs : CompactOn Z) (own_dg : DgOk Z) {vb : Addr} {kb : ClassId} {vd : List Value} {cap : Nat} (hcap : cap ≤ 100) (hvl : vd.length = cap) (hvb : vb ∈ Ds) (V_b : Arv Z h vb kb .byte (Int32.ofNat cap) vd (.int 0)) {n : Nat} (ha : a ∈ Ds) (nab : a ≠ vb) (E_a : Exa Z h a "java/lang/StringBuilder") (F_value : Fld Z h a "java/lang/AbstractStringBuilder" "value" "[B" (.ref vb)) (F_coder : Fld Z h a "java/lang/AbstractStringBuilder" "coder" "B" (.int (0 : Int32))) (F_count : Fld Z h a "java/lang/AbstractStringBuilder" "count" "I" (.int (Int32.ofNat n))) (hn : n + (dec i).length ≤ cap) :
    Ctr l Z (⟨"java/lang/StringBuilder", "append", "(I)Ljava/lang/StringBuilder;"⟩ : MethodName) jdk_67_method_15_code 2 (some (.object "java/lang/StringBuilder")) [] (rmo 2 0 0 33) #[.ref a, .int i] h n0 Ds (fun v h' Ds' => v = some (.ref a) ∧ Keep h h' [vb, a] ∧ Exa Z h' a "java/lang/StringBuilder" ∧ Fld Z h' a "java/lang/AbstractStringBuilder" "value" "[B" (.ref vb) ∧ Fld Z h' a "java/lang/AbstractStringBuilder" "coder" "B" (.int (0 : Int32)) ∧ Fld Z h' a "java/lang/AbstractStringBuilder" "count" "I" (.int (Int32.ofNat (n + (dec i).length))) ∧ Arv Z h' vb kb .byte (Int32.ofNat cap) (vd.take n ++ bytesOfCs (dec i) ++ vd.drop (n + (dec i).length)) (.int 0) ∧ Ds = Ds') := by
  refine ctr_of (Ls := #[.val (.ref a), .val (.int i)]) (plainFor_of_name pn6) (fun m => by first | (simp [entryFrame, mkF, argsToLocals, Value.category]; done) | rfl) ?_
  intro C hl hret hnm R
  subst hl
  replace R := (R.aloadN (pc' := 1) (v := (.ref a)) d23_0 rfl rfl rfl).iloadN (pc' := 2) d23_1 rfl rfl
  obtain ⟨_, h1, _, ⟨rfl, K1, X1, F1_value, F1_coder, F1_count, V1, rfl⟩, R⟩ := R.callSup (pc' := 5) (y := (⟨"java/lang/AbstractStringBuilder", "append", "(I)Ljava/lang/AbstractStringBuilder;"⟩ : MethodName)) (a := a) (argsL := [(.int i)]) (rest := []) (W := 0) (by decide) (w152 hw) (own_same (w153 hw) (w124 hw) rfl (by decide)) (w106 hw) (w153 hw) (w91 hw) (w155 hw) E_a (rm_ain C.l Z a0 hw a i h n0 Ds own_cs own_dg hcap hvl hvb V_b ha nab E_a F_value F_coder F_count hn) rfl (lenOf pd16 rfl) rfl rfl d23_2 (by decide) (by decide) (by decide) (by decide) rfl
  replace R := (((R.mono (ce' := 0) (sl' := 0) (by decide) (by decide)).stk (S' := [(.ref a)]) rfl).pop (pc' := 6) d23_5 rfl rfl).aloadN (pc' := 7) (v := (.ref a)) d23_6 rfl rfl rfl
  have hK := ((Keep.refl h [vb, a]).trans K1 (allS (Or.inl (List.mem_of_getElem? (i := 0) rfl)) (allS (Or.inl (List.mem_of_getElem? (i := 1) rfl)) all0)))
  exact R.retA (Ds' := Ds) hret rfl rfl rfl d23_7 (by decide) (by decide) (fun _ q => q) ⟨rfl, hK, X1, F1_value, F1_coder, F1_count, V1, rfl⟩
theorem rm_ai (l : Launch) (Z : State) (a0 : Array Value) (hw : HW a0 Z) (a : Addr) (h : Heap) (n0 : Nat) (Ds : List Addr) (own_cs : CompactOn Z) (ha : a ∈ Ds) (E_a : Exa Z h a "java/lang/StringBuilder") (F_value : Fld Z h a "java/lang/AbstractStringBuilder" "value" "[B" .null) (F_coder : Fld Z h a "java/lang/AbstractStringBuilder" "coder" "B" (.int (0 : Int32))) (F_count : Fld Z h a "java/lang/AbstractStringBuilder" "count" "I" (.int (0 : Int32))) :
    Ctr l Z (⟨"java/lang/AbstractStringBuilder", "<init>", "(I)V"⟩ : MethodName) jdk_68_method_2_code 2 none [] (rmo 1 1 16 12) #[.ref a, .int (16 : Int32)] h n0 Ds (fun v h' Ds' => ∃ (b : Addr) (kb : ClassId), v = none ∧ Keep h h' [a] ∧ b = h.size ∧ a ≠ b ∧ Exa Z h' a "java/lang/StringBuilder" ∧ Fld Z h' a "java/lang/AbstractStringBuilder" "value" "[B" (.ref b) ∧ Fld Z h' a "java/lang/AbstractStringBuilder" "coder" "B" (.int (0 : Int32)) ∧ Fld Z h' a "java/lang/AbstractStringBuilder" "count" "I" (.int (0 : Int32)) ∧ Arv Z h' b kb .byte (16 : Int32) [(.int (0 : Int32)), (.int (0 : Int32)), (.int (0 : Int32)), (.int (0 : Int32)), (.int (0 : Int32)), (.int (0 : Int32)), (.int (0 : Int32)), (.int (0 : Int32)), (.int (0 : Int32)), (.int (0 : Int32)), (.int (0 : Int32)), (.int (0 : Int32)), (.int (0 : Int32)), (.int (0 : Int32)), (.int (0 : Int32)), (.int (0 : Int32))] (.int 0) ∧ Exa Z h' b "[B" ∧ b :: Ds = Ds') := by
  refine ctr_of (Ls := #[.val (.ref a), .val (.int (16 : Int32))]) (plainFor_of_name pn3) (fun m => by first | (simp [entryFrame, mkF, argsToLocals, Value.category]; done) | rfl) ?_
  intro C hl hret hnm R
  subst hl
  obtain ⟨zc, S_zc, hzc⟩ := id own_cs
  replace R := (((((R.aloadN (pc' := 1) (v := (.ref a)) d14_0 rfl rfl rfl).initO (pc' := 4) (W := 0) (w93 hw) (w24 hw) (w25 hw) rfl d14_1 (by decide) rfl (by decide) rfl).getS (pc' := 7) (host := "") (Or.inl (w94 hw)) Via.refl S_zc d14_4 rfl).ifN (pc' := 10) d14_7 (feq hzc).1 rfl).aloadN (pc' := 11) (v := (.ref a)) d14_10 rfl rfl rfl).iloadN (pc' := 12) d14_11 rfl rfl
  obtain ⟨h1, b1, k1, g1, E1, V1, X1, R⟩ := R.newPE (pc' := 14) (aty := .byte) (cap := 16) (w18 hw) d14_12 (by decide) (by decide) (by decide) (by decide) (by decide) rfl rfl
  have V1p : Arv Z h1 b1 k1 .byte (16 : Int32) [(.int (0 : Int32)), (.int (0 : Int32)), (.int (0 : Int32)), (.int (0 : Int32)), (.int (0 : Int32)), (.int (0 : Int32)), (.int (0 : Int32)), (.int (0 : Int32)), (.int (0 : Int32)), (.int (0 : Int32)), (.int (0 : Int32)), (.int (0 : Int32)), (.int (0 : Int32)), (.int (0 : Int32)), (.int (0 : Int32)), (.int (0 : Int32))] (.int (0 : Int32)) := V1.pad (pad_rep [] (.int (0 : Int32)) 16)
  have K2 := ((Keep.refl h []).trans ((Keep.refl h []).ext E1) all0)
  have F3 := E_a.keep K2
  have nab : a ≠ b1 := Exa.neArv F3 V1p (w82 hw)
  have K4 := ((Keep.refl h []).trans ((Keep.refl h []).ext E1) all0)
  have F5 := F_value.keep K4 nin0
  have K6 := ((Keep.refl h []).trans ((Keep.refl h []).ext E1) all0)
  have F7 := F_coder.keep K6 nin0
  have K8 := ((Keep.refl h []).trans ((Keep.refl h []).ext E1) all0)
  have F9 := F_count.keep K8 nin0
  obtain ⟨h10, W10, R⟩ := R.putF (pc' := 17) (ty := (.array .byte)) (host := "") (Or.inl (w95 hw)) Via.refl F5 F3 (Or.inl (w96 hw)) (w82 hw) (by decide) rfl rfl (List.mem_cons_of_mem _ ha) d14_14 rfl
  have F10 := F5.same W10
  have F11 := F7.other W10 (Or.inr (slot_ne (Or.inl (w98 hw)) (Or.inl (w96 hw)) (by decide) (t := .byte) (t' := (.array .byte)) (by decide) (by decide)))
  have F12 := F9.other W10 (Or.inr (slot_ne (Or.inl (w120 hw)) (Or.inl (w96 hw)) (by decide) (t := .int) (t' := (.array .byte)) (by decide) (by decide)))
  replace R := (R.aloadN (pc' := 18) (v := (.ref a)) d14_17 rfl rfl rfl).iconst (pc' := 19) (z := (0 : Int32)) d14_18 rfl rfl
  have K13 := ((Keep.refl h1 [a]).trans (Keep.of_wr W10) (allS (Or.inl (List.mem_of_getElem? (i := 0) rfl)) all0))
  have F14 := F3.keep K13
  obtain ⟨h15, W15, R⟩ := R.putFN (pc' := 22) (ty := .byte) (v' := (.int (0 : Int32))) (w97 hw) Via.refl F11 F14 (Or.inl (w98 hw)) (w82 hw) (by decide) (rfl) (rfl) (List.mem_cons_of_mem _ ha) d14_19 rfl
  have F15 := F11.same W15
  have F16 := F10.other W15 (Or.inr (slot_ne (Or.inl (w96 hw)) (Or.inl (w98 hw)) (by decide) (t := (.array .byte)) (t' := .byte) (by decide) (by decide)))
  have F17 := F12.other W15 (Or.inr (slot_ne (Or.inl (w120 hw)) (Or.inl (w98 hw)) (by decide) (t := .int) (t' := .byte) (by decide) (by decide)))
  replace R := R.goto (pc' := 38) d14_22 (by decide) rfl
  have hK := ((((Keep.refl h [a]).trans ((Keep.refl h []).ext E1) all0).trans (Keep.of_wr W10) (allS (Or.inl (List.mem_of_getElem? (i := 0) rfl)) all0)).trans (Keep.of_wr W15) (allS (Or.inl (List.mem_of_getElem? (i := 0) rfl)) all0))
  have K18 := ((Keep.refl h10 [a]).trans (Keep.of_wr W15) (allS (Or.inl (List.mem_of_getElem? (i := 0) rfl)) all0))
  have F19 := F14.keep K18
  have K20 := (((Keep.refl h1 [a]).trans (Keep.of_wr W10) (allS (Or.inl (List.mem_of_getElem? (i := 0) rfl)) all0)).trans (Keep.of_wr W15) (allS (Or.inl (List.mem_of_getElem? (i := 0) rfl)) all0))
  have F21 := V1p.keep K20 (ninS (Ne.symm nab) nin0)
  have K22 := (((Keep.refl h1 [a]).trans (Keep.of_wr W10) (allS (Or.inl (List.mem_of_getElem? (i := 0) rfl)) all0)).trans (Keep.of_wr W15) (allS (Or.inl (List.mem_of_getElem? (i := 0) rfl)) all0))
  have F23 := X1.keep K22
  exact R.retV (Ds' := b1 :: Ds) hret d14_38 (by decide) (by decide) (fun _ q => q) ⟨b1, _, rfl, hK, g1, nab, F19, F16, F15, F17, F21, F23, rfl⟩
theorem rm_sin (l : Launch) (Z : State) (a0 : Array Value) (hw : HW a0 Z) (a : Addr) (h : Heap) (n0 : Nat) (Ds : List Addr) (own_cs : CompactOn Z) (ha : a ∈ Ds) (E_a : Exa Z h a "java/lang/StringBuilder") (F_value : Fld Z h a "java/lang/AbstractStringBuilder" "value" "[B" .null) (F_coder : Fld Z h a "java/lang/AbstractStringBuilder" "coder" "B" (.int (0 : Int32))) (F_count : Fld Z h a "java/lang/AbstractStringBuilder" "count" "I" (.int (0 : Int32))) :
    Ctr l Z (⟨"java/lang/StringBuilder", "<init>", "()V"⟩ : MethodName) jdk_67_method_1_code 1 none [] (rmo 2 1 16 25) #[.ref a] h n0 Ds (fun v h' Ds' => ∃ (b : Addr) (kb : ClassId), v = none ∧ Keep h h' [a] ∧ b = h.size ∧ a ≠ b ∧ Exa Z h' a "java/lang/StringBuilder" ∧ Fld Z h' a "java/lang/AbstractStringBuilder" "value" "[B" (.ref b) ∧ Fld Z h' a "java/lang/AbstractStringBuilder" "coder" "B" (.int (0 : Int32)) ∧ Fld Z h' a "java/lang/AbstractStringBuilder" "count" "I" (.int (0 : Int32)) ∧ Arv Z h' b kb .byte (16 : Int32) [(.int (0 : Int32)), (.int (0 : Int32)), (.int (0 : Int32)), (.int (0 : Int32)), (.int (0 : Int32)), (.int (0 : Int32)), (.int (0 : Int32)), (.int (0 : Int32)), (.int (0 : Int32)), (.int (0 : Int32)), (.int (0 : Int32)), (.int (0 : Int32)), (.int (0 : Int32)), (.int (0 : Int32)), (.int (0 : Int32)), (.int (0 : Int32))] (.int 0) ∧ Exa Z h' b "[B" ∧ b :: Ds = Ds') := by
  refine ctr_of (Ls := #[.val (.ref a)]) (plainFor_of_name pn6) (fun m => by first | (simp [entryFrame, mkF, argsToLocals, Value.category]; done) | rfl) ?_
  intro C hl hret hnm R
  subst hl
  replace R := (R.aloadN (pc' := 1) (v := (.ref a)) d13_0 rfl rfl rfl).bipush (pc' := 3) (z := (16 : Int32)) d13_1 rfl rfl
  obtain ⟨_, h1, _, ⟨b1, k1, rfl, K1, g1, n1, X1, F1_value, F1_coder, F1_count, V1, Y1, rfl⟩, R⟩ := R.callI (pc' := 6) (a := a) (argsL := [(.int (16 : Int32))]) (rest := []) (W := 0) rfl (w87 hw) (w88 hw) (w91 hw) (w92 hw) (by decide) (rm_ai C.l Z a0 hw a h n0 Ds own_cs ha E_a F_value F_coder F_count) rfl (lenOf pd12 rfl) rfl rfl d13_3 (by decide) (by decide) (by decide) (by decide) rfl
  have nab := n1
  replace R := (R.mono (ce' := 1) (sl' := 16) (by decide) (by decide)).stk (S' := []) rfl
  have hK := ((Keep.refl h [a]).trans K1 (allS (Or.inl (List.mem_of_getElem? (i := 0) rfl)) all0))
  exact R.retV (Ds' := b1 :: Ds) hret d13_6 (by decide) (by decide) (fun _ q => q) ⟨b1, _, rfl, hK, g1, nab, X1, F1_value, F1_coder, F1_count, V1, Y1, rfl⟩
theorem rm_minN (l : Launch) (Z : State) (a0 : Array Value) (hw : HW a0 Z) (h : Heap) (n0 : Nat) (Ds : List Addr) {N cap : Nat} (hN : N < cap) (hN18 : N ≤ 18) (hcap : cap ≤ 100) :
    Ctr l Z (⟨"java/lang/Math", "min", "(II)I"⟩ : MethodName) jdk_29_method_69_code 2 (some .int) [] (rmo 0 0 0 0) #[.int (Int32.ofNat cap), .int (Int32.ofNat N)] h n0 Ds (fun v h' Ds' => v = some (.int (Int32.ofNat N)) ∧ h = h' ∧ Ds = Ds') := by
  refine ctr_of (Ls := #[.val (.int (Int32.ofNat cap)), .val (.int (Int32.ofNat N))]) (Jvm.Free.JP.mathPlain rfl (by decide +kernel)) (fun m => by first | (simp [entryFrame, mkF, argsToLocals, Value.category]; done) | rfl) ?_
  intro C hl hret hnm R
  subst hl
  replace R := (((R.iloadN (pc' := 1) d37_0 rfl rfl).iloadN (pc' := 2) d37_1 rfl rfl).icmpY (pc' := 9) d37_2 (tlt (own_lt (by omega) hN)).2.2.1 (by decide) rfl).iloadN (pc' := 10) d37_9 rfl rfl
  exact R.retI (Ds' := Ds) hret d37_10 (by decide) (by decide) (fun _ q => q) ⟨rfl, rfl, rfl⟩
theorem rm_chlN (l : Launch) (Z : State) (a0 : Array Value) (hw : HW a0 Z) (h : Heap) (n0 : Nat) (Ds : List Addr) {N cap : Nat} (hN : N < cap) (hN18 : N ≤ 18) (hcap : cap ≤ 100) :
    Ctr l Z (⟨"java/util/Arrays", "checkLength", "(II)V"⟩ : MethodName) jdk_65_method_131_code 2 none [] (rmo 0 0 0 0) #[.int (0 : Int32), .int (Int32.ofNat N)] h n0 Ds (fun v h' Ds' => v = none ∧ h = h' ∧ Ds = Ds') := by
  refine ctr_of (Ls := #[.val (.int (0 : Int32)), .val (.int (Int32.ofNat N))]) (plainFor_of_name pn4) (fun m => by first | (simp [entryFrame, mkF, argsToLocals, Value.category]; done) | rfl) ?_
  intro C hl hret hnm R
  subst hl
  replace R := ((R.iloadN (pc' := 1) d36_0 rfl rfl).iloadN (pc' := 2) d36_1 rfl rfl).icmpY (pc' := 37) d36_2 (flt (nn0 (by omega))).2.1 (by decide) rfl
  exact R.retV (Ds' := Ds) hret d36_37 (by decide) (by decide) (fun _ q => q) ⟨rfl, rfl, rfl⟩
theorem rm_crbN (l : Launch) (Z : State) (a0 : Array Value) (hw : HW a0 Z) (h : Heap) (n0 : Nat) (Ds : List Addr) {N cap : Nat} (hN : N < cap) (hN18 : N ≤ 18) (hcap : cap ≤ 100) {vb : Addr} {kb : ClassId} {vd : List Value} (hvl : vd.length = cap) (V_b : Arv Z h vb kb .byte (Int32.ofNat cap) vd (.int 0)) {cs : List Int32} (hcs : vd.take N = bytesOfCs cs) :
    Ctr l Z (⟨"java/util/Arrays", "copyOfRangeByte", "([BII)[B"⟩ : MethodName) jdk_65_method_133_code 5 (some (.array .byte)) [] (rmo 1 1 18 80) #[.ref vb, .int (0 : Int32), .int (Int32.ofNat N)] h n0 Ds (fun v h' Ds' => ∃ (r : Addr) (kr : ClassId), v = some (.ref r) ∧ Keep h h' [] ∧ Arv Z h' r kr .byte (Int32.ofNat N) (bytesOfCs cs) (.int 0) ∧ Ds = Ds') := by
  refine ctr_of (Ls := #[.val (.ref vb), .val (.int (0 : Int32)), .val (.int (Int32.ofNat N)), .unset, .unset]) (plainFor_of_name pn4) (fun m => by first | (simp [entryFrame, mkF, argsToLocals, Value.category]; done) | rfl) ?_
  intro C hl hret hnm R
  subst hl
  have hlt : vb < h.size := V_b.lt
  replace R := (R.iloadN (pc' := 1) d35_0 rfl rfl).iloadN (pc' := 2) d35_1 rfl rfl
  replace R := own_pure0 (R.callS (pc' := 5) (argsL := [(.int (0 : Int32)), (.int (Int32.ofNat N))]) (rest := []) (W := 0) (w203 hw) (w204 hw) (w198 hw) (w205 hw) (by decide) (rm_chlN C.l Z a0 hw h n0 Ds hN hN18 hcap) rfl (lenOf pd2 rfl) rfl rfl d35_2 (by decide) (by decide) (by decide) (by decide) rfl)
  replace R := ((R.iloadN (pc' := 6) d35_5 rfl rfl).iloadN (pc' := 7) d35_6 rfl rfl).isub (pc' := 8) d35_7 rfl
  replace R := R.stk (congrArg (fun z => ([Value.int z] : List Value)) (own_sub0 _))
  replace R := (R.istoreN (pc' := 9) (l' := #[.val (.ref vb), .val (.int (0 : Int32)), .val (.int (Int32.ofNat N)), .val (.int (Int32.ofNat N)), .unset]) d35_8 rfl rfl).iloadN (pc' := 10) d35_9 rfl rfl
  obtain ⟨h1, b1, k1, g1, E1, V1, R⟩ := R.newP (pc' := 12) (aty := .byte) (cap := 18) (w18 hw) d35_10 (nn0 (by omega)) (by rw [own_clamp (by omega)]; exact hN18) (by decide) (by decide) (by decide) rfl
  have V1p : Arv Z h1 b1 k1 .byte (Int32.ofNat N) (List.replicate N (.int 0)) (.int 0) := V1.pad (pad_rep [] (.int 0) N)
  replace R := (((((R.astore (pc' := 14) (l' := #[.val (.ref vb), .val (.int (0 : Int32)), .val (.int (Int32.ofNat N)), .val (.int (Int32.ofNat N)), .val (.ref b1)]) d35_12 rfl rfl rfl).aloadN (pc' := 15) (v := (.ref vb)) d35_14 rfl rfl rfl).iloadN (pc' := 16) d35_15 rfl rfl).aload (pc' := 18) (v := (.ref b1)) d35_16 rfl rfl rfl).iconst (pc' := 19) (z := (0 : Int32)) d35_18 rfl rfl).aloadN (pc' := 20) (v := (.ref vb)) d35_19 rfl rfl rfl
  have K1 := ((Keep.refl h []).trans ((Keep.refl h []).ext E1) all0)
  have F2 := V_b.keep K1 nin0
  replace R := ((R.arraylength (pc' := 21) F2 d35_20 rfl).iloadN (pc' := 22) d35_21 rfl rfl).isub (pc' := 23) d35_22 rfl
  replace R := R.stk (congrArg (fun z => ([Value.int z, (.int (0 : Int32)), (.ref b1), (.int (0 : Int32)), (.ref vb)] : List Value)) (own_sub0 _))
  replace R := R.iloadN (pc' := 24) d35_23 rfl rfl
  replace R := own_pure (R.callS (pc' := 27) (argsL := [(.int (Int32.ofNat cap)), (.int (Int32.ofNat N))]) (rest := [(.int (0 : Int32)), (.ref b1), (.int (0 : Int32)), (.ref vb)]) (W := 4) (w206 hw) (w207 hw) (w208 hw) (w209 hw) (by decide) (rm_minN C.l Z a0 hw h1 n0 (b1 :: Ds) hN hN18 hcap) rfl (lenOf pd7 rfl) rfl rfl d35_24 (by decide) (by decide) (by decide) (by decide) rfl)
  obtain ⟨h2, K2, V2, R⟩ := R.copyB (pc' := 30) (W := 0) (us := vd.take N) (w210 hw) (w145 hw) (w143 hw) (w144 hw) F2 V1p rfl (by decide) (by decide) (nn0 (by omega)) (by rw [own_clamp (by omega), own_clamp (by omega)]; exact (Nat.zero_add N).symm ▸ Nat.le_of_lt hN) (by rw [own_clamp (by omega)]; exact Nat.le_of_eq (Nat.zero_add N)) (hus_take _ _ (by omega) (by omega)) (by rw [own_clamp (by omega), List.length_replicate]; exact Nat.le_of_eq (Nat.zero_add N)) (List.mem_of_getElem? (i := 0) rfl) rfl d35_27 (by decide) rfl (by decide) rfl
  have V2p : Arv Z h2 b1 k1 .byte (Int32.ofNat N) (bytesOfCs cs) (.int 0) := by
    have q := V2
    rw [own_clamp (k := N) (by omega), show (0 : Int32).toNatClampNeg = 0 from rfl, List.take_zero, List.nil_append, Nat.zero_add, List.drop_of_length_le (by rw [List.length_replicate]; exact Nat.le_refl N), List.append_nil, hcs] at q
    exact q
  replace R := R.aload (pc' := 32) (v := (.ref b1)) d35_30 rfl rfl rfl
  have hK := (((Keep.refl h []).trans ((Keep.refl h []).ext E1) all0).trans K2 (allS (Or.inr (by rw [g1]; exact (Nat.le_refl _))) all0))
  exact R.retA (Ds' := Ds) hret rfl rfl rfl d35_32 (by decide) (by decide) (fun _ q => (fun q => (List.mem_cons_of_mem _ q)) q) ⟨b1, _, rfl, hK, V2p, rfl⟩
theorem rm_crN (l : Launch) (Z : State) (a0 : Array Value) (hw : HW a0 Z) (h : Heap) (n0 : Nat) (Ds : List Addr) {N cap : Nat} (hN : N < cap) (hN18 : N ≤ 18) (hcap : cap ≤ 100) {vb : Addr} {kb : ClassId} {vd : List Value} (hvl : vd.length = cap) (V_b : Arv Z h vb kb .byte (Int32.ofNat cap) vd (.int 0)) {cs : List Int32} (hcs : vd.take N = bytesOfCs cs) :
    Ctr l Z (⟨"java/util/Arrays", "copyOfRange", "([BII)[B"⟩ : MethodName) jdk_65_method_132_code 3 (some (.array .byte)) [] (rmo 2 1 18 96) #[.ref vb, .int (0 : Int32), .int (Int32.ofNat N)] h n0 Ds (fun v h' Ds' => ∃ (r : Addr) (kr : ClassId), v = some (.ref r) ∧ Keep h h' [] ∧ Arv Z h' r kr .byte (Int32.ofNat N) (bytesOfCs cs) (.int 0) ∧ Ds = Ds') := by
  refine ctr_of (Ls := #[.val (.ref vb), .val (.int (0 : Int32)), .val (.int (Int32.ofNat N))]) (plainFor_of_name pn4) (fun m => by first | (simp [entryFrame, mkF, argsToLocals, Value.category]; done) | rfl) ?_
  intro C hl hret hnm R
  subst hl
  replace R := (((((R.iloadN (pc' := 1) d34_0 rfl rfl).ifN (pc' := 4) d34_1 (teq (by decide : (0 : Int32) = (0 : Int32))).2 rfl).iloadN (pc' := 5) d34_4 rfl rfl).aloadN (pc' := 6) (v := (.ref vb)) d34_5 rfl rfl rfl).arraylength (pc' := 7) V_b d34_6 rfl).icmpN (pc' := 10) d34_7 (feq (fun q => absurd (own_nat (by omega) (by omega) q) (by omega))).1 rfl
  replace R := ((R.aloadN (pc' := 11) (v := (.ref vb)) d34_10 rfl rfl rfl).iloadN (pc' := 12) d34_11 rfl rfl).iloadN (pc' := 13) d34_12 rfl rfl
  obtain ⟨_, h1, _, ⟨r1, k1, rfl, K1, V1, rfl⟩, R⟩ := R.callS (pc' := 16) (argsL := [(.ref vb), (.int (0 : Int32)), (.int (Int32.ofNat N))]) (rest := []) (W := 0) (w200 hw) (w201 hw) (w198 hw) (w202 hw) (by decide) (rm_crbN C.l Z a0 hw h n0 Ds hN hN18 hcap hvl V_b hcs) rfl (lenOf pd17 rfl) rfl rfl d34_13 (by decide) (by decide) (by decide) (by decide) rfl
  replace R := (R.mono (ce' := 1) (sl' := 18) (by decide) (by decide)).stk (S' := [(.ref r1)]) rfl
  have hK := ((Keep.refl h []).trans K1 all0)
  exact R.retA (Ds' := Ds) hret rfl rfl rfl d34_16 (by decide) (by decide) (fun _ q => q) ⟨r1, _, rfl, hK, V1, rfl⟩
theorem rm_crE (l : Launch) (Z : State) (a0 : Array Value) (hw : HW a0 Z) (h : Heap) (n0 : Nat) (Ds : List Addr) {vb : Addr} {kb : ClassId} {vd : List Value} (hvl : vd.length = 16) (V_b : Arv Z h vb kb .byte (16 : Int32) vd (.int 0)) {cs : List Int32} (hcs : vd.take 16 = bytesOfCs cs) (X_b : Exa Z h vb "[B") :
    Ctr l Z (⟨"java/util/Arrays", "copyOfRange", "([BII)[B"⟩ : MethodName) jdk_65_method_132_code 3 (some (.array .byte)) [] (rmo 1 1 16 14) #[.ref vb, .int (0 : Int32), .int (16 : Int32)] h n0 Ds (fun v h' Ds' => ∃ (r : Addr) (kr : ClassId), v = some (.ref r) ∧ Keep h h' [] ∧ Arv Z h' r kr .byte (16 : Int32) (bytesOfCs cs) (.int 0) ∧ Ds = Ds') := by
  refine ctr_of (Ls := #[.val (.ref vb), .val (.int (0 : Int32)), .val (.int (16 : Int32))]) (plainFor_of_name pn4) (fun m => by first | (simp [entryFrame, mkF, argsToLocals, Value.category]; done) | rfl) ?_
  intro C hl hret hnm R
  subst hl
  replace R := (((((R.iloadN (pc' := 1) d34_0 rfl rfl).ifN (pc' := 4) d34_1 (teq (by decide : (0 : Int32) = (0 : Int32))).2 rfl).iloadN (pc' := 5) d34_4 rfl rfl).aloadN (pc' := 6) (v := (.ref vb)) d34_5 rfl rfl rfl).arraylength (pc' := 7) V_b d34_6 rfl).icmpY (pc' := 17) d34_7 (teq (by decide : (16 : Int32) = (16 : Int32))).1 (by decide) rfl
  replace R := R.aloadN (pc' := 18) (v := (.ref vb)) d34_17 rfl rfl rfl
  obtain ⟨h1, b1, g1, E1, V1, X1, R⟩ := R.clone (pc' := 21) (W := 0) (cap := 16) (w325 hw) (w326 hw) (w330 hw) (w328 hw) (w329 hw) (w331 hw) V_b X_b rfl d34_18 (by decide) rfl (by decide) (by decide) (by decide) (by decide) rfl
  replace R := R.castY (pc' := 24) (w332 hw) (Ins.self X1) d34_21 rfl
  have hK := ((Keep.refl h []).trans ((Keep.refl h []).ext E1) all0)
  have ev : vd = bytesOfCs cs := by rw [← hcs, List.take_of_length_le (by omega)]
  have hV := V1
  rw [ev] at hV
  exact R.retA (Ds' := Ds) hret rfl rfl rfl d34_24 (by decide) (by decide) (fun _ q => (fun q => (List.mem_cons_of_mem _ q)) q) ⟨b1, _, rfl, hK, hV, rfl⟩
theorem rm_gv (l : Launch) (Z : State) (a0 : Array Value) (hw : HW a0 Z) (s : Addr) (h : Heap) (n0 : Nat) (Ds : List Addr) (own_cs : CompactOn Z) {vb : Addr} {cn : Int32} (E_s : Exa Z h s "java/lang/StringBuilder") (F_value : Fld Z h s "java/lang/AbstractStringBuilder" "value" "[B" (.ref vb)) (F_coder : Fld Z h s "java/lang/AbstractStringBuilder" "coder" "B" (.int (0 : Int32))) (F_count : Fld Z h s "java/lang/AbstractStringBuilder" "count" "I" (.int cn)) :
    Ctr l Z (⟨"java/lang/AbstractStringBuilder", "getValue", "()[B"⟩ : MethodName) jdk_68_method_64_code 1 (some (.array .byte)) [] (rmo 0 0 0 0) #[.ref s] h n0 Ds (fun v h' Ds' => v = some (.ref vb) ∧ h = h' ∧ Ds = Ds') := by
  refine ctr_of (Ls := #[.val (.ref s)]) (plainFor_of_name pn3) (fun m => by first | (simp [entryFrame, mkF, argsToLocals, Value.category]; done) | rfl) ?_
  intro C hl hret hnm R
  subst hl
  replace R := (R.aloadN (pc' := 1) (v := (.ref s)) d31_0 rfl rfl rfl).getF (pc' := 4) (host := "") (Or.inl (w95 hw)) Via.refl F_value d31_1 rfl
  exact R.retA (Ds' := Ds) hret rfl rfl rfl d31_4 (by decide) (by decide) (fun _ q => q) ⟨rfl, rfl, rfl⟩
theorem rm_al (l : Launch) (Z : State) (a0 : Array Value) (hw : HW a0 Z) (s : Addr) (h : Heap) (n0 : Nat) (Ds : List Addr) (own_cs : CompactOn Z) {vb : Addr} {cn : Int32} (E_s : Exa Z h s "java/lang/StringBuilder") (F_value : Fld Z h s "java/lang/AbstractStringBuilder" "value" "[B" (.ref vb)) (F_coder : Fld Z h s "java/lang/AbstractStringBuilder" "coder" "B" (.int (0 : Int32))) (F_count : Fld Z h s "java/lang/AbstractStringBuilder" "count" "I" (.int cn)) :
    Ctr l Z (⟨"java/lang/AbstractStringBuilder", "length", "()I"⟩ : MethodName) jdk_68_method_6_code 1 (some .int) [] (rmo 0 0 0 0) #[.ref s] h n0 Ds (fun v h' Ds' => v = some (.int cn) ∧ h = h' ∧ Ds = Ds') := by
  refine ctr_of (Ls := #[.val (.ref s)]) (plainFor_of_name pn3) (fun m => by first | (simp [entryFrame, mkF, argsToLocals, Value.category]; done) | rfl) ?_
  intro C hl hret hnm R
  subst hl
  replace R := (R.aloadN (pc' := 1) (v := (.ref s)) d33_0 rfl rfl rfl).getF (pc' := 4) (host := "") (Or.inl (w119 hw)) Via.refl F_count d33_1 rfl
  exact R.retI (Ds' := Ds) hret d33_4 (by decide) (by decide) (fun _ q => q) ⟨rfl, rfl, rfl⟩
theorem rm_sl (l : Launch) (Z : State) (a0 : Array Value) (hw : HW a0 Z) (s : Addr) (h : Heap) (n0 : Nat) (Ds : List Addr) (own_cs : CompactOn Z) {vb : Addr} {cn : Int32} (E_s : Exa Z h s "java/lang/StringBuilder") (F_value : Fld Z h s "java/lang/AbstractStringBuilder" "value" "[B" (.ref vb)) (F_coder : Fld Z h s "java/lang/AbstractStringBuilder" "coder" "B" (.int (0 : Int32))) (F_count : Fld Z h s "java/lang/AbstractStringBuilder" "count" "I" (.int cn)) :
    Ctr l Z (⟨"java/lang/StringBuilder", "length", "()I"⟩ : MethodName) jdk_67_method_93_code 1 (some .int) [] (rmo 1 0 0 12) #[.ref s] h n0 Ds (fun v h' Ds' => v = some (.int cn) ∧ h = h' ∧ Ds = Ds') := by
  refine ctr_of (Ls := #[.val (.ref s)]) (plainFor_of_name pn6) (fun m => by first | (simp [entryFrame, mkF, argsToLocals, Value.category]; done) | rfl) ?_
  intro C hl hret hnm R
  subst hl
  replace R := R.aloadN (pc' := 1) (v := (.ref s)) d32_0 rfl rfl rfl
  replace R := own_pure (R.callSup (pc' := 4) (y := (⟨"java/lang/AbstractStringBuilder", "length", "()I"⟩ : MethodName)) (a := s) (argsL := []) (rest := []) (W := 0) (by decide) (w193 hw) (own_same (w189 hw) (w124 hw) rfl (by decide)) (w106 hw) (w189 hw) (w91 hw) (w194 hw) E_s (rm_al C.l Z a0 hw s h n0 Ds own_cs E_s F_value F_coder F_count) rfl (lenOf pd11 rfl) rfl rfl d32_1 (by decide) (by decide) (by decide) (by decide) rfl)
  exact R.retI (Ds' := Ds) hret d32_4 (by decide) (by decide) (fun _ q => q) ⟨rfl, rfl, rfl⟩
theorem rm_ia_lt (l : Launch) (Z : State) (a0 : Array Value) (hw : HW a0 Z) (a s : Addr) (h : Heap) (n0 : Nat) (Ds : List Addr) (own_cs : CompactOn Z) (ha : a ∈ Ds) {N cap : Nat} (hN : N < cap) (hN18 : N ≤ 18) (hcap : cap ≤ 100) {vb : Addr} {kb : ClassId} {vd : List Value} (hvl : vd.length = cap) (V_b : Arv Z h vb kb .byte (Int32.ofNat cap) vd (.int 0)) {cs : List Int32} (hcs : vd.take N = bytesOfCs cs) (hok : ∀ c ∈ cs, ¬ c < 0 ∧ ¬ (255 : Int32) < c) (hlen : cs.length = N) (E_s : Exa Z h s "java/lang/StringBuilder") (F_value : Fld Z h s "java/lang/AbstractStringBuilder" "value" "[B" (.ref vb)) (F_coder : Fld Z h s "java/lang/AbstractStringBuilder" "coder" "B" (.int (0 : Int32))) (F_count : Fld Z h s "java/lang/AbstractStringBuilder" "count" "I" (.int (Int32.ofNat N))) {w1 w2 : Value} (E_a : Exa Z h a "java/lang/String") (F_v : Fld Z h a "java/lang/String" "value" "[B" w1) (F_c : Fld Z h a "java/lang/String" "coder" "B" w2) :
    Ctr l Z (⟨"java/lang/String", "<init>", "(Ljava/lang/AbstractStringBuilder;Ljava/lang/Void;)V"⟩ : MethodName) jdk_42_method_150_code 5 none [] (rmo 3 1 18 111) #[.ref a, .ref s, .null] h n0 Ds (fun v h' Ds' => v = none ∧ Keep h h' [a] ∧ IsStr Z h' a cs ∧ Ds = Ds') := by
  refine ctr_of (Ls := #[.val (.ref a), .val (.ref s), .val .null, .unset, .unset]) (plainFor_of_name pn0) (fun m => by first | (simp [entryFrame, mkF, argsToLocals, Value.category]; done) | rfl) ?_
  intro C hl hret hnm R
  subst hl
  have nas : a ≠ s := Exa.ne E_a E_s (by decide)
  have nab : a ≠ vb := Exa.neArv E_a V_b (w14 hw)
  replace R := ((R.aloadN (pc' := 1) (v := (.ref a)) d30_0 rfl rfl rfl).initO (pc' := 4) (W := 0) (w23 hw) (w24 hw) (w25 hw) rfl d30_1 (by decide) rfl (by decide) rfl).aloadN (pc' := 5) (v := (.ref s)) d30_4 rfl rfl rfl
  replace R := own_pure (R.callV (pc' := 8) (y := (⟨"java/lang/AbstractStringBuilder", "getValue", "()[B"⟩ : MethodName)) (z := (⟨"java/lang/AbstractStringBuilder", "getValue", "()[B"⟩ : MethodName)) (argsL := []) (rest := []) (W := 0) (w182 hw) (w183 hw) (fun s' hZ' => notFace_of_selects (args := #[]) (mvT hZ' (w185 hw))) (w185 hw) (w184 hw) (w91 hw) (w186 hw) (by decide) E_s (rm_gv C.l Z a0 hw s h n0 Ds own_cs E_s F_value F_coder F_count) rfl (lenOf pd18 rfl) rfl rfl d30_5 (by decide) (by decide) (by decide) (by decide) rfl)
  replace R := (R.astoreN (pc' := 9) (l' := #[.val (.ref a), .val (.ref s), .val .null, .val (.ref vb), .unset]) d30_8 rfl rfl rfl).aloadN (pc' := 10) (v := (.ref s)) d30_9 rfl rfl rfl
  replace R := own_pure (R.callV (pc' := 13) (y := (⟨"java/lang/AbstractStringBuilder", "length", "()I"⟩ : MethodName)) (z := (⟨"java/lang/StringBuilder", "length", "()I"⟩ : MethodName)) (argsL := []) (rest := []) (W := 0) (w187 hw) (w188 hw) (fun s' hZ' => own_nf (args := #[]) (mvT hZ' (w124 hw)) rfl) (w190 hw) (w191 hw) (w83 hw) (w192 hw) (by decide) E_s (rm_sl C.l Z a0 hw s h n0 Ds own_cs E_s F_value F_coder F_count) rfl (lenOf pd11 rfl) rfl rfl d30_10 (by decide) (by decide) (by decide) (by decide) rfl)
  replace R := (R.istore (pc' := 15) (l' := #[.val (.ref a), .val (.ref s), .val .null, .val (.ref vb), .val (.int (Int32.ofNat N))]) d30_13 rfl rfl).aloadN (pc' := 16) (v := (.ref s)) d30_15 rfl rfl rfl
  replace R := own_pure (R.callV (pc' := 19) (y := (⟨"java/lang/AbstractStringBuilder", "isLatin1", "()Z"⟩ : MethodName)) (z := (⟨"java/lang/AbstractStringBuilder", "isLatin1", "()Z"⟩ : MethodName)) (argsL := []) (rest := []) (W := 0) (w195 hw) (w161 hw) (fun s' hZ' => notFace_of_selects (args := #[]) (mvT hZ' (w163 hw))) (w163 hw) (w162 hw) (w91 hw) (w164 hw) (by decide) E_s (rm_il C.l Z a0 hw s h n0 Ds own_cs E_s F_coder) rfl (lenOf pd3 rfl) rfl rfl d30_16 (by decide) (by decide) (by decide) (by decide) rfl)
  replace R := ((R.ifN (pc' := 22) d30_19 (feq (by decide : ¬ ((1 : Int32) = (0 : Int32)))).1 rfl).aloadN (pc' := 23) (v := (.ref a)) d30_22 rfl rfl rfl).iconst (pc' := 24) (z := (0 : Int32)) d30_23 rfl rfl
  obtain ⟨h1, W1, R⟩ := R.putFN (pc' := 27) (ty := .byte) (v' := (.int (0 : Int32))) (w28 hw) Via.refl F_c E_a (Or.inr ⟨(w29 hw), rfl, hnm⟩) (w14 hw) (by decide) (rfl) (rfl) ha d30_24 rfl
  have F1 := F_c.same W1
  have F2 := F_v.other W1 (Or.inr (slot_ne (Or.inr (w27 hw)) (Or.inr (w29 hw)) (by decide) (t := (.array .byte)) (t' := .byte) (by decide) (by decide)))
  replace R := (((R.aloadN (pc' := 28) (v := (.ref a)) d30_27 rfl rfl rfl).aloadN (pc' := 29) (v := (.ref vb)) d30_28 rfl rfl rfl).iconst (pc' := 30) (z := (0 : Int32)) d30_29 rfl rfl).iload (pc' := 32) d30_30 rfl rfl
  have K4 := ((Keep.refl h [a]).trans (Keep.of_wr W1) (allS (Or.inl (List.mem_of_getElem? (i := 0) rfl)) all0))
  have F5 := V_b.keep K4 (ninS (Ne.symm nab) nin0)
  obtain ⟨_, h3, _, ⟨r3, k3, rfl, K3, V3, rfl⟩, R⟩ := R.callS (pc' := 35) (argsL := [(.ref vb), (.int (0 : Int32)), (.int (Int32.ofNat N))]) (rest := [(.ref a)]) (W := 1) (w196 hw) (w197 hw) (w198 hw) (w199 hw) (by decide) (rm_crN C.l Z a0 hw h1 n0 Ds hN hN18 hcap hvl F5 hcs) rfl (lenOf pd17 rfl) rfl rfl d30_32 (by decide) (by decide) (by decide) (by decide) rfl
  replace R := (R.mono (ce' := 1) (sl' := 18) (by decide) (by decide)).stk (S' := [(.ref r3), (.ref a)]) rfl
  have K6 := (((Keep.refl h [a]).trans (Keep.of_wr W1) (allS (Or.inl (List.mem_of_getElem? (i := 0) rfl)) all0)).trans K3 all0)
  have F7 := E_a.keep K6
  have nar : a ≠ r3 := Exa.neArv F7 V3 (w14 hw)
  have K8 := ((Keep.refl h1 []).trans K3 all0)
  have F9 := F2.keep K8 nin0
  have K10 := ((Keep.refl h1 []).trans K3 all0)
  have F11 := F1.keep K10 nin0
  obtain ⟨h12, W12, R⟩ := R.putF (pc' := 38) (ty := (.array .byte)) (host := "") (Or.inl (w26 hw)) Via.refl F9 F7 (Or.inr ⟨(w27 hw), rfl, hnm⟩) (w14 hw) (by decide) rfl rfl ha d30_35 rfl
  have F12 := F9.same W12
  have F13 := F11.other W12 (Or.inr (slot_ne (Or.inr (w29 hw)) (Or.inr (w27 hw)) (by decide) (t := .byte) (t' := (.array .byte)) (by decide) (by decide)))
  replace R := R.goto (pc' := 97) d30_38 (by decide) rfl
  have hK := ((((Keep.refl h [a]).trans (Keep.of_wr W1) (allS (Or.inl (List.mem_of_getElem? (i := 0) rfl)) all0)).trans K3 all0).trans (Keep.of_wr W12) (allS (Or.inl (List.mem_of_getElem? (i := 0) rfl)) all0))
  have K14 := ((Keep.refl h3 [a]).trans (Keep.of_wr W12) (allS (Or.inl (List.mem_of_getElem? (i := 0) rfl)) all0))
  have F15 := V3.keep K14 (ninS (Ne.symm nar) nin0)
  have hV := F15
  have hV2 : Arv Z h12 r3 k3 .byte (Int32.ofNat cs.length) (bytesOfCs cs) (.int 0) := by rw [hlen]; exact hV
  have K16 := ((Keep.refl h3 [a]).trans (Keep.of_wr W12) (allS (Or.inl (List.mem_of_getElem? (i := 0) rfl)) all0))
  have F17 := F7.keep K16
  exact R.retV (Ds' := Ds) hret d30_97 (by decide) (by decide) (fun _ q => q) ⟨rfl, hK, ⟨F17, F13, hok, by omega, r3, _, F12, hV2⟩, rfl⟩
theorem rm_is_lt (l : Launch) (Z : State) (a0 : Array Value) (hw : HW a0 Z) (a s : Addr) (h : Heap) (n0 : Nat) (Ds : List Addr) (own_cs : CompactOn Z) (ha : a ∈ Ds) {N cap : Nat} (hN : N < cap) (hN18 : N ≤ 18) (hcap : cap ≤ 100) {vb : Addr} {kb : ClassId} {vd : List Value} (hvl : vd.length = cap) (V_b : Arv Z h vb kb .byte (Int32.ofNat cap) vd (.int 0)) {cs : List Int32} (hcs : vd.take N = bytesOfCs cs) (hok : ∀ c ∈ cs, ¬ c < 0 ∧ ¬ (255 : Int32) < c) (hlen : cs.length = N) (E_s : Exa Z h s "java/lang/StringBuilder") (F_value : Fld Z h s "java/lang/AbstractStringBuilder" "value" "[B" (.ref vb)) (F_coder : Fld Z h s "java/lang/AbstractStringBuilder" "coder" "B" (.int (0 : Int32))) (F_count : Fld Z h s "java/lang/AbstractStringBuilder" "count" "I" (.int (Int32.ofNat N))) {w1 w2 : Value} (E_a : Exa Z h a "java/lang/String") (F_v : Fld Z h a "java/lang/String" "value" "[B" w1) (F_c : Fld Z h a "java/lang/String" "coder" "B" w2) :
    Ctr l Z (⟨"java/lang/String", "<init>", "(Ljava/lang/StringBuilder;)V"⟩ : MethodName) jdk_42_method_53_code 2 none [] (rmo 4 1 18 127) #[.ref a, .ref s] h n0 Ds (fun v h' Ds' => v = none ∧ Keep h h' [a] ∧ IsStr Z h' a cs ∧ Ds = Ds') := by
  refine ctr_of (Ls := #[.val (.ref a), .val (.ref s)]) (plainFor_of_name pn0) (fun m => by first | (simp [entryFrame, mkF, argsToLocals, Value.category]; done) | rfl) ?_
  intro C hl hret hnm R
  subst hl
  have nas : a ≠ s := Exa.ne E_a E_s (by decide)
  have nab : a ≠ vb := Exa.neArv E_a V_b (w14 hw)
  replace R := ((R.aloadN (pc' := 1) (v := (.ref a)) d29_0 rfl rfl rfl).aloadN (pc' := 2) (v := (.ref s)) d29_1 rfl rfl rfl).anull (pc' := 3) d29_2 rfl
  obtain ⟨_, h1, _, ⟨rfl, K1, S1, rfl⟩, R⟩ := R.callI (pc' := 6) (a := a) (argsL := [(.ref s), .null]) (rest := []) (W := 0) rfl (w179 hw) (w180 hw) (w6 hw) (w181 hw) (by decide) (rm_ia_lt C.l Z a0 hw a s h n0 Ds own_cs ha hN hN18 hcap hvl V_b hcs hok hlen E_s F_value F_coder F_count E_a F_v F_c) rfl (lenOf pd19 rfl) rfl rfl d29_3 (by decide) (by decide) (by decide) (by decide) rfl
  replace R := (R.mono (ce' := 1) (sl' := 18) (by decide) (by decide)).stk (S' := []) rfl
  have hK := ((Keep.refl h [a]).trans K1 (allS (Or.inl (List.mem_of_getElem? (i := 0) rfl)) all0))
  exact R.retV (Ds' := Ds) hret d29_6 (by decide) (by decide) (fun _ q => q) ⟨rfl, hK, S1, rfl⟩
theorem rm_ts_lt (l : Launch) (Z : State) (a0 : Array Value) (hw : HW a0 Z) (s : Addr) (h : Heap) (n0 : Nat) (Ds : List Addr) (own_cs : CompactOn Z) {N cap : Nat} (hN : N < cap) (hN18 : N ≤ 18) (hcap : cap ≤ 100) {vb : Addr} {kb : ClassId} {vd : List Value} (hvl : vd.length = cap) (V_b : Arv Z h vb kb .byte (Int32.ofNat cap) vd (.int 0)) {cs : List Int32} (hcs : vd.take N = bytesOfCs cs) (hok : ∀ c ∈ cs, ¬ c < 0 ∧ ¬ (255 : Int32) < c) (hlen : cs.length = N) (E_s : Exa Z h s "java/lang/StringBuilder") (F_value : Fld Z h s "java/lang/AbstractStringBuilder" "value" "[B" (.ref vb)) (F_coder : Fld Z h s "java/lang/AbstractStringBuilder" "coder" "B" (.int (0 : Int32))) (F_count : Fld Z h s "java/lang/AbstractStringBuilder" "count" "I" (.int (Int32.ofNat N))) :
    Ctr l Z (⟨"java/lang/StringBuilder", "toString", "()Ljava/lang/String;"⟩ : MethodName) jdk_67_method_42_code 1 (some (.object "java/lang/String")) [] (rmo 5 2 22 141) #[.ref s] h n0 Ds (fun v h' Ds' => ∃ r : Addr, v = some (.ref r) ∧ Keep h h' [] ∧ IsStr Z h' r cs ∧ Ds = Ds') := by
  refine ctr_of (Ls := #[.val (.ref s)]) (plainFor_of_name pn6) (fun m => by first | (simp [entryFrame, mkF, argsToLocals, Value.category]; done) | rfl) ?_
  intro C hl hret hnm R
  subst hl
  obtain ⟨h1, b1, g1, E1, X1, D1, R⟩ := R.newO (pc' := 3) (w175 hw) (w14 hw) (w6 hw) d28_0 (by decide) (by decide) rfl
  have F1_value : Fld Z h1 b1 "java/lang/String" "value" "[B" .null := D1 (Or.inr (w27 hw)) (ty := (.array .byte)) (by decide)
  have F1_coder : Fld Z h1 b1 "java/lang/String" "coder" "B" (.int (0 : Int32)) := D1 (Or.inr (w29 hw)) (ty := .byte) (by decide)
  replace R := (R.dup (pc' := 4) d28_3 rfl rfl).aloadN (pc' := 5) (v := (.ref s)) d28_4 rfl rfl rfl
  have K3 := ((Keep.refl h []).trans ((Keep.refl h []).ext E1) all0)
  have F4 := V_b.keep K3 nin0
  have K5 := ((Keep.refl h []).trans ((Keep.refl h []).ext E1) all0)
  have F6 := E_s.keep K5
  have K7 := ((Keep.refl h []).trans ((Keep.refl h []).ext E1) all0)
  have F8 := F_value.keep K7 nin0
  have K9 := ((Keep.refl h []).trans ((Keep.refl h []).ext E1) all0)
  have F10 := F_coder.keep K9 nin0
  have K11 := ((Keep.refl h []).trans ((Keep.refl h []).ext E1) all0)
  have F12 := F_count.keep K11 nin0
  obtain ⟨_, h2, _, ⟨rfl, K2, S2, rfl⟩, R⟩ := R.callI (pc' := 8) (a := b1) (argsL := [(.ref s)]) (rest := [(.ref b1)]) (W := 1) rfl (w176 hw) (w177 hw) (w6 hw) (w178 hw) (by decide) (rm_is_lt C.l Z a0 hw b1 s h1 n0 (b1 :: Ds) own_cs (List.mem_of_getElem? (i := 0) rfl) hN hN18 hcap hvl F4 hcs hok hlen F6 F8 F10 F12 X1 F1_value F1_coder) rfl (lenOf pd20 rfl) rfl rfl d28_5 (by decide) (by decide) (by decide) (by decide) rfl
  replace R := (R.mono (ce' := 2) (sl' := 22) (by decide) (by decide)).stk (S' := [(.ref b1)]) rfl
  have hK := (((Keep.refl h []).trans ((Keep.refl h []).ext E1) all0).trans K2 (allS (Or.inr (by rw [g1]; exact (Nat.le_refl _))) all0))
  exact R.retA (Ds' := Ds) hret rfl rfl rfl d28_8 (by decide) (by decide) (fun _ q => (fun q => (List.mem_cons_of_mem _ q)) q) ⟨b1, rfl, hK, S2, rfl⟩
theorem rm_ia_eq (l : Launch) (Z : State) (a0 : Array Value) (hw : HW a0 Z) (a s : Addr) (h : Heap) (n0 : Nat) (Ds : List Addr) (own_cs : CompactOn Z) (ha : a ∈ Ds) {vb : Addr} {kb : ClassId} {vd : List Value} (hvl : vd.length = 16) (V_b : Arv Z h vb kb .byte (16 : Int32) vd (.int 0)) {cs : List Int32} (hcs : vd.take 16 = bytesOfCs cs) (X_b : Exa Z h vb "[B") (hok : ∀ c ∈ cs, ¬ c < 0 ∧ ¬ (255 : Int32) < c) (hlen : cs.length = 16) (E_s : Exa Z h s "java/lang/StringBuilder") (F_value : Fld Z h s "java/lang/AbstractStringBuilder" "value" "[B" (.ref vb)) (F_coder : Fld Z h s "java/lang/AbstractStringBuilder" "coder" "B" (.int (0 : Int32))) (F_count : Fld Z h s "java/lang/AbstractStringBuilder" "count" "I" (.int (16 : Int32))) {w1 w2 : Value} (E_a : Exa Z h a "java/lang/String") (F_v : Fld Z h a "java/lang/String" "value" "[B" w1) (F_c : Fld Z h a "java/lang/String" "coder" "B" w2) :
    Ctr l Z (⟨"java/lang/String", "<init>", "(Ljava/lang/AbstractStringBuilder;Ljava/lang/Void;)V"⟩ : MethodName) jdk_42_method_150_code 5 none [] (rmo 2 1 16 29) #[.ref a, .ref s, .null] h n0 Ds (fun v h' Ds' => v = none ∧ Keep h h' [a] ∧ IsStr Z h' a cs ∧ Ds = Ds') := by
  refine ctr_of (Ls := #[.val (.ref a), .val (.ref s), .val .null, .unset, .unset]) (plainFor_of_name pn0) (fun m => by first | (simp [entryFrame, mkF, argsToLocals, Value.category]; done) | rfl) ?_
  intro C hl hret hnm R
  subst hl
  have nas : a ≠ s := Exa.ne E_a E_s (by decide)
  have nab : a ≠ vb := Exa.neArv E_a V_b (w14 hw)
  replace R := ((R.aloadN (pc' := 1) (v := (.ref a)) d30_0 rfl rfl rfl).initO (pc' := 4) (W := 0) (w23 hw) (w24 hw) (w25 hw) rfl d30_1 (by decide) rfl (by decide) rfl).aloadN (pc' := 5) (v := (.ref s)) d30_4 rfl rfl rfl
  replace R := own_pure (R.callV (pc' := 8) (y := (⟨"java/lang/AbstractStringBuilder", "getValue", "()[B"⟩ : MethodName)) (z := (⟨"java/lang/AbstractStringBuilder", "getValue", "()[B"⟩ : MethodName)) (argsL := []) (rest := []) (W := 0) (w182 hw) (w183 hw) (fun s' hZ' => notFace_of_selects (args := #[]) (mvT hZ' (w185 hw))) (w185 hw) (w184 hw) (w91 hw) (w186 hw) (by decide) E_s (rm_gv C.l Z a0 hw s h n0 Ds own_cs E_s F_value F_coder F_count) rfl (lenOf pd18 rfl) rfl rfl d30_5 (by decide) (by decide) (by decide) (by decide) rfl)
  replace R := (R.astoreN (pc' := 9) (l' := #[.val (.ref a), .val (.ref s), .val .null, .val (.ref vb), .unset]) d30_8 rfl rfl rfl).aloadN (pc' := 10) (v := (.ref s)) d30_9 rfl rfl rfl
  replace R := own_pure (R.callV (pc' := 13) (y := (⟨"java/lang/AbstractStringBuilder", "length", "()I"⟩ : MethodName)) (z := (⟨"java/lang/StringBuilder", "length", "()I"⟩ : MethodName)) (argsL := []) (rest := []) (W := 0) (w187 hw) (w188 hw) (fun s' hZ' => own_nf (args := #[]) (mvT hZ' (w124 hw)) rfl) (w190 hw) (w191 hw) (w83 hw) (w192 hw) (by decide) E_s (rm_sl C.l Z a0 hw s h n0 Ds own_cs E_s F_value F_coder F_count) rfl (lenOf pd11 rfl) rfl rfl d30_10 (by decide) (by decide) (by decide) (by decide) rfl)
  replace R := (R.istore (pc' := 15) (l' := #[.val (.ref a), .val (.ref s), .val .null, .val (.ref vb), .val (.int (16 : Int32))]) d30_13 rfl rfl).aloadN (pc' := 16) (v := (.ref s)) d30_15 rfl rfl rfl
  replace R := own_pure (R.callV (pc' := 19) (y := (⟨"java/lang/AbstractStringBuilder", "isLatin1", "()Z"⟩ : MethodName)) (z := (⟨"java/lang/AbstractStringBuilder", "isLatin1", "()Z"⟩ : MethodName)) (argsL := []) (rest := []) (W := 0) (w195 hw) (w161 hw) (fun s' hZ' => notFace_of_selects (args := #[]) (mvT hZ' (w163 hw))) (w163 hw) (w162 hw) (w91 hw) (w164 hw) (by decide) E_s (rm_il C.l Z a0 hw s h n0 Ds own_cs E_s F_coder) rfl (lenOf pd3 rfl) rfl rfl d30_16 (by decide) (by decide) (by decide) (by decide) rfl)
  replace R := ((R.ifN (pc' := 22) d30_19 (feq (by decide : ¬ ((1 : Int32) = (0 : Int32)))).1 rfl).aloadN (pc' := 23) (v := (.ref a)) d30_22 rfl rfl rfl).iconst (pc' := 24) (z := (0 : Int32)) d30_23 rfl rfl
  obtain ⟨h1, W1, R⟩ := R.putFN (pc' := 27) (ty := .byte) (v' := (.int (0 : Int32))) (w28 hw) Via.refl F_c E_a (Or.inr ⟨(w29 hw), rfl, hnm⟩) (w14 hw) (by decide) (rfl) (rfl) ha d30_24 rfl
  have F1 := F_c.same W1
  have F2 := F_v.other W1 (Or.inr (slot_ne (Or.inr (w27 hw)) (Or.inr (w29 hw)) (by decide) (t := (.array .byte)) (t' := .byte) (by decide) (by decide)))
  replace R := (((R.aloadN (pc' := 28) (v := (.ref a)) d30_27 rfl rfl rfl).aloadN (pc' := 29) (v := (.ref vb)) d30_28 rfl rfl rfl).iconst (pc' := 30) (z := (0 : Int32)) d30_29 rfl rfl).iload (pc' := 32) d30_30 rfl rfl
  have K4 := ((Keep.refl h [a]).trans (Keep.of_wr W1) (allS (Or.inl (List.mem_of_getElem? (i := 0) rfl)) all0))
  have F5 := V_b.keep K4 (ninS (Ne.symm nab) nin0)
  have K6 := ((Keep.refl h [a]).trans (Keep.of_wr W1) (allS (Or.inl (List.mem_of_getElem? (i := 0) rfl)) all0))
  have F7 := X_b.keep K6
  obtain ⟨_, h3, _, ⟨r3, k3, rfl, K3, V3, rfl⟩, R⟩ := R.callS (pc' := 35) (argsL := [(.ref vb), (.int (0 : Int32)), (.int (16 : Int32))]) (rest := [(.ref a)]) (W := 1) (w196 hw) (w197 hw) (w198 hw) (w199 hw) (by decide) (rm_crE C.l Z a0 hw h1 n0 Ds  hvl F5 hcs F7) rfl (lenOf pd17 rfl) rfl rfl d30_32 (by decide) (by decide) (by decide) (by decide) rfl
  replace R := (R.mono (ce' := 1) (sl' := 16) (by decide) (by decide)).stk (S' := [(.ref r3), (.ref a)]) rfl
  have K8 := (((Keep.refl h [a]).trans (Keep.of_wr W1) (allS (Or.inl (List.mem_of_getElem? (i := 0) rfl)) all0)).trans K3 all0)
  have F9 := E_a.keep K8
  have nar : a ≠ r3 := Exa.neArv F9 V3 (w14 hw)
  have K10 := ((Keep.refl h1 []).trans K3 all0)
  have F11 := F2.keep K10 nin0
  have K12 := ((Keep.refl h1 []).trans K3 all0)
  have F13 := F1.keep K12 nin0
  obtain ⟨h14, W14, R⟩ := R.putF (pc' := 38) (ty := (.array .byte)) (host := "") (Or.inl (w26 hw)) Via.refl F11 F9 (Or.inr ⟨(w27 hw), rfl, hnm⟩) (w14 hw) (by decide) rfl rfl ha d30_35 rfl
  have F14 := F11.same W14
  have F15 := F13.other W14 (Or.inr (slot_ne (Or.inr (w29 hw)) (Or.inr (w27 hw)) (by decide) (t := .byte) (t' := (.array .byte)) (by decide) (by decide)))
  replace R := R.goto (pc' := 97) d30_38 (by decide) rfl
  have hK := ((((Keep.refl h [a]).trans (Keep.of_wr W1) (allS (Or.inl (List.mem_of_getElem? (i := 0) rfl)) all0)).trans K3 all0).trans (Keep.of_wr W14) (allS (Or.inl (List.mem_of_getElem? (i := 0) rfl)) all0))
  have K16 := ((Keep.refl h3 [a]).trans (Keep.of_wr W14) (allS (Or.inl (List.mem_of_getElem? (i := 0) rfl)) all0))
  have F17 := V3.keep K16 (ninS (Ne.symm nar) nin0)
  have hV := F17
  have hV2 : Arv Z h14 r3 k3 .byte (Int32.ofNat cs.length) (bytesOfCs cs) (.int 0) := by rw [hlen]; exact hV
  have K18 := ((Keep.refl h3 [a]).trans (Keep.of_wr W14) (allS (Or.inl (List.mem_of_getElem? (i := 0) rfl)) all0))
  have F19 := F9.keep K18
  exact R.retV (Ds' := Ds) hret d30_97 (by decide) (by decide) (fun _ q => q) ⟨rfl, hK, ⟨F19, F15, hok, by omega, r3, _, F14, hV2⟩, rfl⟩
theorem rm_is_eq (l : Launch) (Z : State) (a0 : Array Value) (hw : HW a0 Z) (a s : Addr) (h : Heap) (n0 : Nat) (Ds : List Addr) (own_cs : CompactOn Z) (ha : a ∈ Ds) {vb : Addr} {kb : ClassId} {vd : List Value} (hvl : vd.length = 16) (V_b : Arv Z h vb kb .byte (16 : Int32) vd (.int 0)) {cs : List Int32} (hcs : vd.take 16 = bytesOfCs cs) (X_b : Exa Z h vb "[B") (hok : ∀ c ∈ cs, ¬ c < 0 ∧ ¬ (255 : Int32) < c) (hlen : cs.length = 16) (E_s : Exa Z h s "java/lang/StringBuilder") (F_value : Fld Z h s "java/lang/AbstractStringBuilder" "value" "[B" (.ref vb)) (F_coder : Fld Z h s "java/lang/AbstractStringBuilder" "coder" "B" (.int (0 : Int32))) (F_count : Fld Z h s "java/lang/AbstractStringBuilder" "count" "I" (.int (16 : Int32))) {w1 w2 : Value} (E_a : Exa Z h a "java/lang/String") (F_v : Fld Z h a "java/lang/String" "value" "[B" w1) (F_c : Fld Z h a "java/lang/String" "coder" "B" w2) :
    Ctr l Z (⟨"java/lang/String", "<init>", "(Ljava/lang/StringBuilder;)V"⟩ : MethodName) jdk_42_method_53_code 2 none [] (rmo 3 1 16 45) #[.ref a, .ref s] h n0 Ds (fun v h' Ds' => v = none ∧ Keep h h' [a] ∧ IsStr Z h' a cs ∧ Ds = Ds') := by
  refine ctr_of (Ls := #[.val (.ref a), .val (.ref s)]) (plainFor_of_name pn0) (fun m => by first | (simp [entryFrame, mkF, argsToLocals, Value.category]; done) | rfl) ?_
  intro C hl hret hnm R
  subst hl
  have nas : a ≠ s := Exa.ne E_a E_s (by decide)
  have nab : a ≠ vb := Exa.neArv E_a V_b (w14 hw)
  replace R := ((R.aloadN (pc' := 1) (v := (.ref a)) d29_0 rfl rfl rfl).aloadN (pc' := 2) (v := (.ref s)) d29_1 rfl rfl rfl).anull (pc' := 3) d29_2 rfl
  obtain ⟨_, h1, _, ⟨rfl, K1, S1, rfl⟩, R⟩ := R.callI (pc' := 6) (a := a) (argsL := [(.ref s), .null]) (rest := []) (W := 0) rfl (w179 hw) (w180 hw) (w6 hw) (w181 hw) (by decide) (rm_ia_eq C.l Z a0 hw a s h n0 Ds own_cs ha hvl V_b hcs X_b hok hlen E_s F_value F_coder F_count E_a F_v F_c) rfl (lenOf pd19 rfl) rfl rfl d29_3 (by decide) (by decide) (by decide) (by decide) rfl
  replace R := (R.mono (ce' := 1) (sl' := 16) (by decide) (by decide)).stk (S' := []) rfl
  have hK := ((Keep.refl h [a]).trans K1 (allS (Or.inl (List.mem_of_getElem? (i := 0) rfl)) all0))
  exact R.retV (Ds' := Ds) hret d29_6 (by decide) (by decide) (fun _ q => q) ⟨rfl, hK, S1, rfl⟩
theorem rm_ts_eq (l : Launch) (Z : State) (a0 : Array Value) (hw : HW a0 Z) (s : Addr) (h : Heap) (n0 : Nat) (Ds : List Addr) (own_cs : CompactOn Z) {vb : Addr} {kb : ClassId} {vd : List Value} (hvl : vd.length = 16) (V_b : Arv Z h vb kb .byte (16 : Int32) vd (.int 0)) {cs : List Int32} (hcs : vd.take 16 = bytesOfCs cs) (X_b : Exa Z h vb "[B") (hok : ∀ c ∈ cs, ¬ c < 0 ∧ ¬ (255 : Int32) < c) (hlen : cs.length = 16) (E_s : Exa Z h s "java/lang/StringBuilder") (F_value : Fld Z h s "java/lang/AbstractStringBuilder" "value" "[B" (.ref vb)) (F_coder : Fld Z h s "java/lang/AbstractStringBuilder" "coder" "B" (.int (0 : Int32))) (F_count : Fld Z h s "java/lang/AbstractStringBuilder" "count" "I" (.int (16 : Int32))) :
    Ctr l Z (⟨"java/lang/StringBuilder", "toString", "()Ljava/lang/String;"⟩ : MethodName) jdk_67_method_42_code 1 (some (.object "java/lang/String")) [] (rmo 4 2 20 59) #[.ref s] h n0 Ds (fun v h' Ds' => ∃ r : Addr, v = some (.ref r) ∧ Keep h h' [] ∧ IsStr Z h' r cs ∧ Ds = Ds') := by
  refine ctr_of (Ls := #[.val (.ref s)]) (plainFor_of_name pn6) (fun m => by first | (simp [entryFrame, mkF, argsToLocals, Value.category]; done) | rfl) ?_
  intro C hl hret hnm R
  subst hl
  obtain ⟨h1, b1, g1, E1, X1, D1, R⟩ := R.newO (pc' := 3) (w175 hw) (w14 hw) (w6 hw) d28_0 (by decide) (by decide) rfl
  have F1_value : Fld Z h1 b1 "java/lang/String" "value" "[B" .null := D1 (Or.inr (w27 hw)) (ty := (.array .byte)) (by decide)
  have F1_coder : Fld Z h1 b1 "java/lang/String" "coder" "B" (.int (0 : Int32)) := D1 (Or.inr (w29 hw)) (ty := .byte) (by decide)
  replace R := (R.dup (pc' := 4) d28_3 rfl rfl).aloadN (pc' := 5) (v := (.ref s)) d28_4 rfl rfl rfl
  have K3 := ((Keep.refl h []).trans ((Keep.refl h []).ext E1) all0)
  have F4 := V_b.keep K3 nin0
  have K5 := ((Keep.refl h []).trans ((Keep.refl h []).ext E1) all0)
  have F6 := X_b.keep K5
  have K7 := ((Keep.refl h []).trans ((Keep.refl h []).ext E1) all0)
  have F8 := E_s.keep K7
  have K9 := ((Keep.refl h []).trans ((Keep.refl h []).ext E1) all0)
  have F10 := F_value.keep K9 nin0
  have K11 := ((Keep.refl h []).trans ((Keep.refl h []).ext E1) all0)
  have F12 := F_coder.keep K11 nin0
  have K13 := ((Keep.refl h []).trans ((Keep.refl h []).ext E1) all0)
  have F14 := F_count.keep K13 nin0
  obtain ⟨_, h2, _, ⟨rfl, K2, S2, rfl⟩, R⟩ := R.callI (pc' := 8) (a := b1) (argsL := [(.ref s)]) (rest := [(.ref b1)]) (W := 1) rfl (w176 hw) (w177 hw) (w6 hw) (w178 hw) (by decide) (rm_is_eq C.l Z a0 hw b1 s h1 n0 (b1 :: Ds) own_cs (List.mem_of_getElem? (i := 0) rfl) hvl F4 hcs F6 hok hlen F8 F10 F12 F14 X1 F1_value F1_coder) rfl (lenOf pd20 rfl) rfl rfl d28_5 (by decide) (by decide) (by decide) (by decide) rfl
  replace R := (R.mono (ce' := 2) (sl' := 20) (by decide) (by decide)).stk (S' := [(.ref b1)]) rfl
  have hK := (((Keep.refl h []).trans ((Keep.refl h []).ext E1) all0).trans K2 (allS (Or.inr (by rw [g1]; exact (Nat.le_refl _))) all0))
  exact R.retA (Ds' := Ds) hret rfl rfl rfl d28_8 (by decide) (by decide) (fun _ q => (fun q => (List.mem_cons_of_mem _ q)) q) ⟨b1, rfl, hK, S2, rfl⟩
theorem rm_lm (l : Launch) (Z : State) (a0 : Array Value) (hw : HW a0 Z) (f s : Addr) (i : Int32) (h : Heap) (n0 : Nat) (Ds : List Addr) (own_cs : CompactOn Z) (own_dg : DgOk Z) {F R' : List Int32} (hF : F.length ≤ 2) (hR : R'.length ≤ 2) (S_f : IsStr Z h f F) (S_s : IsStr Z h s R') :
    Ctr l Z (⟨"provento/files/Refusal", "lineMessage", "(Ljava/lang/String;ILjava/lang/String;)Ljava/lang/String;"⟩ : MethodName) prog_43_method_4_code 3 (some (.object "java/lang/String")) [] (rmo 6 9 96 153) #[.ref f, .int i, .ref s] h n0 Ds (fun v h' Ds' => ∃ r : Addr, v = some (.ref r) ∧ Keep h h' [] ∧ IsStr Z h' r (txt F R' i) ∧ Ds = Ds') := by
  refine ctr_of (Ls := #[.val (.ref f), .val (.int i), .val (.ref s)]) (plainFor_of_name pn8) (fun m => by first | (simp [entryFrame, mkF, argsToLocals, Value.category]; done) | rfl) ?_
  intro C hl hret hnm R
  subst hl
  have hD := dec_len i
  obtain ⟨h1, b1, g1, E1, X1, D1, R⟩ := R.newO (pc' := 3) (w81 hw) (w82 hw) (w83 hw) d12_0 (by decide) (by decide) rfl
  have F1_value : Fld Z h1 b1 "java/lang/AbstractStringBuilder" "value" "[B" .null := D1 (Or.inl (w96 hw)) (ty := (.array .byte)) (by decide)
  have F1_coder : Fld Z h1 b1 "java/lang/AbstractStringBuilder" "coder" "B" (.int (0 : Int32)) := D1 (Or.inl (w98 hw)) (ty := .byte) (by decide)
  have F1_count : Fld Z h1 b1 "java/lang/AbstractStringBuilder" "count" "I" (.int (0 : Int32)) := D1 (Or.inl (w120 hw)) (ty := .int) (by decide)
  replace R := R.dup (pc' := 4) d12_3 rfl rfl
  obtain ⟨_, h2, _, ⟨b2, k2, rfl, K2, g2, n2, X2, F2_value, F2_coder, F2_count, V2, Y2, rfl⟩, R⟩ := R.callI (pc' := 7) (a := b1) (argsL := []) (rest := [(.ref b1)]) (W := 1) rfl (w84 hw) (w85 hw) (w83 hw) (w86 hw) (by decide) (rm_sin C.l Z a0 hw b1 h1 n0 (b1 :: Ds) own_cs (List.mem_of_getElem? (i := 0) rfl) X1 F1_value F1_coder F1_count) rfl (lenOf pd21 rfl) rfl rfl d12_4 (by decide) (by decide) (by decide) (by decide) rfl
  replace R := (R.mono (ce' := 2) (sl' := 20) (by decide) (by decide)).stk (S' := [(.ref b1)]) rfl
  have V0q : Arv Z h2 b2 k2 .byte (Int32.ofNat 16) (bytesOfCs ([] : List Int32) ++ z16) (.int 0) := V2
  have hv0 : (bytesOfCs ([] : List Int32) ++ z16).length = 16 := rfl
  have c0q : Fld Z h2 b1 "java/lang/AbstractStringBuilder" "count" "I" (.int (Int32.ofNat ([] : List Int32).length)) := F2_count
  replace R := R.aloadN (pc' := 8) (v := (.ref f)) d12_7 rfl rfl rfl
  have K4 := (((Keep.refl h []).trans ((Keep.refl h []).ext E1) all0).trans K2 (allS (Or.inr (by rw [g1]; exact (Nat.le_refl _))) all0))
  have F5 := S_f.keep K4 nin0 all0
  obtain ⟨_, h3, _, ⟨rfl, K3, X3, F3_value, F3_coder, F3_count, V3, rfl⟩, R⟩ := R.callV (pc' := 11) (y := (⟨"java/lang/StringBuilder", "append", "(Ljava/lang/String;)Ljava/lang/StringBuilder;"⟩ : MethodName)) (z := (⟨"java/lang/StringBuilder", "append", "(Ljava/lang/String;)Ljava/lang/StringBuilder;"⟩ : MethodName)) (argsL := [(.ref f)]) (rest := []) (W := 0) (w99 hw) (w100 hw) (fun s' hZ' => notFace_of_selects (args := #[]) (mvT hZ' (w102 hw))) (w102 hw) (w101 hw) (w83 hw) (w103 hw) (by decide) X2 (rm_saf C.l Z a0 hw b1 f h2 n0 (b2 :: b1 :: Ds) own_cs (Nat.le_of_ble_eq_true rfl : 16 ≤ 100) hv0 (List.mem_of_getElem? (i := 0) rfl) V0q (List.mem_of_getElem? (i := 1) rfl) n2 X2 F2_value F2_coder c0q F5 (by simp only [List.length_append, List.length_cons, List.length_nil]; omega)) rfl (lenOf pd22 rfl) rfl rfl d12_8 (by decide) (by decide) (by decide) (by decide) rfl
  obtain ⟨T3, V3q, hv3⟩ : ∃ T, Arv Z h3 b2 k2 .byte (Int32.ofNat 16) (bytesOfCs (([] : List Int32) ++ F) ++ T) (.int 0) ∧ (bytesOfCs (([] : List Int32) ++ F) ++ T).length = 16 := ⟨_, by rw [← app_vd]; exact V3, app_hl hv0 (by simp only [List.length_append, List.length_cons, List.length_nil]; omega)⟩
  have c3q : Fld Z h3 b1 "java/lang/AbstractStringBuilder" "count" "I" (.int (Int32.ofNat (([] : List Int32) ++ F).length)) := by rw [List.length_append]; exact F3_count
  replace R := (R.mono (ce' := 2) (sl' := 20) (by decide) (by decide)).stk (S' := [(.ref b1)]) rfl
  obtain ⟨h6, a6, E6, S6, N6, R⟩ := R.ldcS (pc' := 13) (n := 4) (cs := [58]) (by decide) (w146 hw) (by decide +kernel) (by decide +kernel) (by decide) d12_11 (by decide +kernel) (by decide) (by decide) (by decide) rfl
  have K8 := ((Keep.refl h3 []).trans ((Keep.refl h3 []).ext E6) all0)
  have F9 := V3q.keep K8 nin0
  have K10 := ((Keep.refl h3 []).trans ((Keep.refl h3 []).ext E6) all0)
  have F11 := X3.keep K10
  have K12 := ((Keep.refl h3 []).trans ((Keep.refl h3 []).ext E6) all0)
  have F13 := F3_value.keep K12 nin0
  have K14 := ((Keep.refl h3 []).trans ((Keep.refl h3 []).ext E6) all0)
  have F15 := F3_coder.keep K14 nin0
  have K16 := ((Keep.refl h3 []).trans ((Keep.refl h3 []).ext E6) all0)
  have F17 := c3q.keep K16 nin0
  obtain ⟨_, h7, _, ⟨rfl, K7, X7, F7_value, F7_coder, F7_count, V7, rfl⟩, R⟩ := R.callV (pc' := 16) (y := (⟨"java/lang/StringBuilder", "append", "(Ljava/lang/String;)Ljava/lang/StringBuilder;"⟩ : MethodName)) (z := (⟨"java/lang/StringBuilder", "append", "(Ljava/lang/String;)Ljava/lang/StringBuilder;"⟩ : MethodName)) (argsL := [(.ref a6)]) (rest := []) (W := 0) (w99 hw) (w100 hw) (fun s' hZ' => notFace_of_selects (args := #[]) (mvT hZ' (w102 hw))) (w102 hw) (w101 hw) (w83 hw) (w103 hw) (by decide) F11 (rm_saf C.l Z a0 hw b1 a6 h6 n0 (b2 :: b1 :: Ds) own_cs (Nat.le_of_ble_eq_true rfl : 16 ≤ 100) hv3 (List.mem_of_getElem? (i := 0) rfl) F9 (List.mem_of_getElem? (i := 1) rfl) n2 F11 F13 F15 F17 S6 (by simp only [List.length_append, List.length_cons, List.length_nil]; omega)) rfl (lenOf pd22 rfl) rfl rfl d12_13 (by decide) (by decide) (by decide) (by decide) rfl
  obtain ⟨T7, V7q, hv7⟩ : ∃ T, Arv Z h7 b2 k2 .byte (Int32.ofNat 16) (bytesOfCs ((([] : List Int32) ++ F) ++ [58]) ++ T) (.int 0) ∧ (bytesOfCs ((([] : List Int32) ++ F) ++ [58]) ++ T).length = 16 := ⟨_, by rw [← app_vd]; exact V7, app_hl hv3 (by simp only [List.length_append, List.length_cons, List.length_nil]; omega)⟩
  have c7q : Fld Z h7 b1 "java/lang/AbstractStringBuilder" "count" "I" (.int (Int32.ofNat ((([] : List Int32) ++ F) ++ [58]).length)) := by rw [List.length_append]; exact F7_count
  replace R := ((R.mono (ce' := 4) (sl' := 28) (by decide) (by decide)).stk (S' := [(.ref b1)]) rfl).iloadN (pc' := 17) d12_16 rfl rfl
  obtain ⟨_, h18, _, ⟨rfl, K18, X18, F18_value, F18_coder, F18_count, V18, rfl⟩, R⟩ := R.callV (pc' := 20) (y := (⟨"java/lang/StringBuilder", "append", "(I)Ljava/lang/StringBuilder;"⟩ : MethodName)) (z := (⟨"java/lang/StringBuilder", "append", "(I)Ljava/lang/StringBuilder;"⟩ : MethodName)) (argsL := [(.int i)]) (rest := []) (W := 0) (w147 hw) (w148 hw) (fun s' hZ' => notFace_of_selects (args := #[]) (mvT hZ' (w150 hw))) (w150 hw) (w149 hw) (w83 hw) (w151 hw) (by decide) X7 (rm_sint C.l Z a0 hw b1 i h7 n0 (b2 :: b1 :: Ds) own_cs own_dg (Nat.le_of_ble_eq_true rfl : 16 ≤ 100) hv7 (List.mem_of_getElem? (i := 0) rfl) V7q (List.mem_of_getElem? (i := 1) rfl) n2 X7 F7_value F7_coder c7q (by simp only [List.length_append, List.length_cons, List.length_nil]; omega)) rfl (lenOf pd23 rfl) rfl rfl d12_17 (by decide) (by decide) (by decide) (by decide) rfl
  obtain ⟨T18, V18q, hv18⟩ : ∃ T, Arv Z h18 b2 k2 .byte (Int32.ofNat 16) (bytesOfCs (((([] : List Int32) ++ F) ++ [58]) ++ (dec i)) ++ T) (.int 0) ∧ (bytesOfCs (((([] : List Int32) ++ F) ++ [58]) ++ (dec i)) ++ T).length = 16 := ⟨_, by rw [← app_vd]; exact V18, app_hl hv7 (by simp only [List.length_append, List.length_cons, List.length_nil]; omega)⟩
  have c18q : Fld Z h18 b1 "java/lang/AbstractStringBuilder" "count" "I" (.int (Int32.ofNat (((([] : List Int32) ++ F) ++ [58]) ++ (dec i)).length)) := by rw [List.length_append]; exact F18_count
  replace R := (R.mono (ce' := 4) (sl' := 28) (by decide) (by decide)).stk (S' := [(.ref b1)]) rfl
  obtain ⟨h19, a19, E19, S19, N19, R⟩ := R.ldcS (pc' := 22) (n := 8) (cs := [58, 32]) (by decide) (w169 hw) (by decide +kernel) (by decide +kernel) (by decide) d12_20 (by decide +kernel) (by decide) (by decide) (by decide) rfl
  have K21 := ((Keep.refl h18 []).trans ((Keep.refl h18 []).ext E19) all0)
  have F22 := V18q.keep K21 nin0
  have K23 := ((Keep.refl h18 []).trans ((Keep.refl h18 []).ext E19) all0)
  have F24 := X18.keep K23
  have K25 := ((Keep.refl h18 []).trans ((Keep.refl h18 []).ext E19) all0)
  have F26 := F18_value.keep K25 nin0
  have K27 := ((Keep.refl h18 []).trans ((Keep.refl h18 []).ext E19) all0)
  have F28 := F18_coder.keep K27 nin0
  have K29 := ((Keep.refl h18 []).trans ((Keep.refl h18 []).ext E19) all0)
  have F30 := c18q.keep K29 nin0
  obtain ⟨_, h20, _, ⟨rfl, K20, X20, F20_value, F20_coder, F20_count, V20, rfl⟩, R⟩ := R.callV (pc' := 25) (y := (⟨"java/lang/StringBuilder", "append", "(Ljava/lang/String;)Ljava/lang/StringBuilder;"⟩ : MethodName)) (z := (⟨"java/lang/StringBuilder", "append", "(Ljava/lang/String;)Ljava/lang/StringBuilder;"⟩ : MethodName)) (argsL := [(.ref a19)]) (rest := []) (W := 0) (w99 hw) (w100 hw) (fun s' hZ' => notFace_of_selects (args := #[]) (mvT hZ' (w102 hw))) (w102 hw) (w101 hw) (w83 hw) (w103 hw) (by decide) F24 (rm_saf C.l Z a0 hw b1 a19 h19 n0 (b2 :: b1 :: Ds) own_cs (Nat.le_of_ble_eq_true rfl : 16 ≤ 100) hv18 (List.mem_of_getElem? (i := 0) rfl) F22 (List.mem_of_getElem? (i := 1) rfl) n2 F24 F26 F28 F30 S19 (by simp only [List.length_append, List.length_cons, List.length_nil]; omega)) rfl (lenOf pd22 rfl) rfl rfl d12_22 (by decide) (by decide) (by decide) (by decide) rfl
  obtain ⟨T20, V20q, hv20⟩ : ∃ T, Arv Z h20 b2 k2 .byte (Int32.ofNat 16) (bytesOfCs ((((([] : List Int32) ++ F) ++ [58]) ++ (dec i)) ++ [58, 32]) ++ T) (.int 0) ∧ (bytesOfCs ((((([] : List Int32) ++ F) ++ [58]) ++ (dec i)) ++ [58, 32]) ++ T).length = 16 := ⟨_, by rw [← app_vd]; exact V20, app_hl hv18 (by simp only [List.length_append, List.length_cons, List.length_nil]; omega)⟩
  have c20q : Fld Z h20 b1 "java/lang/AbstractStringBuilder" "count" "I" (.int (Int32.ofNat ((((([] : List Int32) ++ F) ++ [58]) ++ (dec i)) ++ [58, 32]).length)) := by rw [List.length_append]; exact F20_count
  replace R := ((R.mono (ce' := 6) (sl' := 40) (by decide) (by decide)).stk (S' := [(.ref b1)]) rfl).aloadN (pc' := 26) (v := (.ref s)) d12_25 rfl rfl rfl
  have hL4 : ((((([] : List Int32) ++ F) ++ [58]) ++ (dec i)) ++ [58, 32]).length = F.length + 1 + (dec i).length + 2 := by simp only [List.length_append, List.length_cons, List.length_nil]; omega
  have hTX : (txt F R' i).length = ((((([] : List Int32) ++ F) ++ [58]) ++ (dec i)) ++ [58, 32]).length + R'.length := List.length_append
  rcases (show ((((([] : List Int32) ++ F) ++ [58]) ++ (dec i)) ++ [58, 32]).length + R'.length < 16 ∨ ((((([] : List Int32) ++ F) ++ [58]) ++ (dec i)) ++ [58, 32]).length + R'.length = 16 ∨ ((((([] : List Int32) ++ F) ++ [58]) ++ (dec i)) ++ [58, 32]).length + R'.length = 17 ∨ ((((([] : List Int32) ++ F) ++ [58]) ++ (dec i)) ++ [58, 32]).length + R'.length = 18 by omega) with hT | hT | hT | hT
  · have K32 := (((((((((Keep.refl h []).trans ((Keep.refl h []).ext E1) all0).trans K2 (allS (Or.inr (by rw [g1]; exact (Nat.le_refl _))) all0)).trans K3 (allS (Or.inr (by rw [g2]; exact ((Keep.refl h []).ext E1).1)) (allS (Or.inr (by rw [g1]; exact (Nat.le_refl _))) all0))).trans ((Keep.refl h3 []).ext E6) all0).trans K7 (allS (Or.inr (by rw [g2]; exact ((Keep.refl h []).ext E1).1)) (allS (Or.inr (by rw [g1]; exact (Nat.le_refl _))) all0))).trans K18 (allS (Or.inr (by rw [g2]; exact ((Keep.refl h []).ext E1).1)) (allS (Or.inr (by rw [g1]; exact (Nat.le_refl _))) all0))).trans ((Keep.refl h18 []).ext E19) all0).trans K20 (allS (Or.inr (by rw [g2]; exact ((Keep.refl h []).ext E1).1)) (allS (Or.inr (by rw [g1]; exact (Nat.le_refl _))) all0)))
    have F33 := S_s.keep K32 nin0 all0
    obtain ⟨_, h31, _, ⟨rfl, K31, X31, F31_value, F31_coder, F31_count, V31, rfl⟩, R⟩ := R.callV (pc' := 29) (y := (⟨"java/lang/StringBuilder", "append", "(Ljava/lang/String;)Ljava/lang/StringBuilder;"⟩ : MethodName)) (z := (⟨"java/lang/StringBuilder", "append", "(Ljava/lang/String;)Ljava/lang/StringBuilder;"⟩ : MethodName)) (argsL := [(.ref s)]) (rest := []) (W := 0) (w99 hw) (w100 hw) (fun s' hZ' => notFace_of_selects (args := #[]) (mvT hZ' (w102 hw))) (w102 hw) (w101 hw) (w83 hw) (w103 hw) (by decide) X20 (rm_saf C.l Z a0 hw b1 s h20 n0 (b2 :: b1 :: Ds) own_cs (Nat.le_of_ble_eq_true rfl : 16 ≤ 100) hv20 (List.mem_of_getElem? (i := 0) rfl) V20q (List.mem_of_getElem? (i := 1) rfl) n2 X20 F20_value F20_coder c20q F33 (by omega)) rfl (lenOf pd22 rfl) rfl rfl d12_26 (by decide) (by decide) (by decide) (by decide) rfl
    obtain ⟨T31, V31q, hv31⟩ : ∃ T, Arv Z h31 b2 k2 .byte (Int32.ofNat 16) (bytesOfCs (((((([] : List Int32) ++ F) ++ [58]) ++ (dec i)) ++ [58, 32]) ++ R') ++ T) (.int 0) ∧ (bytesOfCs (((((([] : List Int32) ++ F) ++ [58]) ++ (dec i)) ++ [58, 32]) ++ R') ++ T).length = 16 := ⟨_, by rw [← app_vd]; exact V31, app_hl hv20 (by omega)⟩
    have c31q : Fld Z h31 b1 "java/lang/AbstractStringBuilder" "count" "I" (.int (Int32.ofNat (((((([] : List Int32) ++ F) ++ [58]) ++ (dec i)) ++ [58, 32]) ++ R').length)) := by rw [List.length_append]; exact F31_count
    replace R := (R.mono (ce' := 6) (sl' := 40) (by decide) (by decide)).stk (S' := [(.ref b1)]) rfl
    obtain ⟨_, h34, _, ⟨r34, rfl, K34, S34, rfl⟩, R⟩ := R.callV (pc' := 32) (y := (⟨"java/lang/StringBuilder", "toString", "()Ljava/lang/String;"⟩ : MethodName)) (z := (⟨"java/lang/StringBuilder", "toString", "()Ljava/lang/String;"⟩ : MethodName)) (argsL := []) (rest := []) (W := 0) (w170 hw) (w171 hw) (fun s' hZ' => notFace_of_selects (args := #[]) (mvT hZ' (w173 hw))) (w173 hw) (w172 hw) (w83 hw) (w174 hw) (by decide) X31 (rm_ts_lt C.l Z a0 hw b1 h31 n0 (b2 :: b1 :: Ds) own_cs (cs := txt F R' i) (N := (txt F R' i).length) (cap := 16) (by omega) (by omega) (Nat.le_of_ble_eq_true rfl) hv31 V31q (take_vd _ _) (txt_b S_f.2.2.1 S_s.2.2.1) rfl X31 F31_value F31_coder c31q) rfl (lenOf pd24 rfl) rfl rfl d12_29 (by decide) (by decide) (by decide) (by decide) rfl
    replace R := (R.mono (ce' := 8) (sl' := 62) (by decide) (by decide)).stk (S' := [(.ref r34)]) rfl
    have hK := (((((((((((Keep.refl h []).trans ((Keep.refl h []).ext E1) all0).trans K2 (allS (Or.inr (by rw [g1]; exact (Nat.le_refl _))) all0)).trans K3 (allS (Or.inr (by rw [g2]; exact ((Keep.refl h []).ext E1).1)) (allS (Or.inr (by rw [g1]; exact (Nat.le_refl _))) all0))).trans ((Keep.refl h3 []).ext E6) all0).trans K7 (allS (Or.inr (by rw [g2]; exact ((Keep.refl h []).ext E1).1)) (allS (Or.inr (by rw [g1]; exact (Nat.le_refl _))) all0))).trans K18 (allS (Or.inr (by rw [g2]; exact ((Keep.refl h []).ext E1).1)) (allS (Or.inr (by rw [g1]; exact (Nat.le_refl _))) all0))).trans ((Keep.refl h18 []).ext E19) all0).trans K20 (allS (Or.inr (by rw [g2]; exact ((Keep.refl h []).ext E1).1)) (allS (Or.inr (by rw [g1]; exact (Nat.le_refl _))) all0))).trans K31 (allS (Or.inr (by rw [g2]; exact ((Keep.refl h []).ext E1).1)) (allS (Or.inr (by rw [g1]; exact (Nat.le_refl _))) all0))).trans K34 all0)
    exact R.retA (Ds' := Ds) hret rfl rfl rfl d12_32 (by decide) (by decide) (fun _ q => (fun q => (List.mem_cons_of_mem _ (List.mem_cons_of_mem _ q))) q) ⟨r34, rfl, hK, S34, rfl⟩
  · have hTL : (txt F R' i).length = 16 := hTX.trans hT
    have K36 := (((((((((Keep.refl h []).trans ((Keep.refl h []).ext E1) all0).trans K2 (allS (Or.inr (by rw [g1]; exact (Nat.le_refl _))) all0)).trans K3 (allS (Or.inr (by rw [g2]; exact ((Keep.refl h []).ext E1).1)) (allS (Or.inr (by rw [g1]; exact (Nat.le_refl _))) all0))).trans ((Keep.refl h3 []).ext E6) all0).trans K7 (allS (Or.inr (by rw [g2]; exact ((Keep.refl h []).ext E1).1)) (allS (Or.inr (by rw [g1]; exact (Nat.le_refl _))) all0))).trans K18 (allS (Or.inr (by rw [g2]; exact ((Keep.refl h []).ext E1).1)) (allS (Or.inr (by rw [g1]; exact (Nat.le_refl _))) all0))).trans ((Keep.refl h18 []).ext E19) all0).trans K20 (allS (Or.inr (by rw [g2]; exact ((Keep.refl h []).ext E1).1)) (allS (Or.inr (by rw [g1]; exact (Nat.le_refl _))) all0)))
    have F37 := S_s.keep K36 nin0 all0
    obtain ⟨_, h35, _, ⟨rfl, K35, X35, F35_value, F35_coder, F35_count, V35, rfl⟩, R⟩ := R.callV (pc' := 29) (y := (⟨"java/lang/StringBuilder", "append", "(Ljava/lang/String;)Ljava/lang/StringBuilder;"⟩ : MethodName)) (z := (⟨"java/lang/StringBuilder", "append", "(Ljava/lang/String;)Ljava/lang/StringBuilder;"⟩ : MethodName)) (argsL := [(.ref s)]) (rest := []) (W := 0) (w99 hw) (w100 hw) (fun s' hZ' => notFace_of_selects (args := #[]) (mvT hZ' (w102 hw))) (w102 hw) (w101 hw) (w83 hw) (w103 hw) (by decide) X20 (rm_saf C.l Z a0 hw b1 s h20 n0 (b2 :: b1 :: Ds) own_cs (Nat.le_of_ble_eq_true rfl : 16 ≤ 100) hv20 (List.mem_of_getElem? (i := 0) rfl) V20q (List.mem_of_getElem? (i := 1) rfl) n2 X20 F20_value F20_coder c20q F37 (by omega)) rfl (lenOf pd22 rfl) rfl rfl d12_26 (by decide) (by decide) (by decide) (by decide) rfl
    obtain ⟨T35, V35q, hv35⟩ : ∃ T, Arv Z h35 b2 k2 .byte (Int32.ofNat 16) (bytesOfCs (((((([] : List Int32) ++ F) ++ [58]) ++ (dec i)) ++ [58, 32]) ++ R') ++ T) (.int 0) ∧ (bytesOfCs (((((([] : List Int32) ++ F) ++ [58]) ++ (dec i)) ++ [58, 32]) ++ R') ++ T).length = 16 := ⟨_, by rw [← app_vd]; exact V35, app_hl hv20 (by omega)⟩
    have c35q : Fld Z h35 b1 "java/lang/AbstractStringBuilder" "count" "I" (.int (Int32.ofNat (((((([] : List Int32) ++ F) ++ [58]) ++ (dec i)) ++ [58, 32]) ++ R').length)) := by rw [List.length_append]; exact F35_count
    replace R := (R.mono (ce' := 6) (sl' := 40) (by decide) (by decide)).stk (S' := [(.ref b1)]) rfl
    have c16 : Fld Z h35 b1 "java/lang/AbstractStringBuilder" "count" "I" (.int (16 : Int32)) := by rw [← show Int32.ofNat (txt F R' i).length = (16 : Int32) by rw [hTL]; rfl]; exact c35q
    have K39 := ((((((((Keep.refl h2 [b2, b1]).trans K3 (allS (Or.inl (List.mem_of_getElem? (i := 0) rfl)) (allS (Or.inl (List.mem_of_getElem? (i := 1) rfl)) all0))).trans ((Keep.refl h3 []).ext E6) all0).trans K7 (allS (Or.inl (List.mem_of_getElem? (i := 0) rfl)) (allS (Or.inl (List.mem_of_getElem? (i := 1) rfl)) all0))).trans K18 (allS (Or.inl (List.mem_of_getElem? (i := 0) rfl)) (allS (Or.inl (List.mem_of_getElem? (i := 1) rfl)) all0))).trans ((Keep.refl h18 []).ext E19) all0).trans K20 (allS (Or.inl (List.mem_of_getElem? (i := 0) rfl)) (allS (Or.inl (List.mem_of_getElem? (i := 1) rfl)) all0))).trans K35 (allS (Or.inl (List.mem_of_getElem? (i := 0) rfl)) (allS (Or.inl (List.mem_of_getElem? (i := 1) rfl)) all0)))
    have F40 := Y2.keep K39
    obtain ⟨_, h38, _, ⟨r38, rfl, K38, S38, rfl⟩, R⟩ := R.callV (pc' := 32) (y := (⟨"java/lang/StringBuilder", "toString", "()Ljava/lang/String;"⟩ : MethodName)) (z := (⟨"java/lang/StringBuilder", "toString", "()Ljava/lang/String;"⟩ : MethodName)) (argsL := []) (rest := []) (W := 0) (w170 hw) (w171 hw) (fun s' hZ' => notFace_of_selects (args := #[]) (mvT hZ' (w173 hw))) (w173 hw) (w172 hw) (w83 hw) (w174 hw) (by decide) X35 (rm_ts_eq C.l Z a0 hw b1 h35 n0 (b2 :: b1 :: Ds) own_cs (cs := txt F R' i) hv35 V35q (by rw [← show (txt F R' i).length = 16 from hTL]; exact take_vd _ _) F40 (txt_b S_f.2.2.1 S_s.2.2.1) hTL X35 F35_value F35_coder c16) rfl (lenOf pd24 rfl) rfl rfl d12_29 (by decide) (by decide) (by decide) (by decide) rfl
    replace R := (R.mono (ce' := 8) (sl' := 60) (by decide) (by decide)).stk (S' := [(.ref r38)]) rfl
    have hK := (((((((((((Keep.refl h []).trans ((Keep.refl h []).ext E1) all0).trans K2 (allS (Or.inr (by rw [g1]; exact (Nat.le_refl _))) all0)).trans K3 (allS (Or.inr (by rw [g2]; exact ((Keep.refl h []).ext E1).1)) (allS (Or.inr (by rw [g1]; exact (Nat.le_refl _))) all0))).trans ((Keep.refl h3 []).ext E6) all0).trans K7 (allS (Or.inr (by rw [g2]; exact ((Keep.refl h []).ext E1).1)) (allS (Or.inr (by rw [g1]; exact (Nat.le_refl _))) all0))).trans K18 (allS (Or.inr (by rw [g2]; exact ((Keep.refl h []).ext E1).1)) (allS (Or.inr (by rw [g1]; exact (Nat.le_refl _))) all0))).trans ((Keep.refl h18 []).ext E19) all0).trans K20 (allS (Or.inr (by rw [g2]; exact ((Keep.refl h []).ext E1).1)) (allS (Or.inr (by rw [g1]; exact (Nat.le_refl _))) all0))).trans K35 (allS (Or.inr (by rw [g2]; exact ((Keep.refl h []).ext E1).1)) (allS (Or.inr (by rw [g1]; exact (Nat.le_refl _))) all0))).trans K38 all0)
    exact R.retA (Ds' := Ds) hret rfl rfl rfl d12_32 (by decide) (by decide) (fun _ q => (fun q => (List.mem_cons_of_mem _ (List.mem_cons_of_mem _ q))) q) ⟨r38, rfl, hK, S38, rfl⟩
  · have K42 := (((((((((Keep.refl h []).trans ((Keep.refl h []).ext E1) all0).trans K2 (allS (Or.inr (by rw [g1]; exact (Nat.le_refl _))) all0)).trans K3 (allS (Or.inr (by rw [g2]; exact ((Keep.refl h []).ext E1).1)) (allS (Or.inr (by rw [g1]; exact (Nat.le_refl _))) all0))).trans ((Keep.refl h3 []).ext E6) all0).trans K7 (allS (Or.inr (by rw [g2]; exact ((Keep.refl h []).ext E1).1)) (allS (Or.inr (by rw [g1]; exact (Nat.le_refl _))) all0))).trans K18 (allS (Or.inr (by rw [g2]; exact ((Keep.refl h []).ext E1).1)) (allS (Or.inr (by rw [g1]; exact (Nat.le_refl _))) all0))).trans ((Keep.refl h18 []).ext E19) all0).trans K20 (allS (Or.inr (by rw [g2]; exact ((Keep.refl h []).ext E1).1)) (allS (Or.inr (by rw [g1]; exact (Nat.le_refl _))) all0)))
    have F43 := S_s.keep K42 nin0 all0
    obtain ⟨_, h41, _, ⟨r41, k41, rfl, K41, X41, F41_value, F41_coder, F41_count, V41, rfl⟩, R⟩ := R.callV (pc' := 29) (y := (⟨"java/lang/StringBuilder", "append", "(Ljava/lang/String;)Ljava/lang/StringBuilder;"⟩ : MethodName)) (z := (⟨"java/lang/StringBuilder", "append", "(Ljava/lang/String;)Ljava/lang/StringBuilder;"⟩ : MethodName)) (argsL := [(.ref s)]) (rest := []) (W := 0) (w99 hw) (w100 hw) (fun s' hZ' => notFace_of_selects (args := #[]) (mvT hZ' (w102 hw))) (w102 hw) (w101 hw) (w83 hw) (w103 hw) (by decide) X20 (rm_sa17 C.l Z a0 hw b1 s h20 n0 (b2 :: b1 :: Ds) own_cs hv20 V20q (List.mem_of_getElem? (i := 1) rfl) n2 X20 F20_value F20_coder c20q F43 hT) rfl (lenOf pd22 rfl) rfl rfl d12_26 (by decide) (by decide) (by decide) (by decide) rfl
    have V41q : Arv Z h41 r41 k41 .byte (Int32.ofNat 34) (bytesOfCs (((((([] : List Int32) ++ F) ++ [58]) ++ (dec i)) ++ [58, 32]) ++ R') ++ (T20 ++ z18).drop R'.length) (.int 0) := by rw [← app_vg]; exact V41
    have hv41 := app_hg (ds := R') hv20 (by omega)
    have c41q : Fld Z h41 b1 "java/lang/AbstractStringBuilder" "count" "I" (.int (Int32.ofNat (((((([] : List Int32) ++ F) ++ [58]) ++ (dec i)) ++ [58, 32]) ++ R').length)) := by rw [List.length_append]; exact F41_count
    replace R := (R.mono (ce' := 7) (sl' := 74) (by decide) (by decide)).stk (S' := [(.ref b1)]) rfl
    obtain ⟨_, h44, _, ⟨r44, rfl, K44, S44, rfl⟩, R⟩ := R.callV (pc' := 32) (y := (⟨"java/lang/StringBuilder", "toString", "()Ljava/lang/String;"⟩ : MethodName)) (z := (⟨"java/lang/StringBuilder", "toString", "()Ljava/lang/String;"⟩ : MethodName)) (argsL := []) (rest := []) (W := 0) (w170 hw) (w171 hw) (fun s' hZ' => notFace_of_selects (args := #[]) (mvT hZ' (w173 hw))) (w173 hw) (w172 hw) (w83 hw) (w174 hw) (by decide) X41 (rm_ts_lt C.l Z a0 hw b1 h41 n0 (b2 :: b1 :: Ds) own_cs (cs := txt F R' i) (N := (txt F R' i).length) (cap := 34) (by omega) (by omega) (Nat.le_of_ble_eq_true rfl) hv41 V41q (take_vd _ _) (txt_b S_f.2.2.1 S_s.2.2.1) rfl X41 F41_value F41_coder c41q) rfl (lenOf pd24 rfl) rfl rfl d12_29 (by decide) (by decide) (by decide) (by decide) rfl
    replace R := (R.mono (ce' := 9) (sl' := 96) (by decide) (by decide)).stk (S' := [(.ref r44)]) rfl
    have hK := (((((((((((Keep.refl h []).trans ((Keep.refl h []).ext E1) all0).trans K2 (allS (Or.inr (by rw [g1]; exact (Nat.le_refl _))) all0)).trans K3 (allS (Or.inr (by rw [g2]; exact ((Keep.refl h []).ext E1).1)) (allS (Or.inr (by rw [g1]; exact (Nat.le_refl _))) all0))).trans ((Keep.refl h3 []).ext E6) all0).trans K7 (allS (Or.inr (by rw [g2]; exact ((Keep.refl h []).ext E1).1)) (allS (Or.inr (by rw [g1]; exact (Nat.le_refl _))) all0))).trans K18 (allS (Or.inr (by rw [g2]; exact ((Keep.refl h []).ext E1).1)) (allS (Or.inr (by rw [g1]; exact (Nat.le_refl _))) all0))).trans ((Keep.refl h18 []).ext E19) all0).trans K20 (allS (Or.inr (by rw [g2]; exact ((Keep.refl h []).ext E1).1)) (allS (Or.inr (by rw [g1]; exact (Nat.le_refl _))) all0))).trans K41 (allS (Or.inr (by rw [g1]; exact (Nat.le_refl _))) all0)).trans K44 all0)
    exact R.retA (Ds' := Ds) hret rfl rfl rfl d12_32 (by decide) (by decide) (fun _ q => (fun q => (List.mem_cons_of_mem _ (List.mem_cons_of_mem _ q))) q) ⟨r44, rfl, hK, S44, rfl⟩
  · have K46 := (((((((((Keep.refl h []).trans ((Keep.refl h []).ext E1) all0).trans K2 (allS (Or.inr (by rw [g1]; exact (Nat.le_refl _))) all0)).trans K3 (allS (Or.inr (by rw [g2]; exact ((Keep.refl h []).ext E1).1)) (allS (Or.inr (by rw [g1]; exact (Nat.le_refl _))) all0))).trans ((Keep.refl h3 []).ext E6) all0).trans K7 (allS (Or.inr (by rw [g2]; exact ((Keep.refl h []).ext E1).1)) (allS (Or.inr (by rw [g1]; exact (Nat.le_refl _))) all0))).trans K18 (allS (Or.inr (by rw [g2]; exact ((Keep.refl h []).ext E1).1)) (allS (Or.inr (by rw [g1]; exact (Nat.le_refl _))) all0))).trans ((Keep.refl h18 []).ext E19) all0).trans K20 (allS (Or.inr (by rw [g2]; exact ((Keep.refl h []).ext E1).1)) (allS (Or.inr (by rw [g1]; exact (Nat.le_refl _))) all0)))
    have F47 := S_s.keep K46 nin0 all0
    obtain ⟨_, h45, _, ⟨r45, k45, rfl, K45, X45, F45_value, F45_coder, F45_count, V45, rfl⟩, R⟩ := R.callV (pc' := 29) (y := (⟨"java/lang/StringBuilder", "append", "(Ljava/lang/String;)Ljava/lang/StringBuilder;"⟩ : MethodName)) (z := (⟨"java/lang/StringBuilder", "append", "(Ljava/lang/String;)Ljava/lang/StringBuilder;"⟩ : MethodName)) (argsL := [(.ref s)]) (rest := []) (W := 0) (w99 hw) (w100 hw) (fun s' hZ' => notFace_of_selects (args := #[]) (mvT hZ' (w102 hw))) (w102 hw) (w101 hw) (w83 hw) (w103 hw) (by decide) X20 (rm_sa18 C.l Z a0 hw b1 s h20 n0 (b2 :: b1 :: Ds) own_cs hv20 V20q (List.mem_of_getElem? (i := 1) rfl) n2 X20 F20_value F20_coder c20q F47 hT) rfl (lenOf pd22 rfl) rfl rfl d12_26 (by decide) (by decide) (by decide) (by decide) rfl
    have V45q : Arv Z h45 r45 k45 .byte (Int32.ofNat 34) (bytesOfCs (((((([] : List Int32) ++ F) ++ [58]) ++ (dec i)) ++ [58, 32]) ++ R') ++ (T20 ++ z18).drop R'.length) (.int 0) := by rw [← app_vg]; exact V45
    have hv45 := app_hg (ds := R') hv20 (by omega)
    have c45q : Fld Z h45 b1 "java/lang/AbstractStringBuilder" "count" "I" (.int (Int32.ofNat (((((([] : List Int32) ++ F) ++ [58]) ++ (dec i)) ++ [58, 32]) ++ R').length)) := by rw [List.length_append]; exact F45_count
    replace R := (R.mono (ce' := 7) (sl' := 74) (by decide) (by decide)).stk (S' := [(.ref b1)]) rfl
    obtain ⟨_, h48, _, ⟨r48, rfl, K48, S48, rfl⟩, R⟩ := R.callV (pc' := 32) (y := (⟨"java/lang/StringBuilder", "toString", "()Ljava/lang/String;"⟩ : MethodName)) (z := (⟨"java/lang/StringBuilder", "toString", "()Ljava/lang/String;"⟩ : MethodName)) (argsL := []) (rest := []) (W := 0) (w170 hw) (w171 hw) (fun s' hZ' => notFace_of_selects (args := #[]) (mvT hZ' (w173 hw))) (w173 hw) (w172 hw) (w83 hw) (w174 hw) (by decide) X45 (rm_ts_lt C.l Z a0 hw b1 h45 n0 (b2 :: b1 :: Ds) own_cs (cs := txt F R' i) (N := (txt F R' i).length) (cap := 34) (by omega) (by omega) (Nat.le_of_ble_eq_true rfl) hv45 V45q (take_vd _ _) (txt_b S_f.2.2.1 S_s.2.2.1) rfl X45 F45_value F45_coder c45q) rfl (lenOf pd24 rfl) rfl rfl d12_29 (by decide) (by decide) (by decide) (by decide) rfl
    replace R := (R.mono (ce' := 9) (sl' := 96) (by decide) (by decide)).stk (S' := [(.ref r48)]) rfl
    have hK := (((((((((((Keep.refl h []).trans ((Keep.refl h []).ext E1) all0).trans K2 (allS (Or.inr (by rw [g1]; exact (Nat.le_refl _))) all0)).trans K3 (allS (Or.inr (by rw [g2]; exact ((Keep.refl h []).ext E1).1)) (allS (Or.inr (by rw [g1]; exact (Nat.le_refl _))) all0))).trans ((Keep.refl h3 []).ext E6) all0).trans K7 (allS (Or.inr (by rw [g2]; exact ((Keep.refl h []).ext E1).1)) (allS (Or.inr (by rw [g1]; exact (Nat.le_refl _))) all0))).trans K18 (allS (Or.inr (by rw [g2]; exact ((Keep.refl h []).ext E1).1)) (allS (Or.inr (by rw [g1]; exact (Nat.le_refl _))) all0))).trans ((Keep.refl h18 []).ext E19) all0).trans K20 (allS (Or.inr (by rw [g2]; exact ((Keep.refl h []).ext E1).1)) (allS (Or.inr (by rw [g1]; exact (Nat.le_refl _))) all0))).trans K45 (allS (Or.inr (by rw [g1]; exact (Nat.le_refl _))) all0)).trans K48 all0)
    exact R.retA (Ds' := Ds) hret rfl rfl rfl d12_32 (by decide) (by decide) (fun _ q => (fun q => (List.mem_cons_of_mem _ (List.mem_cons_of_mem _ q))) q) ⟨r48, rfl, hK, S48, rfl⟩
def s_ce (p0 : Int32) : Int32 := if (255 : Int32) < p0 then (0 : Int32) else (1 : Int32)
theorem s_ce_nar (p0 : Int32) : nar .boolean (s_ce p0) = (s_ce p0) := by
  unfold s_ce; (repeat' split) <;> rfl
theorem rm_ce (l : Launch) (Z : State) (a0 : Array Value) (hw : HW a0 Z) (p0 : Int32) (h : Heap) (n0 : Nat) (Ds : List Addr) :
    Ctr l Z (⟨"java/lang/StringLatin1", "canEncode", "(C)Z"⟩ : MethodName) jdk_43_method_3_code 1 (some .boolean) [] (rmo 0 0 0 0) #[(.int p0)] h n0 Ds (fun v h' Ds' => v = some (.int (s_ce p0)) ∧ h = h' ∧ Ds = Ds') := by
  refine ctr_of (Ls := #[.val (.int p0)]) (plainFor_of_name pn2) (fun m => by first | (simp [entryFrame, mkF, argsToLocals, Value.category]; done) | rfl) ?_
  intro C hl hret hnm R
  subst hl
  replace R := (R.iloadN (pc' := 1) d3_0 rfl rfl).sipush (pc' := 4) (z := (255 : Int32)) d3_1 rfl rfl
  by_cases hc1 : (255 : Int32) < p0
  · replace R := R.icmpY (pc' := 11) d3_4 (tlt hc1).2.2.1 (by decide) rfl
    replace R := R.iconst (pc' := 12) (z := (0 : Int32)) d3_11 rfl rfl
    have hv : (0 : Int32) = (s_ce p0) := by unfold s_ce; rw [if_pos hc1]
    exact R.retN (Ds' := Ds) hret (by simp) ((congrArg (nar .boolean) hv).trans (s_ce_nar p0)) d3_12 (by decide) (by decide) (fun _ q => q) ⟨rfl, rfl, rfl⟩
  · replace R := R.icmpN (pc' := 7) d3_4 (flt hc1).2.2.1 rfl
    replace R := (R.iconst (pc' := 8) (z := (1 : Int32)) d3_7 rfl rfl).goto (pc' := 12) d3_8 (by decide) rfl
    have hv : (1 : Int32) = (s_ce p0) := by unfold s_ce; rw [if_neg hc1]
    exact R.retN (Ds' := Ds) hret (by simp) ((congrArg (nar .boolean) hv).trans (s_ce_nar p0)) d3_12 (by decide) (by decide) (fun _ q => q) ⟨rfl, rfl, rfl⟩
theorem rm_tb (l : Launch) (Z : State) (a0 : Array Value) (hw : HW a0 Z) (p0 : Int32) (h : Heap) (n0 : Nat) (Ds : List Addr) :
    Ctr l Z (⟨"java/lang/StringLatin1", "toBytes", "(C)[B"⟩ : MethodName) jdk_43_method_46_code 1 (some (.array .byte)) [] (rmo 0 1 1 0) #[.int p0] h n0 Ds (fun v h' Ds' => ∃ (r : Addr) (kr : ClassId), v = some (.ref r) ∧ Keep h h' [] ∧ Arv Z h' r kr .byte (1 : Int32) [.int p0.toInt8.toInt32] (.int 0) ∧ Ds = Ds') := by
  refine ctr_of (Ls := #[.val (.int p0)]) (plainFor_of_name pn2) (fun m => by first | (simp [entryFrame, mkF, argsToLocals, Value.category]; done) | rfl) ?_
  intro C hl hret hnm R
  subst hl
  replace R := R.iconst (pc' := 1) (z := (1 : Int32)) d4_0 rfl rfl
  obtain ⟨h1, b1, k1, g1, E1, V1, R⟩ := R.newP (pc' := 3) (aty := .byte) (cap := 1) (w18 hw) d4_1 (by decide) (by decide) (by decide) (by decide) (by decide) rfl
  have V1p : Arv Z h1 b1 k1 .byte (1 : Int32) [(.int (0 : Int32))] (.int (0 : Int32)) := V1.pad (pad_rep [] (.int (0 : Int32)) 1)
  replace R := (((R.dup (pc' := 4) d4_3 rfl rfl).iconst (pc' := 5) (z := (0 : Int32)) d4_4 rfl rfl).iloadN (pc' := 6) d4_5 rfl rfl).i2b (pc' := 7) d4_6 rfl
  obtain ⟨h2, K2, V2, R⟩ := R.bastore (pc' := 8) V1p ⟨by decide, by decide⟩ 0 rfl (Nat.le_of_ble_eq_true rfl) (List.mem_of_getElem? (i := 0) rfl) d4_7 rfl
  have V2p : Arv Z h2 b1 k1 .byte (1 : Int32) [(.int p0.toInt8.toInt32)] (.int (0 : Int32)) := by
    have q := V2
    rw [nar_i2b p0] at q
    exact q
  have hK := (((Keep.refl h []).trans ((Keep.refl h []).ext E1) all0).trans K2 (allS (Or.inr (by rw [g1]; exact (Nat.le_refl _))) all0))
  exact R.retA (Ds' := Ds) hret rfl rfl rfl d4_8 (by decide) (by decide) (fun _ q => (fun q => (List.mem_cons_of_mem _ q)) q) ⟨b1, _, rfl, hK, V2p, rfl⟩
theorem rm_bb (l : Launch) (Z : State) (a0 : Array Value) (hw : HW a0 Z) (a b : Addr) (h : Heap) (n0 : Nat) (Ds : List Addr) (ha : a ∈ Ds) {u1 u2 : Value} (E_a : Exa Z h a "java/lang/String") (F_v : Fld Z h a "java/lang/String" "value" "[B" u1) (F_c : Fld Z h a "java/lang/String" "coder" "B" u2) :
    Ctr l Z (⟨"java/lang/String", "<init>", "([BB)V"⟩ : MethodName) jdk_42_method_151_code 3 none [] (rmo 1 0 0 12) #[.ref a, .ref b, .int (0 : Int32)] h n0 Ds (fun v h' Ds' => v = none ∧ Keep h h' [a] ∧ Exa Z h' a "java/lang/String" ∧ Fld Z h' a "java/lang/String" "value" "[B" (.ref b) ∧ Fld Z h' a "java/lang/String" "coder" "B" (.int (0 : Int32)) ∧ Ds = Ds') := by
  refine ctr_of (Ls := #[.val (.ref a), .val (.ref b), .val (.int (0 : Int32))]) (plainFor_of_name pn0) (fun m => by first | (simp [entryFrame, mkF, argsToLocals, Value.category]; done) | rfl) ?_
  intro C hl hret hnm R
  subst hl
  replace R := (((R.aloadN (pc' := 1) (v := (.ref a)) d5_0 rfl rfl rfl).initO (pc' := 4) (W := 0) (w23 hw) (w24 hw) (w25 hw) rfl d5_1 (by decide) rfl (by decide) rfl).aloadN (pc' := 5) (v := (.ref a)) d5_4 rfl rfl rfl).aloadN (pc' := 6) (v := (.ref b)) d5_5 rfl rfl rfl
  obtain ⟨h1, W1, R⟩ := R.putF (pc' := 9) (ty := (.array .byte)) (host := "") (Or.inl (w26 hw)) Via.refl F_v E_a (Or.inr ⟨(w27 hw), rfl, hnm⟩) (w14 hw) (by decide) rfl rfl ha d5_6 rfl
  have F1 := F_v.same W1
  have F2 := F_c.other W1 (Or.inr (slot_ne (Or.inr (w29 hw)) (Or.inr (w27 hw)) (by decide) (t := .byte) (t' := (.array .byte)) (by decide) (by decide)))
  replace R := (R.aloadN (pc' := 10) (v := (.ref a)) d5_9 rfl rfl rfl).iloadN (pc' := 11) d5_10 rfl rfl
  have K3 := ((Keep.refl h [a]).trans (Keep.of_wr W1) (allS (Or.inl (List.mem_of_getElem? (i := 0) rfl)) all0))
  have F4 := E_a.keep K3
  obtain ⟨h5, W5, R⟩ := R.putFN (pc' := 14) (ty := .byte) (v' := (.int (0 : Int32))) (w28 hw) Via.refl F2 F4 (Or.inr ⟨(w29 hw), rfl, hnm⟩) (w14 hw) (by decide) (rfl) (rfl) ha d5_11 rfl
  have F5 := F2.same W5
  have F6 := F1.other W5 (Or.inr (slot_ne (Or.inr (w27 hw)) (Or.inr (w29 hw)) (by decide) (t := (.array .byte)) (t' := .byte) (by decide) (by decide)))
  have hK := (((Keep.refl h [a]).trans (Keep.of_wr W1) (allS (Or.inl (List.mem_of_getElem? (i := 0) rfl)) all0)).trans (Keep.of_wr W5) (allS (Or.inl (List.mem_of_getElem? (i := 0) rfl)) all0))
  have K7 := ((Keep.refl h1 [a]).trans (Keep.of_wr W5) (allS (Or.inl (List.mem_of_getElem? (i := 0) rfl)) all0))
  have F8 := F4.keep K7
  exact R.retV (Ds' := Ds) hret d5_14 (by decide) (by decide) (fun _ q => q) ⟨rfl, hK, F8, F6, F5, rfl⟩
def s_vo (p0 : Int32) : List Int32 := ([p0] : List Int32)
theorem rm_vo (l : Launch) (Z : State) (a0 : Array Value) (hw : HW a0 Z) (p0 : Int32) (h : Heap) (n0 : Nat) (Ds : List Addr) (own_cs : CompactOn Z) (hb0 : ¬ p0 < 0 ∧ ¬ (255 : Int32) < p0) :
    Ctr l Z (⟨"java/lang/String", "valueOf", "(C)Ljava/lang/String;"⟩ : MethodName) jdk_42_method_139_code 1 (some (.object "java/lang/String")) [] (rmo 2 2 5 27) #[(.int p0)] h n0 Ds (fun v h' Ds' => ∃ r : Addr, v = some (.ref r) ∧ IsStr Z h' r (s_vo p0) ∧ Keep h h' [] ∧ r :: Ds = Ds') := by
  have own_hws : ∀ d ∈ StrChars.Road.words, d.before a0 Z = true := fun d hd => hw d ((by decide +kernel : ∀ d ∈ StrChars.Road.words, d ∈ tables_1) d hd)
  refine ctr_of (Ls := #[.val (.int p0)]) (plainFor_of_name pn0) (fun m => by first | (simp [entryFrame, mkF, argsToLocals, Value.category]; done) | rfl) ?_
  intro C hl hret hnm R
  subst hl
  obtain ⟨zc, S_zc, hzc⟩ := id own_cs
  replace R := ((R.getS (pc' := 3) (host := "") (Or.inl (w8 hw)) Via.refl S_zc d2_0 rfl).ifN (pc' := 6) d2_3 (feq hzc).1 rfl).iloadN (pc' := 7) d2_6 rfl rfl
  replace R := own_pure (R.callS (pc' := 10) (argsL := [(.int p0)]) (rest := []) (W := 0) (w9 hw) (w10 hw) (w11 hw) (w12 hw) (by decide) (rm_ce C.l Z a0 hw p0 h n0 Ds) rfl (lenOf pd25 rfl) rfl rfl d2_7 (by decide) (by decide) (by decide) (by decide) rfl)
  replace R := R.ifN (pc' := 13) d2_10 (feq (by unfold s_ce; rw [if_neg hb0.2]; decide)).1 rfl
  obtain ⟨h1, b1, g1, E1, X1, D1, R⟩ := R.newO (pc' := 16) (w13 hw) (w14 hw) (w6 hw) d2_13 (by decide) (by decide) rfl
  have F1_value : Fld Z h1 b1 "java/lang/String" "value" "[B" .null := D1 (Or.inr (w27 hw)) (ty := (.array .byte)) (by decide)
  have F1_coder : Fld Z h1 b1 "java/lang/String" "coder" "B" (.int (0 : Int32)) := D1 (Or.inr (w29 hw)) (ty := .byte) (by decide)
  replace R := (R.dup (pc' := 17) d2_16 rfl rfl).iloadN (pc' := 18) d2_17 rfl rfl
  obtain ⟨_, h2, _, ⟨r2, k2, rfl, K2, V2, rfl⟩, R⟩ := R.callS (pc' := 21) (argsL := [(.int p0)]) (rest := [(.ref b1), (.ref b1)]) (W := 2) (w15 hw) (w16 hw) (w11 hw) (w17 hw) (by decide) (rm_tb C.l Z a0 hw p0 h1 n0 (b1 :: Ds)) rfl (lenOf pd26 rfl) rfl rfl d2_18 (by decide) (by decide) (by decide) (by decide) rfl
  replace R := ((R.mono (ce' := 2) (sl' := 5) (by decide) (by decide)).stk (S' := [(.ref r2), (.ref b1), (.ref b1)]) rfl).iconst (pc' := 22) (z := (0 : Int32)) d2_21 rfl rfl
  have K4 := ((Keep.refl h1 []).trans K2 all0)
  have F5 := X1.keep K4
  have nab : b1 ≠ r2 := Exa.neArv F5 V2 (w14 hw)
  have K6 := ((Keep.refl h1 []).trans K2 all0)
  have F7 := F1_value.keep K6 nin0
  have K8 := ((Keep.refl h1 []).trans K2 all0)
  have F9 := F1_coder.keep K8 nin0
  obtain ⟨_, h3, _, ⟨rfl, K3, X3, F3_v, F3_c, rfl⟩, R⟩ := R.callI (pc' := 25) (a := b1) (argsL := [(.ref r2), (.int (0 : Int32))]) (rest := [(.ref b1)]) (W := 1) rfl (w19 hw) (w20 hw) (w6 hw) (w22 hw) (by decide) (rm_bb C.l Z a0 hw b1 r2 h2 n0 (b1 :: Ds) (List.mem_of_getElem? (i := 0) rfl) F5 F7 F9) rfl (lenOf pd27 rfl) rfl rfl d2_22 (by decide) (by decide) (by decide) (by decide) rfl
  replace R := (R.mono (ce' := 2) (sl' := 5) (by decide) (by decide)).stk (S' := [(.ref b1)]) rfl
  have K10 := ((Keep.refl h2 [b1]).trans K3 (allS (Or.inl (List.mem_of_getElem? (i := 0) rfl)) all0))
  have F11 := V2.keep K10 (ninS (Ne.symm nab) nin0)
  have S_n : IsStr Z h3 b1 [p0] := ⟨X3, F3_c, chS hb0 ch0, Nat.le_of_ble_eq_true rfl, r2, _, F3_v, F11⟩
  have hv : ([p0] : List Int32) = (s_vo p0) := by rfl
  have hK := ((((Keep.refl h []).trans ((Keep.refl h []).ext E1) all0).trans K2 all0).trans K3 (allS (Or.inr (by rw [g1]; exact (Nat.le_refl _))) all0))
  exact R.retA (Ds' := b1 :: Ds) hret rfl rfl rfl d2_25 (by decide) (by decide) (fun _ q => q) ⟨b1, rfl, by rw [← hv]; exact S_n, hK, rfl⟩
def s_str (p0 : Int32) (p1 : Int32) (p2 : Int32) : List Int32 := if p2 = (0 : Int32) then ([] : List Int32) else (if p2 = (1 : Int32) then ((s_vo (p0 &&& (255 : Int32)).toUInt32.toUInt16.toUInt32.toInt32) : List Int32) else ([(p0 &&& (255 : Int32)).toUInt32.toUInt16.toUInt32.toInt32, (p1 &&& (255 : Int32)).toUInt32.toUInt16.toUInt32.toInt32] : List Int32))
theorem rm_str (l : Launch) (Z : State) (a0 : Array Value) (hw : HW a0 Z) (p0 : Int32) (p1 : Int32) (p2 : Int32) (h : Heap) (n0 : Nat) (Ds : List Addr) (own_cs : CompactOn Z)  :
    Ctr l Z (⟨"provento/files/CsvRowRefusePinLaw", "str", "(III)Ljava/lang/String;"⟩ : MethodName) method_2_code 4 (some (.object "java/lang/String")) [] (rmo 4 6 12 66) #[(.int p0), (.int p1), (.int p2)] h n0 Ds (fun v h' Ds' => ∃ r : Addr, v = some (.ref r) ∧ IsStr Z h' r (s_str p0 p1 p2) ∧ Keep h h' [] ∧ r :: Ds = Ds') := by
  have own_hws : ∀ d ∈ StrChars.Road.words, d.before a0 Z = true := fun d hd => hw d ((by decide +kernel : ∀ d ∈ StrChars.Road.words, d ∈ tables_1) d hd)
  refine ctr_of (Ls := #[.val (.int p0), .val (.int p1), .val (.int p2), .unset]) (plainFor_of_name pn9) (fun m => by first | (simp [entryFrame, mkF, argsToLocals, Value.category]; done) | rfl) ?_
  intro C hl hret hnm R
  subst hl
  replace R := R.iloadN (pc' := 1) d1_0 rfl rfl
  by_cases hc1 : p2 = (0 : Int32)
  · replace R := R.ifN (pc' := 4) d1_1 (teq hc1).2 rfl
    obtain ⟨h2, b2, g2, E2, X2, D2, R⟩ := R.newO (pc' := 7) (w30 hw) (w14 hw) (w6 hw) d1_4 (by decide) (by decide) rfl
    have F2_value : Fld Z h2 b2 "java/lang/String" "value" "[B" .null := D2 (Or.inr (w27 hw)) (ty := (.array .byte)) (by decide)
    have F2_coder : Fld Z h2 b2 "java/lang/String" "coder" "B" (.int (0 : Int32)) := D2 (Or.inr (w29 hw)) (ty := .byte) (by decide)
    replace R := (R.dup (pc' := 8) d1_7 rfl rfl).iconst (pc' := 9) (z := (0 : Int32)) d1_8 rfl rfl
    obtain ⟨h3, b3, k3, g3, E3, V3, R⟩ := R.newP (pc' := 11) (aty := .char) (cap := 0) (w31 hw) d1_9 (by decide) (by decide) (by decide) (by decide) (by decide) rfl
    have V3p : Arv Z h3 b3 k3 .char (0 : Int32) [] (.int (0 : Int32)) := V3.pad (pad_rep [] (.int (0 : Int32)) 0)
    have K4 := ((Keep.refl h2 []).trans ((Keep.refl h2 []).ext E3) all0)
    have F5 := X2.keep K4
    have K6 := ((Keep.refl h2 []).trans ((Keep.refl h2 []).ext E3) all0)
    have F7 := F2_value.keep K6 nin0
    have K8 := ((Keep.refl h2 []).trans ((Keep.refl h2 []).ext E3) all0)
    have F9 := F2_coder.keep K8 nin0
    obtain ⟨h10, K10, S10, R⟩ := R.newStrE (pc' := 14) (W := 1) own_hws (w14 hw) (by decide) (w38 hw) (w32 hw) (w33 hw) F5 F7 F9 V3p (List.mem_of_getElem? (i := 1) rfl) rfl rfl d1_11 (by decide) (by decide) (by decide) (by decide) rfl
    have hv : ([] : List Int32) = (s_str p0 p1 p2) := by unfold s_str; rw [if_pos hc1]
    have hK := ((((Keep.refl h []).trans ((Keep.refl h []).ext E2) all0).trans ((Keep.refl h2 []).ext E3) all0).trans K10 (allS (Or.inr (by rw [g2]; exact (Nat.le_refl _))) all0))
    exact R.retA (Ds' := b2 :: Ds) hret rfl rfl rfl d1_14 (by decide) (by decide) (memS (List.mem_of_getElem? (i := 1) rfl) (fun _ q => (fun q => (List.mem_cons_of_mem _ (List.mem_cons_of_mem _ q))) q)) ⟨b2, rfl, by rw [← hv]; exact S10, hK, rfl⟩
  · replace R := R.ifY (pc' := 15) d1_1 (feq hc1).2 (by decide) rfl
    replace R := (R.iloadN (pc' := 16) d1_15 rfl rfl).iconst (pc' := 17) (z := (1 : Int32)) d1_16 rfl rfl
    by_cases hc11 : p2 = (1 : Int32)
    · replace R := R.icmpN (pc' := 20) d1_17 (teq hc11).2 rfl
      replace R := (((R.iloadN (pc' := 21) d1_20 rfl rfl).sipush (pc' := 24) (z := (255 : Int32)) d1_21 rfl rfl).iand (pc' := 25) d1_24 rfl).i2c (pc' := 26) d1_25 rfl
      obtain ⟨_, h12, _, ⟨r12, rfl, S12, K12, rfl⟩, R⟩ := R.callS (pc' := 29) (argsL := [(.int (p0 &&& (255 : Int32)).toUInt32.toUInt16.toUInt32.toInt32)]) (rest := []) (W := 0) (w4 hw) (w5 hw) (w6 hw) (w7 hw) (by decide) (rm_vo C.l Z a0 hw (p0 &&& (255 : Int32)).toUInt32.toUInt16.toUInt32.toInt32 h n0 Ds own_cs (c255 _)) rfl (lenOf pd28 rfl) rfl rfl d1_26 (by decide) (by decide) (by decide) (by decide) rfl
      replace R := (R.mono (ce' := 2) (sl' := 5) (by decide) (by decide)).stk (S' := [(.ref r12)]) rfl
      have hv : ((s_vo (p0 &&& (255 : Int32)).toUInt32.toUInt16.toUInt32.toInt32) : List Int32) = (s_str p0 p1 p2) := by unfold s_str; rw [if_neg hc1, if_pos hc11]
      have hK := ((Keep.refl h []).trans K12 all0)
      exact R.retA (Ds' := r12 :: Ds) hret rfl rfl rfl d1_29 (by decide) (by decide) (fun _ q => q) ⟨r12, rfl, by rw [← hv]; exact S12, hK, rfl⟩
    · replace R := R.icmpY (pc' := 30) d1_17 (feq hc11).2 (by decide) rfl
      replace R := R.iconst (pc' := 31) (z := (2 : Int32)) d1_30 rfl rfl
      obtain ⟨h13, b13, k13, g13, E13, V13, R⟩ := R.newP (pc' := 33) (aty := .char) (cap := 2) (w31 hw) d1_31 (by decide) (by decide) (by decide) (by decide) (by decide) rfl
      have V13p : Arv Z h13 b13 k13 .char (2 : Int32) [(.int (0 : Int32)), (.int (0 : Int32))] (.int (0 : Int32)) := V13.pad (pad_rep [] (.int (0 : Int32)) 2)
      replace R := (((((R.astoreN (pc' := 34) (l' := #[.val (.int p0), .val (.int p1), .val (.int p2), .val (.ref b13)]) d1_33 rfl rfl rfl).aloadN (pc' := 35) (v := (.ref b13)) d1_34 rfl rfl rfl).iconst (pc' := 36) (z := (0 : Int32)) d1_35 rfl rfl).iloadN (pc' := 37) d1_36 rfl rfl).sipush (pc' := 40) (z := (255 : Int32)) d1_37 rfl rfl).iand (pc' := 41) d1_40 rfl
      replace R := R.i2c (pc' := 42) d1_41 rfl
      obtain ⟨h14, K14, V14, R⟩ := R.castore (pc' := 43) V13p ⟨by decide, by decide⟩ 0 rfl (Nat.le_of_ble_eq_true rfl) (List.mem_of_getElem? (i := 0) rfl) d1_42 rfl
      have V14p : Arv Z h14 b13 k13 .char (2 : Int32) [(.int (p0 &&& (255 : Int32)).toUInt32.toUInt16.toUInt32.toInt32), (.int (0 : Int32))] (.int (0 : Int32)) := by
        have q := V14
        rw [nar_i2c _] at q
        exact q
      replace R := (((((R.aloadN (pc' := 44) (v := (.ref b13)) d1_43 rfl rfl rfl).iconst (pc' := 45) (z := (1 : Int32)) d1_44 rfl rfl).iloadN (pc' := 46) d1_45 rfl rfl).sipush (pc' := 49) (z := (255 : Int32)) d1_46 rfl rfl).iand (pc' := 50) d1_49 rfl).i2c (pc' := 51) d1_50 rfl
      obtain ⟨h15, K15, V15, R⟩ := R.castore (pc' := 52) V14p ⟨by decide, by decide⟩ 1 rfl (Nat.le_of_ble_eq_true rfl) (List.mem_of_getElem? (i := 0) rfl) d1_51 rfl
      have V15p : Arv Z h15 b13 k13 .char (2 : Int32) [(.int (p0 &&& (255 : Int32)).toUInt32.toUInt16.toUInt32.toInt32), (.int (p1 &&& (255 : Int32)).toUInt32.toUInt16.toUInt32.toInt32)] (.int (0 : Int32)) := by
        have q := V15
        rw [nar_i2c _] at q
        exact q
      obtain ⟨h16, b16, g16, E16, X16, D16, R⟩ := R.newO (pc' := 55) (w30 hw) (w14 hw) (w6 hw) d1_52 (by decide) (by decide) rfl
      have F16_value : Fld Z h16 b16 "java/lang/String" "value" "[B" .null := D16 (Or.inr (w27 hw)) (ty := (.array .byte)) (by decide)
      have F16_coder : Fld Z h16 b16 "java/lang/String" "coder" "B" (.int (0 : Int32)) := D16 (Or.inr (w29 hw)) (ty := .byte) (by decide)
      replace R := (R.dup (pc' := 56) d1_55 rfl rfl).aloadN (pc' := 57) (v := (.ref b13)) d1_56 rfl rfl rfl
      have K17 := ((Keep.refl h15 []).trans ((Keep.refl h15 []).ext E16) all0)
      have F18 := V15p.keep K17 nin0
      obtain ⟨h19, K19, S19, R⟩ := R.newStr (pc' := 60) (W := 1) (cs := [(p0 &&& (255 : Int32)).toUInt32.toUInt16.toUInt32.toInt32, (p1 &&& (255 : Int32)).toUInt32.toUInt16.toUInt32.toInt32]) own_hws (w14 hw) (w32 hw) (w33 hw) own_cs X16 F16_value F16_coder F18 rfl (Nat.le_of_ble_eq_true rfl) (Nat.le_of_ble_eq_true rfl) (chS (c255 _) (chS (c255 _) ch0)) (List.mem_of_getElem? (i := 0) rfl) rfl rfl d1_57 (by decide) (by decide) (by decide) (Nat.le_of_ble_eq_true rfl) rfl
      replace R := R.mono (ce' := 3) (sl' := 8) (Nat.le_of_ble_eq_true rfl) (Nat.le_of_ble_eq_true rfl)
      have hv : ([(p0 &&& (255 : Int32)).toUInt32.toUInt16.toUInt32.toInt32, (p1 &&& (255 : Int32)).toUInt32.toUInt16.toUInt32.toInt32] : List Int32) = (s_str p0 p1 p2) := by unfold s_str; rw [if_neg hc1, if_neg hc11]
      have hK := ((((((Keep.refl h []).trans ((Keep.refl h []).ext E13) all0).trans K14 (allS (Or.inr (by rw [g13]; exact (Nat.le_refl _))) all0)).trans K15 (allS (Or.inr (by rw [g13]; exact (Nat.le_refl _))) all0)).trans ((Keep.refl h15 []).ext E16) all0).trans K19 (allS (Or.inr (by rw [g16]; exact (Nat.le_trans (Nat.le_trans ((Keep.refl h []).ext E13).1 K14.1) K15.1))) all0))
      exact R.retA (Ds' := b16 :: Ds) hret rfl rfl rfl d1_60 (by decide) (by decide) (memS (List.mem_of_getElem? (i := 0) rfl) (fun _ q => (fun q => (List.mem_cons_of_mem _ (List.mem_cons_of_mem _ q))) q)) ⟨b16, rfl, by rw [← hv]; exact S19, hK, rfl⟩
theorem s_str_len (p0 p1 p2 : Int32) : (s_str p0 p1 p2).length ≤ 2 := by
  unfold s_str s_vo
  (repeat' split) <;> exact Nat.le_of_ble_eq_true rfl
theorem rm_cr (l : Launch) (Z : State) (a0 : Array Value) (hw : HW a0 Z) (a f s e : Addr) (i : Int32) (h : Heap) (n0 : Nat) (Ds : List Addr) (ha : a ∈ Ds) (E_a : Exa Z h a "provento/files/CsvRow") (F_refusal : Fld Z h a "provento/files/CsvRow" "refusal" "Ljava/util/function/Function;" .null) (F_file : Fld Z h a "provento/files/CsvRow" "file" "Ljava/lang/String;" .null) (F_line : Fld Z h a "provento/files/CsvRow" "line" "I" (.int (0 : Int32))) (F_positions : Fld Z h a "provento/files/CsvRow" "positions" "Ljava/util/Map;" .null) (F_text : Fld Z h a "provento/files/CsvRow" "text" "Ljava/lang/String;" .null) (F_ends : Fld Z h a "provento/files/CsvRow" "ends" "[I" .null) (F_texts : Fld Z h a "provento/files/CsvRow" "texts" "Lprovento/files/FieldTexts;" .null) :
    Ctr l Z (⟨"provento/files/CsvRow", "<init>", "(Ljava/lang/String;ILjava/util/Map;Ljava/lang/String;[ILprovento/files/FieldTexts;)V"⟩ : MethodName) prog_33_method_1_code 7 none [] (rmo 1 1 1 3074) #[.ref a, .ref f, .int i, .null, .ref s, .ref e, .null] h n0 Ds (fun v h' Ds' => v = none ∧ Keep h h' [a] ∧ Exa Z h' a "provento/files/CsvRow" ∧ Fld Z h' a "provento/files/CsvRow" "file" "Ljava/lang/String;" (.ref f) ∧ Fld Z h' a "provento/files/CsvRow" "line" "I" (.int i) ∧ Ds = Ds') := by
  refine ctr_ofN (Ls := #[.val (.ref a), .val (.ref f), .val (.int i), .val .null, .val (.ref s), .val (.ref e), .val .null]) (plainFor_of_name pn10) (fun m => by first | (simp [entryFrame, mkF, argsToLocals, Value.category]; done) | rfl) ?_
  intro C hl hret hnm hmn R
  subst hl
  replace R := (((R.aloadN (pc' := 1) (v := (.ref a)) d9_0 rfl rfl rfl).initO (pc' := 4) (W := 0) (w48 hw) (w24 hw) (w25 hw) rfl d9_1 (by decide) rfl (by decide) rfl).aloadN (pc' := 5) (v := (.ref a)) d9_4 rfl rfl rfl).aloadN (pc' := 6) (v := (.ref a)) d9_5 rfl rfl rfl
  obtain ⟨h1, b1, g1, E1, R⟩ := R.lam (pc' := 11) (fi := 15) (W := 2) (vals := [.ref a]) (rest := [(.ref a)]) hmn (w49 hw) (List.cons_ne_nil _ _) (by decide +kernel) (w52 hw) rfl rfl rfl
    (fun i t v q1 q2 => by
      match i with
      | 0 => cases Option.some.inj q1; cases Option.some.inj q2; exact ⟨rfl, rfl⟩
      | n + 1 => cases q2)
    d9_6 rfl (Nat.le_of_ble_eq_true rfl) (Nat.le_of_ble_eq_true rfl) (Nat.le_of_ble_eq_true rfl) rfl
  replace R := (R.stk (S' := [(.ref b1), (.ref a)]) rfl).mono (ce' := 1) (sl' := 1) (Nat.le_of_ble_eq_true rfl) (Nat.le_of_ble_eq_true rfl)
  have K2 := ((Keep.refl h []).trans ((Keep.refl h []).ext E1) all0)
  have F3 := E_a.keep K2
  have K4 := ((Keep.refl h []).trans ((Keep.refl h []).ext E1) all0)
  have F5 := F_refusal.keep K4 nin0
  have K6 := ((Keep.refl h []).trans ((Keep.refl h []).ext E1) all0)
  have F7 := F_file.keep K6 nin0
  have K8 := ((Keep.refl h []).trans ((Keep.refl h []).ext E1) all0)
  have F9 := F_line.keep K8 nin0
  have K10 := ((Keep.refl h []).trans ((Keep.refl h []).ext E1) all0)
  have F11 := F_positions.keep K10 nin0
  have K12 := ((Keep.refl h []).trans ((Keep.refl h []).ext E1) all0)
  have F13 := F_text.keep K12 nin0
  have K14 := ((Keep.refl h []).trans ((Keep.refl h []).ext E1) all0)
  have F15 := F_ends.keep K14 nin0
  have K16 := ((Keep.refl h []).trans ((Keep.refl h []).ext E1) all0)
  have F17 := F_texts.keep K16 nin0
  obtain ⟨h18, W18, R⟩ := R.putF (pc' := 14) (ty := (.object "java/util/function/Function")) (host := "") (Or.inl (w53 hw)) Via.refl F5 F3 (Or.inr ⟨(w54 hw), rfl, hnm⟩) (w42 hw) (by decide) rfl rfl (List.mem_cons_of_mem _ ha) d9_11 rfl
  have F18 := F5.same W18
  have F19 := F7.other W18 (Or.inr (slot_ne (Or.inr (w56 hw)) (Or.inr (w54 hw)) (by decide) (t := (.object "java/lang/String")) (t' := (.object "java/util/function/Function")) (by decide) (by decide)))
  have F20 := F9.other W18 (Or.inr (slot_ne (Or.inr (w58 hw)) (Or.inr (w54 hw)) (by decide) (t := .int) (t' := (.object "java/util/function/Function")) (by decide) (by decide)))
  have F21 := F11.other W18 (Or.inr (slot_ne (Or.inr (w60 hw)) (Or.inr (w54 hw)) (by decide) (t := (.object "java/util/Map")) (t' := (.object "java/util/function/Function")) (by decide) (by decide)))
  have F22 := F13.other W18 (Or.inr (slot_ne (Or.inr (w62 hw)) (Or.inr (w54 hw)) (by decide) (t := (.object "java/lang/String")) (t' := (.object "java/util/function/Function")) (by decide) (by decide)))
  have F23 := F15.other W18 (Or.inr (slot_ne (Or.inr (w64 hw)) (Or.inr (w54 hw)) (by decide) (t := (.array .int)) (t' := (.object "java/util/function/Function")) (by decide) (by decide)))
  have F24 := F17.other W18 (Or.inr (slot_ne (Or.inr (w66 hw)) (Or.inr (w54 hw)) (by decide) (t := (.object "provento/files/FieldTexts")) (t' := (.object "java/util/function/Function")) (by decide) (by decide)))
  replace R := (R.aloadN (pc' := 15) (v := (.ref a)) d9_14 rfl rfl rfl).aloadN (pc' := 16) (v := (.ref f)) d9_15 rfl rfl rfl
  have K25 := ((Keep.refl h1 [a]).trans (Keep.of_wr W18) (allS (Or.inl (List.mem_of_getElem? (i := 0) rfl)) all0))
  have F26 := F3.keep K25
  obtain ⟨h27, W27, R⟩ := R.putF (pc' := 19) (ty := (.object "java/lang/String")) (host := "") (Or.inl (w55 hw)) Via.refl F19 F26 (Or.inr ⟨(w56 hw), rfl, hnm⟩) (w42 hw) (by decide) rfl rfl (List.mem_cons_of_mem _ ha) d9_16 rfl
  have F27 := F19.same W27
  have F28 := F18.other W27 (Or.inr (slot_ne (Or.inr (w54 hw)) (Or.inr (w56 hw)) (by decide) (t := (.object "java/util/function/Function")) (t' := (.object "java/lang/String")) (by decide) (by decide)))
  have F29 := F20.other W27 (Or.inr (slot_ne (Or.inr (w58 hw)) (Or.inr (w56 hw)) (by decide) (t := .int) (t' := (.object "java/lang/String")) (by decide) (by decide)))
  have F30 := F21.other W27 (Or.inr (slot_ne (Or.inr (w60 hw)) (Or.inr (w56 hw)) (by decide) (t := (.object "java/util/Map")) (t' := (.object "java/lang/String")) (by decide) (by decide)))
  have F31 := F22.other W27 (Or.inr (slot_ne (Or.inr (w62 hw)) (Or.inr (w56 hw)) (by decide) (t := (.object "java/lang/String")) (t' := (.object "java/lang/String")) (by decide) (by decide)))
  have F32 := F23.other W27 (Or.inr (slot_ne (Or.inr (w64 hw)) (Or.inr (w56 hw)) (by decide) (t := (.array .int)) (t' := (.object "java/lang/String")) (by decide) (by decide)))
  have F33 := F24.other W27 (Or.inr (slot_ne (Or.inr (w66 hw)) (Or.inr (w56 hw)) (by decide) (t := (.object "provento/files/FieldTexts")) (t' := (.object "java/lang/String")) (by decide) (by decide)))
  replace R := (R.aloadN (pc' := 20) (v := (.ref a)) d9_19 rfl rfl rfl).iloadN (pc' := 21) d9_20 rfl rfl
  have K34 := ((Keep.refl h18 [a]).trans (Keep.of_wr W27) (allS (Or.inl (List.mem_of_getElem? (i := 0) rfl)) all0))
  have F35 := F26.keep K34
  obtain ⟨h36, W36, R⟩ := R.putF (pc' := 24) (ty := .int) (host := "") (Or.inl (w57 hw)) Via.refl F29 F35 (Or.inr ⟨(w58 hw), rfl, hnm⟩) (w42 hw) (by decide) rfl rfl (List.mem_cons_of_mem _ ha) d9_21 rfl
  have F36 := F29.same W36
  have F37 := F28.other W36 (Or.inr (slot_ne (Or.inr (w54 hw)) (Or.inr (w58 hw)) (by decide) (t := (.object "java/util/function/Function")) (t' := .int) (by decide) (by decide)))
  have F38 := F27.other W36 (Or.inr (slot_ne (Or.inr (w56 hw)) (Or.inr (w58 hw)) (by decide) (t := (.object "java/lang/String")) (t' := .int) (by decide) (by decide)))
  have F39 := F30.other W36 (Or.inr (slot_ne (Or.inr (w60 hw)) (Or.inr (w58 hw)) (by decide) (t := (.object "java/util/Map")) (t' := .int) (by decide) (by decide)))
  have F40 := F31.other W36 (Or.inr (slot_ne (Or.inr (w62 hw)) (Or.inr (w58 hw)) (by decide) (t := (.object "java/lang/String")) (t' := .int) (by decide) (by decide)))
  have F41 := F32.other W36 (Or.inr (slot_ne (Or.inr (w64 hw)) (Or.inr (w58 hw)) (by decide) (t := (.array .int)) (t' := .int) (by decide) (by decide)))
  have F42 := F33.other W36 (Or.inr (slot_ne (Or.inr (w66 hw)) (Or.inr (w58 hw)) (by decide) (t := (.object "provento/files/FieldTexts")) (t' := .int) (by decide) (by decide)))
  replace R := (R.aloadN (pc' := 25) (v := (.ref a)) d9_24 rfl rfl rfl).aloadN (pc' := 26) (v := .null) d9_25 rfl rfl rfl
  have K43 := ((Keep.refl h27 [a]).trans (Keep.of_wr W36) (allS (Or.inl (List.mem_of_getElem? (i := 0) rfl)) all0))
  have F44 := F35.keep K43
  obtain ⟨h45, W45, R⟩ := R.putF (pc' := 29) (ty := (.object "java/util/Map")) (host := "") (Or.inl (w59 hw)) Via.refl F39 F44 (Or.inr ⟨(w60 hw), rfl, hnm⟩) (w42 hw) (by decide) rfl rfl (List.mem_cons_of_mem _ ha) d9_26 rfl
  have F45 := F39.same W45
  have F46 := F37.other W45 (Or.inr (slot_ne (Or.inr (w54 hw)) (Or.inr (w60 hw)) (by decide) (t := (.object "java/util/function/Function")) (t' := (.object "java/util/Map")) (by decide) (by decide)))
  have F47 := F38.other W45 (Or.inr (slot_ne (Or.inr (w56 hw)) (Or.inr (w60 hw)) (by decide) (t := (.object "java/lang/String")) (t' := (.object "java/util/Map")) (by decide) (by decide)))
  have F48 := F36.other W45 (Or.inr (slot_ne (Or.inr (w58 hw)) (Or.inr (w60 hw)) (by decide) (t := .int) (t' := (.object "java/util/Map")) (by decide) (by decide)))
  have F49 := F40.other W45 (Or.inr (slot_ne (Or.inr (w62 hw)) (Or.inr (w60 hw)) (by decide) (t := (.object "java/lang/String")) (t' := (.object "java/util/Map")) (by decide) (by decide)))
  have F50 := F41.other W45 (Or.inr (slot_ne (Or.inr (w64 hw)) (Or.inr (w60 hw)) (by decide) (t := (.array .int)) (t' := (.object "java/util/Map")) (by decide) (by decide)))
  have F51 := F42.other W45 (Or.inr (slot_ne (Or.inr (w66 hw)) (Or.inr (w60 hw)) (by decide) (t := (.object "provento/files/FieldTexts")) (t' := (.object "java/util/Map")) (by decide) (by decide)))
  replace R := (R.aloadN (pc' := 30) (v := (.ref a)) d9_29 rfl rfl rfl).aload (pc' := 32) (v := (.ref s)) d9_30 rfl rfl rfl
  have K52 := ((Keep.refl h36 [a]).trans (Keep.of_wr W45) (allS (Or.inl (List.mem_of_getElem? (i := 0) rfl)) all0))
  have F53 := F44.keep K52
  obtain ⟨h54, W54, R⟩ := R.putF (pc' := 35) (ty := (.object "java/lang/String")) (host := "") (Or.inl (w61 hw)) Via.refl F49 F53 (Or.inr ⟨(w62 hw), rfl, hnm⟩) (w42 hw) (by decide) rfl rfl (List.mem_cons_of_mem _ ha) d9_32 rfl
  have F54 := F49.same W54
  have F55 := F46.other W54 (Or.inr (slot_ne (Or.inr (w54 hw)) (Or.inr (w62 hw)) (by decide) (t := (.object "java/util/function/Function")) (t' := (.object "java/lang/String")) (by decide) (by decide)))
  have F56 := F47.other W54 (Or.inr (slot_ne (Or.inr (w56 hw)) (Or.inr (w62 hw)) (by decide) (t := (.object "java/lang/String")) (t' := (.object "java/lang/String")) (by decide) (by decide)))
  have F57 := F48.other W54 (Or.inr (slot_ne (Or.inr (w58 hw)) (Or.inr (w62 hw)) (by decide) (t := .int) (t' := (.object "java/lang/String")) (by decide) (by decide)))
  have F58 := F45.other W54 (Or.inr (slot_ne (Or.inr (w60 hw)) (Or.inr (w62 hw)) (by decide) (t := (.object "java/util/Map")) (t' := (.object "java/lang/String")) (by decide) (by decide)))
  have F59 := F50.other W54 (Or.inr (slot_ne (Or.inr (w64 hw)) (Or.inr (w62 hw)) (by decide) (t := (.array .int)) (t' := (.object "java/lang/String")) (by decide) (by decide)))
  have F60 := F51.other W54 (Or.inr (slot_ne (Or.inr (w66 hw)) (Or.inr (w62 hw)) (by decide) (t := (.object "provento/files/FieldTexts")) (t' := (.object "java/lang/String")) (by decide) (by decide)))
  replace R := (R.aloadN (pc' := 36) (v := (.ref a)) d9_35 rfl rfl rfl).aload (pc' := 38) (v := (.ref e)) d9_36 rfl rfl rfl
  have K61 := ((Keep.refl h45 [a]).trans (Keep.of_wr W54) (allS (Or.inl (List.mem_of_getElem? (i := 0) rfl)) all0))
  have F62 := F53.keep K61
  obtain ⟨h63, W63, R⟩ := R.putF (pc' := 41) (ty := (.array .int)) (host := "") (Or.inl (w63 hw)) Via.refl F59 F62 (Or.inr ⟨(w64 hw), rfl, hnm⟩) (w42 hw) (by decide) rfl rfl (List.mem_cons_of_mem _ ha) d9_38 rfl
  have F63 := F59.same W63
  have F64 := F55.other W63 (Or.inr (slot_ne (Or.inr (w54 hw)) (Or.inr (w64 hw)) (by decide) (t := (.object "java/util/function/Function")) (t' := (.array .int)) (by decide) (by decide)))
  have F65 := F56.other W63 (Or.inr (slot_ne (Or.inr (w56 hw)) (Or.inr (w64 hw)) (by decide) (t := (.object "java/lang/String")) (t' := (.array .int)) (by decide) (by decide)))
  have F66 := F57.other W63 (Or.inr (slot_ne (Or.inr (w58 hw)) (Or.inr (w64 hw)) (by decide) (t := .int) (t' := (.array .int)) (by decide) (by decide)))
  have F67 := F58.other W63 (Or.inr (slot_ne (Or.inr (w60 hw)) (Or.inr (w64 hw)) (by decide) (t := (.object "java/util/Map")) (t' := (.array .int)) (by decide) (by decide)))
  have F68 := F54.other W63 (Or.inr (slot_ne (Or.inr (w62 hw)) (Or.inr (w64 hw)) (by decide) (t := (.object "java/lang/String")) (t' := (.array .int)) (by decide) (by decide)))
  have F69 := F60.other W63 (Or.inr (slot_ne (Or.inr (w66 hw)) (Or.inr (w64 hw)) (by decide) (t := (.object "provento/files/FieldTexts")) (t' := (.array .int)) (by decide) (by decide)))
  replace R := (R.aloadN (pc' := 42) (v := (.ref a)) d9_41 rfl rfl rfl).aload (pc' := 44) (v := .null) d9_42 rfl rfl rfl
  have K70 := ((Keep.refl h54 [a]).trans (Keep.of_wr W63) (allS (Or.inl (List.mem_of_getElem? (i := 0) rfl)) all0))
  have F71 := F62.keep K70
  obtain ⟨h72, W72, R⟩ := R.putF (pc' := 47) (ty := (.object "provento/files/FieldTexts")) (host := "") (Or.inl (w65 hw)) Via.refl F69 F71 (Or.inr ⟨(w66 hw), rfl, hnm⟩) (w42 hw) (by decide) rfl rfl (List.mem_cons_of_mem _ ha) d9_44 rfl
  have F72 := F69.same W72
  have F73 := F64.other W72 (Or.inr (slot_ne (Or.inr (w54 hw)) (Or.inr (w66 hw)) (by decide) (t := (.object "java/util/function/Function")) (t' := (.object "provento/files/FieldTexts")) (by decide) (by decide)))
  have F74 := F65.other W72 (Or.inr (slot_ne (Or.inr (w56 hw)) (Or.inr (w66 hw)) (by decide) (t := (.object "java/lang/String")) (t' := (.object "provento/files/FieldTexts")) (by decide) (by decide)))
  have F75 := F66.other W72 (Or.inr (slot_ne (Or.inr (w58 hw)) (Or.inr (w66 hw)) (by decide) (t := .int) (t' := (.object "provento/files/FieldTexts")) (by decide) (by decide)))
  have F76 := F67.other W72 (Or.inr (slot_ne (Or.inr (w60 hw)) (Or.inr (w66 hw)) (by decide) (t := (.object "java/util/Map")) (t' := (.object "provento/files/FieldTexts")) (by decide) (by decide)))
  have F77 := F68.other W72 (Or.inr (slot_ne (Or.inr (w62 hw)) (Or.inr (w66 hw)) (by decide) (t := (.object "java/lang/String")) (t' := (.object "provento/files/FieldTexts")) (by decide) (by decide)))
  have F78 := F63.other W72 (Or.inr (slot_ne (Or.inr (w64 hw)) (Or.inr (w66 hw)) (by decide) (t := (.array .int)) (t' := (.object "provento/files/FieldTexts")) (by decide) (by decide)))
  have hK := (((((((((Keep.refl h [a]).trans ((Keep.refl h []).ext E1) all0).trans (Keep.of_wr W18) (allS (Or.inl (List.mem_of_getElem? (i := 0) rfl)) all0)).trans (Keep.of_wr W27) (allS (Or.inl (List.mem_of_getElem? (i := 0) rfl)) all0)).trans (Keep.of_wr W36) (allS (Or.inl (List.mem_of_getElem? (i := 0) rfl)) all0)).trans (Keep.of_wr W45) (allS (Or.inl (List.mem_of_getElem? (i := 0) rfl)) all0)).trans (Keep.of_wr W54) (allS (Or.inl (List.mem_of_getElem? (i := 0) rfl)) all0)).trans (Keep.of_wr W63) (allS (Or.inl (List.mem_of_getElem? (i := 0) rfl)) all0)).trans (Keep.of_wr W72) (allS (Or.inl (List.mem_of_getElem? (i := 0) rfl)) all0))
  have K79 := ((Keep.refl h63 [a]).trans (Keep.of_wr W72) (allS (Or.inl (List.mem_of_getElem? (i := 0) rfl)) all0))
  have F80 := F71.keep K79
  exact R.retV (Ds' := Ds) hret d9_47 (by decide) (by decide) (fun _ q => (fun q => (List.mem_cons_of_mem _ q)) q) ⟨rfl, hK, F80, F74, F75, rfl⟩
theorem rm_th (l : Launch) (Z : State) (a0 : Array Value) (hw : HW a0 Z) (hst : l.stackTraces = true) {au an : Addr} (S_u : Sta Z Z.heap "java/lang/Throwable" "UNASSIGNED_STACK" "[Ljava/lang/StackTraceElement;" (.ref au)) (S_n : Sta Z Z.heap "java/lang/Throwable" "SUPPRESSED_SENTINEL" "Ljava/util/List;" (.ref an)) (a m : Addr) (h : Heap) (n0 : Nat) (Ds : List Addr) (ha : a ∈ Ds) (E_a : Exa Z h a "provento/files/Refusal") (U_a : Unt h a) (F_cause : Fld Z h a "java/lang/Throwable" "cause" "Ljava/lang/Throwable;" .null) (F_stackTrace : Fld Z h a "java/lang/Throwable" "stackTrace" "[Ljava/lang/StackTraceElement;" .null) (F_suppressedExceptions : Fld Z h a "java/lang/Throwable" "suppressedExceptions" "Ljava/util/List;" .null) (F_backtrace : Fld Z h a "java/lang/Throwable" "backtrace" "Ljava/lang/Object;" .null) (F_detailMessage : Fld Z h a "java/lang/Throwable" "detailMessage" "Ljava/lang/String;" .null) :
    CtrK l Z (⟨"java/lang/Throwable", "<init>", "(Ljava/lang/String;)V"⟩ : MethodName) jdk_78_method_2_code 2 none [] (rmo 3 1 2752 42) #[.ref a, .ref m] h n0 Ds (fun v h' Ds' => v = none ∧ Keep h h' [a] ∧ Exa Z h' a "provento/files/Refusal" ∧ Fld Z h' a "java/lang/Throwable" "detailMessage" "Ljava/lang/String;" (.ref m) ∧ Ds = Ds') := by
  refine ctr_ofK (Ls := #[.val (.ref a), .val (.ref m)]) (plainFor_of_name pn11) (fun m => by first | (simp [entryFrame, mkF, argsToLocals, Value.category]; done) | rfl) ?_
  intro C hl hret hnm hKn hO R
  subst hl
  replace R := (((R.aloadN (pc' := 1) (v := (.ref a)) d39_0 rfl rfl rfl).initO (pc' := 4) (W := 0) (w222 hw) (w24 hw) (w25 hw) rfl d39_1 (by decide) rfl (by decide) rfl).aloadN (pc' := 5) (v := (.ref a)) d39_4 rfl rfl rfl).aloadN (pc' := 6) (v := (.ref a)) d39_5 rfl rfl rfl
  obtain ⟨h1, W1, R⟩ := R.putF (pc' := 9) (ty := (.object "java/lang/Throwable")) (host := "") (Or.inl (w223 hw)) Via.refl F_cause E_a (Or.inl (w224 hw)) (w73 hw) (by decide) rfl rfl ha d39_6 rfl
  have F1 := F_cause.same W1
  have F2 := F_stackTrace.other W1 (Or.inr (slot_ne (Or.inl (w227 hw)) (Or.inl (w224 hw)) (by decide) (t := (.array (.object "java/lang/StackTraceElement"))) (t' := (.object "java/lang/Throwable")) (by decide) (by decide)))
  have F3 := F_suppressedExceptions.other W1 (Or.inr (slot_ne (Or.inl (w230 hw)) (Or.inl (w224 hw)) (by decide) (t := (.object "java/util/List")) (t' := (.object "java/lang/Throwable")) (by decide) (by decide)))
  have F4 := F_backtrace.other W1 (Or.inr (slot_ne (Or.inl (w255 hw)) (Or.inl (w224 hw)) (by decide) (t := (.object "java/lang/Object")) (t' := (.object "java/lang/Throwable")) (by decide) (by decide)))
  have F5 := F_detailMessage.other W1 (Or.inr (slot_ne (Or.inl (w254 hw)) (Or.inl (w224 hw)) (by decide) (t := (.object "java/lang/String")) (t' := (.object "java/lang/Throwable")) (by decide) (by decide)))
  replace R := (R.aloadN (pc' := 10) (v := (.ref a)) d39_9 rfl rfl rfl).getS (pc' := 13) (host := "") (Or.inl (w225 hw)) Via.refl S_u d39_10 rfl
  have K6 := ((Keep.refl h [a]).trans (Keep.of_wr W1) (allS (Or.inl (List.mem_of_getElem? (i := 0) rfl)) all0))
  have F7 := E_a.keep K6
  obtain ⟨h8, W8, R⟩ := R.putF (pc' := 16) (ty := (.array (.object "java/lang/StackTraceElement"))) (host := "") (Or.inl (w226 hw)) Via.refl F2 F7 (Or.inl (w227 hw)) (w73 hw) (by decide) rfl rfl ha d39_13 rfl
  have F8 := F2.same W8
  have F9 := F1.other W8 (Or.inr (slot_ne (Or.inl (w224 hw)) (Or.inl (w227 hw)) (by decide) (t := (.object "java/lang/Throwable")) (t' := (.array (.object "java/lang/StackTraceElement"))) (by decide) (by decide)))
  have F10 := F3.other W8 (Or.inr (slot_ne (Or.inl (w230 hw)) (Or.inl (w227 hw)) (by decide) (t := (.object "java/util/List")) (t' := (.array (.object "java/lang/StackTraceElement"))) (by decide) (by decide)))
  have F11 := F4.other W8 (Or.inr (slot_ne (Or.inl (w255 hw)) (Or.inl (w227 hw)) (by decide) (t := (.object "java/lang/Object")) (t' := (.array (.object "java/lang/StackTraceElement"))) (by decide) (by decide)))
  have F12 := F5.other W8 (Or.inr (slot_ne (Or.inl (w254 hw)) (Or.inl (w227 hw)) (by decide) (t := (.object "java/lang/String")) (t' := (.array (.object "java/lang/StackTraceElement"))) (by decide) (by decide)))
  replace R := (R.aloadN (pc' := 17) (v := (.ref a)) d39_16 rfl rfl rfl).getS (pc' := 20) (host := "") (Or.inl (w228 hw)) Via.refl S_n d39_17 rfl
  have K13 := ((Keep.refl h1 [a]).trans (Keep.of_wr W8) (allS (Or.inl (List.mem_of_getElem? (i := 0) rfl)) all0))
  have F14 := F7.keep K13
  obtain ⟨h15, W15, R⟩ := R.putF (pc' := 23) (ty := (.object "java/util/List")) (host := "") (Or.inl (w229 hw)) Via.refl F10 F14 (Or.inl (w230 hw)) (w73 hw) (by decide) rfl rfl ha d39_20 rfl
  have F15 := F10.same W15
  have F16 := F9.other W15 (Or.inr (slot_ne (Or.inl (w224 hw)) (Or.inl (w230 hw)) (by decide) (t := (.object "java/lang/Throwable")) (t' := (.object "java/util/List")) (by decide) (by decide)))
  have F17 := F8.other W15 (Or.inr (slot_ne (Or.inl (w227 hw)) (Or.inl (w230 hw)) (by decide) (t := (.array (.object "java/lang/StackTraceElement"))) (t' := (.object "java/util/List")) (by decide) (by decide)))
  have F18 := F11.other W15 (Or.inr (slot_ne (Or.inl (w255 hw)) (Or.inl (w230 hw)) (by decide) (t := (.object "java/lang/Object")) (t' := (.object "java/util/List")) (by decide) (by decide)))
  have F19 := F12.other W15 (Or.inr (slot_ne (Or.inl (w254 hw)) (Or.inl (w230 hw)) (by decide) (t := (.object "java/lang/String")) (t' := (.object "java/util/List")) (by decide) (by decide)))
  replace R := R.aloadN (pc' := 24) (v := (.ref a)) d39_23 rfl rfl rfl
  have K21 := ((Keep.refl h8 [a]).trans (Keep.of_wr W15) (allS (Or.inl (List.mem_of_getElem? (i := 0) rfl)) all0))
  have F22 := F14.keep K21
  obtain ⟨h20, K20, R⟩ := R.fill (pc' := 27) (W := 0) (rest := []) hst hKn hO hw (w73 hw) F22 (Unt.wr W15 (Unt.wr W8 (Unt.wr W1 U_a))) F18 F17 S_u ha rfl d39_24 rfl (by decide) (by decide) (by decide) (by decide) rfl
  obtain ⟨u20, G20⟩ := own_fldk F19 K20
  replace R := (((R.mono (ce' := 1) (sl' := 2752) (by decide) (by decide)).pop (pc' := 28) d39_27 rfl rfl).aloadN (pc' := 29) (v := (.ref a)) d39_28 rfl rfl rfl).aloadN (pc' := 30) (v := (.ref m)) d39_29 rfl rfl rfl
  have K23 := ((Keep.refl h15 [a]).trans K20 (allS (Or.inl (List.mem_of_getElem? (i := 0) rfl)) all0))
  have F24 := F22.keep K23
  obtain ⟨h25, W25, R⟩ := R.putF (pc' := 33) (ty := (.object "java/lang/String")) (host := "") (Or.inl (w258 hw)) Via.refl G20 F24 (Or.inl (w254 hw)) (w73 hw) (by decide) rfl rfl ha d39_30 rfl
  have F25 := G20.same W25
  have hK := ((((((Keep.refl h [a]).trans (Keep.of_wr W1) (allS (Or.inl (List.mem_of_getElem? (i := 0) rfl)) all0)).trans (Keep.of_wr W8) (allS (Or.inl (List.mem_of_getElem? (i := 0) rfl)) all0)).trans (Keep.of_wr W15) (allS (Or.inl (List.mem_of_getElem? (i := 0) rfl)) all0)).trans K20 (allS (Or.inl (List.mem_of_getElem? (i := 0) rfl)) all0)).trans (Keep.of_wr W25) (allS (Or.inl (List.mem_of_getElem? (i := 0) rfl)) all0))
  have K26 := ((Keep.refl h20 [a]).trans (Keep.of_wr W25) (allS (Or.inl (List.mem_of_getElem? (i := 0) rfl)) all0))
  have F27 := F24.keep K26
  exact R.retV (Ds' := Ds) hret d39_33 (by decide) (by decide) (fun _ q => q) ⟨rfl, hK, F27, F25, rfl⟩
theorem rm_ex (l : Launch) (Z : State) (a0 : Array Value) (hw : HW a0 Z) (hst : l.stackTraces = true) {au an : Addr} (S_u : Sta Z Z.heap "java/lang/Throwable" "UNASSIGNED_STACK" "[Ljava/lang/StackTraceElement;" (.ref au)) (S_n : Sta Z Z.heap "java/lang/Throwable" "SUPPRESSED_SENTINEL" "Ljava/util/List;" (.ref an)) (a m : Addr) (h : Heap) (n0 : Nat) (Ds : List Addr) (ha : a ∈ Ds) (E_a : Exa Z h a "provento/files/Refusal") (U_a : Unt h a) (F_cause : Fld Z h a "java/lang/Throwable" "cause" "Ljava/lang/Throwable;" .null) (F_stackTrace : Fld Z h a "java/lang/Throwable" "stackTrace" "[Ljava/lang/StackTraceElement;" .null) (F_suppressedExceptions : Fld Z h a "java/lang/Throwable" "suppressedExceptions" "Ljava/util/List;" .null) (F_backtrace : Fld Z h a "java/lang/Throwable" "backtrace" "Ljava/lang/Object;" .null) (F_detailMessage : Fld Z h a "java/lang/Throwable" "detailMessage" "Ljava/lang/String;" .null) :
    CtrK l Z (⟨"java/lang/Exception", "<init>", "(Ljava/lang/String;)V"⟩ : MethodName) jdk_59_method_2_code 2 none [] (rmo 4 1 2752 55) #[.ref a, .ref m] h n0 Ds (fun v h' Ds' => v = none ∧ Keep h h' [a] ∧ Exa Z h' a "provento/files/Refusal" ∧ Fld Z h' a "java/lang/Throwable" "detailMessage" "Ljava/lang/String;" (.ref m) ∧ Ds = Ds') := by
  refine ctr_ofK (Ls := #[.val (.ref a), .val (.ref m)]) (plainFor_of_name pn12) (fun m => by first | (simp [entryFrame, mkF, argsToLocals, Value.category]; done) | rfl) ?_
  intro C hl hret hnm hKn hO R
  subst hl
  replace R := (R.aloadN (pc' := 1) (v := (.ref a)) d38_0 rfl rfl rfl).aloadN (pc' := 2) (v := (.ref m)) d38_1 rfl rfl rfl
  obtain ⟨_, h1, _, ⟨rfl, K1, X1, F1_d, rfl⟩, R⟩ := R.callIK (pc' := 5) (a := a) (argsL := [(.ref m)]) (rest := []) (W := 0) hKn rfl (w216 hw) (w217 hw) (w220 hw) (w221 hw) (by decide) (rm_th C.l Z a0 hw hst S_u S_n a m h n0 Ds ha E_a U_a F_cause F_stackTrace F_suppressedExceptions F_backtrace F_detailMessage) rfl (lenOf pd5 rfl) rfl rfl d38_2 (by decide) (by decide) (by decide) (by decide) rfl
  replace R := (R.mono (ce' := 1) (sl' := 2752) (by decide) (by decide)).stk (S' := []) rfl
  have hK := ((Keep.refl h [a]).trans K1 (allS (Or.inl (List.mem_of_getElem? (i := 0) rfl)) all0))
  exact R.retV (Ds' := Ds) hret d38_5 (by decide) (by decide) (fun _ q => q) ⟨rfl, hK, X1, F1_d, rfl⟩
theorem rm_ri (l : Launch) (Z : State) (a0 : Array Value) (hw : HW a0 Z) (hst : l.stackTraces = true) {au an : Addr} (S_u : Sta Z Z.heap "java/lang/Throwable" "UNASSIGNED_STACK" "[Ljava/lang/StackTraceElement;" (.ref au)) (S_n : Sta Z Z.heap "java/lang/Throwable" "SUPPRESSED_SENTINEL" "Ljava/util/List;" (.ref an)) (a f s : Addr) (i : Int32) (h : Heap) (n0 : Nat) (Ds : List Addr) (own_cs : CompactOn Z) (own_dg : DgOk Z) {F R' : List Int32} (hF : F.length ≤ 2) (hR : R'.length ≤ 2) (S_f : IsStr Z h f F) (S_s : IsStr Z h s R') (ha : a ∈ Ds) (E_a : Exa Z h a "provento/files/Refusal") (U_a : Unt h a) (F_cause : Fld Z h a "java/lang/Throwable" "cause" "Ljava/lang/Throwable;" .null) (F_stackTrace : Fld Z h a "java/lang/Throwable" "stackTrace" "[Ljava/lang/StackTraceElement;" .null) (F_suppressedExceptions : Fld Z h a "java/lang/Throwable" "suppressedExceptions" "Ljava/util/List;" .null) (F_backtrace : Fld Z h a "java/lang/Throwable" "backtrace" "Ljava/lang/Object;" .null) (F_detailMessage : Fld Z h a "java/lang/Throwable" "detailMessage" "Ljava/lang/String;" .null) :
    CtrK l Z (⟨"provento/files/Refusal", "<init>", "(Ljava/lang/String;ILjava/lang/String;)V"⟩ : MethodName) prog_43_method_2_code 4 none [] (rmo 7 10 2848 168) #[.ref a, .ref f, .int i, .ref s] h n0 Ds (fun v h' Ds' => ∃ m : Addr, v = none ∧ Keep h h' [a] ∧ Exa Z h' a "provento/files/Refusal" ∧ Fld Z h' a "java/lang/Throwable" "detailMessage" "Ljava/lang/String;" (.ref m) ∧ IsStr Z h' m (txt F R' i) ∧ Ds = Ds') := by
  refine ctr_ofK (Ls := #[.val (.ref a), .val (.ref f), .val (.int i), .val (.ref s)]) (plainFor_of_name pn8) (fun m => by first | (simp [entryFrame, mkF, argsToLocals, Value.category]; done) | rfl) ?_
  intro C hl hret hnm hKn hO R
  subst hl
  replace R := (((R.aloadN (pc' := 1) (v := (.ref a)) d11_0 rfl rfl rfl).aloadN (pc' := 2) (v := (.ref f)) d11_1 rfl rfl rfl).iloadN (pc' := 3) d11_2 rfl rfl).aloadN (pc' := 4) (v := (.ref s)) d11_3 rfl rfl rfl
  obtain ⟨_, h1, _, ⟨r1, rfl, K1, S1, rfl⟩, R⟩ := R.callS (pc' := 7) (argsL := [(.ref f), (.int i), (.ref s)]) (rest := [(.ref a)]) (W := 1) (w78 hw) (w79 hw) (w74 hw) (w80 hw) (by decide) (rm_lm C.l Z a0 hw f s i h n0 Ds own_cs own_dg hF hR S_f S_s) rfl (lenOf pd29 rfl) rfl rfl d11_4 (by decide) (by decide) (by decide) (by decide) rfl
  replace R := (R.mono (ce' := 9) (sl' := 96) (by decide) (by decide)).stk (S' := [(.ref r1), (.ref a)]) rfl
  have K2 := ((Keep.refl h []).trans K1 all0)
  have F3 := E_a.keep K2
  have nma : r1 ≠ a := fun e => by have q1 := S1.1; rw [e] at q1; exact absurd rfl (Exa.ne q1 F3 (by decide))
  have N_a := U_a.keep (((Keep.refl h []).trans K1 all0)) nin0
  have K5 := ((Keep.refl h []).trans K1 all0)
  have F6 := F_cause.keep K5 nin0
  have K7 := ((Keep.refl h []).trans K1 all0)
  have F8 := F_stackTrace.keep K7 nin0
  have K9 := ((Keep.refl h []).trans K1 all0)
  have F10 := F_suppressedExceptions.keep K9 nin0
  have K11 := ((Keep.refl h []).trans K1 all0)
  have F12 := F_backtrace.keep K11 nin0
  have K13 := ((Keep.refl h []).trans K1 all0)
  have F14 := F_detailMessage.keep K13 nin0
  obtain ⟨_, h4, _, ⟨rfl, K4, X4, F4_d, rfl⟩, R⟩ := R.callIK (pc' := 10) (a := a) (argsL := [(.ref r1)]) (rest := []) (W := 0) hKn rfl (w211 hw) (w212 hw) (w214 hw) (w215 hw) (by decide) (rm_ex C.l Z a0 hw hst S_u S_n a r1 h1 n0 Ds ha F3 N_a F6 F8 F10 F12 F14) rfl (lenOf pd5 rfl) rfl rfl d11_7 (by decide) (by decide) (by decide) (by decide) rfl
  replace R := (R.mono (ce' := 10) (sl' := 2848) (by decide) (by decide)).stk (S' := []) rfl
  have S_m := S1.keep K4 (ninS nma nin0) (allS (notB_exa F3 (w73 hw)) all0)
  have hK := (((Keep.refl h [a]).trans K1 all0).trans K4 (allS (Or.inl (List.mem_of_getElem? (i := 0) rfl)) all0))
  exact R.retV (Ds' := Ds) hret d11_10 (by decide) (by decide) (fun _ q => q) ⟨r1, rfl, hK, X4, F4_d, S_m, rfl⟩
theorem rm_rf (l : Launch) (Z : State) (a0 : Array Value) (hw : HW a0 Z) (hst : l.stackTraces = true) {au an : Addr} (S_u : Sta Z Z.heap "java/lang/Throwable" "UNASSIGNED_STACK" "[Ljava/lang/StackTraceElement;" (.ref au)) (S_n : Sta Z Z.heap "java/lang/Throwable" "SUPPRESSED_SENTINEL" "Ljava/util/List;" (.ref an)) (c f s : Addr) (i : Int32) (h : Heap) (n0 : Nat) (Ds : List Addr) (own_cs : CompactOn Z) (own_dg : DgOk Z) {F R' : List Int32} (hF : F.length ≤ 2) (hR : R'.length ≤ 2) (S_f : IsStr Z h f F) (S_s : IsStr Z h s R') (E_c : Exa Z h c "provento/files/CsvRow") (F_file : Fld Z h c "provento/files/CsvRow" "file" "Ljava/lang/String;" (.ref f)) (F_line : Fld Z h c "provento/files/CsvRow" "line" "I" (.int i)) :
    CtrK l Z (⟨"provento/files/CsvRow", "refuse", "(Ljava/lang/String;)Lprovento/files/Refusal;"⟩ : MethodName) prog_33_method_9_code 2 (some (.object "provento/files/Refusal")) [] (rmo 8 11 2854 184) #[.ref c, .ref s] h n0 Ds (fun v h' Ds' => ∃ r m : Addr, v = some (.ref r) ∧ Keep h h' [] ∧ Exa Z h' r "provento/files/Refusal" ∧ Fld Z h' r "java/lang/Throwable" "detailMessage" "Ljava/lang/String;" (.ref m) ∧ IsStr Z h' m (txt F R' i) ∧ Ds = Ds') := by
  refine ctr_ofK (Ls := #[.val (.ref c), .val (.ref s)]) (plainFor_of_name pn10) (fun m => by first | (simp [entryFrame, mkF, argsToLocals, Value.category]; done) | rfl) ?_
  intro C hl hret hnm hKn hO R
  subst hl
  obtain ⟨h1, b1, g1, E1, X1, U1, D1, R⟩ := R.newOU (pc' := 3) (w72 hw) (w73 hw) (w74 hw) d10_0 (by decide) (by decide) rfl
  have F1_cause : Fld Z h1 b1 "java/lang/Throwable" "cause" "Ljava/lang/Throwable;" .null := D1 (Or.inl (w224 hw)) (ty := (.object "java/lang/Throwable")) (by decide)
  have F1_stackTrace : Fld Z h1 b1 "java/lang/Throwable" "stackTrace" "[Ljava/lang/StackTraceElement;" .null := D1 (Or.inl (w227 hw)) (ty := (.array (.object "java/lang/StackTraceElement"))) (by decide)
  have F1_suppressedExceptions : Fld Z h1 b1 "java/lang/Throwable" "suppressedExceptions" "Ljava/util/List;" .null := D1 (Or.inl (w230 hw)) (ty := (.object "java/util/List")) (by decide)
  have F1_backtrace : Fld Z h1 b1 "java/lang/Throwable" "backtrace" "Ljava/lang/Object;" .null := D1 (Or.inl (w255 hw)) (ty := (.object "java/lang/Object")) (by decide)
  have F1_detailMessage : Fld Z h1 b1 "java/lang/Throwable" "detailMessage" "Ljava/lang/String;" .null := D1 (Or.inl (w254 hw)) (ty := (.object "java/lang/String")) (by decide)
  replace R := (R.dup (pc' := 4) d10_3 rfl rfl).aloadN (pc' := 5) (v := (.ref c)) d10_4 rfl rfl rfl
  have K2 := ((Keep.refl h []).trans ((Keep.refl h []).ext E1) all0)
  have F3 := F_file.keep K2 nin0
  replace R := (R.getF (pc' := 8) (host := "") (Or.inl (w55 hw)) Via.refl F3 d10_5 rfl).aloadN (pc' := 9) (v := (.ref c)) d10_8 rfl rfl rfl
  have K4 := ((Keep.refl h []).trans ((Keep.refl h []).ext E1) all0)
  have F5 := F_line.keep K4 nin0
  replace R := (R.getF (pc' := 12) (host := "") (Or.inl (w57 hw)) Via.refl F5 d10_9 rfl).aloadN (pc' := 13) (v := (.ref s)) d10_12 rfl rfl rfl
  have K7 := ((Keep.refl h []).trans ((Keep.refl h []).ext E1) all0)
  have F8 := S_f.keep K7 nin0 all0
  have K9 := ((Keep.refl h []).trans ((Keep.refl h []).ext E1) all0)
  have F10 := S_s.keep K9 nin0 all0
  obtain ⟨_, h6, _, ⟨m6, rfl, K6, X6, F6, S6, rfl⟩, R⟩ := R.callIK (pc' := 16) (a := b1) (argsL := [(.ref f), (.int i), (.ref s)]) (rest := [(.ref b1)]) (W := 1) hKn rfl (w75 hw) (w76 hw) (w74 hw) (w77 hw) (by decide) (rm_ri C.l Z a0 hw hst S_u S_n b1 f s i h1 n0 (b1 :: Ds) own_cs own_dg hF hR F8 F10 (List.mem_of_getElem? (i := 0) rfl) X1 U1 F1_cause F1_stackTrace F1_suppressedExceptions F1_backtrace F1_detailMessage) rfl (lenOf pd30 rfl) rfl rfl d10_13 (by decide) (by decide) (by decide) (by decide) rfl
  replace R := (R.mono (ce' := 11) (sl' := 2854) (by decide) (by decide)).stk (S' := [(.ref b1)]) rfl
  have hK := (((Keep.refl h []).trans ((Keep.refl h []).ext E1) all0).trans K6 (allS (Or.inr (by rw [g1]; exact (Nat.le_refl _))) all0))
  exact R.retA (Ds' := Ds) hret rfl rfl rfl d10_16 (by decide) (by decide) (fun _ q => (fun q => (List.mem_cons_of_mem _ q)) q) ⟨b1, m6, rfl, hK, X6, F6, S6, rfl⟩
theorem rm_gm (l : Launch) (Z : State) (a0 : Array Value) (hw : HW a0 Z) (a m : Addr) (h : Heap) (n0 : Nat) (Ds : List Addr) (F_d : Fld Z h a "java/lang/Throwable" "detailMessage" "Ljava/lang/String;" (.ref m)) :
    Ctr l Z (⟨"java/lang/Throwable", "getMessage", "()Ljava/lang/String;"⟩ : MethodName) jdk_78_method_6_code 1 (some (.object "java/lang/String")) [] (rmo 0 0 0 0) #[.ref a] h n0 Ds (fun v h' Ds' => v = some (.ref m) ∧ h = h' ∧ Ds = Ds') := by
  refine ctr_of (Ls := #[.val (.ref a)]) (plainFor_of_name pn11) (fun m => by first | (simp [entryFrame, mkF, argsToLocals, Value.category]; done) | rfl) ?_
  intro C hl hret hnm R
  subst hl
  replace R := (R.aloadN (pc' := 1) (v := (.ref a)) d42_0 rfl rfl rfl).getF (pc' := 4) (host := "") (Or.inl (w258 hw)) Via.refl F_d d42_1 rfl
  exact R.retA (Ds' := Ds) hret rfl rfl rfl d42_4 (by decide) (by decide) (fun _ q => q) ⟨rfl, rfl, rfl⟩
def s_absI (p0 : Int32) : Int32 := if p0 < (0 : Int32) then (-p0) else p0
theorem rm_absI (l : Launch) (Z : State) (a0 : Array Value) (hw : HW a0 Z) (p0 : Int32) (h : Heap) (n0 : Nat) (Ds : List Addr) :
    Ctr l Z (⟨"java/lang/Math", "abs", "(I)I"⟩ : MethodName) jdk_29_method_59_code 1 (some .int) [] (rmo 0 0 0 0) #[(.int p0)] h n0 Ds (fun v h' Ds' => v = some (.int (s_absI p0)) ∧ h = h' ∧ Ds = Ds') := by
  refine ctr_of (Ls := #[.val (.int p0)]) (Jvm.Free.JP.mathPlain rfl (by decide +kernel)) (fun m => by first | (simp [entryFrame, mkF, argsToLocals, Value.category]; done) | rfl) ?_
  intro C hl hret hnm R
  subst hl
  replace R := R.iloadN (pc' := 1) d52_0 rfl rfl
  by_cases hc1 : p0 < (0 : Int32)
  · replace R := R.ifN (pc' := 4) d52_1 (tlt hc1).2.1 rfl
    replace R := ((R.iloadN (pc' := 5) d52_4 rfl rfl).ineg (pc' := 6) d52_5 rfl).goto (pc' := 10) d52_6 (by decide) rfl
    have hv : (-p0) = (s_absI p0) := by unfold s_absI; rw [if_pos hc1]
    exact R.retI (Ds' := Ds) hret d52_10 (by decide) (by decide) (fun _ q => q) ⟨congrArg (fun z => some (Value.int z)) hv, rfl, rfl⟩
  · replace R := R.ifY (pc' := 9) d52_1 (flt hc1).2.1 (by decide) rfl
    replace R := R.iloadN (pc' := 10) d52_9 rfl rfl
    have hv : p0 = (s_absI p0) := by unfold s_absI; rw [if_neg hc1]
    exact R.retI (Ds' := Ds) hret d52_10 (by decide) (by decide) (fun _ q => q) ⟨congrArg (fun z => some (Value.int z)) hv, rfl, rfl⟩
theorem rm_absJ (l : Launch) (Z : State) (a0 : Array Value) (hw : HW a0 Z) (p0 : Int64) (h : Heap) (n0 : Nat) (Ds : List Addr) :
    Ctr l Z (⟨"java/lang/Math", "abs", "(J)J"⟩ : MethodName) jdk_29_method_61_code 2 (some .long) [] (rmo 0 0 0 0) #[.long p0] h n0 Ds (fun v h' Ds' => v = some (.long (s_absJ p0)) ∧ h = h' ∧ Ds = Ds') := by
  refine ctr_of (Ls := #[.val (.long p0), .second]) (Jvm.Free.JP.mathPlain rfl (by decide +kernel)) (fun m => by first | (simp [entryFrame, mkF, argsToLocals, Value.category]; done) | rfl) ?_
  intro C hl hret hnm R
  subst hl
  replace R := ((R.lloadN (pc' := 1) d46_0 rfl rfl).lconst (pc' := 2) (z := (0 : Int64)) d46_1 rfl rfl).lcmp (pc' := 3) d46_2 rfl
  by_cases hc1 : (lcmpW p0 (0 : Int64)) < (0 : Int32)
  · replace R := R.ifN (pc' := 6) d46_3 (tlt hc1).2.1 rfl
    replace R := ((R.lloadN (pc' := 7) d46_6 rfl rfl).lneg (pc' := 8) d46_7 rfl).goto (pc' := 12) d46_8 (by decide) rfl
    have hv : (-p0) = s_absJ p0 := by unfold s_absJ; rw [if_pos hc1]
    exact R.retJ (Ds' := Ds) hret d46_12 (by decide) (by decide) (fun _ q => q) ⟨congrArg (fun z => some (Value.long z)) hv, rfl, rfl⟩
  · replace R := R.ifY (pc' := 11) d46_3 (flt hc1).2.1 (by decide) rfl
    replace R := R.lloadN (pc' := 12) d46_11 rfl rfl
    have hv : p0 = s_absJ p0 := by unfold s_absJ; rw [if_neg hc1]
    exact R.retJ (Ds' := Ds) hret d46_12 (by decide) (by decide) (fun _ q => q) ⟨congrArg (fun z => some (Value.long z)) hv, rfl, rfl⟩
def s_dl (p0 : Int32) : Int32 := if (lcmpW (s_absJ p0.toInt64) (10 : Int64)) < (0 : Int32) then (if p0 < (0 : Int32) then (2 : Int32) else (1 : Int32)) else (if (lcmpW (s_absJ p0.toInt64) (100 : Int64)) < (0 : Int32) then (if p0 < (0 : Int32) then (3 : Int32) else (2 : Int32)) else (if (lcmpW (s_absJ p0.toInt64) (1000 : Int64)) < (0 : Int32) then (if p0 < (0 : Int32) then (4 : Int32) else (3 : Int32)) else (if (lcmpW (s_absJ p0.toInt64) (10000 : Int64)) < (0 : Int32) then (if p0 < (0 : Int32) then (5 : Int32) else (4 : Int32)) else (if (lcmpW (s_absJ p0.toInt64) (100000 : Int64)) < (0 : Int32) then (if p0 < (0 : Int32) then (6 : Int32) else (5 : Int32)) else (if (lcmpW (s_absJ p0.toInt64) (1000000 : Int64)) < (0 : Int32) then (if p0 < (0 : Int32) then (7 : Int32) else (6 : Int32)) else (if (lcmpW (s_absJ p0.toInt64) (10000000 : Int64)) < (0 : Int32) then (if p0 < (0 : Int32) then (8 : Int32) else (7 : Int32)) else (if (lcmpW (s_absJ p0.toInt64) (100000000 : Int64)) < (0 : Int32) then (if p0 < (0 : Int32) then (9 : Int32) else (8 : Int32)) else (if (lcmpW (s_absJ p0.toInt64) (1000000000 : Int64)) < (0 : Int32) then (if p0 < (0 : Int32) then (10 : Int32) else (9 : Int32)) else (if p0 < (0 : Int32) then (11 : Int32) else (10 : Int32))))))))))
theorem rm_dl (l : Launch) (Z : State) (a0 : Array Value) (hw : HW a0 Z) (p0 : Int32) (h : Heap) (n0 : Nat) (Ds : List Addr) :
    Ctr l Z (⟨"provento/files/CsvRowRefusePinLaw", "decLen", "(I)I"⟩ : MethodName) method_3_code 4 (some .int) [] (rmo 1 0 0 13) #[(.int p0)] h n0 Ds (fun v h' Ds' => v = some (.int (s_dl p0)) ∧ h = h' ∧ Ds = Ds') := by
  refine ctr_of (Ls := #[.val (.int p0), .unset, .unset, .unset]) (plainFor_of_name pn9) (fun m => by first | (simp [entryFrame, mkF, argsToLocals, Value.category]; done) | rfl) ?_
  intro C hl hret hnm R
  subst hl
  replace R := (R.iloadN (pc' := 1) d45_0 rfl rfl).i2l (pc' := 2) d45_1 rfl
  replace R := own_pure (R.callS (pc' := 5) (argsL := [(.long p0.toInt64)]) (rest := []) (W := 0) (w278 hw) (w279 hw) (w208 hw) (w280 hw) (by decide) (rm_absJ C.l Z a0 hw p0.toInt64 h n0 Ds) rfl (lenOf pd31 rfl) rfl rfl d45_2 (by decide) (by decide) (by decide) (by decide) rfl)
  replace R := (((R.lstoreN (pc' := 6) (l' := #[.val (.int p0), .val (.long (s_absJ p0.toInt64)), .second, .unset]) d45_5 rfl rfl).lloadN (pc' := 7) d45_6 rfl rfl).ldc2L (pc' := 10) (w281 hw) d45_7 rfl).lcmp (pc' := 11) d45_10 rfl
  by_cases hc1 : (lcmpW (s_absJ p0.toInt64) (10 : Int64)) < (0 : Int32)
  · replace R := R.ifN (pc' := 14) d45_11 (tlt hc1).2.1 rfl
    replace R := (((R.iconst (pc' := 15) (z := (1 : Int32)) d45_14 rfl rfl).goto (pc' := 120) d45_15 (by decide) rfl).istoreN (pc' := 121) (l' := #[.val (.int p0), .val (.long (s_absJ p0.toInt64)), .second, .val (.int (1 : Int32))]) d45_120 rfl rfl).iloadN (pc' := 122) d45_121 rfl rfl
    by_cases hc2 : p0 < (0 : Int32)
    · replace R := R.ifN (pc' := 125) d45_122 (tlt hc2).2.1 rfl
      replace R := ((((R.iloadN (pc' := 126) d45_125 rfl rfl).iconst (pc' := 127) (z := (1 : Int32)) d45_126 rfl rfl).iadd (pc' := 128) d45_127 rfl).stk (S' := [(.int (2 : Int32))]) rfl).goto (pc' := 132) d45_128 (by decide) rfl
      have hv : (2 : Int32) = (s_dl p0) := by unfold s_dl; rw [if_pos hc1, if_pos hc2]
      exact R.retI (Ds' := Ds) hret d45_132 (by decide) (by decide) (fun _ q => q) ⟨congrArg (fun z => some (Value.int z)) hv, rfl, rfl⟩
    · replace R := R.ifY (pc' := 131) d45_122 (flt hc2).2.1 (by decide) rfl
      replace R := R.iloadN (pc' := 132) d45_131 rfl rfl
      have hv : (1 : Int32) = (s_dl p0) := by unfold s_dl; rw [if_pos hc1, if_neg hc2]
      exact R.retI (Ds' := Ds) hret d45_132 (by decide) (by decide) (fun _ q => q) ⟨congrArg (fun z => some (Value.int z)) hv, rfl, rfl⟩
  · replace R := R.ifY (pc' := 18) d45_11 (flt hc1).2.1 (by decide) rfl
    replace R := ((R.lloadN (pc' := 19) d45_18 rfl rfl).ldc2L (pc' := 22) (w307 hw) d45_19 rfl).lcmp (pc' := 23) d45_22 rfl
    by_cases hc3 : (lcmpW (s_absJ p0.toInt64) (100 : Int64)) < (0 : Int32)
    · replace R := R.ifN (pc' := 26) d45_23 (tlt hc3).2.1 rfl
      replace R := (((R.iconst (pc' := 27) (z := (2 : Int32)) d45_26 rfl rfl).goto (pc' := 120) d45_27 (by decide) rfl).istoreN (pc' := 121) (l' := #[.val (.int p0), .val (.long (s_absJ p0.toInt64)), .second, .val (.int (2 : Int32))]) d45_120 rfl rfl).iloadN (pc' := 122) d45_121 rfl rfl
      by_cases hc4 : p0 < (0 : Int32)
      · replace R := R.ifN (pc' := 125) d45_122 (tlt hc4).2.1 rfl
        replace R := ((((R.iloadN (pc' := 126) d45_125 rfl rfl).iconst (pc' := 127) (z := (1 : Int32)) d45_126 rfl rfl).iadd (pc' := 128) d45_127 rfl).stk (S' := [(.int (3 : Int32))]) rfl).goto (pc' := 132) d45_128 (by decide) rfl
        have hv : (3 : Int32) = (s_dl p0) := by unfold s_dl; rw [if_neg hc1, if_pos hc3, if_pos hc4]
        exact R.retI (Ds' := Ds) hret d45_132 (by decide) (by decide) (fun _ q => q) ⟨congrArg (fun z => some (Value.int z)) hv, rfl, rfl⟩
      · replace R := R.ifY (pc' := 131) d45_122 (flt hc4).2.1 (by decide) rfl
        replace R := R.iloadN (pc' := 132) d45_131 rfl rfl
        have hv : (2 : Int32) = (s_dl p0) := by unfold s_dl; rw [if_neg hc1, if_pos hc3, if_neg hc4]
        exact R.retI (Ds' := Ds) hret d45_132 (by decide) (by decide) (fun _ q => q) ⟨congrArg (fun z => some (Value.int z)) hv, rfl, rfl⟩
    · replace R := R.ifY (pc' := 30) d45_23 (flt hc3).2.1 (by decide) rfl
      replace R := ((R.lloadN (pc' := 31) d45_30 rfl rfl).ldc2L (pc' := 34) (w308 hw) d45_31 rfl).lcmp (pc' := 35) d45_34 rfl
      by_cases hc5 : (lcmpW (s_absJ p0.toInt64) (1000 : Int64)) < (0 : Int32)
      · replace R := R.ifN (pc' := 38) d45_35 (tlt hc5).2.1 rfl
        replace R := (((R.iconst (pc' := 39) (z := (3 : Int32)) d45_38 rfl rfl).goto (pc' := 120) d45_39 (by decide) rfl).istoreN (pc' := 121) (l' := #[.val (.int p0), .val (.long (s_absJ p0.toInt64)), .second, .val (.int (3 : Int32))]) d45_120 rfl rfl).iloadN (pc' := 122) d45_121 rfl rfl
        by_cases hc6 : p0 < (0 : Int32)
        · replace R := R.ifN (pc' := 125) d45_122 (tlt hc6).2.1 rfl
          replace R := ((((R.iloadN (pc' := 126) d45_125 rfl rfl).iconst (pc' := 127) (z := (1 : Int32)) d45_126 rfl rfl).iadd (pc' := 128) d45_127 rfl).stk (S' := [(.int (4 : Int32))]) rfl).goto (pc' := 132) d45_128 (by decide) rfl
          have hv : (4 : Int32) = (s_dl p0) := by unfold s_dl; rw [if_neg hc1, if_neg hc3, if_pos hc5, if_pos hc6]
          exact R.retI (Ds' := Ds) hret d45_132 (by decide) (by decide) (fun _ q => q) ⟨congrArg (fun z => some (Value.int z)) hv, rfl, rfl⟩
        · replace R := R.ifY (pc' := 131) d45_122 (flt hc6).2.1 (by decide) rfl
          replace R := R.iloadN (pc' := 132) d45_131 rfl rfl
          have hv : (3 : Int32) = (s_dl p0) := by unfold s_dl; rw [if_neg hc1, if_neg hc3, if_pos hc5, if_neg hc6]
          exact R.retI (Ds' := Ds) hret d45_132 (by decide) (by decide) (fun _ q => q) ⟨congrArg (fun z => some (Value.int z)) hv, rfl, rfl⟩
      · replace R := R.ifY (pc' := 42) d45_35 (flt hc5).2.1 (by decide) rfl
        replace R := ((R.lloadN (pc' := 43) d45_42 rfl rfl).ldc2L (pc' := 46) (w309 hw) d45_43 rfl).lcmp (pc' := 47) d45_46 rfl
        by_cases hc7 : (lcmpW (s_absJ p0.toInt64) (10000 : Int64)) < (0 : Int32)
        · replace R := R.ifN (pc' := 50) d45_47 (tlt hc7).2.1 rfl
          replace R := (((R.iconst (pc' := 51) (z := (4 : Int32)) d45_50 rfl rfl).goto (pc' := 120) d45_51 (by decide) rfl).istoreN (pc' := 121) (l' := #[.val (.int p0), .val (.long (s_absJ p0.toInt64)), .second, .val (.int (4 : Int32))]) d45_120 rfl rfl).iloadN (pc' := 122) d45_121 rfl rfl
          by_cases hc8 : p0 < (0 : Int32)
          · replace R := R.ifN (pc' := 125) d45_122 (tlt hc8).2.1 rfl
            replace R := ((((R.iloadN (pc' := 126) d45_125 rfl rfl).iconst (pc' := 127) (z := (1 : Int32)) d45_126 rfl rfl).iadd (pc' := 128) d45_127 rfl).stk (S' := [(.int (5 : Int32))]) rfl).goto (pc' := 132) d45_128 (by decide) rfl
            have hv : (5 : Int32) = (s_dl p0) := by unfold s_dl; rw [if_neg hc1, if_neg hc3, if_neg hc5, if_pos hc7, if_pos hc8]
            exact R.retI (Ds' := Ds) hret d45_132 (by decide) (by decide) (fun _ q => q) ⟨congrArg (fun z => some (Value.int z)) hv, rfl, rfl⟩
          · replace R := R.ifY (pc' := 131) d45_122 (flt hc8).2.1 (by decide) rfl
            replace R := R.iloadN (pc' := 132) d45_131 rfl rfl
            have hv : (4 : Int32) = (s_dl p0) := by unfold s_dl; rw [if_neg hc1, if_neg hc3, if_neg hc5, if_pos hc7, if_neg hc8]
            exact R.retI (Ds' := Ds) hret d45_132 (by decide) (by decide) (fun _ q => q) ⟨congrArg (fun z => some (Value.int z)) hv, rfl, rfl⟩
        · replace R := R.ifY (pc' := 54) d45_47 (flt hc7).2.1 (by decide) rfl
          replace R := ((R.lloadN (pc' := 55) d45_54 rfl rfl).ldc2L (pc' := 58) (w310 hw) d45_55 rfl).lcmp (pc' := 59) d45_58 rfl
          by_cases hc9 : (lcmpW (s_absJ p0.toInt64) (100000 : Int64)) < (0 : Int32)
          · replace R := R.ifN (pc' := 62) d45_59 (tlt hc9).2.1 rfl
            replace R := (((R.iconst (pc' := 63) (z := (5 : Int32)) d45_62 rfl rfl).goto (pc' := 120) d45_63 (by decide) rfl).istoreN (pc' := 121) (l' := #[.val (.int p0), .val (.long (s_absJ p0.toInt64)), .second, .val (.int (5 : Int32))]) d45_120 rfl rfl).iloadN (pc' := 122) d45_121 rfl rfl
            by_cases hc10 : p0 < (0 : Int32)
            · replace R := R.ifN (pc' := 125) d45_122 (tlt hc10).2.1 rfl
              replace R := ((((R.iloadN (pc' := 126) d45_125 rfl rfl).iconst (pc' := 127) (z := (1 : Int32)) d45_126 rfl rfl).iadd (pc' := 128) d45_127 rfl).stk (S' := [(.int (6 : Int32))]) rfl).goto (pc' := 132) d45_128 (by decide) rfl
              have hv : (6 : Int32) = (s_dl p0) := by unfold s_dl; rw [if_neg hc1, if_neg hc3, if_neg hc5, if_neg hc7, if_pos hc9, if_pos hc10]
              exact R.retI (Ds' := Ds) hret d45_132 (by decide) (by decide) (fun _ q => q) ⟨congrArg (fun z => some (Value.int z)) hv, rfl, rfl⟩
            · replace R := R.ifY (pc' := 131) d45_122 (flt hc10).2.1 (by decide) rfl
              replace R := R.iloadN (pc' := 132) d45_131 rfl rfl
              have hv : (5 : Int32) = (s_dl p0) := by unfold s_dl; rw [if_neg hc1, if_neg hc3, if_neg hc5, if_neg hc7, if_pos hc9, if_neg hc10]
              exact R.retI (Ds' := Ds) hret d45_132 (by decide) (by decide) (fun _ q => q) ⟨congrArg (fun z => some (Value.int z)) hv, rfl, rfl⟩
          · replace R := R.ifY (pc' := 66) d45_59 (flt hc9).2.1 (by decide) rfl
            replace R := ((R.lloadN (pc' := 67) d45_66 rfl rfl).ldc2L (pc' := 70) (w311 hw) d45_67 rfl).lcmp (pc' := 71) d45_70 rfl
            by_cases hc11 : (lcmpW (s_absJ p0.toInt64) (1000000 : Int64)) < (0 : Int32)
            · replace R := R.ifN (pc' := 74) d45_71 (tlt hc11).2.1 rfl
              replace R := (((R.bipush (pc' := 76) (z := (6 : Int32)) d45_74 rfl rfl).goto (pc' := 120) d45_76 (by decide) rfl).istoreN (pc' := 121) (l' := #[.val (.int p0), .val (.long (s_absJ p0.toInt64)), .second, .val (.int (6 : Int32))]) d45_120 rfl rfl).iloadN (pc' := 122) d45_121 rfl rfl
              by_cases hc12 : p0 < (0 : Int32)
              · replace R := R.ifN (pc' := 125) d45_122 (tlt hc12).2.1 rfl
                replace R := ((((R.iloadN (pc' := 126) d45_125 rfl rfl).iconst (pc' := 127) (z := (1 : Int32)) d45_126 rfl rfl).iadd (pc' := 128) d45_127 rfl).stk (S' := [(.int (7 : Int32))]) rfl).goto (pc' := 132) d45_128 (by decide) rfl
                have hv : (7 : Int32) = (s_dl p0) := by unfold s_dl; rw [if_neg hc1, if_neg hc3, if_neg hc5, if_neg hc7, if_neg hc9, if_pos hc11, if_pos hc12]
                exact R.retI (Ds' := Ds) hret d45_132 (by decide) (by decide) (fun _ q => q) ⟨congrArg (fun z => some (Value.int z)) hv, rfl, rfl⟩
              · replace R := R.ifY (pc' := 131) d45_122 (flt hc12).2.1 (by decide) rfl
                replace R := R.iloadN (pc' := 132) d45_131 rfl rfl
                have hv : (6 : Int32) = (s_dl p0) := by unfold s_dl; rw [if_neg hc1, if_neg hc3, if_neg hc5, if_neg hc7, if_neg hc9, if_pos hc11, if_neg hc12]
                exact R.retI (Ds' := Ds) hret d45_132 (by decide) (by decide) (fun _ q => q) ⟨congrArg (fun z => some (Value.int z)) hv, rfl, rfl⟩
            · replace R := R.ifY (pc' := 79) d45_71 (flt hc11).2.1 (by decide) rfl
              replace R := ((R.lloadN (pc' := 80) d45_79 rfl rfl).ldc2L (pc' := 83) (w312 hw) d45_80 rfl).lcmp (pc' := 84) d45_83 rfl
              by_cases hc13 : (lcmpW (s_absJ p0.toInt64) (10000000 : Int64)) < (0 : Int32)
              · replace R := R.ifN (pc' := 87) d45_84 (tlt hc13).2.1 rfl
                replace R := (((R.bipush (pc' := 89) (z := (7 : Int32)) d45_87 rfl rfl).goto (pc' := 120) d45_89 (by decide) rfl).istoreN (pc' := 121) (l' := #[.val (.int p0), .val (.long (s_absJ p0.toInt64)), .second, .val (.int (7 : Int32))]) d45_120 rfl rfl).iloadN (pc' := 122) d45_121 rfl rfl
                by_cases hc14 : p0 < (0 : Int32)
                · replace R := R.ifN (pc' := 125) d45_122 (tlt hc14).2.1 rfl
                  replace R := ((((R.iloadN (pc' := 126) d45_125 rfl rfl).iconst (pc' := 127) (z := (1 : Int32)) d45_126 rfl rfl).iadd (pc' := 128) d45_127 rfl).stk (S' := [(.int (8 : Int32))]) rfl).goto (pc' := 132) d45_128 (by decide) rfl
                  have hv : (8 : Int32) = (s_dl p0) := by unfold s_dl; rw [if_neg hc1, if_neg hc3, if_neg hc5, if_neg hc7, if_neg hc9, if_neg hc11, if_pos hc13, if_pos hc14]
                  exact R.retI (Ds' := Ds) hret d45_132 (by decide) (by decide) (fun _ q => q) ⟨congrArg (fun z => some (Value.int z)) hv, rfl, rfl⟩
                · replace R := R.ifY (pc' := 131) d45_122 (flt hc14).2.1 (by decide) rfl
                  replace R := R.iloadN (pc' := 132) d45_131 rfl rfl
                  have hv : (7 : Int32) = (s_dl p0) := by unfold s_dl; rw [if_neg hc1, if_neg hc3, if_neg hc5, if_neg hc7, if_neg hc9, if_neg hc11, if_pos hc13, if_neg hc14]
                  exact R.retI (Ds' := Ds) hret d45_132 (by decide) (by decide) (fun _ q => q) ⟨congrArg (fun z => some (Value.int z)) hv, rfl, rfl⟩
              · replace R := R.ifY (pc' := 92) d45_84 (flt hc13).2.1 (by decide) rfl
                replace R := ((R.lloadN (pc' := 93) d45_92 rfl rfl).ldc2L (pc' := 96) (w313 hw) d45_93 rfl).lcmp (pc' := 97) d45_96 rfl
                by_cases hc15 : (lcmpW (s_absJ p0.toInt64) (100000000 : Int64)) < (0 : Int32)
                · replace R := R.ifN (pc' := 100) d45_97 (tlt hc15).2.1 rfl
                  replace R := (((R.bipush (pc' := 102) (z := (8 : Int32)) d45_100 rfl rfl).goto (pc' := 120) d45_102 (by decide) rfl).istoreN (pc' := 121) (l' := #[.val (.int p0), .val (.long (s_absJ p0.toInt64)), .second, .val (.int (8 : Int32))]) d45_120 rfl rfl).iloadN (pc' := 122) d45_121 rfl rfl
                  by_cases hc16 : p0 < (0 : Int32)
                  · replace R := R.ifN (pc' := 125) d45_122 (tlt hc16).2.1 rfl
                    replace R := ((((R.iloadN (pc' := 126) d45_125 rfl rfl).iconst (pc' := 127) (z := (1 : Int32)) d45_126 rfl rfl).iadd (pc' := 128) d45_127 rfl).stk (S' := [(.int (9 : Int32))]) rfl).goto (pc' := 132) d45_128 (by decide) rfl
                    have hv : (9 : Int32) = (s_dl p0) := by unfold s_dl; rw [if_neg hc1, if_neg hc3, if_neg hc5, if_neg hc7, if_neg hc9, if_neg hc11, if_neg hc13, if_pos hc15, if_pos hc16]
                    exact R.retI (Ds' := Ds) hret d45_132 (by decide) (by decide) (fun _ q => q) ⟨congrArg (fun z => some (Value.int z)) hv, rfl, rfl⟩
                  · replace R := R.ifY (pc' := 131) d45_122 (flt hc16).2.1 (by decide) rfl
                    replace R := R.iloadN (pc' := 132) d45_131 rfl rfl
                    have hv : (8 : Int32) = (s_dl p0) := by unfold s_dl; rw [if_neg hc1, if_neg hc3, if_neg hc5, if_neg hc7, if_neg hc9, if_neg hc11, if_neg hc13, if_pos hc15, if_neg hc16]
                    exact R.retI (Ds' := Ds) hret d45_132 (by decide) (by decide) (fun _ q => q) ⟨congrArg (fun z => some (Value.int z)) hv, rfl, rfl⟩
                · replace R := R.ifY (pc' := 105) d45_97 (flt hc15).2.1 (by decide) rfl
                  replace R := ((R.lloadN (pc' := 106) d45_105 rfl rfl).ldc2L (pc' := 109) (w314 hw) d45_106 rfl).lcmp (pc' := 110) d45_109 rfl
                  by_cases hc17 : (lcmpW (s_absJ p0.toInt64) (1000000000 : Int64)) < (0 : Int32)
                  · replace R := R.ifN (pc' := 113) d45_110 (tlt hc17).2.1 rfl
                    replace R := (((R.bipush (pc' := 115) (z := (9 : Int32)) d45_113 rfl rfl).goto (pc' := 120) d45_115 (by decide) rfl).istoreN (pc' := 121) (l' := #[.val (.int p0), .val (.long (s_absJ p0.toInt64)), .second, .val (.int (9 : Int32))]) d45_120 rfl rfl).iloadN (pc' := 122) d45_121 rfl rfl
                    by_cases hc18 : p0 < (0 : Int32)
                    · replace R := R.ifN (pc' := 125) d45_122 (tlt hc18).2.1 rfl
                      replace R := ((((R.iloadN (pc' := 126) d45_125 rfl rfl).iconst (pc' := 127) (z := (1 : Int32)) d45_126 rfl rfl).iadd (pc' := 128) d45_127 rfl).stk (S' := [(.int (10 : Int32))]) rfl).goto (pc' := 132) d45_128 (by decide) rfl
                      have hv : (10 : Int32) = (s_dl p0) := by unfold s_dl; rw [if_neg hc1, if_neg hc3, if_neg hc5, if_neg hc7, if_neg hc9, if_neg hc11, if_neg hc13, if_neg hc15, if_pos hc17, if_pos hc18]
                      exact R.retI (Ds' := Ds) hret d45_132 (by decide) (by decide) (fun _ q => q) ⟨congrArg (fun z => some (Value.int z)) hv, rfl, rfl⟩
                    · replace R := R.ifY (pc' := 131) d45_122 (flt hc18).2.1 (by decide) rfl
                      replace R := R.iloadN (pc' := 132) d45_131 rfl rfl
                      have hv : (9 : Int32) = (s_dl p0) := by unfold s_dl; rw [if_neg hc1, if_neg hc3, if_neg hc5, if_neg hc7, if_neg hc9, if_neg hc11, if_neg hc13, if_neg hc15, if_pos hc17, if_neg hc18]
                      exact R.retI (Ds' := Ds) hret d45_132 (by decide) (by decide) (fun _ q => q) ⟨congrArg (fun z => some (Value.int z)) hv, rfl, rfl⟩
                  · replace R := R.ifY (pc' := 118) d45_110 (flt hc17).2.1 (by decide) rfl
                    replace R := ((R.bipush (pc' := 120) (z := (10 : Int32)) d45_118 rfl rfl).istoreN (pc' := 121) (l' := #[.val (.int p0), .val (.long (s_absJ p0.toInt64)), .second, .val (.int (10 : Int32))]) d45_120 rfl rfl).iloadN (pc' := 122) d45_121 rfl rfl
                    by_cases hc19 : p0 < (0 : Int32)
                    · replace R := R.ifN (pc' := 125) d45_122 (tlt hc19).2.1 rfl
                      replace R := ((((R.iloadN (pc' := 126) d45_125 rfl rfl).iconst (pc' := 127) (z := (1 : Int32)) d45_126 rfl rfl).iadd (pc' := 128) d45_127 rfl).stk (S' := [(.int (11 : Int32))]) rfl).goto (pc' := 132) d45_128 (by decide) rfl
                      have hv : (11 : Int32) = (s_dl p0) := by unfold s_dl; rw [if_neg hc1, if_neg hc3, if_neg hc5, if_neg hc7, if_neg hc9, if_neg hc11, if_neg hc13, if_neg hc15, if_neg hc17, if_pos hc19]
                      exact R.retI (Ds' := Ds) hret d45_132 (by decide) (by decide) (fun _ q => q) ⟨congrArg (fun z => some (Value.int z)) hv, rfl, rfl⟩
                    · replace R := R.ifY (pc' := 131) d45_122 (flt hc19).2.1 (by decide) rfl
                      replace R := R.iloadN (pc' := 132) d45_131 rfl rfl
                      have hv : (10 : Int32) = (s_dl p0) := by unfold s_dl; rw [if_neg hc1, if_neg hc3, if_neg hc5, if_neg hc7, if_neg hc9, if_neg hc11, if_neg hc13, if_neg hc15, if_neg hc17, if_neg hc19]
                      exact R.retI (Ds' := Ds) hret d45_132 (by decide) (by decide) (fun _ q => q) ⟨congrArg (fun z => some (Value.int z)) hv, rfl, rfl⟩
theorem dl_eq (i : Int32) : s_dl i = Int32.ofNat (dec i).length := by
  rcases int_cases i with ⟨m, h0, h1, rfl⟩ | ⟨m, h1, rfl⟩
  · unfold s_dl; rw [absJ_neg h0 h1, dec_neg h0 h1]
    rcases nd_range (m := m) with ⟨e, q1⟩ | ⟨e, q1, q2⟩ | ⟨e, q1, q2⟩ | ⟨e, q1, q2⟩ | ⟨e, q1, q2⟩ | ⟨e, q1, q2⟩ | ⟨e, q1, q2⟩ | ⟨e, q1, q2⟩ | ⟨e, q1, q2⟩ | ⟨e, q1⟩
    · rw [if_pos (show (lcmpW (Int64.ofNat m) (10 : Int64)) < (0 : Int32) from (lcK (K := 10) (by omega) (by decide)).mpr (by omega)), if_pos (neg_lt0 h0 h1), e, List.length_cons, digs_len]; rfl
    · rw [if_neg (show ¬ ((lcmpW (Int64.ofNat m) (10 : Int64)) < (0 : Int32)) from fun q => absurd ((lcK (K := 10) (by omega) (by decide)).mp q) (by omega)), if_pos (show (lcmpW (Int64.ofNat m) (100 : Int64)) < (0 : Int32) from (lcK (K := 100) (by omega) (by decide)).mpr (by omega)), if_pos (neg_lt0 h0 h1), e, List.length_cons, digs_len]; rfl
    · rw [if_neg (show ¬ ((lcmpW (Int64.ofNat m) (10 : Int64)) < (0 : Int32)) from fun q => absurd ((lcK (K := 10) (by omega) (by decide)).mp q) (by omega)), if_neg (show ¬ ((lcmpW (Int64.ofNat m) (100 : Int64)) < (0 : Int32)) from fun q => absurd ((lcK (K := 100) (by omega) (by decide)).mp q) (by omega)), if_pos (show (lcmpW (Int64.ofNat m) (1000 : Int64)) < (0 : Int32) from (lcK (K := 1000) (by omega) (by decide)).mpr (by omega)), if_pos (neg_lt0 h0 h1), e, List.length_cons, digs_len]; rfl
    · rw [if_neg (show ¬ ((lcmpW (Int64.ofNat m) (10 : Int64)) < (0 : Int32)) from fun q => absurd ((lcK (K := 10) (by omega) (by decide)).mp q) (by omega)), if_neg (show ¬ ((lcmpW (Int64.ofNat m) (100 : Int64)) < (0 : Int32)) from fun q => absurd ((lcK (K := 100) (by omega) (by decide)).mp q) (by omega)), if_neg (show ¬ ((lcmpW (Int64.ofNat m) (1000 : Int64)) < (0 : Int32)) from fun q => absurd ((lcK (K := 1000) (by omega) (by decide)).mp q) (by omega)), if_pos (show (lcmpW (Int64.ofNat m) (10000 : Int64)) < (0 : Int32) from (lcK (K := 10000) (by omega) (by decide)).mpr (by omega)), if_pos (neg_lt0 h0 h1), e, List.length_cons, digs_len]; rfl
    · rw [if_neg (show ¬ ((lcmpW (Int64.ofNat m) (10 : Int64)) < (0 : Int32)) from fun q => absurd ((lcK (K := 10) (by omega) (by decide)).mp q) (by omega)), if_neg (show ¬ ((lcmpW (Int64.ofNat m) (100 : Int64)) < (0 : Int32)) from fun q => absurd ((lcK (K := 100) (by omega) (by decide)).mp q) (by omega)), if_neg (show ¬ ((lcmpW (Int64.ofNat m) (1000 : Int64)) < (0 : Int32)) from fun q => absurd ((lcK (K := 1000) (by omega) (by decide)).mp q) (by omega)), if_neg (show ¬ ((lcmpW (Int64.ofNat m) (10000 : Int64)) < (0 : Int32)) from fun q => absurd ((lcK (K := 10000) (by omega) (by decide)).mp q) (by omega)), if_pos (show (lcmpW (Int64.ofNat m) (100000 : Int64)) < (0 : Int32) from (lcK (K := 100000) (by omega) (by decide)).mpr (by omega)), if_pos (neg_lt0 h0 h1), e, List.length_cons, digs_len]; rfl
    · rw [if_neg (show ¬ ((lcmpW (Int64.ofNat m) (10 : Int64)) < (0 : Int32)) from fun q => absurd ((lcK (K := 10) (by omega) (by decide)).mp q) (by omega)), if_neg (show ¬ ((lcmpW (Int64.ofNat m) (100 : Int64)) < (0 : Int32)) from fun q => absurd ((lcK (K := 100) (by omega) (by decide)).mp q) (by omega)), if_neg (show ¬ ((lcmpW (Int64.ofNat m) (1000 : Int64)) < (0 : Int32)) from fun q => absurd ((lcK (K := 1000) (by omega) (by decide)).mp q) (by omega)), if_neg (show ¬ ((lcmpW (Int64.ofNat m) (10000 : Int64)) < (0 : Int32)) from fun q => absurd ((lcK (K := 10000) (by omega) (by decide)).mp q) (by omega)), if_neg (show ¬ ((lcmpW (Int64.ofNat m) (100000 : Int64)) < (0 : Int32)) from fun q => absurd ((lcK (K := 100000) (by omega) (by decide)).mp q) (by omega)), if_pos (show (lcmpW (Int64.ofNat m) (1000000 : Int64)) < (0 : Int32) from (lcK (K := 1000000) (by omega) (by decide)).mpr (by omega)), if_pos (neg_lt0 h0 h1), e, List.length_cons, digs_len]; rfl
    · rw [if_neg (show ¬ ((lcmpW (Int64.ofNat m) (10 : Int64)) < (0 : Int32)) from fun q => absurd ((lcK (K := 10) (by omega) (by decide)).mp q) (by omega)), if_neg (show ¬ ((lcmpW (Int64.ofNat m) (100 : Int64)) < (0 : Int32)) from fun q => absurd ((lcK (K := 100) (by omega) (by decide)).mp q) (by omega)), if_neg (show ¬ ((lcmpW (Int64.ofNat m) (1000 : Int64)) < (0 : Int32)) from fun q => absurd ((lcK (K := 1000) (by omega) (by decide)).mp q) (by omega)), if_neg (show ¬ ((lcmpW (Int64.ofNat m) (10000 : Int64)) < (0 : Int32)) from fun q => absurd ((lcK (K := 10000) (by omega) (by decide)).mp q) (by omega)), if_neg (show ¬ ((lcmpW (Int64.ofNat m) (100000 : Int64)) < (0 : Int32)) from fun q => absurd ((lcK (K := 100000) (by omega) (by decide)).mp q) (by omega)), if_neg (show ¬ ((lcmpW (Int64.ofNat m) (1000000 : Int64)) < (0 : Int32)) from fun q => absurd ((lcK (K := 1000000) (by omega) (by decide)).mp q) (by omega)), if_pos (show (lcmpW (Int64.ofNat m) (10000000 : Int64)) < (0 : Int32) from (lcK (K := 10000000) (by omega) (by decide)).mpr (by omega)), if_pos (neg_lt0 h0 h1), e, List.length_cons, digs_len]; rfl
    · rw [if_neg (show ¬ ((lcmpW (Int64.ofNat m) (10 : Int64)) < (0 : Int32)) from fun q => absurd ((lcK (K := 10) (by omega) (by decide)).mp q) (by omega)), if_neg (show ¬ ((lcmpW (Int64.ofNat m) (100 : Int64)) < (0 : Int32)) from fun q => absurd ((lcK (K := 100) (by omega) (by decide)).mp q) (by omega)), if_neg (show ¬ ((lcmpW (Int64.ofNat m) (1000 : Int64)) < (0 : Int32)) from fun q => absurd ((lcK (K := 1000) (by omega) (by decide)).mp q) (by omega)), if_neg (show ¬ ((lcmpW (Int64.ofNat m) (10000 : Int64)) < (0 : Int32)) from fun q => absurd ((lcK (K := 10000) (by omega) (by decide)).mp q) (by omega)), if_neg (show ¬ ((lcmpW (Int64.ofNat m) (100000 : Int64)) < (0 : Int32)) from fun q => absurd ((lcK (K := 100000) (by omega) (by decide)).mp q) (by omega)), if_neg (show ¬ ((lcmpW (Int64.ofNat m) (1000000 : Int64)) < (0 : Int32)) from fun q => absurd ((lcK (K := 1000000) (by omega) (by decide)).mp q) (by omega)), if_neg (show ¬ ((lcmpW (Int64.ofNat m) (10000000 : Int64)) < (0 : Int32)) from fun q => absurd ((lcK (K := 10000000) (by omega) (by decide)).mp q) (by omega)), if_pos (show (lcmpW (Int64.ofNat m) (100000000 : Int64)) < (0 : Int32) from (lcK (K := 100000000) (by omega) (by decide)).mpr (by omega)), if_pos (neg_lt0 h0 h1), e, List.length_cons, digs_len]; rfl
    · rw [if_neg (show ¬ ((lcmpW (Int64.ofNat m) (10 : Int64)) < (0 : Int32)) from fun q => absurd ((lcK (K := 10) (by omega) (by decide)).mp q) (by omega)), if_neg (show ¬ ((lcmpW (Int64.ofNat m) (100 : Int64)) < (0 : Int32)) from fun q => absurd ((lcK (K := 100) (by omega) (by decide)).mp q) (by omega)), if_neg (show ¬ ((lcmpW (Int64.ofNat m) (1000 : Int64)) < (0 : Int32)) from fun q => absurd ((lcK (K := 1000) (by omega) (by decide)).mp q) (by omega)), if_neg (show ¬ ((lcmpW (Int64.ofNat m) (10000 : Int64)) < (0 : Int32)) from fun q => absurd ((lcK (K := 10000) (by omega) (by decide)).mp q) (by omega)), if_neg (show ¬ ((lcmpW (Int64.ofNat m) (100000 : Int64)) < (0 : Int32)) from fun q => absurd ((lcK (K := 100000) (by omega) (by decide)).mp q) (by omega)), if_neg (show ¬ ((lcmpW (Int64.ofNat m) (1000000 : Int64)) < (0 : Int32)) from fun q => absurd ((lcK (K := 1000000) (by omega) (by decide)).mp q) (by omega)), if_neg (show ¬ ((lcmpW (Int64.ofNat m) (10000000 : Int64)) < (0 : Int32)) from fun q => absurd ((lcK (K := 10000000) (by omega) (by decide)).mp q) (by omega)), if_neg (show ¬ ((lcmpW (Int64.ofNat m) (100000000 : Int64)) < (0 : Int32)) from fun q => absurd ((lcK (K := 100000000) (by omega) (by decide)).mp q) (by omega)), if_pos (show (lcmpW (Int64.ofNat m) (1000000000 : Int64)) < (0 : Int32) from (lcK (K := 1000000000) (by omega) (by decide)).mpr (by omega)), if_pos (neg_lt0 h0 h1), e, List.length_cons, digs_len]; rfl
    · rw [if_neg (show ¬ ((lcmpW (Int64.ofNat m) (10 : Int64)) < (0 : Int32)) from fun q => absurd ((lcK (K := 10) (by omega) (by decide)).mp q) (by omega)), if_neg (show ¬ ((lcmpW (Int64.ofNat m) (100 : Int64)) < (0 : Int32)) from fun q => absurd ((lcK (K := 100) (by omega) (by decide)).mp q) (by omega)), if_neg (show ¬ ((lcmpW (Int64.ofNat m) (1000 : Int64)) < (0 : Int32)) from fun q => absurd ((lcK (K := 1000) (by omega) (by decide)).mp q) (by omega)), if_neg (show ¬ ((lcmpW (Int64.ofNat m) (10000 : Int64)) < (0 : Int32)) from fun q => absurd ((lcK (K := 10000) (by omega) (by decide)).mp q) (by omega)), if_neg (show ¬ ((lcmpW (Int64.ofNat m) (100000 : Int64)) < (0 : Int32)) from fun q => absurd ((lcK (K := 100000) (by omega) (by decide)).mp q) (by omega)), if_neg (show ¬ ((lcmpW (Int64.ofNat m) (1000000 : Int64)) < (0 : Int32)) from fun q => absurd ((lcK (K := 1000000) (by omega) (by decide)).mp q) (by omega)), if_neg (show ¬ ((lcmpW (Int64.ofNat m) (10000000 : Int64)) < (0 : Int32)) from fun q => absurd ((lcK (K := 10000000) (by omega) (by decide)).mp q) (by omega)), if_neg (show ¬ ((lcmpW (Int64.ofNat m) (100000000 : Int64)) < (0 : Int32)) from fun q => absurd ((lcK (K := 100000000) (by omega) (by decide)).mp q) (by omega)), if_neg (show ¬ ((lcmpW (Int64.ofNat m) (1000000000 : Int64)) < (0 : Int32)) from fun q => absurd ((lcK (K := 1000000000) (by omega) (by decide)).mp q) (by omega)), if_pos (neg_lt0 h0 h1), e, List.length_cons, digs_len]; rfl
  · unfold s_dl; rw [absJ_pos h1, dec_pos h1]
    rcases nd_range (m := m) with ⟨e, q1⟩ | ⟨e, q1, q2⟩ | ⟨e, q1, q2⟩ | ⟨e, q1, q2⟩ | ⟨e, q1, q2⟩ | ⟨e, q1, q2⟩ | ⟨e, q1, q2⟩ | ⟨e, q1, q2⟩ | ⟨e, q1, q2⟩ | ⟨e, q1⟩
    · rw [if_pos (show (lcmpW (Int64.ofNat m) (10 : Int64)) < (0 : Int32) from (lcK (K := 10) (by omega) (by decide)).mpr (by omega)), if_neg (pos_nlt0 h1), e, digs_len]; rfl
    · rw [if_neg (show ¬ ((lcmpW (Int64.ofNat m) (10 : Int64)) < (0 : Int32)) from fun q => absurd ((lcK (K := 10) (by omega) (by decide)).mp q) (by omega)), if_pos (show (lcmpW (Int64.ofNat m) (100 : Int64)) < (0 : Int32) from (lcK (K := 100) (by omega) (by decide)).mpr (by omega)), if_neg (pos_nlt0 h1), e, digs_len]; rfl
    · rw [if_neg (show ¬ ((lcmpW (Int64.ofNat m) (10 : Int64)) < (0 : Int32)) from fun q => absurd ((lcK (K := 10) (by omega) (by decide)).mp q) (by omega)), if_neg (show ¬ ((lcmpW (Int64.ofNat m) (100 : Int64)) < (0 : Int32)) from fun q => absurd ((lcK (K := 100) (by omega) (by decide)).mp q) (by omega)), if_pos (show (lcmpW (Int64.ofNat m) (1000 : Int64)) < (0 : Int32) from (lcK (K := 1000) (by omega) (by decide)).mpr (by omega)), if_neg (pos_nlt0 h1), e, digs_len]; rfl
    · rw [if_neg (show ¬ ((lcmpW (Int64.ofNat m) (10 : Int64)) < (0 : Int32)) from fun q => absurd ((lcK (K := 10) (by omega) (by decide)).mp q) (by omega)), if_neg (show ¬ ((lcmpW (Int64.ofNat m) (100 : Int64)) < (0 : Int32)) from fun q => absurd ((lcK (K := 100) (by omega) (by decide)).mp q) (by omega)), if_neg (show ¬ ((lcmpW (Int64.ofNat m) (1000 : Int64)) < (0 : Int32)) from fun q => absurd ((lcK (K := 1000) (by omega) (by decide)).mp q) (by omega)), if_pos (show (lcmpW (Int64.ofNat m) (10000 : Int64)) < (0 : Int32) from (lcK (K := 10000) (by omega) (by decide)).mpr (by omega)), if_neg (pos_nlt0 h1), e, digs_len]; rfl
    · rw [if_neg (show ¬ ((lcmpW (Int64.ofNat m) (10 : Int64)) < (0 : Int32)) from fun q => absurd ((lcK (K := 10) (by omega) (by decide)).mp q) (by omega)), if_neg (show ¬ ((lcmpW (Int64.ofNat m) (100 : Int64)) < (0 : Int32)) from fun q => absurd ((lcK (K := 100) (by omega) (by decide)).mp q) (by omega)), if_neg (show ¬ ((lcmpW (Int64.ofNat m) (1000 : Int64)) < (0 : Int32)) from fun q => absurd ((lcK (K := 1000) (by omega) (by decide)).mp q) (by omega)), if_neg (show ¬ ((lcmpW (Int64.ofNat m) (10000 : Int64)) < (0 : Int32)) from fun q => absurd ((lcK (K := 10000) (by omega) (by decide)).mp q) (by omega)), if_pos (show (lcmpW (Int64.ofNat m) (100000 : Int64)) < (0 : Int32) from (lcK (K := 100000) (by omega) (by decide)).mpr (by omega)), if_neg (pos_nlt0 h1), e, digs_len]; rfl
    · rw [if_neg (show ¬ ((lcmpW (Int64.ofNat m) (10 : Int64)) < (0 : Int32)) from fun q => absurd ((lcK (K := 10) (by omega) (by decide)).mp q) (by omega)), if_neg (show ¬ ((lcmpW (Int64.ofNat m) (100 : Int64)) < (0 : Int32)) from fun q => absurd ((lcK (K := 100) (by omega) (by decide)).mp q) (by omega)), if_neg (show ¬ ((lcmpW (Int64.ofNat m) (1000 : Int64)) < (0 : Int32)) from fun q => absurd ((lcK (K := 1000) (by omega) (by decide)).mp q) (by omega)), if_neg (show ¬ ((lcmpW (Int64.ofNat m) (10000 : Int64)) < (0 : Int32)) from fun q => absurd ((lcK (K := 10000) (by omega) (by decide)).mp q) (by omega)), if_neg (show ¬ ((lcmpW (Int64.ofNat m) (100000 : Int64)) < (0 : Int32)) from fun q => absurd ((lcK (K := 100000) (by omega) (by decide)).mp q) (by omega)), if_pos (show (lcmpW (Int64.ofNat m) (1000000 : Int64)) < (0 : Int32) from (lcK (K := 1000000) (by omega) (by decide)).mpr (by omega)), if_neg (pos_nlt0 h1), e, digs_len]; rfl
    · rw [if_neg (show ¬ ((lcmpW (Int64.ofNat m) (10 : Int64)) < (0 : Int32)) from fun q => absurd ((lcK (K := 10) (by omega) (by decide)).mp q) (by omega)), if_neg (show ¬ ((lcmpW (Int64.ofNat m) (100 : Int64)) < (0 : Int32)) from fun q => absurd ((lcK (K := 100) (by omega) (by decide)).mp q) (by omega)), if_neg (show ¬ ((lcmpW (Int64.ofNat m) (1000 : Int64)) < (0 : Int32)) from fun q => absurd ((lcK (K := 1000) (by omega) (by decide)).mp q) (by omega)), if_neg (show ¬ ((lcmpW (Int64.ofNat m) (10000 : Int64)) < (0 : Int32)) from fun q => absurd ((lcK (K := 10000) (by omega) (by decide)).mp q) (by omega)), if_neg (show ¬ ((lcmpW (Int64.ofNat m) (100000 : Int64)) < (0 : Int32)) from fun q => absurd ((lcK (K := 100000) (by omega) (by decide)).mp q) (by omega)), if_neg (show ¬ ((lcmpW (Int64.ofNat m) (1000000 : Int64)) < (0 : Int32)) from fun q => absurd ((lcK (K := 1000000) (by omega) (by decide)).mp q) (by omega)), if_pos (show (lcmpW (Int64.ofNat m) (10000000 : Int64)) < (0 : Int32) from (lcK (K := 10000000) (by omega) (by decide)).mpr (by omega)), if_neg (pos_nlt0 h1), e, digs_len]; rfl
    · rw [if_neg (show ¬ ((lcmpW (Int64.ofNat m) (10 : Int64)) < (0 : Int32)) from fun q => absurd ((lcK (K := 10) (by omega) (by decide)).mp q) (by omega)), if_neg (show ¬ ((lcmpW (Int64.ofNat m) (100 : Int64)) < (0 : Int32)) from fun q => absurd ((lcK (K := 100) (by omega) (by decide)).mp q) (by omega)), if_neg (show ¬ ((lcmpW (Int64.ofNat m) (1000 : Int64)) < (0 : Int32)) from fun q => absurd ((lcK (K := 1000) (by omega) (by decide)).mp q) (by omega)), if_neg (show ¬ ((lcmpW (Int64.ofNat m) (10000 : Int64)) < (0 : Int32)) from fun q => absurd ((lcK (K := 10000) (by omega) (by decide)).mp q) (by omega)), if_neg (show ¬ ((lcmpW (Int64.ofNat m) (100000 : Int64)) < (0 : Int32)) from fun q => absurd ((lcK (K := 100000) (by omega) (by decide)).mp q) (by omega)), if_neg (show ¬ ((lcmpW (Int64.ofNat m) (1000000 : Int64)) < (0 : Int32)) from fun q => absurd ((lcK (K := 1000000) (by omega) (by decide)).mp q) (by omega)), if_neg (show ¬ ((lcmpW (Int64.ofNat m) (10000000 : Int64)) < (0 : Int32)) from fun q => absurd ((lcK (K := 10000000) (by omega) (by decide)).mp q) (by omega)), if_pos (show (lcmpW (Int64.ofNat m) (100000000 : Int64)) < (0 : Int32) from (lcK (K := 100000000) (by omega) (by decide)).mpr (by omega)), if_neg (pos_nlt0 h1), e, digs_len]; rfl
    · rw [if_neg (show ¬ ((lcmpW (Int64.ofNat m) (10 : Int64)) < (0 : Int32)) from fun q => absurd ((lcK (K := 10) (by omega) (by decide)).mp q) (by omega)), if_neg (show ¬ ((lcmpW (Int64.ofNat m) (100 : Int64)) < (0 : Int32)) from fun q => absurd ((lcK (K := 100) (by omega) (by decide)).mp q) (by omega)), if_neg (show ¬ ((lcmpW (Int64.ofNat m) (1000 : Int64)) < (0 : Int32)) from fun q => absurd ((lcK (K := 1000) (by omega) (by decide)).mp q) (by omega)), if_neg (show ¬ ((lcmpW (Int64.ofNat m) (10000 : Int64)) < (0 : Int32)) from fun q => absurd ((lcK (K := 10000) (by omega) (by decide)).mp q) (by omega)), if_neg (show ¬ ((lcmpW (Int64.ofNat m) (100000 : Int64)) < (0 : Int32)) from fun q => absurd ((lcK (K := 100000) (by omega) (by decide)).mp q) (by omega)), if_neg (show ¬ ((lcmpW (Int64.ofNat m) (1000000 : Int64)) < (0 : Int32)) from fun q => absurd ((lcK (K := 1000000) (by omega) (by decide)).mp q) (by omega)), if_neg (show ¬ ((lcmpW (Int64.ofNat m) (10000000 : Int64)) < (0 : Int32)) from fun q => absurd ((lcK (K := 10000000) (by omega) (by decide)).mp q) (by omega)), if_neg (show ¬ ((lcmpW (Int64.ofNat m) (100000000 : Int64)) < (0 : Int32)) from fun q => absurd ((lcK (K := 100000000) (by omega) (by decide)).mp q) (by omega)), if_pos (show (lcmpW (Int64.ofNat m) (1000000000 : Int64)) < (0 : Int32) from (lcK (K := 1000000000) (by omega) (by decide)).mpr (by omega)), if_neg (pos_nlt0 h1), e, digs_len]; rfl
    · rw [if_neg (show ¬ ((lcmpW (Int64.ofNat m) (10 : Int64)) < (0 : Int32)) from fun q => absurd ((lcK (K := 10) (by omega) (by decide)).mp q) (by omega)), if_neg (show ¬ ((lcmpW (Int64.ofNat m) (100 : Int64)) < (0 : Int32)) from fun q => absurd ((lcK (K := 100) (by omega) (by decide)).mp q) (by omega)), if_neg (show ¬ ((lcmpW (Int64.ofNat m) (1000 : Int64)) < (0 : Int32)) from fun q => absurd ((lcK (K := 1000) (by omega) (by decide)).mp q) (by omega)), if_neg (show ¬ ((lcmpW (Int64.ofNat m) (10000 : Int64)) < (0 : Int32)) from fun q => absurd ((lcK (K := 10000) (by omega) (by decide)).mp q) (by omega)), if_neg (show ¬ ((lcmpW (Int64.ofNat m) (100000 : Int64)) < (0 : Int32)) from fun q => absurd ((lcK (K := 100000) (by omega) (by decide)).mp q) (by omega)), if_neg (show ¬ ((lcmpW (Int64.ofNat m) (1000000 : Int64)) < (0 : Int32)) from fun q => absurd ((lcK (K := 1000000) (by omega) (by decide)).mp q) (by omega)), if_neg (show ¬ ((lcmpW (Int64.ofNat m) (10000000 : Int64)) < (0 : Int32)) from fun q => absurd ((lcK (K := 10000000) (by omega) (by decide)).mp q) (by omega)), if_neg (show ¬ ((lcmpW (Int64.ofNat m) (100000000 : Int64)) < (0 : Int32)) from fun q => absurd ((lcK (K := 100000000) (by omega) (by decide)).mp q) (by omega)), if_neg (show ¬ ((lcmpW (Int64.ofNat m) (1000000000 : Int64)) < (0 : Int32)) from fun q => absurd ((lcK (K := 1000000000) (by omega) (by decide)).mp q) (by omega)), if_neg (pos_nlt0 h1), e, digs_len]; rfl
theorem len_ok {F R' : List Int32} (hF : F.length ≤ 2) (hR : R'.length ≤ 2) (i : Int32) : Int32.ofNat (txt F R' i).length = (((Int32.ofNat F.length + (1 : Int32)) + s_dl i) + (2 : Int32)) + Int32.ofNat R'.length := by
  have hD := dec_len i
  rw [dl_eq, txt_len, show (1 : Int32) = Int32.ofNat 1 from rfl, show (2 : Int32) = Int32.ofNat 2 from rfl, own_addc (by omega), own_addc (by omega), own_addc (by omega), own_addc (by omega)]
theorem ix3 {A B c k : Nat} (h : A = B + c + k) (hA : A ≤ 4000) : (Int32.ofNat A - Int32.ofNat B) - Int32.ofNat c = Int32.ofNat k := by
  rw [own_sub (by omega) hA, own_sub (by omega) (by omega)]; exact congrArg Int32.ofNat (by omega)
theorem ix2 {A B k : Nat} (h : A = B + k) (hA : A ≤ 4000) : Int32.ofNat A - Int32.ofNat B = Int32.ofNat k := by
  rw [own_sub (by omega) hA]; exact congrArg Int32.ofNat (by omega)

set_option maxRecDepth 65536 in
set_option maxHeartbeats 40000000 in
theorem rm_law (l : Launch) (Z : State) (a0 : Array Value) (hw : HW a0 Z) (i0 : Int32) (i1 : Int32) (i2 : Int32) (i3 : Int32) (h : Heap) (n0 : Nat) (Ds : List Addr) (hst : l.stackTraces = true) {au an : Addr} (S_u : Sta Z Z.heap "java/lang/Throwable" "UNASSIGNED_STACK" "[Ljava/lang/StackTraceElement;" (.ref au)) (S_n : Sta Z Z.heap "java/lang/Throwable" "SUPPRESSED_SENTINEL" "Ljava/util/List;" (.ref an)) (own_cs : CompactOn Z) (own_si : SiooOk Z) (own_dg : DgOk Z) :
    CtrK l Z x code maxLocals ret tables_1 room_1 #[(.int i0), (.int i1), (.int i2), (.int i3)] h n0 Ds (fun v h' Ds' => v = some (.int 1)) := by
  have own_hws : ∀ d ∈ StrChars.Road.words, d.before a0 Z = true := fun d hd => hw d ((by decide +kernel : ∀ d ∈ StrChars.Road.words, d ∈ tables_1) d hd)
  have own_heq : ∀ d ∈ StrChars.Road.wordsEq, d.before a0 Z = true := fun d hd => hw d ((by decide +kernel : ∀ d ∈ StrChars.Road.wordsEq, d ∈ tables_1) d hd)
  refine ctr_ofK (Ls := #[.val (.int i0), .val (.int i1), .val (.int i2), .val (.int i3), .unset, .unset, .unset, .unset, .unset, .unset, .unset, .unset]) (plainFor_of_name pn9) (fun m => by first | (simp [entryFrame, mkF, argsToLocals, Value.category, maxLocals]; done) | rfl) ?_
  intro C hl hret hnm hKn hO R
  subst hl
  replace R := (((((R.iloadN (pc' := 1) (v := i0) at_0 rfl rfl).iloadN (pc' := 2) (v := i0) at_1 rfl rfl).bipush (pc' := 4) (z := (8 : Int32)) at_2 rfl rfl).iushr (pc' := 5) at_4 rfl).iloadN (pc' := 6) (v := i3) at_5 rfl rfl).sipush (pc' := 9) (z := (32767 : Int32)) at_6 rfl rfl
  replace R := ((R.iand (pc' := 10) at_9 rfl).iconst (pc' := 11) (z := (3 : Int32)) at_10 rfl rfl).irem (pc' := 12) at_11 (by decide) rfl
  obtain ⟨_, h1, _, ⟨r1, rfl, S1, K1, rfl⟩, R⟩ := R.callS (pc' := 15) (argsL := [(.int i0), (.int ((i0.toUInt32 >>> ((8 : Int32) &&& 31).toUInt32).toInt32)), (.int ((i3 &&& (32767 : Int32)) % (3 : Int32)))]) (rest := []) (W := 0) (w0 hw) (w1 hw) (w2 hw) (w3 hw) (by decide) (rm_str C.l Z a0 hw i0 ((i0.toUInt32 >>> ((8 : Int32) &&& 31).toUInt32).toInt32) ((i3 &&& (32767 : Int32)) % (3 : Int32)) h n0 Ds own_cs ) rfl (lenOf pd32 rfl) rfl rfl at_12 (by decide) (by decide) (by decide) (by decide) rfl
  replace R := ((R.mono (ce' := 6) (sl' := 12) (by decide) (by decide)).stk (S' := [(.ref r1)]) rfl).astore (pc' := 17) (l' := #[.val (.int i0), .val (.int i1), .val (.int i2), .val (.int i3), .val (.ref r1), .unset, .unset, .unset, .unset, .unset, .unset, .unset]) at_15 rfl rfl rfl
  obtain ⟨F, ehF⟩ : ∃ z, z = (s_str i0 ((i0.toUInt32 >>> ((8 : Int32) &&& 31).toUInt32).toInt32) ((i3 &&& (32767 : Int32)) % (3 : Int32))) := ⟨_, rfl⟩
  have S_hF := S1
  rw [← ehF] at S_hF
  have hF : F.length ≤ 2 := by rw [ehF]; exact s_str_len _ _ _
  replace R := (((((R.iloadN (pc' := 18) (v := i2) at_17 rfl rfl).iloadN (pc' := 19) (v := i2) at_18 rfl rfl).bipush (pc' := 21) (z := (8 : Int32)) at_19 rfl rfl).iushr (pc' := 22) at_21 rfl).iloadN (pc' := 23) (v := i3) at_22 rfl rfl).bipush (pc' := 25) (z := (16 : Int32)) at_23 rfl rfl
  replace R := ((((R.iushr (pc' := 26) at_25 rfl).sipush (pc' := 29) (z := (32767 : Int32)) at_26 rfl rfl).iand (pc' := 30) at_29 rfl).iconst (pc' := 31) (z := (3 : Int32)) at_30 rfl rfl).irem (pc' := 32) at_31 (by decide) rfl
  obtain ⟨_, h2, _, ⟨r2, rfl, S2, K2, rfl⟩, R⟩ := R.callS (pc' := 35) (argsL := [(.int i2), (.int ((i2.toUInt32 >>> ((8 : Int32) &&& 31).toUInt32).toInt32)), (.int ((((i3.toUInt32 >>> ((16 : Int32) &&& 31).toUInt32).toInt32) &&& (32767 : Int32)) % (3 : Int32)))]) (rest := []) (W := 0) (w0 hw) (w1 hw) (w2 hw) (w3 hw) (by decide) (rm_str C.l Z a0 hw i2 ((i2.toUInt32 >>> ((8 : Int32) &&& 31).toUInt32).toInt32) ((((i3.toUInt32 >>> ((16 : Int32) &&& 31).toUInt32).toInt32) &&& (32767 : Int32)) % (3 : Int32)) h1 n0 (r1 :: Ds) own_cs ) rfl (lenOf pd32 rfl) rfl rfl at_32 (by decide) (by decide) (by decide) (by decide) rfl
  replace R := ((R.mono (ce' := 12) (sl' := 24) (by decide) (by decide)).stk (S' := [(.ref r2)]) rfl).astore (pc' := 37) (l' := #[.val (.int i0), .val (.int i1), .val (.int i2), .val (.int i3), .val (.ref r1), .val (.ref r2), .unset, .unset, .unset, .unset, .unset, .unset]) at_35 rfl rfl rfl
  obtain ⟨R', ehR⟩ : ∃ z, z = (s_str i2 ((i2.toUInt32 >>> ((8 : Int32) &&& 31).toUInt32).toInt32) ((((i3.toUInt32 >>> ((16 : Int32) &&& 31).toUInt32).toInt32) &&& (32767 : Int32)) % (3 : Int32))) := ⟨_, rfl⟩
  have S_hR := S2
  rw [← ehR] at S_hR
  have hR : R'.length ≤ 2 := by rw [ehR]; exact s_str_len _ _ _
  obtain ⟨h3, b3, g3, E3, X3, D3, R⟩ := R.newO (pc' := 40) (w41 hw) (w42 hw) (w43 hw) at_37 (by decide) (by decide) rfl
  have F3_refusal : Fld Z h3 b3 "provento/files/CsvRow" "refusal" "Ljava/util/function/Function;" .null := D3 (Or.inr (w54 hw)) (ty := (.object "java/util/function/Function")) (by decide)
  have F3_file : Fld Z h3 b3 "provento/files/CsvRow" "file" "Ljava/lang/String;" .null := D3 (Or.inr (w56 hw)) (ty := (.object "java/lang/String")) (by decide)
  have F3_line : Fld Z h3 b3 "provento/files/CsvRow" "line" "I" (.int (0 : Int32)) := D3 (Or.inr (w58 hw)) (ty := .int) (by decide)
  have F3_positions : Fld Z h3 b3 "provento/files/CsvRow" "positions" "Ljava/util/Map;" .null := D3 (Or.inr (w60 hw)) (ty := (.object "java/util/Map")) (by decide)
  have F3_text : Fld Z h3 b3 "provento/files/CsvRow" "text" "Ljava/lang/String;" .null := D3 (Or.inr (w62 hw)) (ty := (.object "java/lang/String")) (by decide)
  have F3_ends : Fld Z h3 b3 "provento/files/CsvRow" "ends" "[I" .null := D3 (Or.inr (w64 hw)) (ty := (.array .int)) (by decide)
  have F3_texts : Fld Z h3 b3 "provento/files/CsvRow" "texts" "Lprovento/files/FieldTexts;" .null := D3 (Or.inr (w66 hw)) (ty := (.object "provento/files/FieldTexts")) (by decide)
  replace R := (((((R.dup (pc' := 41) at_40 rfl rfl).aload (pc' := 43) (v := (.ref r1)) at_41 rfl rfl rfl).iloadN (pc' := 44) (v := i1) at_43 rfl rfl).anull (pc' := 45) at_44 rfl).aload (pc' := 47) (v := (.ref r2)) at_45 rfl rfl rfl).iconst (pc' := 48) (z := (0 : Int32)) at_47 rfl rfl
  obtain ⟨h4, b4, k4, g4, E4, V4, R⟩ := R.newP (pc' := 50) (aty := .int) (cap := 0) (w44 hw) at_48 (by decide) (by decide) (by decide) (by decide) (by decide) rfl
  have V4p : Arv Z h4 b4 k4 .int (0 : Int32) [] (.int (0 : Int32)) := V4.pad (pad_rep [] (.int (0 : Int32)) 0)
  replace R := R.anull (pc' := 51) at_50 rfl
  have K6 := ((Keep.refl h3 []).trans ((Keep.refl h3 []).ext E4) all0)
  have F7 := X3.keep K6
  have K8 := ((Keep.refl h3 []).trans ((Keep.refl h3 []).ext E4) all0)
  have F9 := F3_refusal.keep K8 nin0
  have K10 := ((Keep.refl h3 []).trans ((Keep.refl h3 []).ext E4) all0)
  have F11 := F3_file.keep K10 nin0
  have K12 := ((Keep.refl h3 []).trans ((Keep.refl h3 []).ext E4) all0)
  have F13 := F3_line.keep K12 nin0
  have K14 := ((Keep.refl h3 []).trans ((Keep.refl h3 []).ext E4) all0)
  have F15 := F3_positions.keep K14 nin0
  have K16 := ((Keep.refl h3 []).trans ((Keep.refl h3 []).ext E4) all0)
  have F17 := F3_text.keep K16 nin0
  have K18 := ((Keep.refl h3 []).trans ((Keep.refl h3 []).ext E4) all0)
  have F19 := F3_ends.keep K18 nin0
  have K20 := ((Keep.refl h3 []).trans ((Keep.refl h3 []).ext E4) all0)
  have F21 := F3_texts.keep K20 nin0
  obtain ⟨_, h5, _, ⟨rfl, K5, X5, F5_f, F5_l, rfl⟩, R⟩ := R.callI (pc' := 54) (a := b3) (argsL := [(.ref r1), (.int i1), .null, (.ref r2), (.ref b4), .null]) (rest := [(.ref b3)]) (W := 1) rfl (w45 hw) (w46 hw) (w43 hw) (w47 hw) (by decide) (rm_cr C.l Z a0 hw b3 r1 r2 b4 i1 h4 n0 (b4 :: b3 :: r2 :: r1 :: Ds) (List.mem_of_getElem? (i := 1) rfl) F7 F9 F11 F13 F15 F17 F19 F21) rfl (lenOf pd33 rfl) rfl rfl at_51 (by decide) (by decide) (by decide) (by decide) rfl
  replace R := ((((R.mono (ce' := 15) (sl' := 32) (by decide) (by decide)).stk (S' := [(.ref b3)]) rfl).astore (pc' := 56) (l' := #[.val (.int i0), .val (.int i1), .val (.int i2), .val (.int i3), .val (.ref r1), .val (.ref r2), .val (.ref b3), .unset, .unset, .unset, .unset, .unset]) at_54 rfl rfl rfl).aload (pc' := 58) (v := (.ref b3)) at_56 rfl rfl rfl).aload (pc' := 60) (v := (.ref r2)) at_58 rfl rfl rfl
  have K23 := (((((Keep.refl h1 []).trans K2 all0).trans ((Keep.refl h2 []).ext E3) all0).trans ((Keep.refl h3 []).ext E4) all0).trans K5 (allS (Or.inr (by rw [g3]; exact K2.1)) all0))
  have F24 := S_hF.keep K23 nin0 all0
  have K25 := ((((Keep.refl h2 []).trans ((Keep.refl h2 []).ext E3) all0).trans ((Keep.refl h3 []).ext E4) all0).trans K5 (allS (Or.inr (by rw [g3]; exact (Nat.le_refl _))) all0))
  have F26 := S_hR.keep K25 nin0 all0
  obtain ⟨_, h22, _, ⟨r22, m22, rfl, K22, X22, F22, S22, rfl⟩, R⟩ := R.callVK (pc' := 63) (y := (⟨"provento/files/CsvRow", "refuse", "(Ljava/lang/String;)Lprovento/files/Refusal;"⟩ : MethodName)) (z := (⟨"provento/files/CsvRow", "refuse", "(Ljava/lang/String;)Lprovento/files/Refusal;"⟩ : MethodName)) (argsL := [(.ref r2)]) (rest := []) (W := 0) hKn (w67 hw) (w68 hw) (fun s' hZ' => notFace_of_selects (args := #[]) (mvT hZ' (w70 hw))) (w70 hw) (w69 hw) (w43 hw) (w71 hw) (by decide) X5 (rm_rf C.l Z a0 hw hst S_u S_n b3 r1 r2 i1 h5 n0 (b4 :: b3 :: r2 :: r1 :: Ds) own_cs own_dg hF hR F24 F26 X5 F5_f F5_l) rfl (lenOf pd34 rfl) rfl rfl at_60 (by decide) (by decide) (by decide) (by decide) rfl
  replace R := (((((R.mono (ce' := 26) (sl' := 2886) (by decide) (by decide)).stk (S' := [(.ref r22)]) rfl).astore (pc' := 65) (l' := #[.val (.int i0), .val (.int i1), .val (.int i2), .val (.int i3), .val (.ref r1), .val (.ref r2), .val (.ref b3), .val (.ref r22), .unset, .unset, .unset, .unset]) at_63 rfl rfl rfl).aload (pc' := 67) (v := (.ref r22)) at_65 rfl rfl rfl).ifnonnullY (pc' := 72) at_67 (by decide) rfl).aload (pc' := 74) (v := (.ref r22)) at_72 rfl rfl rfl
  replace R := own_pure (R.callVUp (pc' := 77) (x := (⟨"provento/files/Refusal", "getMessage", "()Ljava/lang/String;"⟩ : MethodName)) (z := (⟨"java/lang/Throwable", "getMessage", "()Ljava/lang/String;"⟩ : MethodName)) (owner := "java/lang/Throwable") (argsL := []) (rest := []) (W := 0) (w259 hw) (w260 hw) (w261 hw) (by decide) (w263 hw) (w262 hw) (w220 hw) (w264 hw) X22 (rm_gm C.l Z a0 hw r22 m22 h22 n0 (b4 :: b3 :: r2 :: r1 :: Ds) F22) rfl (lenOf pd24 rfl) rfl rfl at_74 (by decide) (by decide) (by decide) (by decide) rfl)
  replace R := (((((R.astore (pc' := 79) (l' := #[.val (.int i0), .val (.int i1), .val (.int i2), .val (.int i3), .val (.ref r1), .val (.ref r2), .val (.ref b3), .val (.ref r22), .val (.ref m22), .unset, .unset, .unset]) at_77 rfl rfl rfl).aload (pc' := 81) (v := (.ref m22)) at_79 rfl rfl rfl).ifnullN (pc' := 84) at_81 rfl).aload (pc' := 86) (v := (.ref m22)) at_84 rfl rfl rfl).aload (pc' := 88) (v := (.ref r1)) at_86 rfl rfl rfl).iloadN (pc' := 89) (v := i1) at_88 rfl rfl
  replace R := R.aload (pc' := 91) (v := (.ref r2)) at_89 rfl rfl rfl
  have K28 := ((((((Keep.refl h1 []).trans K2 all0).trans ((Keep.refl h2 []).ext E3) all0).trans ((Keep.refl h3 []).ext E4) all0).trans K5 (allS (Or.inr (by rw [g3]; exact K2.1)) all0)).trans K22 all0)
  have F29 := S_hF.keep K28 nin0 all0
  have K30 := (((((Keep.refl h2 []).trans ((Keep.refl h2 []).ext E3) all0).trans ((Keep.refl h3 []).ext E4) all0).trans K5 (allS (Or.inr (by rw [g3]; exact (Nat.le_refl _))) all0)).trans K22 all0)
  have F31 := S_hR.keep K30 nin0 all0
  obtain ⟨_, h27, _, ⟨r27, rfl, K27, S27, rfl⟩, R⟩ := R.callS (pc' := 94) (argsL := [(.ref r1), (.int i1), (.ref r2)]) (rest := [(.ref m22)]) (W := 1) (w265 hw) (w79 hw) (w74 hw) (w80 hw) (by decide) (rm_lm C.l Z a0 hw r1 r2 i1 h22 n0 (b4 :: b3 :: r2 :: r1 :: Ds) own_cs own_dg hF hR F29 F31) rfl (lenOf pd29 rfl) rfl rfl at_91 (by decide) (by decide) (by decide) (by decide) rfl
  replace R := (R.mono (ce' := 35) (sl' := 2982) (by decide) (by decide)).stk (S' := [(.ref r27), (.ref m22)]) rfl
  have K32 := ((Keep.refl h22 []).trans K27 all0)
  have F33 := S22.keep K32 nin0 all0
  replace R := (R.str_eq (pc' := 97) (W := 0) own_heq (w14 hw) (w266 hw) (w267 hw) (w269 hw) (w268 hw) own_cs S27 F33 rfl rfl at_94 (by decide) (by decide) (by decide) (by decide) rfl).stk (S' := [(.int (if (txt F R' i1) = (txt F R' i1) then 1 else 0))]) rfl
  replace R := R.stk (congrArg (fun z => ([Value.int z] : List Value)) (if_pos rfl))
  replace R := R.ifY (pc' := 102) at_97 (feq (by decide : ¬ ((1 : Int32) = (0 : Int32)))).2 (by decide) rfl
  have hTL := txt_len F R' i1
  have hD := dec_len i1
  have K34 := (((((((Keep.refl h1 []).trans K2 all0).trans ((Keep.refl h2 []).ext E3) all0).trans ((Keep.refl h3 []).ext E4) all0).trans K5 (allS (Or.inr (by rw [g3]; exact K2.1)) all0)).trans K22 all0).trans K27 all0)
  have F35 := S_hF.keep K34 nin0 all0
  have Y_f := F35
  have K36 := ((((((Keep.refl h2 []).trans ((Keep.refl h2 []).ext E3) all0).trans ((Keep.refl h3 []).ext E4) all0).trans K5 (allS (Or.inr (by rw [g3]; exact (Nat.le_refl _))) all0)).trans K22 all0).trans K27 all0)
  have F37 := S_hR.keep K36 nin0 all0
  have Y_s := F37
  have K38 := ((Keep.refl h22 []).trans K27 all0)
  have F39 := S22.keep K38 nin0 all0
  have Y_m := F39
  replace R := R.aload (pc' := 104) (v := (.ref r1)) at_102 rfl rfl rfl
  replace R := own_pure (R.callV (pc' := 107) (y := (⟨"java/lang/String", "length", "()I"⟩ : MethodName)) (z := (⟨"java/lang/String", "length", "()I"⟩ : MethodName)) (argsL := []) (rest := []) (W := 0) (w274 hw) (w110 hw) (fun s' hZ' => notFace_of_selects (args := #[]) (mvT hZ' (w112 hw))) (w112 hw) (w111 hw) (w6 hw) (w113 hw) (by decide) Y_f.1 (rm_length C.l Z a0 hw r1 h27 n0 (b4 :: b3 :: r2 :: r1 :: Ds) own_cs Y_f) rfl (lenOf pd11 rfl) rfl rfl at_104 (by decide) (by decide) (by decide) (by decide) rfl)
  replace R := (R.istore (pc' := 109) (l' := #[.val (.int i0), .val (.int i1), .val (.int i2), .val (.int i3), .val (.ref r1), .val (.ref r2), .val (.ref b3), .val (.ref r22), .val (.ref m22), .val (.int (Int32.ofNat F.length)), .unset, .unset]) at_107 rfl rfl).aload (pc' := 111) (v := (.ref r2)) at_109 rfl rfl rfl
  replace R := own_pure (R.callV (pc' := 114) (y := (⟨"java/lang/String", "length", "()I"⟩ : MethodName)) (z := (⟨"java/lang/String", "length", "()I"⟩ : MethodName)) (argsL := []) (rest := []) (W := 0) (w274 hw) (w110 hw) (fun s' hZ' => notFace_of_selects (args := #[]) (mvT hZ' (w112 hw))) (w112 hw) (w111 hw) (w6 hw) (w113 hw) (by decide) Y_s.1 (rm_length C.l Z a0 hw r2 h27 n0 (b4 :: b3 :: r2 :: r1 :: Ds) own_cs Y_s) rfl (lenOf pd11 rfl) rfl rfl at_111 (by decide) (by decide) (by decide) (by decide) rfl)
  replace R := (R.istore (pc' := 116) (l' := #[.val (.int i0), .val (.int i1), .val (.int i2), .val (.int i3), .val (.ref r1), .val (.ref r2), .val (.ref b3), .val (.ref r22), .val (.ref m22), .val (.int (Int32.ofNat F.length)), .val (.int (Int32.ofNat R'.length)), .unset]) at_114 rfl rfl).aload (pc' := 118) (v := (.ref m22)) at_116 rfl rfl rfl
  replace R := own_pure (R.callV (pc' := 121) (y := (⟨"java/lang/String", "length", "()I"⟩ : MethodName)) (z := (⟨"java/lang/String", "length", "()I"⟩ : MethodName)) (argsL := []) (rest := []) (W := 0) (w274 hw) (w110 hw) (fun s' hZ' => notFace_of_selects (args := #[]) (mvT hZ' (w112 hw))) (w112 hw) (w111 hw) (w6 hw) (w113 hw) (by decide) Y_m.1 (rm_length C.l Z a0 hw m22 h27 n0 (b4 :: b3 :: r2 :: r1 :: Ds) own_cs Y_m) rfl (lenOf pd11 rfl) rfl rfl at_118 (by decide) (by decide) (by decide) (by decide) rfl)
  replace R := (((((R.istore (pc' := 123) (l' := #[.val (.int i0), .val (.int i1), .val (.int i2), .val (.int i3), .val (.ref r1), .val (.ref r2), .val (.ref b3), .val (.ref r22), .val (.ref m22), .val (.int (Int32.ofNat F.length)), .val (.int (Int32.ofNat R'.length)), .val (.int (Int32.ofNat (txt F R' i1).length))]) at_121 rfl rfl).iload (pc' := 125) (v := (Int32.ofNat (txt F R' i1).length)) at_123 rfl rfl).iload (pc' := 127) (v := (Int32.ofNat F.length)) at_125 rfl rfl).iconst (pc' := 128) (z := (1 : Int32)) at_127 rfl rfl).iadd (pc' := 129) at_128 rfl).iloadN (pc' := 130) (v := i1) at_129 rfl rfl
  replace R := own_pure (R.callS (pc' := 133) (argsL := [(.int i1)]) (rest := [(.int ((Int32.ofNat F.length) + (1 : Int32))), (.int (Int32.ofNat (txt F R' i1).length))]) (W := 2) (w275 hw) (w276 hw) (w2 hw) (w277 hw) (by decide) (rm_dl C.l Z a0 hw i1 h27 n0 (b4 :: b3 :: r2 :: r1 :: Ds)) rfl (lenOf pd9 rfl) rfl rfl at_130 (by decide) (by decide) (by decide) (by decide) rfl)
  replace R := (((((R.iadd (pc' := 134) at_133 rfl).iconst (pc' := 135) (z := (2 : Int32)) at_134 rfl rfl).iadd (pc' := 136) at_135 rfl).iload (pc' := 138) (v := (Int32.ofNat R'.length)) at_136 rfl rfl).iadd (pc' := 139) at_138 rfl).icmpY (pc' := 144) at_139 (teq (len_ok hF hR i1)).1 (by decide) rfl
  replace R : Rc C room_1 "provento/files/CsvRowRefusePinLaw" code maxLocals Z n0 35 2982 166 #[.val (.int i0), .val (.int i1), .val (.int i2), .val (.int i3), .val (.ref r1), .val (.ref r2), .val (.ref b3), .val (.ref r22), .val (.ref m22), .val (.int (Int32.ofNat F.length)), .val (.int (Int32.ofNat R'.length)), .val (.int (Int32.ofNat (txt F R' i1).length))] [] h27 (b4 :: b3 :: r2 :: r1 :: Ds) := by
    by_cases hc : (0 : Int32) < (Int32.ofNat F.length)
    · have hn : 0 < F.length := own_ltI (k := 0) (by omega) (by omega) hc
      replace R := (((R.iload (pc' := 146) (v := (Int32.ofNat F.length)) at_144 rfl rfl).ifN (pc' := 149) at_146 (tlt hc).2.2.2 rfl).aload (pc' := 151) (v := (.ref m22)) at_149 rfl rfl rfl).iconst (pc' := 152) (z := (0 : Int32)) at_151 rfl rfl
      replace R := own_pure (R.callV (pc' := 155) (y := (⟨"java/lang/String", "charAt", "(I)C"⟩ : MethodName)) (z := (⟨"java/lang/String", "charAt", "(I)C"⟩ : MethodName)) (argsL := [(.int (0 : Int32))]) (rest := []) (W := 0) (w282 hw) (w283 hw) (fun s' hZ' => notFace_of_selects (args := #[]) (mvT hZ' (w285 hw))) (w285 hw) (w284 hw) (w6 hw) (w286 hw) (by decide) Y_m.1 (rm_charAt C.l Z a0 hw m22 (0 : Int32) h27 n0 (b4 :: b3 :: r2 :: r1 :: Ds) own_cs own_si (k := 0) rfl (by omega) Y_m) rfl (lenOf pd35 rfl) rfl rfl at_152 (by decide) (by decide) (by decide) (by decide) rfl)
      replace R := (R.aload (pc' := 157) (v := (.ref r1)) at_155 rfl rfl rfl).iconst (pc' := 158) (z := (0 : Int32)) at_157 rfl rfl
      replace R := own_pure (R.callV (pc' := 161) (y := (⟨"java/lang/String", "charAt", "(I)C"⟩ : MethodName)) (z := (⟨"java/lang/String", "charAt", "(I)C"⟩ : MethodName)) (argsL := [(.int (0 : Int32))]) (rest := [(.int ((txt F R' i1).getD 0 0))]) (W := 1) (w282 hw) (w283 hw) (fun s' hZ' => notFace_of_selects (args := #[]) (mvT hZ' (w285 hw))) (w285 hw) (w284 hw) (w6 hw) (w286 hw) (by decide) Y_f.1 (rm_charAt C.l Z a0 hw r1 (0 : Int32) h27 n0 (b4 :: b3 :: r2 :: r1 :: Ds) own_cs own_si (k := 0) rfl hn Y_f) rfl (lenOf pd35 rfl) rfl rfl at_158 (by decide) (by decide) (by decide) (by decide) rfl)
      replace R := R.icmpY (pc' := 166) at_161 (teq (txt_F hn)).1 (by decide) rfl
      exact R
    · skip
      replace R := (R.iload (pc' := 146) (v := (Int32.ofNat F.length)) at_144 rfl rfl).ifY (pc' := 166) at_146 (flt hc).2.2.2 (by decide) rfl
      exact R
  replace R : Rc C room_1 "provento/files/CsvRowRefusePinLaw" code maxLocals Z n0 35 2982 189 #[.val (.int i0), .val (.int i1), .val (.int i2), .val (.int i3), .val (.ref r1), .val (.ref r2), .val (.ref b3), .val (.ref r22), .val (.ref m22), .val (.int (Int32.ofNat F.length)), .val (.int (Int32.ofNat R'.length)), .val (.int (Int32.ofNat (txt F R' i1).length))] [] h27 (b4 :: b3 :: r2 :: r1 :: Ds) := by
    by_cases hc : (1 : Int32) < (Int32.ofNat F.length)
    · have hn : 1 < F.length := own_ltI (k := 1) (by omega) (by omega) hc
      replace R := ((((R.iload (pc' := 168) (v := (Int32.ofNat F.length)) at_166 rfl rfl).iconst (pc' := 169) (z := (1 : Int32)) at_168 rfl rfl).icmpN (pc' := 172) at_169 (tlt hc).2.2.2 rfl).aload (pc' := 174) (v := (.ref m22)) at_172 rfl rfl rfl).iconst (pc' := 175) (z := (1 : Int32)) at_174 rfl rfl
      replace R := own_pure (R.callV (pc' := 178) (y := (⟨"java/lang/String", "charAt", "(I)C"⟩ : MethodName)) (z := (⟨"java/lang/String", "charAt", "(I)C"⟩ : MethodName)) (argsL := [(.int (1 : Int32))]) (rest := []) (W := 0) (w282 hw) (w283 hw) (fun s' hZ' => notFace_of_selects (args := #[]) (mvT hZ' (w285 hw))) (w285 hw) (w284 hw) (w6 hw) (w286 hw) (by decide) Y_m.1 (rm_charAt C.l Z a0 hw m22 (1 : Int32) h27 n0 (b4 :: b3 :: r2 :: r1 :: Ds) own_cs own_si (k := 1) rfl (by omega) Y_m) rfl (lenOf pd35 rfl) rfl rfl at_175 (by decide) (by decide) (by decide) (by decide) rfl)
      replace R := (R.aload (pc' := 180) (v := (.ref r1)) at_178 rfl rfl rfl).iconst (pc' := 181) (z := (1 : Int32)) at_180 rfl rfl
      replace R := own_pure (R.callV (pc' := 184) (y := (⟨"java/lang/String", "charAt", "(I)C"⟩ : MethodName)) (z := (⟨"java/lang/String", "charAt", "(I)C"⟩ : MethodName)) (argsL := [(.int (1 : Int32))]) (rest := [(.int ((txt F R' i1).getD 1 0))]) (W := 1) (w282 hw) (w283 hw) (fun s' hZ' => notFace_of_selects (args := #[]) (mvT hZ' (w285 hw))) (w285 hw) (w284 hw) (w6 hw) (w286 hw) (by decide) Y_f.1 (rm_charAt C.l Z a0 hw r1 (1 : Int32) h27 n0 (b4 :: b3 :: r2 :: r1 :: Ds) own_cs own_si (k := 1) rfl hn Y_f) rfl (lenOf pd35 rfl) rfl rfl at_181 (by decide) (by decide) (by decide) (by decide) rfl)
      replace R := R.icmpY (pc' := 189) at_184 (teq (txt_F hn)).1 (by decide) rfl
      exact R
    · skip
      replace R := ((R.iload (pc' := 168) (v := (Int32.ofNat F.length)) at_166 rfl rfl).iconst (pc' := 169) (z := (1 : Int32)) at_168 rfl rfl).icmpY (pc' := 189) at_169 (flt hc).2.2.2 (by decide) rfl
      exact R
  replace R := (R.aload (pc' := 191) (v := (.ref m22)) at_189 rfl rfl rfl).iload (pc' := 193) (v := (Int32.ofNat F.length)) at_191 rfl rfl
  replace R := own_pure (R.callV (pc' := 196) (y := (⟨"java/lang/String", "charAt", "(I)C"⟩ : MethodName)) (z := (⟨"java/lang/String", "charAt", "(I)C"⟩ : MethodName)) (argsL := [(.int (Int32.ofNat F.length))]) (rest := []) (W := 0) (w282 hw) (w283 hw) (fun s' hZ' => notFace_of_selects (args := #[]) (mvT hZ' (w285 hw))) (w285 hw) (w284 hw) (w6 hw) (w286 hw) (by decide) Y_m.1 (rm_charAt C.l Z a0 hw m22 (Int32.ofNat F.length) h27 n0 (b4 :: b3 :: r2 :: r1 :: Ds) own_cs own_si (k := F.length) rfl (by omega) Y_m) rfl (lenOf pd35 rfl) rfl rfl at_193 (by decide) (by decide) (by decide) (by decide) rfl)
  replace R := (R.bipush (pc' := 198) (z := (58 : Int32)) at_196 rfl rfl).icmpY (pc' := 203) at_198 (teq (txt_c1 F R' i1)).1 (by decide) rfl
  replace R : Rc C room_1 "provento/files/CsvRowRefusePinLaw" code maxLocals Z n0 35 2982 236 #[.val (.int i0), .val (.int i1), .val (.int i2), .val (.int i3), .val (.ref r1), .val (.ref r2), .val (.ref b3), .val (.ref r22), .val (.ref m22), .val (.int (Int32.ofNat F.length)), .val (.int (Int32.ofNat R'.length)), .val (.int (Int32.ofNat (txt F R' i1).length))] [] h27 (b4 :: b3 :: r2 :: r1 :: Ds) := by
    by_cases hi : i1 < (0 : Int32)
    · skip
      replace R := (((R.aload (pc' := 205) (v := (.ref m22)) at_203 rfl rfl rfl).iload (pc' := 207) (v := (Int32.ofNat F.length)) at_205 rfl rfl).iconst (pc' := 208) (z := (1 : Int32)) at_207 rfl rfl).iadd (pc' := 209) at_208 rfl
      replace R := own_pure (R.callV (pc' := 212) (y := (⟨"java/lang/String", "charAt", "(I)C"⟩ : MethodName)) (z := (⟨"java/lang/String", "charAt", "(I)C"⟩ : MethodName)) (argsL := [(.int ((Int32.ofNat F.length) + (1 : Int32)))]) (rest := []) (W := 0) (w282 hw) (w283 hw) (fun s' hZ' => notFace_of_selects (args := #[]) (mvT hZ' (w285 hw))) (w285 hw) (w284 hw) (w6 hw) (w286 hw) (by decide) Y_m.1 (rm_charAt C.l Z a0 hw m22 ((Int32.ofNat F.length) + (1 : Int32)) h27 n0 (b4 :: b3 :: r2 :: r1 :: Ds) own_cs own_si (k := (F.length + 1)) (own_addc (c := 1) (by omega)) (by omega) Y_m) rfl (lenOf pd35 rfl) rfl rfl at_209 (by decide) (by decide) (by decide) (by decide) rfl)
      replace R := (((((R.bipush (pc' := 214) (z := (45 : Int32)) at_212 rfl rfl).icmpN (pc' := 217) at_214 (teq (txt_minus hi)).2 rfl).iconst (pc' := 218) (z := (1 : Int32)) at_217 rfl rfl).goto (pc' := 222) at_218 (by decide) rfl).iloadN (pc' := 223) (v := i1) at_222 rfl rfl).ifN (pc' := 226) at_223 (tlt hi).2.1 rfl
      replace R := ((R.iconst (pc' := 227) (z := (1 : Int32)) at_226 rfl rfl).goto (pc' := 231) at_227 (by decide) rfl).icmpY (pc' := 236) at_231 (teq (by decide : (1 : Int32) = (1 : Int32))).1 (by decide) rfl
      exact R
    · skip
      replace R := (((R.aload (pc' := 205) (v := (.ref m22)) at_203 rfl rfl rfl).iload (pc' := 207) (v := (Int32.ofNat F.length)) at_205 rfl rfl).iconst (pc' := 208) (z := (1 : Int32)) at_207 rfl rfl).iadd (pc' := 209) at_208 rfl
      replace R := own_pure (R.callV (pc' := 212) (y := (⟨"java/lang/String", "charAt", "(I)C"⟩ : MethodName)) (z := (⟨"java/lang/String", "charAt", "(I)C"⟩ : MethodName)) (argsL := [(.int ((Int32.ofNat F.length) + (1 : Int32)))]) (rest := []) (W := 0) (w282 hw) (w283 hw) (fun s' hZ' => notFace_of_selects (args := #[]) (mvT hZ' (w285 hw))) (w285 hw) (w284 hw) (w6 hw) (w286 hw) (by decide) Y_m.1 (rm_charAt C.l Z a0 hw m22 ((Int32.ofNat F.length) + (1 : Int32)) h27 n0 (b4 :: b3 :: r2 :: r1 :: Ds) own_cs own_si (k := (F.length + 1)) (own_addc (c := 1) (by omega)) (by omega) Y_m) rfl (lenOf pd35 rfl) rfl rfl at_209 (by decide) (by decide) (by decide) (by decide) rfl)
      replace R := (((((R.bipush (pc' := 214) (z := (45 : Int32)) at_212 rfl rfl).icmpY (pc' := 221) at_214 (feq (txt_plus hi)).2 (by decide) rfl).iconst (pc' := 222) (z := (0 : Int32)) at_221 rfl rfl).iloadN (pc' := 223) (v := i1) at_222 rfl rfl).ifY (pc' := 230) at_223 (flt hi).2.1 (by decide) rfl).iconst (pc' := 231) (z := (0 : Int32)) at_230 rfl rfl
      replace R := R.icmpY (pc' := 236) at_231 (teq (by decide : (0 : Int32) = (0 : Int32))).1 (by decide) rfl
      exact R
  replace R := (((((R.aload (pc' := 238) (v := (.ref m22)) at_236 rfl rfl rfl).iload (pc' := 240) (v := (Int32.ofNat (txt F R' i1).length)) at_238 rfl rfl).iload (pc' := 242) (v := (Int32.ofNat R'.length)) at_240 rfl rfl).isub (pc' := 243) at_242 rfl).iconst (pc' := 244) (z := (3 : Int32)) at_243 rfl rfl).isub (pc' := 245) at_244 rfl
  replace R := own_pure (R.callV (pc' := 248) (y := (⟨"java/lang/String", "charAt", "(I)C"⟩ : MethodName)) (z := (⟨"java/lang/String", "charAt", "(I)C"⟩ : MethodName)) (argsL := [(.int (((Int32.ofNat (txt F R' i1).length) - (Int32.ofNat R'.length)) - (3 : Int32)))]) (rest := []) (W := 0) (w282 hw) (w283 hw) (fun s' hZ' => notFace_of_selects (args := #[]) (mvT hZ' (w285 hw))) (w285 hw) (w284 hw) (w6 hw) (w286 hw) (by decide) Y_m.1 (rm_charAt C.l Z a0 hw m22 (((Int32.ofNat (txt F R' i1).length) - (Int32.ofNat R'.length)) - (3 : Int32)) h27 n0 (b4 :: b3 :: r2 :: r1 :: Ds) own_cs own_si (k := (F.length + (dec i1).length)) (ix3 (c := 3) (by omega) (by omega)) (by omega) Y_m) rfl (lenOf pd35 rfl) rfl rfl at_245 (by decide) (by decide) (by decide) (by decide) rfl)
  replace R := (((R.bipush (pc' := 250) (z := (48 : Int32)) at_248 rfl rfl).iloadN (pc' := 251) (v := i1) at_250 rfl rfl).bipush (pc' := 253) (z := (10 : Int32)) at_251 rfl rfl).irem (pc' := 254) at_253 (by decide) rfl
  replace R := own_pure (R.callS (pc' := 257) (argsL := [(.int (i1 % (10 : Int32)))]) (rest := [(.int (48 : Int32)), (.int ((txt F R' i1).getD (F.length + (dec i1).length) 0))]) (W := 2) (w303 hw) (w304 hw) (w208 hw) (w305 hw) (by decide) (rm_absI C.l Z a0 hw (i1 % (10 : Int32)) h27 n0 (b4 :: b3 :: r2 :: r1 :: Ds)) rfl (lenOf pd9 rfl) rfl rfl at_254 (by decide) (by decide) (by decide) (by decide) rfl)
  replace R := (((((R.iadd (pc' := 258) at_257 rfl).i2c (pc' := 259) at_258 rfl).icmpY (pc' := 264) at_259 (teq ((txt_last F R' i1).trans (last10 i1).symm)).1 (by decide) rfl).aload (pc' := 266) (v := (.ref m22)) at_264 rfl rfl rfl).iload (pc' := 268) (v := (Int32.ofNat (txt F R' i1).length)) at_266 rfl rfl).iload (pc' := 270) (v := (Int32.ofNat R'.length)) at_268 rfl rfl
  replace R := ((R.isub (pc' := 271) at_270 rfl).iconst (pc' := 272) (z := (2 : Int32)) at_271 rfl rfl).isub (pc' := 273) at_272 rfl
  replace R := own_pure (R.callV (pc' := 276) (y := (⟨"java/lang/String", "charAt", "(I)C"⟩ : MethodName)) (z := (⟨"java/lang/String", "charAt", "(I)C"⟩ : MethodName)) (argsL := [(.int (((Int32.ofNat (txt F R' i1).length) - (Int32.ofNat R'.length)) - (2 : Int32)))]) (rest := []) (W := 0) (w282 hw) (w283 hw) (fun s' hZ' => notFace_of_selects (args := #[]) (mvT hZ' (w285 hw))) (w285 hw) (w284 hw) (w6 hw) (w286 hw) (by decide) Y_m.1 (rm_charAt C.l Z a0 hw m22 (((Int32.ofNat (txt F R' i1).length) - (Int32.ofNat R'.length)) - (2 : Int32)) h27 n0 (b4 :: b3 :: r2 :: r1 :: Ds) own_cs own_si (k := (F.length + 1 + (dec i1).length)) (ix3 (c := 2) (by omega) (by omega)) (by omega) Y_m) rfl (lenOf pd35 rfl) rfl rfl at_273 (by decide) (by decide) (by decide) (by decide) rfl)
  replace R := (((((R.bipush (pc' := 278) (z := (58 : Int32)) at_276 rfl rfl).icmpN (pc' := 281) at_278 (teq (txt_c2 F R' i1)).2 rfl).aload (pc' := 283) (v := (.ref m22)) at_281 rfl rfl rfl).iload (pc' := 285) (v := (Int32.ofNat (txt F R' i1).length)) at_283 rfl rfl).iload (pc' := 287) (v := (Int32.ofNat R'.length)) at_285 rfl rfl).isub (pc' := 288) at_287 rfl
  replace R := (R.iconst (pc' := 289) (z := (1 : Int32)) at_288 rfl rfl).isub (pc' := 290) at_289 rfl
  replace R := own_pure (R.callV (pc' := 293) (y := (⟨"java/lang/String", "charAt", "(I)C"⟩ : MethodName)) (z := (⟨"java/lang/String", "charAt", "(I)C"⟩ : MethodName)) (argsL := [(.int (((Int32.ofNat (txt F R' i1).length) - (Int32.ofNat R'.length)) - (1 : Int32)))]) (rest := []) (W := 0) (w282 hw) (w283 hw) (fun s' hZ' => notFace_of_selects (args := #[]) (mvT hZ' (w285 hw))) (w285 hw) (w284 hw) (w6 hw) (w286 hw) (by decide) Y_m.1 (rm_charAt C.l Z a0 hw m22 (((Int32.ofNat (txt F R' i1).length) - (Int32.ofNat R'.length)) - (1 : Int32)) h27 n0 (b4 :: b3 :: r2 :: r1 :: Ds) own_cs own_si (k := (F.length + 1 + (dec i1).length + 1)) (ix3 (c := 1) (by omega) (by omega)) (by omega) Y_m) rfl (lenOf pd35 rfl) rfl rfl at_290 (by decide) (by decide) (by decide) (by decide) rfl)
  replace R := (R.bipush (pc' := 295) (z := (32 : Int32)) at_293 rfl rfl).icmpY (pc' := 300) at_295 (teq (txt_sp F R' i1)).1 (by decide) rfl
  replace R : Rc C room_1 "provento/files/CsvRowRefusePinLaw" code maxLocals Z n0 35 2982 326 #[.val (.int i0), .val (.int i1), .val (.int i2), .val (.int i3), .val (.ref r1), .val (.ref r2), .val (.ref b3), .val (.ref r22), .val (.ref m22), .val (.int (Int32.ofNat F.length)), .val (.int (Int32.ofNat R'.length)), .val (.int (Int32.ofNat (txt F R' i1).length))] [] h27 (b4 :: b3 :: r2 :: r1 :: Ds) := by
    by_cases hc : (0 : Int32) < (Int32.ofNat R'.length)
    · have hn : 0 < R'.length := own_ltI (k := 0) (by omega) (by omega) hc
      replace R := (((((R.iload (pc' := 302) (v := (Int32.ofNat R'.length)) at_300 rfl rfl).ifN (pc' := 305) at_302 (tlt hc).2.2.2 rfl).aload (pc' := 307) (v := (.ref m22)) at_305 rfl rfl rfl).iload (pc' := 309) (v := (Int32.ofNat (txt F R' i1).length)) at_307 rfl rfl).iload (pc' := 311) (v := (Int32.ofNat R'.length)) at_309 rfl rfl).isub (pc' := 312) at_311 rfl
      replace R := own_pure (R.callV (pc' := 315) (y := (⟨"java/lang/String", "charAt", "(I)C"⟩ : MethodName)) (z := (⟨"java/lang/String", "charAt", "(I)C"⟩ : MethodName)) (argsL := [(.int ((Int32.ofNat (txt F R' i1).length) - (Int32.ofNat R'.length)))]) (rest := []) (W := 0) (w282 hw) (w283 hw) (fun s' hZ' => notFace_of_selects (args := #[]) (mvT hZ' (w285 hw))) (w285 hw) (w284 hw) (w6 hw) (w286 hw) (by decide) Y_m.1 (rm_charAt C.l Z a0 hw m22 ((Int32.ofNat (txt F R' i1).length) - (Int32.ofNat R'.length)) h27 n0 (b4 :: b3 :: r2 :: r1 :: Ds) own_cs own_si (k := (F.length + 1 + (dec i1).length + 2 + 0)) (ix2 (by omega) (by omega)) (by omega) Y_m) rfl (lenOf pd35 rfl) rfl rfl at_312 (by decide) (by decide) (by decide) (by decide) rfl)
      replace R := (R.aload (pc' := 317) (v := (.ref r2)) at_315 rfl rfl rfl).iconst (pc' := 318) (z := (0 : Int32)) at_317 rfl rfl
      replace R := own_pure (R.callV (pc' := 321) (y := (⟨"java/lang/String", "charAt", "(I)C"⟩ : MethodName)) (z := (⟨"java/lang/String", "charAt", "(I)C"⟩ : MethodName)) (argsL := [(.int (0 : Int32))]) (rest := [(.int ((txt F R' i1).getD (F.length + 1 + (dec i1).length + 2 + 0) 0))]) (W := 1) (w282 hw) (w283 hw) (fun s' hZ' => notFace_of_selects (args := #[]) (mvT hZ' (w285 hw))) (w285 hw) (w284 hw) (w6 hw) (w286 hw) (by decide) Y_s.1 (rm_charAt C.l Z a0 hw r2 (0 : Int32) h27 n0 (b4 :: b3 :: r2 :: r1 :: Ds) own_cs own_si (k := 0) rfl hn Y_s) rfl (lenOf pd35 rfl) rfl rfl at_318 (by decide) (by decide) (by decide) (by decide) rfl)
      replace R := R.icmpY (pc' := 326) at_321 (teq (txt_R F R' i1 0)).1 (by decide) rfl
      exact R
    · skip
      replace R := (R.iload (pc' := 302) (v := (Int32.ofNat R'.length)) at_300 rfl rfl).ifY (pc' := 326) at_302 (flt hc).2.2.2 (by decide) rfl
      exact R
  replace R : Rc C room_1 "provento/files/CsvRowRefusePinLaw" code maxLocals Z n0 35 2982 352 #[.val (.int i0), .val (.int i1), .val (.int i2), .val (.int i3), .val (.ref r1), .val (.ref r2), .val (.ref b3), .val (.ref r22), .val (.ref m22), .val (.int (Int32.ofNat F.length)), .val (.int (Int32.ofNat R'.length)), .val (.int (Int32.ofNat (txt F R' i1).length))] [] h27 (b4 :: b3 :: r2 :: r1 :: Ds) := by
    by_cases hc : (1 : Int32) < (Int32.ofNat R'.length)
    · have hn : 1 < R'.length := own_ltI (k := 1) (by omega) (by omega) hc
      replace R := (((((R.iload (pc' := 328) (v := (Int32.ofNat R'.length)) at_326 rfl rfl).iconst (pc' := 329) (z := (1 : Int32)) at_328 rfl rfl).icmpN (pc' := 332) at_329 (tlt hc).2.2.2 rfl).aload (pc' := 334) (v := (.ref m22)) at_332 rfl rfl rfl).iload (pc' := 336) (v := (Int32.ofNat (txt F R' i1).length)) at_334 rfl rfl).iconst (pc' := 337) (z := (1 : Int32)) at_336 rfl rfl
      replace R := R.isub (pc' := 338) at_337 rfl
      replace R := own_pure (R.callV (pc' := 341) (y := (⟨"java/lang/String", "charAt", "(I)C"⟩ : MethodName)) (z := (⟨"java/lang/String", "charAt", "(I)C"⟩ : MethodName)) (argsL := [(.int ((Int32.ofNat (txt F R' i1).length) - (1 : Int32)))]) (rest := []) (W := 0) (w282 hw) (w283 hw) (fun s' hZ' => notFace_of_selects (args := #[]) (mvT hZ' (w285 hw))) (w285 hw) (w284 hw) (w6 hw) (w286 hw) (by decide) Y_m.1 (rm_charAt C.l Z a0 hw m22 ((Int32.ofNat (txt F R' i1).length) - (1 : Int32)) h27 n0 (b4 :: b3 :: r2 :: r1 :: Ds) own_cs own_si (k := (F.length + 1 + (dec i1).length + 2 + 1)) (ix2 (B := 1) (by omega) (by omega)) (by omega) Y_m) rfl (lenOf pd35 rfl) rfl rfl at_338 (by decide) (by decide) (by decide) (by decide) rfl)
      replace R := (R.aload (pc' := 343) (v := (.ref r2)) at_341 rfl rfl rfl).iconst (pc' := 344) (z := (1 : Int32)) at_343 rfl rfl
      replace R := own_pure (R.callV (pc' := 347) (y := (⟨"java/lang/String", "charAt", "(I)C"⟩ : MethodName)) (z := (⟨"java/lang/String", "charAt", "(I)C"⟩ : MethodName)) (argsL := [(.int (1 : Int32))]) (rest := [(.int ((txt F R' i1).getD (F.length + 1 + (dec i1).length + 2 + 1) 0))]) (W := 1) (w282 hw) (w283 hw) (fun s' hZ' => notFace_of_selects (args := #[]) (mvT hZ' (w285 hw))) (w285 hw) (w284 hw) (w6 hw) (w286 hw) (by decide) Y_s.1 (rm_charAt C.l Z a0 hw r2 (1 : Int32) h27 n0 (b4 :: b3 :: r2 :: r1 :: Ds) own_cs own_si (k := 1) rfl hn Y_s) rfl (lenOf pd35 rfl) rfl rfl at_344 (by decide) (by decide) (by decide) (by decide) rfl)
      replace R := R.icmpY (pc' := 352) at_347 (teq (txt_R F R' i1 1)).1 (by decide) rfl
      exact R
    · skip
      replace R := ((R.iload (pc' := 328) (v := (Int32.ofNat R'.length)) at_326 rfl rfl).iconst (pc' := 329) (z := (1 : Int32)) at_328 rfl rfl).icmpY (pc' := 352) at_329 (flt hc).2.2.2 (by decide) rfl
      exact R
  replace R := R.iconst (pc' := 353) (z := (1 : Int32)) at_352 rfl rfl
  exact R.retN (Ds' := []) hret (by simp) (show nar .boolean 1 = 1 from rfl) at_353 (by decide) (by decide) (fun _ q => nomatch q) rfl
theorem own_digit {s : State} {args : Array Value} (hfit : Fit s) (wac : (Jvm.Cond.arrayClass .byte).before args s = true) {t u : Term} {o : Addr} (ht : ∀ idx, t.eval args s none idx s = some (.ref o)) (hx : (Jvm.Cond.exactly t "[B").before args s = true) (hl : (Jvm.Cond.eq (.length t) (.int 100)).before args s = true)
    (hall : (Jvm.Cond.all t (Jvm.Cond.eq (.elem t (.index 0)) u)).before args s = true) {fn : Nat → Int32} (hu : ∀ i, i < 100 → u.eval args s none [i] s = some (.int (fn i))) {L : List Value} (hL : ∀ i, i < 100 → L.getD i (.int 0) = .int (fn i)) : ∃ k, Arv s s.heap o k .byte (100 : Int32) L (.int 0) := by
  obtain ⟨cell, kc, e1, e2, e3, e4, -⟩ := Exa.start (ht []) (Cond.before_iff.mp hx)
  obtain ⟨c0, k0, comp, a1, a2, a3⟩ := Cond.arrayClass_spec wac
  cases e2.symm.trans (show s.vm.findClass "[B" = some c0 from a1)
  cases e3.symm.trans a2
  have el := g_int (Cond.before_iff.mp hl)
  obtain ⟨c1, hA⟩ : ∃ c1, s.arrayAt? o = some c1 := by
    cases q : s.arrayAt? o with
    | none => simp [Term.eval, ht, q] at el
    | some c1 => exact ⟨c1, rfl⟩
  have hA' := hA
  simp only [State.arrayAt?, e1, e3, a3, Option.bind_eq_bind, Option.bind_some] at hA'
  split at hA'
  · cases hA'
  · rename_i hv
    cases hA'
    have hvu : cell.vm ≠ .unknown := fun z => hv (Or.inl z)
    have A : Arr s s.heap o cell .byte := ⟨e1, ⟨fun k z => (by rw [z] at e4; cases e4), kc, e3, comp, a3⟩, hvu⟩
    obtain ⟨q1, q2⟩ := g_len el (ht []) A
    have S : cell.slots.size = 100 := by
      have z := congrArg Int32.toInt q2
      rw [len_toInt q1] at z
      have e : (100 : Int32).toInt = 100 := rfl
      omega
    have hel : ∀ i, i < 100 → cell.slots[i]? = some (.int (fn i)) := fun i hi => by
      have v := Cond.all_elim (ht []) hA (Cond.before_iff.mp hall) i (by omega)
      have w := Cond.eq_int (beq_iff_eq.mpr v : (Jvm.Cond.eq (.elem t (.index 0)) u).holds args s none s [i] = true) (hu i hi)
      have hn : ¬ i.toInt32 < 0 := by
        rw [Int32.lt_iff_toInt_lt, len_toInt (by omega)]; have e0 : (0 : Int32).toInt = 0 := rfl; omega
      have hc : i.toInt32.toNatClampNeg = i := by simp only [Int32.toNatClampNeg, len_toInt (show i < 2 ^ 31 by omega)]; rfl
      simpa [Term.eval, ht, hA, hn, hc] using w
    refine ⟨cell.cls, cell, A, rfl, S, by decide, fun i hi => ?_, fun i hi => ?_⟩
    · rw [hel i (by omega), hL i (by omega)]
    · have e1' : (Nat.toInt32 i).toNatClampNeg = i := by simp only [Int32.toNatClampNeg, len_toInt (show i < 2 ^ 31 by omega)]; rfl
      exact elem_fits (j := Nat.toInt32 i) hfit A (idx_in hi q1) (by rw [e1', hel i (by omega), hL i (by omega)])
theorem own_dgo {s : State} {args : Array Value} (i : Nat) (hi : i < 100) : (Term.add (.int (48 : Int32)) (.rem (.index 0) (.int (10 : Int32)))).eval args s none [i] s = some (.int (Int32.ofNat (48 + i % 10))) := by
  have t : ∀ d : Fin 100, (48 : Int32) + (Int32.ofNat d.val) % (10 : Int32) = Int32.ofNat (48 + d.val % 10) := by decide +kernel
  have q := t ⟨i, hi⟩
  simp only [Term.eval, List.getElem?_cons_zero, Option.map_some, Option.bind_eq_bind, Option.bind_some, if_neg (show ¬ (10 : Int32) = 0 by decide)]
  exact congrArg (fun z => some (Value.int z)) q
theorem own_dgd {s : State} {args : Array Value} (i : Nat) (hi : i < 100) : (Term.add (.int (48 : Int32)) (.div (.index 0) (.int (10 : Int32)))).eval args s none [i] s = some (.int (Int32.ofNat (48 + i / 10))) := by
  have t : ∀ d : Fin 100, (48 : Int32) + (Int32.ofNat d.val) / (10 : Int32) = Int32.ofNat (48 + d.val / 10) := by decide +kernel
  have q := t ⟨i, hi⟩
  simp only [Term.eval, List.getElem?_cons_zero, Option.map_some, Option.bind_eq_bind, Option.bind_some, if_neg (show ¬ (10 : Int32) = 0 by decide)]
  exact congrArg (fun z => some (Value.int z)) q

set_option maxRecDepth 65536 in
set_option maxHeartbeats 40000000 in
theorem comes_1 {Post : Tables → Env → Array Value → State → Outcome → State → Prop} (hpost : ∀ tb e args s v u, (limb_1_1.after args s (.returned v) u = true ∧ limb_1_2.after args s (.returned v) u = true ∧ True) → ReturnedEndW s (.returned v) u (Jvm.fieldLocs frame_1_writes args s ++ Jvm.arrayLocs frame_1_arrays args s ++ Jvm.staticLocs frame_1_statics s) 56 9024 → Post tb e args s (.returned v) u) :
    ArmFor flags0 classFile x code maxLocals ret World_1 tables_1 room_1 Calls_1 rest_1 Pre_1 Post := by
  intro l hfl _ _ p e ha hc hk s m args below hf hA hF happ hP
  obtain ⟨hcalls, hrest, hpre⟩ := hP
  obtain ⟨-, -, -, hnamed, -, -, -, hat⟩ := (Spec.applies_iff hf).mp happ
  obtain ⟨hg, hn⟩ := and_e (Cond.before_iff.mp (show (Jvm.Cond.and given_1 narrow_1).before args s = true from hpre))
  obtain ⟨g1, g2⟩ := and_e hg
  obtain ⟨g3, g4⟩ := and_e g2
  obtain ⟨g5, g6⟩ := and_e g4
  obtain ⟨g7, g8⟩ := and_e g6
  obtain ⟨w0, w1, w2, w3, rfl⟩ : ∃ w0 w1 w2 w3 : Value, args = #[w0, w1, w2, w3] := by
    have hs : args.size = 4 := by simpa [Cond.value, given_1] using g1
    obtain ⟨L⟩ := args
    match L, hs with
    | [w0, w1, w2, w3], _ => exact ⟨w0, w1, w2, w3, rfl⟩
  have hw := fun d (hd : d ∈ tables_1) => atoms_spec (ws := Jvm.Cond.code x code maxLocals ret :: tables_1) hat d (List.mem_cons_of_mem _ hd)
  have hfit : Fit s := fun {y c} hc i hi => by
    obtain ⟨ha, rfl⟩ := Array.getElem?_eq_some_iff.mp hc
    have q := List.all_eq_true.mp ((Array.all_eq_true_iff_forall_mem.mp hF) _ (Array.getElem_mem ha)) i (List.mem_range.mpr hi)
    simpa [Array.getElem?_eq_getElem hi] using q
  obtain ⟨hsets, hown0⟩ := atoms_of _ (rest_1_c_eq ▸ (show rest_1_c.before _ s = true from hrest))
  have hr0 := Cond.before_iff.mp hown0
  have own_cs : CompactOn s := by
    have n3 := not_v (Cond.before_iff.mp (hsets _ (List.mem_of_getElem? (i := 2) rfl)))
    obtain ⟨i7, e6⟩ := is_v (Cond.before_iff.mp (hsets _ (List.mem_of_getElem? (i := 1) rfl)))
    refine ⟨i7, Sta.start e6 (Or.inl (hsets _ (List.mem_of_getElem? (i := 0) rfl))), fun e0 => ?_⟩
    subst e0
    have q := eq_i e6 (Term.int_eval (0 : Int32)) rfl
    rw [q] at n3; cases n3
  have own_si : SiooOk s := by
    obtain ⟨v9, e10, r11⟩ := isR_v (Cond.before_iff.mp (hsets _ (List.mem_of_getElem? (i := 8) rfl)))
    exact ⟨v9, Sta.start e10 (Or.inl (hsets _ (List.mem_of_getElem? (i := 7) rfl))), r11⟩
  obtain ⟨i0, ei0⟩ := is_v g3
  obtain rfl : w0 = (.int i0) := Option.some.inj ei0
  obtain ⟨i1, ei1⟩ := is_v g5
  obtain rfl : w1 = (.int i1) := Option.some.inj ei1
  obtain ⟨i2, ei2⟩ := is_v g7
  obtain rfl : w2 = (.int i2) := Option.some.inj ei2
  obtain ⟨i3, ei3⟩ := is_v g8
  obtain rfl : w3 = (.int i3) := Option.some.inj ei3
  have hcw : Jvm.Lit.compactW.before (#[(.int i0), (.int i1), (.int i2), (.int i3)] : Array Value) s = true := (hsets _ (List.mem_of_getElem? (i := 2) rfl))
  have wS : ∀ d ∈ Bundle.stringAtoms, d.before _ s = true := fun d hd => hw d ((by decide +kernel : ∀ d ∈ Bundle.stringAtoms, d ∈ tables_1) d hd)
  have hlk : Lk s := by
    intro own idx hm
    simp only [CL, consts_1, List.mem_cons, List.not_mem_nil, or_false, Prod.mk.injEq] at hm
    rcases hm with ⟨rfl, rfl⟩ | ⟨rfl, rfl⟩ | ⟨rfl, rfl⟩
    · exact ⟨_, _, (w38 hw), by decide +kernel, wS⟩
    · exact ⟨_, _, (w169 hw), by decide +kernel, wS⟩
    · exact ⟨_, _, (w146 hw), by decide +kernel, wS⟩
  have hlit : ∀ (own : String) (idx : Nat), (own, idx) ∈ CL → ConstHeldL s own idx := by
    intro own idx hm
    have hh : Jvm.Lit.constHeld s own idx := hcalls.2.2.1 (own, idx) hm
    have wi := wS _ (List.mem_of_getElem? (i := 1) rfl)
    have wa := wS _ (List.mem_of_getElem? (i := 2) rfl)
    simp only [CL, consts_1, List.mem_cons, List.not_mem_nil, or_false, Prod.mk.injEq] at hm
    rcases hm with ⟨rfl, rfl⟩ | ⟨rfl, rfl⟩ | ⟨rfl, rfl⟩
    · exact heldStart hh (w38 hw) (by decide +kernel) hcw wa wi
    · exact heldStart hh (w169 hw) (by decide +kernel) hcw wa wi
    · exact heldStart hh (w146 hw) (by decide +kernel) hcw wa wi
  obtain ⟨aDigitOnes, eDigitOnes⟩ := exa_v (Cond.before_iff.mp (hsets _ (List.mem_of_getElem? (i := 12) rfl)))
  have SDigitOnes : Sta s s.heap "java/lang/Integer" "DigitOnes" "[B" (.ref aDigitOnes) := Sta.start eDigitOnes (Or.inl (hsets _ (List.mem_of_getElem? (i := 11) rfl)))
  obtain ⟨kDigitOnes, VDigitOnes⟩ := own_digit hfit (w18 hw) (t := Term.static "java/lang/Integer" "DigitOnes" "[B") (fun _ => eDigitOnes) (hsets _ (List.mem_of_getElem? (i := 12) rfl)) (hsets _ (List.mem_of_getElem? (i := 13) rfl)) (hsets _ (List.mem_of_getElem? (i := 14) rfl)) (fun i hi => own_dgo i hi) (L := onesL) (fun i hi => ones_at hi)
  obtain ⟨aDigitTens, eDigitTens⟩ := exa_v (Cond.before_iff.mp (hsets _ (List.mem_of_getElem? (i := 17) rfl)))
  have SDigitTens : Sta s s.heap "java/lang/Integer" "DigitTens" "[B" (.ref aDigitTens) := Sta.start eDigitTens (Or.inl (hsets _ (List.mem_of_getElem? (i := 16) rfl)))
  obtain ⟨kDigitTens, VDigitTens⟩ := own_digit hfit (w18 hw) (t := Term.static "java/lang/Integer" "DigitTens" "[B") (fun _ => eDigitTens) (hsets _ (List.mem_of_getElem? (i := 17) rfl)) (hsets _ (List.mem_of_getElem? (i := 18) rfl)) (hsets _ (List.mem_of_getElem? (i := 19) rfl)) (fun i hi => own_dgd i hi) (L := tensL) (fun i hi => tens_at hi)
  have own_dg : DgOk s := ⟨_, _, _, _, SDigitOnes, VDigitOnes, SDigitTens, VDigitTens⟩
  obtain ⟨au, eau⟩ := arr_v (Cond.before_iff.mp (hsets _ (List.mem_of_getElem? (i := 28) rfl)))
  have S_u : Sta s s.heap "java/lang/Throwable" "UNASSIGNED_STACK" "[Ljava/lang/StackTraceElement;" (.ref au) := Sta.start eau (Or.inl (hsets _ (List.mem_of_getElem? (i := 26) rfl)))
  obtain ⟨an, ean⟩ := exa_v (Cond.before_iff.mp (hsets _ (List.mem_of_getElem? (i := 33) rfl)))
  have S_n : Sta s s.heap "java/lang/Throwable" "SUPPRESSED_SENTINEL" "Ljava/util/List;" (.ref an) := Sta.start ean (Or.inl (hsets _ (List.mem_of_getElem? (i := 31) rfl)))
  have hst : l.stackTraces = true := by unfold Launch.stackTraces; rw [hfl]; decide
  have J0 : JJ s s.heap.size s.vm s.heap [] := ⟨Old.start s, fun e0 => (nomatch e0), fun x hx => (nomatch hx), hlk, fun own idx hm c k cf i units a q1 q2 q3 q4 q5 q6 => own_sx0 (hlit own idx hm c k cf i units a q1 q2 q3 q4 q5 q6)⟩
  obtain ⟨n, o, h1, h2, h3, v, L, Ds', rfl, hQ, hJ, hFr, hE⟩ := rm_law l s _ hw i0 i1 i2 i3 s.heap s.heap.size [] hst S_u S_n own_cs own_si own_dg p e ha hc hk s m _ below hf ((Spec.applies_iff_loose hf).mp happ).1 ⟨rfl, State.Warmed39.refl s, rfl, J0⟩ ⟨Jvm.MethodsKnown_of_tablesKnown hcalls.2.1, Jvm.FramesKnown_of_framesKnown hcalls.1 hf⟩
  subst hQ
  refine ⟨n, _, h1, h2, h3, hpost _ _ _ _ _ _ ⟨Cond.after_iff.mpr rfl, Cond.after_iff.mpr (eq_i res_at (Term.int_eval (1)) rfl), trivial⟩ ⟨hE.1, hE.2.1, hE.2.2.1, (hE.2.2.2.sift fun y hy => Or.inr (hFr y hy)).mono (by decide) (by decide)⟩⟩
theorem main_1_1 : Claimed_1_1 := comes_1 fun _ _ _ _ _ _ h hF => ⟨h.1, hF⟩
theorem main_1_2 : Claimed_1_2 := comes_1 fun _ _ _ _ _ _ h hF => ⟨h.2.1, hF⟩
end Jvm.Pilot.@@N@@
namespace Jvm.Pilot.@@N@@
open Jvm Jvm.ClassFile Sem Op Lib Jvm.Free Jvm.Stand Jvm.Pilot.@@N@@.Jvm.D
/-! MADE BY PROGRAM (witnessworld.py) out of the Statement's table words and the real class files: 46 classes; the members and pool entries that the words name. The judged class is class 1, her method 3. -/
namespace start1
open Jvm.ClassFile
def u (s : String) : CpInfo := .utf8 (stringToUtf16 s)
/-- a pool by its gaps: so many unusable entries, then the entry; so many at the end -/
def gap : Nat → List CpInfo → List CpInfo
  | 0, r => r
  | n + 1, r => .unusable :: gap n r
def poolList (es : List (Nat × CpInfo)) (last : Nat) : List CpInfo := es.foldr (fun e r => gap e.1 (e.2 :: r)) (gap last [])
def pool (es : List (Nat × CpInfo)) (last : Nat) : Array CpInfo := ⟨poolList es last⟩
def fileOf (pool : Array CpInfo) (this : Nat) (attrs : Array Attribute := #[]) (ms : Array MethodInfo := #[]) (fl : Nat := 33) (sup : Nat := 0) (ifs : Array Nat := #[]) (fds : Array FieldInfo := #[]) : ClassFile where
  minorVersion := 0
  majorVersion := 65
  constantPool := pool
  accessFlags := fl
  thisClass := this
  superClass := sup
  interfaces := ifs
  fields := fds
  methods := ms
  attributes := attrs
def plain (name : String) (sup : Option ClassId) : Class where
  name := name
  kind := .ordinary
  loader := none
  accessFlags := 33
  super := sup
  interfaces := #[]
  cf := none
  fields := #[]
  methods := #[]
  instanceTypes := #[]
  staticTypes := #[]
  resolved := #[]
  callSites := []
  init := .initialized
  statics := none
  mirror := none

def pool0 : Array CpInfo := pool [(5, u "<init>"), (0, u "()V"), (1, .class_ 10), (1, u "java/lang/Object"), (85, u "clone"), (0, u "()Ljava/lang/Object;")] 26

def k0c0 : Code := { maxStack := 0, maxLocals := 1, code := object_method_1_code, exceptionTable := #[], attributes := #[] }
def k0m0 : Method := { name := "<init>", desc := "()V", sig := { parameters := [], returnType := none }, accessFlags := 1, code := some k0c0 }
def k0m1 : Method := { name := "clone", desc := "()Ljava/lang/Object;", sig := { parameters := [], returnType := some (.object "java/lang/Object") }, accessFlags := 260, code := none }
/-- java/lang/Object -/
def k0 : Class := { plain "java/lang/Object" none with
  accessFlags := 33
  interfaces := #[]
  cf := some (fileOf pool0 8 #[] #[{ accessFlags := 1, nameIndex := 5, descriptorIndex := 6, attributes := #[] }, { accessFlags := 260, nameIndex := 96, descriptorIndex := 97, attributes := #[] }] 33 0 #[] #[])
  fields := #[]
  methods := #[k0m0, k0m1]
  instanceTypes := #[]
  staticTypes := #[]
  resolved := Array.replicate 124 none
  statics := none }

def pool1 : Array CpInfo := pool [(2, .class_ 4), (1, u "java/lang/Object"), (0, u "<init>"), (0, u "()V"), (0, .class_ 8), (0, u "java/lang/String"), (0, .methodref 7 10), (0, .nameAndType 5 11), (0, u "([C)V"), (0, .methodref 7 13), (0, .nameAndType 14 15), (0, u "valueOf"), (0, u "(C)Ljava/lang/String;"), (0, .methodref 17 18), (0, .class_ 19), (0, .nameAndType 20 21), (0, u "java/lang/Math"), (0, u "abs"), (0, u "(J)J"), (0, .long 10), (1, .long 100), (1, .long 1000), (1, .long 10000), (1, .long 100000), (1, .long 1000000), (1, .long 10000000), (1, .long 100000000), (1, .long 1000000000), (1, .methodref 41 42), (0, .class_ 43), (0, .nameAndType 44 45), (0, u "provento/files/CsvRowRefusePinLaw"), (0, u "str"), (0, u "(III)Ljava/lang/String;"), (0, .class_ 47), (0, u "provento/files/CsvRow"), (0, .methodref 46 49), (0, .nameAndType 5 50), (0, u "(Ljava/lang/String;ILjava/util/Map;Ljava/lang/String;[ILprovento/files/FieldTexts;)V"), (0, .methodref 46 52), (0, .nameAndType 53 54), (0, u "refuse"), (0, u "(Ljava/lang/String;)Lprovento/files/Refusal;"), (0, .methodref 56 57), (0, .class_ 58), (0, .nameAndType 59 60), (0, u "provento/files/Refusal"), (0, u "getMessage"), (0, u "()Ljava/lang/String;"), (0, .methodref 56 62), (0, .nameAndType 63 64), (0, u "lineMessage"), (0, u "(Ljava/lang/String;ILjava/lang/String;)Ljava/lang/String;"), (0, .methodref 7 66), (0, .nameAndType 67 68), (0, u "equals"), (0, u "(Ljava/lang/Object;)Z"), (0, .methodref 7 70), (0, .nameAndType 71 72), (0, u "length"), (0, u "()I"), (0, .methodref 41 74), (0, .nameAndType 75 76), (0, u "decLen"), (0, u "(I)I"), (0, .methodref 7 78), (0, .nameAndType 79 80), (0, u "charAt"), (0, u "(I)C"), (0, .methodref 17 82), (0, .nameAndType 20 76), (3, u "law"), (0, u "(IIII)Z")] 2

def k1m0 : Method := { name := "<init>", desc := "()V", sig := { parameters := [], returnType := none }, accessFlags := 1, code := none }
def k1c1 : Code := { maxStack := 4, maxLocals := 4, code := method_2_code, exceptionTable := #[], attributes := #[] }
def k1m1 : Method := { name := "str", desc := "(III)Ljava/lang/String;", sig := { parameters := [.int, .int, .int], returnType := some (.object "java/lang/String") }, accessFlags := 10, code := some k1c1 }
def k1c2 : Code := { maxStack := 4, maxLocals := 4, code := method_3_code, exceptionTable := #[], attributes := #[] }
def k1m2 : Method := { name := "decLen", desc := "(I)I", sig := { parameters := [.int], returnType := some .int }, accessFlags := 10, code := some k1c2 }
def k1c3 : Code := { maxStack := 8, maxLocals := 12, code := code, exceptionTable := #[], attributes := #[] }
def k1m3 : Method := { name := "law", desc := "(IIII)Z", sig := { parameters := [.int, .int, .int, .int], returnType := some .boolean }, accessFlags := 9, code := some k1c3 }
/-- provento/files/CsvRowRefusePinLaw -/
def k1 : Class := { plain "provento/files/CsvRowRefusePinLaw" (some 0) with
  accessFlags := 49
  interfaces := #[]
  cf := some (fileOf pool1 41 #[] #[{ accessFlags := 1, nameIndex := 5, descriptorIndex := 6, attributes := #[] }, { accessFlags := 10, nameIndex := 44, descriptorIndex := 45, attributes := #[] }, { accessFlags := 10, nameIndex := 75, descriptorIndex := 76, attributes := #[] }, { accessFlags := 9, nameIndex := 86, descriptorIndex := 87, attributes := #[] }] 49 2 #[] #[])
  fields := #[]
  methods := #[k1m0, k1m1, k1m2, k1m3]
  instanceTypes := #[]
  staticTypes := #[]
  resolved := Array.replicate 90 none
  statics := none }

def pool2 : Array CpInfo := pool [(1, .class_ 2), (0, u "java/io/Serializable"), (0, .class_ 4), (0, u "java/lang/Object")] 2

/-- java/io/Serializable -/
def k2 : Class := { plain "java/io/Serializable" (some 0) with
  accessFlags := 1537
  interfaces := #[]
  cf := some (fileOf pool2 1 #[] #[] 1537 3 #[] #[])
  fields := #[]
  methods := #[]
  instanceTypes := #[]
  staticTypes := #[]
  resolved := Array.replicate 7 none
  statics := none }

def pool3 : Array CpInfo := pool [(1, .class_ 2), (0, u "java/lang/Comparable"), (0, .class_ 4), (0, u "java/lang/Object")] 7

/-- java/lang/Comparable -/
def k3 : Class := { plain "java/lang/Comparable" (some 0) with
  accessFlags := 1537
  interfaces := #[]
  cf := some (fileOf pool3 1 #[] #[] 1537 3 #[] #[])
  fields := #[]
  methods := #[]
  instanceTypes := #[]
  staticTypes := #[]
  resolved := Array.replicate 12 none
  statics := none }

def pool4 : Array CpInfo := pool [(2, .class_ 4), (1, u "java/lang/CharSequence"), (42, .class_ 48), (0, u "java/lang/CharSequence$1CodePointIterator"), (10, .class_ 60), (0, u "java/lang/CharSequence$1CharIterator"), (5, .class_ 67), (0, u "java/lang/Object")] 63

/-- java/lang/CharSequence -/
def k4 : Class := { plain "java/lang/CharSequence" (some 0) with
  accessFlags := 1537
  interfaces := #[]
  cf := some (fileOf pool4 2 #[.nestMembers #[47, 59]] #[] 1537 66 #[] #[])
  fields := #[]
  methods := #[]
  instanceTypes := #[]
  staticTypes := #[]
  resolved := Array.replicate 131 none
  statics := none }

def pool5 : Array CpInfo := pool [(1, .class_ 2), (0, u "java/lang/constant/Constable"), (0, .class_ 4), (0, u "java/lang/Object")] 6

/-- java/lang/constant/Constable -/
def k5 : Class := { plain "java/lang/constant/Constable" (some 0) with
  accessFlags := 1537
  interfaces := #[]
  cf := some (fileOf pool5 1 #[] #[] 1537 3 #[] #[])
  fields := #[]
  methods := #[]
  instanceTypes := #[]
  staticTypes := #[]
  resolved := Array.replicate 11 none
  statics := none }

def pool6 : Array CpInfo := pool [(1, .class_ 2), (0, u "java/lang/constant/ConstantDesc"), (0, .class_ 4), (0, u "java/lang/Object")] 32

/-- java/lang/constant/ConstantDesc -/
def k6 : Class := { plain "java/lang/constant/ConstantDesc" (some 0) with
  accessFlags := 1537
  interfaces := #[]
  cf := some (fileOf pool6 1 #[] #[] 1537 3 #[] #[])
  fields := #[]
  methods := #[]
  instanceTypes := #[]
  staticTypes := #[]
  resolved := Array.replicate 37 none
  statics := none }

def pool7 : Array CpInfo := pool [(1, .methodref 2 3), (0, .class_ 4), (0, .nameAndType 5 6), (0, u "java/lang/Object"), (0, u "<init>"), (0, u "()V"), (0, .string 8), (0, u ""), (0, .fieldref 10 11), (0, .class_ 12), (0, .nameAndType 13 14), (0, u "java/lang/String"), (0, u "value"), (0, u "[B"), (0, .fieldref 10 16), (0, .nameAndType 17 18), (0, u "coder"), (0, u "B"), (2, u "hash"), (0, u "I"), (2, u "hashIsZero"), (0, u "Z"), (0, .methodref 10 28), (0, .nameAndType 5 29), (0, u "([CIILjava/lang/Void;)V"), (8, .fieldref 10 39), (0, .nameAndType 40 26), (0, u "COMPACT_STRINGS"), (1, .class_ 44), (1, u "java/lang/StringUTF16"), (0, u "compress"), (1, .methodref 42 48), (0, .nameAndType 49 50), (0, u "coderFromArrayLen"), (0, u "([BI)B"), (2, u "toBytes"), (0, .methodref 55 56), (0, .class_ 57), (0, .nameAndType 58 59), (0, u "java/util/Arrays"), (0, u "copyOfRange"), (0, u "([BII)[B"), (47, .class_ 109), (1, u "java/lang/StringLatin1"), (32, u "()Z"), (34, .methodref 42 178), (0, .nameAndType 45 179), (0, u "([CII)[B"), (13, .class_ 195), (1, u "java/lang/System"), (13, .methodref 10 210), (0, .nameAndType 5 211), (0, u "([BB)V"), (0, .methodref 193 213), (0, .nameAndType 214 215), (0, u "arraycopy"), (0, u "(Ljava/lang/Object;ILjava/lang/Object;II)V"), (118, u "()I"), (0, .methodref 10 336), (0, .nameAndType 17 337), (0, u "()B"), (2, u "()[B"), (22, u "([BI)C"), (5, u "(C)Z"), (21, u "(II)V"), (35, u "(I)C"), (61, .methodref 10 490), (0, .nameAndType 5 491), (0, u "(Ljava/lang/AbstractStringBuilder;Ljava/lang/Void;)V"), (0, .methodref 10 493), (0, .nameAndType 494 142), (0, u "isLatin1"), (0, .methodref 107 496), (0, .nameAndType 497 363), (0, u "charAt"), (3, u "checkIndex"), (4, .nameAndType 507 334), (0, u "length"), (24, u "getBytes"), (8, .methodref 107 542), (0, .nameAndType 543 544), (0, u "equals"), (0, u "([B[B)Z"), (4, .methodref 550 506), (0, .class_ 551), (0, u "java/lang/AbstractStringBuilder"), (0, .methodref 550 553), (0, .nameAndType 554 340), (0, u "getValue"), (18, u "(Ljava/lang/Object;)Z"), (1, .class_ 576), (0, u "java/lang/CharSequence"), (22, u "CASE_INSENSITIVE_ORDER"), (0, u "Ljava/util/Comparator;"), (181, u "valueOf"), (0, u "(C)Ljava/lang/String;"), (37, u "([BIB)V"), (188, u "([C)V"), (4, .methodref 107 1016), (0, .nameAndType 1017 369), (0, u "canEncode"), (0, .methodref 107 1019), (0, .nameAndType 53 1020), (0, u "(C)[B"), (26, .methodref 550 493), (5, .fieldref 1054 1055), (0, .class_ 1056), (0, .nameAndType 1057 1058), (0, u "jdk/internal/util/Preconditions"), (0, u "SIOOBE_FORMATTER"), (0, u "Ljava/util/function/BiFunction;"), (0, .methodref 1054 1060), (0, .nameAndType 501 1061), (0, u "(IILjava/util/function/BiFunction;)I"), (39, u "serialPersistentFields"), (0, u "[Ljava/io/ObjectStreamField;"), (0, .class_ 1104), (0, u "java/lang/String$CaseInsensitiveComparator"), (1, .class_ 1107), (0, u "java/io/Serializable"), (0, .class_ 1109), (0, u "java/lang/Comparable"), (0, .class_ 1111), (0, u "java/lang/constant/Constable"), (0, .class_ 1113), (0, u "java/lang/constant/ConstantDesc"), (2, u "serialVersionUID"), (0, u "J"), (3, u "REPL"), (0, u "C"), (2, u "LATIN1"), (1, u "UTF16"), (105, u "(Ljava/lang/StringBuilder;)V")] 217

def k7m0 : Method := { name := "<init>", desc := "()V", sig := { parameters := [], returnType := none }, accessFlags := 1, code := none }
def k7c1 : Code := { maxStack := 5, maxLocals := 2, code := jdk_42_method_3_code, exceptionTable := #[], attributes := #[] }
def k7m1 : Method := { name := "<init>", desc := "([C)V", sig := { parameters := [(.array .char)], returnType := none }, accessFlags := 1, code := some k7c1 }
def k7c2 : Code := { maxStack := 3, maxLocals := 2, code := jdk_42_method_53_code, exceptionTable := #[], attributes := #[] }
def k7m2 : Method := { name := "<init>", desc := "(Ljava/lang/StringBuilder;)V", sig := { parameters := [(.object "java/lang/StringBuilder")], returnType := none }, accessFlags := 1, code := some k7c2 }
def k7c3 : Code := { maxStack := 2, maxLocals := 1, code := jdk_42_method_54_code, exceptionTable := #[], attributes := #[] }
def k7m3 : Method := { name := "length", desc := "()I", sig := { parameters := [], returnType := some .int }, accessFlags := 1, code := some k7c3 }
def k7c4 : Code := { maxStack := 2, maxLocals := 2, code := jdk_42_method_56_code, exceptionTable := #[], attributes := #[] }
def k7m4 : Method := { name := "charAt", desc := "(I)C", sig := { parameters := [.int], returnType := some .char }, accessFlags := 1, code := some k7c4 }
def k7c5 : Code := { maxStack := 2, maxLocals := 3, code := jdk_42_method_66_code, exceptionTable := #[], attributes := #[] }
def k7m5 : Method := { name := "equals", desc := "(Ljava/lang/Object;)Z", sig := { parameters := [(.object "java/lang/Object")], returnType := some .boolean }, accessFlags := 1, code := some k7c5 }
def k7c6 : Code := { maxStack := 4, maxLocals := 1, code := jdk_42_method_139_code, exceptionTable := #[], attributes := #[] }
def k7m6 : Method := { name := "valueOf", desc := "(C)Ljava/lang/String;", sig := { parameters := [.char], returnType := some (.object "java/lang/String") }, accessFlags := 9, code := some k7c6 }
def k7c7 : Code := { maxStack := 5, maxLocals := 4, code := jdk_42_method_147_code, exceptionTable := #[], attributes := #[] }
def k7m7 : Method := { name := "getBytes", desc := "([BIB)V", sig := { parameters := [(.array .byte), .int, .byte], returnType := none }, accessFlags := 0, code := some k7c7 }
def k7c8 : Code := { maxStack := 4, maxLocals := 6, code := jdk_42_method_149_code, exceptionTable := #[], attributes := #[] }
def k7m8 : Method := { name := "<init>", desc := "([CIILjava/lang/Void;)V", sig := { parameters := [(.array .char), .int, .int, (.object "java/lang/Void")], returnType := none }, accessFlags := 2, code := some k7c8 }
def k7c9 : Code := { maxStack := 5, maxLocals := 5, code := jdk_42_method_150_code, exceptionTable := #[], attributes := #[] }
def k7m9 : Method := { name := "<init>", desc := "(Ljava/lang/AbstractStringBuilder;Ljava/lang/Void;)V", sig := { parameters := [(.object "java/lang/AbstractStringBuilder"), (.object "java/lang/Void")], returnType := none }, accessFlags := 0, code := some k7c9 }
def k7c10 : Code := { maxStack := 2, maxLocals := 3, code := jdk_42_method_151_code, exceptionTable := #[], attributes := #[] }
def k7m10 : Method := { name := "<init>", desc := "([BB)V", sig := { parameters := [(.array .byte), .byte], returnType := none }, accessFlags := 0, code := some k7c10 }
def k7c11 : Code := { maxStack := 1, maxLocals := 1, code := jdk_42_method_152_code, exceptionTable := #[], attributes := #[] }
def k7m11 : Method := { name := "coder", desc := "()B", sig := { parameters := [], returnType := some .byte }, accessFlags := 0, code := some k7c11 }
def k7c12 : Code := { maxStack := 1, maxLocals := 1, code := jdk_42_method_154_code, exceptionTable := #[], attributes := #[] }
def k7m12 : Method := { name := "isLatin1", desc := "()Z", sig := { parameters := [], returnType := some .boolean }, accessFlags := 0, code := some k7c12 }
def k7c13 : Code := { maxStack := 3, maxLocals := 2, code := jdk_42_method_155_code, exceptionTable := #[], attributes := #[] }
def k7m13 : Method := { name := "checkIndex", desc := "(II)V", sig := { parameters := [.int, .int], returnType := none }, accessFlags := 8, code := some k7c13 }
/-- java/lang/String -/
def k7 : Class := { plain "java/lang/String" (some 0) with
  accessFlags := 49
  interfaces := #[2, 3, 4, 5, 6]
  cf := some (fileOf pool7 10 #[.nestMembers #[1103]] #[{ accessFlags := 1, nameIndex := 5, descriptorIndex := 6, attributes := #[] }, { accessFlags := 1, nameIndex := 5, descriptorIndex := 1010, attributes := #[] }, { accessFlags := 1, nameIndex := 5, descriptorIndex := 1233, attributes := #[] }, { accessFlags := 1, nameIndex := 507, descriptorIndex := 334, attributes := #[] }, { accessFlags := 1, nameIndex := 497, descriptorIndex := 427, attributes := #[] }, { accessFlags := 1, nameIndex := 543, descriptorIndex := 573, attributes := #[] }, { accessFlags := 9, nameIndex := 782, descriptorIndex := 783, attributes := #[] }, { accessFlags := 0, nameIndex := 532, descriptorIndex := 821, attributes := #[] }, { accessFlags := 2, nameIndex := 5, descriptorIndex := 29, attributes := #[] }, { accessFlags := 0, nameIndex := 5, descriptorIndex := 491, attributes := #[] }, { accessFlags := 0, nameIndex := 5, descriptorIndex := 211, attributes := #[] }, { accessFlags := 0, nameIndex := 17, descriptorIndex := 337, attributes := #[] }, { accessFlags := 0, nameIndex := 494, descriptorIndex := 142, attributes := #[] }, { accessFlags := 8, nameIndex := 501, descriptorIndex := 391, attributes := #[] }] 49 2 #[1106, 1108, 575, 1110, 1112] #[{ accessFlags := 18, nameIndex := 13, descriptorIndex := 14, attributes := #[] }, { accessFlags := 18, nameIndex := 17, descriptorIndex := 18, attributes := #[] }, { accessFlags := 2, nameIndex := 21, descriptorIndex := 22, attributes := #[] }, { accessFlags := 2, nameIndex := 25, descriptorIndex := 26, attributes := #[] }, { accessFlags := 26, nameIndex := 1116, descriptorIndex := 1117, attributes := #[] }, { accessFlags := 24, nameIndex := 40, descriptorIndex := 26, attributes := #[] }, { accessFlags := 26, nameIndex := 1101, descriptorIndex := 1102, attributes := #[] }, { accessFlags := 26, nameIndex := 1121, descriptorIndex := 1122, attributes := #[] }, { accessFlags := 25, nameIndex := 599, descriptorIndex := 600, attributes := #[] }, { accessFlags := 24, nameIndex := 1125, descriptorIndex := 18, attributes := #[] }, { accessFlags := 24, nameIndex := 1127, descriptorIndex := 18, attributes := #[] }])
  fields := #[{ name := "value", type := (.array .byte), accessFlags := 18, slot := 0, constantValue := 0 }, { name := "coder", type := .byte, accessFlags := 18, slot := 1, constantValue := 0 }, { name := "hash", type := .int, accessFlags := 2, slot := 2, constantValue := 0 }, { name := "hashIsZero", type := .boolean, accessFlags := 2, slot := 3, constantValue := 0 }, { name := "serialVersionUID", type := .long, accessFlags := 26, slot := 0, constantValue := 0 }, { name := "COMPACT_STRINGS", type := .boolean, accessFlags := 24, slot := 1, constantValue := 0 }, { name := "serialPersistentFields", type := (.array (.object "java/io/ObjectStreamField")), accessFlags := 26, slot := 2, constantValue := 0 }, { name := "REPL", type := .char, accessFlags := 26, slot := 3, constantValue := 0 }, { name := "CASE_INSENSITIVE_ORDER", type := (.object "java/util/Comparator"), accessFlags := 25, slot := 4, constantValue := 0 }, { name := "LATIN1", type := .byte, accessFlags := 24, slot := 5, constantValue := 0 }, { name := "UTF16", type := .byte, accessFlags := 24, slot := 6, constantValue := 0 }]
  methods := #[k7m0, k7m1, k7m2, k7m3, k7m4, k7m5, k7m6, k7m7, k7m8, k7m9, k7m10, k7m11, k7m12, k7m13]
  instanceTypes := #[(.array .byte), .byte, .int, .boolean]
  staticTypes := #[.long, .boolean, (.array (.object "java/io/ObjectStreamField")), .char, (.object "java/util/Comparator"), .byte, .byte]
  resolved := Array.replicate 1451 none
  statics := some 0 }

def pool8 : Array CpInfo := pool [(1, .class_ 2), (0, u "java/lang/String"), (1, .class_ 6), (1, u "java/lang/Object"), (0, u "<init>"), (0, u "()V"), (0, .methodref 1 10), (0, .nameAndType 11 12), (0, u "checkIndex"), (0, u "(II)V"), (1, .class_ 16), (1, u "java/lang/StringLatin1"), (36, u "([BI)C"), (36, u "canEncode"), (14, u "(C)Z"), (15, u "$assertionsDisabled"), (0, u "Z"), (98, .class_ 223), (1, u "java/lang/StringLatin1$LinesSpliterator"), (28, u "charAt"), (28, u "equals"), (0, u "([B[B)Z"), (97, u "toBytes"), (1, u "(C)[B"), (7, .class_ 391), (0, u "java/lang/StringLatin1$CharsSpliterator")] 3

def k8m0 : Method := { name := "<init>", desc := "()V", sig := { parameters := [], returnType := none }, accessFlags := 0, code := none }
def k8c1 : Code := { maxStack := 2, maxLocals := 2, code := jdk_43_method_2_code, exceptionTable := #[], attributes := #[] }
def k8m1 : Method := { name := "charAt", desc := "([BI)C", sig := { parameters := [(.array .byte), .int], returnType := some .char }, accessFlags := 9, code := some k8c1 }
def k8c2 : Code := { maxStack := 2, maxLocals := 1, code := jdk_43_method_3_code, exceptionTable := #[], attributes := #[] }
def k8m2 : Method := { name := "canEncode", desc := "(C)Z", sig := { parameters := [.char], returnType := some .boolean }, accessFlags := 9, code := some k8c2 }
def k8c3 : Code := { maxStack := 3, maxLocals := 3, code := jdk_43_method_13_code, exceptionTable := #[], attributes := #[] }
def k8m3 : Method := { name := "equals", desc := "([B[B)Z", sig := { parameters := [(.array .byte), (.array .byte)], returnType := some .boolean }, accessFlags := 9, code := some k8c3 }
def k8c4 : Code := { maxStack := 4, maxLocals := 1, code := jdk_43_method_46_code, exceptionTable := #[], attributes := #[] }
def k8m4 : Method := { name := "toBytes", desc := "(C)[B", sig := { parameters := [.char], returnType := some (.array .byte) }, accessFlags := 9, code := some k8c4 }
/-- java/lang/StringLatin1 -/
def k8 : Class := { plain "java/lang/StringLatin1" (some 0) with
  accessFlags := 48
  interfaces := #[]
  cf := some (fileOf pool8 14 #[.nestMembers #[390, 221]] #[{ accessFlags := 0, nameIndex := 7, descriptorIndex := 8, attributes := #[] }, { accessFlags := 9, nameIndex := 252, descriptorIndex := 53, attributes := #[] }, { accessFlags := 9, nameIndex := 90, descriptorIndex := 105, attributes := #[] }, { accessFlags := 9, nameIndex := 281, descriptorIndex := 282, attributes := #[] }, { accessFlags := 9, nameIndex := 380, descriptorIndex := 382, attributes := #[] }] 48 4 #[] #[{ accessFlags := 4120, nameIndex := 121, descriptorIndex := 122, attributes := #[] }])
  fields := #[{ name := "$assertionsDisabled", type := .boolean, accessFlags := 4120, slot := 0, constantValue := 0 }]
  methods := #[k8m0, k8m1, k8m2, k8m3, k8m4]
  instanceTypes := #[]
  staticTypes := #[.boolean]
  resolved := Array.replicate 395 none
  statics := none }

def pool9 : Array CpInfo := pool [(1, .methodref 2 3), (0, .class_ 4), (0, .nameAndType 5 6), (0, u "java/lang/Object"), (0, u "<init>"), (0, u "()V"), (0, .invokeDynamic 0 8), (0, .nameAndType 9 10), (0, u "apply"), (0, u "(Lprovento/files/CsvRow;)Ljava/util/function/Function;"), (0, .fieldref 12 13), (0, .class_ 14), (0, .nameAndType 15 16), (0, u "provento/files/CsvRow"), (0, u "refusal"), (0, u "Ljava/util/function/Function;"), (0, .fieldref 12 18), (0, .nameAndType 19 20), (0, u "file"), (0, u "Ljava/lang/String;"), (0, .fieldref 12 22), (0, .nameAndType 23 24), (0, u "line"), (0, u "I"), (0, .fieldref 12 26), (0, .nameAndType 27 28), (0, u "positions"), (0, u "Ljava/util/Map;"), (0, .fieldref 12 30), (0, .nameAndType 31 20), (0, u "text"), (0, .fieldref 12 33), (0, .nameAndType 34 35), (0, u "ends"), (0, u "[I"), (0, .fieldref 12 37), (0, .nameAndType 38 39), (0, u "texts"), (0, u "Lprovento/files/FieldTexts;"), (27, .methodref 12 68), (0, .nameAndType 69 70), (0, u "refuse"), (0, u "(Ljava/lang/String;)Lprovento/files/Refusal;"), (27, u "(Ljava/lang/Object;)Ljava/lang/Object;"), (21, .class_ 121), (0, u "provento/files/Refusal"), (0, .methodref 120 123), (0, .nameAndType 5 124), (0, u "(Ljava/lang/String;ILjava/lang/String;)V"), (3, u "(Ljava/lang/String;ILjava/util/Map;Ljava/lang/String;[ILprovento/files/FieldTexts;)V"), (14, .methodType 98), (0, .methodHandle 5 67), (0, .methodType 70), (0, .methodHandle 6 147), (0, .methodref 148 149), (0, .class_ 150), (0, .nameAndType 151 152), (0, u "java/lang/invoke/LambdaMetafactory"), (0, u "metafactory"), (0, u "(Ljava/lang/invoke/MethodHandles$Lookup;Ljava/lang/String;Ljava/lang/invoke/MethodType;Ljava/lang/invoke/MethodType;Ljava/lang/invoke/MethodHandle;Ljava/lang/invoke/MethodType;)Ljava/lang/invoke/CallSite;")] 6

def k9c0 : Code := { maxStack := 2, maxLocals := 7, code := prog_33_method_1_code, exceptionTable := #[], attributes := #[] }
def k9m0 : Method := { name := "<init>", desc := "(Ljava/lang/String;ILjava/util/Map;Ljava/lang/String;[ILprovento/files/FieldTexts;)V", sig := { parameters := [(.object "java/lang/String"), .int, (.object "java/util/Map"), (.object "java/lang/String"), (.array .int), (.object "provento/files/FieldTexts")], returnType := none }, accessFlags := 0, code := some k9c0 }
def k9c1 : Code := { maxStack := 5, maxLocals := 2, code := prog_33_method_9_code, exceptionTable := #[], attributes := #[] }
def k9m1 : Method := { name := "refuse", desc := "(Ljava/lang/String;)Lprovento/files/Refusal;", sig := { parameters := [(.object "java/lang/String")], returnType := some (.object "provento/files/Refusal") }, accessFlags := 1, code := some k9c1 }
/-- provento/files/CsvRow -/
def k9 : Class := { plain "provento/files/CsvRow" (some 0) with
  accessFlags := 49
  interfaces := #[]
  cf := some (fileOf pool9 12 #[.bootstrapMethods #[⟨146, #[143, 144, 145]⟩]] #[{ accessFlags := 0, nameIndex := 5, descriptorIndex := 128, attributes := #[] }, { accessFlags := 1, nameIndex := 69, descriptorIndex := 70, attributes := #[] }] 49 2 #[] #[{ accessFlags := 18, nameIndex := 19, descriptorIndex := 20, attributes := #[] }, { accessFlags := 18, nameIndex := 23, descriptorIndex := 24, attributes := #[] }, { accessFlags := 18, nameIndex := 27, descriptorIndex := 28, attributes := #[] }, { accessFlags := 18, nameIndex := 31, descriptorIndex := 20, attributes := #[] }, { accessFlags := 18, nameIndex := 34, descriptorIndex := 35, attributes := #[] }, { accessFlags := 18, nameIndex := 38, descriptorIndex := 39, attributes := #[] }, { accessFlags := 18, nameIndex := 15, descriptorIndex := 16, attributes := #[] }])
  fields := #[{ name := "file", type := (.object "java/lang/String"), accessFlags := 18, slot := 0, constantValue := 0 }, { name := "line", type := .int, accessFlags := 18, slot := 1, constantValue := 0 }, { name := "positions", type := (.object "java/util/Map"), accessFlags := 18, slot := 2, constantValue := 0 }, { name := "text", type := (.object "java/lang/String"), accessFlags := 18, slot := 3, constantValue := 0 }, { name := "ends", type := (.array .int), accessFlags := 18, slot := 4, constantValue := 0 }, { name := "texts", type := (.object "provento/files/FieldTexts"), accessFlags := 18, slot := 5, constantValue := 0 }, { name := "refusal", type := (.object "java/util/function/Function"), accessFlags := 18, slot := 6, constantValue := 0 }]
  methods := #[k9m0, k9m1]
  instanceTypes := #[(.object "java/lang/String"), .int, (.object "java/util/Map"), (.object "java/lang/String"), (.array .int), (.object "provento/files/FieldTexts"), (.object "java/util/function/Function")]
  staticTypes := #[]
  resolved := Array.replicate 159 none
  callSites := [(0, 6, .makes 45)]
  statics := none }

def pool10 : Array CpInfo := pool [(6, u "(Ljava/lang/Object;)Ljava/lang/Object;"), (2, u "apply"), (6, .class_ 18), (1, u "java/util/function/Function"), (0, .class_ 20), (0, u "java/lang/Object")] 56

def k10m0 : Method := { name := "apply", desc := "(Ljava/lang/Object;)Ljava/lang/Object;", sig := { parameters := [(.object "java/lang/Object")], returnType := some (.object "java/lang/Object") }, accessFlags := 1025, code := none }
/-- java/util/function/Function -/
def k10 : Class := { plain "java/util/function/Function" (some 0) with
  accessFlags := 1537
  interfaces := #[]
  cf := some (fileOf pool10 16 #[] #[{ accessFlags := 1025, nameIndex := 9, descriptorIndex := 6, attributes := #[] }] 1537 19 #[] #[])
  fields := #[]
  methods := #[k10m0]
  instanceTypes := #[]
  staticTypes := #[]
  resolved := Array.replicate 77 none
  statics := none }

def pool11 : Array CpInfo := pool [(1, .methodref 2 3), (0, .class_ 4), (0, .nameAndType 5 6), (0, u "java/lang/Object"), (0, u "<init>"), (0, u "()V"), (0, .fieldref 8 9), (0, .class_ 10), (0, .nameAndType 11 12), (0, u "java/lang/Throwable"), (0, u "cause"), (0, u "Ljava/lang/Throwable;"), (0, .fieldref 8 14), (0, .nameAndType 15 16), (0, u "UNASSIGNED_STACK"), (0, u "[Ljava/lang/StackTraceElement;"), (0, .fieldref 8 18), (0, .nameAndType 19 16), (0, u "stackTrace"), (0, .fieldref 8 21), (0, .nameAndType 22 23), (0, u "SUPPRESSED_SENTINEL"), (0, u "Ljava/util/List;"), (0, .fieldref 8 25), (0, .nameAndType 26 23), (0, u "suppressedExceptions"), (0, .methodref 8 28), (0, .nameAndType 29 30), (0, u "fillInStackTrace"), (0, u "()Ljava/lang/Throwable;"), (0, .fieldref 8 32), (0, .nameAndType 33 34), (0, u "detailMessage"), (0, u "Ljava/lang/String;"), (3, u "()Ljava/lang/String;"), (2, u "getMessage"), (51, .class_ 94), (0, u "java/lang/Throwable$WrappedPrintStream"), (6, .class_ 103), (1, u "java/lang/Throwable$PrintStreamOrWriter"), (61, u "$assertionsDisabled"), (0, u "Z"), (26, .class_ 194), (0, u "java/lang/Throwable$WrappedPrintWriter"), (3, .fieldref 8 199), (0, .nameAndType 200 201), (0, u "backtrace"), (0, u "Ljava/lang/Object;"), (0, .methodref 8 203), (0, .nameAndType 29 204), (0, u "(I)Ljava/lang/Throwable;"), (6, u "depth"), (0, u "I"), (10, u "(Ljava/lang/String;)V"), (45, .class_ 271), (1, u "java/lang/Throwable$SentinelHolder"), (32, u "EMPTY_THROWABLE_ARRAY"), (0, u "[Ljava/lang/Throwable;"), (12, .class_ 319), (0, u "java/io/Serializable"), (0, u "serialVersionUID"), (0, u "J"), (5, u "NULL_CAUSE_MESSAGE"), (0, u "SELF_SUPPRESSION_MESSAGE"), (0, u "CAUSE_CAPTION"), (0, u "SUPPRESSED_CAPTION")] 73

def k11c0 : Code := { maxStack := 2, maxLocals := 1, code := jdk_78_method_1_code, exceptionTable := #[], attributes := #[] }
def k11m0 : Method := { name := "<init>", desc := "()V", sig := { parameters := [], returnType := none }, accessFlags := 1, code := some k11c0 }
def k11c1 : Code := { maxStack := 2, maxLocals := 2, code := jdk_78_method_2_code, exceptionTable := #[], attributes := #[] }
def k11m1 : Method := { name := "<init>", desc := "(Ljava/lang/String;)V", sig := { parameters := [(.object "java/lang/String")], returnType := none }, accessFlags := 1, code := some k11c1 }
def k11c2 : Code := { maxStack := 1, maxLocals := 1, code := jdk_78_method_6_code, exceptionTable := #[], attributes := #[] }
def k11m2 : Method := { name := "getMessage", desc := "()Ljava/lang/String;", sig := { parameters := [], returnType := some (.object "java/lang/String") }, accessFlags := 1, code := some k11c2 }
def k11c3 : Code := { maxStack := 2, maxLocals := 1, code := ⟨#[0x2a, 0xb4, 0x00, 0x11, 0xc7, 0x00, 0x0a, 0x2a, 0xb4, 0x00, 0xc6, 0xc6, 0x00, 0x10, 0x2a, 0x03, 0xb6, 0x00, 0xca, 0x57, 0x2a, 0xb2, 0x00, 0x0d, 0xb5, 0x00, 0x11, 0x2a, 0xb0]⟩, exceptionTable := #[], attributes := #[] }
def k11m3 : Method := { name := "fillInStackTrace", desc := "()Ljava/lang/Throwable;", sig := { parameters := [], returnType := some (.object "java/lang/Throwable") }, accessFlags := 33, code := some k11c3 }
def k11m4 : Method := { name := "fillInStackTrace", desc := "(I)Ljava/lang/Throwable;", sig := { parameters := [.int], returnType := some (.object "java/lang/Throwable") }, accessFlags := 258, code := none }
/-- java/lang/Throwable -/
def k11 : Class := { plain "java/lang/Throwable" (some 0) with
  accessFlags := 33
  interfaces := #[2]
  cf := some (fileOf pool11 8 #[.nestMembers #[193, 93, 101, 269]] #[{ accessFlags := 1, nameIndex := 5, descriptorIndex := 6, attributes := #[] }, { accessFlags := 1, nameIndex := 5, descriptorIndex := 223, attributes := #[] }, { accessFlags := 1, nameIndex := 41, descriptorIndex := 38, attributes := #[] }, { accessFlags := 33, nameIndex := 29, descriptorIndex := 30, attributes := #[] }, { accessFlags := 258, nameIndex := 29, descriptorIndex := 204, attributes := #[] }] 33 2 #[318] #[{ accessFlags := 26, nameIndex := 320, descriptorIndex := 321, attributes := #[] }, { accessFlags := 130, nameIndex := 200, descriptorIndex := 201, attributes := #[] }, { accessFlags := 2, nameIndex := 33, descriptorIndex := 34, attributes := #[] }, { accessFlags := 26, nameIndex := 15, descriptorIndex := 16, attributes := #[] }, { accessFlags := 2, nameIndex := 11, descriptorIndex := 12, attributes := #[] }, { accessFlags := 2, nameIndex := 19, descriptorIndex := 16, attributes := #[] }, { accessFlags := 130, nameIndex := 211, descriptorIndex := 212, attributes := #[] }, { accessFlags := 26, nameIndex := 22, descriptorIndex := 23, attributes := #[] }, { accessFlags := 2, nameIndex := 26, descriptorIndex := 23, attributes := #[] }, { accessFlags := 26, nameIndex := 327, descriptorIndex := 34, attributes := #[] }, { accessFlags := 26, nameIndex := 328, descriptorIndex := 34, attributes := #[] }, { accessFlags := 26, nameIndex := 329, descriptorIndex := 34, attributes := #[] }, { accessFlags := 26, nameIndex := 330, descriptorIndex := 34, attributes := #[] }, { accessFlags := 26, nameIndex := 304, descriptorIndex := 305, attributes := #[] }, { accessFlags := 4120, nameIndex := 165, descriptorIndex := 166, attributes := #[] }])
  fields := #[{ name := "serialVersionUID", type := .long, accessFlags := 26, slot := 0, constantValue := 0 }, { name := "backtrace", type := (.object "java/lang/Object"), accessFlags := 130, slot := 0, constantValue := 0 }, { name := "detailMessage", type := (.object "java/lang/String"), accessFlags := 2, slot := 1, constantValue := 0 }, { name := "UNASSIGNED_STACK", type := (.array (.object "java/lang/StackTraceElement")), accessFlags := 26, slot := 1, constantValue := 0 }, { name := "cause", type := (.object "java/lang/Throwable"), accessFlags := 2, slot := 2, constantValue := 0 }, { name := "stackTrace", type := (.array (.object "java/lang/StackTraceElement")), accessFlags := 2, slot := 3, constantValue := 0 }, { name := "depth", type := .int, accessFlags := 130, slot := 4, constantValue := 0 }, { name := "SUPPRESSED_SENTINEL", type := (.object "java/util/List"), accessFlags := 26, slot := 2, constantValue := 0 }, { name := "suppressedExceptions", type := (.object "java/util/List"), accessFlags := 2, slot := 5, constantValue := 0 }, { name := "NULL_CAUSE_MESSAGE", type := (.object "java/lang/String"), accessFlags := 26, slot := 3, constantValue := 0 }, { name := "SELF_SUPPRESSION_MESSAGE", type := (.object "java/lang/String"), accessFlags := 26, slot := 4, constantValue := 0 }, { name := "CAUSE_CAPTION", type := (.object "java/lang/String"), accessFlags := 26, slot := 5, constantValue := 0 }, { name := "SUPPRESSED_CAPTION", type := (.object "java/lang/String"), accessFlags := 26, slot := 6, constantValue := 0 }, { name := "EMPTY_THROWABLE_ARRAY", type := (.array (.object "java/lang/Throwable")), accessFlags := 26, slot := 7, constantValue := 0 }, { name := "$assertionsDisabled", type := .boolean, accessFlags := 4120, slot := 8, constantValue := 0 }]
  methods := #[k11m0, k11m1, k11m2, k11m3, k11m4]
  instanceTypes := #[(.object "java/lang/Object"), (.object "java/lang/String"), (.object "java/lang/Throwable"), (.array (.object "java/lang/StackTraceElement")), .int, (.object "java/util/List")]
  staticTypes := #[.long, (.array (.object "java/lang/StackTraceElement")), (.object "java/util/List"), (.object "java/lang/String"), (.object "java/lang/String"), (.object "java/lang/String"), (.object "java/lang/String"), (.array (.object "java/lang/Throwable")), .boolean]
  resolved := Array.replicate 404 none
  statics := some 1 }

def pool12 : Array CpInfo := pool [(2, .class_ 4), (1, u "java/lang/Throwable"), (0, u "<init>"), (0, u "()V"), (0, .methodref 2 8), (0, .nameAndType 5 9), (0, u "(Ljava/lang/String;)V"), (9, .class_ 20), (0, u "java/lang/Exception"), (0, u "serialVersionUID"), (0, u "J")] 17

def k12m0 : Method := { name := "<init>", desc := "()V", sig := { parameters := [], returnType := none }, accessFlags := 1, code := none }
def k12c1 : Code := { maxStack := 2, maxLocals := 2, code := jdk_59_method_2_code, exceptionTable := #[], attributes := #[] }
def k12m1 : Method := { name := "<init>", desc := "(Ljava/lang/String;)V", sig := { parameters := [(.object "java/lang/String")], returnType := none }, accessFlags := 1, code := some k12c1 }
/-- java/lang/Exception -/
def k12 : Class := { plain "java/lang/Exception" (some 11) with
  accessFlags := 33
  interfaces := #[]
  cf := some (fileOf pool12 19 #[] #[{ accessFlags := 1, nameIndex := 5, descriptorIndex := 6, attributes := #[] }, { accessFlags := 1, nameIndex := 5, descriptorIndex := 9, attributes := #[] }] 33 2 #[] #[{ accessFlags := 24, nameIndex := 21, descriptorIndex := 22, attributes := #[] }])
  fields := #[{ name := "serialVersionUID", type := .long, accessFlags := 24, slot := 0, constantValue := 0 }]
  methods := #[k12m0, k12m1]
  instanceTypes := #[(.object "java/lang/Object"), (.object "java/lang/String"), (.object "java/lang/Throwable"), (.array (.object "java/lang/StackTraceElement")), .int, (.object "java/util/List")]
  staticTypes := #[.long]
  resolved := Array.replicate 40 none
  statics := none }

def pool13 : Array CpInfo := pool [(1, .methodref 2 3), (0, .class_ 4), (0, .nameAndType 5 6), (0, u "java/lang/Exception"), (0, u "<init>"), (0, u "(Ljava/lang/String;)V"), (0, .methodref 8 9), (0, .class_ 10), (0, .nameAndType 11 12), (0, u "provento/files/Refusal"), (0, u "lineMessage"), (0, u "(Ljava/lang/String;ILjava/lang/String;)Ljava/lang/String;"), (0, .class_ 14), (0, u "java/lang/StringBuilder"), (0, .methodref 13 16), (0, .nameAndType 5 17), (0, u "()V"), (0, .methodref 13 19), (0, .nameAndType 20 21), (0, u "append"), (0, u "(Ljava/lang/String;)Ljava/lang/StringBuilder;"), (0, .string 23), (0, u ": "), (0, .methodref 13 25), (0, .nameAndType 26 27), (0, u "toString"), (0, u "()Ljava/lang/String;"), (0, .string 29), (0, u ":"), (0, .methodref 13 31), (0, .nameAndType 20 32), (0, u "(I)Ljava/lang/StringBuilder;"), (0, u "serialVersionUID"), (0, u "J"), (5, u "(Ljava/lang/String;ILjava/lang/String;)V")] 3

def k13c0 : Code := { maxStack := 4, maxLocals := 4, code := prog_43_method_2_code, exceptionTable := #[], attributes := #[] }
def k13m0 : Method := { name := "<init>", desc := "(Ljava/lang/String;ILjava/lang/String;)V", sig := { parameters := [(.object "java/lang/String"), .int, (.object "java/lang/String")], returnType := none }, accessFlags := 1, code := some k13c0 }
def k13c1 : Code := { maxStack := 2, maxLocals := 3, code := prog_43_method_4_code, exceptionTable := #[], attributes := #[] }
def k13m1 : Method := { name := "lineMessage", desc := "(Ljava/lang/String;ILjava/lang/String;)Ljava/lang/String;", sig := { parameters := [(.object "java/lang/String"), .int, (.object "java/lang/String")], returnType := some (.object "java/lang/String") }, accessFlags := 9, code := some k13c1 }
/-- provento/files/Refusal -/
def k13 : Class := { plain "provento/files/Refusal" (some 12) with
  accessFlags := 49
  interfaces := #[]
  cf := some (fileOf pool13 8 #[] #[{ accessFlags := 1, nameIndex := 5, descriptorIndex := 40, attributes := #[] }, { accessFlags := 9, nameIndex := 11, descriptorIndex := 12, attributes := #[] }] 49 2 #[] #[{ accessFlags := 26, nameIndex := 33, descriptorIndex := 34, attributes := #[] }])
  fields := #[{ name := "serialVersionUID", type := .long, accessFlags := 26, slot := 0, constantValue := 0 }]
  methods := #[k13m0, k13m1]
  instanceTypes := #[(.object "java/lang/Object"), (.object "java/lang/String"), (.object "java/lang/Throwable"), (.array (.object "java/lang/StackTraceElement")), .int, (.object "java/util/List")]
  staticTypes := #[.long]
  resolved := Array.replicate 44 none
  statics := none }

def pool14 : Array CpInfo := pool [(1, .class_ 2), (0, u "java/lang/Appendable"), (0, .class_ 4), (0, u "java/lang/Object")] 9

/-- java/lang/Appendable -/
def k14 : Class := { plain "java/lang/Appendable" (some 0) with
  accessFlags := 1537
  interfaces := #[]
  cf := some (fileOf pool14 1 #[] #[] 1537 3 #[] #[])
  fields := #[]
  methods := #[]
  instanceTypes := #[]
  staticTypes := #[]
  resolved := Array.replicate 14 none
  statics := none }

def pool15 : Array CpInfo := pool [(1, .class_ 2), (0, u "java/lang/String"), (0, .methodref 4 5), (0, .class_ 6), (0, .nameAndType 7 8), (0, u "java/lang/Object"), (0, u "<init>"), (0, u "()V"), (1, .class_ 12), (1, u "java/lang/AbstractStringBuilder"), (0, u "EMPTYVALUE"), (0, u "[B"), (0, .fieldref 10 16), (0, .nameAndType 17 14), (0, u "value"), (0, .fieldref 1 19), (0, .nameAndType 20 21), (0, u "COMPACT_STRINGS"), (0, u "Z"), (0, .fieldref 10 23), (0, .nameAndType 24 25), (0, u "coder"), (0, u "B"), (6, .methodref 1 33), (0, .nameAndType 34 35), (0, u "length"), (0, u "()I"), (0, .class_ 37), (0, u "java/lang/Integer"), (1, .integer 2147483647), (0, .methodref 1 41), (0, .nameAndType 24 42), (0, u "()B"), (2, u "append"), (0, u "(Ljava/lang/String;)Ljava/lang/AbstractStringBuilder;"), (1, .class_ 49), (0, u "java/lang/CharSequence"), (19, u "(Ljava/lang/String;)V"), (5, u "maybeLatin1"), (3, .fieldref 10 80), (0, .nameAndType 81 82), (0, u "count"), (0, u "I"), (0, .methodref 10 84), (0, .nameAndType 85 86), (0, u "isLatin1"), (0, u "()Z"), (13, .methodref 10 101), (0, .nameAndType 102 103), (0, u "ensureCapacityInternal"), (0, u "(I)V"), (0, .methodref 10 105), (0, .nameAndType 106 107), (0, u "newCapacity"), (0, u "(I)I"), (0, .methodref 109 110), (0, .class_ 111), (0, .nameAndType 112 113), (0, u "java/util/Arrays"), (0, u "copyOf"), (0, u "([BI)[B"), (0, .methodref 115 116), (0, .class_ 117), (0, .nameAndType 118 119), (0, u "jdk/internal/util/ArraysSupport"), (0, u "newLength"), (0, u "(III)I"), (68, u "getChars"), (19, .methodref 10 209), (0, .nameAndType 210 211), (0, u "putStringAt"), (0, u "(ILjava/lang/String;)V"), (5, u "inflateIfNeededFor"), (2, .nameAndType 221 222), (0, u "getBytes"), (0, u "([BIB)V"), (22, .methodref 36 246), (0, .nameAndType 247 107), (0, u "stringSize"), (0, .methodref 36 249), (0, .nameAndType 188 250), (0, u "(II[B)I"), (146, .methodref 10 398), (0, .nameAndType 217 69), (0, .methodref 1 220), (3, u "()[B"), (40, .class_ 445), (0, u "java/lang/Appendable"), (65, u "(I)Ljava/lang/AbstractStringBuilder;"), (40, u "getValue")] 56

def k15m0 : Method := { name := "<init>", desc := "()V", sig := { parameters := [], returnType := none }, accessFlags := 0, code := none }
def k15c1 : Code := { maxStack := 2, maxLocals := 2, code := jdk_68_method_2_code, exceptionTable := #[], attributes := #[] }
def k15m1 : Method := { name := "<init>", desc := "(I)V", sig := { parameters := [.int], returnType := none }, accessFlags := 0, code := some k15c1 }
def k15c2 : Code := { maxStack := 1, maxLocals := 1, code := jdk_68_method_6_code, exceptionTable := #[], attributes := #[] }
def k15m2 : Method := { name := "length", desc := "()I", sig := { parameters := [], returnType := some .int }, accessFlags := 1, code := some k15c2 }
def k15c3 : Code := { maxStack := 4, maxLocals := 3, code := jdk_68_method_9_code, exceptionTable := #[], attributes := #[] }
def k15m3 : Method := { name := "ensureCapacityInternal", desc := "(I)V", sig := { parameters := [.int], returnType := none }, accessFlags := 2, code := some k15c3 }
def k15c4 : Code := { maxStack := 5, maxLocals := 6, code := jdk_68_method_10_code, exceptionTable := #[], attributes := #[] }
def k15m4 : Method := { name := "newCapacity", desc := "(I)I", sig := { parameters := [.int], returnType := some .int }, accessFlags := 2, code := some k15c4 }
def k15c5 : Code := { maxStack := 3, maxLocals := 3, code := jdk_68_method_22_code, exceptionTable := #[], attributes := #[] }
def k15m5 : Method := { name := "append", desc := "(Ljava/lang/String;)Ljava/lang/AbstractStringBuilder;", sig := { parameters := [(.object "java/lang/String")], returnType := some (.object "java/lang/AbstractStringBuilder") }, accessFlags := 1, code := some k15c5 }
def k15c6 : Code := { maxStack := 4, maxLocals := 4, code := jdk_68_method_32_code, exceptionTable := #[], attributes := #[] }
def k15m6 : Method := { name := "append", desc := "(I)Ljava/lang/AbstractStringBuilder;", sig := { parameters := [.int], returnType := some (.object "java/lang/AbstractStringBuilder") }, accessFlags := 1, code := some k15c6 }
def k15c7 : Code := { maxStack := 1, maxLocals := 1, code := jdk_68_method_64_code, exceptionTable := #[], attributes := #[] }
def k15m7 : Method := { name := "getValue", desc := "()[B", sig := { parameters := [], returnType := some (.array .byte) }, accessFlags := 16, code := some k15c7 }
def k15c8 : Code := { maxStack := 1, maxLocals := 1, code := jdk_68_method_68_code, exceptionTable := #[], attributes := #[] }
def k15m8 : Method := { name := "isLatin1", desc := "()Z", sig := { parameters := [], returnType := some .boolean }, accessFlags := 16, code := some k15c8 }
def k15c9 : Code := { maxStack := 2, maxLocals := 2, code := jdk_68_method_71_code, exceptionTable := #[], attributes := #[] }
def k15m9 : Method := { name := "inflateIfNeededFor", desc := "(Ljava/lang/String;)V", sig := { parameters := [(.object "java/lang/String")], returnType := none }, accessFlags := 2, code := some k15c9 }
def k15c10 : Code := { maxStack := 4, maxLocals := 3, code := jdk_68_method_73_code, exceptionTable := #[], attributes := #[] }
def k15m10 : Method := { name := "putStringAt", desc := "(ILjava/lang/String;)V", sig := { parameters := [.int, (.object "java/lang/String")], returnType := none }, accessFlags := 2, code := some k15c10 }
/-- java/lang/AbstractStringBuilder -/
def k15 : Class := { plain "java/lang/AbstractStringBuilder" (some 0) with
  accessFlags := 1056
  interfaces := #[14, 4]
  cf := some (fileOf pool15 10 #[] #[{ accessFlags := 0, nameIndex := 7, descriptorIndex := 8, attributes := #[] }, { accessFlags := 0, nameIndex := 7, descriptorIndex := 103, attributes := #[] }, { accessFlags := 1, nameIndex := 34, descriptorIndex := 35, attributes := #[] }, { accessFlags := 2, nameIndex := 102, descriptorIndex := 103, attributes := #[] }, { accessFlags := 2, nameIndex := 106, descriptorIndex := 107, attributes := #[] }, { accessFlags := 1, nameIndex := 45, descriptorIndex := 46, attributes := #[] }, { accessFlags := 1, nameIndex := 45, descriptorIndex := 511, attributes := #[] }, { accessFlags := 16, nameIndex := 552, descriptorIndex := 403, attributes := #[] }, { accessFlags := 16, nameIndex := 85, descriptorIndex := 86, attributes := #[] }, { accessFlags := 2, nameIndex := 217, descriptorIndex := 69, attributes := #[] }, { accessFlags := 2, nameIndex := 210, descriptorIndex := 211, attributes := #[] }] 1056 4 #[444, 48] #[{ accessFlags := 0, nameIndex := 17, descriptorIndex := 14, attributes := #[] }, { accessFlags := 0, nameIndex := 24, descriptorIndex := 25, attributes := #[] }, { accessFlags := 0, nameIndex := 75, descriptorIndex := 21, attributes := #[] }, { accessFlags := 0, nameIndex := 81, descriptorIndex := 82, attributes := #[] }, { accessFlags := 26, nameIndex := 13, descriptorIndex := 14, attributes := #[] }])
  fields := #[{ name := "value", type := (.array .byte), accessFlags := 0, slot := 0, constantValue := 0 }, { name := "coder", type := .byte, accessFlags := 0, slot := 1, constantValue := 0 }, { name := "maybeLatin1", type := .boolean, accessFlags := 0, slot := 2, constantValue := 0 }, { name := "count", type := .int, accessFlags := 0, slot := 3, constantValue := 0 }, { name := "EMPTYVALUE", type := (.array .byte), accessFlags := 26, slot := 0, constantValue := 0 }]
  methods := #[k15m0, k15m1, k15m2, k15m3, k15m4, k15m5, k15m6, k15m7, k15m8, k15m9, k15m10]
  instanceTypes := #[(.array .byte), .byte, .boolean, .int]
  staticTypes := #[(.array .byte)]
  resolved := Array.replicate 609 none
  statics := none }

def pool16 : Array CpInfo := pool [(1, .methodref 2 3), (0, .class_ 4), (0, .nameAndType 5 6), (0, u "java/lang/AbstractStringBuilder"), (0, u "<init>"), (0, u "(I)V"), (11, .class_ 20), (1, u "java/lang/String"), (3, .class_ 26), (1, u "java/lang/StringBuilder"), (0, u "append"), (0, u "(Ljava/lang/String;)Ljava/lang/StringBuilder;"), (0, .methodref 2 30), (0, .nameAndType 27 31), (0, u "(Ljava/lang/String;)Ljava/lang/AbstractStringBuilder;"), (21, .methodref 2 54), (0, .nameAndType 27 55), (0, u "(I)Ljava/lang/AbstractStringBuilder;"), (81, .methodref 18 138), (0, .nameAndType 5 139), (0, u "(Ljava/lang/StringBuilder;)V"), (5, u "()V"), (10, u "()I"), (111, u "(I)Ljava/lang/StringBuilder;"), (74, .methodref 2 344), (0, .nameAndType 345 156), (0, u "length"), (3, .class_ 350), (0, u "java/lang/Appendable"), (0, .class_ 352), (0, u "java/io/Serializable"), (0, .class_ 354), (0, u "java/lang/Comparable"), (0, .class_ 356), (0, u "java/lang/CharSequence"), (0, u "serialVersionUID"), (0, u "J"), (40, u "toString"), (0, u "()Ljava/lang/String;")] 21

def k16c0 : Code := { maxStack := 2, maxLocals := 1, code := jdk_67_method_1_code, exceptionTable := #[], attributes := #[] }
def k16m0 : Method := { name := "<init>", desc := "()V", sig := { parameters := [], returnType := none }, accessFlags := 1, code := some k16c0 }
def k16c1 : Code := { maxStack := 2, maxLocals := 2, code := jdk_67_method_7_code, exceptionTable := #[], attributes := #[] }
def k16m1 : Method := { name := "append", desc := "(Ljava/lang/String;)Ljava/lang/StringBuilder;", sig := { parameters := [(.object "java/lang/String")], returnType := some (.object "java/lang/StringBuilder") }, accessFlags := 1, code := some k16c1 }
def k16c2 : Code := { maxStack := 2, maxLocals := 2, code := jdk_67_method_15_code, exceptionTable := #[], attributes := #[] }
def k16m2 : Method := { name := "append", desc := "(I)Ljava/lang/StringBuilder;", sig := { parameters := [.int], returnType := some (.object "java/lang/StringBuilder") }, accessFlags := 1, code := some k16c2 }
def k16c3 : Code := { maxStack := 3, maxLocals := 1, code := jdk_67_method_42_code, exceptionTable := #[], attributes := #[] }
def k16m3 : Method := { name := "toString", desc := "()Ljava/lang/String;", sig := { parameters := [], returnType := some (.object "java/lang/String") }, accessFlags := 1, code := some k16c3 }
def k16c4 : Code := { maxStack := 1, maxLocals := 1, code := jdk_67_method_93_code, exceptionTable := #[], attributes := #[] }
def k16m4 : Method := { name := "length", desc := "()I", sig := { parameters := [], returnType := some .int }, accessFlags := 4161, code := some k16c4 }
/-- java/lang/StringBuilder -/
def k16 : Class := { plain "java/lang/StringBuilder" (some 15) with
  accessFlags := 49
  interfaces := #[14, 2, 3, 4]
  cf := some (fileOf pool16 24 #[] #[{ accessFlags := 1, nameIndex := 5, descriptorIndex := 145, attributes := #[] }, { accessFlags := 1, nameIndex := 27, descriptorIndex := 28, attributes := #[] }, { accessFlags := 1, nameIndex := 27, descriptorIndex := 268, attributes := #[] }, { accessFlags := 1, nameIndex := 399, descriptorIndex := 400, attributes := #[] }, { accessFlags := 4161, nameIndex := 345, descriptorIndex := 156, attributes := #[] }] 49 2 #[349, 351, 353, 355] #[{ accessFlags := 24, nameIndex := 357, descriptorIndex := 358, attributes := #[] }])
  fields := #[{ name := "serialVersionUID", type := .long, accessFlags := 24, slot := 0, constantValue := 0 }]
  methods := #[k16m0, k16m1, k16m2, k16m3, k16m4]
  instanceTypes := #[(.array .byte), .byte, .boolean, .int]
  staticTypes := #[.long]
  resolved := Array.replicate 422 none
  statics := none }

def pool17 : Array CpInfo := pool [(2, .class_ 4), (1, u "java/lang/Object"), (0, u "<init>"), (0, u "()V"), (1, .class_ 10), (1, u "java/lang/System"), (0, u "allowSecurityManager"), (0, u "I"), (16, u "cons"), (0, u "Ljava/io/Console;"), (77, .class_ 110), (1, u "java/lang/System$CallersHolder"), (43, u "initialErrStream"), (0, u "Ljava/io/PrintStream;"), (19, u "security"), (0, u "Ljava/lang/SecurityManager;"), (31, .class_ 209), (0, u "java/lang/System$1"), (7, u "props"), (0, u "Ljava/util/Properties;"), (2, u "lineSeparator"), (0, u "Ljava/lang/String;"), (96, .class_ 321), (1, u "java/lang/System$LoggerFinder"), (5, .class_ 328), (0, u "java/lang/System$Logger"), (67, u "err"), (2, u "out"), (91, u "notSupportedJnuEncoding"), (15, u "in"), (17, u "initialIn"), (0, u "Ljava/io/InputStream;"), (35, u "bootLayer"), (0, u "Ljava/lang/ModuleLayer;"), (99, .class_ 664), (0, u "java/lang/System$2"), (9, u "NEVER"), (2, u "MAYBE"), (49, u "arraycopy"), (0, u "(Ljava/lang/Object;ILjava/lang/Object;II)V"), (72, .class_ 802), (0, u "java/lang/System$Logger$Level")] 31

def k17m0 : Method := { name := "<init>", desc := "()V", sig := { parameters := [], returnType := none }, accessFlags := 2, code := none }
def k17m1 : Method := { name := "arraycopy", desc := "(Ljava/lang/Object;ILjava/lang/Object;II)V", sig := { parameters := [(.object "java/lang/Object"), .int, (.object "java/lang/Object"), .int, .int], returnType := none }, accessFlags := 265, code := none }
/-- java/lang/System -/
def k17 : Class := { plain "java/lang/System" (some 0) with
  accessFlags := 49
  interfaces := #[]
  cf := some (fileOf pool17 8 #[.nestMembers #[319, 327, 801, 108, 663, 208]] #[{ accessFlags := 2, nameIndex := 5, descriptorIndex := 6, attributes := #[] }, { accessFlags := 265, nameIndex := 727, descriptorIndex := 728, attributes := #[] }] 49 2 #[] #[{ accessFlags := 25, nameIndex := 507, descriptorIndex := 526, attributes := #[] }, { accessFlags := 25, nameIndex := 399, descriptorIndex := 155, attributes := #[] }, { accessFlags := 25, nameIndex := 396, descriptorIndex := 155, attributes := #[] }, { accessFlags := 10, nameIndex := 525, descriptorIndex := 526, attributes := #[] }, { accessFlags := 26, nameIndex := 674, descriptorIndex := 12, attributes := #[] }, { accessFlags := 26, nameIndex := 677, descriptorIndex := 12, attributes := #[] }, { accessFlags := 10, nameIndex := 11, descriptorIndex := 12, attributes := #[] }, { accessFlags := 74, nameIndex := 175, descriptorIndex := 176, attributes := #[] }, { accessFlags := 10, nameIndex := 491, descriptorIndex := 222, attributes := #[] }, { accessFlags := 74, nameIndex := 29, descriptorIndex := 30, attributes := #[] }, { accessFlags := 74, nameIndex := 154, descriptorIndex := 155, attributes := #[] }, { accessFlags := 10, nameIndex := 217, descriptorIndex := 218, attributes := #[] }, { accessFlags := 10, nameIndex := 221, descriptorIndex := 222, attributes := #[] }, { accessFlags := 8, nameIndex := 562, descriptorIndex := 563, attributes := #[] }])
  fields := #[{ name := "in", type := (.object "java/io/InputStream"), accessFlags := 25, slot := 0, constantValue := 0 }, { name := "out", type := (.object "java/io/PrintStream"), accessFlags := 25, slot := 1, constantValue := 0 }, { name := "err", type := (.object "java/io/PrintStream"), accessFlags := 25, slot := 2, constantValue := 0 }, { name := "initialIn", type := (.object "java/io/InputStream"), accessFlags := 10, slot := 3, constantValue := 0 }, { name := "NEVER", type := .int, accessFlags := 26, slot := 4, constantValue := 0 }, { name := "MAYBE", type := .int, accessFlags := 26, slot := 5, constantValue := 0 }, { name := "allowSecurityManager", type := .int, accessFlags := 10, slot := 6, constantValue := 0 }, { name := "security", type := (.object "java/lang/SecurityManager"), accessFlags := 74, slot := 7, constantValue := 0 }, { name := "notSupportedJnuEncoding", type := (.object "java/lang/String"), accessFlags := 10, slot := 8, constantValue := 0 }, { name := "cons", type := (.object "java/io/Console"), accessFlags := 74, slot := 9, constantValue := 0 }, { name := "initialErrStream", type := (.object "java/io/PrintStream"), accessFlags := 74, slot := 10, constantValue := 0 }, { name := "props", type := (.object "java/util/Properties"), accessFlags := 10, slot := 11, constantValue := 0 }, { name := "lineSeparator", type := (.object "java/lang/String"), accessFlags := 10, slot := 12, constantValue := 0 }, { name := "bootLayer", type := (.object "java/lang/ModuleLayer"), accessFlags := 8, slot := 13, constantValue := 0 }]
  methods := #[k17m0, k17m1]
  instanceTypes := #[]
  staticTypes := #[(.object "java/io/InputStream"), (.object "java/io/PrintStream"), (.object "java/io/PrintStream"), (.object "java/io/InputStream"), .int, .int, .int, (.object "java/lang/SecurityManager"), (.object "java/lang/String"), (.object "java/io/Console"), (.object "java/io/PrintStream"), (.object "java/util/Properties"), (.object "java/lang/String"), (.object "java/lang/ModuleLayer")]
  resolved := Array.replicate 834 none
  statics := none }

def pool18 : Array CpInfo := pool [(2, .class_ 4), (1, u "java/lang/Object"), (0, u "<init>"), (0, u "()V"), (1, .class_ 10), (1, u "java/lang/Number"), (2, .class_ 14), (0, u "java/io/Serializable"), (0, u "serialVersionUID"), (0, u "J")] 20

def k18m0 : Method := { name := "<init>", desc := "()V", sig := { parameters := [], returnType := none }, accessFlags := 1, code := none }
/-- java/lang/Number -/
def k18 : Class := { plain "java/lang/Number" (some 0) with
  accessFlags := 1057
  interfaces := #[2]
  cf := some (fileOf pool18 8 #[] #[{ accessFlags := 1, nameIndex := 5, descriptorIndex := 6, attributes := #[] }] 1057 2 #[13] #[{ accessFlags := 26, nameIndex := 15, descriptorIndex := 16, attributes := #[] }])
  fields := #[{ name := "serialVersionUID", type := .long, accessFlags := 26, slot := 0, constantValue := 0 }]
  methods := #[k18m0]
  instanceTypes := #[]
  staticTypes := #[.long]
  resolved := Array.replicate 37 none
  statics := none }

def pool19 : Array CpInfo := pool [(1, .class_ 2), (0, u "java/lang/Integer"), (16, u "digits"), (0, u "[C"), (33, u "(I)I"), (19, u "stringSize"), (2, u "getChars"), (0, u "(II[B)I"), (4, .fieldref 1 84), (0, .nameAndType 85 86), (0, u "DigitOnes"), (0, u "[B"), (0, .fieldref 1 88), (0, .nameAndType 89 86), (0, u "DigitTens"), (99, .class_ 190), (0, u "java/lang/Integer$IntegerCache"), (3, u "I"), (8, .class_ 204), (0, u "java/lang/Number"), (2, u "value"), (94, u "TYPE"), (0, u "Ljava/lang/Class;"), (0, .class_ 305), (0, u "java/lang/Comparable"), (0, .class_ 307), (0, u "java/lang/constant/Constable"), (0, .class_ 309), (0, u "java/lang/constant/ConstantDesc"), (0, u "MIN_VALUE"), (1, u "MAX_VALUE"), (3, u "SIZE"), (1, u "BYTES"), (1, u "serialVersionUID"), (0, u "J")] 131

def k19c0 : Code := { maxStack := 4, maxLocals := 7, code := jdk_33_method_12_code, exceptionTable := #[], attributes := #[] }
def k19m0 : Method := { name := "getChars", desc := "(II[B)I", sig := { parameters := [.int, .int, (.array .byte)], returnType := some .int }, accessFlags := 8, code := some k19c0 }
def k19c1 : Code := { maxStack := 2, maxLocals := 4, code := jdk_33_method_13_code, exceptionTable := #[], attributes := #[] }
def k19m1 : Method := { name := "stringSize", desc := "(I)I", sig := { parameters := [.int], returnType := some .int }, accessFlags := 8, code := some k19c1 }
/-- java/lang/Integer -/
def k19 : Class := { plain "java/lang/Integer" (some 18) with
  accessFlags := 49
  interfaces := #[3, 5, 6]
  cf := some (fileOf pool19 1 #[.nestMembers #[189]] #[{ accessFlags := 8, nameIndex := 77, descriptorIndex := 78, attributes := #[] }, { accessFlags := 8, nameIndex := 74, descriptorIndex := 54, attributes := #[] }] 49 203 #[304, 306, 308] #[{ accessFlags := 25, nameIndex := 310, descriptorIndex := 194, attributes := #[] }, { accessFlags := 25, nameIndex := 312, descriptorIndex := 194, attributes := #[] }, { accessFlags := 25, nameIndex := 302, descriptorIndex := 303, attributes := #[] }, { accessFlags := 24, nameIndex := 19, descriptorIndex := 20, attributes := #[] }, { accessFlags := 24, nameIndex := 89, descriptorIndex := 86, attributes := #[] }, { accessFlags := 24, nameIndex := 85, descriptorIndex := 86, attributes := #[] }, { accessFlags := 18, nameIndex := 207, descriptorIndex := 194, attributes := #[] }, { accessFlags := 25, nameIndex := 316, descriptorIndex := 194, attributes := #[] }, { accessFlags := 25, nameIndex := 318, descriptorIndex := 194, attributes := #[] }, { accessFlags := 26, nameIndex := 320, descriptorIndex := 321, attributes := #[] }])
  fields := #[{ name := "MIN_VALUE", type := .int, accessFlags := 25, slot := 0, constantValue := 0 }, { name := "MAX_VALUE", type := .int, accessFlags := 25, slot := 1, constantValue := 0 }, { name := "TYPE", type := (.object "java/lang/Class"), accessFlags := 25, slot := 2, constantValue := 0 }, { name := "digits", type := (.array .char), accessFlags := 24, slot := 3, constantValue := 0 }, { name := "DigitTens", type := (.array .byte), accessFlags := 24, slot := 4, constantValue := 0 }, { name := "DigitOnes", type := (.array .byte), accessFlags := 24, slot := 5, constantValue := 0 }, { name := "value", type := .int, accessFlags := 18, slot := 0, constantValue := 0 }, { name := "SIZE", type := .int, accessFlags := 25, slot := 6, constantValue := 0 }, { name := "BYTES", type := .int, accessFlags := 25, slot := 7, constantValue := 0 }, { name := "serialVersionUID", type := .long, accessFlags := 26, slot := 8, constantValue := 0 }]
  methods := #[k19m0, k19m1]
  instanceTypes := #[.int]
  staticTypes := #[.int, .int, (.object "java/lang/Class"), (.array .char), (.array .byte), (.array .byte), .int, .int, .long]
  resolved := Array.replicate 453 none
  statics := some 2 }

def pool20 : Array CpInfo := pool [(2, .class_ 4), (1, u "java/lang/Object"), (0, u "<init>"), (0, u "()V"), (7, .class_ 16), (1, u "java/util/Arrays"), (57, .class_ 76), (1, u "java/util/Arrays$NaturalOrder"), (32, u "()Ljava/lang/Object;"), (3, .class_ 115), (1, u "java/util/Arrays$LegacyMergeSort"), (1, u "Z"), (10, .nameAndType 129 109), (0, u "clone"), (9, u "copyOfRange"), (10, .methodref 151 152), (0, .class_ 153), (0, .nameAndType 154 155), (0, u "java/lang/System"), (0, u "arraycopy"), (0, u "(Ljava/lang/Object;ILjava/lang/Object;II)V"), (146, u "copyOf"), (1, .methodref 305 306), (0, .class_ 307), (0, .nameAndType 308 309), (0, u "java/lang/Math"), (0, u "min"), (0, u "(II)I"), (0, .methodref 311 128), (0, .class_ 312), (0, u "[B"), (26, .methodref 14 340), (0, .nameAndType 341 342), (0, u "copyOfRangeByte"), (0, u "([BII)[B"), (0, .methodref 14 344), (0, .nameAndType 345 346), (0, u "checkLength"), (0, u "(II)V"), (28, .class_ 376), (0, u "java/util/Arrays$ArrayList"), (68, u "$assertionsDisabled"), (269, u "MIN_ARRAY_SORT_GRAN"), (0, u "I"), (2, u "INSERTIONSORT_THRESHOLD"), (149, u "([BI)[B"), (105, .class_ 976), (0, u "java/util/Arrays$ArrayItr")] 52

def k20m0 : Method := { name := "<init>", desc := "()V", sig := { parameters := [], returnType := none }, accessFlags := 2, code := none }
def k20c1 : Code := { maxStack := 6, maxLocals := 3, code := jdk_65_method_121_code, exceptionTable := #[], attributes := #[] }
def k20m1 : Method := { name := "copyOf", desc := "([BI)[B", sig := { parameters := [(.array .byte), .int], returnType := some (.array .byte) }, accessFlags := 9, code := some k20c1 }
def k20c2 : Code := { maxStack := 4, maxLocals := 2, code := jdk_65_method_131_code, exceptionTable := #[], attributes := #[] }
def k20m2 : Method := { name := "checkLength", desc := "(II)V", sig := { parameters := [.int, .int], returnType := none }, accessFlags := 10, code := some k20c2 }
def k20c3 : Code := { maxStack := 3, maxLocals := 3, code := jdk_65_method_132_code, exceptionTable := #[], attributes := #[] }
def k20m3 : Method := { name := "copyOfRange", desc := "([BII)[B", sig := { parameters := [(.array .byte), .int, .int], returnType := some (.array .byte) }, accessFlags := 9, code := some k20c3 }
def k20c4 : Code := { maxStack := 6, maxLocals := 5, code := jdk_65_method_133_code, exceptionTable := #[], attributes := #[] }
def k20m4 : Method := { name := "copyOfRangeByte", desc := "([BII)[B", sig := { parameters := [(.array .byte), .int, .int], returnType := some (.array .byte) }, accessFlags := 10, code := some k20c4 }
/-- java/util/Arrays -/
def k20 : Class := { plain "java/util/Arrays" (some 0) with
  accessFlags := 49
  interfaces := #[]
  cf := some (fileOf pool20 14 #[.nestMembers #[975, 375, 113, 74]] #[{ accessFlags := 2, nameIndex := 5, descriptorIndex := 6, attributes := #[] }, { accessFlags := 9, nameIndex := 302, descriptorIndex := 869, attributes := #[] }, { accessFlags := 10, nameIndex := 345, descriptorIndex := 346, attributes := #[] }, { accessFlags := 9, nameIndex := 139, descriptorIndex := 342, attributes := #[] }, { accessFlags := 10, nameIndex := 341, descriptorIndex := 342, attributes := #[] }] 49 2 #[] #[{ accessFlags := 26, nameIndex := 715, descriptorIndex := 716, attributes := #[] }, { accessFlags := 26, nameIndex := 719, descriptorIndex := 716, attributes := #[] }, { accessFlags := 4120, nameIndex := 445, descriptorIndex := 117, attributes := #[] }])
  fields := #[{ name := "MIN_ARRAY_SORT_GRAN", type := .int, accessFlags := 26, slot := 0, constantValue := 0 }, { name := "INSERTIONSORT_THRESHOLD", type := .int, accessFlags := 26, slot := 1, constantValue := 0 }, { name := "$assertionsDisabled", type := .boolean, accessFlags := 4120, slot := 2, constantValue := 0 }]
  methods := #[k20m0, k20m1, k20m2, k20m3, k20m4]
  instanceTypes := #[]
  staticTypes := #[.int, .int, .boolean]
  resolved := Array.replicate 1029 none
  statics := none }

def pool21 : Array CpInfo := pool [(1, .class_ 2), (0, u "java/lang/Math"), (1, .class_ 6), (1, u "java/lang/Object"), (0, u "<init>"), (0, u "()V"), (89, .class_ 100), (1, u "java/lang/Math$RandomNumberGeneratorHolder"), (23, u "abs"), (0, u "(J)J"), (33, u "(I)I"), (12, u "negativeZeroFloatBits"), (0, u "J"), (2, u "negativeZeroDoubleBits"), (21, u "max"), (2, u "min"), (43, u "$assertionsDisabled"), (0, u "Z"), (88, u "(II)I"), (2, u "twoToTheDoubleScaleDown"), (0, u "D"), (4, u "twoToTheDoubleScaleUp"), (9, u "E"), (3, u "PI"), (2, u "TAU"), (2, u "DEGREES_TO_RADIANS"), (0, u "RADIANS_TO_DEGREES")] 94

def k21m0 : Method := { name := "<init>", desc := "()V", sig := { parameters := [], returnType := none }, accessFlags := 2, code := none }
def k21c1 : Code := { maxStack := 1, maxLocals := 1, code := jdk_29_method_59_code, exceptionTable := #[], attributes := #[] }
def k21m1 : Method := { name := "abs", desc := "(I)I", sig := { parameters := [.int], returnType := some .int }, accessFlags := 9, code := some k21c1 }
def k21c2 : Code := { maxStack := 4, maxLocals := 2, code := jdk_29_method_61_code, exceptionTable := #[], attributes := #[] }
def k21m2 : Method := { name := "abs", desc := "(J)J", sig := { parameters := [.long], returnType := some .long }, accessFlags := 9, code := some k21c2 }
def k21c3 : Code := { maxStack := 2, maxLocals := 2, code := jdk_29_method_65_code, exceptionTable := #[], attributes := #[] }
def k21m3 : Method := { name := "max", desc := "(II)I", sig := { parameters := [.int, .int], returnType := some .int }, accessFlags := 9, code := some k21c3 }
def k21c4 : Code := { maxStack := 2, maxLocals := 2, code := jdk_29_method_69_code, exceptionTable := #[], attributes := #[] }
def k21m4 : Method := { name := "min", desc := "(II)I", sig := { parameters := [.int, .int], returnType := some .int }, accessFlags := 9, code := some k21c4 }
/-- java/lang/Math -/
def k21 : Class := { plain "java/lang/Math" (some 0) with
  accessFlags := 49
  interfaces := #[]
  cf := some (fileOf pool21 1 #[.nestMembers #[98]] #[{ accessFlags := 2, nameIndex := 7, descriptorIndex := 8, attributes := #[] }, { accessFlags := 9, nameIndex := 124, descriptorIndex := 159, attributes := #[] }, { accessFlags := 9, nameIndex := 124, descriptorIndex := 125, attributes := #[] }, { accessFlags := 9, nameIndex := 198, descriptorIndex := 335, attributes := #[] }, { accessFlags := 9, nameIndex := 201, descriptorIndex := 335, attributes := #[] }] 49 4 #[] #[{ accessFlags := 25, nameIndex := 354, descriptorIndex := 339, attributes := #[] }, { accessFlags := 25, nameIndex := 358, descriptorIndex := 339, attributes := #[] }, { accessFlags := 25, nameIndex := 361, descriptorIndex := 339, attributes := #[] }, { accessFlags := 26, nameIndex := 364, descriptorIndex := 339, attributes := #[] }, { accessFlags := 26, nameIndex := 365, descriptorIndex := 339, attributes := #[] }, { accessFlags := 26, nameIndex := 172, descriptorIndex := 173, attributes := #[] }, { accessFlags := 26, nameIndex := 176, descriptorIndex := 173, attributes := #[] }, { accessFlags := 8, nameIndex := 344, descriptorIndex := 339, attributes := #[] }, { accessFlags := 8, nameIndex := 338, descriptorIndex := 339, attributes := #[] }, { accessFlags := 4120, nameIndex := 245, descriptorIndex := 246, attributes := #[] }])
  fields := #[{ name := "E", type := .double, accessFlags := 25, slot := 0, constantValue := 0 }, { name := "PI", type := .double, accessFlags := 25, slot := 1, constantValue := 0 }, { name := "TAU", type := .double, accessFlags := 25, slot := 2, constantValue := 0 }, { name := "DEGREES_TO_RADIANS", type := .double, accessFlags := 26, slot := 3, constantValue := 0 }, { name := "RADIANS_TO_DEGREES", type := .double, accessFlags := 26, slot := 4, constantValue := 0 }, { name := "negativeZeroFloatBits", type := .long, accessFlags := 26, slot := 5, constantValue := 0 }, { name := "negativeZeroDoubleBits", type := .long, accessFlags := 26, slot := 6, constantValue := 0 }, { name := "twoToTheDoubleScaleUp", type := .double, accessFlags := 8, slot := 7, constantValue := 0 }, { name := "twoToTheDoubleScaleDown", type := .double, accessFlags := 8, slot := 8, constantValue := 0 }, { name := "$assertionsDisabled", type := .boolean, accessFlags := 4120, slot := 9, constantValue := 0 }]
  methods := #[k21m0, k21m1, k21m2, k21m3, k21m4]
  instanceTypes := #[]
  staticTypes := #[.double, .double, .double, .double, .double, .long, .long, .double, .double, .boolean]
  resolved := Array.replicate 460 none
  statics := none }

def pool22 : Array CpInfo := pool [(2, .class_ 4), (1, u "java/lang/Object"), (0, u "<init>"), (0, u "()V"), (17, .class_ 26), (1, u "jdk/internal/util/Preconditions"), (6, u "checkIndex"), (21, .class_ 56), (0, u "jdk/internal/util/Preconditions$4"), (57, .class_ 115), (0, u "jdk/internal/util/Preconditions$1"), (7, u "SIOOBE_FORMATTER"), (0, u "Ljava/util/function/BiFunction;"), (0, .class_ 126), (0, u "jdk/internal/util/Preconditions$2"), (3, u "AIOOBE_FORMATTER"), (0, .class_ 132), (0, u "jdk/internal/util/Preconditions$3"), (3, u "IOOBE_FORMATTER"), (41, u "(IILjava/util/function/BiFunction;)I")] 15

def k22m0 : Method := { name := "<init>", desc := "()V", sig := { parameters := [], returnType := none }, accessFlags := 1, code := none }
def k22c1 : Code := { maxStack := 3, maxLocals := 3, code := jdk_41_method_11_code, exceptionTable := #[], attributes := #[] }
def k22m1 : Method := { name := "checkIndex", desc := "(IILjava/util/function/BiFunction;)I", sig := { parameters := [.int, .int, (.object "java/util/function/BiFunction")], returnType := some .int }, accessFlags := 9, code := some k22c1 }
/-- jdk/internal/util/Preconditions -/
def k22 : Class := { plain "jdk/internal/util/Preconditions" (some 0) with
  accessFlags := 33
  interfaces := #[]
  cf := some (fileOf pool22 24 #[.nestMembers #[55, 131, 125, 114]] #[{ accessFlags := 1, nameIndex := 5, descriptorIndex := 6, attributes := #[] }, { accessFlags := 9, nameIndex := 33, descriptorIndex := 178, attributes := #[] }] 33 2 #[] #[{ accessFlags := 25, nameIndex := 123, descriptorIndex := 124, attributes := #[] }, { accessFlags := 25, nameIndex := 130, descriptorIndex := 124, attributes := #[] }, { accessFlags := 25, nameIndex := 136, descriptorIndex := 124, attributes := #[] }])
  fields := #[{ name := "SIOOBE_FORMATTER", type := (.object "java/util/function/BiFunction"), accessFlags := 25, slot := 0, constantValue := 0 }, { name := "AIOOBE_FORMATTER", type := (.object "java/util/function/BiFunction"), accessFlags := 25, slot := 1, constantValue := 0 }, { name := "IOOBE_FORMATTER", type := (.object "java/util/function/BiFunction"), accessFlags := 25, slot := 2, constantValue := 0 }]
  methods := #[k22m0, k22m1]
  instanceTypes := #[]
  staticTypes := #[(.object "java/util/function/BiFunction"), (.object "java/util/function/BiFunction"), (.object "java/util/function/BiFunction")]
  resolved := Array.replicate 194 none
  statics := some 3 }

def pool23 : Array CpInfo := pool [(6, .class_ 8), (1, u "java/lang/Object"), (0, u "<init>"), (0, u "()V"), (1, .class_ 14), (1, u "java/lang/StringUTF16"), (31, u "$assertionsDisabled"), (0, u "Z"), (13, u "HI_BYTE_SHIFT"), (0, u "I"), (2, u "LO_BYTE_SHIFT"), (49, .methodref 12 116), (0, .nameAndType 117 118), (0, u "compress"), (0, u "([CI[BII)I"), (3, u "([CII)[B"), (138, u "coderFromArrayLen"), (0, u "([BI)B"), (106, .class_ 371), (1, u "java/lang/StringUTF16$LinesSpliterator"), (58, u "MAX_LENGTH"), (196, .class_ 628), (0, u "java/lang/StringUTF16$CodePointsSpliterator"), (0, .class_ 630), (0, u "java/lang/StringUTF16$CharsSpliterator")] 4

def k23m0 : Method := { name := "<init>", desc := "()V", sig := { parameters := [], returnType := none }, accessFlags := 0, code := none }
def k23c1 : Code := { maxStack := 2, maxLocals := 2, code := jdk_52_method_15_code, exceptionTable := #[], attributes := #[] }
def k23m1 : Method := { name := "coderFromArrayLen", desc := "([BI)B", sig := { parameters := [(.array .byte), .int], returnType := some .byte }, accessFlags := 8, code := some k23c1 }
def k23c2 : Code := { maxStack := 5, maxLocals := 6, code := jdk_52_method_16_code, exceptionTable := #[], attributes := #[] }
def k23m2 : Method := { name := "compress", desc := "([CII)[B", sig := { parameters := [(.array .char), .int, .int], returnType := some (.array .byte) }, accessFlags := 9, code := some k23c2 }
def k23c3 : Code := { maxStack := 3, maxLocals := 7, code := jdk_52_method_21_code, exceptionTable := #[], attributes := #[] }
def k23m3 : Method := { name := "compress", desc := "([CI[BII)I", sig := { parameters := [(.array .char), .int, (.array .byte), .int, .int], returnType := some .int }, accessFlags := 9, code := some k23c3 }
/-- java/lang/StringUTF16 -/
def k23 : Class := { plain "java/lang/StringUTF16" (some 0) with
  accessFlags := 48
  interfaces := #[]
  cf := some (fileOf pool23 12 #[.nestMembers #[627, 629, 369]] #[{ accessFlags := 0, nameIndex := 9, descriptorIndex := 10, attributes := #[] }, { accessFlags := 8, nameIndex := 261, descriptorIndex := 262, attributes := #[] }, { accessFlags := 9, nameIndex := 117, descriptorIndex := 122, attributes := #[] }, { accessFlags := 9, nameIndex := 117, descriptorIndex := 118, attributes := #[] }] 48 6 #[] #[{ accessFlags := 26, nameIndex := 61, descriptorIndex := 62, attributes := #[] }, { accessFlags := 26, nameIndex := 65, descriptorIndex := 62, attributes := #[] }, { accessFlags := 24, nameIndex := 430, descriptorIndex := 62, attributes := #[] }, { accessFlags := 4120, nameIndex := 46, descriptorIndex := 47, attributes := #[] }])
  fields := #[{ name := "HI_BYTE_SHIFT", type := .int, accessFlags := 26, slot := 0, constantValue := 0 }, { name := "LO_BYTE_SHIFT", type := .int, accessFlags := 26, slot := 1, constantValue := 0 }, { name := "MAX_LENGTH", type := .int, accessFlags := 24, slot := 2, constantValue := 0 }, { name := "$assertionsDisabled", type := .boolean, accessFlags := 4120, slot := 3, constantValue := 0 }]
  methods := #[k23m0, k23m1, k23m2, k23m3]
  instanceTypes := #[]
  staticTypes := #[.int, .int, .int, .boolean]
  resolved := Array.replicate 635 none
  statics := none }

def pool24 : Array CpInfo := pool [(1, .class_ 2), (0, u "java/lang/Cloneable"), (0, .class_ 4), (0, u "java/lang/Object")] 2

/-- java/lang/Cloneable -/
def k24 : Class := { plain "java/lang/Cloneable" (some 0) with
  accessFlags := 1537
  interfaces := #[]
  cf := some (fileOf pool24 1 #[] #[] 1537 3 #[] #[])
  fields := #[]
  methods := #[]
  instanceTypes := #[]
  staticTypes := #[]
  resolved := Array.replicate 7 none
  statics := none }

def pool25 : Array CpInfo := pool [(9, u "<init>"), (6, .class_ 18), (1, u "java/lang/Object"), (0, u "()V"), (1, .class_ 23), (1, u "jdk/internal/util/ArraysSupport"), (0, u "LOG2_ARRAY_LONG_INDEX_SCALE"), (0, u "I"), (2, u "U"), (0, u "Ljdk/internal/misc/Unsafe;"), (8, u "BIG_ENDIAN"), (0, u "Z"), (8, u "LOG2_BYTE_BIT_SIZE"), (4, u "LOG2_ARRAY_INT_INDEX_SCALE"), (54, u "JLA"), (0, u "Ljdk/internal/access/JavaLangAccess;"), (11, u "LOG2_ARRAY_BOOLEAN_INDEX_SCALE"), (9, u "LOG2_ARRAY_BYTE_INDEX_SCALE"), (5, u "LOG2_ARRAY_CHAR_INDEX_SCALE"), (5, u "LOG2_ARRAY_SHORT_INDEX_SCALE"), (18, u "LOG2_ARRAY_FLOAT_INDEX_SCALE"), (24, u "LOG2_ARRAY_DOUBLE_INDEX_SCALE"), (6, .methodref 195 196), (0, .class_ 197), (0, .nameAndType 198 199), (0, u "java/lang/Math"), (0, u "max"), (0, u "(II)I"), (0, .integer 2147483639), (76, u "T_BOOLEAN"), (2, u "T_CHAR"), (1, u "T_FLOAT"), (1, u "T_DOUBLE"), (1, u "T_BYTE"), (1, u "T_SHORT"), (1, u "T_INT"), (1, u "T_LONG"), (1, u "SOFT_MAX_ARRAY_LENGTH"), (56, u "newLength"), (0, u "(III)I")] 25

def k25m0 : Method := { name := "<init>", desc := "()V", sig := { parameters := [], returnType := none }, accessFlags := 2, code := none }
def k25c1 : Code := { maxStack := 3, maxLocals := 4, code := jdk_48_method_27_code, exceptionTable := #[], attributes := #[] }
def k25m1 : Method := { name := "newLength", desc := "(III)I", sig := { parameters := [.int, .int, .int], returnType := some .int }, accessFlags := 9, code := some k25c1 }
/-- jdk/internal/util/ArraysSupport -/
def k25 : Class := { plain "jdk/internal/util/ArraysSupport" (some 0) with
  accessFlags := 33
  interfaces := #[]
  cf := some (fileOf pool25 21 #[] #[{ accessFlags := 2, nameIndex := 9, descriptorIndex := 19, attributes := #[] }, { accessFlags := 9, nameIndex := 351, descriptorIndex := 352, attributes := #[] }] 33 16 #[] #[{ accessFlags := 24, nameIndex := 28, descriptorIndex := 29, attributes := #[] }, { accessFlags := 26, nameIndex := 38, descriptorIndex := 39, attributes := #[] }, { accessFlags := 25, nameIndex := 121, descriptorIndex := 25, attributes := #[] }, { accessFlags := 25, nameIndex := 131, descriptorIndex := 25, attributes := #[] }, { accessFlags := 25, nameIndex := 137, descriptorIndex := 25, attributes := #[] }, { accessFlags := 25, nameIndex := 143, descriptorIndex := 25, attributes := #[] }, { accessFlags := 25, nameIndex := 53, descriptorIndex := 25, attributes := #[] }, { accessFlags := 25, nameIndex := 24, descriptorIndex := 25, attributes := #[] }, { accessFlags := 25, nameIndex := 162, descriptorIndex := 25, attributes := #[] }, { accessFlags := 25, nameIndex := 187, descriptorIndex := 25, attributes := #[] }, { accessFlags := 26, nameIndex := 48, descriptorIndex := 25, attributes := #[] }, { accessFlags := 25, nameIndex := 277, descriptorIndex := 25, attributes := #[] }, { accessFlags := 25, nameIndex := 280, descriptorIndex := 25, attributes := #[] }, { accessFlags := 25, nameIndex := 282, descriptorIndex := 25, attributes := #[] }, { accessFlags := 25, nameIndex := 284, descriptorIndex := 25, attributes := #[] }, { accessFlags := 25, nameIndex := 286, descriptorIndex := 25, attributes := #[] }, { accessFlags := 25, nameIndex := 288, descriptorIndex := 25, attributes := #[] }, { accessFlags := 25, nameIndex := 290, descriptorIndex := 25, attributes := #[] }, { accessFlags := 25, nameIndex := 292, descriptorIndex := 25, attributes := #[] }, { accessFlags := 26, nameIndex := 108, descriptorIndex := 109, attributes := #[] }, { accessFlags := 25, nameIndex := 294, descriptorIndex := 25, attributes := #[] }])
  fields := #[{ name := "U", type := (.object "jdk/internal/misc/Unsafe"), accessFlags := 24, slot := 0, constantValue := 0 }, { name := "BIG_ENDIAN", type := .boolean, accessFlags := 26, slot := 1, constantValue := 0 }, { name := "LOG2_ARRAY_BOOLEAN_INDEX_SCALE", type := .int, accessFlags := 25, slot := 2, constantValue := 0 }, { name := "LOG2_ARRAY_BYTE_INDEX_SCALE", type := .int, accessFlags := 25, slot := 3, constantValue := 0 }, { name := "LOG2_ARRAY_CHAR_INDEX_SCALE", type := .int, accessFlags := 25, slot := 4, constantValue := 0 }, { name := "LOG2_ARRAY_SHORT_INDEX_SCALE", type := .int, accessFlags := 25, slot := 5, constantValue := 0 }, { name := "LOG2_ARRAY_INT_INDEX_SCALE", type := .int, accessFlags := 25, slot := 6, constantValue := 0 }, { name := "LOG2_ARRAY_LONG_INDEX_SCALE", type := .int, accessFlags := 25, slot := 7, constantValue := 0 }, { name := "LOG2_ARRAY_FLOAT_INDEX_SCALE", type := .int, accessFlags := 25, slot := 8, constantValue := 0 }, { name := "LOG2_ARRAY_DOUBLE_INDEX_SCALE", type := .int, accessFlags := 25, slot := 9, constantValue := 0 }, { name := "LOG2_BYTE_BIT_SIZE", type := .int, accessFlags := 26, slot := 10, constantValue := 0 }, { name := "T_BOOLEAN", type := .int, accessFlags := 25, slot := 11, constantValue := 0 }, { name := "T_CHAR", type := .int, accessFlags := 25, slot := 12, constantValue := 0 }, { name := "T_FLOAT", type := .int, accessFlags := 25, slot := 13, constantValue := 0 }, { name := "T_DOUBLE", type := .int, accessFlags := 25, slot := 14, constantValue := 0 }, { name := "T_BYTE", type := .int, accessFlags := 25, slot := 15, constantValue := 0 }, { name := "T_SHORT", type := .int, accessFlags := 25, slot := 16, constantValue := 0 }, { name := "T_INT", type := .int, accessFlags := 25, slot := 17, constantValue := 0 }, { name := "T_LONG", type := .int, accessFlags := 25, slot := 18, constantValue := 0 }, { name := "JLA", type := (.object "jdk/internal/access/JavaLangAccess"), accessFlags := 26, slot := 19, constantValue := 0 }, { name := "SOFT_MAX_ARRAY_LENGTH", type := .int, accessFlags := 25, slot := 20, constantValue := 0 }]
  methods := #[k25m0, k25m1]
  instanceTypes := #[]
  staticTypes := #[(.object "jdk/internal/misc/Unsafe"), .boolean, .int, .int, .int, .int, .int, .int, .int, .int, .int, .int, .int, .int, .int, .int, .int, .int, .int, (.object "jdk/internal/access/JavaLangAccess"), .int]
  resolved := Array.replicate 378 none
  statics := none }

def pool26 : Array CpInfo := pool [(2, .class_ 4), (1, u "java/lang/Object"), (0, u "<init>"), (0, u "()V"), (12, .class_ 20), (0, u "java/util/Collections"), (63, u "r"), (0, u "Ljava/util/Random;"), (80, .class_ 167), (0, u "java/util/Collections$UnmodifiableCollection"), (6, .class_ 175), (0, u "java/util/Collections$UnmodifiableSequencedCollection"), (6, .class_ 183), (0, u "java/util/Collections$UnmodifiableSet"), (6, .class_ 191), (0, u "java/util/Collections$UnmodifiableSequencedSet"), (6, .class_ 199), (0, u "java/util/Collections$UnmodifiableSortedSet"), (6, .class_ 207), (0, u "java/util/Collections$UnmodifiableNavigableSet"), (4, .class_ 213), (0, u "java/util/Collections$UnmodifiableList"), (1, .class_ 216), (0, u "java/util/Collections$UnmodifiableRandomAccessList"), (6, .class_ 224), (0, u "java/util/Collections$UnmodifiableMap"), (6, .class_ 232), (0, u "java/util/Collections$UnmodifiableSequencedMap"), (4, .class_ 238), (0, u "java/util/Collections$UnmodifiableSortedMap"), (6, .class_ 246), (0, u "java/util/Collections$UnmodifiableNavigableMap"), (3, .class_ 251), (0, u "java/util/Collections$SynchronizedCollection"), (4, .class_ 257), (0, u "java/util/Collections$SynchronizedSet"), (4, .class_ 263), (0, u "java/util/Collections$SynchronizedSortedSet"), (1, .class_ 266), (0, u "java/util/Collections$SynchronizedNavigableSet"), (1, .class_ 269), (0, u "java/util/Collections$SynchronizedRandomAccessList"), (1, .class_ 272), (0, u "java/util/Collections$SynchronizedList"), (5, .class_ 279), (0, u "java/util/Collections$SynchronizedMap"), (1, .class_ 282), (0, u "java/util/Collections$SynchronizedSortedMap"), (1, .class_ 285), (0, u "java/util/Collections$SynchronizedNavigableMap"), (1, .class_ 288), (0, u "java/util/Collections$CheckedCollection"), (11, .class_ 301), (0, u "java/util/Collections$CheckedQueue"), (3, .class_ 306), (0, u "java/util/Collections$CheckedSet"), (3, .class_ 311), (0, u "java/util/Collections$CheckedSortedSet"), (3, .class_ 316), (0, u "java/util/Collections$CheckedNavigableSet"), (3, .class_ 321), (0, u "java/util/Collections$CheckedRandomAccessList"), (3, .class_ 326), (0, u "java/util/Collections$CheckedList"), (1, .class_ 329), (0, u "java/util/Collections$CheckedMap"), (3, .class_ 334), (0, u "java/util/Collections$CheckedSortedMap"), (3, .class_ 339), (0, u "java/util/Collections$CheckedNavigableMap"), (4, .class_ 346), (1, u "java/util/Collections$EmptyIterator"), (3, .class_ 352), (1, u "java/util/Collections$EmptyListIterator"), (2, .class_ 357), (1, u "java/util/Collections$EmptyEnumeration"), (4, u "EMPTY_SET"), (0, u "Ljava/util/Set;"), (6, u "EMPTY_LIST"), (0, u "Ljava/util/List;"), (2, u "EMPTY_MAP"), (0, u "Ljava/util/Map;"), (4, .class_ 381), (0, u "java/util/Collections$SingletonSet"), (2, .class_ 385), (0, u "java/util/Collections$1"), (1, .class_ 388), (0, u "java/util/Collections$2"), (1, .class_ 391), (0, u "java/util/Collections$SingletonList"), (1, .class_ 394), (0, u "java/util/Collections$SingletonMap"), (22, .class_ 418), (0, u "java/util/Collections$CopiesList"), (4, .class_ 425), (1, u "java/util/Collections$ReverseComparator"), (8, .class_ 435), (0, u "java/util/Collections$ReverseComparator2"), (6, .class_ 443), (0, u "java/util/Collections$3"), (25, .class_ 470), (0, u "java/util/Collections$SetFromMap"), (2, .class_ 474), (0, u "java/util/Collections$SequencedSetFromMap"), (3, .class_ 479), (0, u "java/util/Collections$AsLIFOQueue"), (11, .class_ 492), (0, u "java/util/Collections$EmptySet"), (1, .class_ 495), (0, u "java/util/Collections$EmptyList"), (1, .class_ 498), (0, u "java/util/Collections$EmptyMap"), (1, u "BINARYSEARCH_THRESHOLD"), (0, u "I"), (2, u "REVERSE_THRESHOLD"), (1, u "SHUFFLE_THRESHOLD"), (1, u "FILL_THRESHOLD"), (1, u "ROTATE_THRESHOLD"), (1, u "COPY_THRESHOLD"), (1, u "REPLACEALL_THRESHOLD"), (1, u "INDEXOFSUBLIST_THRESHOLD"), (333, .class_ 851), (0, u "java/util/Collections$CheckedMap$CheckedEntrySet"), (0, .class_ 853), (0, u "java/util/Collections$CheckedMap$CheckedEntrySet$CheckedEntry"), (0, .class_ 855), (0, u "java/util/Collections$CheckedMap$CheckedEntrySet$1"), (0, .class_ 857), (0, u "java/util/Collections$CheckedList$1"), (0, .class_ 859), (0, u "java/util/Collections$CheckedCollection$1"), (0, .class_ 861), (0, u "java/util/Collections$UnmodifiableNavigableMap$EmptyNavigableMap"), (0, .class_ 863), (0, u "java/util/Collections$UnmodifiableMap$UnmodifiableEntrySet"), (0, .class_ 865), (0, u "java/util/Collections$UnmodifiableMap$UnmodifiableEntrySet$UnmodifiableEntry"), (0, .class_ 867), (0, u "java/util/Collections$UnmodifiableMap$UnmodifiableEntrySet$UnmodifiableEntrySetSpliterator"), (0, .class_ 869), (0, u "java/util/Collections$UnmodifiableMap$UnmodifiableEntrySet$1"), (0, .class_ 871), (0, u "java/util/Collections$UnmodifiableList$1"), (0, .class_ 873), (0, u "java/util/Collections$UnmodifiableNavigableSet$EmptyNavigableSet"), (0, .class_ 875), (0, u "java/util/Collections$UnmodifiableCollection$1")] 57

def k26m0 : Method := { name := "<init>", desc := "()V", sig := { parameters := [], returnType := none }, accessFlags := 2, code := none }
/-- java/util/Collections -/
def k26 : Class := { plain "java/util/Collections" (some 0) with
  accessFlags := 33
  interfaces := #[]
  cf := some (fileOf pool26 19 #[.nestMembers #[478, 473, 469, 434, 423, 417, 393, 390, 380, 497, 494, 491, 355, 350, 344, 338, 333, 328, 850, 852, 854, 320, 325, 856, 315, 310, 305, 300, 287, 858, 284, 281, 278, 268, 271, 265, 262, 256, 250, 245, 860, 237, 231, 223, 862, 864, 866, 868, 215, 212, 870, 206, 872, 198, 190, 182, 174, 166, 874, 442, 387, 384]] #[{ accessFlags := 2, nameIndex := 5, descriptorIndex := 6, attributes := #[] }] 33 2 #[] #[{ accessFlags := 26, nameIndex := 500, descriptorIndex := 501, attributes := #[] }, { accessFlags := 26, nameIndex := 504, descriptorIndex := 501, attributes := #[] }, { accessFlags := 26, nameIndex := 506, descriptorIndex := 501, attributes := #[] }, { accessFlags := 26, nameIndex := 508, descriptorIndex := 501, attributes := #[] }, { accessFlags := 26, nameIndex := 510, descriptorIndex := 501, attributes := #[] }, { accessFlags := 26, nameIndex := 512, descriptorIndex := 501, attributes := #[] }, { accessFlags := 26, nameIndex := 514, descriptorIndex := 501, attributes := #[] }, { accessFlags := 26, nameIndex := 516, descriptorIndex := 501, attributes := #[] }, { accessFlags := 10, nameIndex := 84, descriptorIndex := 85, attributes := #[] }, { accessFlags := 25, nameIndex := 362, descriptorIndex := 363, attributes := #[] }, { accessFlags := 25, nameIndex := 370, descriptorIndex := 371, attributes := #[] }, { accessFlags := 25, nameIndex := 374, descriptorIndex := 375, attributes := #[] }])
  fields := #[{ name := "BINARYSEARCH_THRESHOLD", type := .int, accessFlags := 26, slot := 0, constantValue := 0 }, { name := "REVERSE_THRESHOLD", type := .int, accessFlags := 26, slot := 1, constantValue := 0 }, { name := "SHUFFLE_THRESHOLD", type := .int, accessFlags := 26, slot := 2, constantValue := 0 }, { name := "FILL_THRESHOLD", type := .int, accessFlags := 26, slot := 3, constantValue := 0 }, { name := "ROTATE_THRESHOLD", type := .int, accessFlags := 26, slot := 4, constantValue := 0 }, { name := "COPY_THRESHOLD", type := .int, accessFlags := 26, slot := 5, constantValue := 0 }, { name := "REPLACEALL_THRESHOLD", type := .int, accessFlags := 26, slot := 6, constantValue := 0 }, { name := "INDEXOFSUBLIST_THRESHOLD", type := .int, accessFlags := 26, slot := 7, constantValue := 0 }, { name := "r", type := (.object "java/util/Random"), accessFlags := 10, slot := 8, constantValue := 0 }, { name := "EMPTY_SET", type := (.object "java/util/Set"), accessFlags := 25, slot := 9, constantValue := 0 }, { name := "EMPTY_LIST", type := (.object "java/util/List"), accessFlags := 25, slot := 10, constantValue := 0 }, { name := "EMPTY_MAP", type := (.object "java/util/Map"), accessFlags := 25, slot := 11, constantValue := 0 }]
  methods := #[k26m0]
  instanceTypes := #[]
  staticTypes := #[.int, .int, .int, .int, .int, .int, .int, .int, (.object "java/util/Random"), (.object "java/util/Set"), (.object "java/util/List"), (.object "java/util/Map")]
  resolved := Array.replicate 933 none
  statics := some 4 }

def pool27 : Array CpInfo := pool [(8, .class_ 10), (1, u "java/lang/Iterable"), (24, .class_ 36), (0, u "java/lang/Object")] 25

/-- java/lang/Iterable -/
def k27 : Class := { plain "java/lang/Iterable" (some 0) with
  accessFlags := 1537
  interfaces := #[]
  cf := some (fileOf pool27 8 #[] #[] 1537 35 #[] #[])
  fields := #[]
  methods := #[]
  instanceTypes := #[]
  staticTypes := #[]
  resolved := Array.replicate 62 none
  statics := none }

def pool28 : Array CpInfo := pool [(10, .class_ 12), (1, u "java/util/Collection"), (47, .class_ 61), (0, u "java/lang/Object"), (0, .class_ 63), (0, u "java/lang/Iterable")] 51

/-- java/util/Collection -/
def k28 : Class := { plain "java/util/Collection" (some 0) with
  accessFlags := 1537
  interfaces := #[27]
  cf := some (fileOf pool28 10 #[] #[] 1537 60 #[62] #[])
  fields := #[]
  methods := #[]
  instanceTypes := #[]
  staticTypes := #[]
  resolved := Array.replicate 115 none
  statics := none }

def pool29 : Array CpInfo := pool [(2, .class_ 4), (1, u "java/lang/Object"), (0, u "<init>"), (0, u "()V"), (1, .class_ 10), (1, u "java/util/AbstractCollection"), (66, .class_ 78), (0, u "java/util/Collection")] 81

def k29m0 : Method := { name := "<init>", desc := "()V", sig := { parameters := [], returnType := none }, accessFlags := 4, code := none }
/-- java/util/AbstractCollection -/
def k29 : Class := { plain "java/util/AbstractCollection" (some 0) with
  accessFlags := 1057
  interfaces := #[28]
  cf := some (fileOf pool29 8 #[] #[{ accessFlags := 4, nameIndex := 5, descriptorIndex := 6, attributes := #[] }] 1057 2 #[77] #[])
  fields := #[]
  methods := #[k29m0]
  instanceTypes := #[]
  staticTypes := #[]
  resolved := Array.replicate 160 none
  statics := none }

def pool30 : Array CpInfo := pool [(8, .class_ 10), (1, u "java/util/SequencedCollection"), (15, .class_ 27), (0, u "java/lang/Object"), (0, .class_ 29), (0, u "java/util/Collection")] 27

/-- java/util/SequencedCollection -/
def k30 : Class := { plain "java/util/SequencedCollection" (some 0) with
  accessFlags := 1537
  interfaces := #[28]
  cf := some (fileOf pool30 8 #[] #[] 1537 26 #[28] #[])
  fields := #[]
  methods := #[]
  instanceTypes := #[]
  staticTypes := #[]
  resolved := Array.replicate 57 none
  statics := none }

def pool31 : Array CpInfo := pool [(8, .class_ 10), (1, u "java/util/List"), (92, .class_ 104), (0, u "java/lang/Object"), (15, .class_ 121), (0, u "java/util/SequencedCollection")] 129

/-- java/util/List -/
def k31 : Class := { plain "java/util/List" (some 0) with
  accessFlags := 1537
  interfaces := #[30]
  cf := some (fileOf pool31 8 #[] #[] 1537 103 #[120] #[])
  fields := #[]
  methods := #[]
  instanceTypes := #[]
  staticTypes := #[]
  resolved := Array.replicate 251 none
  statics := none }

def pool32 : Array CpInfo := pool [(2, .class_ 4), (1, u "java/util/AbstractCollection"), (0, u "<init>"), (0, u "()V"), (1, .class_ 10), (1, u "java/util/AbstractList"), (0, u "modCount"), (0, u "I"), (64, .class_ 78), (0, u "java/util/AbstractList$Itr"), (3, .class_ 83), (0, u "java/util/AbstractList$ListItr"), (9, .class_ 94), (0, u "java/util/AbstractList$RandomAccessSubList"), (3, .class_ 99), (0, u "java/util/AbstractList$SubList"), (33, .class_ 134), (0, u "java/util/List"), (73, .class_ 209), (0, u "java/util/AbstractList$SubList$1"), (0, .class_ 211), (0, u "java/util/AbstractList$RandomAccessSpliterator")] 6

def k32m0 : Method := { name := "<init>", desc := "()V", sig := { parameters := [], returnType := none }, accessFlags := 4, code := none }
/-- java/util/AbstractList -/
def k32 : Class := { plain "java/util/AbstractList" (some 29) with
  accessFlags := 1057
  interfaces := #[31]
  cf := some (fileOf pool32 8 #[.nestMembers #[93, 98, 208, 210, 82, 77]] #[{ accessFlags := 4, nameIndex := 5, descriptorIndex := 6, attributes := #[] }] 1057 2 #[133] #[{ accessFlags := 132, nameIndex := 11, descriptorIndex := 12, attributes := #[] }])
  fields := #[{ name := "modCount", type := .int, accessFlags := 132, slot := 0, constantValue := 0 }]
  methods := #[k32m0]
  instanceTypes := #[.int]
  staticTypes := #[]
  resolved := Array.replicate 218 none
  statics := none }

def pool33 : Array CpInfo := pool [(1, .class_ 2), (0, u "java/util/RandomAccess"), (0, .class_ 4), (0, u "java/lang/Object")] 2

/-- java/util/RandomAccess -/
def k33 : Class := { plain "java/util/RandomAccess" (some 0) with
  accessFlags := 1537
  interfaces := #[]
  cf := some (fileOf pool33 1 #[] #[] 1537 3 #[] #[])
  fields := #[]
  methods := #[]
  instanceTypes := #[]
  staticTypes := #[]
  resolved := Array.replicate 7 none
  statics := none }

def pool34 : Array CpInfo := pool [(2, .class_ 4), (1, u "java/util/AbstractList"), (0, u "<init>"), (0, u "()V"), (1, .class_ 10), (1, u "java/util/Collections"), (54, .class_ 66), (0, u "java/util/Collections$EmptyList"), (0, .class_ 68), (0, u "java/util/RandomAccess"), (0, .class_ 70), (0, u "java/io/Serializable"), (0, u "serialVersionUID"), (0, u "J")] 77

def k34m0 : Method := { name := "<init>", desc := "()V", sig := { parameters := [], returnType := none }, accessFlags := 2, code := none }
/-- java/util/Collections$EmptyList -/
def k34 : Class := { plain "java/util/Collections$EmptyList" (some 32) with
  accessFlags := 32
  interfaces := #[33, 2]
  cf := some (fileOf pool34 65 #[.nestHost 8] #[{ accessFlags := 2, nameIndex := 5, descriptorIndex := 6, attributes := #[] }] 32 2 #[67, 69] #[{ accessFlags := 26, nameIndex := 71, descriptorIndex := 72, attributes := #[] }])
  fields := #[{ name := "serialVersionUID", type := .long, accessFlags := 26, slot := 0, constantValue := 0 }]
  methods := #[k34m0]
  instanceTypes := #[.int]
  staticTypes := #[.long]
  resolved := Array.replicate 150 none
  statics := none }

def pool35 : Array CpInfo := pool [(2, .class_ 4), (1, u "java/lang/StackTraceElement"), (0, u "<init>"), (2, .class_ 10), (1, u "java/lang/Object"), (0, u "()V"), (2, u "format"), (0, u "B"), (2, u "classLoaderName"), (0, u "Ljava/lang/String;"), (2, u "moduleName"), (2, u "moduleVersion"), (12, u "declaringClass"), (4, u "methodName"), (2, u "fileName"), (2, u "lineNumber"), (0, u "I"), (65, u "declaringClassObject"), (0, u "Ljava/lang/Class;"), (33, .class_ 153), (1, u "java/lang/StackTraceElement$HashedModules"), (17, .class_ 172), (0, u "java/io/Serializable"), (0, u "NATIVE_METHOD"), (1, u "UNKNOWN_SOURCE"), (2, u "BUILTIN_CLASS_LOADER"), (1, u "JDK_NON_UPGRADEABLE_MODULE"), (1, u "serialVersionUID"), (0, u "J")] 51

def k35m0 : Method := { name := "<init>", desc := "()V", sig := { parameters := [], returnType := none }, accessFlags := 2, code := none }
/-- java/lang/StackTraceElement -/
def k35 : Class := { plain "java/lang/StackTraceElement" (some 0) with
  accessFlags := 49
  interfaces := #[2]
  cf := some (fileOf pool35 2 #[.nestMembers #[151]] #[{ accessFlags := 2, nameIndex := 5, descriptorIndex := 11, attributes := #[] }] 49 8 #[171] #[{ accessFlags := 26, nameIndex := 173, descriptorIndex := 19, attributes := #[] }, { accessFlags := 26, nameIndex := 175, descriptorIndex := 19, attributes := #[] }, { accessFlags := 130, nameIndex := 116, descriptorIndex := 117, attributes := #[] }, { accessFlags := 2, nameIndex := 18, descriptorIndex := 19, attributes := #[] }, { accessFlags := 2, nameIndex := 22, descriptorIndex := 19, attributes := #[] }, { accessFlags := 2, nameIndex := 25, descriptorIndex := 19, attributes := #[] }, { accessFlags := 2, nameIndex := 38, descriptorIndex := 19, attributes := #[] }, { accessFlags := 2, nameIndex := 43, descriptorIndex := 19, attributes := #[] }, { accessFlags := 2, nameIndex := 46, descriptorIndex := 19, attributes := #[] }, { accessFlags := 2, nameIndex := 49, descriptorIndex := 50, attributes := #[] }, { accessFlags := 2, nameIndex := 14, descriptorIndex := 15, attributes := #[] }, { accessFlags := 26, nameIndex := 178, descriptorIndex := 15, attributes := #[] }, { accessFlags := 26, nameIndex := 180, descriptorIndex := 15, attributes := #[] }, { accessFlags := 26, nameIndex := 182, descriptorIndex := 183, attributes := #[] }])
  fields := #[{ name := "NATIVE_METHOD", type := (.object "java/lang/String"), accessFlags := 26, slot := 0, constantValue := 0 }, { name := "UNKNOWN_SOURCE", type := (.object "java/lang/String"), accessFlags := 26, slot := 1, constantValue := 0 }, { name := "declaringClassObject", type := (.object "java/lang/Class"), accessFlags := 130, slot := 0, constantValue := 0 }, { name := "classLoaderName", type := (.object "java/lang/String"), accessFlags := 2, slot := 1, constantValue := 0 }, { name := "moduleName", type := (.object "java/lang/String"), accessFlags := 2, slot := 2, constantValue := 0 }, { name := "moduleVersion", type := (.object "java/lang/String"), accessFlags := 2, slot := 3, constantValue := 0 }, { name := "declaringClass", type := (.object "java/lang/String"), accessFlags := 2, slot := 4, constantValue := 0 }, { name := "methodName", type := (.object "java/lang/String"), accessFlags := 2, slot := 5, constantValue := 0 }, { name := "fileName", type := (.object "java/lang/String"), accessFlags := 2, slot := 6, constantValue := 0 }, { name := "lineNumber", type := .int, accessFlags := 2, slot := 7, constantValue := 0 }, { name := "format", type := .byte, accessFlags := 2, slot := 8, constantValue := 0 }, { name := "BUILTIN_CLASS_LOADER", type := .byte, accessFlags := 26, slot := 2, constantValue := 0 }, { name := "JDK_NON_UPGRADEABLE_MODULE", type := .byte, accessFlags := 26, slot := 3, constantValue := 0 }, { name := "serialVersionUID", type := .long, accessFlags := 26, slot := 4, constantValue := 0 }]
  methods := #[k35m0]
  instanceTypes := #[(.object "java/lang/Class"), (.object "java/lang/String"), (.object "java/lang/String"), (.object "java/lang/String"), (.object "java/lang/String"), (.object "java/lang/String"), (.object "java/lang/String"), .int, .byte]
  staticTypes := #[(.object "java/lang/String"), (.object "java/lang/String"), .byte, .byte, .long]
  resolved := Array.replicate 235 none
  statics := none }

/-- the primitive byte -/
def k36 : Class := { plain "byte" none with kind := .primitive 'B', accessFlags := 0x411 }
/-- [B -/
def k37 : Class := { plain "[B" (some 0) with kind := .array 36 .byte, interfaces := #[24, 2], accessFlags := 1041 }

/-- the primitive char -/
def k38 : Class := { plain "char" none with kind := .primitive 'C', accessFlags := 0x411 }
/-- [C -/
def k39 : Class := { plain "[C" (some 0) with kind := .array 38 .char, interfaces := #[24, 2], accessFlags := 1041 }

/-- the primitive int -/
def k40 : Class := { plain "int" none with kind := .primitive 'I', accessFlags := 0x411 }
/-- [I -/
def k41 : Class := { plain "[I" (some 0) with kind := .array 40 .int, interfaces := #[24, 2], accessFlags := 1041 }

/-- [Ljava/lang/Object; -/
def k42 : Class := { plain "[Ljava/lang/Object;" (some 0) with kind := .array 0 (.object "java/lang/Object"), interfaces := #[24, 2], accessFlags := 1041 }

/-- [Ljava/lang/StackTraceElement; -/
def k43 : Class := { plain "[Ljava/lang/StackTraceElement;" (some 0) with kind := .array 35 (.object "java/lang/StackTraceElement"), interfaces := #[24, 2], accessFlags := 1041 }

/-- [Ljava/lang/Throwable; -/
def k44 : Class := { plain "[Ljava/lang/Throwable;" (some 0) with kind := .array 11 (.object "java/lang/Throwable"), interfaces := #[24, 2], accessFlags := 1041 }

def classes0 : Array Class := #[k0, k1, k2, k3, k4, k5, k6, k7, k8, k9, k10, k11, k12, k13, k14, k15, k16, k17, k18, k19, k20, k21, k22, k23, k24, k25, k26, k27, k28, k29, k30, k31, k32, k33, k34, k35, k36, k37, k38, k39, k40, k41, k42, k43, k44]
/-- the class that the rule has made for the site at 6 of provento/files/CsvRow.<init> -/
def k45 : Class := Jvm.LamKit.madeRec { classes := classes0 } "provento/files/CsvRow" (Jvm.Lambda.Shape.mk "java/util/function/Function" "apply" (Jvm.ClassFile.MethodDescriptor.mk ([(Jvm.ClassFile.FieldType.object "java/lang/Object")] : List Jvm.ClassFile.FieldType) (Option.some (Jvm.ClassFile.FieldType.object "java/lang/Object"))) ([(Jvm.ClassFile.FieldType.object "provento/files/CsvRow")] : List Jvm.ClassFile.FieldType) (5 : Nat) "provento/files/CsvRow" "refuse" (Jvm.ClassFile.MethodDescriptor.mk ([(Jvm.ClassFile.FieldType.object "java/lang/String")] : List Jvm.ClassFile.FieldType) (Option.some (Jvm.ClassFile.FieldType.object "provento/files/Refusal"))) false (Jvm.ClassFile.MethodDescriptor.mk ([(Jvm.ClassFile.FieldType.object "java/lang/String")] : List Jvm.ClassFile.FieldType) (Option.some (Jvm.ClassFile.FieldType.object "provento/files/Refusal")))) 45

def heap : Heap := #[{ cls := 7, slots := #[.long 0, .int 1, .null, .int 0, .null, .int 0, .int 0], vm := .statics 7 },
  { cls := 11, slots := #[.long 0, .ref 7, .ref 8, .null, .null, .null, .null, .ref 9, .int 1], vm := .statics 11 },
  { cls := 19, slots := #[.int 0, .int 0, .null, .null, .ref 6, .ref 5, .int 0, .int 0, .long 0], vm := .statics 19 },
  { cls := 22, slots := #[.null, .null, .null], vm := .statics 22 },
  { cls := 26, slots := #[.int 0, .int 0, .int 0, .int 0, .int 0, .int 0, .int 0, .int 0, .null, .null, .ref 8, .null], vm := .statics 26 },
  { cls := 37, slots := #[.int 48, .int 49, .int 50, .int 51, .int 52, .int 53, .int 54, .int 55, .int 56, .int 57, .int 48, .int 49, .int 50, .int 51, .int 52, .int 53, .int 54, .int 55, .int 56, .int 57, .int 48, .int 49, .int 50, .int 51, .int 52, .int 53, .int 54, .int 55, .int 56, .int 57, .int 48, .int 49, .int 50, .int 51, .int 52, .int 53, .int 54, .int 55, .int 56, .int 57, .int 48, .int 49, .int 50, .int 51, .int 52, .int 53, .int 54, .int 55, .int 56, .int 57, .int 48, .int 49, .int 50, .int 51, .int 52, .int 53, .int 54, .int 55, .int 56, .int 57, .int 48, .int 49, .int 50, .int 51, .int 52, .int 53, .int 54, .int 55, .int 56, .int 57, .int 48, .int 49, .int 50, .int 51, .int 52, .int 53, .int 54, .int 55, .int 56, .int 57, .int 48, .int 49, .int 50, .int 51, .int 52, .int 53, .int 54, .int 55, .int 56, .int 57, .int 48, .int 49, .int 50, .int 51, .int 52, .int 53, .int 54, .int 55, .int 56, .int 57], vm := .none },
  { cls := 37, slots := #[.int 48, .int 48, .int 48, .int 48, .int 48, .int 48, .int 48, .int 48, .int 48, .int 48, .int 49, .int 49, .int 49, .int 49, .int 49, .int 49, .int 49, .int 49, .int 49, .int 49, .int 50, .int 50, .int 50, .int 50, .int 50, .int 50, .int 50, .int 50, .int 50, .int 50, .int 51, .int 51, .int 51, .int 51, .int 51, .int 51, .int 51, .int 51, .int 51, .int 51, .int 52, .int 52, .int 52, .int 52, .int 52, .int 52, .int 52, .int 52, .int 52, .int 52, .int 53, .int 53, .int 53, .int 53, .int 53, .int 53, .int 53, .int 53, .int 53, .int 53, .int 54, .int 54, .int 54, .int 54, .int 54, .int 54, .int 54, .int 54, .int 54, .int 54, .int 55, .int 55, .int 55, .int 55, .int 55, .int 55, .int 55, .int 55, .int 55, .int 55, .int 56, .int 56, .int 56, .int 56, .int 56, .int 56, .int 56, .int 56, .int 56, .int 56, .int 57, .int 57, .int 57, .int 57, .int 57, .int 57, .int 57, .int 57, .int 57, .int 57], vm := .none },
  { cls := 43, slots := #[], vm := .none },
  { cls := 34, slots := #[.int 0], vm := .none },
  { cls := 44, slots := #[], vm := .none }]
def classes : Array Class := #[k0, k1, k2, k3, k4, k5, k6, k7, k8, k9, k10, k11, k12, k13, k14, k15, k16, k17, k18, k19, k20, k21, k22, k23, k24, k25, k26, k27, k28, k29, k30, k31, k32, k33, k34, k35, k36, k37, k38, k39, k40, k41, k42, k43, k44, k45]
def interned : List (Array UInt16 × Addr) := []
def slotsUsed : Nat := 241
def theMethod : MethodId := ⟨1, 3⟩
def args0 : Array Value := #[.int 1, .int 2, .int 3, .int 4]
def aboutOver (below : List Frame) : State where
  vm := { classes := classes, interned := interned.toArray }
  heap := heap
  slotsUsed := slotsUsed
  threads := #[{ frames := .invoking theMethod args0 :: below }]
def below0 : List Frame := [.native { method := ⟨0, 0⟩, args := #[] }]
def about1 : State := aboutOver below0
def p0 : Program := .bare "" "" ""
def e0 : Env := launch0.env 0 0 0
theorem w_frames : about1.frames = Frame.invoking theMethod args0 :: below0 := rfl
set_option maxRecDepth 65536 in
theorem w_args : argsFit about1.vm theMethod args0 = true := by decide +kernel
set_option maxRecDepth 65536 in
theorem w_heap : heapFits about1 = true := by decide +kernel
set_option maxRecDepth 65536 in
theorem w_runnable : about1.curStatus? = some .runnable := by decide +kernel
set_option maxRecDepth 65536 in
theorem w_alone : about1.alone = true := by decide +kernel
set_option maxRecDepth 65536 in
theorem w_named : about1.methodNamed? x = some theMethod := by decide +kernel
set_option maxRecDepth 65536 in
theorem w_hears : about1.hears theMethod below0 = true := by decide +kernel
set_option maxRecDepth 65536 in
theorem w_ripe : about1.ripe theMethod args0 below0 = true := by decide +kernel
theorem w_running : about1.status = .running := rfl
set_option maxRecDepth 65536 in
theorem w_room : about1.hasRoom e0.platform room_1 = true :=
  launch0.hasRoom_least _ room_1 (by decide +kernel) (by decide +kernel) (by decide +kernel) (by decide +kernel) (by decide +kernel) (by decide +kernel)
theorem allAtoms_all (ts : List Jvm.Cond) (a : Array Jvm.Value) (st : Jvm.State) : (allAtoms ts).before a st = ts.all (fun c => c.before a st) := by
  induction ts with
  | nil => rfl
  | cons c t ih =>
    show (Jvm.Cond.and c (allAtoms t)).before a st = _
    rw [Jvm.Cond.before_and, ih, List.all_cons]
def words1 : List Jvm.Cond := Jvm.Cond.code x code maxLocals ret :: tables_1
/-- a 'code' word, met by the world's own term for the bytes: nothing is compared byte by byte -/
theorem code_word {y : MethodName} {bytes : ByteArray} {mx : Nat} {rt : Option FieldType} {a : Array Value} {s : State} {m : MethodId} {meth : Method} {c : Code} (h1 : s.methodNamed? y = some m) (h2 : s.vm.method? m = some meth) (h3 : meth.code = some c) (h4 : c.code = bytes)
    (h5 : (c.maxLocals == mx && c.exceptionTable.isEmpty && decide (c.maxStack ≤ mostOperands) && decide (meth.sig.returnType = rt) && !meth.locks && decide (parseMethodDescriptor y.desc = some meth.sig)) = true) : (Jvm.Cond.code y bytes mx rt).before a s = true := by
  simp only [Bool.and_eq_true, beq_iff_eq, Bool.not_eq_true', decide_eq_true_eq] at h5
  obtain ⟨⟨⟨⟨⟨g1, g2⟩, g3⟩, g4⟩, g5⟩, g6⟩ := h5
  simp [Cond.before, Cond.holds, Cond.value, h1, h2, h3, h4, g1, g2, g3, g4, g5, g6]
def isCode : Jvm.Cond → Bool
  | .code _ _ _ _ => true
  | _ => false
theorem all_split {L : List Jvm.Cond} {P : Jvm.Cond → Bool} (h1 : L.all (fun c => isCode c || P c) = true) (h2 : ∀ c ∈ L.filter isCode, P c = true) : L.all P = true := by
  refine List.all_eq_true.mpr fun c hc => ?_
  have h := List.all_eq_true.mp h1 c hc
  rcases Bool.eq_false_or_eq_true (isCode c) with hi | hi
  · exact h2 c (List.mem_filter.mpr ⟨hc, hi⟩)
  · simpa [hi] using h
set_option maxRecDepth 65536 in
theorem w_c0 : (Jvm.Cond.code x code maxLocals ret).before args0 about1 = true := code_word (m := ⟨1, 3⟩) (meth := k1m3) (c := k1c3) (by decide +kernel) rfl rfl rfl (by decide +kernel)
set_option maxRecDepth 65536 in
theorem w_c1 : (Jvm.Cond.code ({ cls := "provento/files/CsvRowRefusePinLaw", name := "str", desc := "(III)Ljava/lang/String;" } : Jvm.MethodName) method_2_code (4 : Nat) (Option.some (Jvm.ClassFile.FieldType.object "java/lang/String"))).before args0 about1 = true := code_word (m := ⟨1, 1⟩) (meth := k1m1) (c := k1c1) (by decide +kernel) rfl rfl rfl (by decide +kernel)
set_option maxRecDepth 65536 in
theorem w_c2 : (Jvm.Cond.code ({ cls := "java/lang/String", name := "valueOf", desc := "(C)Ljava/lang/String;" } : Jvm.MethodName) jdk_42_method_139_code (1 : Nat) (Option.some (Jvm.ClassFile.FieldType.object "java/lang/String"))).before args0 about1 = true := code_word (m := ⟨7, 6⟩) (meth := k7m6) (c := k7c6) (by decide +kernel) rfl rfl rfl (by decide +kernel)
set_option maxRecDepth 65536 in
theorem w_c3 : (Jvm.Cond.code ({ cls := "java/lang/StringLatin1", name := "canEncode", desc := "(C)Z" } : Jvm.MethodName) jdk_43_method_3_code (1 : Nat) (Option.some Jvm.ClassFile.FieldType.boolean)).before args0 about1 = true := code_word (m := ⟨8, 2⟩) (meth := k8m2) (c := k8c2) (by decide +kernel) rfl rfl rfl (by decide +kernel)
set_option maxRecDepth 65536 in
theorem w_c4 : (Jvm.Cond.code ({ cls := "java/lang/StringLatin1", name := "toBytes", desc := "(C)[B" } : Jvm.MethodName) jdk_43_method_46_code (1 : Nat) (Option.some (Jvm.ClassFile.FieldType.array Jvm.ClassFile.FieldType.byte))).before args0 about1 = true := code_word (m := ⟨8, 4⟩) (meth := k8m4) (c := k8c4) (by decide +kernel) rfl rfl rfl (by decide +kernel)
set_option maxRecDepth 65536 in
theorem w_c5 : (Jvm.Cond.code ({ cls := "java/lang/String", name := "<init>", desc := "([BB)V" } : Jvm.MethodName) jdk_42_method_151_code (3 : Nat) (Option.none : Option Jvm.ClassFile.FieldType)).before args0 about1 = true := code_word (m := ⟨7, 10⟩) (meth := k7m10) (c := k7c10) (by decide +kernel) rfl rfl rfl (by decide +kernel)
set_option maxRecDepth 65536 in
theorem w_c6 : (Jvm.Cond.code ({ cls := "java/lang/Object", name := "<init>", desc := "()V" } : Jvm.MethodName) object_method_1_code (1 : Nat) (Option.none : Option Jvm.ClassFile.FieldType)).before args0 about1 = true := code_word (m := ⟨0, 0⟩) (meth := k0m0) (c := k0c0) (by decide +kernel) rfl rfl rfl (by decide +kernel)
set_option maxRecDepth 65536 in
theorem w_c7 : (Jvm.Cond.code ({ cls := "java/lang/String", name := "<init>", desc := "([C)V" } : Jvm.MethodName) jdk_42_method_3_code (2 : Nat) (Option.none : Option Jvm.ClassFile.FieldType)).before args0 about1 = true := code_word (m := ⟨7, 1⟩) (meth := k7m1) (c := k7c1) (by decide +kernel) rfl rfl rfl (by decide +kernel)
set_option maxRecDepth 65536 in
theorem w_c8 : (Jvm.Cond.code ({ cls := "java/lang/String", name := "<init>", desc := "([CIILjava/lang/Void;)V" } : Jvm.MethodName) jdk_42_method_149_code (6 : Nat) (Option.none : Option Jvm.ClassFile.FieldType)).before args0 about1 = true := code_word (m := ⟨7, 8⟩) (meth := k7m8) (c := k7c8) (by decide +kernel) rfl rfl rfl (by decide +kernel)
set_option maxRecDepth 65536 in
theorem w_c9 : (Jvm.Cond.code ({ cls := "provento/files/CsvRow", name := "<init>", desc := "(Ljava/lang/String;ILjava/util/Map;Ljava/lang/String;[ILprovento/files/FieldTexts;)V" } : Jvm.MethodName) prog_33_method_1_code (7 : Nat) (Option.none : Option Jvm.ClassFile.FieldType)).before args0 about1 = true := code_word (m := ⟨9, 0⟩) (meth := k9m0) (c := k9c0) (by decide +kernel) rfl rfl rfl (by decide +kernel)
set_option maxRecDepth 65536 in
theorem w_c10 : (Jvm.Cond.code ({ cls := "provento/files/CsvRow", name := "refuse", desc := "(Ljava/lang/String;)Lprovento/files/Refusal;" } : Jvm.MethodName) prog_33_method_9_code (2 : Nat) (Option.some (Jvm.ClassFile.FieldType.object "provento/files/Refusal"))).before args0 about1 = true := code_word (m := ⟨9, 1⟩) (meth := k9m1) (c := k9c1) (by decide +kernel) rfl rfl rfl (by decide +kernel)
set_option maxRecDepth 65536 in
theorem w_c11 : (Jvm.Cond.code ({ cls := "provento/files/Refusal", name := "<init>", desc := "(Ljava/lang/String;ILjava/lang/String;)V" } : Jvm.MethodName) prog_43_method_2_code (4 : Nat) (Option.none : Option Jvm.ClassFile.FieldType)).before args0 about1 = true := code_word (m := ⟨13, 0⟩) (meth := k13m0) (c := k13c0) (by decide +kernel) rfl rfl rfl (by decide +kernel)
set_option maxRecDepth 65536 in
theorem w_c12 : (Jvm.Cond.code ({ cls := "provento/files/Refusal", name := "lineMessage", desc := "(Ljava/lang/String;ILjava/lang/String;)Ljava/lang/String;" } : Jvm.MethodName) prog_43_method_4_code (3 : Nat) (Option.some (Jvm.ClassFile.FieldType.object "java/lang/String"))).before args0 about1 = true := code_word (m := ⟨13, 1⟩) (meth := k13m1) (c := k13c1) (by decide +kernel) rfl rfl rfl (by decide +kernel)
set_option maxRecDepth 65536 in
theorem w_c13 : (Jvm.Cond.code ({ cls := "java/lang/StringBuilder", name := "<init>", desc := "()V" } : Jvm.MethodName) jdk_67_method_1_code (1 : Nat) (Option.none : Option Jvm.ClassFile.FieldType)).before args0 about1 = true := code_word (m := ⟨16, 0⟩) (meth := k16m0) (c := k16c0) (by decide +kernel) rfl rfl rfl (by decide +kernel)
set_option maxRecDepth 65536 in
theorem w_c14 : (Jvm.Cond.code ({ cls := "java/lang/AbstractStringBuilder", name := "<init>", desc := "(I)V" } : Jvm.MethodName) jdk_68_method_2_code (2 : Nat) (Option.none : Option Jvm.ClassFile.FieldType)).before args0 about1 = true := code_word (m := ⟨15, 1⟩) (meth := k15m1) (c := k15c1) (by decide +kernel) rfl rfl rfl (by decide +kernel)
set_option maxRecDepth 65536 in
theorem w_c15 : (Jvm.Cond.code ({ cls := "java/lang/StringBuilder", name := "append", desc := "(Ljava/lang/String;)Ljava/lang/StringBuilder;" } : Jvm.MethodName) jdk_67_method_7_code (2 : Nat) (Option.some (Jvm.ClassFile.FieldType.object "java/lang/StringBuilder"))).before args0 about1 = true := code_word (m := ⟨16, 1⟩) (meth := k16m1) (c := k16c1) (by decide +kernel) rfl rfl rfl (by decide +kernel)
set_option maxRecDepth 65536 in
theorem w_c16 : (Jvm.Cond.code ({ cls := "java/lang/AbstractStringBuilder", name := "append", desc := "(Ljava/lang/String;)Ljava/lang/AbstractStringBuilder;" } : Jvm.MethodName) jdk_68_method_22_code (3 : Nat) (Option.some (Jvm.ClassFile.FieldType.object "java/lang/AbstractStringBuilder"))).before args0 about1 = true := code_word (m := ⟨15, 5⟩) (meth := k15m5) (c := k15c5) (by decide +kernel) rfl rfl rfl (by decide +kernel)
set_option maxRecDepth 65536 in
theorem w_c17 : (Jvm.Cond.code ({ cls := "java/lang/String", name := "length", desc := "()I" } : Jvm.MethodName) jdk_42_method_54_code (1 : Nat) (Option.some Jvm.ClassFile.FieldType.int)).before args0 about1 = true := code_word (m := ⟨7, 3⟩) (meth := k7m3) (c := k7c3) (by decide +kernel) rfl rfl rfl (by decide +kernel)
set_option maxRecDepth 65536 in
theorem w_c18 : (Jvm.Cond.code ({ cls := "java/lang/String", name := "coder", desc := "()B" } : Jvm.MethodName) jdk_42_method_152_code (1 : Nat) (Option.some Jvm.ClassFile.FieldType.byte)).before args0 about1 = true := code_word (m := ⟨7, 11⟩) (meth := k7m11) (c := k7c11) (by decide +kernel) rfl rfl rfl (by decide +kernel)
set_option maxRecDepth 65536 in
theorem w_c19 : (Jvm.Cond.code ({ cls := "java/lang/AbstractStringBuilder", name := "ensureCapacityInternal", desc := "(I)V" } : Jvm.MethodName) jdk_68_method_9_code (3 : Nat) (Option.none : Option Jvm.ClassFile.FieldType)).before args0 about1 = true := code_word (m := ⟨15, 3⟩) (meth := k15m3) (c := k15c3) (by decide +kernel) rfl rfl rfl (by decide +kernel)
set_option maxRecDepth 65536 in
theorem w_c20 : (Jvm.Cond.code ({ cls := "java/lang/AbstractStringBuilder", name := "putStringAt", desc := "(ILjava/lang/String;)V" } : Jvm.MethodName) jdk_68_method_73_code (3 : Nat) (Option.none : Option Jvm.ClassFile.FieldType)).before args0 about1 = true := code_word (m := ⟨15, 10⟩) (meth := k15m10) (c := k15c10) (by decide +kernel) rfl rfl rfl (by decide +kernel)
set_option maxRecDepth 65536 in
theorem w_c21 : (Jvm.Cond.code ({ cls := "java/lang/AbstractStringBuilder", name := "inflateIfNeededFor", desc := "(Ljava/lang/String;)V" } : Jvm.MethodName) jdk_68_method_71_code (2 : Nat) (Option.none : Option Jvm.ClassFile.FieldType)).before args0 about1 = true := code_word (m := ⟨15, 9⟩) (meth := k15m9) (c := k15c9) (by decide +kernel) rfl rfl rfl (by decide +kernel)
set_option maxRecDepth 65536 in
theorem w_c22 : (Jvm.Cond.code ({ cls := "java/lang/String", name := "getBytes", desc := "([BIB)V" } : Jvm.MethodName) jdk_42_method_147_code (4 : Nat) (Option.none : Option Jvm.ClassFile.FieldType)).before args0 about1 = true := code_word (m := ⟨7, 7⟩) (meth := k7m7) (c := k7c7) (by decide +kernel) rfl rfl rfl (by decide +kernel)
set_option maxRecDepth 65536 in
theorem w_c23 : (Jvm.Cond.code ({ cls := "java/lang/StringBuilder", name := "append", desc := "(I)Ljava/lang/StringBuilder;" } : Jvm.MethodName) jdk_67_method_15_code (2 : Nat) (Option.some (Jvm.ClassFile.FieldType.object "java/lang/StringBuilder"))).before args0 about1 = true := code_word (m := ⟨16, 2⟩) (meth := k16m2) (c := k16c2) (by decide +kernel) rfl rfl rfl (by decide +kernel)
set_option maxRecDepth 65536 in
theorem w_c24 : (Jvm.Cond.code ({ cls := "java/lang/AbstractStringBuilder", name := "append", desc := "(I)Ljava/lang/AbstractStringBuilder;" } : Jvm.MethodName) jdk_68_method_32_code (4 : Nat) (Option.some (Jvm.ClassFile.FieldType.object "java/lang/AbstractStringBuilder"))).before args0 about1 = true := code_word (m := ⟨15, 6⟩) (meth := k15m6) (c := k15c6) (by decide +kernel) rfl rfl rfl (by decide +kernel)
set_option maxRecDepth 65536 in
theorem w_c25 : (Jvm.Cond.code ({ cls := "java/lang/Integer", name := "stringSize", desc := "(I)I" } : Jvm.MethodName) jdk_33_method_13_code (4 : Nat) (Option.some Jvm.ClassFile.FieldType.int)).before args0 about1 = true := code_word (m := ⟨19, 1⟩) (meth := k19m1) (c := k19c1) (by decide +kernel) rfl rfl rfl (by decide +kernel)
set_option maxRecDepth 65536 in
theorem w_c26 : (Jvm.Cond.code ({ cls := "java/lang/AbstractStringBuilder", name := "isLatin1", desc := "()Z" } : Jvm.MethodName) jdk_68_method_68_code (1 : Nat) (Option.some Jvm.ClassFile.FieldType.boolean)).before args0 about1 = true := code_word (m := ⟨15, 8⟩) (meth := k15m8) (c := k15c8) (by decide +kernel) rfl rfl rfl (by decide +kernel)
set_option maxRecDepth 65536 in
theorem w_c27 : (Jvm.Cond.code ({ cls := "java/lang/Integer", name := "getChars", desc := "(II[B)I" } : Jvm.MethodName) jdk_33_method_12_code (7 : Nat) (Option.some Jvm.ClassFile.FieldType.int)).before args0 about1 = true := code_word (m := ⟨19, 0⟩) (meth := k19m0) (c := k19c0) (by decide +kernel) rfl rfl rfl (by decide +kernel)
set_option maxRecDepth 65536 in
theorem w_c28 : (Jvm.Cond.code ({ cls := "java/lang/StringBuilder", name := "toString", desc := "()Ljava/lang/String;" } : Jvm.MethodName) jdk_67_method_42_code (1 : Nat) (Option.some (Jvm.ClassFile.FieldType.object "java/lang/String"))).before args0 about1 = true := code_word (m := ⟨16, 3⟩) (meth := k16m3) (c := k16c3) (by decide +kernel) rfl rfl rfl (by decide +kernel)
set_option maxRecDepth 65536 in
theorem w_c29 : (Jvm.Cond.code ({ cls := "java/lang/String", name := "<init>", desc := "(Ljava/lang/StringBuilder;)V" } : Jvm.MethodName) jdk_42_method_53_code (2 : Nat) (Option.none : Option Jvm.ClassFile.FieldType)).before args0 about1 = true := code_word (m := ⟨7, 2⟩) (meth := k7m2) (c := k7c2) (by decide +kernel) rfl rfl rfl (by decide +kernel)
set_option maxRecDepth 65536 in
theorem w_c30 : (Jvm.Cond.code ({ cls := "java/lang/String", name := "<init>", desc := "(Ljava/lang/AbstractStringBuilder;Ljava/lang/Void;)V" } : Jvm.MethodName) jdk_42_method_150_code (5 : Nat) (Option.none : Option Jvm.ClassFile.FieldType)).before args0 about1 = true := code_word (m := ⟨7, 9⟩) (meth := k7m9) (c := k7c9) (by decide +kernel) rfl rfl rfl (by decide +kernel)
set_option maxRecDepth 65536 in
theorem w_c31 : (Jvm.Cond.code ({ cls := "java/lang/AbstractStringBuilder", name := "getValue", desc := "()[B" } : Jvm.MethodName) jdk_68_method_64_code (1 : Nat) (Option.some (Jvm.ClassFile.FieldType.array Jvm.ClassFile.FieldType.byte))).before args0 about1 = true := code_word (m := ⟨15, 7⟩) (meth := k15m7) (c := k15c7) (by decide +kernel) rfl rfl rfl (by decide +kernel)
set_option maxRecDepth 65536 in
theorem w_c32 : (Jvm.Cond.code ({ cls := "java/lang/StringBuilder", name := "length", desc := "()I" } : Jvm.MethodName) jdk_67_method_93_code (1 : Nat) (Option.some Jvm.ClassFile.FieldType.int)).before args0 about1 = true := code_word (m := ⟨16, 4⟩) (meth := k16m4) (c := k16c4) (by decide +kernel) rfl rfl rfl (by decide +kernel)
set_option maxRecDepth 65536 in
theorem w_c33 : (Jvm.Cond.code ({ cls := "java/lang/AbstractStringBuilder", name := "length", desc := "()I" } : Jvm.MethodName) jdk_68_method_6_code (1 : Nat) (Option.some Jvm.ClassFile.FieldType.int)).before args0 about1 = true := code_word (m := ⟨15, 2⟩) (meth := k15m2) (c := k15c2) (by decide +kernel) rfl rfl rfl (by decide +kernel)
set_option maxRecDepth 65536 in
theorem w_c34 : (Jvm.Cond.code ({ cls := "java/util/Arrays", name := "copyOfRange", desc := "([BII)[B" } : Jvm.MethodName) jdk_65_method_132_code (3 : Nat) (Option.some (Jvm.ClassFile.FieldType.array Jvm.ClassFile.FieldType.byte))).before args0 about1 = true := code_word (m := ⟨20, 3⟩) (meth := k20m3) (c := k20c3) (by decide +kernel) rfl rfl rfl (by decide +kernel)
set_option maxRecDepth 65536 in
theorem w_c35 : (Jvm.Cond.code ({ cls := "java/util/Arrays", name := "copyOfRangeByte", desc := "([BII)[B" } : Jvm.MethodName) jdk_65_method_133_code (5 : Nat) (Option.some (Jvm.ClassFile.FieldType.array Jvm.ClassFile.FieldType.byte))).before args0 about1 = true := code_word (m := ⟨20, 4⟩) (meth := k20m4) (c := k20c4) (by decide +kernel) rfl rfl rfl (by decide +kernel)
set_option maxRecDepth 65536 in
theorem w_c36 : (Jvm.Cond.code ({ cls := "java/util/Arrays", name := "checkLength", desc := "(II)V" } : Jvm.MethodName) jdk_65_method_131_code (2 : Nat) (Option.none : Option Jvm.ClassFile.FieldType)).before args0 about1 = true := code_word (m := ⟨20, 2⟩) (meth := k20m2) (c := k20c2) (by decide +kernel) rfl rfl rfl (by decide +kernel)
set_option maxRecDepth 65536 in
theorem w_c37 : (Jvm.Cond.code ({ cls := "java/lang/Math", name := "min", desc := "(II)I" } : Jvm.MethodName) jdk_29_method_69_code (2 : Nat) (Option.some Jvm.ClassFile.FieldType.int)).before args0 about1 = true := code_word (m := ⟨21, 4⟩) (meth := k21m4) (c := k21c4) (by decide +kernel) rfl rfl rfl (by decide +kernel)
set_option maxRecDepth 65536 in
theorem w_c38 : (Jvm.Cond.code ({ cls := "java/lang/Exception", name := "<init>", desc := "(Ljava/lang/String;)V" } : Jvm.MethodName) jdk_59_method_2_code (2 : Nat) (Option.none : Option Jvm.ClassFile.FieldType)).before args0 about1 = true := code_word (m := ⟨12, 1⟩) (meth := k12m1) (c := k12c1) (by decide +kernel) rfl rfl rfl (by decide +kernel)
set_option maxRecDepth 65536 in
theorem w_c39 : (Jvm.Cond.code ({ cls := "java/lang/Throwable", name := "<init>", desc := "(Ljava/lang/String;)V" } : Jvm.MethodName) jdk_78_method_2_code (2 : Nat) (Option.none : Option Jvm.ClassFile.FieldType)).before args0 about1 = true := code_word (m := ⟨11, 1⟩) (meth := k11m1) (c := k11c1) (by decide +kernel) rfl rfl rfl (by decide +kernel)
set_option maxRecDepth 65536 in
theorem w_c40 : (Jvm.Cond.code ({ cls := "java/lang/Throwable", name := "<init>", desc := "()V" } : Jvm.MethodName) jdk_78_method_1_code (1 : Nat) (Option.none : Option Jvm.ClassFile.FieldType)).before args0 about1 = true := code_word (m := ⟨11, 0⟩) (meth := k11m0) (c := k11c0) (by decide +kernel) rfl rfl rfl (by decide +kernel)
set_option maxRecDepth 65536 in
theorem w_c41 : (Jvm.Cond.code ({ cls := "java/lang/Throwable", name := "getMessage", desc := "()Ljava/lang/String;" } : Jvm.MethodName) jdk_78_method_6_code (1 : Nat) (Option.some (Jvm.ClassFile.FieldType.object "java/lang/String"))).before args0 about1 = true := code_word (m := ⟨11, 2⟩) (meth := k11m2) (c := k11c2) (by decide +kernel) rfl rfl rfl (by decide +kernel)
set_option maxRecDepth 65536 in
theorem w_c42 : (Jvm.Cond.code ({ cls := "java/lang/String", name := "equals", desc := "(Ljava/lang/Object;)Z" } : Jvm.MethodName) jdk_42_method_66_code (3 : Nat) (Option.some Jvm.ClassFile.FieldType.boolean)).before args0 about1 = true := code_word (m := ⟨7, 5⟩) (meth := k7m5) (c := k7c5) (by decide +kernel) rfl rfl rfl (by decide +kernel)
set_option maxRecDepth 65536 in
theorem w_c43 : (Jvm.Cond.code ({ cls := "java/lang/StringLatin1", name := "equals", desc := "([B[B)Z" } : Jvm.MethodName) jdk_43_method_13_code (3 : Nat) (Option.some Jvm.ClassFile.FieldType.boolean)).before args0 about1 = true := code_word (m := ⟨8, 3⟩) (meth := k8m3) (c := k8c3) (by decide +kernel) rfl rfl rfl (by decide +kernel)
set_option maxRecDepth 65536 in
theorem w_c44 : (Jvm.Cond.code ({ cls := "provento/files/CsvRowRefusePinLaw", name := "decLen", desc := "(I)I" } : Jvm.MethodName) method_3_code (4 : Nat) (Option.some Jvm.ClassFile.FieldType.int)).before args0 about1 = true := code_word (m := ⟨1, 2⟩) (meth := k1m2) (c := k1c2) (by decide +kernel) rfl rfl rfl (by decide +kernel)
set_option maxRecDepth 65536 in
theorem w_c45 : (Jvm.Cond.code ({ cls := "java/lang/Math", name := "abs", desc := "(J)J" } : Jvm.MethodName) jdk_29_method_61_code (2 : Nat) (Option.some Jvm.ClassFile.FieldType.long)).before args0 about1 = true := code_word (m := ⟨21, 2⟩) (meth := k21m2) (c := k21c2) (by decide +kernel) rfl rfl rfl (by decide +kernel)
set_option maxRecDepth 65536 in
theorem w_c46 : (Jvm.Cond.code ({ cls := "java/lang/String", name := "charAt", desc := "(I)C" } : Jvm.MethodName) jdk_42_method_56_code (2 : Nat) (Option.some Jvm.ClassFile.FieldType.char)).before args0 about1 = true := code_word (m := ⟨7, 4⟩) (meth := k7m4) (c := k7c4) (by decide +kernel) rfl rfl rfl (by decide +kernel)
set_option maxRecDepth 65536 in
theorem w_c47 : (Jvm.Cond.code ({ cls := "java/lang/String", name := "isLatin1", desc := "()Z" } : Jvm.MethodName) jdk_42_method_154_code (1 : Nat) (Option.some Jvm.ClassFile.FieldType.boolean)).before args0 about1 = true := code_word (m := ⟨7, 12⟩) (meth := k7m12) (c := k7c12) (by decide +kernel) rfl rfl rfl (by decide +kernel)
set_option maxRecDepth 65536 in
theorem w_c48 : (Jvm.Cond.code ({ cls := "java/lang/StringLatin1", name := "charAt", desc := "([BI)C" } : Jvm.MethodName) jdk_43_method_2_code (2 : Nat) (Option.some Jvm.ClassFile.FieldType.char)).before args0 about1 = true := code_word (m := ⟨8, 1⟩) (meth := k8m1) (c := k8c1) (by decide +kernel) rfl rfl rfl (by decide +kernel)
set_option maxRecDepth 65536 in
theorem w_c49 : (Jvm.Cond.code ({ cls := "java/lang/String", name := "checkIndex", desc := "(II)V" } : Jvm.MethodName) jdk_42_method_155_code (2 : Nat) (Option.none : Option Jvm.ClassFile.FieldType)).before args0 about1 = true := code_word (m := ⟨7, 13⟩) (meth := k7m13) (c := k7c13) (by decide +kernel) rfl rfl rfl (by decide +kernel)
set_option maxRecDepth 65536 in
theorem w_c50 : (Jvm.Cond.code ({ cls := "jdk/internal/util/Preconditions", name := "checkIndex", desc := "(IILjava/util/function/BiFunction;)I" } : Jvm.MethodName) jdk_41_method_11_code (3 : Nat) (Option.some Jvm.ClassFile.FieldType.int)).before args0 about1 = true := code_word (m := ⟨22, 1⟩) (meth := k22m1) (c := k22c1) (by decide +kernel) rfl rfl rfl (by decide +kernel)
set_option maxRecDepth 65536 in
theorem w_c51 : (Jvm.Cond.code ({ cls := "java/lang/Math", name := "abs", desc := "(I)I" } : Jvm.MethodName) jdk_29_method_59_code (1 : Nat) (Option.some Jvm.ClassFile.FieldType.int)).before args0 about1 = true := code_word (m := ⟨21, 1⟩) (meth := k21m1) (c := k21c1) (by decide +kernel) rfl rfl rfl (by decide +kernel)
set_option maxRecDepth 65536 in
theorem w_c52 : (Jvm.Cond.code ({ cls := "java/lang/StringUTF16", name := "compress", desc := "([CII)[B" } : Jvm.MethodName) jdk_52_method_16_code (6 : Nat) (Option.some (Jvm.ClassFile.FieldType.array Jvm.ClassFile.FieldType.byte))).before args0 about1 = true := code_word (m := ⟨23, 2⟩) (meth := k23m2) (c := k23c2) (by decide +kernel) rfl rfl rfl (by decide +kernel)
set_option maxRecDepth 65536 in
theorem w_c53 : (Jvm.Cond.code ({ cls := "java/lang/StringUTF16", name := "compress", desc := "([CI[BII)I" } : Jvm.MethodName) jdk_52_method_21_code (7 : Nat) (Option.some Jvm.ClassFile.FieldType.int)).before args0 about1 = true := code_word (m := ⟨23, 3⟩) (meth := k23m3) (c := k23c3) (by decide +kernel) rfl rfl rfl (by decide +kernel)
set_option maxRecDepth 65536 in
theorem w_c54 : (Jvm.Cond.code ({ cls := "java/lang/StringUTF16", name := "coderFromArrayLen", desc := "([BI)B" } : Jvm.MethodName) jdk_52_method_15_code (2 : Nat) (Option.some Jvm.ClassFile.FieldType.byte)).before args0 about1 = true := code_word (m := ⟨23, 1⟩) (meth := k23m1) (c := k23c1) (by decide +kernel) rfl rfl rfl (by decide +kernel)
set_option maxRecDepth 65536 in
theorem w_c55 : (Jvm.Cond.code ({ cls := "java/lang/AbstractStringBuilder", name := "newCapacity", desc := "(I)I" } : Jvm.MethodName) jdk_68_method_10_code (6 : Nat) (Option.some Jvm.ClassFile.FieldType.int)).before args0 about1 = true := code_word (m := ⟨15, 4⟩) (meth := k15m4) (c := k15c4) (by decide +kernel) rfl rfl rfl (by decide +kernel)
set_option maxRecDepth 65536 in
theorem w_c56 : (Jvm.Cond.code ({ cls := "jdk/internal/util/ArraysSupport", name := "newLength", desc := "(III)I" } : Jvm.MethodName) jdk_48_method_27_code (4 : Nat) (Option.some Jvm.ClassFile.FieldType.int)).before args0 about1 = true := code_word (m := ⟨25, 1⟩) (meth := k25m1) (c := k25c1) (by decide +kernel) rfl rfl rfl (by decide +kernel)
set_option maxRecDepth 65536 in
theorem w_c57 : (Jvm.Cond.code ({ cls := "java/lang/Math", name := "max", desc := "(II)I" } : Jvm.MethodName) jdk_29_method_65_code (2 : Nat) (Option.some Jvm.ClassFile.FieldType.int)).before args0 about1 = true := code_word (m := ⟨21, 3⟩) (meth := k21m3) (c := k21c3) (by decide +kernel) rfl rfl rfl (by decide +kernel)
set_option maxRecDepth 65536 in
theorem w_c58 : (Jvm.Cond.code ({ cls := "java/util/Arrays", name := "copyOf", desc := "([BI)[B" } : Jvm.MethodName) jdk_65_method_121_code (3 : Nat) (Option.some (Jvm.ClassFile.FieldType.array Jvm.ClassFile.FieldType.byte))).before args0 about1 = true := code_word (m := ⟨20, 1⟩) (meth := k20m1) (c := k20c1) (by decide +kernel) rfl rfl rfl (by decide +kernel)
def codes1 : List Jvm.Cond := [Jvm.Cond.code x code maxLocals ret, Jvm.Cond.code ({ cls := "provento/files/CsvRowRefusePinLaw", name := "str", desc := "(III)Ljava/lang/String;" } : Jvm.MethodName) method_2_code (4 : Nat) (Option.some (Jvm.ClassFile.FieldType.object "java/lang/String")), Jvm.Cond.code ({ cls := "java/lang/String", name := "valueOf", desc := "(C)Ljava/lang/String;" } : Jvm.MethodName) jdk_42_method_139_code (1 : Nat) (Option.some (Jvm.ClassFile.FieldType.object "java/lang/String")), Jvm.Cond.code ({ cls := "java/lang/StringLatin1", name := "canEncode", desc := "(C)Z" } : Jvm.MethodName) jdk_43_method_3_code (1 : Nat) (Option.some Jvm.ClassFile.FieldType.boolean), Jvm.Cond.code ({ cls := "java/lang/StringLatin1", name := "toBytes", desc := "(C)[B" } : Jvm.MethodName) jdk_43_method_46_code (1 : Nat) (Option.some (Jvm.ClassFile.FieldType.array Jvm.ClassFile.FieldType.byte)), Jvm.Cond.code ({ cls := "java/lang/String", name := "<init>", desc := "([BB)V" } : Jvm.MethodName) jdk_42_method_151_code (3 : Nat) (Option.none : Option Jvm.ClassFile.FieldType), Jvm.Cond.code ({ cls := "java/lang/Object", name := "<init>", desc := "()V" } : Jvm.MethodName) object_method_1_code (1 : Nat) (Option.none : Option Jvm.ClassFile.FieldType), Jvm.Cond.code ({ cls := "java/lang/String", name := "<init>", desc := "([C)V" } : Jvm.MethodName) jdk_42_method_3_code (2 : Nat) (Option.none : Option Jvm.ClassFile.FieldType), Jvm.Cond.code ({ cls := "java/lang/String", name := "<init>", desc := "([CIILjava/lang/Void;)V" } : Jvm.MethodName) jdk_42_method_149_code (6 : Nat) (Option.none : Option Jvm.ClassFile.FieldType), Jvm.Cond.code ({ cls := "provento/files/CsvRow", name := "<init>", desc := "(Ljava/lang/String;ILjava/util/Map;Ljava/lang/String;[ILprovento/files/FieldTexts;)V" } : Jvm.MethodName) prog_33_method_1_code (7 : Nat) (Option.none : Option Jvm.ClassFile.FieldType), Jvm.Cond.code ({ cls := "provento/files/CsvRow", name := "refuse", desc := "(Ljava/lang/String;)Lprovento/files/Refusal;" } : Jvm.MethodName) prog_33_method_9_code (2 : Nat) (Option.some (Jvm.ClassFile.FieldType.object "provento/files/Refusal")), Jvm.Cond.code ({ cls := "provento/files/Refusal", name := "<init>", desc := "(Ljava/lang/String;ILjava/lang/String;)V" } : Jvm.MethodName) prog_43_method_2_code (4 : Nat) (Option.none : Option Jvm.ClassFile.FieldType), Jvm.Cond.code ({ cls := "provento/files/Refusal", name := "lineMessage", desc := "(Ljava/lang/String;ILjava/lang/String;)Ljava/lang/String;" } : Jvm.MethodName) prog_43_method_4_code (3 : Nat) (Option.some (Jvm.ClassFile.FieldType.object "java/lang/String")), Jvm.Cond.code ({ cls := "java/lang/StringBuilder", name := "<init>", desc := "()V" } : Jvm.MethodName) jdk_67_method_1_code (1 : Nat) (Option.none : Option Jvm.ClassFile.FieldType), Jvm.Cond.code ({ cls := "java/lang/AbstractStringBuilder", name := "<init>", desc := "(I)V" } : Jvm.MethodName) jdk_68_method_2_code (2 : Nat) (Option.none : Option Jvm.ClassFile.FieldType), Jvm.Cond.code ({ cls := "java/lang/StringBuilder", name := "append", desc := "(Ljava/lang/String;)Ljava/lang/StringBuilder;" } : Jvm.MethodName) jdk_67_method_7_code (2 : Nat) (Option.some (Jvm.ClassFile.FieldType.object "java/lang/StringBuilder")), Jvm.Cond.code ({ cls := "java/lang/AbstractStringBuilder", name := "append", desc := "(Ljava/lang/String;)Ljava/lang/AbstractStringBuilder;" } : Jvm.MethodName) jdk_68_method_22_code (3 : Nat) (Option.some (Jvm.ClassFile.FieldType.object "java/lang/AbstractStringBuilder")), Jvm.Cond.code ({ cls := "java/lang/String", name := "length", desc := "()I" } : Jvm.MethodName) jdk_42_method_54_code (1 : Nat) (Option.some Jvm.ClassFile.FieldType.int), Jvm.Cond.code ({ cls := "java/lang/String", name := "coder", desc := "()B" } : Jvm.MethodName) jdk_42_method_152_code (1 : Nat) (Option.some Jvm.ClassFile.FieldType.byte), Jvm.Cond.code ({ cls := "java/lang/AbstractStringBuilder", name := "ensureCapacityInternal", desc := "(I)V" } : Jvm.MethodName) jdk_68_method_9_code (3 : Nat) (Option.none : Option Jvm.ClassFile.FieldType), Jvm.Cond.code ({ cls := "java/lang/AbstractStringBuilder", name := "putStringAt", desc := "(ILjava/lang/String;)V" } : Jvm.MethodName) jdk_68_method_73_code (3 : Nat) (Option.none : Option Jvm.ClassFile.FieldType), Jvm.Cond.code ({ cls := "java/lang/AbstractStringBuilder", name := "inflateIfNeededFor", desc := "(Ljava/lang/String;)V" } : Jvm.MethodName) jdk_68_method_71_code (2 : Nat) (Option.none : Option Jvm.ClassFile.FieldType), Jvm.Cond.code ({ cls := "java/lang/String", name := "getBytes", desc := "([BIB)V" } : Jvm.MethodName) jdk_42_method_147_code (4 : Nat) (Option.none : Option Jvm.ClassFile.FieldType), Jvm.Cond.code ({ cls := "java/lang/StringBuilder", name := "append", desc := "(I)Ljava/lang/StringBuilder;" } : Jvm.MethodName) jdk_67_method_15_code (2 : Nat) (Option.some (Jvm.ClassFile.FieldType.object "java/lang/StringBuilder")), Jvm.Cond.code ({ cls := "java/lang/AbstractStringBuilder", name := "append", desc := "(I)Ljava/lang/AbstractStringBuilder;" } : Jvm.MethodName) jdk_68_method_32_code (4 : Nat) (Option.some (Jvm.ClassFile.FieldType.object "java/lang/AbstractStringBuilder")), Jvm.Cond.code ({ cls := "java/lang/Integer", name := "stringSize", desc := "(I)I" } : Jvm.MethodName) jdk_33_method_13_code (4 : Nat) (Option.some Jvm.ClassFile.FieldType.int), Jvm.Cond.code ({ cls := "java/lang/AbstractStringBuilder", name := "isLatin1", desc := "()Z" } : Jvm.MethodName) jdk_68_method_68_code (1 : Nat) (Option.some Jvm.ClassFile.FieldType.boolean), Jvm.Cond.code ({ cls := "java/lang/Integer", name := "getChars", desc := "(II[B)I" } : Jvm.MethodName) jdk_33_method_12_code (7 : Nat) (Option.some Jvm.ClassFile.FieldType.int), Jvm.Cond.code ({ cls := "java/lang/StringBuilder", name := "toString", desc := "()Ljava/lang/String;" } : Jvm.MethodName) jdk_67_method_42_code (1 : Nat) (Option.some (Jvm.ClassFile.FieldType.object "java/lang/String")), Jvm.Cond.code ({ cls := "java/lang/String", name := "<init>", desc := "(Ljava/lang/StringBuilder;)V" } : Jvm.MethodName) jdk_42_method_53_code (2 : Nat) (Option.none : Option Jvm.ClassFile.FieldType), Jvm.Cond.code ({ cls := "java/lang/String", name := "<init>", desc := "(Ljava/lang/AbstractStringBuilder;Ljava/lang/Void;)V" } : Jvm.MethodName) jdk_42_method_150_code (5 : Nat) (Option.none : Option Jvm.ClassFile.FieldType), Jvm.Cond.code ({ cls := "java/lang/AbstractStringBuilder", name := "getValue", desc := "()[B" } : Jvm.MethodName) jdk_68_method_64_code (1 : Nat) (Option.some (Jvm.ClassFile.FieldType.array Jvm.ClassFile.FieldType.byte)), Jvm.Cond.code ({ cls := "java/lang/StringBuilder", name := "length", desc := "()I" } : Jvm.MethodName) jdk_67_method_93_code (1 : Nat) (Option.some Jvm.ClassFile.FieldType.int), Jvm.Cond.code ({ cls := "java/lang/AbstractStringBuilder", name := "length", desc := "()I" } : Jvm.MethodName) jdk_68_method_6_code (1 : Nat) (Option.some Jvm.ClassFile.FieldType.int), Jvm.Cond.code ({ cls := "java/util/Arrays", name := "copyOfRange", desc := "([BII)[B" } : Jvm.MethodName) jdk_65_method_132_code (3 : Nat) (Option.some (Jvm.ClassFile.FieldType.array Jvm.ClassFile.FieldType.byte)), Jvm.Cond.code ({ cls := "java/util/Arrays", name := "copyOfRangeByte", desc := "([BII)[B" } : Jvm.MethodName) jdk_65_method_133_code (5 : Nat) (Option.some (Jvm.ClassFile.FieldType.array Jvm.ClassFile.FieldType.byte)), Jvm.Cond.code ({ cls := "java/util/Arrays", name := "checkLength", desc := "(II)V" } : Jvm.MethodName) jdk_65_method_131_code (2 : Nat) (Option.none : Option Jvm.ClassFile.FieldType), Jvm.Cond.code ({ cls := "java/lang/Math", name := "min", desc := "(II)I" } : Jvm.MethodName) jdk_29_method_69_code (2 : Nat) (Option.some Jvm.ClassFile.FieldType.int), Jvm.Cond.code ({ cls := "java/lang/Exception", name := "<init>", desc := "(Ljava/lang/String;)V" } : Jvm.MethodName) jdk_59_method_2_code (2 : Nat) (Option.none : Option Jvm.ClassFile.FieldType), Jvm.Cond.code ({ cls := "java/lang/Throwable", name := "<init>", desc := "(Ljava/lang/String;)V" } : Jvm.MethodName) jdk_78_method_2_code (2 : Nat) (Option.none : Option Jvm.ClassFile.FieldType), Jvm.Cond.code ({ cls := "java/lang/Throwable", name := "<init>", desc := "()V" } : Jvm.MethodName) jdk_78_method_1_code (1 : Nat) (Option.none : Option Jvm.ClassFile.FieldType), Jvm.Cond.code ({ cls := "java/lang/Throwable", name := "getMessage", desc := "()Ljava/lang/String;" } : Jvm.MethodName) jdk_78_method_6_code (1 : Nat) (Option.some (Jvm.ClassFile.FieldType.object "java/lang/String")), Jvm.Cond.code ({ cls := "java/lang/String", name := "equals", desc := "(Ljava/lang/Object;)Z" } : Jvm.MethodName) jdk_42_method_66_code (3 : Nat) (Option.some Jvm.ClassFile.FieldType.boolean), Jvm.Cond.code ({ cls := "java/lang/StringLatin1", name := "equals", desc := "([B[B)Z" } : Jvm.MethodName) jdk_43_method_13_code (3 : Nat) (Option.some Jvm.ClassFile.FieldType.boolean), Jvm.Cond.code ({ cls := "provento/files/CsvRowRefusePinLaw", name := "decLen", desc := "(I)I" } : Jvm.MethodName) method_3_code (4 : Nat) (Option.some Jvm.ClassFile.FieldType.int), Jvm.Cond.code ({ cls := "java/lang/Math", name := "abs", desc := "(J)J" } : Jvm.MethodName) jdk_29_method_61_code (2 : Nat) (Option.some Jvm.ClassFile.FieldType.long), Jvm.Cond.code ({ cls := "java/lang/String", name := "charAt", desc := "(I)C" } : Jvm.MethodName) jdk_42_method_56_code (2 : Nat) (Option.some Jvm.ClassFile.FieldType.char), Jvm.Cond.code ({ cls := "java/lang/String", name := "isLatin1", desc := "()Z" } : Jvm.MethodName) jdk_42_method_154_code (1 : Nat) (Option.some Jvm.ClassFile.FieldType.boolean), Jvm.Cond.code ({ cls := "java/lang/StringLatin1", name := "charAt", desc := "([BI)C" } : Jvm.MethodName) jdk_43_method_2_code (2 : Nat) (Option.some Jvm.ClassFile.FieldType.char), Jvm.Cond.code ({ cls := "java/lang/String", name := "checkIndex", desc := "(II)V" } : Jvm.MethodName) jdk_42_method_155_code (2 : Nat) (Option.none : Option Jvm.ClassFile.FieldType), Jvm.Cond.code ({ cls := "jdk/internal/util/Preconditions", name := "checkIndex", desc := "(IILjava/util/function/BiFunction;)I" } : Jvm.MethodName) jdk_41_method_11_code (3 : Nat) (Option.some Jvm.ClassFile.FieldType.int), Jvm.Cond.code ({ cls := "java/lang/Math", name := "abs", desc := "(I)I" } : Jvm.MethodName) jdk_29_method_59_code (1 : Nat) (Option.some Jvm.ClassFile.FieldType.int), Jvm.Cond.code ({ cls := "java/lang/StringUTF16", name := "compress", desc := "([CII)[B" } : Jvm.MethodName) jdk_52_method_16_code (6 : Nat) (Option.some (Jvm.ClassFile.FieldType.array Jvm.ClassFile.FieldType.byte)), Jvm.Cond.code ({ cls := "java/lang/StringUTF16", name := "compress", desc := "([CI[BII)I" } : Jvm.MethodName) jdk_52_method_21_code (7 : Nat) (Option.some Jvm.ClassFile.FieldType.int), Jvm.Cond.code ({ cls := "java/lang/StringUTF16", name := "coderFromArrayLen", desc := "([BI)B" } : Jvm.MethodName) jdk_52_method_15_code (2 : Nat) (Option.some Jvm.ClassFile.FieldType.byte), Jvm.Cond.code ({ cls := "java/lang/AbstractStringBuilder", name := "newCapacity", desc := "(I)I" } : Jvm.MethodName) jdk_68_method_10_code (6 : Nat) (Option.some Jvm.ClassFile.FieldType.int), Jvm.Cond.code ({ cls := "jdk/internal/util/ArraysSupport", name := "newLength", desc := "(III)I" } : Jvm.MethodName) jdk_48_method_27_code (4 : Nat) (Option.some Jvm.ClassFile.FieldType.int), Jvm.Cond.code ({ cls := "java/lang/Math", name := "max", desc := "(II)I" } : Jvm.MethodName) jdk_29_method_65_code (2 : Nat) (Option.some Jvm.ClassFile.FieldType.int), Jvm.Cond.code ({ cls := "java/util/Arrays", name := "copyOf", desc := "([BI)[B" } : Jvm.MethodName) jdk_65_method_121_code (3 : Nat) (Option.some (Jvm.ClassFile.FieldType.array Jvm.ClassFile.FieldType.byte))]
set_option maxRecDepth 65536 in
theorem codes_eq : words1.filter isCode = codes1 := rfl
theorem w_codes : ∀ c ∈ words1.filter isCode, c.before args0 about1 = true := by
  rw [codes_eq]
  intro c hc
  simp only [codes1, List.mem_cons, List.not_mem_nil, or_false] at hc
  rcases hc with rfl | rfl | rfl | rfl | rfl | rfl | rfl | rfl | rfl | rfl | rfl | rfl | rfl | rfl | rfl | rfl | rfl | rfl | rfl | rfl | rfl | rfl | rfl | rfl | rfl | rfl | rfl | rfl | rfl | rfl | rfl | rfl | rfl | rfl | rfl | rfl | rfl | rfl | rfl | rfl | rfl | rfl | rfl | rfl | rfl | rfl | rfl | rfl | rfl | rfl | rfl | rfl | rfl | rfl | rfl | rfl | rfl | rfl | rfl
  · exact w_c0
  · exact w_c1
  · exact w_c2
  · exact w_c3
  · exact w_c4
  · exact w_c5
  · exact w_c6
  · exact w_c7
  · exact w_c8
  · exact w_c9
  · exact w_c10
  · exact w_c11
  · exact w_c12
  · exact w_c13
  · exact w_c14
  · exact w_c15
  · exact w_c16
  · exact w_c17
  · exact w_c18
  · exact w_c19
  · exact w_c20
  · exact w_c21
  · exact w_c22
  · exact w_c23
  · exact w_c24
  · exact w_c25
  · exact w_c26
  · exact w_c27
  · exact w_c28
  · exact w_c29
  · exact w_c30
  · exact w_c31
  · exact w_c32
  · exact w_c33
  · exact w_c34
  · exact w_c35
  · exact w_c36
  · exact w_c37
  · exact w_c38
  · exact w_c39
  · exact w_c40
  · exact w_c41
  · exact w_c42
  · exact w_c43
  · exact w_c44
  · exact w_c45
  · exact w_c46
  · exact w_c47
  · exact w_c48
  · exact w_c49
  · exact w_c50
  · exact w_c51
  · exact w_c52
  · exact w_c53
  · exact w_c54
  · exact w_c55
  · exact w_c56
  · exact w_c57
  · exact w_c58
set_option maxRecDepth 65536 in
theorem w_t1 : (words1.take 24).all (fun c => isCode c || c.before args0 about1) = true := by decide +kernel
set_option maxRecDepth 65536 in
theorem w_t2 : ((words1.drop 24).take 24).all (fun c => isCode c || c.before args0 about1) = true := by decide +kernel
set_option maxRecDepth 65536 in
theorem w_t3 : (((words1.drop 24).drop 24).take 24).all (fun c => isCode c || c.before args0 about1) = true := by decide +kernel
set_option maxRecDepth 65536 in
theorem w_t4 : ((((words1.drop 24).drop 24).drop 24).take 24).all (fun c => isCode c || c.before args0 about1) = true := by decide +kernel
set_option maxRecDepth 65536 in
theorem w_t5 : (((((words1.drop 24).drop 24).drop 24).drop 24).take 24).all (fun c => isCode c || c.before args0 about1) = true := by decide +kernel
set_option maxRecDepth 65536 in
theorem w_t6 : ((((((words1.drop 24).drop 24).drop 24).drop 24).drop 24).take 24).all (fun c => isCode c || c.before args0 about1) = true := by decide +kernel
set_option maxRecDepth 65536 in
theorem w_t7 : (((((((words1.drop 24).drop 24).drop 24).drop 24).drop 24).drop 24).take 24).all (fun c => isCode c || c.before args0 about1) = true := by decide +kernel
set_option maxRecDepth 65536 in
theorem w_t8 : ((((((((words1.drop 24).drop 24).drop 24).drop 24).drop 24).drop 24).drop 24).take 24).all (fun c => isCode c || c.before args0 about1) = true := by decide +kernel
set_option maxRecDepth 65536 in
theorem w_t9 : (((((((((words1.drop 24).drop 24).drop 24).drop 24).drop 24).drop 24).drop 24).drop 24).take 24).all (fun c => isCode c || c.before args0 about1) = true := by decide +kernel
set_option maxRecDepth 65536 in
theorem w_t10 : ((((((((((words1.drop 24).drop 24).drop 24).drop 24).drop 24).drop 24).drop 24).drop 24).drop 24).take 24).all (fun c => isCode c || c.before args0 about1) = true := by decide +kernel
set_option maxRecDepth 65536 in
theorem w_t11 : (((((((((((words1.drop 24).drop 24).drop 24).drop 24).drop 24).drop 24).drop 24).drop 24).drop 24).drop 24).take 24).all (fun c => isCode c || c.before args0 about1) = true := by decide +kernel
set_option maxRecDepth 65536 in
theorem w_t12 : ((((((((((((words1.drop 24).drop 24).drop 24).drop 24).drop 24).drop 24).drop 24).drop 24).drop 24).drop 24).drop 24).take 24).all (fun c => isCode c || c.before args0 about1) = true := by decide +kernel
set_option maxRecDepth 65536 in
theorem w_t13 : (((((((((((((words1.drop 24).drop 24).drop 24).drop 24).drop 24).drop 24).drop 24).drop 24).drop 24).drop 24).drop 24).drop 24).take 24).all (fun c => isCode c || c.before args0 about1) = true := by decide +kernel
set_option maxRecDepth 65536 in
theorem w_t14 : ((((((((((((((words1.drop 24).drop 24).drop 24).drop 24).drop 24).drop 24).drop 24).drop 24).drop 24).drop 24).drop 24).drop 24).drop 24).take 24).all (fun c => isCode c || c.before args0 about1) = true := by decide +kernel
set_option maxRecDepth 65536 in
theorem w_t15 : ((((((((((((((words1.drop 24).drop 24).drop 24).drop 24).drop 24).drop 24).drop 24).drop 24).drop 24).drop 24).drop 24).drop 24).drop 24).drop 24).all (fun c => isCode c || c.before args0 about1) = true := by decide +kernel
theorem w_tables : (allAtoms (Jvm.Cond.code x code maxLocals ret :: tables_1)).before args0 about1 = true := by
  rw [allAtoms_all]
  show words1.all (fun c => c.before args0 about1) = true
  refine all_split ?_ w_codes
  rw [← List.take_append_drop 24 words1, List.all_append, w_t1, ← List.take_append_drop 24 (words1.drop 24), List.all_append, w_t2, ← List.take_append_drop 24 ((words1.drop 24).drop 24), List.all_append, w_t3, ← List.take_append_drop 24 (((words1.drop 24).drop 24).drop 24), List.all_append, w_t4, ← List.take_append_drop 24 ((((words1.drop 24).drop 24).drop 24).drop 24), List.all_append, w_t5, ← List.take_append_drop 24 (((((words1.drop 24).drop 24).drop 24).drop 24).drop 24), List.all_append, w_t6, ← List.take_append_drop 24 ((((((words1.drop 24).drop 24).drop 24).drop 24).drop 24).drop 24), List.all_append, w_t7, ← List.take_append_drop 24 (((((((words1.drop 24).drop 24).drop 24).drop 24).drop 24).drop 24).drop 24), List.all_append, w_t8, ← List.take_append_drop 24 ((((((((words1.drop 24).drop 24).drop 24).drop 24).drop 24).drop 24).drop 24).drop 24), List.all_append, w_t9, ← List.take_append_drop 24 (((((((((words1.drop 24).drop 24).drop 24).drop 24).drop 24).drop 24).drop 24).drop 24).drop 24), List.all_append, w_t10, ← List.take_append_drop 24 ((((((((((words1.drop 24).drop 24).drop 24).drop 24).drop 24).drop 24).drop 24).drop 24).drop 24).drop 24), List.all_append, w_t11, ← List.take_append_drop 24 (((((((((((words1.drop 24).drop 24).drop 24).drop 24).drop 24).drop 24).drop 24).drop 24).drop 24).drop 24).drop 24), List.all_append, w_t12, ← List.take_append_drop 24 ((((((((((((words1.drop 24).drop 24).drop 24).drop 24).drop 24).drop 24).drop 24).drop 24).drop 24).drop 24).drop 24).drop 24), List.all_append, w_t13, ← List.take_append_drop 24 (((((((((((((words1.drop 24).drop 24).drop 24).drop 24).drop 24).drop 24).drop 24).drop 24).drop 24).drop 24).drop 24).drop 24).drop 24), List.all_append, w_t14, w_t15]
  rfl
set_option maxRecDepth 65536 in
theorem w_rest : rest_1_c.before args0 about1 = true := by decide +kernel
set_option maxRecDepth 65536 in
theorem w_case : (Jvm.Cond.and given_1 narrow_1).before args0 about1 = true := by decide +kernel
set_option maxRecDepth 65536 in
theorem w_consts : constsHeld consts_1 about1 := Jvm.Lit.constsHeldB_iff.mp (by decide +kernel)
theorem w_applies : (headSpec (Jvm.Cond.code x code maxLocals ret :: tables_1) room_1).applies x e0.platform about1 = true :=
  (Spec.applies_iff w_frames).mpr ⟨w_running, w_runnable, w_alone, w_named, w_hears, w_ripe, w_room, w_tables⟩
theorem atStart : AtStart classFile x code maxLocals ret World_1 tables_1 room_1 Calls_1 rest_1 Pre_1 launch0 p0 e0 about1 theMethod args0 below0 :=
  ⟨lists_1, trivial, launch0.admits_env _ _ _, launch0.least_env, fairChoices_fair.cas, fairChoices_fair.clock, w_frames, w_args, w_heap, w_applies, ⟨(by decide +kernel : framesKnown about1 = true), ⟨(by decide +kernel : tablesKnown about1 = true), ⟨w_consts, trivial⟩⟩⟩, w_rest, w_case⟩
end start1
theorem witness_1 : WitnessClaimed_1 := ⟨start1.p0, start1.e0, start1.about1, start1.theMethod, start1.args0, start1.below0, start1.atStart⟩
end Jvm.Pilot.@@N@@
