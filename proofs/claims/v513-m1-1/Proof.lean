import JvmDerived
import JvmDerived.Pilot.@@N@@Statement
import JvmDerived.Pilot.@@N@@Code
set_option linter.unusedVariables false
set_option linter.unusedSimpArgs false
/- laws to paste: Road.backV, Road.eqW, Road.codOf (cut by pick.py; bodies as the Statement names them) -/
namespace Jvm.Pilot.@@N@@
namespace StrChars
open Jvm Sem ClassFile Op Lib Jvm.Stand Jvm.Free.XT Jvm.Free.ALB Jvm.Free.JM Jvm.Free
open Jvm.Lib.Cold (StaticIs)
/-- a char array whose places are chars -/
def Ch (a : Addr) (A : Cell) (U : State) : Prop := Arr .char a A U ∧ Typed .char A
theorem Ch.mv {a : Addr} {A : Cell} {U U' : State} (h : Ch a A U) (hal : U.vm.Alike U'.vm) (hh : U'.heap = U.heap) : Ch a A U' := ⟨h.1.mv hal hh, h.2⟩
theorem Ch.keep {a : Addr} {A : Cell} {U U' : State} (h : Ch a A U) (hal : U.vm.Alike U'.vm) (hk : U'.heap[a]? = some A) : Ch a A U' := ⟨h.1.keep hal hk, h.2⟩
/-- what place i of a char[]'s cell holds -/
def cv (A : Cell) (i : Nat) : Int32 := match A.slots[i]? with | some (.int x) => x | _ => 0
theorem Ch.get {a : Addr} {A : Cell} {U : State} (h : Ch a A U) {i : Nat} (hi : i < A.slots.size) : A.slots[i]? = some (.int (cv A i)) := by
  have e := Array.getElem?_eq_getElem hi
  have f := h.2 i _ e
  unfold cv; rw [e]
  generalize A.slots[i] = v at f
  cases v <;> simp [fits] at f ⊢
/-- the byte that i2b leaves of a char -/
def lo8 (x : Int32) : Int32 := x.toInt8.toInt32
theorem fits_lo8 (y : Int32) : fits .byte (.int (lo8 y)) = true := by
  have h1 := y.toInt8.le_toInt
  have h2 := y.toInt8.toInt_lt
  simp only [lo8, fits, Bool.and_eq_true, decide_eq_true_eq, Int32.le_iff_toInt_le, Int8.toInt_toInt32, show (-128 : Int32).toInt = -128 from by decide, show (127 : Int32).toInt = 127 from by decide]
  omega
/-- A' is A but that each place j of lo .. hi - 1 holds f j -/
def Laid (A A' : Cell) (lo hi : Nat) (f : Nat → Value) : Prop := A'.cls = A.cls ∧ A'.vm = A.vm ∧ A'.slots.size = A.slots.size ∧ ∀ i, A'.slots[i]? = if lo ≤ i ∧ i < hi then some (f i) else A.slots[i]?
theorem Laid.zero (A : Cell) (lo : Nat) (f : Nat → Value) : Laid A A lo (lo + 0) f := ⟨rfl, rfl, rfl, fun i => by rw [if_neg (by omega)]⟩
theorem Laid.step {A Ak : Cell} {lo k : Nat} {f : Nat → Value} {v : Value} (h : Laid A Ak lo k f) (hlo : lo ≤ k) (hk : k < Ak.slots.size) (hv : v = f k) : Laid A (Ak.setSlot k v) lo (k + 1) f := by
  refine ⟨h.1, h.2.1, by simpa [Cell.setSlot] using h.2.2.1, fun i => ?_⟩
  by_cases e : k = i
  · subst e; rw [Cell.slots_setSlot_self v hk, if_pos (by omega), hv]
  · rw [Cell.slots_setSlot_ne v e, h.2.2.2 i]
    by_cases q : lo ≤ i ∧ i < k
    · rw [if_pos q, if_pos (by omega)]
    · rw [if_neg q, if_neg (by omega)]
def U16 : String := "java/lang/StringUTF16"
namespace Cmp5
def yN : MethodName := ⟨"java/lang/StringUTF16", "compress", "([CI[BII)I"⟩
abbrev yB : ByteArray := jdk_52_method_21_code
theorem d0 : decode yB 0 = .ok (.iconst 0, 1) := by decide +kernel
theorem d1 : decode yB 1 = .ok (.istore 5, 2) := by decide +kernel
theorem d3 : decode yB 3 = .ok (.iload 5, 2) := by decide +kernel
theorem d5 : decode yB 5 = .ok (.iload 4, 2) := by decide +kernel
theorem d7 : decode yB 7 = .ok (.if_icmp (.ge) 37, 3) := by decide +kernel
theorem d10 : decode yB 10 = .ok (.aload_n 0, 1) := by decide +kernel
theorem d11 : decode yB 11 = .ok (.iload_n 1, 1) := by decide +kernel
theorem d12 : decode yB 12 = .ok (.caload, 1) := by decide +kernel
theorem d13 : decode yB 13 = .ok (.istore 6, 2) := by decide +kernel
theorem d15 : decode yB 15 = .ok (.iload 6, 2) := by decide +kernel
theorem d17 : decode yB 17 = .ok (.sipush 255, 3) := by decide +kernel
theorem d20 : decode yB 20 = .ok (.if_icmp (.le) 6, 3) := by decide +kernel
theorem d26 : decode yB 26 = .ok (.aload_n 2, 1) := by decide +kernel
theorem d27 : decode yB 27 = .ok (.iload_n 3, 1) := by decide +kernel
theorem d28 : decode yB 28 = .ok (.iload 6, 2) := by decide +kernel
theorem d30 : decode yB 30 = .ok (.i2b, 1) := by decide +kernel
theorem d31 : decode yB 31 = .ok (.bastore, 1) := by decide +kernel
theorem d32 : decode yB 32 = .ok (.iinc 1 1, 3) := by decide +kernel
theorem d35 : decode yB 35 = .ok (.iinc 3 1, 3) := by decide +kernel
theorem d38 : decode yB 38 = .ok (.iinc 5 1, 3) := by decide +kernel
theorem d41 : decode yB 41 = .ok (.goto (-38), 3) := by decide +kernel
theorem d44 : decode yB 44 = .ok (.iload 4, 2) := by decide +kernel
theorem d46 : decode yB 46 = .ok (.ireturn, 1) := by decide +kernel
def site : List Cond := []
def tab : Cond := tabOf yN yB 7 (some .int) site
def P (b : Addr) (A : Cell) (d : Addr) (B : Cell) (o q len : Nat) (args : Array Value) (s : State) : Prop := args = #[.ref b, .int (Int32.ofNat o), .ref d, .int (Int32.ofNat q), .int (Int32.ofNat len)] ∧ Ch b A s ∧ Arr .byte d B s ∧ b ≠ d ∧ o + len ≤ A.slots.size ∧ q + len ≤ B.slots.size ∧ ∀ i, i < len → ¬ 255 < cv A (o + i)
def E (b : Addr) (A : Cell) (d : Addr) (B : Cell) (o q len : Nat) (r : Option Value) (s u : State) : Prop := r = some (.int (Int32.ofNat len)) ∧ ∃ B', Put d B' s u ∧ Laid B B' q (q + len) (fun j => Value.int (lo8 (cv A (o + (j - q)))))
/-- no char of the range above 255: len; the places written hold each char's low byte -/
theorem law (l : Launch) (b : Addr) (A : Cell) (d : Addr) (B : Cell) (o q len : Nat) : Law l yN 5 5 0 0 yB 7 (some .int) site (P b A d B o q len) (E b A d B o q len) (copyLocs d q len) 0 0 := by
  refine Law.of_walk (plainFor_of_name (by decide +kernel)) (by decide +kernel) (by decide +kernel) (by decide) (fun _ _ h => by rw [h.1]; rfl) (fun _ U U' hal hh h => ⟨h.1, h.2.1.mv hal hh, h.2.2.1.mv hal hh, h.2.2.2⟩) (fun r U U' V V' h1 hal h2 h => ⟨h.1, h.2.elim fun B' q => ⟨B', q.1.mv h1 h2, q.2⟩⟩) ?_
  intro p e s m args below meth c s₁ X0 hexec hbytes hml hret hlk hnm hown hh0 W hP
  obtain ⟨rfl, hA, hB, hne, l1, l2, hp⟩ := hP
  have c1 : Steps p.tables e below (s₁.setTop (entryFrame m #[.ref b, .int (Int32.ofNat o), .ref d, .int (Int32.ofNat q), .int (Int32.ofNat len)] 7)) (s₁.setTop (mkF m 0 #[.val (.ref b), .val (.int (Int32.ofNat o)), .val (.ref d), .val (.int (Int32.ofNat q)), .val (.int (Int32.ofNat len)), .unset, .unset] [])) := entry rfl
  have hA0 := hA.1.mv X0.warmed.alike hh0
  have hB0 := hB.mv X0.warmed.alike hh0
  have a31 := hA.1.2.2.2
  have c2 : Steps p.tables e below (s₁.setTop (entryFrame m #[.ref b, .int (Int32.ofNat o), .ref d, .int (Int32.ofNat q), .int (Int32.ofNat len)] 7)) (s₁.setTop (mkF m 3 #[.val (.ref b), .val (.int (Int32.ofNat o)), .val (.ref d), .val (.int (Int32.ofNat q)), .val (.int (Int32.ofNat len)), .val (.int 0), .unset] [])) := c1.trans (by
    refine iconstV X0.here hexec rfl 0 (hb hbytes d0) (by decide) ?_
    refine XS.istore X0.here hexec rfl (hb hbytes d1) rfl rfl ?_
    exact Steps.refl _)
  have loop : ∀ (r i : Nat), i + r = len → ∀ (z : Slot), (z = .unset ∨ ∃ w, z = .val w ∧ w.category = 1) → ∀ (Tl : State) (Bk : Cell), Stand p l e { frames := 0, locals := 0, cells := 0, slots := 0 } s m #[.ref b, .int (Int32.ofNat o), .ref d, .int (Int32.ofNat q), .int (Int32.ofNat len)] below meth c Tl ([] ++ copyLocs d q i) 0 0 → Put d Bk s₁ Tl → Laid B Bk q (q + i) (fun j => Value.int (lo8 (cv A (o + (j - q))))) →
      Steps p.tables e below (s₁.setTop (entryFrame m #[.ref b, .int (Int32.ofNat o), .ref d, .int (Int32.ofNat q), .int (Int32.ofNat len)] 7)) (Tl.setTop (mkF m 3 #[.val (.ref b), .val (.int (Int32.ofNat (o + i))), .val (.ref d), .val (.int (Int32.ofNat (q + i))), .val (.int (Int32.ofNat len)), .val (.int (Int32.ofNat i)), z] [])) → ∃ (T' : State) (B' : Cell) (z' : Slot), Stand p l e { frames := 0, locals := 0, cells := 0, slots := 0 } s m #[.ref b, .int (Int32.ofNat o), .ref d, .int (Int32.ofNat q), .int (Int32.ofNat len)] below meth c T' ([] ++ copyLocs d q len) 0 0 ∧ Put d B' s₁ T' ∧ Laid B B' q (q + len) (fun j => Value.int (lo8 (cv A (o + (j - q))))) ∧
      Steps p.tables e below (s₁.setTop (entryFrame m #[.ref b, .int (Int32.ofNat o), .ref d, .int (Int32.ofNat q), .int (Int32.ofNat len)] 7)) (T'.setTop (mkF m 3 #[.val (.ref b), .val (.int (Int32.ofNat (o + len))), .val (.ref d), .val (.int (Int32.ofNat (q + len))), .val (.int (Int32.ofNat len)), .val (.int (Int32.ofNat len)), z'] [])) := by
    intro r
    induction r with
    | zero =>
      intro i hi z hz Tl Bk Xl pl fl cl
      have hil : i = len := by omega
      rw [hil] at Xl fl cl
      exact ⟨Tl, Bk, z, Xl, pl, fl, cl⟩
    | succ r ih =>
      intro i hi z hz Tl Bk Xl pl fl cl
      have all := X0.warmed.alike.symm.trans Xl.warmed.alike
      have hAl := hA0.keep all (pl.other hne hA0.1)
      have hBk := hB0.like all pl.1 fl.1 fl.2.1 fl.2.2.1
      have hlt : q + i < Bk.slots.size := by rw [fl.2.2.1]; omega
      have c3 : Steps p.tables e below (s₁.setTop (entryFrame m #[.ref b, .int (Int32.ofNat o), .ref d, .int (Int32.ofNat q), .int (Int32.ofNat len)] 7)) (Tl.setTop (mkF m 12 #[.val (.ref b), .val (.int (Int32.ofNat (o + i))), .val (.ref d), .val (.int (Int32.ofNat (q + i))), .val (.int (Int32.ofNat len)), .val (.int (Int32.ofNat i)), z] [.int (Int32.ofNat (o + i)), .ref b])) := cl.trans (by
        refine XS.iload Xl.here hexec rfl (hb hbytes d3) rfl ?_
        refine XS.iload Xl.here hexec rfl (hb hbytes d5) rfl ?_
        refine XS.icmpNo Xl.here hexec rfl (hb hbytes d7) rfl (ii_ge_f (lt32 (by omega) (by omega))) ?_
        refine XS.aloadN Xl.here hexec rfl (hb hbytes d10) rfl rfl ?_
        refine XS.iloadN Xl.here hexec rfl (hb hbytes d11) rfl ?_
        exact Steps.refl _)
      have c4 : Steps p.tables e below (s₁.setTop (entryFrame m #[.ref b, .int (Int32.ofNat o), .ref d, .int (Int32.ofNat q), .int (Int32.ofNat len)] 7)) (Tl.setTop (mkF m 13 #[.val (.ref b), .val (.int (Int32.ofNat (o + i))), .val (.ref d), .val (.int (Int32.ofNat (q + i))), .val (.int (Int32.ofNat len)), .val (.int (Int32.ofNat i)), z] [.int (cv A (o + i))])) := c3.trans (by
        refine Xl.aget hexec hAl rfl (hA.get (i := o + i) (by omega)) rfl rfl (hb hbytes d12) ?_
        exact Steps.refl _)
      have c5 : Steps p.tables e below (s₁.setTop (entryFrame m #[.ref b, .int (Int32.ofNat o), .ref d, .int (Int32.ofNat q), .int (Int32.ofNat len)] 7)) (Tl.setTop (mkF m 15 #[.val (.ref b), .val (.int (Int32.ofNat (o + i))), .val (.ref d), .val (.int (Int32.ofNat (q + i))), .val (.int (Int32.ofNat len)), .val (.int (Int32.ofNat i)), .val (.int (cv A (o + i)))] [])) := c4.trans (by
        refine XS.istoreS Xl.here hexec rfl (hb hbytes d13) rfl rfl hz ?_
        exact Steps.refl _)
      have c6 : Steps p.tables e below (s₁.setTop (entryFrame m #[.ref b, .int (Int32.ofNat o), .ref d, .int (Int32.ofNat q), .int (Int32.ofNat len)] 7)) (Tl.setTop (mkF m 31 #[.val (.ref b), .val (.int (Int32.ofNat (o + i))), .val (.ref d), .val (.int (Int32.ofNat (q + i))), .val (.int (Int32.ofNat len)), .val (.int (Int32.ofNat i)), .val (.int (cv A (o + i)))] [.int (lo8 (cv A (o + i))), .int (Int32.ofNat (q + i)), .ref d])) := c5.trans (by
        refine XS.iload Xl.here hexec rfl (hb hbytes d15) rfl ?_
        refine sipushV Xl.here hexec rfl 255 (hb hbytes d17) (by decide) ?_
        refine XS.icmpYes Xl.here hexec rfl (pc0 := 20) rfl (hb hbytes d20) rfl (ii_le_t (hp i (by omega))) (by decide) rfl ?_
        refine XS.aloadN Xl.here hexec rfl (hb hbytes d26) rfl rfl ?_
        refine XS.iloadN Xl.here hexec rfl (hb hbytes d27) rfl ?_
        refine XS.iload Xl.here hexec rfl (hb hbytes d28) rfl ?_
        refine i2b Xl.here hexec rfl (hb hbytes d30) rfl ?_
        exact Steps.refl _)
      obtain ⟨T7, X7, p7, st7⟩ := Xl.aput hexec hBk rfl hlt rfl (fits_lo8 (cv A (o + i))) (g := (mkF m 31 #[.val (.ref b), .val (.int (Int32.ofNat (o + i))), .val (.ref d), .val (.int (Int32.ofNat (q + i))), .val (.int (Int32.ofNat len)), .val (.int (Int32.ofNat i)), .val (.int (cv A (o + i)))] [.int (lo8 (cv A (o + i))), .int (Int32.ofNat (q + i)), .ref d])) rfl (rest := []) rfl (hb hbytes d31)
      have c8 : Steps p.tables e below (s₁.setTop (entryFrame m #[.ref b, .int (Int32.ofNat o), .ref d, .int (Int32.ofNat q), .int (Int32.ofNat len)] 7)) (T7.setTop (mkF m 32 #[.val (.ref b), .val (.int (Int32.ofNat (o + i))), .val (.ref d), .val (.int (Int32.ofNat (q + i))), .val (.int (Int32.ofNat len)), .val (.int (Int32.ofNat i)), .val (.int (cv A (o + i)))] [])) := c6.trans (st7 _ (Steps.refl _))
      have c9 : Steps p.tables e below (s₁.setTop (entryFrame m #[.ref b, .int (Int32.ofNat o), .ref d, .int (Int32.ofNat q), .int (Int32.ofNat len)] 7)) (T7.setTop (mkF m 3 #[.val (.ref b), .val (.int (Int32.ofNat (o + i) + 1)), .val (.ref d), .val (.int (Int32.ofNat (q + i) + 1)), .val (.int (Int32.ofNat len)), .val (.int (Int32.ofNat i + 1)), .val (.int (cv A (o + i)))] [])) := c8.trans (by
        refine iincV X7.here hexec rfl 1 (hb hbytes d32) (by decide) rfl rfl ?_
        refine iincV X7.here hexec rfl 1 (hb hbytes d35) (by decide) rfl rfl ?_
        refine iincV X7.here hexec rfl 1 (hb hbytes d38) (by decide) rfl rfl ?_
        refine XS.goto X7.here hexec rfl (pc0 := 41) rfl (hb hbytes d41) (by decide) rfl ?_
        exact Steps.refl _)
      have c10 : Steps p.tables e below (s₁.setTop (entryFrame m #[.ref b, .int (Int32.ofNat o), .ref d, .int (Int32.ofNat q), .int (Int32.ofNat len)] 7)) (T7.setTop (mkF m 3 #[.val (.ref b), .val (.int (Int32.ofNat (o + (i + 1)))), .val (.ref d), .val (.int (Int32.ofNat (q + (i + 1)))), .val (.int (Int32.ofNat len)), .val (.int (Int32.ofNat (i + 1))), .val (.int (cv A (o + i)))] [])) := by
        have := c9
        rw [succ32, succ32, succ32] at this
        exact this
      exact ih (i + 1) (by omega) _ (Or.inr ⟨_, rfl, rfl⟩) T7 _ (by rw [copyLocs_step, ← List.append_assoc]; exact X7) (pl.trans p7) (fl.step (by omega) hlt (by simp)) c10
  obtain ⟨T9, B9, z9, X9, p9, f9, g9⟩ := loop len 0 (by omega) .unset (Or.inl rfl) s₁ B (by simpa [copyLocs] using X0) ⟨hB0.1, fun _ _ => rfl, rfl⟩ (Laid.zero _ _ _) c2
  have c11 : Steps p.tables e below (s₁.setTop (entryFrame m #[.ref b, .int (Int32.ofNat o), .ref d, .int (Int32.ofNat q), .int (Int32.ofNat len)] 7)) (T9.setTop (mkF m 46 #[.val (.ref b), .val (.int (Int32.ofNat (o + len))), .val (.ref d), .val (.int (Int32.ofNat (q + len))), .val (.int (Int32.ofNat len)), .val (.int (Int32.ofNat len)), z9] [.int (Int32.ofNat len)])) := g9.trans (by
    refine XS.iload X9.here hexec rfl (hb hbytes d3) rfl ?_
    refine XS.iload X9.here hexec rfl (hb hbytes d5) rfl ?_
    refine XS.icmpYes X9.here hexec rfl (pc0 := 7) rfl (hb hbytes d7) rfl (ii_ge_t (nlt32 (by omega) (Nat.le_refl _))) (by decide) rfl ?_
    refine XS.iload X9.here hexec rfl (hb hbytes d44) rfl ?_
    exact Steps.refl _)
  exact ⟨T9, some (.int (Int32.ofNat len)), _, _, _, X9, by simp, rfl, rfl, (fun h => by cases h), ⟨rfl, B9, p9.from hh0, f9⟩, fun fs hl => c11.trans (X9.ireturnOut hexec hret rfl (Or.inl rfl) (hb hbytes d46) hl)⟩
end Cmp5
namespace Cmp3
def yN : MethodName := ⟨"java/lang/StringUTF16", "compress", "([CII)[B"⟩
abbrev yB : ByteArray := jdk_52_method_16_code
theorem d0 : decode yB 0 = .ok (.iload_n 2, 1) := by decide +kernel
theorem d1 : decode yB 1 = .ok (.newarray .byte, 2) := by decide +kernel
theorem d3 : decode yB 3 = .ok (.astore_n 3, 1) := by decide +kernel
theorem d4 : decode yB 4 = .ok (.aload_n 0, 1) := by decide +kernel
theorem d5 : decode yB 5 = .ok (.iload_n 1, 1) := by decide +kernel
theorem d6 : decode yB 6 = .ok (.aload_n 3, 1) := by decide +kernel
theorem d7 : decode yB 7 = .ok (.iconst 0, 1) := by decide +kernel
theorem d8 : decode yB 8 = .ok (.iload_n 2, 1) := by decide +kernel
theorem d9 : decode yB 9 = .ok (.invokestatic 115, 3) := by decide +kernel
theorem d12 : decode yB 12 = .ok (.istore 4, 2) := by decide +kernel
theorem d14 : decode yB 14 = .ok (.iload 4, 2) := by decide +kernel
theorem d16 : decode yB 16 = .ok (.iload_n 2, 1) := by decide +kernel
theorem d17 : decode yB 17 = .ok (.if_icmp (.eq) 40, 3) := by decide +kernel
theorem d57 : decode yB 57 = .ok (.aload_n 3, 1) := by decide +kernel
theorem d58 : decode yB 58 = .ok (.areturn, 1) := by decide +kernel
def site : List Cond := [.arrayClass .byte, Cmp5.tab] ++ staticW U16 115 Cmp5.yN
def tab : Cond := tabOf yN yB 6 (some (.array .byte)) site
def P (b : Addr) (A : Cell) (o len : Nat) (args : Array Value) (s : State) : Prop := args = #[.ref b, .int (Int32.ofNat o), .int (Int32.ofNat len)] ∧ Ch b A s ∧ o + len ≤ A.slots.size ∧ len ≤ 536870912 ∧ ∀ i, i < len → ¬ 255 < cv A (o + i)
def E (b : Addr) (A : Cell) (o len : Nat) (r : Option Value) (s u : State) : Prop := NewArr .byte "[B" len (fun j => .int (lo8 (cv A (o + j)))) r s u ∧ u.heap.size = s.heap.size + 1
/-- no char of the range above 255: a new byte[] of their low bytes -/
theorem law (l : Launch) (b : Addr) (A : Cell) (o len : Nat) : Law l yN 3 3 1 18 yB 6 (some (.array .byte)) site (P b A o len) (E b A o len) [] 1 len := by
  refine Law.of_walk (plainFor_of_name (by decide +kernel)) (by decide +kernel) (by decide +kernel) (by decide) (fun _ _ h => by rw [h.1]; rfl) (fun _ U U' hal hh h => ⟨h.1, h.2.1.mv hal hh, h.2.2⟩) (fun r U U' V V' h1 hal h2 h => ⟨NewArr.mv r U U' V V' h1 hal h2 h.1, by rw [h1, h2]; exact h.2⟩) ?_
  intro p e s m args below meth c s₁ X0 hexec hbytes hml hret hlk hnm hown hh0 W hP
  obtain ⟨rfl, hA, l1, l2, hp⟩ := hP
  have a31 := hA.1.2.2.2
  have c1 : Steps p.tables e below (s₁.setTop (entryFrame m #[.ref b, .int (Int32.ofNat o), .int (Int32.ofNat len)] 6)) (s₁.setTop (mkF m 0 #[.val (.ref b), .val (.int (Int32.ofNat o)), .val (.int (Int32.ofNat len)), .unset, .unset, .unset] [])) := entry rfl
  have c2 : Steps p.tables e below (s₁.setTop (entryFrame m #[.ref b, .int (Int32.ofNat o), .int (Int32.ofNat len)] 6)) (s₁.setTop (mkF m 1 #[.val (.ref b), .val (.int (Int32.ofNat o)), .val (.int (Int32.ofNat len)), .unset, .unset, .unset] [.int (Int32.ofNat len)])) := c1.trans (by
    refine XS.iloadN X0.here hexec rfl (hb hbytes d0) rfl ?_
    exact Steps.refl _)
  obtain ⟨T3, B3, X3, ba3, bs3, bv3, bh3, bf3, st3⟩ := X0.anew hexec (atype := .byte) (wk W (.arrayClass .byte)) rfl (by show len * 1 ≤ _; omega) (by omega) (g := (mkF m 1 #[.val (.ref b), .val (.int (Int32.ofNat o)), .val (.int (Int32.ofNat len)), .unset, .unset, .unset] [.int (Int32.ofNat len)])) rfl (hb hbytes d1) (rest := []) rfl (Nat.le_refl _) (by show 0 + len ≤ len; omega)
  rw [hh0] at ba3 st3
  have kp3 : XT.Kept s T3 := (XT.Kept.of_eq hh0).push bh3
  have hA3 := hA.keep X3.warmed.alike (kp3 _ _ hA.1.1)
  have hne : b ≠ s.heap.size := hA.1.ne
  have c4 : Steps p.tables e below (s₁.setTop (entryFrame m #[.ref b, .int (Int32.ofNat o), .int (Int32.ofNat len)] 6)) (T3.setTop (mkF m 3 #[.val (.ref b), .val (.int (Int32.ofNat o)), .val (.int (Int32.ofNat len)), .unset, .unset, .unset] [.ref s.heap.size])) := c2.trans (st3 _ (Steps.refl _))
  have c5 : Steps p.tables e below (s₁.setTop (entryFrame m #[.ref b, .int (Int32.ofNat o), .int (Int32.ofNat len)] 6)) (T3.setTop (mkF m 9 #[.val (.ref b), .val (.int (Int32.ofNat o)), .val (.int (Int32.ofNat len)), .val (.ref s.heap.size), .unset, .unset] [.int (Int32.ofNat len), .int 0, .ref s.heap.size, .int (Int32.ofNat o), .ref b])) := c4.trans (by
    refine XS.astoreN X3.here hexec rfl (hb hbytes d3) rfl rfl rfl ?_
    refine XS.aloadN X3.here hexec rfl (hb hbytes d4) rfl rfl ?_
    refine XS.iloadN X3.here hexec rfl (hb hbytes d5) rfl ?_
    refine XS.aloadN X3.here hexec rfl (hb hbytes d6) rfl rfl ?_
    refine iconstV X3.here hexec rfl 0 (hb hbytes d7) (by decide) ?_
    refine XS.iloadN X3.here hexec rfl (hb hbytes d8) rfl ?_
    exact Steps.refl _)
  obtain ⟨v6, T6, X6, E6, g6⟩ := X3.callS hexec (Cmp5.law l b A s.heap.size B3 o 0 len) hown (wks W (staticW U16 115 Cmp5.yN)) (wk W Cmp5.tab) (W := 0) (Nat.le_of_ble_eq_true rfl) (Nat.le_of_ble_eq_true rfl) (Nat.le_refl _) (by show 0 + len + 0 ≤ len; omega) (g := (mkF m 9 #[.val (.ref b), .val (.int (Int32.ofNat o)), .val (.int (Int32.ofNat len)), .val (.ref s.heap.size), .unset, .unset] [.int (Int32.ofNat len), .int (Int32.ofNat 0), .ref s.heap.size, .int (Int32.ofNat o), .ref b])) rfl (by rw [hml]; rfl) c5 (argsL := [.ref b, .int (Int32.ofNat o), .ref s.heap.size, .int (Int32.ofNat 0), .int (Int32.ofNat len)]) (rest := []) rfl rfl (by show 2 * 0 + 0 ≤ _; decide) (hb hbytes d9) (⟨rfl, hA3, ba3, hne, l1, by rw [bs3]; simp, hp⟩)
  obtain ⟨rfl, B6, p6, f6⟩ := E6
  have c7 : Steps p.tables e below (s₁.setTop (entryFrame m #[.ref b, .int (Int32.ofNat o), .int (Int32.ofNat len)] 6)) (T6.setTop (mkF m 12 #[.val (.ref b), .val (.int (Int32.ofNat o)), .val (.int (Int32.ofNat len)), .val (.ref s.heap.size), .unset, .unset] [.int (Int32.ofNat len)])) := g6
  have c8 : Steps p.tables e below (s₁.setTop (entryFrame m #[.ref b, .int (Int32.ofNat o), .int (Int32.ofNat len)] 6)) (T6.setTop (mkF m 58 #[.val (.ref b), .val (.int (Int32.ofNat o)), .val (.int (Int32.ofNat len)), .val (.ref s.heap.size), .val (.int (Int32.ofNat len)), .unset] [.ref s.heap.size])) := c7.trans (by
    refine XS.istore X6.here hexec rfl (hb hbytes d12) rfl rfl ?_
    refine XS.iload X6.here hexec rfl (hb hbytes d14) rfl ?_
    refine XS.iloadN X6.here hexec rfl (hb hbytes d16) rfl ?_
    refine XS.icmpYes X6.here hexec rfl (pc0 := 17) rfl (hb hbytes d17) rfl (ii_eq_t rfl) (by decide) rfl ?_
    refine XS.aloadN X6.here hexec rfl (hb hbytes d57) rfl rfl ?_
    exact Steps.refl _)
  have X8 := X6.wide (L' := []) (cells' := 1) (slots' := len) (fun x hx hlt => by
    simp only [List.nil_append, copyLocs, List.mem_map, List.mem_range] at hx
    obtain ⟨i, -, rfl⟩ := hx
    exact absurd hlt (Nat.lt_irrefl _)) (Nat.le_refl _) (by omega)
  exact ⟨T6, some (.ref s.heap.size), _, _, _, X8, rfl, rfl, rfl, (fun h => by cases h), ⟨⟨rfl, B6, ba3.like (X3.warmed.alike.symm.trans X6.warmed.alike) p6.1 f6.1 f6.2.1 f6.2.2.1, f6.2.1.trans bv3, by rw [X6.warmed.alike.findClass, f6.1]; exact bf3, by rw [f6.2.2.1, bs3]; simp, fun j hj => by rw [f6.2.2.2 j, if_pos (by omega)]; rfl, kp3.put p6 (Nat.le_refl _)⟩, by rw [p6.2.2, bh3, hh0]; simp⟩, fun fs hl => c8.trans (X8.areturnOut hexec rfl hret rfl (hb hbytes d58) hl)⟩
end Cmp3
namespace CodL
def yN : MethodName := ⟨"java/lang/StringUTF16", "coderFromArrayLen", "([BI)B"⟩
abbrev yB : ByteArray := jdk_52_method_15_code
theorem d0 : decode yB 0 = .ok (.iload_n 1, 1) := by decide +kernel
theorem d1 : decode yB 1 = .ok (.aload_n 0, 1) := by decide +kernel
theorem d2 : decode yB 2 = .ok (.arraylength, 1) := by decide +kernel
theorem d3 : decode yB 3 = .ok (.isub, 1) := by decide +kernel
theorem d4 : decode yB 4 = .ok (.bipush 31, 2) := by decide +kernel
theorem d6 : decode yB 6 = .ok (.iushr, 1) := by decide +kernel
theorem d7 : decode yB 7 = .ok (.i2b, 1) := by decide +kernel
theorem d8 : decode yB 8 = .ok (.ireturn, 1) := by decide +kernel
def site : List Cond := []
def tab : Cond := tabOf yN yB 2 (some .byte) site
def P (d : Addr) (B : Cell) (args : Array Value) (s : State) : Prop := args = #[.ref d, .int (Int32.ofNat B.slots.size)] ∧ Arr .byte d B s
def E (r : Option Value) (s u : State) : Prop := XT.PureE (some (.int 0)) r s u
/-- an array as long as the number of chars: LATIN1 -/
theorem law (l : Launch) (d : Addr) (B : Cell) : Law l yN 2 2 0 0 yB 2 (some .byte) site (P d B) E [] 0 0 := by
  refine Law.of_walk (plainFor_of_name (by decide +kernel)) (by decide +kernel) (by decide +kernel) (by decide) (fun _ _ h => by rw [h.1]; rfl) (fun _ U U' hal hh h => ⟨h.1, h.2.mv hal hh⟩) (fun r U U' V V' h1 hal h2 h => XT.PureE.mv r U U' V V' h1 hal h2 h) ?_
  intro p e s m args below meth c s₁ X0 hexec hbytes hml hret hlk hnm hown hh0 W hP
  obtain ⟨rfl, hB⟩ := hP
  have hB0 := hB.mv X0.warmed.alike hh0
  have c1 : Steps p.tables e below (s₁.setTop (entryFrame m #[.ref d, .int (Int32.ofNat B.slots.size)] 2)) (s₁.setTop (mkF m 0 #[.val (.ref d), .val (.int (Int32.ofNat B.slots.size))] [])) := entry rfl
  have c2 : Steps p.tables e below (s₁.setTop (entryFrame m #[.ref d, .int (Int32.ofNat B.slots.size)] 2)) (s₁.setTop (mkF m 2 #[.val (.ref d), .val (.int (Int32.ofNat B.slots.size))] [.ref d, .int (Int32.ofNat B.slots.size)])) := c1.trans (by
    refine XS.iloadN X0.here hexec rfl (hb hbytes d0) rfl ?_
    refine XS.aloadN X0.here hexec rfl (hb hbytes d1) rfl rfl ?_
    exact Steps.refl _)
  have c3 : Steps p.tables e below (s₁.setTop (entryFrame m #[.ref d, .int (Int32.ofNat B.slots.size)] 2)) (s₁.setTop (mkF m 8 #[.val (.ref d), .val (.int (Int32.ofNat B.slots.size))] [.int (lo8 (ushr (Int32.ofNat B.slots.size - Int32.ofNat B.slots.size) 31))])) := c2.trans (by
    refine X0.alen hexec hB0 rfl rfl (hb hbytes d2) ?_
    refine XS.isub X0.here hexec rfl (hb hbytes d3) rfl ?_
    refine bipushV X0.here hexec rfl 31 (hb hbytes d4) (by decide) ?_
    refine iushr X0.here hexec rfl (hb hbytes d6) rfl ?_
    refine i2b X0.here hexec rfl (hb hbytes d7) rfl ?_
    exact Steps.refl _)
  have e0 : lo8 (ushr (Int32.ofNat B.slots.size - Int32.ofNat B.slots.size) 31) = 0 := by rw [Int32.sub_self]; decide
  rw [e0] at c3
  exact ⟨s₁, some (.int 0), _, _, _, X0, rfl, rfl, rfl, (fun h => by cases h), ⟨rfl, hh0⟩, fun fs hl => c3.trans (X0.ireturnOut hexec hret rfl (Or.inr (Or.inr (Or.inl rfl))) (hb hbytes d8) hl)⟩
end CodL
/-- the String at a is Latin-1 over a new byte[] (the heap's one new cell): the low bytes of the len chars of A from o on; every cell but a is kept -/
def Got (a : Addr) (D : Cell) (fV fC : Field) (A : Cell) (o len : Nat) (r : Option Value) (s u : State) : Prop := r = none ∧ ∃ D' V : Cell, Blank "java/lang/String" a D' u ∧ Same D D' [fV.slot, fC.slot] ∧ D'.slots[fV.slot]? = some (.ref s.heap.size) ∧ D'.slots[fC.slot]? = some (.int 0) ∧ Arr .byte s.heap.size V u ∧ V.vm = .none ∧ u.vm.findClass "[B" = some V.cls ∧ V.slots.size = len ∧ (∀ j, j < len → V.slots[j]? = some (.int (lo8 (cv A (o + j))))) ∧ (∀ (y : Addr) (c : Cell), y ≠ a → s.heap[y]? = some c → u.heap[y]? = some c) ∧ u.heap.size = s.heap.size + 1
theorem Got.mv {a : Addr} {D A : Cell} {fV fC : Field} {o len : Nat} : ∀ r (U U' V V' : State), U'.heap = U.heap → V.vm.Alike V'.vm → V'.heap = V.heap → Got a D fV fC A o len r U V → Got a D fV fC A o len r U' V' :=
  fun r U U' V V' h1 hal h2 ⟨e0, D', X, a1, a2, a3, a4, a5, a6, a7, a8, a9, a10, a11⟩ => ⟨e0, D', X, a1.mv hal h2, a2, by rw [h1]; exact a3, a4, by rw [h1]; exact a5.mv hal h2, a6, by rw [hal.findClass]; exact a7, a8, a9, by rw [h1, h2]; exact a10, by rw [h1, h2]; exact a11⟩
namespace New4
def yN : MethodName := ⟨"java/lang/String", "<init>", "([CIILjava/lang/Void;)V"⟩
abbrev yB : ByteArray := jdk_42_method_149_code
theorem d0 : decode yB 0 = .ok (.aload_n 0, 1) := by decide +kernel
theorem d1 : decode yB 1 = .ok (.invokespecial 1, 3) := by decide +kernel
theorem d4 : decode yB 4 = .ok (.iload_n 3, 1) := by decide +kernel
theorem d5 : decode yB 5 = .ok (.ifCond (.ne) 22, 3) := by decide +kernel
theorem d27 : decode yB 27 = .ok (.getstatic 38, 3) := by decide +kernel
theorem d30 : decode yB 30 = .ok (.ifCond (.eq) 28, 3) := by decide +kernel
theorem d33 : decode yB 33 = .ok (.aload_n 1, 1) := by decide +kernel
theorem d34 : decode yB 34 = .ok (.iload_n 2, 1) := by decide +kernel
theorem d35 : decode yB 35 = .ok (.iload_n 3, 1) := by decide +kernel
theorem d36 : decode yB 36 = .ok (.invokestatic 177, 3) := by decide +kernel
theorem d39 : decode yB 39 = .ok (.astore 5, 2) := by decide +kernel
theorem d41 : decode yB 41 = .ok (.aload_n 0, 1) := by decide +kernel
theorem d42 : decode yB 42 = .ok (.aload 5, 2) := by decide +kernel
theorem d44 : decode yB 44 = .ok (.iload_n 3, 1) := by decide +kernel
theorem d45 : decode yB 45 = .ok (.invokestatic 47, 3) := by decide +kernel
theorem d48 : decode yB 48 = .ok (.putfield 15, 3) := by decide +kernel
theorem d51 : decode yB 51 = .ok (.aload_n 0, 1) := by decide +kernel
theorem d52 : decode yB 52 = .ok (.aload 5, 2) := by decide +kernel
theorem d54 : decode yB 54 = .ok (.putfield 9, 3) := by decide +kernel
theorem d57 : decode yB 57 = .ok (.return_, 1) := by decide +kernel
def site : List Cond := [.fieldLink "java/lang/String" 38 "java/lang/String" "COMPACT_STRINGS" "Z", Cmp3.tab, CodL.tab, .laysFinal "java/lang/String" "java/lang/String" "value" "[B", .fieldLink "java/lang/String" 9 "java/lang/String" "value" "[B", .laysFinal "java/lang/String" "java/lang/String" "coder" "B", .fieldLink "java/lang/String" 15 "java/lang/String" "coder" "B"] ++ objW "java/lang/String" 1 ++ staticW "java/lang/String" 177 Cmp3.yN ++ staticW "java/lang/String" 47 CodL.yN
def tab : Cond := tabOf yN yB 6 none site
def P (a : Addr) (D : Cell) (fV fC : Field) (b : Addr) (A : Cell) (z : Int32) (o len : Nat) (args : Array Value) (s : State) : Prop := args = #[.ref a, .ref b, .int (Int32.ofNat o), .int (Int32.ofNat len), .null] ∧ Blank "java/lang/String" a D s ∧ Found "java/lang/String" "value" "[B" fV s ∧ Found "java/lang/String" "coder" "B" fC s ∧ Ch b A s ∧ StaticIs s "java/lang/String" "COMPACT_STRINGS" "Z" (.int z) ∧ ¬ z = 0 ∧ 0 < len ∧ o + len ≤ A.slots.size ∧ len ≤ 536870912 ∧ ∀ i, i < len → ¬ 255 < cv A (o + i)
def E (a : Addr) (D : Cell) (fV fC : Field) (A : Cell) (o len : Nat) (r : Option Value) (s u : State) : Prop := Got a D fV fC A o len r s u
/-- len > 0, no char of the range above 255: a Latin-1 String of their low bytes -/
theorem law (l : Launch) (a : Addr) (D : Cell) (fV fC : Field) (b : Addr) (A : Cell) (z : Int32) (o len : Nat) : Law l yN 5 4 2 35 yB 6 none site (P a D fV fC b A z o len) (E a D fV fC A o len) [⟨a, fC.slot⟩, ⟨a, fV.slot⟩] 1 len := by
  refine Law.of_walk (plainFor_of_name (by decide +kernel)) (by decide +kernel) (by decide +kernel) (by decide) (fun _ _ h => by rw [h.1]; rfl) (fun _ U U' hal hh h => ⟨h.1, h.2.1.mv hal hh, h.2.2.1.al hal, h.2.2.2.1.al hal, h.2.2.2.2.1.mv hal hh, h.2.2.2.2.2.1.there hal hh, h.2.2.2.2.2.2⟩) (fun r U U' V V' h1 hal h2 h => Got.mv r U U' V V' h1 hal h2 h) ?_
  intro p e s m args below meth c s₁ X0 hexec hbytes hml hret hlk hnm hown hh0 W hP
  obtain ⟨rfl, hB, f1, f2, hA, s1, hz, l0, l1, l2, hp⟩ := hP
  have a31 := hA.1.2.2.2
  have c1 : Steps p.tables e below (s₁.setTop (entryFrame m #[.ref a, .ref b, .int (Int32.ofNat o), .int (Int32.ofNat len), .null] 6)) (s₁.setTop (mkF m 0 #[.val (.ref a), .val (.ref b), .val (.int (Int32.ofNat o)), .val (.int (Int32.ofNat len)), .val .null, .unset] [])) := entry rfl
  have c2 : Steps p.tables e below (s₁.setTop (entryFrame m #[.ref a, .ref b, .int (Int32.ofNat o), .int (Int32.ofNat len), .null] 6)) (s₁.setTop (mkF m 1 #[.val (.ref a), .val (.ref b), .val (.int (Int32.ofNat o)), .val (.int (Int32.ofNat len)), .val .null, .unset] [.ref a])) := c1.trans (by
    refine XS.aloadN X0.here hexec rfl (hb hbytes d0) rfl rfl ?_
    exact Steps.refl _)
  obtain ⟨T3, X3, q3, st3⟩ := X0.oinit hexec hown (wks W (objW "java/lang/String" 1)) (g := (mkF m 1 #[.val (.ref a), .val (.ref b), .val (.int (Int32.ofNat o)), .val (.int (Int32.ofNat len)), .val .null, .unset] [.ref a])) rfl (by rw [hml]; rfl) (rest := []) rfl (hb hbytes d1) (W := 0) (by show 2 * 0 + 0 ≤ _; decide) (Nat.le_of_ble_eq_true rfl) (Nat.le_of_ble_eq_true rfl)
  have hh3 := q3.trans hh0
  have c4 : Steps p.tables e below (s₁.setTop (entryFrame m #[.ref a, .ref b, .int (Int32.ofNat o), .int (Int32.ofNat len), .null] 6)) (T3.setTop (mkF m 27 #[.val (.ref a), .val (.ref b), .val (.int (Int32.ofNat o)), .val (.int (Int32.ofNat len)), .val .null, .unset] [])) := (c2.trans (st3 _ (Steps.refl _))).trans (by
    refine XS.iloadN X3.here hexec rfl (hb hbytes d4) rfl ?_
    refine XS.ifYes X3.here hexec rfl (pc0 := 5) rfl (hb hbytes d5) rfl (i0_ne_t (nz32 (by omega) l0)) (by decide) rfl ?_
    exact Steps.refl _)
  obtain ⟨T5, X5, q5, st5⟩ := X3.sget hexec hown (wk W (.fieldLink "java/lang/String" 38 "java/lang/String" "COMPACT_STRINGS" "Z")) s1 (fun _ _ h => by rw [hh3]; exact h) (g := (mkF m 27 #[.val (.ref a), .val (.ref b), .val (.int (Int32.ofNat o)), .val (.int (Int32.ofNat len)), .val .null, .unset] [])) rfl (hb hbytes d27)
  have hh5 := q5.trans hh3
  have c6 : Steps p.tables e below (s₁.setTop (entryFrame m #[.ref a, .ref b, .int (Int32.ofNat o), .int (Int32.ofNat len), .null] 6)) (T5.setTop (mkF m 30 #[.val (.ref a), .val (.ref b), .val (.int (Int32.ofNat o)), .val (.int (Int32.ofNat len)), .val .null, .unset] [.int z])) := c4.trans (st5 _ (Steps.refl _))
  have c7 : Steps p.tables e below (s₁.setTop (entryFrame m #[.ref a, .ref b, .int (Int32.ofNat o), .int (Int32.ofNat len), .null] 6)) (T5.setTop (mkF m 36 #[.val (.ref a), .val (.ref b), .val (.int (Int32.ofNat o)), .val (.int (Int32.ofNat len)), .val .null, .unset] [.int (Int32.ofNat len), .int (Int32.ofNat o), .ref b])) := c6.trans (by
    refine XS.ifNo X5.here hexec rfl (hb hbytes d30) rfl (i0_eq_f hz) ?_
    refine XS.aloadN X5.here hexec rfl (hb hbytes d33) rfl rfl ?_
    refine XS.iloadN X5.here hexec rfl (hb hbytes d34) rfl ?_
    refine XS.iloadN X5.here hexec rfl (hb hbytes d35) rfl ?_
    exact Steps.refl _)
  obtain ⟨v8, T8, X8, E8, g8⟩ := X5.callS hexec (Cmp3.law l b A o len) hown (wks W (staticW "java/lang/String" 177 Cmp3.yN)) (wk W Cmp3.tab) (W := 0) (Nat.le_of_ble_eq_true rfl) (Nat.le_of_ble_eq_true rfl) (Nat.le_refl _) (by show 0 + len ≤ len; omega) (g := (mkF m 36 #[.val (.ref a), .val (.ref b), .val (.int (Int32.ofNat o)), .val (.int (Int32.ofNat len)), .val .null, .unset] [.int (Int32.ofNat len), .int (Int32.ofNat o), .ref b])) rfl (by rw [hml]; rfl) c7 (argsL := [.ref b, .int (Int32.ofNat o), .int (Int32.ofNat len)]) (rest := []) rfl rfl (by show 2 * 0 + 0 ≤ _; decide) (hb hbytes d36) (⟨rfl, hA.mv X5.warmed.alike hh5, l1, l2, hp⟩)
  obtain ⟨e8, z8⟩ := E8
  obtain ⟨rfl, N, n1, n2, n3, n4, n5, n6⟩ := NewArr.mv _ T5 s _ _ hh5.symm (Vm.Alike.refl _) rfl e8
  rw [hh5] at z8
  have hB1 := hB.keep X8.warmed.alike (n6 _ _ hB.1)
  have hne : s.heap.size ≠ a := (Nat.ne_of_lt (Array.getElem?_eq_some_iff.mp hB.1).1).symm
  have c9 : Steps p.tables e below (s₁.setTop (entryFrame m #[.ref a, .ref b, .int (Int32.ofNat o), .int (Int32.ofNat len), .null] 6)) (T8.setTop (mkF m 39 #[.val (.ref a), .val (.ref b), .val (.int (Int32.ofNat o)), .val (.int (Int32.ofNat len)), .val .null, .unset] [.ref s.heap.size])) := g8
  have c10 : Steps p.tables e below (s₁.setTop (entryFrame m #[.ref a, .ref b, .int (Int32.ofNat o), .int (Int32.ofNat len), .null] 6)) (T8.setTop (mkF m 45 #[.val (.ref a), .val (.ref b), .val (.int (Int32.ofNat o)), .val (.int (Int32.ofNat len)), .val .null, .val (.ref s.heap.size)] [.int (Int32.ofNat N.slots.size), .ref s.heap.size, .ref a])) := by
    have hc : Steps p.tables e below (s₁.setTop (entryFrame m #[.ref a, .ref b, .int (Int32.ofNat o), .int (Int32.ofNat len), .null] 6)) (T8.setTop (mkF m 45 #[.val (.ref a), .val (.ref b), .val (.int (Int32.ofNat o)), .val (.int (Int32.ofNat len)), .val .null, .val (.ref s.heap.size)] [.int (Int32.ofNat len), .ref s.heap.size, .ref a])) := c9.trans (by
      refine XS.astore X8.here hexec rfl (hb hbytes d39) rfl rfl rfl ?_
      refine XS.aloadN X8.here hexec rfl (hb hbytes d41) rfl rfl ?_
      refine XS.aload X8.here hexec rfl (hb hbytes d42) rfl rfl ?_
      refine XS.iloadN X8.here hexec rfl (hb hbytes d44) rfl ?_
      exact Steps.refl _)
    rw [n4]; exact hc
  obtain ⟨v11, T11, X11, E11, g11⟩ := X8.callS hexec (CodL.law l s.heap.size N) hown (wks W (staticW "java/lang/String" 47 CodL.yN)) (wk W CodL.tab) (W := 1) (Nat.le_of_ble_eq_true rfl) (Nat.le_of_ble_eq_true rfl) (Nat.le_refl _) (by show 0 + len + 0 ≤ len; omega) (g := (mkF m 45 #[.val (.ref a), .val (.ref b), .val (.int (Int32.ofNat o)), .val (.int (Int32.ofNat len)), .val .null, .val (.ref s.heap.size)] [.int (Int32.ofNat N.slots.size), .ref s.heap.size, .ref a])) rfl (by rw [hml]; rfl) c10 (argsL := [.ref s.heap.size, .int (Int32.ofNat N.slots.size)]) (rest := [.ref a]) rfl rfl (by show 2 * 0 + (1 + 0) ≤ _; decide) (hb hbytes d45) (⟨rfl, n1⟩)
  obtain ⟨rfl, q11⟩ := E11
  have hB11 := hB1.mv (X8.warmed.alike.symm.trans X11.warmed.alike) q11
  have c12 : Steps p.tables e below (s₁.setTop (entryFrame m #[.ref a, .ref b, .int (Int32.ofNat o), .int (Int32.ofNat len), .null] 6)) (T11.setTop (mkF m 48 #[.val (.ref a), .val (.ref b), .val (.int (Int32.ofNat o)), .val (.int (Int32.ofNat len)), .val .null, .val (.ref s.heap.size)] [.int 0, .ref a])) := g11
  obtain ⟨T13, X13, p13, bl13, sl13, st13⟩ := X11.finit hexec hown (wk W (.fieldLink "java/lang/String" 15 "java/lang/String" "coder" "B")) (Or.inr ⟨_, (wk W (.laysFinal "java/lang/String" "java/lang/String" "coder" "B"))⟩) (Or.inl ⟨rfl, hnm⟩) f2 (Or.inl rfl) hB11 (t := .byte) (by decide +kernel) rfl (g := (mkF m 48 #[.val (.ref a), .val (.ref b), .val (.int (Int32.ofNat o)), .val (.int (Int32.ofNat len)), .val .null, .val (.ref s.heap.size)] [.int 0, .ref a])) rfl (rest := []) rfl (hb hbytes d48)
  have c14 : Steps p.tables e below (s₁.setTop (entryFrame m #[.ref a, .ref b, .int (Int32.ofNat o), .int (Int32.ofNat len), .null] 6)) (T13.setTop (mkF m 54 #[.val (.ref a), .val (.ref b), .val (.int (Int32.ofNat o)), .val (.int (Int32.ofNat len)), .val .null, .val (.ref s.heap.size)] [.ref s.heap.size, .ref a])) := (c12.trans (st13 _ (Steps.refl _))).trans (by
    refine XS.aloadN X13.here hexec rfl (hb hbytes d51) rfl rfl ?_
    refine XS.aload X13.here hexec rfl (hb hbytes d52) rfl rfl ?_
    exact Steps.refl _)
  obtain ⟨T15, X15, p15, bl15, sl15, st15⟩ := X13.finit hexec hown (wk W (.fieldLink "java/lang/String" 9 "java/lang/String" "value" "[B")) (Or.inr ⟨_, (wk W (.laysFinal "java/lang/String" "java/lang/String" "value" "[B"))⟩) (Or.inl ⟨rfl, hnm⟩) f1 (Or.inl rfl) bl13 (t := (.array .byte)) (by decide +kernel) rfl (g := (mkF m 54 #[.val (.ref a), .val (.ref b), .val (.int (Int32.ofNat o)), .val (.int (Int32.ofNat len)), .val .null, .val (.ref s.heap.size)] [.ref s.heap.size, .ref a])) rfl (rest := []) rfl (hb hbytes d54)
  have c16 : Steps p.tables e below (s₁.setTop (entryFrame m #[.ref a, .ref b, .int (Int32.ofNat o), .int (Int32.ofNat len), .null] 6)) (T15.setTop (mkF m 57 #[.val (.ref a), .val (.ref b), .val (.int (Int32.ofNat o)), .val (.int (Int32.ofNat len)), .val .null, .val (.ref s.heap.size)] [])) := c14.trans (st15 _ (Steps.refl _))
  have ap := apart (Or.inr ⟨_, (wk W (.laysFinal "java/lang/String" "java/lang/String" "value" "[B"))⟩) (Or.inr ⟨_, (wk W (.laysFinal "java/lang/String" "java/lang/String" "coder" "B"))⟩) f1 f2 (t₁ := .array .byte) (t₂ := .byte) (by decide +kernel) (by decide +kernel) (by decide)
  have al := X8.warmed.alike.symm.trans X15.warmed.alike
  have n7 : T11.heap[s.heap.size]? = some N := by rw [q11]; exact n1.1
  exact ⟨T15, none, _, _, _, X15, by simp, rfl, by omega, (fun _ => rfl), ⟨rfl, _, N, bl15, ((Same.refl D _).set _ (by simp)).set _ (by simp), sl15, (Cell.slots_setSlot_ne _ ap).trans sl13, n1.keep al (p15.other hne (p13.other hne n7)), n2, by rw [al.findClass]; exact n3, n4, n5, fun y c h1 h2 => p15.other h1 (p13.other h1 (by rw [q11]; exact n6 y c h2)), by rw [p15.2.2, p13.2.2, q11]; exact z8⟩, fun fs hl => c16.trans (X15.returnOut hexec hret (hb hbytes d57) hl)⟩
end New4
namespace New1
def yN : MethodName := ⟨"java/lang/String", "<init>", "([C)V"⟩
abbrev yB : ByteArray := jdk_42_method_3_code
theorem d0 : decode yB 0 = .ok (.aload_n 0, 1) := by decide +kernel
theorem d1 : decode yB 1 = .ok (.aload_n 1, 1) := by decide +kernel
theorem d2 : decode yB 2 = .ok (.iconst 0, 1) := by decide +kernel
theorem d3 : decode yB 3 = .ok (.aload_n 1, 1) := by decide +kernel
theorem d4 : decode yB 4 = .ok (.arraylength, 1) := by decide +kernel
theorem d5 : decode yB 5 = .ok (.aconst_null, 1) := by decide +kernel
theorem d6 : decode yB 6 = .ok (.invokespecial 27, 3) := by decide +kernel
theorem d9 : decode yB 9 = .ok (.return_, 1) := by decide +kernel
def site : List Cond := [New4.tab] ++ initW "java/lang/String" 27 New4.yN
def tab : Cond := tabOf yN yB 2 none site
def P (a : Addr) (D : Cell) (fV fC : Field) (b : Addr) (A : Cell) (z : Int32) (args : Array Value) (s : State) : Prop := args = #[.ref a, .ref b] ∧ Blank "java/lang/String" a D s ∧ Found "java/lang/String" "value" "[B" fV s ∧ Found "java/lang/String" "coder" "B" fC s ∧ Ch b A s ∧ StaticIs s "java/lang/String" "COMPACT_STRINGS" "Z" (.int z) ∧ ¬ z = 0 ∧ 0 < A.slots.size ∧ A.slots.size ≤ 536870912 ∧ ∀ i, i < A.slots.size → ¬ 255 < cv A i
def E (a : Addr) (D : Cell) (fV fC : Field) (A : Cell) (r : Option Value) (s u : State) : Prop := Got a D fV fC A 0 A.slots.size r s u
/-- new String(chars), not empty, no char above 255: a Latin-1 String of their low bytes -/
theorem law (l : Launch) (a : Addr) (D : Cell) (fV fC : Field) (b : Addr) (A : Cell) (z : Int32) : Law l yN 2 1 3 52 yB 2 none site (P a D fV fC b A z) (E a D fV fC A) [⟨a, fC.slot⟩, ⟨a, fV.slot⟩] 1 A.slots.size := by
  refine Law.of_walk (plainFor_of_name (by decide +kernel)) (by decide +kernel) (by decide +kernel) (by decide) (fun _ _ h => by rw [h.1]; rfl) (fun _ U U' hal hh h => ⟨h.1, h.2.1.mv hal hh, h.2.2.1.al hal, h.2.2.2.1.al hal, h.2.2.2.2.1.mv hal hh, h.2.2.2.2.2.1.there hal hh, h.2.2.2.2.2.2⟩) (fun r U U' V V' h1 hal h2 h => Got.mv r U U' V V' h1 hal h2 h) ?_
  intro p e s m args below meth c s₁ X0 hexec hbytes hml hret hlk hnm hown hh0 W hP
  obtain ⟨rfl, hB, f1, f2, hA, s1, hz, l0, l2, hp⟩ := hP
  have c1 : Steps p.tables e below (s₁.setTop (entryFrame m #[.ref a, .ref b] 2)) (s₁.setTop (mkF m 0 #[.val (.ref a), .val (.ref b)] [])) := entry rfl
  have c2 : Steps p.tables e below (s₁.setTop (entryFrame m #[.ref a, .ref b] 2)) (s₁.setTop (mkF m 6 #[.val (.ref a), .val (.ref b)] [.null, .int (Int32.ofNat A.slots.size), .int 0, .ref b, .ref a])) := c1.trans (by
    refine XS.aloadN X0.here hexec rfl (hb hbytes d0) rfl rfl ?_
    refine XS.aloadN X0.here hexec rfl (hb hbytes d1) rfl rfl ?_
    refine iconstV X0.here hexec rfl 0 (hb hbytes d2) (by decide) ?_
    refine XS.aloadN X0.here hexec rfl (hb hbytes d3) rfl rfl ?_
    refine X0.alen hexec (hA.1.mv X0.warmed.alike hh0) rfl rfl (hb hbytes d4) ?_
    refine XS.aconstNull X0.here hexec rfl (hb hbytes d5) ?_
    exact Steps.refl _)
  obtain ⟨v3, T3, X3, E3, g3⟩ := X0.callN hexec (New4.law l a D fV fC b A z 0 A.slots.size) rfl hown (wks W (initW "java/lang/String" 27 New4.yN)) (W New4.tab (by simp only [site, List.mem_cons, List.mem_append, true_or, or_true])) (W := 0) (Nat.le_of_ble_eq_true rfl) (Nat.le_of_ble_eq_true rfl) (Nat.le_refl _) (by show 0 + A.slots.size ≤ A.slots.size; omega) (g := (mkF m 6 #[.val (.ref a), .val (.ref b)] [.null, .int (Int32.ofNat A.slots.size), .int (Int32.ofNat 0), .ref b, .ref a])) rfl (by rw [hml]; rfl) c2 (argsL := [.ref b, .int (Int32.ofNat 0), .int (Int32.ofNat A.slots.size), .null]) (rest := []) rfl rfl (by show 2 * 0 + 0 ≤ _; decide) (hb hbytes d6) (⟨rfl, hB.mv X0.warmed.alike hh0, f1.al X0.warmed.alike, f2.al X0.warmed.alike, hA.mv X0.warmed.alike hh0, s1.there X0.warmed.alike hh0, hz, l0, by omega, l2, fun i hi => by rw [Nat.zero_add]; exact hp i hi⟩)
  have e0 := Got.mv _ s₁ s _ _ hh0.symm (Vm.Alike.refl _) rfl E3
  obtain rfl := e0.1
  have c4 : Steps p.tables e below (s₁.setTop (entryFrame m #[.ref a, .ref b] 2)) (T3.setTop (mkF m 9 #[.val (.ref a), .val (.ref b)] [])) := g3
  exact ⟨T3, none, _, _, _, X3, by simp, rfl, by omega, (fun _ => rfl), e0, fun fs hl => c4.trans (X3.returnOut hexec hret (hb hbytes d9) hl)⟩
theorem pays {l : Launch} {R : Room} {p : Program} {e : Env} {below : List Frame} {s : State} {sargs : Array Value} {len W : Nat} (a : Addr) (D : Cell) (fV fC : Field) (b : Addr) (A : Cell) (z : Int32) (htab : tab.before sargs s = true) (hfr : 4 ≤ R.frames) (hlo : W + 65 ≤ R.locals) :
    Back l R p e below s sargs yN len W (fun A₁ a₁ => A₁.cells + 1 ≤ R.cells ∧ A₁.slots + A.slots.size ≤ R.slots ∧ P a D fV fC b A z a₁ A₁.U) (fun A₁ _ v₁ B₁ => E a D fV fC A v₁ A₁.U B₁.U ∧ B₁.locs = A₁.locs ++ [⟨a, fC.slot⟩, ⟨a, fV.slot⟩] ∧ B₁.cells = A₁.cells + 1 ∧ B₁.slots = A₁.slots + A.slots.size) :=
  (law l a D fV fC b A z).pays htab hfr (by omega)
end New1
/-- the byte, read back as charAt reads it, is the char -/
theorem lo8_mask {x : Int32} (h0 : ¬ x < 0) (h1 : ¬ 255 < x) : lo8 x &&& 255 = x := by
  have t : ∀ k : Fin 256, lo8 (Int32.ofNat k.val) &&& 255 = Int32.ofNat k.val := by decide +kernel
  rw [Int32.lt_iff_toInt_lt] at h0 h1
  have e0 : (0 : Int32).toInt = 0 := rfl
  have e1 : (255 : Int32).toInt = 255 := rfl
  obtain ⟨k, hk⟩ : ∃ k : Nat, x.toInt = k := ⟨x.toInt.toNat, by omega⟩
  have hx : x = Int32.ofNat k := Int32.toInt_inj.mp (by rw [hk, Int32.toInt_ofNat_small (by omega)])
  rw [hx]
  exact t ⟨k, by omega⟩
end StrChars
namespace StrChars.Road
open Jvm Sem ClassFile Op Lib Jvm.Stand Jvm.Free Jvm.Free.XT
open Jvm.Lib.Cold (StaticIs)
abbrev ST : String := "java/lang/String"
/-- every table word that New1's law asks, flat -/
abbrev words : List Jvm.Cond := [.code New1.yN New1.yB 2 none, .initialized ST, .methodLink ST 27 New4.yN, .instanceMethod New4.yN,
  .code New4.yN New4.yB 6 none, .fieldLink ST 38 ST "COMPACT_STRINGS" "Z", .laysFinal ST ST "value" "[B", .fieldLink ST 9 ST "value" "[B", .laysFinal ST ST "coder" "B", .fieldLink ST 15 ST "coder" "B",
  .methodLink ST 1 Lib.objectInit, .instanceMethod Lib.objectInit, .code Lib.objectInit ⟨#[0xb1]⟩ 1 none, .methodLink ST 177 Cmp3.yN, .static Cmp3.yN, .methodLink ST 47 CodL.yN, .static CodL.yN,
  .code Cmp3.yN Cmp3.yB 6 (some (.array .byte)), .initialized U16, .arrayClass .byte, .methodLink U16 115 Cmp5.yN, .static Cmp5.yN, .code Cmp5.yN Cmp5.yB 7 (some .int), .code CodL.yN CodL.yB 2 (some .byte)]
theorem tab_of {a : Array Value} {s : State} (h : ∀ w ∈ words, w.before a s = true) : New1.tab.before a s = true := by
  have h5 : Cmp5.tab.before a s = true := unparts (wk h (.code Cmp5.yN Cmp5.yB 7 (some .int))) (wks h (.initialized Cmp5.yN.cls :: Cmp5.site))
  have hc : CodL.tab.before a s = true := unparts (wk h (.code CodL.yN CodL.yB 2 (some .byte))) (wks h (.initialized CodL.yN.cls :: CodL.site))
  have q5 : ∀ w ∈ Cmp5.tab :: words, w.before a s = true := fun w hw => (List.mem_cons.mp hw).elim (fun e => e ▸ h5) (h w)
  have h3 : Cmp3.tab.before a s = true := unparts (wk q5 (.code Cmp3.yN Cmp3.yB 6 (some (.array .byte)))) (wks q5 (.initialized Cmp3.yN.cls :: Cmp3.site))
  have q3 : ∀ w ∈ Cmp3.tab :: CodL.tab :: words, w.before a s = true := fun w hw => (List.mem_cons.mp hw).elim (fun e => e ▸ h3) fun hw => (List.mem_cons.mp hw).elim (fun e => e ▸ hc) (h w)
  have h4 : New4.tab.before a s = true := unparts (wk q3 (.code New4.yN New4.yB 6 none)) (wks q3 (.initialized New4.yN.cls :: New4.site))
  have q4 : ∀ w ∈ New4.tab :: words, w.before a s = true := fun w hw => (List.mem_cons.mp hw).elim (fun e => e ▸ h4) (h w)
  exact unparts (wk q4 (.code New1.yN New1.yB 2 none)) (wks q4 (.initialized New1.yN.cls :: New1.site))
/-- the words ride from the start Z to the walk's own state -/
theorem moved {Z s : State} {a0 args : Array Value} (hZ : Z.Warmed39 s.vm) (hw : ∀ d ∈ words, d.before a0 Z = true) : ∀ d ∈ words, d.before args s = true := fun d hd => by
  have q := hw d hd
  have t : ∀ d ∈ words, d = .arrayClass .byte ∨ (d.onTables && d.keepsFace) = true := by decide +kernel
  rcases t d hd with rfl | t
  · exact RoadKit.mvA hZ q
  · exact RoadKit.mv hZ q t
/-- WHAT COMES BACK, over the tables of the start Z: h the heap at the call, h' behind it -/
def Q (Z : State) (x : Addr) (A : Cell) (h : Heap) (v : Option Value) (h' : Heap) (L : List Loc) : Prop := v = none ∧ (∀ y ∈ L, y.base = x) ∧ RoadKit.Keep h h' [x] ∧ h'.size = h.size + 1 ∧ RoadKit.Exa Z h' x ST ∧ RoadKit.Fld Z h' x ST "value" "[B" (.ref h.size) ∧ RoadKit.Fld Z h' x ST "coder" "B" (.int 0) ∧
  (∃ V : Cell, RoadKit.Arr Z h' h.size V .byte ∧ V.vm = .none ∧ Z.vm.findClass "[B" = some V.cls ∧ V.slots.size = A.slots.size ∧ ∀ j, j < A.slots.size → V.slots[j]? = some (.int (lo8 (cv A j)))) ∧
  ∀ (O n d : String) (w : Value), RoadKit.Fld Z h x O n d w → RoadKit.slotOf Z O n d ≠ RoadKit.slotOf Z ST "value" "[B" → RoadKit.slotOf Z O n d ≠ RoadKit.slotOf Z ST "coder" "B" → RoadKit.Fld Z h' x O n d w
/-- **new String(chars) AT A CALL, IN THE ROAD'S FORM**: for specialBack behind newO: x the fresh String, b the char[] with the cell A -/
theorem back {p : Program} {l : Launch} {e : Env} {R : Room} {s : State} {args : Array Value} {below : List Frame} {len W : Nat} {Z : State} {a0 : Array Value} {h : Heap} (hZ : Z.Warmed39 s.vm) (hw : ∀ d ∈ words, d.before a0 Z = true) {kI : Nat} (wi : (Jvm.Cond.instantiable ST kI).before a0 Z = true)
    {x b : Addr} {A : Cell} {z : Int32} {v0 c0 : Value} (E : RoadKit.Exa Z h x ST) (V : RoadKit.Fld Z h x ST "value" "[B" v0) (C : RoadKit.Fld Z h x ST "coder" "B" c0) (K : RoadKit.Arr Z h b A .char) (hty : Typed .char A) (S : RoadKit.Sta Z h ST "COMPACT_STRINGS" "Z" (.int z)) (hz : ¬ z = 0)
    (l0 : 0 < A.slots.size) (l2 : A.slots.size ≤ 536870912) (hp : ∀ i, i < A.slots.size → ¬ 255 < cv A i) (hfr : 4 ≤ R.frames) (hlo : W + 65 ≤ R.locals) :
    Back l R p e below s args New1.yN len W (fun P a => a = #[.ref x, .ref b] ∧ P.U.heap = h ∧ P.cells + 1 ≤ R.cells ∧ P.slots + A.slots.size ≤ R.slots)
      (fun P _ v B => ∃ L, Q Z x A h v B.U.heap L ∧ B.locs = P.locs ++ L ∧ B.cells = P.cells + 1 ∧ B.slots = P.slots + A.slots.size) := by
  intro m meth c P g ig mk a X hg hsize hdg hW hn hp'
  obtain ⟨rfl, rfl, r1, r2⟩ := hp'
  have al : Z.vm.Alike P.U.vm := hZ.alike.trans X.warmed.alike
  obtain ⟨D, cfV, kV, iV, fV, hD, gV, stV, knV, obV, asV, slV⟩ := id V
  obtain ⟨D', cfC, kC, iC, fC, hD', gC, stC, -, -, asC, slC⟩ := id C
  cases hD.symm.trans hD'
  obtain ⟨D2, kD, e1, e2, e3, e4, e5⟩ := id E
  cases hD.symm.trans e1
  obtain ⟨c2, k2, i1, i2, i3, -⟩ := Cond.instantiable_spec wi
  cases e2.symm.trans i1
  cases e3.symm.trans i2
  obtain ⟨kU, u1, u2⟩ := al.2.2 _ _ e3
  have hB : Blank ST x D P.U := ⟨hD, ⟨knV, fun q hq => by rw [hq] at obV; cases obV⟩, by rw [al.findClass]; exact e2, kU, u1, by rw [u2]; exact i3, by rw [u2]; exact e5 i3⟩
  have F1 : Found ST "value" "[B" fV P.U := ⟨SBG.found_only al ⟨cfV, kV, iV, gV⟩, stV⟩
  have F2 : Found ST "coder" "B" fC P.U := ⟨SBG.found_only al ⟨cfC, kC, iC, gC⟩, stC⟩
  have hA : Ch b A P.U := ⟨⟨K.1, State.isArrayOf_alike al K.2.1, K.2.2, by omega⟩, hty⟩
  have hS : StaticIs P.U ST "COMPACT_STRINGS" "Z" (.int z) := by
    obtain ⟨cfS, iS, kS, fS, st, cS, t1, t2, t3, t4, t5, t6, t7⟩ := S
    exact StaticIs.there (s := { Z with heap := P.U.heap }) ⟨cfS, iS, kS, fS, st, cS, t1, t2, t3, t4, t5, (fun q => by rw [q] at t6; cases t6), t7⟩ al rfl
  obtain ⟨v, B, X', ⟨⟨hv, E', V', q1, q2, q3, q4, q5, q6, q7, q8, q9, q10, q11⟩, hl, hc, hs⟩, st⟩ := New1.pays x D fV fC b A z (tab_of (moved hZ hw)) hfr hlo m meth c P g ig mk _ X hg hsize hdg hW hn ⟨r1, r2, rfl, hB, F1, F2, hA, hS, hz, l0, l2, hp⟩
  have al' : Z.vm.Alike B.U.vm := hZ.alike.trans X'.warmed.alike
  have hsz : E'.slots.size = D.slots.size := by
    obtain ⟨-, -, -, kB, w1, w2, w3⟩ := q1
    obtain ⟨kB', y1, y2⟩ := al'.2.2 _ _ e3
    rw [q2.2.1] at w1
    cases w1.symm.trans y1
    rw [w3, e5 i3, y2]
  refine ⟨v, B, X', ⟨_, ⟨hv, ?_, ⟨by omega, fun y cy hy hn' => q10 y cy (by simpa using hn') hy, fun y cy hy => ?_⟩, q11, ⟨E', _, q1.1, by rw [q2.2.1]; exact e2, by rw [q2.2.1]; exact e3, by rw [q2.1]; exact obV, fun _ => by rw [hsz]; exact e5 i3⟩,
    ⟨E', cfV, kV, iV, fV, q1.1, gV, stV, by rw [q2.1]; exact knV, by rw [q2.1]; exact obV, by rw [q2.2.1]; exact asV, q3⟩, ⟨E', cfC, kC, iC, fC, q1.1, gC, stC, by rw [q2.1]; exact knV, by rw [q2.1]; exact obV, by rw [q2.2.1]; exact asC, q4⟩,
    ⟨V', ⟨q5.1, State.isArrayOf_alike al'.symm q5.2.1, q5.2.2.1⟩, q6, by rw [← al'.findClass]; exact q7, q8, fun j hj => by have := q9 j hj; rwa [Nat.zero_add] at this⟩, fun O n d w F n1 n2 => ?_⟩, hl, hc, hs⟩, st⟩
  · intro y hy
    simp only [List.mem_cons, List.not_mem_nil, or_false] at hy
    rcases hy with rfl | rfl <;> rfl
  · by_cases q : y = x
    · subst q
      cases hD.symm.trans hy
      exact ⟨E', q1.1, q2.2.1, q2.1, hsz⟩
    · exact ⟨cy, q10 y cy q hy, rfl, rfl, rfl⟩
  · obtain ⟨D3, cf, k, i, f, g1, g2, g3, g4, g5, g6, g7⟩ := F
    cases hD.symm.trans g1
    simp only [RoadKit.slotOf, g2, gV, gC, Option.map_some, Option.getD_some] at n1 n2
    exact ⟨E', cf, k, i, f, q1.1, g2, g3, by rw [q2.1]; exact g4, by rw [q2.1]; exact g5, by rw [q2.2.1]; exact g6, by rw [q2.2.2 f.slot (by simp [n1, n2])]; exact g7⟩
end StrChars.Road
namespace StrChars.Road
open Jvm Sem ClassFile Op Lib Jvm.Stand Jvm.Free Jvm.Free.XT
/-- WHAT COMES BACK, the byte[] as a list of values -/
def QA (Z : State) (x : Addr) (zn : Int32) (cs : List Int32) (h : Heap) (v : Option Value) (h' : Heap) (L : List Loc) : Prop := v = none ∧ (∀ y ∈ L, y.base = x) ∧ RoadKit.Keep h h' [x] ∧ h'.size = h.size + 1 ∧ RoadKit.Exa Z h' x ST ∧ RoadKit.Fld Z h' x ST "value" "[B" (.ref h.size) ∧ RoadKit.Fld Z h' x ST "coder" "B" (.int 0) ∧
  (∃ kb, Z.vm.findClass "[B" = some kb ∧ RoadKit.Arv Z h' h.size kb .byte zn (cs.map fun c => .int (lo8 c)) (.int 0)) ∧
  ∀ (O n d : String) (w : Value), RoadKit.Fld Z h x O n d w → RoadKit.slotOf Z O n d ≠ RoadKit.slotOf Z ST "value" "[B" → RoadKit.slotOf Z O n d ≠ RoadKit.slotOf Z ST "coder" "B" → RoadKit.Fld Z h' x O n d w
/-- **new String(chars) AT A CALL, THE ARRAYS AS LISTS**: the char[] at b holds cs, not empty, no char above 255 -/
theorem backArv {p : Program} {l : Launch} {e : Env} {R : Room} {s : State} {args : Array Value} {below : List Frame} {len W : Nat} {Z : State} {a0 : Array Value} {h : Heap} (hZ : Z.Warmed39 s.vm) (hw : ∀ d ∈ words, d.before a0 Z = true) {kI : Nat} (wi : (Jvm.Cond.instantiable ST kI).before a0 Z = true)
    {x b : Addr} {k : ClassId} {zn z : Int32} {cs : List Int32} {dv v0 c0 : Value} (E : RoadKit.Exa Z h x ST) (V : RoadKit.Fld Z h x ST "value" "[B" v0) (C : RoadKit.Fld Z h x ST "coder" "B" c0) (K : RoadKit.Arv Z h b k .char zn (cs.map Value.int) dv) (S : RoadKit.Sta Z h ST "COMPACT_STRINGS" "Z" (.int z)) (hz : ¬ z = 0)
    (hlen : zn.toNatClampNeg = cs.length) (h0 : 0 < cs.length) (hbig : cs.length ≤ 536870912) (hall : ∀ c ∈ cs, ¬ 255 < c) (hfr : 4 ≤ R.frames) (hlo : W + 65 ≤ R.locals) :
    Back l R p e below s args New1.yN len W (fun P a => a = #[.ref x, .ref b] ∧ P.U.heap = h ∧ P.cells + 1 ≤ R.cells ∧ P.slots + cs.length ≤ R.slots)
      (fun P _ v B => ∃ L, QA Z x zn cs h v B.U.heap L ∧ B.locs = P.locs ++ L ∧ B.cells = P.cells + 1 ∧ B.slots = P.slots + cs.length) := by
  obtain ⟨A, K1, K2, K3, K4, K5, K6⟩ := K
  have e : A.slots.size = cs.length := K3.trans hlen
  have hat : ∀ (i : Nat) (hi : i < cs.length), A.slots[i]? = some (.int cs[i]) := fun i hi => by rw [K5 i (by omega)]; simp [List.getD_eq_getElem?_getD, hi]
  have hcv : ∀ (i : Nat) (hi : i < cs.length), cv A i = cs[i] := fun i hi => by unfold cv; rw [hat i hi]
  have hty : Typed .char A := fun i v hv => by
    have hi : i < A.slots.size := (Array.getElem?_eq_some_iff.mp hv).1
    have q := K5 i hi
    rw [hv] at q
    rw [Option.some.inj q]
    exact K6 i hi
  refine Back.mono (back hZ hw wi E V C K1 hty S hz (by omega) (by omega) (fun i hi => by rw [hcv i (by omega)]; exact hall _ (List.getElem_mem _)) hfr hlo) (fun P a hp => ⟨hp.1, hp.2.1, hp.2.2.1, by rw [e]; exact hp.2.2.2⟩) (fun P a v B hp hq => ?_)
  obtain ⟨L, ⟨q1, q2, q3, q4, q5, q6, q7, ⟨V', v1, v2, v3, v4, v5⟩, q9⟩, hl, hc, hs⟩ := hq
  refine ⟨L, ⟨q1, q2, q3, q4, q5, q6, q7, ⟨V'.cls, v3, V', v1, rfl, by rw [v4, e, hlen], K4, fun i hi => ?_, fun i hi => ?_⟩, q9⟩, hl, hc, by rw [hs, e]⟩
  · have hi' : i < cs.length := by omega
    rw [v5 i (by omega), hcv i hi']; simp [List.getD_eq_getElem?_getD, hi']
  · have hi' : i < cs.length := by omega
    simp only [List.getD_eq_getElem?_getD, List.getElem?_map, List.getElem?_eq_getElem hi', Option.map_some, Option.getD_some]
    exact fits_lo8 _
end StrChars.Road
namespace StrChars.Road
open Jvm Sem ClassFile Op Lib Jvm.Stand Jvm.Free Jvm.Free.XT
/-- WHAT COMES BACK, in the writer's own shape -/
def QV (Z : State) (x : Addr) (N : Int32) (bs : List Int32) (h : Heap) (n0 : Nat) (v : Option Value) (h' : Heap) (L : List Loc) : Prop := v = none ∧ RoadKit.Fr n0 L ∧ RoadKit.Keep h h' [x] ∧ RoadKit.Exa Z h' x ST ∧ RoadKit.Fld Z h' x ST "coder" "B" (.int 0) ∧
  ∃ (t : Addr) (kb : ClassId), n0 ≤ t ∧ h.size ≤ t ∧ ¬ t = x ∧ RoadKit.Fld Z h' x ST "value" "[B" (.ref t) ∧ RoadKit.Arv Z h' t kb .byte N (bs.map Value.int) (.int 0)
/-- **new String(chars) AT A CALL, FOR THE WRITER**: a char[] of n known ints, each 0 to 255 -/
theorem backV {p : Program} {l : Launch} {e : Env} {R : Room} {s : State} {args : Array Value} {below : List Frame} {len W : Nat} {Z : State} {a0 : Array Value} {h : Heap} (hZ : Z.Warmed39 s.vm) (hw : ∀ d ∈ words, d.before a0 Z = true) {kI : Nat} (wi : (Jvm.Cond.instantiable ST kI).before a0 Z = true)
    {x b : Addr} {kC : ClassId} {cs bs : List Int32} {d v0 c0 : Value} {z N : Int32} {n n0 : Nat} (hx0 : n0 ≤ x) (hh0 : n0 ≤ h.size) (E : RoadKit.Exa Z h x ST) (V : RoadKit.Fld Z h x ST "value" "[B" v0) (C : RoadKit.Fld Z h x ST "coder" "B" c0) (K : RoadKit.Arv Z h b kC .char N (cs.map Value.int) d) (S : RoadKit.Sta Z h ST "COMPACT_STRINGS" "Z" (.int z)) (hz : ¬ z = 0)
    (hn : cs.length = n) (hN : N = Int32.ofNat n) (l0 : 0 < n) (l2 : n ≤ 4000) (hp : ∀ c ∈ cs, ¬ c < 0 ∧ ¬ (255 : Int32) < c) (hb : bs = cs.map (fun c => c.toInt8.toInt32)) (hfr : 4 ≤ R.frames) (hlo : W + 65 ≤ R.locals) :
    Back l R p e below s args (⟨"java/lang/String", "<init>", "([C)V"⟩ : MethodName) len W (fun P a => a = #[.ref x, .ref b] ∧ P.U.heap = h ∧ P.cells + 1 ≤ R.cells ∧ P.slots + n ≤ R.slots)
      (fun P _ v B => ∃ L, QV Z x N bs h n0 v B.U.heap L ∧ B.locs = P.locs ++ L ∧ B.cells = P.cells + 1 ∧ B.slots = P.slots + n) := by
  subst hn hN hb
  refine Back.mono (backArv hZ hw wi E V C K S hz (n32 (by omega)) l0 (by omega) (fun c hc => (hp c hc).2) hfr hlo) (fun P a hp => hp) (fun P a v B hp hq => ?_)
  obtain ⟨L, ⟨q1, q2, q3, q4, q5, q6, q7, ⟨kb, v1, v2⟩, q9⟩, hl, hc, hs⟩ := hq
  exact ⟨L, ⟨q1, fun y hy => by rw [q2 y hy]; exact hx0, q3, q5, q7, h.size, kb, hh0, Nat.le_refl _, Nat.ne_of_gt E.lt, q6, by rw [List.map_map]; exact v2⟩, hl, hc, hs⟩
end StrChars.Road
namespace StrChars
open Jvm Sem ClassFile Op Lib Jvm.Stand Jvm.Free.XT Jvm.Free.ALB Jvm.Free.JM Jvm.Free
open Jvm.Lib.Cold (StaticIs)
def hi8 (x : Int32) : Int32 := lo8 (x >>> ((8 : Int32) &&& 31))
/-- what StringUTF16.getChar makes of two bytes -/
def pairCh (u v : Int32) : Int32 := (((u &&& 255) <<< ((0 : Int32) &&& 31)) ||| ((v &&& 255) <<< ((8 : Int32) &&& 31))).toUInt32.toUInt16.toUInt32.toInt32
theorem lo8_and (x : Int32) : (lo8 x &&& 255).toBitVec.toNat = x.toBitVec.toNat % 256 := by
  have h : (lo8 x).toBitVec = (x.toBitVec.signExtend 8).signExtend 32 := by rw [lo8, Int8.toBitVec_toInt32, Int32.toBitVec_toInt8]
  rw [Int32.toBitVec_and, BitVec.toNat_and, h]
  have e : ((x.toBitVec.signExtend 8).signExtend 32).toNat % 256 = x.toBitVec.toNat % 256 := by
    rw [BitVec.toNat_signExtend]
    have hlt := x.toBitVec.isLt
    simp only [BitVec.toNat_setWidth, BitVec.toNat_signExtend]
    split <;> split <;> omega
  rw [← e]
  exact Nat.and_two_pow_sub_one_eq_mod _ 8
theorem pair_says {c : Int32} (h0 : ¬ c < 0) (h1 : ¬ 65535 < c) : pairCh (lo8 c) (hi8 c) = c := by
  rw [Int32.lt_iff_toInt_lt] at h0 h1
  have e0 : (0 : Int32).toInt = 0 := rfl
  have e1 : (65535 : Int32).toInt = 65535 := rfl
  have hc : c.toInt = c.toBitVec.toNat := by
    have := c.toBitVec.isLt
    have e : c.toInt = c.toBitVec.toInt := rfl
    rw [e] at h0 h1
    rw [e]
    rw [BitVec.toInt_eq_toNat_cond] at h0 h1 ⊢
    split at h0 <;> split <;> omega
  have hn : c.toBitVec.toNat < 65536 := by omega
  have a1 := lo8_and c
  have a2 : (hi8 c &&& 255).toBitVec.toNat = c.toBitVec.toNat / 256 := by
    rw [hi8, lo8_and]
    have e : ((8 : Int32) &&& 31) = 8 := by decide
    rw [e, Int32.toBitVec_shiftRight]
    have e2 : ((8 : Int32).toBitVec.smod 32) = 8#32 := by decide
    rw [e2, BitVec.sshiftRight_eq', BitVec.toNat_sshiftRight_of_msb_false (by rw [BitVec.msb_eq_false_iff_two_mul_lt]; omega)]
    show c.toBitVec.toNat >>> 8 % 256 = _
    rw [Nat.shiftRight_eq_div_pow]
    omega
  unfold pairCh
  apply Int32.toBitVec_inj.mp
  apply BitVec.eq_of_toNat_eq
  have f0 : ((0 : Int32) &&& 31) = 0 := by decide
  have f8 : ((8 : Int32) &&& 31) = 8 := by decide
  rw [f0, f8]
  have g : (((lo8 c &&& 255) <<< (0 : Int32)) ||| ((hi8 c &&& 255) <<< (8 : Int32))).toBitVec.toNat = c.toBitVec.toNat := by
    rw [Int32.toBitVec_or, Int32.toBitVec_shiftLeft, Int32.toBitVec_shiftLeft]
    have s0 : ((0 : Int32).toBitVec.smod 32) = 0#32 := by decide
    have s8 : ((8 : Int32).toBitVec.smod 32) = 8#32 := by decide
    rw [s0, s8, BitVec.toNat_or]
    simp only [BitVec.shiftLeft_eq', BitVec.toNat_shiftLeft, a1, a2]
    show (c.toBitVec.toNat % 256) <<< 0 % 2 ^ 32 ||| (c.toBitVec.toNat / 256) <<< 8 % 2 ^ 32 = _
    rw [Nat.shiftLeft_zero, Nat.mod_eq_of_lt (show c.toBitVec.toNat % 256 < 2 ^ 32 by omega), Nat.mod_eq_of_lt (show (c.toBitVec.toNat / 256) <<< 8 < 2 ^ 32 by rw [Nat.shiftLeft_eq]; omega), Nat.or_comm, ← Nat.shiftLeft_add_eq_or_of_lt (by omega), Nat.shiftLeft_eq]
    omega
  show BitVec.toNat (((((lo8 c &&& 255) <<< (0 : Int32)) ||| ((hi8 c &&& 255) <<< (8 : Int32))).toBitVec.setWidth 16).setWidth 32) = _
  rw [BitVec.toNat_setWidth, BitVec.toNat_setWidth, g]
  omega
end StrChars
namespace StrChars
open Jvm Sem ClassFile Op Lib Jvm.Stand Jvm.Free.XT Jvm.Free.ALB Jvm.Free.JM Jvm.Free
open Jvm.Lib.Cold (StaticIs)
/-- the array's cell V codes the n chars f 0 .. f (n - 1) by the coder cd, as the JDK does: coder 1 just where some char is above 255 -/
def Cod (cd : Int32) (n : Nat) (f : Nat → Int32) (V : Cell) : Prop := (cd = 0 ∧ V.slots.size = n ∧ ∀ j, j < n → V.slots[j]? = some (.int (lo8 (f j))) ∧ ¬ 255 < f j) ∨ (cd = 1 ∧ V.slots.size = 2 * n ∧ (∀ j, j < n → V.slots[2 * j]? = some (.int (lo8 (f j))) ∧ V.slots[2 * j + 1]? = some (.int (hi8 (f j)))) ∧ ∃ j, j < n ∧ 255 < f j)
/-- **x is a String of the n chars f 0 .. f (n - 1)**, Latin-1 or UTF-16; its array at t has the cell V -/
def Txt (x t : Addr) (V : Cell) (cd : Int32) (n : Nat) (f : Nat → Int32) (U : State) : Prop := Exact "java/lang/String" x U ∧ Has x "java/lang/String" "value" "[B" (.ref t) U ∧ Has x "java/lang/String" "coder" "B" (.int cd) U ∧ XT.Arr .byte t V U ∧ Cod cd n f V ∧ ∀ j, j < n → ¬ f j < 0 ∧ ¬ 65535 < f j
theorem Txt.mv {x t : Addr} {V : Cell} {cd : Int32} {n : Nat} {f : Nat → Int32} {U U' : State} (h : Txt x t V cd n f U) (hal : U.vm.Alike U'.vm) (hh : U'.heap = U.heap) : Txt x t V cd n f U' := ⟨h.1.mv hal hh, h.2.1.mv hal hh, h.2.2.1.mv hal hh, h.2.2.2.1.mv hal hh, h.2.2.2.2⟩
end StrChars
namespace StrChars.Road
open Jvm Sem ClassFile Op Lib Jvm.Stand Jvm.Free Jvm.Free.XT
open Jvm.Lib.Cold (StaticIs)
theorem consq {a : Array Value} {s : State} {c : Jvm.Cond} {L : List Jvm.Cond} (h0 : c.before a s = true) (h : ∀ w ∈ L, w.before a s = true) : ∀ w ∈ c :: L, w.before a s = true := fun w hw => (List.mem_cons.mp hw).elim (fun e => e ▸ h0) (h w)
/-- the bytes of the chars cs, low before high -/
def wideBytes : List Int32 → List Value
  | [] => []
  | c :: cs => .int (lo8 c) :: .int (hi8 c) :: wideBytes cs
theorem wide_lo (d : Value) : ∀ (cs : List Int32) (j : Nat), j < cs.length → (wideBytes cs).getD (2 * j) d = .int (lo8 (cs.getD j 0))
  | [], j, h => absurd h (Nat.not_lt_zero j)
  | c :: cs, 0, _ => rfl
  | c :: cs, j + 1, h => by
    have q := wide_lo d cs j (by simpa using h)
    rw [show 2 * (j + 1) = 2 * j + 1 + 1 from by omega]
    simpa [wideBytes] using q
theorem wide_hi (d : Value) : ∀ (cs : List Int32) (j : Nat), j < cs.length → (wideBytes cs).getD (2 * j + 1) d = .int (hi8 (cs.getD j 0))
  | [], j, h => absurd h (Nat.not_lt_zero j)
  | c :: cs, 0, _ => rfl
  | c :: cs, j + 1, h => by
    have q := wide_hi d cs j (by simpa using h)
    rw [show 2 * (j + 1) + 1 = 2 * j + 1 + 1 + 1 from by omega]
    simpa [wideBytes] using q
theorem low_at (d : Value) (cs : List Int32) (j : Nat) (h : j < cs.length) : (cs.map fun c => Value.int (lo8 c)).getD j d = .int (lo8 (cs.getD j 0)) := by
  simp [List.getD_eq_getElem?_getD, h]
/-- an array of N2 bytes vs codes the chars cs by the coder cd -/
def CodA (cs : List Int32) (cd N2 : Int32) (vs : List Value) : Prop := (cd = 0 ∧ N2 = Int32.ofNat cs.length ∧ vs = (cs.map fun c => Value.int (lo8 c)) ∧ ∀ c ∈ cs, ¬ 255 < c) ∨ (cd = 1 ∧ N2 = Int32.ofNat (2 * cs.length) ∧ vs = wideBytes cs ∧ ∃ c ∈ cs, 255 < c)
theorem CodA.cod {cs : List Int32} {cd N2 : Int32} {vs : List Value} {V : Cell} (h : CodA cs cd N2 vs) (hn : 2 * cs.length < 2 ^ 31) (hs : V.slots.size = N2.toNatClampNeg) (hv : RoadKit.Has V vs (.int 0)) : Cod cd cs.length (fun j => cs.getD j 0) V := by
  rcases h with ⟨rfl, rfl, rfl, h⟩ | ⟨rfl, rfl, rfl, c, hc, hw⟩
  · rw [n32 (by omega)] at hs
    exact Or.inl ⟨rfl, hs, fun j hj => ⟨by rw [hv j (by omega), low_at _ _ _ hj], by
      have e : cs.getD j 0 = cs[j] := by simp [List.getD_eq_getElem?_getD, hj]
      show ¬ 255 < cs.getD j 0
      rw [e]; exact h _ (List.getElem_mem _)⟩⟩
  · rw [n32 (by omega)] at hs
    obtain ⟨j, hj, rfl⟩ := List.getElem_of_mem hc
    exact Or.inr ⟨rfl, hs, fun j hj => ⟨by rw [hv _ (by omega), wide_lo _ _ _ hj], by rw [hv _ (by omega), wide_hi _ _ _ hj]⟩, j, hj, by
      have e : cs.getD j 0 = cs[j] := by simp [List.getD_eq_getElem?_getD, hj]
      show 255 < cs.getD j 0
      rw [e]; exact hw⟩
/-- an object of exactly java/lang/String, its two fields found: as the laws ask it -/
theorem strObj {Z U : State} {a0 : Array Value} {kI : Nat} (wi : (Jvm.Cond.instantiable ST kI).before a0 Z = true) (al : Z.vm.Alike U.vm) {x : Addr} {v0 c0 : Value} (E : RoadKit.Exa Z U.heap x ST) (V : RoadKit.Fld Z U.heap x ST "value" "[B" v0) (C : RoadKit.Fld Z U.heap x ST "coder" "B" c0) :
    ∃ (D : Cell) (fV fC : Field), Blank ST x D U ∧ Found ST "value" "[B" fV U ∧ Found ST "coder" "B" fC U ∧ D.slots[fV.slot]? = some v0 ∧ D.slots[fC.slot]? = some c0 ∧ RoadKit.slotOf Z ST "value" "[B" = fV.slot ∧ RoadKit.slotOf Z ST "coder" "B" = fC.slot := by
  obtain ⟨D, cfV, kV, iV, fV, hD, gV, stV, knV, obV, asV, slV⟩ := V
  obtain ⟨D', cfC, kC, iC, fC, hD', gC, stC, -, -, asC, slC⟩ := C
  cases hD.symm.trans hD'
  obtain ⟨D2, kD, e1, e2, e3, e4, e5⟩ := E
  cases hD.symm.trans e1
  obtain ⟨c2, k2, i1, i2, i3, -⟩ := Cond.instantiable_spec wi
  cases e2.symm.trans i1
  cases e3.symm.trans i2
  obtain ⟨kU, u1, u2⟩ := al.2.2 _ _ e3
  exact ⟨D, fV, fC, ⟨hD, ⟨knV, fun q hq => by rw [hq] at obV; cases obV⟩, by rw [al.findClass]; exact e2, kU, u1, by rw [u2]; exact i3, by rw [u2]; exact e5 i3⟩, ⟨SBG.found_only al ⟨cfV, kV, iV, gV⟩, stV⟩, ⟨SBG.found_only al ⟨cfC, kC, iC, gC⟩, stC⟩, slV, slC, by simp [RoadKit.slotOf, gV], by simp [RoadKit.slotOf, gC]⟩
theorem sta_is {Z U : State} (al : Z.vm.Alike U.vm) {C n d : String} {v : Value} (S : RoadKit.Sta Z U.heap C n d v) : StaticIs U C n d v := by
  obtain ⟨cfS, iS, kS, fS, st, cS, t1, t2, t3, t4, t5, t6, t7⟩ := S
  exact StaticIs.there (s := { Z with heap := U.heap }) ⟨cfS, iS, kS, fS, st, cS, t1, t2, t3, t4, t5, (fun q => by rw [q] at t6; cases t6), t7⟩ al rfl
end StrChars.Road
namespace StrChars
open Jvm Sem ClassFile Op Lib Jvm.Stand Jvm.Free.XT Jvm.Free.ALB Jvm.Free.JM Jvm.Free
open Jvm.Lib.Cold (StaticIs)
/-- what place i of a byte[]'s cell holds -/
def yv (A : Cell) (i : Nat) : Int32 := match A.slots[i]? with | some (.int x) => x | _ => 0
theorem yv_get {a : Addr} {A : Cell} {U : State} (h : XT.Arr .byte a A U) (ht : Typed .byte A) {i : Nat} (hi : i < A.slots.size) : A.slots[i]? = some (.int (yv A i)) := by
  have e := Array.getElem?_eq_getElem hi
  have f := ht i _ e
  unfold yv; rw [e]
  generalize A.slots[i] = v at f
  cases v <;> simp [fits] at f ⊢
/-- the two arrays are equal, place for place -/
def EqC (A B : Cell) : Prop := A.slots.size = B.slots.size ∧ ∀ i, i < A.slots.size → yv A i = yv B i
/-- a boolean that says whether p -/
def Says01 (q : Prop) (r : Option Value) (s u : State) : Prop := ∃ v : Int32, r = some (.int v) ∧ u.heap = s.heap ∧ ((v = 1 ∧ q) ∨ (v = 0 ∧ ¬ q))
theorem Says01.mv {q : Prop} : ∀ r (U U' V V' : State), U'.heap = U.heap → V.vm.Alike V'.vm → V'.heap = V.heap → Says01 q r U V → Says01 q r U' V' :=
  fun r U U' V V' h1 _ h2 ⟨v, a, b, c⟩ => ⟨v, a, by rw [h1, h2]; exact b, c⟩
namespace LEq
def yN : MethodName := ⟨"java/lang/StringLatin1", "equals", "([B[B)Z"⟩
abbrev yB : ByteArray := jdk_43_method_13_code
theorem d0 : decode yB 0 = .ok (.aload_n 0, 1) := by decide +kernel
theorem d1 : decode yB 1 = .ok (.arraylength, 1) := by decide +kernel
theorem d2 : decode yB 2 = .ok (.aload_n 1, 1) := by decide +kernel
theorem d3 : decode yB 3 = .ok (.arraylength, 1) := by decide +kernel
theorem d4 : decode yB 4 = .ok (.if_icmp (.ne) 30, 3) := by decide +kernel
theorem d7 : decode yB 7 = .ok (.iconst 0, 1) := by decide +kernel
theorem d8 : decode yB 8 = .ok (.istore_n 2, 1) := by decide +kernel
theorem d9 : decode yB 9 = .ok (.iload_n 2, 1) := by decide +kernel
theorem d10 : decode yB 10 = .ok (.aload_n 0, 1) := by decide +kernel
theorem d11 : decode yB 11 = .ok (.arraylength, 1) := by decide +kernel
theorem d12 : decode yB 12 = .ok (.if_icmp (.ge) 20, 3) := by decide +kernel
theorem d15 : decode yB 15 = .ok (.aload_n 0, 1) := by decide +kernel
theorem d16 : decode yB 16 = .ok (.iload_n 2, 1) := by decide +kernel
theorem d17 : decode yB 17 = .ok (.baload, 1) := by decide +kernel
theorem d18 : decode yB 18 = .ok (.aload_n 1, 1) := by decide +kernel
theorem d19 : decode yB 19 = .ok (.iload_n 2, 1) := by decide +kernel
theorem d20 : decode yB 20 = .ok (.baload, 1) := by decide +kernel
theorem d21 : decode yB 21 = .ok (.if_icmp (.eq) 5, 3) := by decide +kernel
theorem d24 : decode yB 24 = .ok (.iconst 0, 1) := by decide +kernel
theorem d25 : decode yB 25 = .ok (.ireturn, 1) := by decide +kernel
theorem d26 : decode yB 26 = .ok (.iinc 2 1, 3) := by decide +kernel
theorem d29 : decode yB 29 = .ok (.goto (-20), 3) := by decide +kernel
theorem d32 : decode yB 32 = .ok (.iconst 1, 1) := by decide +kernel
theorem d33 : decode yB 33 = .ok (.ireturn, 1) := by decide +kernel
theorem d34 : decode yB 34 = .ok (.iconst 0, 1) := by decide +kernel
theorem d35 : decode yB 35 = .ok (.ireturn, 1) := by decide +kernel
def site : List Cond := []
def tab : Cond := tabOf yN yB 3 (some .boolean) site
def P (a : Addr) (A : Cell) (b : Addr) (B : Cell) (args : Array Value) (s : State) : Prop := args = #[.ref a, .ref b] ∧ XT.Arr .byte a A s ∧ Typed .byte A ∧ XT.Arr .byte b B s ∧ Typed .byte B
/-- whether two byte[] are equal, place for place -/
theorem law (l : Launch) (a : Addr) (A : Cell) (b : Addr) (B : Cell) : Law l yN 2 2 0 0 yB 3 (some .boolean) site (P a A b B) (Says01 (EqC A B)) [] 0 0 := by
  refine Law.of_walk (plainFor_of_name (by decide +kernel)) (by decide +kernel) (by decide +kernel) (by decide) (fun _ _ h => by rw [h.1]; rfl) (fun _ U U' hal hh h => ⟨h.1, h.2.1.mv hal hh, h.2.2.1, h.2.2.2.1.mv hal hh, h.2.2.2.2⟩) (fun r U U' V V' h1 hal h2 h => Says01.mv r U U' V V' h1 hal h2 h) ?_
  intro p e s m args below meth c s₁ X0 hexec hbytes hml hret hlk hnm hown hh0 W hP
  obtain ⟨rfl, hA, tA, hB, tB⟩ := hP
  have a31 := hA.2.2.2
  have b31 := hB.2.2.2
  have hA0 := hA.mv X0.warmed.alike hh0
  have hB0 := hB.mv X0.warmed.alike hh0
  have c1 : Steps p.tables e below (s₁.setTop (entryFrame m #[.ref a, .ref b] 3)) (s₁.setTop (mkF m 0 #[.val (.ref a), .val (.ref b), .unset] [])) := entry rfl
  have c2 : Steps p.tables e below (s₁.setTop (entryFrame m #[.ref a, .ref b] 3)) (s₁.setTop (mkF m 4 #[.val (.ref a), .val (.ref b), .unset] [.int (Int32.ofNat B.slots.size), .int (Int32.ofNat A.slots.size)])) := c1.trans (by
    refine XS.aloadN X0.here hexec rfl (hb hbytes d0) rfl rfl ?_
    refine X0.alen hexec hA0 rfl rfl (hb hbytes d1) ?_
    refine XS.aloadN X0.here hexec rfl (hb hbytes d2) rfl rfl ?_
    refine X0.alen hexec hB0 rfl rfl (hb hbytes d3) ?_
    exact Steps.refl _)
  by_cases hs : A.slots.size = B.slots.size
  · have c3 : Steps p.tables e below (s₁.setTop (entryFrame m #[.ref a, .ref b] 3)) (s₁.setTop (mkF m 9 #[.val (.ref a), .val (.ref b), .val (.int 0)] [])) := c2.trans (by
      refine XS.icmpNo X0.here hexec rfl (hb hbytes d4) rfl (ii_ne_f (by rw [hs])) ?_
      refine iconstV X0.here hexec rfl 0 (hb hbytes d7) (by decide) ?_
      refine XS.istoreN X0.here hexec rfl (hb hbytes d8) rfl rfl ?_
      exact Steps.refl _)
    have loop : ∀ (r i : Nat), i + r = A.slots.size → (∀ j, j < i → yv A j = yv B j) → Steps p.tables e below (s₁.setTop (entryFrame m #[.ref a, .ref b] 3)) (s₁.setTop (mkF m 9 #[.val (.ref a), .val (.ref b), .val (.int (Int32.ofNat i))] [])) → ∃ (pc : Nat) (Ls : Array Slot) (v : Int32), (pc = 25 ∨ pc = 33) ∧ ((v = 1 ∧ EqC A B) ∨ (v = 0 ∧ ¬ EqC A B)) ∧ Steps p.tables e below (s₁.setTop (entryFrame m #[.ref a, .ref b] 3)) (s₁.setTop (mkF m pc Ls [.int v])) := by
      intro r
      induction r with
      | zero =>
        intro i hi he cl
        exact ⟨33, _, 1, Or.inr rfl, Or.inl ⟨rfl, hs, fun j hj => he j (by omega)⟩, cl.trans (by
          refine XS.iloadN X0.here hexec rfl (hb hbytes d9) rfl ?_
          refine XS.aloadN X0.here hexec rfl (hb hbytes d10) rfl rfl ?_
          refine X0.alen hexec hA0 rfl rfl (hb hbytes d11) ?_
          refine XS.icmpYes X0.here hexec rfl (pc0 := 12) rfl (hb hbytes d12) rfl (ii_ge_t (nlt32 (by omega) (by omega))) (by decide) rfl ?_
          refine iconstV X0.here hexec rfl 1 (hb hbytes d32) (by decide) ?_
          exact Steps.refl _)⟩
      | succ r ih =>
        intro i hi he cl
        have c4 : Steps p.tables e below (s₁.setTop (entryFrame m #[.ref a, .ref b] 3)) (s₁.setTop (mkF m 21 #[.val (.ref a), .val (.ref b), .val (.int (Int32.ofNat i))] [.int (yv B i), .int (yv A i)])) := cl.trans (by
          refine XS.iloadN X0.here hexec rfl (hb hbytes d9) rfl ?_
          refine XS.aloadN X0.here hexec rfl (hb hbytes d10) rfl rfl ?_
          refine X0.alen hexec hA0 rfl rfl (hb hbytes d11) ?_
          refine XS.icmpNo X0.here hexec rfl (hb hbytes d12) rfl (ii_ge_f (lt32 (by omega) (by omega))) ?_
          refine XS.aloadN X0.here hexec rfl (hb hbytes d15) rfl rfl ?_
          refine XS.iloadN X0.here hexec rfl (hb hbytes d16) rfl ?_
          refine X0.aget hexec hA0 rfl (yv_get hA tA (i := i) (by omega)) rfl rfl (hb hbytes d17) ?_
          refine XS.aloadN X0.here hexec rfl (hb hbytes d18) rfl rfl ?_
          refine XS.iloadN X0.here hexec rfl (hb hbytes d19) rfl ?_
          refine X0.aget hexec hB0 rfl (yv_get hB tB (i := i) (by omega)) rfl rfl (hb hbytes d20) ?_
          exact Steps.refl _)
        by_cases hv : yv A i = yv B i
        · have c5 : Steps p.tables e below (s₁.setTop (entryFrame m #[.ref a, .ref b] 3)) (s₁.setTop (mkF m 9 #[.val (.ref a), .val (.ref b), .val (.int (Int32.ofNat i + 1))] [])) := c4.trans (by
            refine XS.icmpYes X0.here hexec rfl (pc0 := 21) rfl (hb hbytes d21) rfl (ii_eq_t hv) (by decide) rfl ?_
            refine iincV X0.here hexec rfl 1 (hb hbytes d26) (by decide) rfl rfl ?_
            refine XS.goto X0.here hexec rfl (pc0 := 29) rfl (hb hbytes d29) (by decide) rfl ?_
            exact Steps.refl _)
          rw [succ32] at c5
          exact ih (i + 1) (by omega) (fun j hj => by
            by_cases e : j = i
            · rw [e]; exact hv
            · exact he j (by omega)) c5
        · exact ⟨25, _, 0, Or.inl rfl, Or.inr ⟨rfl, fun q => hv (q.2 i (by omega))⟩, c4.trans (by
            refine XS.icmpNo X0.here hexec rfl (hb hbytes d21) rfl (ii_eq_f hv) ?_
            refine iconstV X0.here hexec rfl 0 (hb hbytes d24) (by decide) ?_
            exact Steps.refl _)⟩
    obtain ⟨pc, Ls, v, hpc, hv, cz⟩ := loop A.slots.size 0 (by omega) (fun j hj => absurd hj (Nat.not_lt_zero j)) c3
    have nv : narrow .boolean (.int v) = .int v := by rcases hv with ⟨rfl, -⟩ | ⟨rfl, -⟩ <;> rfl
    rcases hpc with rfl | rfl
    · exact ⟨s₁, some (.int v), _, _, _, X0, rfl, rfl, rfl, (fun h => by cases h), ⟨v, rfl, hh0, hv⟩, fun fs hl => cz.trans (X0.ireturnOut hexec hret nv (Or.inr (Or.inl rfl)) (hb hbytes d25) hl)⟩
    · exact ⟨s₁, some (.int v), _, _, _, X0, rfl, rfl, rfl, (fun h => by cases h), ⟨v, rfl, hh0, hv⟩, fun fs hl => cz.trans (X0.ireturnOut hexec hret nv (Or.inr (Or.inl rfl)) (hb hbytes d33) hl)⟩
  · have c3 : Steps p.tables e below (s₁.setTop (entryFrame m #[.ref a, .ref b] 3)) (s₁.setTop (mkF m 35 #[.val (.ref a), .val (.ref b), .unset] [.int 0])) := c2.trans (by
      refine XS.icmpYes X0.here hexec rfl (pc0 := 4) rfl (hb hbytes d4) rfl (ii_ne_t (ne32 a31 b31 hs)) (by decide) rfl ?_
      refine iconstV X0.here hexec rfl 0 (hb hbytes d34) (by decide) ?_
      exact Steps.refl _)
    exact ⟨s₁, some (.int 0), _, _, _, X0, rfl, rfl, rfl, (fun h => by cases h), ⟨0, rfl, hh0, Or.inr ⟨rfl, fun q => hs q.1⟩⟩, fun fs hl => c3.trans (X0.ireturnOut hexec hret rfl (Or.inr (Or.inl rfl)) (hb hbytes d35) hl)⟩
end LEq
theorem Cod.ty {cd : Int32} {n : Nat} {f : Nat → Int32} {V : Cell} (h : Cod cd n f V) : Typed .byte V := fun i v hv => by
  have hi : i < V.slots.size := (Array.getElem?_eq_some_iff.mp hv).1
  rcases h with ⟨-, k1, k2⟩ | ⟨-, k1, k2, -⟩
  · rw [(k2 i (by omega)).1] at hv; cases hv; exact fits_lo8 _
  · rcases Nat.mod_two_eq_zero_or_one i with e | e
    · obtain ⟨j, rfl⟩ : ∃ j, i = 2 * j := ⟨i / 2, by omega⟩
      rw [(k2 j (by omega)).1] at hv; cases hv; exact fits_lo8 _
    · obtain ⟨j, rfl⟩ : ∃ j, i = 2 * j + 1 := ⟨i / 2, by omega⟩
      rw [(k2 j (by omega)).2] at hv; cases hv; exact fits_lo8 _
/-- the same text -/
def SameT (n : Nat) (f : Nat → Int32) (k : Nat) (g : Nat → Int32) : Prop := n = k ∧ ∀ j, j < n → f j = g j
theorem lo8_inj {x y : Int32} (h0 : ¬ x < 0) (h1 : ¬ 255 < x) (k0 : ¬ y < 0) (k1 : ¬ 255 < y) (h : lo8 x = lo8 y) : x = y := by
  rw [← lo8_mask h0 h1, ← lo8_mask k0 k1, h]
/-- arrays coded by one coder are equal just where the texts are -/
theorem Cod.eqv {cd : Int32} {n k : Nat} {f g : Nat → Int32} {V V' : Cell} (h : Cod cd n f V) (h' : Cod cd k g V') (hf : ∀ j, j < n → ¬ f j < 0 ∧ ¬ 65535 < f j) (hg : ∀ j, j < k → ¬ g j < 0 ∧ ¬ 65535 < g j) : EqC V V' ↔ SameT n f k g := by
  have yvv : ∀ {W : Cell} {i : Nat} {x : Int32}, W.slots[i]? = some (.int x) → yv W i = x := fun q => by unfold yv; rw [q]
  rcases h with ⟨rfl, k1, k2⟩ | ⟨rfl, k1, k2, -⟩
  · rcases h' with ⟨-, m1, m2⟩ | ⟨e, -⟩
    · constructor
      · rintro ⟨e1, e2⟩
        refine ⟨by omega, fun j hj => ?_⟩
        have q := e2 j (by omega)
        rw [yvv (k2 j hj).1, yvv (m2 j (by omega)).1] at q
        exact lo8_inj (hf j hj).1 (k2 j hj).2 (hg j (by omega)).1 (m2 j (by omega)).2 q
      · rintro ⟨rfl, e2⟩
        refine ⟨by omega, fun j hj => ?_⟩
        rw [yvv (k2 j (by omega)).1, yvv (m2 j (by omega)).1, e2 j (by omega)]
    · exact absurd e (by decide)
  · rcases h' with ⟨e, -⟩ | ⟨-, m1, m2, -⟩
    · exact absurd e (by decide)
    · constructor
      · rintro ⟨e1, e2⟩
        refine ⟨by omega, fun j hj => ?_⟩
        have q1 := e2 (2 * j) (by omega)
        have q2 := e2 (2 * j + 1) (by omega)
        rw [yvv (k2 j hj).1, yvv (m2 j (by omega)).1] at q1
        rw [yvv (k2 j hj).2, yvv (m2 j (by omega)).2] at q2
        rw [← pair_says (hf j hj).1 (hf j hj).2, ← pair_says (hg j (by omega)).1 (hg j (by omega)).2, q1, q2]
      · rintro ⟨rfl, e2⟩
        refine ⟨by omega, fun i hi => ?_⟩
        rcases Nat.mod_two_eq_zero_or_one i with e | e
        · obtain ⟨j, rfl⟩ : ∃ j, i = 2 * j := ⟨i / 2, by omega⟩
          rw [yvv (k2 j (by omega)).1, yvv (m2 j (by omega)).1, e2 j (by omega)]
        · obtain ⟨j, rfl⟩ : ∃ j, i = 2 * j + 1 := ⟨i / 2, by omega⟩
          rw [yvv (k2 j (by omega)).2, yvv (m2 j (by omega)).2, e2 j (by omega)]
/-- two codings differ: so do the texts -/
theorem Cod.dif {cd cd' : Int32} {n k : Nat} {f g : Nat → Int32} {V V' : Cell} (h : Cod cd n f V) (h' : Cod cd' k g V') (hne : ¬ cd = cd') : ¬ SameT n f k g := by
  rintro ⟨rfl, e⟩
  rcases h with ⟨rfl, -, k2⟩ | ⟨rfl, -, -, j, hj, hw⟩
  · rcases h' with ⟨rfl, -⟩ | ⟨-, -, -, j, hj, hw⟩
    · exact hne rfl
    · exact (k2 j hj).2 (by rw [e j hj]; exact hw)
  · rcases h' with ⟨-, -, m2⟩ | ⟨rfl, -⟩
    · exact (m2 j hj).2 (by rw [← e j hj]; exact hw)
    · exact hne rfl
/-- an object of exactly C is an instance of C -/
theorem cinst {p : Program} {l : Launch} {e : Env} {R : Room} {s : State} {m : MethodId} {args : Array Value} {below : List Frame} {meth : Method} {c : Code} {T : State} {locs : List Loc} {cells slots : Nat} (X : Stand p l e R s m args below meth c T locs cells slots) (hexec : p.tables.exec = Jvm.exec) {own C : String} {index : Nat} (hown : s.vm.findClass own = some m.cls) (hlink : (Cond.classLink own index C).before args s = true) {a : Addr} (hE : Exact C a T)
    {g : JFrame} (hg : g.method = m) {rest : List Value} (hstack : g.stack = .ref a :: rest) (hdg : decode c.code g.pc = .ok (.instanceof index, 3)) :
    ∃ T', Stand p l e R s m args below meth c T' locs cells slots ∧ T'.heap = T.heap ∧ ∀ target, Steps p.tables e below (T'.setTop { g with pc := g.pc + 3, stack := .int 1 :: rest }) target → Steps p.tables e below (T.setTop g) target := by
  obtain ⟨cB, h1, D, h2, h3, h4⟩ := hE
  have h1' : s.vm.findClass C = some cB := by rw [← X.warmed.alike.findClass]; exact h1
  obtain ⟨vm', X', st⟩ := X.instanceofYes hexec hown hlink h2 h4 h1' (by rw [h3]; exact Jvm.Free.SB.assignable_self _ _) hg hstack hdg
  exact ⟨_, X', rfl, st⟩
theorem cself {p : Program} {l : Launch} {e : Env} {R : Room} {s : State} {m : MethodId} {args : Array Value} {below : List Frame} {meth : Method} {c : Code} {T : State} {locs : List Loc} {cells slots : Nat} (X : Stand p l e R s m args below meth c T locs cells slots) (hexec : p.tables.exec = Jvm.exec) {own C : String} {index : Nat} (hown : s.vm.findClass own = some m.cls) (hlink : (Cond.classLink own index C).before args s = true) {a : Addr} (hE : Exact C a T)
    {g : JFrame} (hg : g.method = m) {rest : List Value} (hstack : g.stack = .ref a :: rest) (hdg : decode c.code g.pc = .ok (.checkcast index, 3)) :
    ∃ T', Stand p l e R s m args below meth c T' locs cells slots ∧ T'.heap = T.heap ∧ ∀ target, Steps p.tables e below (T'.setTop { g with pc := g.pc + 3, stack := .ref a :: rest }) target → Steps p.tables e below (T.setTop g) target := by
  obtain ⟨cB, h1, D, h2, h3, h4⟩ := hE
  have h1' : s.vm.findClass C = some cB := by rw [← X.warmed.alike.findClass]; exact h1
  obtain ⟨vm', X', st⟩ := X.checkcastYes hexec hown hlink h2 h4 h1' (by rw [h3]; exact Jvm.Free.SB.assignable_self _ _) hg hstack hdg
  exact ⟨_, X', rfl, fun t h => st t (by rw [← hstack] at h; exact h)⟩
namespace SEq
def yN : MethodName := ⟨"java/lang/String", "equals", "(Ljava/lang/Object;)Z"⟩
abbrev yB : ByteArray := jdk_42_method_66_code
theorem d0 : decode yB 0 = .ok (.aload_n 0, 1) := by decide +kernel
theorem d1 : decode yB 1 = .ok (.aload_n 1, 1) := by decide +kernel
theorem d2 : decode yB 2 = .ok (.if_acmp (.ne) 5, 3) := by decide +kernel
theorem d5 : decode yB 5 = .ok (.iconst 1, 1) := by decide +kernel
theorem d6 : decode yB 6 = .ok (.ireturn, 1) := by decide +kernel
theorem d7 : decode yB 7 = .ok (.aload_n 1, 1) := by decide +kernel
theorem d8 : decode yB 8 = .ok (.instanceof 10, 3) := by decide +kernel
theorem d11 : decode yB 11 = .ok (.ifCond (.eq) 43, 3) := by decide +kernel
theorem d14 : decode yB 14 = .ok (.aload_n 1, 1) := by decide +kernel
theorem d15 : decode yB 15 = .ok (.checkcast 10, 3) := by decide +kernel
theorem d18 : decode yB 18 = .ok (.astore_n 2, 1) := by decide +kernel
theorem d19 : decode yB 19 = .ok (.getstatic 38, 3) := by decide +kernel
theorem d22 : decode yB 22 = .ok (.ifCond (.eq) 14, 3) := by decide +kernel
theorem d25 : decode yB 25 = .ok (.aload_n 0, 1) := by decide +kernel
theorem d26 : decode yB 26 = .ok (.getfield 15, 3) := by decide +kernel
theorem d29 : decode yB 29 = .ok (.aload_n 2, 1) := by decide +kernel
theorem d30 : decode yB 30 = .ok (.getfield 15, 3) := by decide +kernel
theorem d33 : decode yB 33 = .ok (.if_icmp (.ne) 21, 3) := by decide +kernel
theorem d36 : decode yB 36 = .ok (.aload_n 0, 1) := by decide +kernel
theorem d37 : decode yB 37 = .ok (.getfield 9, 3) := by decide +kernel
theorem d40 : decode yB 40 = .ok (.aload_n 2, 1) := by decide +kernel
theorem d41 : decode yB 41 = .ok (.getfield 9, 3) := by decide +kernel
theorem d44 : decode yB 44 = .ok (.invokestatic 541, 3) := by decide +kernel
theorem d47 : decode yB 47 = .ok (.ifCond (.eq) 7, 3) := by decide +kernel
theorem d50 : decode yB 50 = .ok (.iconst 1, 1) := by decide +kernel
theorem d51 : decode yB 51 = .ok (.goto 4, 3) := by decide +kernel
theorem d54 : decode yB 54 = .ok (.iconst 0, 1) := by decide +kernel
theorem d55 : decode yB 55 = .ok (.ireturn, 1) := by decide +kernel
def site : List Cond := [.classLink "java/lang/String" 10 "java/lang/String", .fieldLink "java/lang/String" 38 "java/lang/String" "COMPACT_STRINGS" "Z", .fieldLink "java/lang/String" 15 "java/lang/String" "coder" "B", .fieldLink "java/lang/String" 9 "java/lang/String" "value" "[B", LEq.tab] ++ staticW "java/lang/String" 541 LEq.yN
def tab : Cond := tabOf yN yB 3 (some .boolean) site
def P (x t : Addr) (V : Cell) (cd : Int32) (n : Nat) (f : Nat → Int32) (y t' : Addr) (V' : Cell) (cd' : Int32) (k : Nat) (g : Nat → Int32) (z : Int32) (args : Array Value) (s : State) : Prop := args = #[.ref x, .ref y] ∧ Txt x t V cd n f s ∧ Txt y t' V' cd' k g s ∧ StaticIs s "java/lang/String" "COMPACT_STRINGS" "Z" (.int z) ∧ ¬ z = 0
/-- equals(Object) of two Strings: whether the texts are the same -/
theorem law (l : Launch) (x t : Addr) (V : Cell) (cd : Int32) (n : Nat) (f : Nat → Int32) (y t' : Addr) (V' : Cell) (cd' : Int32) (k : Nat) (g : Nat → Int32) (z : Int32) : Law l yN 2 1 1 14 yB 3 (some .boolean) site (P x t V cd n f y t' V' cd' k g z) (Says01 (SameT n f k g)) [] 0 0 := by
  refine Law.of_walk (plainFor_of_name (by decide +kernel)) (by decide +kernel) (by decide +kernel) (by decide) (fun _ _ h => by rw [h.1]; rfl) (fun _ U U' hal hh h => ⟨h.1, h.2.1.mv hal hh, h.2.2.1.mv hal hh, h.2.2.2.1.there hal hh, h.2.2.2.2⟩) (fun r U U' V V' h1 hal h2 h => Says01.mv r U U' V V' h1 hal h2 h) ?_
  intro p e s m args below meth c s₁ X0 hexec hbytes hml hret hlk hnm hown hh0 W hP
  obtain ⟨rfl, hx, hy, s1, hz⟩ := hP
  have c1 : Steps p.tables e below (s₁.setTop (entryFrame m #[.ref x, .ref y] 3)) (s₁.setTop (mkF m 2 #[.val (.ref x), .val (.ref y), .unset] [.ref y, .ref x])) := Steps.trans (entry rfl) (by
    show Steps p.tables e below (s₁.setTop (mkF m 0 #[.val (.ref x), .val (.ref y), .unset] [])) _
    refine XS.aloadN X0.here hexec rfl (hb hbytes d0) rfl rfl ?_
    refine XS.aloadN X0.here hexec rfl (hb hbytes d1) rfl rfl ?_
    exact Steps.refl _)
  by_cases hxy : x = y
  · have c2 : Steps p.tables e below (s₁.setTop (entryFrame m #[.ref x, .ref y] 3)) (s₁.setTop (mkF m 6 #[.val (.ref x), .val (.ref y), .unset] [.int 1])) := c1.trans (by
      refine acmpNo X0.here hexec rfl (hb hbytes d2) rfl rfl rfl (by simp [acmp, hxy]) ?_
      refine iconstV X0.here hexec rfl 1 (hb hbytes d5) (by decide) ?_
      exact Steps.refl _)
    subst hxy
    have ec : cd = cd' := by
      obtain ⟨D, fd, a1, a2, a3⟩ := hx.2.2.1
      obtain ⟨D', fd', b1, b2, b3⟩ := hy.2.2.1
      cases a1.symm.trans b1
      obtain ⟨q1, q2, q3, q4⟩ := a2.1
      obtain ⟨r1, r2, r3, r4⟩ := b2.1
      cases q4.symm.trans r4
      cases a3.symm.trans b3; rfl
    have et : t = t' := by
      obtain ⟨D, fd, a1, a2, a3⟩ := hx.2.1
      obtain ⟨D', fd', b1, b2, b3⟩ := hy.2.1
      cases a1.symm.trans b1
      obtain ⟨q1, q2, q3, q4⟩ := a2.1
      obtain ⟨r1, r2, r3, r4⟩ := b2.1
      cases q4.symm.trans r4
      cases a3.symm.trans b3; rfl
    subst ec et
    have ev : V = V' := by cases hx.2.2.2.1.1.symm.trans hy.2.2.2.1.1; rfl
    subst ev
    have hs : SameT n f k g := (Cod.eqv hx.2.2.2.2.1 hy.2.2.2.2.1 hx.2.2.2.2.2 hy.2.2.2.2.2).mp ⟨rfl, fun _ _ => rfl⟩
    exact ⟨s₁, some (.int 1), _, _, _, X0, rfl, rfl, rfl, (fun h => by cases h), ⟨1, rfl, hh0, Or.inl ⟨rfl, hs⟩⟩, fun fs hl => c2.trans (X0.ireturnOut hexec hret rfl (Or.inr (Or.inl rfl)) (hb hbytes d6) hl)⟩
  · have c2 : Steps p.tables e below (s₁.setTop (entryFrame m #[.ref x, .ref y] 3)) (s₁.setTop (mkF m 8 #[.val (.ref x), .val (.ref y), .unset] [.ref y])) := c1.trans (by
      refine acmpYes X0.here hexec rfl (pc0 := 2) rfl (hb hbytes d2) rfl rfl rfl (by simp [acmp, hxy]) (by decide) rfl ?_
      refine XS.aloadN X0.here hexec rfl (hb hbytes d7) rfl rfl ?_
      exact Steps.refl _)
    obtain ⟨T3, X3, q3, st3⟩ := cinst X0 hexec hown (wk W (.classLink "java/lang/String" 10 "java/lang/String")) (hy.mv X0.warmed.alike hh0).1 (g := (mkF m 8 #[.val (.ref x), .val (.ref y), .unset] [.ref y])) rfl (rest := []) rfl (hb hbytes d8)
    have hh3 := q3.trans hh0
    have c4 : Steps p.tables e below (s₁.setTop (entryFrame m #[.ref x, .ref y] 3)) (T3.setTop (mkF m 15 #[.val (.ref x), .val (.ref y), .unset] [.ref y])) := (c2.trans (st3 _ (Steps.refl _))).trans (by
      refine XS.ifNo X3.here hexec rfl (hb hbytes d11) rfl (i0_eq_f (by decide)) ?_
      refine XS.aloadN X3.here hexec rfl (hb hbytes d14) rfl rfl ?_
      exact Steps.refl _)
    obtain ⟨T5, X5, q5, st5⟩ := cself X3 hexec hown (wk W (.classLink "java/lang/String" 10 "java/lang/String")) (hy.mv X3.warmed.alike hh3).1 (g := (mkF m 15 #[.val (.ref x), .val (.ref y), .unset] [.ref y])) rfl (rest := []) rfl (hb hbytes d15)
    have hh5 := q5.trans hh3
    have c6 : Steps p.tables e below (s₁.setTop (entryFrame m #[.ref x, .ref y] 3)) (T5.setTop (mkF m 19 #[.val (.ref x), .val (.ref y), .val (.ref y)] [])) := (c4.trans (st5 _ (Steps.refl _))).trans (by
      refine XS.astoreN X5.here hexec rfl (hb hbytes d18) rfl rfl rfl ?_
      exact Steps.refl _)
    obtain ⟨T7, X7, q7, st7⟩ := X5.sget hexec hown (wk W (.fieldLink "java/lang/String" 38 "java/lang/String" "COMPACT_STRINGS" "Z")) s1 (fun _ _ h => by rw [hh5]; exact h) (g := (mkF m 19 #[.val (.ref x), .val (.ref y), .val (.ref y)] [])) rfl (hb hbytes d19)
    have hh7 := q7.trans hh5
    have c8 : Steps p.tables e below (s₁.setTop (entryFrame m #[.ref x, .ref y] 3)) (T7.setTop (mkF m 26 #[.val (.ref x), .val (.ref y), .val (.ref y)] [.ref x])) := (c6.trans (st7 _ (Steps.refl _))).trans (by
      refine XS.ifNo X7.here hexec rfl (hb hbytes d22) rfl (i0_eq_f hz) ?_
      refine XS.aloadN X7.here hexec rfl (hb hbytes d25) rfl rfl ?_
      exact Steps.refl _)
    obtain ⟨T9, X9, q9, st9⟩ := X7.hget hexec hown (wk W (.fieldLink "java/lang/String" 15 "java/lang/String" "coder" "B")) (hx.mv X7.warmed.alike hh7).2.2.1 (g := (mkF m 26 #[.val (.ref x), .val (.ref y), .val (.ref y)] [.ref x])) rfl (rest := []) rfl (hb hbytes d26)
    have hh9 := q9.trans hh7
    have c10 : Steps p.tables e below (s₁.setTop (entryFrame m #[.ref x, .ref y] 3)) (T9.setTop (mkF m 30 #[.val (.ref x), .val (.ref y), .val (.ref y)] [.ref y, .int cd])) := (c8.trans (st9 _ (Steps.refl _))).trans (by
      refine XS.aloadN X9.here hexec rfl (hb hbytes d29) rfl rfl ?_
      exact Steps.refl _)
    obtain ⟨T11, X11, q11, st11⟩ := X9.hget hexec hown (wk W (.fieldLink "java/lang/String" 15 "java/lang/String" "coder" "B")) (hy.mv X9.warmed.alike hh9).2.2.1 (g := (mkF m 30 #[.val (.ref x), .val (.ref y), .val (.ref y)] [.ref y, .int cd])) rfl (rest := [.int cd]) rfl (hb hbytes d30)
    have hh11 := q11.trans hh9
    have c12 : Steps p.tables e below (s₁.setTop (entryFrame m #[.ref x, .ref y] 3)) (T11.setTop (mkF m 33 #[.val (.ref x), .val (.ref y), .val (.ref y)] [.int cd', .int cd])) := c10.trans (st11 _ (Steps.refl _))
    by_cases hcd : cd = cd'
    · subst hcd
      have c13 : Steps p.tables e below (s₁.setTop (entryFrame m #[.ref x, .ref y] 3)) (T11.setTop (mkF m 37 #[.val (.ref x), .val (.ref y), .val (.ref y)] [.ref x])) := c12.trans (by
        refine XS.icmpNo X11.here hexec rfl (hb hbytes d33) rfl (ii_ne_f rfl) ?_
        refine XS.aloadN X11.here hexec rfl (hb hbytes d36) rfl rfl ?_
        exact Steps.refl _)
      obtain ⟨T14, X14, q14, st14⟩ := X11.hget hexec hown (wk W (.fieldLink "java/lang/String" 9 "java/lang/String" "value" "[B")) (hx.mv X11.warmed.alike hh11).2.1 (g := (mkF m 37 #[.val (.ref x), .val (.ref y), .val (.ref y)] [.ref x])) rfl (rest := []) rfl (hb hbytes d37)
      have hh14 := q14.trans hh11
      have c15 : Steps p.tables e below (s₁.setTop (entryFrame m #[.ref x, .ref y] 3)) (T14.setTop (mkF m 41 #[.val (.ref x), .val (.ref y), .val (.ref y)] [.ref y, .ref t])) := (c13.trans (st14 _ (Steps.refl _))).trans (by
        refine XS.aloadN X14.here hexec rfl (hb hbytes d40) rfl rfl ?_
        exact Steps.refl _)
      obtain ⟨T16, X16, q16, st16⟩ := X14.hget hexec hown (wk W (.fieldLink "java/lang/String" 9 "java/lang/String" "value" "[B")) (hy.mv X14.warmed.alike hh14).2.1 (g := (mkF m 41 #[.val (.ref x), .val (.ref y), .val (.ref y)] [.ref y, .ref t])) rfl (rest := [.ref t]) rfl (hb hbytes d41)
      have hh16 := q16.trans hh14
      have c17 : Steps p.tables e below (s₁.setTop (entryFrame m #[.ref x, .ref y] 3)) (T16.setTop (mkF m 44 #[.val (.ref x), .val (.ref y), .val (.ref y)] [.ref t', .ref t])) := c15.trans (st16 _ (Steps.refl _))
      obtain ⟨v18, T18, X18, E18, g18⟩ := X16.callS hexec (LEq.law l t V t' V') hown (wks W (staticW "java/lang/String" 541 LEq.yN)) (wk W LEq.tab) (W := 0) (Nat.le_of_ble_eq_true rfl) (Nat.le_of_ble_eq_true rfl) (Nat.le_refl _) (Nat.le_refl _) (g := (mkF m 44 #[.val (.ref x), .val (.ref y), .val (.ref y)] [.ref t', .ref t])) rfl (by rw [hml]; rfl) c17 (argsL := [.ref t, .ref t']) (rest := []) rfl rfl (by show 2 * 0 + 0 ≤ _; decide) (hb hbytes d44) (⟨rfl, hx.2.2.2.1.mv X16.warmed.alike hh16, hx.2.2.2.2.1.ty, hy.2.2.2.1.mv X16.warmed.alike hh16, hy.2.2.2.2.1.ty⟩)
      obtain ⟨v, rfl, q18, hv⟩ := E18
      have iff := Cod.eqv hx.2.2.2.2.1 hy.2.2.2.2.1 hx.2.2.2.2.2 hy.2.2.2.2.2
      rcases hv with ⟨rfl, he⟩ | ⟨rfl, he⟩
      · have c19 : Steps p.tables e below (s₁.setTop (entryFrame m #[.ref x, .ref y] 3)) (T18.setTop (mkF m 55 #[.val (.ref x), .val (.ref y), .val (.ref y)] [.int 1])) := Steps.trans g18 (by
          refine XS.ifNo X18.here hexec rfl (hb hbytes d47) rfl (i0_eq_f (by decide)) ?_
          refine iconstV X18.here hexec rfl 1 (hb hbytes d50) (by decide) ?_
          refine XS.goto X18.here hexec rfl (pc0 := 51) rfl (hb hbytes d51) (by decide) rfl ?_
          exact Steps.refl _)
        exact ⟨T18, some (.int 1), _, _, _, X18, rfl, rfl, rfl, (fun h => by cases h), ⟨1, rfl, q18.trans hh16, Or.inl ⟨rfl, iff.mp he⟩⟩, fun fs hl => c19.trans (X18.ireturnOut hexec hret rfl (Or.inr (Or.inl rfl)) (hb hbytes d55) hl)⟩
      · have c19 : Steps p.tables e below (s₁.setTop (entryFrame m #[.ref x, .ref y] 3)) (T18.setTop (mkF m 55 #[.val (.ref x), .val (.ref y), .val (.ref y)] [.int 0])) := Steps.trans g18 (by
          refine XS.ifYes X18.here hexec rfl (pc0 := 47) rfl (hb hbytes d47) rfl (i0_eq_t rfl) (by decide) rfl ?_
          refine iconstV X18.here hexec rfl 0 (hb hbytes d54) (by decide) ?_
          exact Steps.refl _)
        exact ⟨T18, some (.int 0), _, _, _, X18, rfl, rfl, rfl, (fun h => by cases h), ⟨0, rfl, q18.trans hh16, Or.inr ⟨rfl, fun q => he (iff.mpr q)⟩⟩, fun fs hl => c19.trans (X18.ireturnOut hexec hret rfl (Or.inr (Or.inl rfl)) (hb hbytes d55) hl)⟩
    · have c13 : Steps p.tables e below (s₁.setTop (entryFrame m #[.ref x, .ref y] 3)) (T11.setTop (mkF m 55 #[.val (.ref x), .val (.ref y), .val (.ref y)] [.int 0])) := c12.trans (by
        refine XS.icmpYes X11.here hexec rfl (pc0 := 33) rfl (hb hbytes d33) rfl (ii_ne_t hcd) (by decide) rfl ?_
        refine iconstV X11.here hexec rfl 0 (hb hbytes d54) (by decide) ?_
        exact Steps.refl _)
      exact ⟨T11, some (.int 0), _, _, _, X11, rfl, rfl, rfl, (fun h => by cases h), ⟨0, rfl, hh11, Or.inr ⟨rfl, Cod.dif hx.2.2.2.2.1 hy.2.2.2.2.1 hcd⟩⟩, fun fs hl => c13.trans (X11.ireturnOut hexec hret rfl (Or.inr (Or.inl rfl)) (hb hbytes d55) hl)⟩
theorem pays {l : Launch} {R : Room} {p : Program} {e : Env} {below : List Frame} {s : State} {sargs : Array Value} {len W : Nat} (x t : Addr) (V : Cell) (cd : Int32) (n : Nat) (f : Nat → Int32) (y t' : Addr) (V' : Cell) (cd' : Int32) (k : Nat) (g : Nat → Int32) (z : Int32) (htab : tab.before sargs s = true) (hfr : 2 ≤ R.frames) (hlo : W + 28 ≤ R.locals) :
    Back l R p e below s sargs yN len W (fun A₁ a₁ => A₁.cells + 0 ≤ R.cells ∧ A₁.slots + 0 ≤ R.slots ∧ P x t V cd n f y t' V' cd' k g z a₁ A₁.U) (fun A₁ _ v₁ B₁ => Says01 (SameT n f k g) v₁ A₁.U B₁.U ∧ B₁.locs = A₁.locs ++ [] ∧ B₁.cells = A₁.cells + 0 ∧ B₁.slots = A₁.slots + 0) :=
  (law l x t V cd n f y t' V' cd' k g z).pays htab hfr (by omega)
end SEq
end StrChars
namespace StrChars.Road
open Jvm Sem ClassFile Op Lib Jvm.Stand Jvm.Free Jvm.Free.XT
open Jvm.Lib.Cold (StaticIs)
/-- the words of String.equals(Object) -/
abbrev wordsEq : List Jvm.Cond := [.code SEq.yN SEq.yB 3 (some .boolean), .initialized ST, .classLink ST 10 ST, .fieldLink ST 38 ST "COMPACT_STRINGS" "Z", .fieldLink ST 15 ST "coder" "B", .fieldLink ST 9 ST "value" "[B", .methodLink ST 541 LEq.yN, .static LEq.yN, .code LEq.yN LEq.yB 3 (some .boolean), .initialized "java/lang/StringLatin1"]
theorem tabEq_of {a : Array Value} {s : State} (h : ∀ w ∈ wordsEq, w.before a s = true) : SEq.tab.before a s = true := by
  have hl : LEq.tab.before a s = true := unparts (wk h (.code LEq.yN LEq.yB 3 (some .boolean))) (wks h (.initialized LEq.yN.cls :: LEq.site))
  have q := consq hl h
  exact unparts (wk q (.code SEq.yN SEq.yB 3 (some .boolean))) (wks q (.initialized SEq.yN.cls :: SEq.site))
theorem movedEq {Z s : State} {a0 args : Array Value} (hZ : Z.Warmed39 s.vm) (hw : ∀ d ∈ wordsEq, d.before a0 Z = true) : ∀ d ∈ wordsEq, d.before args s = true := fun d hd => by
  have t : ∀ d ∈ wordsEq, (d.onTables && d.keepsFace) = true := by decide +kernel
  exact RoadKit.mv hZ (hw d hd) (t d hd)
/-- the road's facts of a String, as the laws ask it -/
theorem txt_of {Z U : State} {a0 : Array Value} {kI : Nat} (wi : (Jvm.Cond.instantiable ST kI).before a0 Z = true) (al : Z.vm.Alike U.vm) {x t : Addr} {kb : ClassId} {cs : List Int32} {cd N2 : Int32} {vs : List Value} (E : RoadKit.Exa Z U.heap x ST) (V : RoadKit.Fld Z U.heap x ST "value" "[B" (.ref t)) (C : RoadKit.Fld Z U.heap x ST "coder" "B" (.int cd)) (K : RoadKit.Arv Z U.heap t kb .byte N2 vs (.int 0)) (hc : CodA cs cd N2 vs) (hb : ∀ c ∈ cs, ¬ c < 0 ∧ ¬ (65535 : Int32) < c) (l2 : cs.length ≤ 4000) :
    ∃ A, Txt x t A cd cs.length (fun j => cs.getD j 0) U := by
  obtain ⟨A, K1, K2, K3, K4, K5, K6⟩ := K
  have hcod := hc.cod (by omega) K3 K5
  obtain ⟨D, fV, fC, hB, F1, F2, g1, g2, -, -⟩ := strObj wi al E V C
  exact ⟨A, ⟨_, hB.2.2.1, D, hB.1, rfl, by cases q : D.vm <;> first | rfl | exact absurd q (hB.2.1.2 _)⟩, Has.of hB F1 g1, Has.of hB F2 g2, ⟨K1.1, State.isArrayOf_alike al K1.2.1, K1.2.2, by rcases hcod with ⟨-, q, -⟩ | ⟨-, q, -⟩ <;> omega⟩, hcod, fun j hj => by
    have e : cs.getD j 0 = cs[j] := by simp [List.getD_eq_getElem?_getD, hj]
    show ¬ cs.getD j 0 < 0 ∧ ¬ 65535 < cs.getD j 0
    rw [e]; exact hb _ (List.getElem_mem _)⟩
theorem same_list (cs ds : List Int32) : SameT cs.length (fun j => cs.getD j 0) ds.length (fun j => ds.getD j 0) ↔ cs = ds := by
  constructor
  · rintro ⟨e, q⟩
    refine List.ext_getElem e fun j h1 h2 => ?_
    have := q j h1
    simpa [List.getD_eq_getElem?_getD, h1, h2] using this
  · rintro rfl
    exact ⟨rfl, fun _ _ => rfl⟩
/-- **equals(Object) OF TWO SUCH STRINGS**: 1 just where the chars are the same -/
theorem eqW {p : Program} {l : Launch} {e : Env} {R : Room} {s : State} {args : Array Value} {below : List Frame} {len W : Nat} {Z : State} {a0 : Array Value} {h : Heap} (hZ : Z.Warmed39 s.vm) (hw : ∀ d ∈ wordsEq, d.before a0 Z = true) {kI : Nat} (wi : (Jvm.Cond.instantiable ST kI).before a0 Z = true)
    {x t : Addr} {kb : ClassId} {cs : List Int32} {cd N2 : Int32} {vs : List Value} (E : RoadKit.Exa Z h x ST) (V : RoadKit.Fld Z h x ST "value" "[B" (.ref t)) (C : RoadKit.Fld Z h x ST "coder" "B" (.int cd)) (K : RoadKit.Arv Z h t kb .byte N2 vs (.int 0)) (hc : CodA cs cd N2 vs) (hb : ∀ c ∈ cs, ¬ c < 0 ∧ ¬ (65535 : Int32) < c) (l2 : cs.length ≤ 4000)
    {y t' : Addr} {kb' : ClassId} {ds : List Int32} {cd' N2' : Int32} {vs' : List Value} (E' : RoadKit.Exa Z h y ST) (V' : RoadKit.Fld Z h y ST "value" "[B" (.ref t')) (C' : RoadKit.Fld Z h y ST "coder" "B" (.int cd')) (K' : RoadKit.Arv Z h t' kb' .byte N2' vs' (.int 0)) (hc' : CodA ds cd' N2' vs') (hb' : ∀ c ∈ ds, ¬ c < 0 ∧ ¬ (65535 : Int32) < c) (l2' : ds.length ≤ 4000)
    {z : Int32} (S : RoadKit.Sta Z h ST "COMPACT_STRINGS" "Z" (.int z)) (hz : ¬ z = 0) (hfr : 2 ≤ R.frames) (hlo : W + 28 ≤ R.locals) :
    Back l R p e below s args (⟨"java/lang/String", "equals", "(Ljava/lang/Object;)Z"⟩ : MethodName) len W (fun P a => a = #[.ref x, .ref y] ∧ P.U.heap = h ∧ P.cells + 0 ≤ R.cells ∧ P.slots + 0 ≤ R.slots)
      (fun P _ v B => ∃ L, (((v = some (.int 1) ∧ cs = ds) ∨ (v = some (.int 0) ∧ ¬ cs = ds)) ∧ L = [] ∧ B.U.heap = h) ∧ B.locs = P.locs ++ L ∧ B.cells = P.cells + 0 ∧ B.slots = P.slots + 0) := by
  intro m meth c P g ig mk a X hg hsize hdg hW hn hp'
  obtain ⟨rfl, rfl, r1, r2⟩ := hp'
  have al : Z.vm.Alike P.U.vm := hZ.alike.trans X.warmed.alike
  obtain ⟨A, hx⟩ := txt_of wi al E V C K hc hb l2
  obtain ⟨A', hy⟩ := txt_of wi al E' V' C' K' hc' hb' l2'
  obtain ⟨v, B, X', ⟨⟨w, hv, hh, hq⟩, hl, hk, hs⟩, st⟩ := SEq.pays x t A cd cs.length (fun j => cs.getD j 0) y t' A' cd' ds.length (fun j => ds.getD j 0) z (tabEq_of (movedEq hZ hw)) hfr hlo m meth c P g ig mk _ X hg hsize hdg hW hn ⟨r1, r2, rfl, hx, hy, sta_is al S, hz⟩
  refine ⟨v, B, X', ⟨[], ⟨?_, rfl, hh⟩, hl, hk, hs⟩, st⟩
  rcases hq with ⟨rfl, q⟩ | ⟨rfl, q⟩
  · exact Or.inl ⟨hv, (same_list cs ds).mp q⟩
  · exact Or.inr ⟨hv, fun e => q ((same_list cs ds).mpr e)⟩
end StrChars.Road
namespace StrChars.Road
open Jvm Sem ClassFile Op Lib Jvm.Stand Jvm.Free Jvm.Free.XT
open Jvm.Lib.Cold (StaticIs)
/-- what backV says of its String, as the contracts of this text ask it: cs's low bytes, coder 0 -/
theorem codOf {cs : List Int32} {n : Nat} (hn : cs.length = n) (hb : ∀ c ∈ cs, ¬ 255 < c) : CodA cs 0 (Int32.ofNat n) ((cs.map lo8).map Value.int) := Or.inl ⟨rfl, by rw [hn], by simp [List.map_map, Function.comp_def], hb⟩
end StrChars.Road
end Jvm.Pilot.@@N@@
namespace Jvm.Pilot.@@N@@
open Jvm Jvm.ClassFile Sem Op Lib Jvm.Free Jvm.Stand Jvm.LawKit Jvm.RoadKit Bundle Jvm.Pilot.@@N@@.Jvm.D
abbrev CL : List (String × Nat) := consts_1
/-! OWN KIT: a forward form of the walk (Rc: the run has come to pc with these locals, this stack and this heap), over the library's Stand. -/
section OwnKit
open Jvm.Free.SB Jvm.Free.SBG
def Sx (Z : State) (h : Heap) (Ds : List Addr) (a : Addr) (units : Array UInt16) : Prop :=
  ∃ (q : SQ) (cS : ClassId), q.sa = a ∧ Sl q cS ({ Z with heap := h } : State) ∧ (∃ kS : Class, Z.vm.classes[cS]? = some kS ∧ kS.kind = .ordinary ∧ q.sC.slots.size = kS.instanceTypes.size) ∧ Z.vm.findClass "[B" = some q.SA.cls ∧ q.SA.slots = stringBytes units ∧ q.sa ∉ Ds ∧ q.sd ∉ Ds
theorem own_al (Z : State) : Z.vm.Alike Z.vm := (State.Warmed39.refl Z).alike
theorem Sx.keep {Z : State} {h h' : Heap} {Ds ws : List Addr} {a : Addr} {u : Array UInt16} (F : Sx Z h Ds a u) (K : Keep h h' ws) (q : ∀ x ∈ ws, x ∈ Ds) : Sx Z h' Ds a u := by
  obtain ⟨s, cS, h1, h2, h3, h4, h5, h6, h7⟩ := F
  exact ⟨s, cS, h1, Sl.carry (U := ({ Z with heap := h } : State)) (U' := ({ Z with heap := h' } : State)) (own_al Z) (K.2.1 _ _ h2.1.1 (fun m => h6 (q _ m))) (K.2.1 _ _ h2.1.2.2.2.2.2.2.2.2.2.1 (fun m => h7 (q _ m))) h2, h3, h4, h5, h6, h7⟩
theorem Sx.less {Z : State} {h : Heap} {Ds Ds' : List Addr} {a : Addr} {u : Array UInt16} (F : Sx Z h Ds a u) (q : ∀ x ∈ Ds', x ∈ Ds) : Sx Z h Ds' a u := by
  obtain ⟨s, cS, h1, h2, h3, h4, h5, h6, h7⟩ := F
  exact ⟨s, cS, h1, h2, h3, h4, h5, fun m => h6 (q _ m), fun m => h7 (q _ m)⟩
theorem Sx.more {Z : State} {h : Heap} {Ds : List Addr} {a b : Addr} {u : Array UInt16} (F : Sx Z h Ds a u) (hb : h.size ≤ b) : Sx Z h (b :: Ds) a u := by
  obtain ⟨s, cS, h1, h2, h3, h4, h5, h6, h7⟩ := F
  have l1 : s.sa < h.size := (Array.getElem?_eq_some_iff.mp h2.1.1).1
  have l2 : s.sd < h.size := (Array.getElem?_eq_some_iff.mp h2.1.2.2.2.2.2.2.2.2.2.1).1
  refine ⟨s, cS, h1, h2, h3, h4, h5, fun m => ?_, fun m => ?_⟩
  · rcases List.mem_cons.mp m with e | e
    · exact absurd e (Nat.ne_of_lt (Nat.lt_of_lt_of_le l1 hb))
    · exact h6 e
  · rcases List.mem_cons.mp m with e | e
    · exact absurd e (Nat.ne_of_lt (Nat.lt_of_lt_of_le l2 hb))
    · exact h7 e
def Lk (Z : State) : Prop := ∀ (own : String) (idx : Nat), (own, idx) ∈ CL → ∃ (a0 : Array Value) (text : String), (Jvm.Cond.stringLink own idx text).before a0 Z = true ∧ (∀ c ∈ text.toList, c.toNat < 256) ∧ ∀ d ∈ Bundle.stringAtoms, d.before a0 Z = true
def JJ (Z : State) (n0 : Nat) (vm : Vm) (h : Heap) (Ds : List Addr) : Prop :=
  Old Z n0 h ∧ (CL = [] → Z.WarmedH vm) ∧ (∀ x ∈ Ds, n0 ≤ x ∧ x < h.size) ∧ Lk Z ∧
    ∀ (own : String) (idx : Nat), (own, idx) ∈ CL → ∀ (c : ClassId) (k : Class) (cf : ClassFile) (i : Nat) (units : Array UInt16) (a : Addr), vm.findClass own = some c → vm.classes[c]? = some k → k.cf = some cf →
      cf.constantPool[idx]? = some (.string i) → cf.constantPool[i]? = some (.utf8 units) →
      (k.resolved[idx]? = some (some (.string a)) ∨ (k.resolved[idx]? = some none ∧ vm.interned.find? (fun p => p.1 == units) = some (units, a))) → Sx Z h Ds a units
theorem JJ.keep {Z : State} {n0 : Nat} {vm : Vm} {h h' : Heap} {Ds ws : List Addr} (J : JJ Z n0 vm h Ds) (K : Keep h h' ws) (q : ∀ x ∈ ws, x ∈ Ds) : JJ Z n0 vm h' Ds :=
  ⟨J.1.keep K (fun x hx => (J.2.2.1 x (q x hx)).1), J.2.1, fun x hx => ⟨(J.2.2.1 x hx).1, Nat.lt_of_lt_of_le (J.2.2.1 x hx).2 K.1⟩, J.2.2.2.1, fun o i hm c k cf j u a q1 q2 q3 q4 q5 q6 => (J.2.2.2.2 o i hm c k cf j u a q1 q2 q3 q4 q5 q6).keep K q⟩
theorem JJ.ext {Z : State} {n0 : Nat} {vm : Vm} {h h' : Heap} {Ds : List Addr} (J : JJ Z n0 vm h Ds) (E : Ext h h') : JJ Z n0 vm h' Ds := J.keep ((Keep.refl h []).ext E) (fun x hx => nomatch hx)
theorem JJ.less {Z : State} {n0 : Nat} {vm : Vm} {h : Heap} {Ds Ds' : List Addr} (J : JJ Z n0 vm h Ds) (q : ∀ x ∈ Ds', x ∈ Ds) : JJ Z n0 vm h Ds' :=
  ⟨J.1, J.2.1, fun x hx => J.2.2.1 x (q x hx), J.2.2.2.1, fun o i hm c k cf j u a q1 q2 q3 q4 q5 q6 => (J.2.2.2.2 o i hm c k cf j u a q1 q2 q3 q4 q5 q6).less q⟩
theorem own_n0 {Z : State} {n0 : Nat} {h : Heap} (X : Old Z n0 h) : n0 ≤ h.size := X.1 ▸ X.2.1
theorem JJ.born {Z : State} {n0 : Nat} {vm : Vm} {h h' : Heap} {Ds : List Addr} (J : JJ Z n0 vm h Ds) (E : Ext h h') (hb : h.size < h'.size) : JJ Z n0 vm h' (h.size :: Ds) := by
  refine ⟨J.1.ext E, J.2.1, fun x hx => ?_, J.2.2.2.1, fun o i hm c k cf j u a q1 q2 q3 q4 q5 q6 => ((J.2.2.2.2 o i hm c k cf j u a q1 q2 q3 q4 q5 q6).more (Nat.le_refl _)).keep ((Keep.refl h []).ext E) (fun x hx => nomatch hx)⟩
  rcases List.mem_cons.mp hx with e | e
  · subst e; exact ⟨own_n0 J.1, hb⟩
  · exact ⟨(J.2.2.1 x e).1, Nat.lt_of_lt_of_le (J.2.2.1 x e).2 E.1⟩
theorem JJ.step {Z t : State} {n0 : Nat} {vm' : Vm} {h : Heap} {Ds : List Addr} (J : JJ Z n0 t.vm h Ds) (hZ : Z.Warmed39 t.vm) (hW : t.Warmed39 vm')
    (hint : vm'.interned = t.vm.interned ∨ ∃ (u : Array UInt16) (a' : Addr), vm'.interned = t.vm.interned.push (u, a') ∧ (t.vm.interned.find? (fun p => p.1 == u) = none → Sx Z h Ds a' u)) (hcl : CL = [] → Z.WarmedH vm') : JJ Z n0 vm' h Ds := by
  refine ⟨J.1, hcl, J.2.2.1, J.2.2.2.1, fun own idx hm c k' cf i units a hc' hk' hcf' hp hu hor => ?_⟩
  obtain ⟨a0, text, w, hlat, -⟩ := J.2.2.2.1 own idx hm
  have hal : t.vm.Alike vm' := hW.alike
  have hc : t.vm.findClass own = some c := by rw [← hal.findClass]; exact hc'
  have wt : (Jvm.Cond.stringLink own idx text).before a0 t = true := mvS (s := t) (vm0 := t.vm) hZ w
  obtain ⟨k, cf0, i0, units0, hk, hcf, hp0, hu0, hnm, htext, -⟩ := Cond.stringLink_spec hc wt
  obtain ⟨k'', hk'', hke, -, ee, -⟩ := hW.2.2.2 c k hk
  cases hk'.symm.trans hk''
  have hcfk : k'.cf = k.cf := by rw [hke]
  cases (hcfk ▸ hcf').symm.trans hcf
  cases hp.symm.trans hp0
  cases hu.symm.trans hu0
  have base := fun a => J.2.2.2.2 own idx hm c k cf i units a hc hk hcf hp hu
  have hfind : ∀ a, vm'.interned.find? (fun p => p.1 == units) = some (units, a) → k.resolved[idx]? = some none → Sx Z h Ds a units := by
    intro a hf hop
    rcases hint with e | ⟨u, a', e, hS⟩
    · rw [e] at hf; exact base a (Or.inr ⟨hop, hf⟩)
    · rw [e, Array.find?_push] at hf
      cases hs : t.vm.interned.find? (fun p => p.1 == units) with
      | some pr =>
        rw [hs] at hf
        have hpr : pr = (units, a) := by simpa using hf
        exact base a (Or.inr ⟨hop, by rw [hs, hpr]⟩)
      | none =>
        rw [hs, Option.none_or] at hf
        by_cases hb : (u == units) = true
        · have hu' : u = units := by simpa using hb
          subst hu'
          have : a' = a := by simpa using hf
          subst this
          exact hS hs
        · simp [hb] at hf
  rcases ee idx with e0 | ⟨hop, r, e1, hr | ⟨a3, t', si, us, rfl, -, q3, q4, q5⟩⟩
  · rcases hor with h0 | ⟨h0, hf⟩
    · exact base a (Or.inl (e0 ▸ h0))
    · exact hfind a hf (e0 ▸ h0)
  · exfalso
    cases r <;> simp [State.rightAt, hk, hcf, hnm] at hr
  · rw [hcf] at q3 q4
    have e3 : si = i := by
      have := q3.symm.trans hp
      simpa using this
    subst e3
    have e4 : us = units := by simpa [ConstantPool.utf8?, hu] using q4.symm
    subst e4
    rcases hor with h0 | ⟨h0, -⟩
    · have ea : a3 = a := by have := e1.symm.trans h0; simpa using this
      subst ea
      exact hfind a3 q5 hop
    · have := e1.symm.trans h0; simp at this
theorem JJ.warm {Z t : State} {n0 : Nat} {vm' : Vm} {h : Heap} {Ds : List Addr} (J : JJ Z n0 t.vm h Ds) (hZ : Z.Warmed39 t.vm) (hW : t.WarmedH vm') : JJ Z n0 vm' h Ds :=
  J.step hZ hW.wide (Or.inl hW.interned_eq) (fun e => State.WarmedH.trans (J.2.1 e) hW)
abbrev Cx : Type := Program × Launch × Env × State × MethodId × Array Value × List Frame × Method × Code × State
abbrev Cx.p (C : Cx) : Program := C.1
abbrev Cx.l (C : Cx) : Launch := C.2.1
abbrev Cx.e (C : Cx) : Env := C.2.2.1
abbrev Cx.s (C : Cx) : State := C.2.2.2.1
abbrev Cx.m (C : Cx) : MethodId := C.2.2.2.2.1
abbrev Cx.args (C : Cx) : Array Value := C.2.2.2.2.2.1
abbrev Cx.below (C : Cx) : List Frame := C.2.2.2.2.2.2.1
abbrev Cx.meth (C : Cx) : Method := C.2.2.2.2.2.2.2.1
abbrev Cx.c (C : Cx) : Code := C.2.2.2.2.2.2.2.2.1
abbrev Cx.s0 (C : Cx) : State := C.2.2.2.2.2.2.2.2.2
/-- the run has come to pc -/
def Rc (C : Cx) (R : Room) (own : String) (bs : ByteArray) (ml : Nat) (Z : State) (n0 ce sl pc : Nat) (Ls : Array Slot) (S : List Value) (h : Heap) (Ds : List Addr) : Prop :=
  ∃ (T : State) (locs : List Loc) (vm0 : Vm) (k0 : Nat), Stand C.p C.l C.e R (C.s.setVm vm0) C.m C.args C.below C.meth C.c T locs ce sl ∧ C.s.Since vm0 k0 ∧ k0 ≤ h.size ∧ Z.Warmed39 vm0 ∧ JJ Z n0 vm0 h Ds ∧ T.heap = h ∧ Fr n0 locs ∧
    (C.p.tables.exec = Jvm.exec ∧ C.c.code = bs ∧ C.c.maxLocals = ml ∧ vm0.findClass own = some C.m.cls ∧ C.meth.locks = false) ∧
    ∀ t, Steps C.p.tables C.e C.below (T.setTop (mkF C.m pc Ls S)) t → Steps C.p.tables C.e C.below C.s0 t
/-- the invocation has ended -/
def Done (C : Cx) (Z : State) (n0 : Nat) (Q : Option Value → Heap → List Addr → Prop) (kc ks : Nat) : Prop :=
  ∃ (t : State) (o : Outcome), Steps C.p.tables C.e C.below C.s0 t ∧ t.status = .running ∧ Ended t C.below o ∧ ∃ (v : Option Value) (L : List Loc) (Ds : List Addr), o = .returned v ∧ Q v t.heap Ds ∧ JJ Z n0 t.vm t.heap Ds ∧ Fr n0 L ∧ ReturnedEndW C.s o t L kc ks
/-- a contract -/
def Ctr (l : Launch) (Z : State) (y : MethodName) (bytes : ByteArray) (maxL : Nat) (ret : Option FieldType) (ws : List Jvm.Cond) (rm : Room) (as' : Array Value) (h : Heap) (n0 : Nat) (Ds : List Addr) (Q : Option Value → Heap → List Addr → Prop) : Prop :=
  MetFree l y (head1 (Jvm.Cond.code y bytes maxL ret :: ws) rm) (fun a U => a = as' ∧ Z.Warmed39 U.vm ∧ U.heap = h ∧ JJ Z n0 U.vm h Ds) (fun _ _ _ _ _ => True)
    (fun _ U o U' => ∃ (v : Option Value) (L : List Loc) (Ds' : List Addr), o = .returned v ∧ Q v U'.heap Ds' ∧ JJ Z n0 U'.vm U'.heap Ds' ∧ Fr n0 L ∧ ReturnedEndW U o U' L rm.cells rm.slots)
theorem ctr_of {l : Launch} {Z : State} {y : MethodName} {bytes : ByteArray} {maxL : Nat} {ret : Option FieldType} {ws : List Jvm.Cond} {rm : Room} {as' : Array Value} {h : Heap} {n0 : Nat} {Ds : List Addr} {Q : Option Value → Heap → List Addr → Prop} {Ls : Array Slot}
    (pf : plainFor y = true) (ef : ∀ m : MethodId, entryFrame m as' maxL = mkF m 0 Ls [])
    (wk : ∀ C : Cx, C.l = l → C.meth.sig.returnType = ret → C.meth.name = y.name → Rc C rm y.cls bytes maxL Z n0 0 0 0 Ls [] h Ds → Done C Z n0 Q rm.cells rm.slots) : Ctr l Z y bytes maxL ret ws rm as' h n0 Ds Q := by
  refine MetFree.of_bodySF pf hisR ?_
  intro p e s m args below meth c s₁ Bd hml0 hP hK
  obtain ⟨rfl, hZ, hh, hJ⟩ := hP
  have X0 : Stand p l e rm s m args below meth c s₁ [] 0 0 := Stand.of_body Bd
  have e0 : s₁.heap = h := by rw [← hh, Bd.state]; rfl
  have hown : s.vm.findClass y.cls = some m.cls := findClass_of_methodNamed Bd.named
  have hnm := (name_of_methodNamed Bd.named Bd.method).1
  have hlk : meth.locks = false := BodyLoose.notSynchronized Bd
  exact wk (p, l, e, s, m, args, below, meth, c, s₁.setTop (entryFrame m args maxL)) rfl Bd.returns hnm
    ⟨s₁, [], s.vm, 0, X0, (State.WarmedH.refl s).since 0, Nat.zero_le _, hZ, hJ, e0, Fr.nil n0, ⟨Bd.exec, Bd.bytes, hml0, hown, hlk⟩, fun t k => castTop (ef m) k⟩
theorem ctrBack {l : Launch} {R : Room} {p : Program} {e : Env} {below : List Frame} {s : State} {args : Array Value} {Z : State} {a0 : Array Value} {h : Heap} {n0 : Nat} {Ds : List Addr} {y : MethodName} {bytes : ByteArray} {maxL : Nat} {ret : Option FieldType} {rm : Room} {len W : Nat} {as' : Array Value} {Q : Option Value → Heap → List Addr → Prop}
    (hM : Ctr l Z y bytes maxL ret [] rm as' h n0 Ds Q) (hZ : Z.Warmed39 s.vm) (hJ : JJ Z n0 s.vm h Ds) (wc : (Jvm.Cond.code y bytes maxL ret).before a0 Z = true) (wz : (Jvm.Cond.initialized y.cls).before a0 Z = true) (hf : rm.frames + 1 ≤ R.frames) (hl : W + (maxL + 11) + rm.locals ≤ R.locals) :
    BackS l R p e below s args y len W (fun A a => a = as' ∧ A.U.heap = h ∧ A.cells + rm.cells ≤ R.cells ∧ A.slots + rm.slots ≤ R.slots)
      (fun A _ v B => ∃ (L : List Loc) (Ds' : List Addr), Q v B.U.heap Ds' ∧ JJ Z n0 B.U.vm B.U.heap Ds' ∧ Fr n0 L ∧ B.locs = A.locs ++ L ∧ B.cells = A.cells + rm.cells ∧ B.slots = A.slots + rm.slots) :=
  BackS.of_freeW (bytes := bytes) (maxL := maxL) (ret := ret) (E := fun _ _ o t L k n => k = rm.cells ∧ n = rm.slots ∧ ∃ (v : Option Value) (Ds' : List Addr), o = .returned v ∧ Q v t.heap Ds' ∧ JJ Z n0 t.vm t.heap Ds' ∧ Fr n0 L) hM hf hl
    (fun m meth c A a Y hp => have hU : Z.Warmed39 A.U.vm := wtrans hZ Y.warmed
      ⟨by show (Jvm.Cond.and _ .tt).before a A.U = true; rw [Cond.before_and, mv hU wc]; rfl, mv hU wc, mv hU wz, hp.2.2.1, hp.2.2.2⟩)
    (fun m meth c A a g mk Y hp => ⟨hp.1, wtrans hZ Y.warmed, hp.2.1, hJ.warm hZ Y.warmed⟩) (fun _ _ _ _ _ _ _ _ _ => trivial)
    (fun _ _ _ _ ⟨v, L, Ds', h1, h2, h3, h4, h5⟩ => ⟨L, _, _, h5, rfl, rfl, v, Ds', h1, h2, h3, h4⟩)
    (fun m meth c A a g mk v t L k n Y hp _ _ ⟨e1, e2, v', Ds', e3, e4, e5, e6⟩ => by cases e3; subst e1 e2; exact ⟨L, Ds', e4, e5, e6, rfl, rfl, rfl⟩)
variable {C : Cx} {R : Room} {own : String} {bs : ByteArray} {ml : Nat} {Z : State} {n0 ce sl pc : Nat} {Ls : Array Slot} {S rest : List Value} {h : Heap} {Ds : List Addr} {a0 : Array Value}
theorem Rc.go {pc' : Nat} {Ls' : Array Slot} {S' : List Value} (H : Rc C R own bs ml Z n0 ce sl pc Ls S h Ds) (f : ∀ T t, At T C.m C.c C.below → C.p.tables.exec = Jvm.exec → C.c.code = bs → Steps C.p.tables C.e C.below (T.setTop (mkF C.m pc' Ls' S')) t → Steps C.p.tables C.e C.below (T.setTop (mkF C.m pc Ls S)) t) : Rc C R own bs ml Z n0 ce sl pc' Ls' S' h Ds := by
  obtain ⟨T, locs, vm0, k0, X, h1, h2, h3, h4, h5, h6, h7, k⟩ := H
  exact ⟨T, locs, vm0, k0, X, h1, h2, h3, h4, h5, h6, h7, fun t ht => k _ (f T t X.here h7.1 h7.2.1 ht)⟩
theorem Rc.goX {pc' : Nat} {Ls' : Array Slot} {S' : List Value} (H : Rc C R own bs ml Z n0 ce sl pc Ls S h Ds) (f : ∀ (s : State) (T : State) (locs : List Loc) t, Stand C.p C.l C.e R s C.m C.args C.below C.meth C.c T locs ce sl → Z.Warmed39 s.vm → s.vm.findClass own = some C.m.cls → T.heap = h → C.p.tables.exec = Jvm.exec → C.c.code = bs → Steps C.p.tables C.e C.below (T.setTop (mkF C.m pc' Ls' S')) t → Steps C.p.tables C.e C.below (T.setTop (mkF C.m pc Ls S)) t) : Rc C R own bs ml Z n0 ce sl pc' Ls' S' h Ds := by
  obtain ⟨T, locs, vm0, k0, X, h1, h2, h3, h4, h5, h6, h7, k⟩ := H
  exact ⟨T, locs, vm0, k0, X, h1, h2, h3, h4, h5, h6, h7, fun t ht => k _ (f _ T locs t X h3 h7.2.2.2.1 h5 h7.1 h7.2.1 ht)⟩
theorem Rc.stk {S' : List Value} (H : Rc C R own bs ml Z n0 ce sl pc Ls S h Ds) (e : S = S') : Rc C R own bs ml Z n0 ce sl pc Ls S' h Ds := e ▸ H
theorem Rc.loc {Ls' : Array Slot} (H : Rc C R own bs ml Z n0 ce sl pc Ls S h Ds) (e : Ls = Ls') : Rc C R own bs ml Z n0 ce sl pc Ls' S h Ds := e ▸ H
theorem Rc.old (H : Rc C R own bs ml Z n0 ce sl pc Ls S h Ds) : Old Z n0 h := by
  obtain ⟨T, locs, vm0, k0, X, h1, h2, h3, h4, h5, h6, h7, k⟩ := H
  exact h4.1
theorem Rc.mem (H : Rc C R own bs ml Z n0 ce sl pc Ls S h Ds) {x : Addr} (hx : x ∈ Ds) : n0 ≤ x ∧ x < h.size := by
  obtain ⟨T, locs, vm0, k0, X, h1, h2, h3, h4, h5, h6, h7, k⟩ := H
  exact h4.2.2.1 x hx
theorem Rc.mono {ce' sl' : Nat} (H : Rc C R own bs ml Z n0 ce sl pc Ls S h Ds) (h1 : ce ≤ ce') (h2 : sl ≤ sl') : Rc C R own bs ml Z n0 ce' sl' pc Ls S h Ds := by
  obtain ⟨T, locs, vm0, k0, X, r⟩ := H
  exact ⟨T, locs, vm0, k0, X.mono h1 h2, r⟩
theorem Rc.less {Ds' : List Addr} (H : Rc C R own bs ml Z n0 ce sl pc Ls S h Ds) (q : ∀ x ∈ Ds', x ∈ Ds) : Rc C R own bs ml Z n0 ce sl pc Ls S h Ds' := by
  obtain ⟨T, locs, vm0, k0, X, h1, h2, h3, h4, r⟩ := H
  exact ⟨T, locs, vm0, k0, X, h1, h2, h3, h4.less q, r⟩
theorem Rc.iload {pc' : Nat} {k : Nat} {v : Int32} (H : Rc C R own bs ml Z n0 ce sl pc Ls S h Ds) (hd : decode bs pc = .ok (.iload k, 2)) (hl : Ls[k]? = some (.val (.int v))) (hp : pc + 2 = pc') : Rc C R own bs ml Z n0 ce sl pc' Ls (.int v :: S) h Ds := by
  subst hp
  exact H.go fun T t hA hx hby kk => XS.iload hA hx rfl (hb hby hd) hl kk
theorem Rc.iloadN {pc' : Nat} {k : Fin 4} {v : Int32} (H : Rc C R own bs ml Z n0 ce sl pc Ls S h Ds) (hd : decode bs pc = .ok (.iload_n k, 1)) (hl : Ls[k.val]? = some (.val (.int v))) (hp : pc + 1 = pc') : Rc C R own bs ml Z n0 ce sl pc' Ls (.int v :: S) h Ds := by
  subst hp
  exact H.go fun T t hA hx hby kk => XS.iloadN hA hx rfl (hb hby hd) hl kk
theorem Rc.aload {pc' : Nat} {k : Nat} {v : Value} (H : Rc C R own bs ml Z n0 ce sl pc Ls S h Ds) (hd : decode bs pc = .ok (.aload k, 2)) (hl : Ls[k]? = some (.val v)) (hv : v.isRef = true) (hp : pc + 2 = pc') : Rc C R own bs ml Z n0 ce sl pc' Ls (v :: S) h Ds := by
  subst hp
  exact H.go fun T t hA hx hby kk => XS.aload hA hx rfl (hb hby hd) hl hv kk
theorem Rc.aloadN {pc' : Nat} {k : Fin 4} {v : Value} (H : Rc C R own bs ml Z n0 ce sl pc Ls S h Ds) (hd : decode bs pc = .ok (.aload_n k, 1)) (hl : Ls[k.val]? = some (.val v)) (hv : v.isRef = true) (hp : pc + 1 = pc') : Rc C R own bs ml Z n0 ce sl pc' Ls (v :: S) h Ds := by
  subst hp
  exact H.go fun T t hA hx hby kk => XS.aloadN hA hx rfl (hb hby hd) hl hv kk
theorem Rc.lload {pc' : Nat} {k : Nat} {v : Int64} (H : Rc C R own bs ml Z n0 ce sl pc Ls S h Ds) (hd : decode bs pc = .ok (.lload k, 2)) (hl : Ls[k]? = some (.val (.long v))) (hp : pc + 2 = pc') : Rc C R own bs ml Z n0 ce sl pc' Ls (.long v :: S) h Ds := by
  subst hp
  exact H.go fun T t hA hx hby kk => XS.lload hA hx rfl (hb hby hd) hl kk
theorem Rc.lloadN {pc' : Nat} {k : Fin 4} {v : Int64} (H : Rc C R own bs ml Z n0 ce sl pc Ls S h Ds) (hd : decode bs pc = .ok (.lload_n k, 1)) (hl : Ls[k.val]? = some (.val (.long v))) (hp : pc + 1 = pc') : Rc C R own bs ml Z n0 ce sl pc' Ls (.long v :: S) h Ds := by
  subst hp
  exact H.go fun T t hA hx hby kk => XS.lloadN hA hx rfl (hb hby hd) hl kk
theorem Rc.istore {pc' : Nat} {k : Nat} {x : Int32} {l' : Array Slot} (H : Rc C R own bs ml Z n0 ce sl pc Ls (.int x :: rest) h Ds) (hd : decode bs pc = .ok (.istore k, 2)) (hl : storeLocals Ls k (.int x) = some l') (hp : pc + 2 = pc') : Rc C R own bs ml Z n0 ce sl pc' l' rest h Ds := by
  subst hp
  exact H.go fun T t hA hx hby kk => XS.istore hA hx rfl (hb hby hd) rfl hl kk
theorem Rc.istoreN {pc' : Nat} {k : Fin 4} {x : Int32} {l' : Array Slot} (H : Rc C R own bs ml Z n0 ce sl pc Ls (.int x :: rest) h Ds) (hd : decode bs pc = .ok (.istore_n k, 1)) (hl : storeLocals Ls k.val (.int x) = some l') (hp : pc + 1 = pc') : Rc C R own bs ml Z n0 ce sl pc' l' rest h Ds := by
  subst hp
  exact H.go fun T t hA hx hby kk => XS.istoreN hA hx rfl (hb hby hd) rfl hl kk
theorem Rc.astore {pc' : Nat} {k : Nat} {x : Value} {l' : Array Slot} (H : Rc C R own bs ml Z n0 ce sl pc Ls (x :: rest) h Ds) (hd : decode bs pc = .ok (.astore k, 2)) (hv : x.isRef = true) (hl : storeLocals Ls k x = some l') (hp : pc + 2 = pc') : Rc C R own bs ml Z n0 ce sl pc' l' rest h Ds := by
  subst hp
  exact H.go fun T t hA hx hby kk => XS.astore hA hx rfl (hb hby hd) rfl hv hl kk
theorem Rc.astoreN {pc' : Nat} {k : Fin 4} {x : Value} {l' : Array Slot} (H : Rc C R own bs ml Z n0 ce sl pc Ls (x :: rest) h Ds) (hd : decode bs pc = .ok (.astore_n k, 1)) (hv : x.isRef = true) (hl : storeLocals Ls k.val x = some l') (hp : pc + 1 = pc') : Rc C R own bs ml Z n0 ce sl pc' l' rest h Ds := by
  subst hp
  exact H.go fun T t hA hx hby kk => XS.astoreN hA hx rfl (hb hby hd) rfl hv hl kk
theorem Rc.lstore {pc' : Nat} {k : Nat} {x : Int64} {l' : Array Slot} (H : Rc C R own bs ml Z n0 ce sl pc Ls (.long x :: rest) h Ds) (hd : decode bs pc = .ok (.lstore k, 2)) (hl : storeLocals Ls k (.long x) = some l') (hp : pc + 2 = pc') : Rc C R own bs ml Z n0 ce sl pc' l' rest h Ds := by
  subst hp
  exact H.go fun T t hA hx hby kk => XS.lstore hA hx rfl (hb hby hd) rfl hl kk
theorem Rc.lstoreN {pc' : Nat} {k : Fin 4} {x : Int64} {l' : Array Slot} (H : Rc C R own bs ml Z n0 ce sl pc Ls (.long x :: rest) h Ds) (hd : decode bs pc = .ok (.lstore_n k, 1)) (hl : storeLocals Ls k.val (.long x) = some l') (hp : pc + 1 = pc') : Rc C R own bs ml Z n0 ce sl pc' l' rest h Ds := by
  subst hp
  exact H.go fun T t hA hx hby kk => XS.lstoreN hA hx rfl (hb hby hd) rfl hl kk
theorem Rc.iconst {pc' : Nat} {i : Int} {z : Int32} (H : Rc C R own bs ml Z n0 ce sl pc Ls S h Ds) (hd : decode bs pc = .ok (.iconst i, 1)) (hz : Int32.ofInt i = z) (hp : pc + 1 = pc') : Rc C R own bs ml Z n0 ce sl pc' Ls (.int z :: S) h Ds := by
  subst hp hz
  exact H.go fun T t hA hx hby kk => XS.iconst hA hx rfl (hb hby hd) kk
theorem Rc.bipush {pc' : Nat} {i : Int} {z : Int32} (H : Rc C R own bs ml Z n0 ce sl pc Ls S h Ds) (hd : decode bs pc = .ok (.bipush i, 2)) (hz : (Int8.ofInt i).toInt32 = z) (hp : pc + 2 = pc') : Rc C R own bs ml Z n0 ce sl pc' Ls (.int z :: S) h Ds := by
  subst hp hz
  exact H.go fun T t hA hx hby kk => XS.bipush hA hx rfl (hb hby hd) kk
theorem Rc.sipush {pc' : Nat} {i : Int} {z : Int32} (H : Rc C R own bs ml Z n0 ce sl pc Ls S h Ds) (hd : decode bs pc = .ok (.sipush i, 3)) (hz : (Int16.ofInt i).toInt32 = z) (hp : pc + 3 = pc') : Rc C R own bs ml Z n0 ce sl pc' Ls (.int z :: S) h Ds := by
  subst hp hz
  exact H.go fun T t hA hx hby kk => XS.sipush hA hx rfl (hb hby hd) kk
theorem Rc.lconst {pc' : Nat} {i : Fin 2} {z : Int64} (H : Rc C R own bs ml Z n0 ce sl pc Ls S h Ds) (hd : decode bs pc = .ok (.lconst i, 1)) (hz : Int64.ofNat i = z) (hp : pc + 1 = pc') : Rc C R own bs ml Z n0 ce sl pc' Ls (.long z :: S) h Ds := by
  subst hp hz
  exact H.go fun T t hA hx hby kk => XS.lconst hA hx rfl (hb hby hd) kk
theorem Rc.anull {pc' : Nat}  (H : Rc C R own bs ml Z n0 ce sl pc Ls S h Ds) (hd : decode bs pc = .ok (.aconst_null, 1)) (hp : pc + 1 = pc') : Rc C R own bs ml Z n0 ce sl pc' Ls (.null :: S) h Ds := by
  subst hp
  exact H.go fun T t hA hx hby kk => XS.aconstNull hA hx rfl (hb hby hd) kk
theorem Rc.iadd {pc' : Nat} {x y : Int32} (H : Rc C R own bs ml Z n0 ce sl pc Ls (.int y :: .int x :: rest) h Ds) (hd : decode bs pc = .ok (.iadd, 1)) (hp : pc + 1 = pc') : Rc C R own bs ml Z n0 ce sl pc' Ls (.int (x + y) :: rest) h Ds := by
  subst hp
  exact H.go fun T t hA hx hby kk => XS.iadd hA hx rfl (hb hby hd) rfl kk
theorem Rc.ladd {pc' : Nat} {x y : Int64} (H : Rc C R own bs ml Z n0 ce sl pc Ls (.long y :: .long x :: rest) h Ds) (hd : decode bs pc = .ok (.ladd, 1)) (hp : pc + 1 = pc') : Rc C R own bs ml Z n0 ce sl pc' Ls (.long (x + y) :: rest) h Ds := by
  subst hp
  exact H.go fun T t hA hx hby kk => XS.ladd hA hx rfl (hb hby hd) rfl kk
theorem Rc.isub {pc' : Nat} {x y : Int32} (H : Rc C R own bs ml Z n0 ce sl pc Ls (.int y :: .int x :: rest) h Ds) (hd : decode bs pc = .ok (.isub, 1)) (hp : pc + 1 = pc') : Rc C R own bs ml Z n0 ce sl pc' Ls (.int (x - y) :: rest) h Ds := by
  subst hp
  exact H.go fun T t hA hx hby kk => XS.isub hA hx rfl (hb hby hd) rfl kk
theorem Rc.lsub {pc' : Nat} {x y : Int64} (H : Rc C R own bs ml Z n0 ce sl pc Ls (.long y :: .long x :: rest) h Ds) (hd : decode bs pc = .ok (.lsub, 1)) (hp : pc + 1 = pc') : Rc C R own bs ml Z n0 ce sl pc' Ls (.long (x - y) :: rest) h Ds := by
  subst hp
  exact H.go fun T t hA hx hby kk => XS.lsub hA hx rfl (hb hby hd) rfl kk
theorem Rc.imul {pc' : Nat} {x y : Int32} (H : Rc C R own bs ml Z n0 ce sl pc Ls (.int y :: .int x :: rest) h Ds) (hd : decode bs pc = .ok (.imul, 1)) (hp : pc + 1 = pc') : Rc C R own bs ml Z n0 ce sl pc' Ls (.int (x * y) :: rest) h Ds := by
  subst hp
  exact H.go fun T t hA hx hby kk => XS.imul hA hx rfl (hb hby hd) rfl kk
theorem Rc.lmul {pc' : Nat} {x y : Int64} (H : Rc C R own bs ml Z n0 ce sl pc Ls (.long y :: .long x :: rest) h Ds) (hd : decode bs pc = .ok (.lmul, 1)) (hp : pc + 1 = pc') : Rc C R own bs ml Z n0 ce sl pc' Ls (.long (x * y) :: rest) h Ds := by
  subst hp
  exact H.go fun T t hA hx hby kk => XS.lmul hA hx rfl (hb hby hd) rfl kk
theorem Rc.iand {pc' : Nat} {x y : Int32} (H : Rc C R own bs ml Z n0 ce sl pc Ls (.int y :: .int x :: rest) h Ds) (hd : decode bs pc = .ok (.iand, 1)) (hp : pc + 1 = pc') : Rc C R own bs ml Z n0 ce sl pc' Ls (.int (x &&& y) :: rest) h Ds := by
  subst hp
  exact H.go fun T t hA hx hby kk => XS.iand hA hx rfl (hb hby hd) rfl kk
theorem Rc.land {pc' : Nat} {x y : Int64} (H : Rc C R own bs ml Z n0 ce sl pc Ls (.long y :: .long x :: rest) h Ds) (hd : decode bs pc = .ok (.land, 1)) (hp : pc + 1 = pc') : Rc C R own bs ml Z n0 ce sl pc' Ls (.long (x &&& y) :: rest) h Ds := by
  subst hp
  exact H.go fun T t hA hx hby kk => XS.land hA hx rfl (hb hby hd) rfl kk
theorem Rc.ior {pc' : Nat} {x y : Int32} (H : Rc C R own bs ml Z n0 ce sl pc Ls (.int y :: .int x :: rest) h Ds) (hd : decode bs pc = .ok (.ior, 1)) (hp : pc + 1 = pc') : Rc C R own bs ml Z n0 ce sl pc' Ls (.int (x ||| y) :: rest) h Ds := by
  subst hp
  exact H.go fun T t hA hx hby kk => XS.ior hA hx rfl (hb hby hd) rfl kk
theorem Rc.lor {pc' : Nat} {x y : Int64} (H : Rc C R own bs ml Z n0 ce sl pc Ls (.long y :: .long x :: rest) h Ds) (hd : decode bs pc = .ok (.lor, 1)) (hp : pc + 1 = pc') : Rc C R own bs ml Z n0 ce sl pc' Ls (.long (x ||| y) :: rest) h Ds := by
  subst hp
  exact H.go fun T t hA hx hby kk => XS.lor hA hx rfl (hb hby hd) rfl kk
theorem Rc.ixor {pc' : Nat} {x y : Int32} (H : Rc C R own bs ml Z n0 ce sl pc Ls (.int y :: .int x :: rest) h Ds) (hd : decode bs pc = .ok (.ixor, 1)) (hp : pc + 1 = pc') : Rc C R own bs ml Z n0 ce sl pc' Ls (.int (x ^^^ y) :: rest) h Ds := by
  subst hp
  exact H.go fun T t hA hx hby kk => XS.ixor hA hx rfl (hb hby hd) rfl kk
theorem Rc.lxor {pc' : Nat} {x y : Int64} (H : Rc C R own bs ml Z n0 ce sl pc Ls (.long y :: .long x :: rest) h Ds) (hd : decode bs pc = .ok (.lxor, 1)) (hp : pc + 1 = pc') : Rc C R own bs ml Z n0 ce sl pc' Ls (.long (x ^^^ y) :: rest) h Ds := by
  subst hp
  exact H.go fun T t hA hx hby kk => XS.lxor hA hx rfl (hb hby hd) rfl kk
theorem Rc.ishl {pc' : Nat} {x : Int32} {y : Int32} (H : Rc C R own bs ml Z n0 ce sl pc Ls (.int y :: .int x :: rest) h Ds) (hd : decode bs pc = .ok (.ishl, 1)) (hp : pc + 1 = pc') : Rc C R own bs ml Z n0 ce sl pc' Ls (.int (x <<< (y &&& 31)) :: rest) h Ds := by
  subst hp
  exact H.go fun T t hA hx hby kk => XS.ishl hA hx rfl (hb hby hd) rfl kk
theorem Rc.ishr {pc' : Nat} {x : Int32} {y : Int32} (H : Rc C R own bs ml Z n0 ce sl pc Ls (.int y :: .int x :: rest) h Ds) (hd : decode bs pc = .ok (.ishr, 1)) (hp : pc + 1 = pc') : Rc C R own bs ml Z n0 ce sl pc' Ls (.int (x >>> (y &&& 31)) :: rest) h Ds := by
  subst hp
  exact H.go fun T t hA hx hby kk => XS.ishr hA hx rfl (hb hby hd) rfl kk
theorem Rc.iushr {pc' : Nat} {x : Int32} {y : Int32} (H : Rc C R own bs ml Z n0 ce sl pc Ls (.int y :: .int x :: rest) h Ds) (hd : decode bs pc = .ok (.iushr, 1)) (hp : pc + 1 = pc') : Rc C R own bs ml Z n0 ce sl pc' Ls (.int ((x.toUInt32 >>> (y &&& 31).toUInt32).toInt32) :: rest) h Ds := by
  subst hp
  exact H.go fun T t hA hx hby kk => XS.iushr hA hx rfl (hb hby hd) rfl kk
theorem Rc.lshl {pc' : Nat} {x : Int64} {y : Int32} (H : Rc C R own bs ml Z n0 ce sl pc Ls (.int y :: .long x :: rest) h Ds) (hd : decode bs pc = .ok (.lshl, 1)) (hp : pc + 1 = pc') : Rc C R own bs ml Z n0 ce sl pc' Ls (.long (x <<< (y &&& 0x3f).toInt64) :: rest) h Ds := by
  subst hp
  exact H.go fun T t hA hx hby kk => XS.lshl hA hx rfl (hb hby hd) rfl kk
theorem Rc.lshr {pc' : Nat} {x : Int64} {y : Int32} (H : Rc C R own bs ml Z n0 ce sl pc Ls (.int y :: .long x :: rest) h Ds) (hd : decode bs pc = .ok (.lshr, 1)) (hp : pc + 1 = pc') : Rc C R own bs ml Z n0 ce sl pc' Ls (.long (x >>> (y &&& 0x3f).toInt64) :: rest) h Ds := by
  subst hp
  exact H.go fun T t hA hx hby kk => XS.lshr hA hx rfl (hb hby hd) rfl kk
theorem Rc.lushr {pc' : Nat} {x : Int64} {y : Int32} (H : Rc C R own bs ml Z n0 ce sl pc Ls (.int y :: .long x :: rest) h Ds) (hd : decode bs pc = .ok (.lushr, 1)) (hp : pc + 1 = pc') : Rc C R own bs ml Z n0 ce sl pc' Ls (.long ((x.toUInt64 >>> (y &&& 0x3f).toInt64.toUInt64).toInt64) :: rest) h Ds := by
  subst hp
  exact H.go fun T t hA hx hby kk => XS.lushr hA hx rfl (hb hby hd) rfl kk
theorem Rc.ineg {pc' : Nat} {x : Int32} (H : Rc C R own bs ml Z n0 ce sl pc Ls (.int x :: rest) h Ds) (hd : decode bs pc = .ok (.ineg, 1)) (hp : pc + 1 = pc') : Rc C R own bs ml Z n0 ce sl pc' Ls (.int (-x) :: rest) h Ds := by
  subst hp
  exact H.go fun T t hA hx hby kk => XS.ineg hA hx rfl (hb hby hd) rfl kk
theorem Rc.lneg {pc' : Nat} {x : Int64} (H : Rc C R own bs ml Z n0 ce sl pc Ls (.long x :: rest) h Ds) (hd : decode bs pc = .ok (.lneg, 1)) (hp : pc + 1 = pc') : Rc C R own bs ml Z n0 ce sl pc' Ls (.long (-x) :: rest) h Ds := by
  subst hp
  exact H.go fun T t hA hx hby kk => XS.lneg hA hx rfl (hb hby hd) rfl kk
theorem Rc.i2l {pc' : Nat} {x : Int32} (H : Rc C R own bs ml Z n0 ce sl pc Ls (.int x :: rest) h Ds) (hd : decode bs pc = .ok (.i2l, 1)) (hp : pc + 1 = pc') : Rc C R own bs ml Z n0 ce sl pc' Ls (.long x.toInt64 :: rest) h Ds := by
  subst hp
  exact H.go fun T t hA hx hby kk => XS.i2l hA hx rfl (hb hby hd) rfl kk
theorem Rc.l2i {pc' : Nat} {x : Int64} (H : Rc C R own bs ml Z n0 ce sl pc Ls (.long x :: rest) h Ds) (hd : decode bs pc = .ok (.l2i, 1)) (hp : pc + 1 = pc') : Rc C R own bs ml Z n0 ce sl pc' Ls (.int x.toInt32 :: rest) h Ds := by
  subst hp
  exact H.go fun T t hA hx hby kk => XS.l2i hA hx rfl (hb hby hd) rfl kk
theorem Rc.i2b {pc' : Nat} {x : Int32} (H : Rc C R own bs ml Z n0 ce sl pc Ls (.int x :: rest) h Ds) (hd : decode bs pc = .ok (.i2b, 1)) (hp : pc + 1 = pc') : Rc C R own bs ml Z n0 ce sl pc' Ls (.int x.toInt8.toInt32 :: rest) h Ds := by
  subst hp
  exact H.go fun T t hA hx hby kk => XS.i2b hA hx rfl (hb hby hd) rfl kk
theorem Rc.i2s {pc' : Nat} {x : Int32} (H : Rc C R own bs ml Z n0 ce sl pc Ls (.int x :: rest) h Ds) (hd : decode bs pc = .ok (.i2s, 1)) (hp : pc + 1 = pc') : Rc C R own bs ml Z n0 ce sl pc' Ls (.int x.toInt16.toInt32 :: rest) h Ds := by
  subst hp
  exact H.go fun T t hA hx hby kk => XS.i2s hA hx rfl (hb hby hd) rfl kk
theorem Rc.i2c {pc' : Nat} {x : Int32} (H : Rc C R own bs ml Z n0 ce sl pc Ls (.int x :: rest) h Ds) (hd : decode bs pc = .ok (.i2c, 1)) (hp : pc + 1 = pc') : Rc C R own bs ml Z n0 ce sl pc' Ls (.int x.toUInt32.toUInt16.toUInt32.toInt32 :: rest) h Ds := by
  subst hp
  exact H.go fun T t hA hx hby kk => XS.i2c hA hx rfl (hb hby hd) rfl kk
theorem Rc.lcmp {pc' : Nat} {x y : Int64} (H : Rc C R own bs ml Z n0 ce sl pc Ls (.long y :: .long x :: rest) h Ds) (hd : decode bs pc = .ok (.lcmp, 1)) (hp : pc + 1 = pc') : Rc C R own bs ml Z n0 ce sl pc' Ls (.int (lcmpW x y) :: rest) h Ds := by
  subst hp
  exact H.go fun T t hA hx hby kk => XS.lcmp hA hx rfl (hb hby hd) rfl kk
theorem Rc.idiv {pc' : Nat} {x y : Int32} (H : Rc C R own bs ml Z n0 ce sl pc Ls (.int y :: .int x :: rest) h Ds) (hd : decode bs pc = .ok (.idiv, 1)) (hy : y ≠ 0) (hp : pc + 1 = pc') : Rc C R own bs ml Z n0 ce sl pc' Ls (.int (x / y) :: rest) h Ds := by
  subst hp
  exact H.go fun T t hA hx hby kk => XS.idiv hA hx rfl (hb hby hd) rfl hy kk
theorem Rc.dup {pc' : Nat} {x : Value} (H : Rc C R own bs ml Z n0 ce sl pc Ls (x :: rest) h Ds) (hd : decode bs pc = .ok (.dup, 1)) (hc : x.category = 1) (hp : pc + 1 = pc') : Rc C R own bs ml Z n0 ce sl pc' Ls (x :: x :: rest) h Ds := by
  subst hp
  exact H.go fun T t hA hx hby kk => XS.dup hA hx rfl (hb hby hd) rfl hc kk
theorem Rc.pop {pc' : Nat} {x : Value} (H : Rc C R own bs ml Z n0 ce sl pc Ls (x :: rest) h Ds) (hd : decode bs pc = .ok (.pop, 1)) (hc : x.category = 1) (hp : pc + 1 = pc') : Rc C R own bs ml Z n0 ce sl pc' Ls rest h Ds := by
  subst hp
  exact H.go fun T t hA hx hby kk => XS.pop hA hx rfl (hb hby hd) rfl hc kk
theorem Rc.dupX1 {pc' : Nat} {x y : Value} (H : Rc C R own bs ml Z n0 ce sl pc Ls (x :: y :: rest) h Ds) (hd : decode bs pc = .ok (.dup_x1, 1)) (hc : x.category = 1) (hc' : y.category = 1) (hp : pc + 1 = pc') : Rc C R own bs ml Z n0 ce sl pc' Ls (x :: y :: x :: rest) h Ds := by
  subst hp
  exact H.go fun T t hA hx hby kk => XS.dupX1 hA hx rfl (hb hby hd) rfl hc hc' kk
theorem Rc.iinc {pc' : Nat} {k : Nat} {cst : Int} {x : Int32} {l' : Array Slot} (H : Rc C R own bs ml Z n0 ce sl pc Ls S h Ds) (hd : decode bs pc = .ok (.iinc k cst, 3)) (hl : Ls[k]? = some (.val (.int x))) (hl' : storeLocals Ls k (.int (x + Int32.ofInt cst)) = some l') (hp : pc + 3 = pc') : Rc C R own bs ml Z n0 ce sl pc' l' S h Ds := by
  subst hp
  exact H.go fun T t hA hx hby kk => XS.iinc hA hx rfl (hb hby hd) hl hl' kk
theorem Rc.irem {pc' : Nat} {x y : Int32} (H : Rc C R own bs ml Z n0 ce sl pc Ls (.int y :: .int x :: rest) h Ds) (hd : decode bs pc = .ok (.irem, 1)) (hy : y ≠ 0) (hp : pc + 1 = pc') : Rc C R own bs ml Z n0 ce sl pc' Ls (.int (x % y) :: rest) h Ds := by
  subst hp
  exact H.goX fun s T locs t X hZ hown eT hx hby kk => iremM X hx rfl (hb hby hd) rfl hy kk
theorem Rc.goto {pc' : Nat} {o : Int} (H : Rc C R own bs ml Z n0 ce sl pc Ls S h Ds) (hd : decode bs pc = .ok (.goto o, 3)) (ho : 0 ≤ (pc : Int) + o) (hp : ((pc : Int) + o).toNat = pc') : Rc C R own bs ml Z n0 ce sl pc' Ls S h Ds :=
  H.go fun T t hA hx hby kk => XS.goto hA hx rfl (pc0 := pc) rfl (hb hby hd) ho hp kk
theorem Rc.ifY {pc' : Nat} {o : Int} {cd : ClassFile.Cond} {x : Int32} (H : Rc C R own bs ml Z n0 ce sl pc Ls (.int x :: rest) h Ds) (hd : decode bs pc = .ok (.ifCond cd o, 3)) (hc : if_icmp.holds cd x 0 = true) (ho : 0 ≤ (pc : Int) + o) (hp : ((pc : Int) + o).toNat = pc') : Rc C R own bs ml Z n0 ce sl pc' Ls rest h Ds :=
  H.go fun T t hA hx hby kk => XS.ifYes hA hx rfl (pc0 := pc) rfl (hb hby hd) rfl ((if0 _ _).trans hc) ho hp kk
theorem Rc.ifN {pc' : Nat} {o : Int} {cd : ClassFile.Cond} {x : Int32} (H : Rc C R own bs ml Z n0 ce sl pc Ls (.int x :: rest) h Ds) (hd : decode bs pc = .ok (.ifCond cd o, 3)) (hc : if_icmp.holds cd x 0 = false) (hp : pc + 3 = pc') : Rc C R own bs ml Z n0 ce sl pc' Ls rest h Ds := by
  subst hp
  exact H.go fun T t hA hx hby kk => XS.ifNo hA hx rfl (hb hby hd) rfl ((if0 _ _).trans hc) kk
theorem Rc.icmpY {pc' : Nat} {o : Int} {cd : ClassFile.Cond} {x y : Int32} (H : Rc C R own bs ml Z n0 ce sl pc Ls (.int y :: .int x :: rest) h Ds) (hd : decode bs pc = .ok (.if_icmp cd o, 3)) (hc : if_icmp.holds cd x y = true) (ho : 0 ≤ (pc : Int) + o) (hp : ((pc : Int) + o).toNat = pc') : Rc C R own bs ml Z n0 ce sl pc' Ls rest h Ds :=
  H.go fun T t hA hx hby kk => XS.icmpYes hA hx rfl (pc0 := pc) rfl (hb hby hd) rfl hc ho hp kk
theorem Rc.icmpN {pc' : Nat} {o : Int} {cd : ClassFile.Cond} {x y : Int32} (H : Rc C R own bs ml Z n0 ce sl pc Ls (.int y :: .int x :: rest) h Ds) (hd : decode bs pc = .ok (.if_icmp cd o, 3)) (hc : if_icmp.holds cd x y = false) (hp : pc + 3 = pc') : Rc C R own bs ml Z n0 ce sl pc' Ls rest h Ds := by
  subst hp
  exact H.go fun T t hA hx hby kk => XS.icmpNo hA hx rfl (hb hby hd) rfl hc kk
theorem Rc.ifnullY {pc' : Nat} {o : Int} (H : Rc C R own bs ml Z n0 ce sl pc Ls (.null :: rest) h Ds) (hd : decode bs pc = .ok (.ifnull o, 3)) (ho : 0 ≤ (pc : Int) + o) (hp : ((pc : Int) + o).toNat = pc') : Rc C R own bs ml Z n0 ce sl pc' Ls rest h Ds :=
  H.go fun T t hA hx hby kk => XS.ifnullYes hA hx rfl (pc0 := pc) rfl (hb hby hd) rfl ho hp kk
theorem Rc.ifnullN {pc' : Nat} {b : Addr} {o : Int} (H : Rc C R own bs ml Z n0 ce sl pc Ls (.ref b :: rest) h Ds) (hd : decode bs pc = .ok (.ifnull o, 3)) (hp : pc + 3 = pc') : Rc C R own bs ml Z n0 ce sl pc' Ls rest h Ds := by
  subst hp
  exact H.go fun T t hA hx hby kk => XS.ifnullNo hA hx rfl (hb hby hd) rfl kk
theorem Rc.ifnonnullY {pc' : Nat} {b : Addr} {o : Int} (H : Rc C R own bs ml Z n0 ce sl pc Ls (.ref b :: rest) h Ds) (hd : decode bs pc = .ok (.ifnonnull o, 3)) (ho : 0 ≤ (pc : Int) + o) (hp : ((pc : Int) + o).toNat = pc') : Rc C R own bs ml Z n0 ce sl pc' Ls rest h Ds :=
  H.go fun T t hA hx hby kk => XS.ifnonnullYes hA hx rfl (pc0 := pc) rfl (hb hby hd) rfl ho hp kk
theorem Rc.ifnonnullN {pc' : Nat} {o : Int} (H : Rc C R own bs ml Z n0 ce sl pc Ls (.null :: rest) h Ds) (hd : decode bs pc = .ok (.ifnonnull o, 3)) (hp : pc + 3 = pc') : Rc C R own bs ml Z n0 ce sl pc' Ls rest h Ds := by
  subst hp
  exact H.go fun T t hA hx hby kk => XS.ifnonnullNo hA hx rfl (hb hby hd) rfl kk
theorem Rc.acmp {pc' : Nat} {o : Int} {cd : ACond} {x y : Value} {same : Bool} (H : Rc C R own bs ml Z n0 ce sl pc Ls (y :: x :: rest) h Ds) (hd : decode bs pc = .ok (.if_acmp cd o, 3)) (h1 : x.isRef = true) (h2 : y.isRef = true) (hq : decide (x = y) = same) (ho : 0 ≤ (pc : Int) + o) (hp : pc' = if acV cd same = true then ((pc : Int) + o).toNat else pc + 3) : Rc C R own bs ml Z n0 ce sl pc' Ls rest h Ds :=
  H.goX fun s T locs t X hZ hown eT hx hby kk => Jvm.RoadKit.acmp X hx rfl h1 h2 (pc0 := pc) rfl (hb hby hd) rfl hq ho hp kk

theorem own_ws1 {a : Addr} {Ds : List Addr} (ha : a ∈ Ds) : ∀ x ∈ [a], x ∈ Ds := fun x hx => by rw [List.mem_singleton.mp hx]; exact ha
theorem Rc.getF {pc' : Nat} {a : Addr} {v : Value} {R0 O n d host : String} {idx : Nat} (H : Rc C R own bs ml Z n0 ce sl pc Ls (.ref a :: rest) h Ds) (w : (Jvm.Cond.fieldLink own idx R0 n d).before a0 Z = true ∨ (Jvm.Cond.fieldLinkNest own idx R0 n d host).before a0 Z = true) (via : Via Z R0 O n d) (F : Fld Z h a O n d v) (hd : decode bs pc = .ok (.getfield idx, 3)) (hp : pc + 3 = pc') : Rc C R own bs ml Z n0 ce sl pc' Ls (v :: rest) h Ds := by
  subst hp
  obtain ⟨T, locs, vm0, k0, X, h1, h2, h3, h4, h5, h6, h7, k⟩ := H
  obtain ⟨T', X', e', st⟩ := RoadKit.getF X h7.1 (Z := Z) h3 h7.2.2.2.1 w via h5 F (g := mkF C.m pc Ls (.ref a :: rest)) rfl rfl (hb h7.2.1 hd)
  exact ⟨T', locs, vm0, k0, X', h1, h2, h3, h4, e', h6, h7, fun t ht => k _ (st _ ht)⟩
theorem Rc.getS {pc' : Nat} {v : Value} {R0 O n d host : String} {idx : Nat} (H : Rc C R own bs ml Z n0 ce sl pc Ls S h Ds) (w : (Jvm.Cond.fieldLink own idx R0 n d).before a0 Z = true ∨ (Jvm.Cond.fieldLinkNest own idx R0 n d host).before a0 Z = true) (via : Via Z R0 O n d) (F : Sta Z Z.heap O n d v) (hd : decode bs pc = .ok (.getstatic idx, 3)) (hp : pc + 3 = pc') : Rc C R own bs ml Z n0 ce sl pc' Ls (v :: S) h Ds := by
  subst hp
  obtain ⟨T, locs, vm0, k0, X, h1, h2, h3, h4, h5, h6, h7, k⟩ := H
  obtain ⟨T', X', e', st⟩ := getS2 X h7.1 (Z := Z) h3 h7.2.2.2.1 w via h5 (F.ext h4.1.2) (g := mkF C.m pc Ls S) rfl (hb h7.2.1 hd)
  exact ⟨T', locs, vm0, k0, X', h1, h2, h3, h4, e', h6, h7, fun t ht => k _ (st _ ht)⟩
theorem Rc.putF {pc' : Nat} {a : Addr} {v old : Value} {R0 O n d host Cc : String} {idx kk : Nat} {ty : FieldType} (H : Rc C R own bs ml Z n0 ce sl pc Ls (v :: .ref a :: rest) h Ds) (w : (Jvm.Cond.fieldLink own idx R0 n d).before a0 Z = true ∨ (Jvm.Cond.fieldLinkNest own idx R0 n d host).before a0 Z = true) (via : Via Z R0 O n d) (F : Fld Z h a O n d old) (E : Exa Z h a Cc)
    (L : (Jvm.Cond.lays Cc O n d).before a0 Z = true ∨ ((Jvm.Cond.laysFinal Cc O n d).before a0 Z = true ∧ own = O ∧ C.meth.name = "<init>")) (wi : (Jvm.Cond.instantiable Cc kk).before a0 Z = true) (hty : parseFieldDescriptor d = some ty) (hn : narrow ty v = v) (hf : fits ty v = true) (ha : a ∈ Ds) (hd : decode bs pc = .ok (.putfield idx, 3)) (hp : pc + 3 = pc') :
    ∃ h', Wr h h' a (RoadKit.slotOf Z O n d) v ∧ Rc C R own bs ml Z n0 ce sl pc' Ls rest h' Ds := by
  subst hp
  obtain ⟨T, locs, vm0, k0, X, h1, h2, h3, h4, h5, h6, h7, k⟩ := H
  obtain ⟨T', h', X', e', W', st⟩ := RoadKit.putF X h7.1 (Z := Z) h3 h7.2.2.2.1 w via h5 F E L wi hty hn hf (g := mkF C.m pc Ls (v :: .ref a :: rest)) rfl rfl (hb h7.2.1 hd)
  exact ⟨h', W', T', _, vm0, k0, X', h1, by rw [W'.size]; exact h2, h3, h4.keep (Keep.of_wr W') (own_ws1 ha), e', Fr.snoc X' h6 (h4.2.2.1 a ha).1, h7, fun t ht => k _ (st _ ht)⟩
theorem Rc.putFN {pc' : Nat} {a : Addr} {v v' old : Value} {R0 O n d Cc : String} {idx kk : Nat} {ty : FieldType} (H : Rc C R own bs ml Z n0 ce sl pc Ls (v :: .ref a :: rest) h Ds) (w : (Jvm.Cond.fieldLink own idx R0 n d).before a0 Z = true) (via : Via Z R0 O n d) (F : Fld Z h a O n d old) (E : Exa Z h a Cc)
    (L : (Jvm.Cond.lays Cc O n d).before a0 Z = true ∨ ((Jvm.Cond.laysFinal Cc O n d).before a0 Z = true ∧ own = O ∧ C.meth.name = "<init>")) (wi : (Jvm.Cond.instantiable Cc kk).before a0 Z = true) (hty : parseFieldDescriptor d = some ty) (hn : narrow ty v = v') (hf : fits ty v' = true) (ha : a ∈ Ds) (hd : decode bs pc = .ok (.putfield idx, 3)) (hp : pc + 3 = pc') :
    ∃ h', Wr h h' a (RoadKit.slotOf Z O n d) v' ∧ Rc C R own bs ml Z n0 ce sl pc' Ls rest h' Ds := by
  subst hp
  obtain ⟨T, locs, vm0, k0, X, h1, h2, h3, h4, h5, h6, h7, k⟩ := H
  obtain ⟨T', h', X', e', W', st⟩ := RoadKit.putFN X h7.1 (Z := Z) h3 h7.2.2.2.1 w via h5 F E L wi hty hn hf (g := mkF C.m pc Ls (v :: .ref a :: rest)) rfl rfl (hb h7.2.1 hd)
  exact ⟨h', W', T', _, vm0, k0, X', h1, by rw [W'.size]; exact h2, h3, h4.keep (Keep.of_wr W') (own_ws1 ha), e', Fr.snoc X' h6 (h4.2.2.1 a ha).1, h7, fun t ht => k _ (st _ ht)⟩
theorem Rc.newO {pc' : Nat} {Cc : String} {idx n : Nat} (H : Rc C R own bs ml Z n0 ce sl pc Ls S h Ds) (w : (Jvm.Cond.classLink own idx Cc).before a0 Z = true) (wi : (Jvm.Cond.instantiable Cc n).before a0 Z = true) (wz : (Jvm.Cond.initialized Cc).before a0 Z = true) (hd : decode bs pc = .ok (.new idx, 3)) (hc : ce + 1 ≤ R.cells) (hl : sl + n ≤ R.slots) (hp : pc + 3 = pc') :
    ∃ (h' : Heap) (b : Addr), b = h.size ∧ Ext h h' ∧ Exa Z h' b Cc ∧ (∀ {O nm d : String} {ty : FieldType}, Laid Z a0 Cc O nm d → parseFieldDescriptor d = some ty → Fld Z h' b O nm d (defaultValue ty)) ∧ Rc C R own bs ml Z n0 (ce + 1) (sl + n) pc' Ls (.ref b :: S) h' (b :: Ds) := by
  subst hp
  obtain ⟨T, locs, vm0, k0, X, h1, h2, h3, h4, h5, h6, h7, k⟩ := H
  obtain ⟨T', h', X', e', E', A', D', -, st⟩ := RoadKit.newO X h7.1 (Z := Z) h3 h7.2.2.2.1 w wi wz h5 (g := mkF C.m pc Ls S) rfl (hb h7.2.1 hd) hc hl
  exact ⟨h', h.size, rfl, E', A', D', T', _, vm0, k0, X', h1, Nat.le_trans h2 E'.1, h3, h4.born E' A'.lt, e', h6, h7, fun t ht => k _ (st _ ht)⟩
theorem Rc.newP {pc' : Nat} {aty : ArrayType} {n : Int32} {cap : Nat} (H : Rc C R own bs ml Z n0 ce sl pc Ls (.int n :: rest) h Ds) (w : (Jvm.Cond.arrayClass (newarray.typeOf aty)).before a0 Z = true) (hd : decode bs pc = .ok (.newarray aty, 2)) (hn : ¬ n < 0) (hcap : n.toNatClampNeg ≤ cap) (hb' : cap * 8 ≤ 536870912) (hc : ce + 1 ≤ R.cells) (hl : sl + cap ≤ R.slots) (hp : pc + 2 = pc') :
    ∃ (h' : Heap) (b : Addr) (kA : ClassId), b = h.size ∧ Ext h h' ∧ Arv Z h' b kA (newarray.typeOf aty) n [] (defaultValue (newarray.typeOf aty)) ∧ Rc C R own bs ml Z n0 (ce + 1) (sl + cap) pc' Ls (.ref b :: rest) h' (b :: Ds) := by
  subst hp
  obtain ⟨T, locs, vm0, k0, X, h1, h2, h3, h4, h5, h6, h7, k⟩ := H
  obtain ⟨T', h', kA, X', e', E', A', st⟩ := RoadKit.newP X h7.1 (Z := Z) h3 w h5 (g := mkF C.m pc Ls (.int n :: rest)) rfl (hb h7.2.1 hd) rfl hn hcap hb' hc hl
  exact ⟨h', h.size, kA, rfl, E', Arv.new A' hn, T', _, vm0, k0, X', h1, Nat.le_trans h2 E'.1, h3, h4.born E' A'.lt, e', h6, h7, fun t ht => k _ (st _ ht)⟩
theorem Rc.castore {pc' : Nat} {a : Addr} {x j z : Int32} {kA : ClassId} {vs : List Value} {dv : Value} (H : Rc C R own bs ml Z n0 ce sl pc Ls (.int x :: .int j :: .ref a :: rest) h Ds) (V : Arv Z h a kA .char z vs dv) (hj : ¬ j < 0 ∧ j < z) (i : Nat) (hi : j.toNatClampNeg = i) (hl : i < vs.length) (ha : a ∈ Ds) (hd : decode bs pc = .ok (.castore, 1)) (hp : pc + 1 = pc') :
    ∃ h', Keep h h' [a] ∧ Arv Z h' a kA .char z (vs.set i (.int (nar .char x))) dv ∧ Rc C R own bs ml Z n0 ce sl pc' Ls rest h' Ds := by
  subst hp
  obtain ⟨T, locs, vm0, k0, X, h1, h2, h3, h4, h5, h6, h7, k⟩ := H
  obtain ⟨cl, Ar, q1, q2, q3, q4, q5⟩ := V
  obtain ⟨T', h', X', e', W', st⟩ := stC X h7.1 (Z := Z) h3 h5 Ar (j := j) (inb_of q2 hj) (g := mkF C.m pc Ls (.int x :: .int j :: .ref a :: rest)) rfl rfl (hb h7.2.1 hd)
  exact ⟨h', Keep.of_wr W', Arv.set Ar q1 q2 q3 q4 q5 (fits_nar_char _) W' i hi hl, T', _, vm0, k0, X', h1, by rw [W'.size]; exact h2, h3, h4.keep (Keep.of_wr W') (own_ws1 ha), e', Fr.snoc X' h6 (h4.2.2.1 a ha).1, h7, fun t ht => k _ (st _ ht)⟩
theorem Rc.bastore {pc' : Nat} {a : Addr} {x j z : Int32} {kA : ClassId} {vs : List Value} {dv : Value} (H : Rc C R own bs ml Z n0 ce sl pc Ls (.int x :: .int j :: .ref a :: rest) h Ds) (V : Arv Z h a kA .byte z vs dv) (hj : ¬ j < 0 ∧ j < z) (i : Nat) (hi : j.toNatClampNeg = i) (hl : i < vs.length) (ha : a ∈ Ds) (hd : decode bs pc = .ok (.bastore, 1)) (hp : pc + 1 = pc') :
    ∃ h', Keep h h' [a] ∧ Arv Z h' a kA .byte z (vs.set i (.int (nar .byte x))) dv ∧ Rc C R own bs ml Z n0 ce sl pc' Ls rest h' Ds := by
  subst hp
  obtain ⟨T, locs, vm0, k0, X, h1, h2, h3, h4, h5, h6, h7, k⟩ := H
  obtain ⟨cl, Ar, q1, q2, q3, q4, q5⟩ := V
  obtain ⟨T', h', X', e', W', st⟩ := stB X h7.1 (Z := Z) h3 h5 Ar (j := j) (inb_of q2 hj) (g := mkF C.m pc Ls (.int x :: .int j :: .ref a :: rest)) rfl rfl (hb h7.2.1 hd)
  exact ⟨h', Keep.of_wr W', Arv.set Ar q1 q2 q3 q4 q5 (fits_nar_byte _) W' i hi hl, T', _, vm0, k0, X', h1, by rw [W'.size]; exact h2, h3, h4.keep (Keep.of_wr W') (own_ws1 ha), e', Fr.snoc X' h6 (h4.2.2.1 a ha).1, h7, fun t ht => k _ (st _ ht)⟩
theorem Rc.caload {pc' : Nat} {a : Addr} {j z : Int32} {v : Value} {kA : ClassId} {vs : List Value} {dv : Value} (H : Rc C R own bs ml Z n0 ce sl pc Ls (.int j :: .ref a :: rest) h Ds) (V : Arv Z h a kA .char z vs dv) (hj : ¬ j < 0 ∧ j < z) (hv : vs.getD j.toNatClampNeg dv = v) (hd : decode bs pc = .ok (.caload, 1)) (hp : pc + 1 = pc') : Rc C R own bs ml Z n0 ce sl pc' Ls (v :: rest) h Ds := by
  subst hp
  obtain ⟨cl, Ar, q1, q2, q3, q4, q5⟩ := V
  exact H.goX fun s T locs t X hZ hown eT hx hby kk => X.caload hx (j := j) (v := v) (by rw [eT]; exact Ar.1) (State.isArrayOf_alike hZ.alike Ar.2.1) Ar.2.2 (inb_of q2 hj) (q4.at (inb_of q2 hj) hv) (g := mkF C.m pc Ls (.int j :: .ref a :: rest)) rfl rfl (hb hby hd) _ kk
theorem Rc.baload {pc' : Nat} {a : Addr} {j z : Int32} {v : Value} {kA : ClassId} {vs : List Value} {dv : Value} (H : Rc C R own bs ml Z n0 ce sl pc Ls (.int j :: .ref a :: rest) h Ds) (V : Arv Z h a kA .byte z vs dv) (hj : ¬ j < 0 ∧ j < z) (hv : vs.getD j.toNatClampNeg dv = v) (hd : decode bs pc = .ok (.baload, 1)) (hp : pc + 1 = pc') : Rc C R own bs ml Z n0 ce sl pc' Ls (v :: rest) h Ds := by
  subst hp
  obtain ⟨cl, Ar, q1, q2, q3, q4, q5⟩ := V
  exact H.goX fun s T locs t X hZ hown eT hx hby kk => X.baloadBytes hx (j := j) (v := v) (by rw [eT]; exact Ar.1) (State.isArrayOf_alike hZ.alike Ar.2.1) Ar.2.2 (inb_of q2 hj) (q4.at (inb_of q2 hj) hv) (g := mkF C.m pc Ls (.int j :: .ref a :: rest)) rfl rfl (hb hby hd) _ kk
theorem Rc.aaload {pc' : Nat} {a : Addr} {j z : Int32} {v : Value} {kA : ClassId} {ty : FieldType} {vs : List Value} {dv : Value} (H : Rc C R own bs ml Z n0 ce sl pc Ls (.int j :: .ref a :: rest) h Ds) (V : Arv Z h a kA ty z vs dv) (hty : ty.isReference = true) (hj : ¬ j < 0 ∧ j < z) (hv : vs.getD j.toNatClampNeg dv = v) (hd : decode bs pc = .ok (.aaload, 1)) (hp : pc + 1 = pc') : Rc C R own bs ml Z n0 ce sl pc' Ls (v :: rest) h Ds := by
  subst hp
  obtain ⟨cl, Ar, q1, q2, q3, q4, q5⟩ := V
  exact H.goX fun s T locs t X hZ hown eT hx hby kk => X.aaload hx (j := j) (v := v) (by rw [eT]; exact Ar.1) (State.isArrayOf_alike hZ.alike Ar.2.1) hty Ar.2.2 (inb_of q2 hj) (q4.at (inb_of q2 hj) hv) (g := mkF C.m pc Ls (.int j :: .ref a :: rest)) rfl rfl (hb hby hd) _ kk
theorem Rc.arraylength {pc' : Nat} {a : Addr} {z : Int32} {kA : ClassId} {ty : FieldType} {vs : List Value} {dv : Value} (H : Rc C R own bs ml Z n0 ce sl pc Ls (.ref a :: rest) h Ds) (V : Arv Z h a kA ty z vs dv) (hd : decode bs pc = .ok (.arraylength, 1)) (hp : pc + 1 = pc') : Rc C R own bs ml Z n0 ce sl pc' Ls (.int z :: rest) h Ds := by
  subst hp
  obtain ⟨cl, Ar, q1, q2, q3, q4, q5⟩ := V
  have e := len_of q2 q3
  exact H.goX fun s T locs t X hZ hown eT hx hby kk => X.arraylength hx (by rw [eT]; exact Ar.1) (State.isArrayOf_alike hZ.alike Ar.2.1) (g := mkF C.m pc Ls (.ref a :: rest)) rfl rfl (hb hby hd) _ (by rw [e]; exact kk)
theorem Rc.initO {pc' : Nat} {a : Addr} {idx W : Nat} (H : Rc C R own bs ml Z n0 ce sl pc Ls (.ref a :: rest) h Ds) (w1 : (Jvm.Cond.methodLink own idx Lib.objectInit).before a0 Z = true) (w2 : (Jvm.Cond.instanceMethod Lib.objectInit).before a0 Z = true) (w3 : (Jvm.Cond.code Lib.objectInit ⟨#[0xb1]⟩ 1 none).before a0 Z = true) (hsz : Ls.size = ml) (hd : decode bs pc = .ok (.invokespecial idx, 3)) (hf : 1 ≤ R.frames) (hW : (rest.map fun v => v.category).sum = W) (hl : W + 12 ≤ R.locals) (hp : pc + 3 = pc') : Rc C R own bs ml Z n0 ce sl pc' Ls rest h Ds := by
  subst hp
  obtain ⟨T, locs, vm0, k0, X, h1, h2, h3, h4, h5, h6, h7, k⟩ := H
  obtain ⟨T', X', e', st⟩ := RoadKit.initO X h7.1 (Z := Z) h3 h7.2.2.2.1 w1 w2 w3 h5 (g := mkF C.m pc Ls (.ref a :: rest)) rfl (hsz.trans h7.2.2.1.symm) rfl (hb h7.2.1 hd) hf (W := W) (by show 2 * 0 + _ ≤ _; omega) hl
  exact ⟨T', locs, vm0, k0, X', h1, h2, h3, h4, e', h6, h7, fun t ht => k _ (st _ ht)⟩
theorem Rc.castY {pc' : Nat} {a : Addr} {K : String} {idx : Nat} (H : Rc C R own bs ml Z n0 ce sl pc Ls (.ref a :: rest) h Ds) (w : (Jvm.Cond.classLink own idx K).before a0 Z = true) (F : Ins Z h a K true) (hd : decode bs pc = .ok (.checkcast idx, 3)) (hp : pc + 3 = pc') : Rc C R own bs ml Z n0 ce sl pc' Ls (.ref a :: rest) h Ds := by
  subst hp
  obtain ⟨T, locs, vm0, k0, X, h1, h2, h3, h4, h5, h6, h7, k⟩ := H
  obtain ⟨T', X', e', st⟩ := RoadKit.castY X h7.1 (Z := Z) h3 h7.2.2.2.1 w h5 F (g := mkF C.m pc Ls (.ref a :: rest)) rfl rfl (hb h7.2.1 hd)
  exact ⟨T', locs, vm0, k0, X', h1, h2, h3, h4, e', h6, h7, fun t ht => k _ (st _ ht)⟩
theorem Rc.castNull {pc' : Nat} {idx : Nat} (H : Rc C R own bs ml Z n0 ce sl pc Ls (.null :: rest) h Ds) (hd : decode bs pc = .ok (.checkcast idx, 3)) (hp : pc + 3 = pc') : Rc C R own bs ml Z n0 ce sl pc' Ls (.null :: rest) h Ds := by
  subst hp
  exact H.goX fun s T locs t X hZ hown eT hx hby kk => X.checkcastNull hx (g := mkF C.m pc Ls (.null :: rest)) rfl rfl (hb hby hd) _ kk
theorem Rc.instNull {pc' : Nat} {idx : Nat} (H : Rc C R own bs ml Z n0 ce sl pc Ls (.null :: rest) h Ds) (hd : decode bs pc = .ok (.instanceof idx, 3)) (hp : pc + 3 = pc') : Rc C R own bs ml Z n0 ce sl pc' Ls (.int 0 :: rest) h Ds := by
  subst hp
  exact H.goX fun s T locs t X hZ hown eT hx hby kk => X.instanceofNull hx (g := mkF C.m pc Ls (.null :: rest)) rfl rfl (hb hby hd) _ kk
theorem Rc.instY {pc' : Nat} {a : Addr} {K : String} {idx : Nat} (H : Rc C R own bs ml Z n0 ce sl pc Ls (.ref a :: rest) h Ds) (w : (Jvm.Cond.classLink own idx K).before a0 Z = true) (F : Ins Z h a K true) (hd : decode bs pc = .ok (.instanceof idx, 3)) (hp : pc + 3 = pc') : Rc C R own bs ml Z n0 ce sl pc' Ls (.int 1 :: rest) h Ds := by
  subst hp
  obtain ⟨T, locs, vm0, k0, X, h1, h2, h3, h4, h5, h6, h7, k⟩ := H
  obtain ⟨T', X', e', st⟩ := RoadKit.instY X h7.1 (Z := Z) h3 h7.2.2.2.1 w h5 F (g := mkF C.m pc Ls (.ref a :: rest)) rfl rfl (hb h7.2.1 hd)
  exact ⟨T', locs, vm0, k0, X', h1, h2, h3, h4, e', h6, h7, fun t ht => k _ (st _ ht)⟩
theorem Rc.instNo {pc' : Nat} {a : Addr} {K Cc : String} {idx : Nat} (H : Rc C R own bs ml Z n0 ce sl pc Ls (.ref a :: rest) h Ds) (w : (Jvm.Cond.classLink own idx K).before a0 Z = true) (E : Exa Z h a Cc) (F : ∃ c t, Z.vm.findClass Cc = some c ∧ Z.vm.findClass K = some t ∧ Z.vm.assignable c t = false) (hd : decode bs pc = .ok (.instanceof idx, 3)) (hp : pc + 3 = pc') : Rc C R own bs ml Z n0 ce sl pc' Ls (.int 0 :: rest) h Ds := by
  subst hp
  obtain ⟨T, locs, vm0, k0, X, h1, h2, h3, h4, h5, h6, h7, k⟩ := H
  obtain ⟨T', X', e', st⟩ := RoadKit.instNo X h7.1 (Z := Z) h3 h7.2.2.2.1 w h5 E F (g := mkF C.m pc Ls (.ref a :: rest)) rfl rfl (hb h7.2.1 hd)
  exact ⟨T', locs, vm0, k0, X', h1, h2, h3, h4, e', h6, h7, fun t ht => k _ (st _ ht)⟩
/-! calls by a contract -/
abbrev NoMH (y : MethodName) : Prop := y.cls ≠ "java/lang/invoke/MethodHandle" ∧ y.cls ≠ "java/lang/invoke/VarHandle"
theorem own_fin {Q : Option Value → Heap → List Addr → Prop} {T : State} {locs : List Loc} {vm0 : Vm} {k0 pc' : Nat} {g : JFrame} {rm : Room} {v : Option Value} {B : Pt} {rest : List Value}
    (h1 : C.s.Since vm0 k0) (h2 : k0 ≤ h.size) (h3 : Z.Warmed39 vm0) (h5 : T.heap = h) (h6 : Fr n0 locs) (h7 : C.p.tables.exec = Jvm.exec ∧ C.c.code = bs ∧ C.c.maxLocals = ml ∧ vm0.findClass own = some C.m.cls ∧ C.meth.locks = false)
    (k : ∀ t, Steps C.p.tables C.e C.below (T.setTop g) t → Steps C.p.tables C.e C.below C.s0 t)
    (X' : Stand C.p C.l C.e R ((C.s.setVm vm0).setVm B.U.vm) C.m C.args C.below C.meth C.c B.U B.locs B.cells B.slots) (hS' : (C.s.setVm vm0).Since B.U.vm B.U.heap.size) (hgr : T.heap.size ≤ B.U.heap.size)
    (hq : ∃ (L : List Loc) (Ds' : List Addr), Q v B.U.heap Ds' ∧ JJ Z n0 B.U.vm B.U.heap Ds' ∧ Fr n0 L ∧ B.locs = locs ++ L ∧ B.cells = ce + rm.cells ∧ B.slots = sl + rm.slots)
    (st : Steps C.p.tables C.e C.below (T.setTop g) (B.U.setTop (mkF C.m pc' Ls (v.toList ++ rest)))) :
    ∃ (v : Option Value) (h' : Heap) (Ds' : List Addr), Q v h' Ds' ∧ Rc C R own bs ml Z n0 (ce + rm.cells) (sl + rm.slots) pc' Ls (v.toList ++ rest) h' Ds' := by
  obtain ⟨L, Ds', hQ, hJ, hFr, e1, e2, e3⟩ := hq
  refine ⟨v, B.U.heap, Ds', hQ, B.U, B.locs, B.U.vm, B.U.heap.size, ?_, h1.trans hS' (by rw [h5] at hgr; exact Nat.le_trans h2 hgr), Nat.le_refl _, State.Warmed39.trans (t := C.s.setVm vm0) h3 hS'.1, hJ, rfl, ?_, ⟨h7.1, h7.2.1, h7.2.2.1, ?_, h7.2.2.2.2⟩, fun t ht => k _ (st.trans ht)⟩
  · rw [← e2, ← e3]; exact X'
  · rw [e1]; exact Fr.app h6 hFr
  · rw [hS'.1.alike.findClass]; exact h7.2.2.2.1
theorem Rc.callS {pc' : Nat} {y : MethodName} {idx ml' W : Nat} {by' : ByteArray} {ret' : Option FieldType} {rm : Room} {argsL : List Value} {Q : Option Value → Heap → List Addr → Prop} (H : Rc C R own bs ml Z n0 ce sl pc Ls S h Ds)
    (hlink : (Jvm.Cond.methodLink own idx y).before a0 Z = true) (hstat : (Jvm.Cond.static y).before a0 Z = true) (hinit : (Jvm.Cond.initialized y.cls).before a0 Z = true) (hcode : (Jvm.Cond.code y by' ml' ret').before a0 Z = true) (hy : NoMH y)
    (K : Ctr C.l Z y by' ml' ret' [] rm argsL.toArray h n0 Ds Q) (hsz : Ls.size = ml) (hlen : ∀ sig, parseMethodDescriptor y.desc = some sig → argsL.length = sig.parameters.length) (hst : S = argsL.reverse ++ rest) (hW : (rest.map fun v => v.category).sum = W)
    (hd : decode bs pc = .ok (.invokestatic idx, 3)) (hfr : rm.frames + 1 ≤ R.frames) (hlo : W + (ml' + 11) + rm.locals ≤ R.locals) (hce : ce + rm.cells ≤ R.cells) (hsl : sl + rm.slots ≤ R.slots) (hp : pc + 3 = pc') :
    ∃ (v : Option Value) (h' : Heap) (Ds' : List Addr), Q v h' Ds' ∧ Rc C R own bs ml Z n0 (ce + rm.cells) (sl + rm.slots) pc' Ls (v.toList ++ rest) h' Ds' := by
  subst hp hst
  obtain ⟨T, locs, vm0, k0, X, h1, h2, h3, h4, h5, h6, h7, k⟩ := H
  obtain ⟨v, vm₁, B, hw1, X', hS', hgr, hq, st⟩ := callSS X h7.1 h7.2.2.2.1 (mvT (s := C.s.setVm vm0) h3 hlink) (mvT (s := C.s.setVm vm0) h3 hstat) (mvT (s := C.s.setVm vm0) h3 hinit) (mvT (s := C.s.setVm vm0) h3 hcode) hy (ctrBack (s := C.s.setVm vm0) (W := W) K h3 h4 hcode hinit hfr hlo) (g := mkF C.m pc Ls (argsL.reverse ++ rest)) rfl (hsz.trans h7.2.2.1.symm) hlen rfl (by show 2 * 0 + _ ≤ _; omega) (hb h7.2.1 hd) (fun vm₁ hw => ⟨rfl, h5, hce, hsl⟩)
  exact own_fin h1 h2 h3 h5 h6 h7 k X' hS' hgr hq st
theorem Rc.callSN {pc' : Nat} {y : MethodName} {host : String} {idx ml' W : Nat} {by' : ByteArray} {ret' : Option FieldType} {rm : Room} {argsL : List Value} {Q : Option Value → Heap → List Addr → Prop} (H : Rc C R own bs ml Z n0 ce sl pc Ls S h Ds)
    (hlink : (Jvm.Cond.methodLinkNest own idx y host).before a0 Z = true) (hstat : (Jvm.Cond.static y).before a0 Z = true) (hinit : (Jvm.Cond.initialized y.cls).before a0 Z = true) (hcode : (Jvm.Cond.code y by' ml' ret').before a0 Z = true) (hy : NoMH y)
    (K : Ctr C.l Z y by' ml' ret' [] rm argsL.toArray h n0 Ds Q) (hsz : Ls.size = ml) (hlen : ∀ sig, parseMethodDescriptor y.desc = some sig → argsL.length = sig.parameters.length) (hst : S = argsL.reverse ++ rest) (hW : (rest.map fun v => v.category).sum = W)
    (hd : decode bs pc = .ok (.invokestatic idx, 3)) (hfr : rm.frames + 1 ≤ R.frames) (hlo : W + (ml' + 11) + rm.locals ≤ R.locals) (hce : ce + rm.cells ≤ R.cells) (hsl : sl + rm.slots ≤ R.slots) (hp : pc + 3 = pc') :
    ∃ (v : Option Value) (h' : Heap) (Ds' : List Addr), Q v h' Ds' ∧ Rc C R own bs ml Z n0 (ce + rm.cells) (sl + rm.slots) pc' Ls (v.toList ++ rest) h' Ds' := by
  subst hp hst
  obtain ⟨T, locs, vm0, k0, X, h1, h2, h3, h4, h5, h6, h7, k⟩ := H
  obtain ⟨v, vm₁, B, hw1, X', hS', hgr, hq, st⟩ := callSNS X h7.1 h7.2.2.2.1 (Jvm.Cond.methodLinkNest_wide h3 hlink) (mvT (s := C.s.setVm vm0) h3 hstat) (mvT (s := C.s.setVm vm0) h3 hinit) (mvT (s := C.s.setVm vm0) h3 hcode) hy (ctrBack (s := C.s.setVm vm0) (W := W) K h3 h4 hcode hinit hfr hlo) (g := mkF C.m pc Ls (argsL.reverse ++ rest)) rfl (hsz.trans h7.2.2.1.symm) hlen rfl (by show 2 * 0 + _ ≤ _; omega) (hb h7.2.1 hd) (fun vm₁ hw => ⟨rfl, h5, hce, hsl⟩)
  exact own_fin h1 h2 h3 h5 h6 h7 k X' hS' hgr hq st
theorem Rc.callI {pc' : Nat} {y : MethodName} {idx ml' W : Nat} {by' : ByteArray} {rm : Room} {a : Addr} {argsL : List Value} {Q : Option Value → Heap → List Addr → Prop} (H : Rc C R own bs ml Z n0 ce sl pc Ls S h Ds) (hy1 : y.name = "<init>")
    (hlink : (Jvm.Cond.methodLink own idx y).before a0 Z = true) (hinst : (Jvm.Cond.instanceMethod y).before a0 Z = true) (hinit : (Jvm.Cond.initialized y.cls).before a0 Z = true) (hcode : (Jvm.Cond.code y by' ml' none).before a0 Z = true) (hy : NoMH y)
    (K : Ctr C.l Z y by' ml' none [] rm (.ref a :: argsL).toArray h n0 Ds Q) (hsz : Ls.size = ml) (hlen : ∀ sig, parseMethodDescriptor y.desc = some sig → argsL.length = sig.parameters.length) (hst : S = argsL.reverse ++ .ref a :: rest) (hW : (rest.map fun v => v.category).sum = W)
    (hd : decode bs pc = .ok (.invokespecial idx, 3)) (hfr : rm.frames + 1 ≤ R.frames) (hlo : W + (ml' + 11) + rm.locals ≤ R.locals) (hce : ce + rm.cells ≤ R.cells) (hsl : sl + rm.slots ≤ R.slots) (hp : pc + 3 = pc') :
    ∃ (v : Option Value) (h' : Heap) (Ds' : List Addr), Q v h' Ds' ∧ Rc C R own bs ml Z n0 (ce + rm.cells) (sl + rm.slots) pc' Ls (v.toList ++ rest) h' Ds' := by
  subst hp hst
  obtain ⟨T, locs, vm0, k0, X, h1, h2, h3, h4, h5, h6, h7, k⟩ := H
  obtain ⟨v, vm₁, B, hw1, X', hS', hgr, hq, st⟩ := X.specialBackS h7.1 hy1 h7.2.2.2.1 (mvT (s := C.s.setVm vm0) h3 hlink) (mvT (s := C.s.setVm vm0) h3 hinst) (mvT (s := C.s.setVm vm0) h3 hcode) hy (ctrBack (s := C.s.setVm vm0) (W := W) K h3 h4 hcode hinit hfr hlo) (g := mkF C.m pc Ls (argsL.reverse ++ .ref a :: rest)) rfl (hsz.trans h7.2.2.1.symm) (Steps.refl _) hlen rfl (by show 2 * 0 + _ ≤ _; omega) (hb h7.2.1 hd) (fun vm₁ hw => ⟨rfl, h5, hce, hsl⟩)
  exact own_fin h1 h2 h3 h5 h6 h7 k X' hS' hgr hq st
theorem Rc.callV {pc' : Nat} {y z : MethodName} {Cc : String} {idx ml' W : Nat} {by' : ByteArray} {ret' : Option FieldType} {rm : Room} {a : Addr} {argsL : List Value} {Q : Option Value → Heap → List Addr → Prop} (H : Rc C R own bs ml Z n0 ce sl pc Ls S h Ds)
    (hlink : (Jvm.Cond.methodLink own idx y).before a0 Z = true) (hdecl : (Jvm.Cond.declares y).before a0 Z = true) (hnf : ∀ s' : State, Z.Warmed39 s'.vm → NotFace s' y) (hsel : (Jvm.Cond.selects Cc y z).before a0 Z = true) (hinst : (Jvm.Cond.instanceMethod z).before a0 Z = true) (hinit : (Jvm.Cond.initialized z.cls).before a0 Z = true) (hcode : (Jvm.Cond.code z by' ml' ret').before a0 Z = true) (hy : NoMH y)
    (E : Exa Z h a Cc) (K : Ctr C.l Z z by' ml' ret' [] rm (.ref a :: argsL).toArray h n0 Ds Q) (hsz : Ls.size = ml) (hlen : ∀ sig, parseMethodDescriptor y.desc = some sig → argsL.length = sig.parameters.length) (hst : S = argsL.reverse ++ .ref a :: rest) (hW : (rest.map fun v => v.category).sum = W)
    (hd : decode bs pc = .ok (.invokevirtual idx, 3)) (hfr : rm.frames + 1 ≤ R.frames) (hlo : W + (ml' + 11) + rm.locals ≤ R.locals) (hce : ce + rm.cells ≤ R.cells) (hsl : sl + rm.slots ≤ R.slots) (hp : pc + 3 = pc') :
    ∃ (v : Option Value) (h' : Heap) (Ds' : List Addr), Q v h' Ds' ∧ Rc C R own bs ml Z n0 (ce + rm.cells) (sl + rm.slots) pc' Ls (v.toList ++ rest) h' Ds' := by
  subst hp hst
  obtain ⟨T, locs, vm0, k0, X, h1, h2, h3, h4, h5, h6, h7, k⟩ := H
  obtain ⟨cq, kq, qa, qb, qc⟩ := isOf (s := C.s.setVm vm0) h3 h5 E
  obtain ⟨v, vm₁, B, hw1, X', hS', hgr, hq, st⟩ := X.virtualBackS h7.1 (y := y) (z := z) h7.2.2.2.1 (mvT (s := C.s.setVm vm0) h3 hlink) (mvT (s := C.s.setVm vm0) h3 hdecl) (hnf _ h3) (mvT (s := C.s.setVm vm0) h3 hsel) (mvT (s := C.s.setVm vm0) h3 hinst) hy (ctrBack (s := C.s.setVm vm0) (W := W) K h3 h4 hcode hinit hfr hlo) qa qc (g := mkF C.m pc Ls (argsL.reverse ++ .ref a :: rest)) rfl (hsz.trans h7.2.2.1.symm) (Steps.refl _) hlen rfl (by show 2 * 0 + _ ≤ _; omega) (hb h7.2.1 hd) (fun vm₁ hw => ⟨rfl, h5, hce, hsl⟩)
  exact own_fin h1 h2 h3 h5 h6 h7 k X' hS' hgr hq st
/-! calls by a Back (a law of the library's) -/
theorem own_finB {Qb : Option Value → Heap → List Loc → Prop} {T : State} {locs : List Loc} {vm0 : Vm} {k0 pc' kc ks : Nat} {g : JFrame} {v : Option Value} {B : Pt} {rest : List Value}
    (h1 : C.s.Since vm0 k0) (h2 : k0 ≤ h.size) (h3 : Z.Warmed39 vm0) (h4 : JJ Z n0 vm0 h Ds) (h6 : Fr n0 locs) (h7 : C.p.tables.exec = Jvm.exec ∧ C.c.code = bs ∧ C.c.maxLocals = ml ∧ vm0.findClass own = some C.m.cls ∧ C.meth.locks = false)
    (k : ∀ t, Steps C.p.tables C.e C.below (T.setTop g) t → Steps C.p.tables C.e C.below C.s0 t)
    (hQ : ∀ v h' L, Qb v h' L → Fr n0 L ∧ ∃ ws, Keep h h' ws ∧ ∀ x ∈ ws, x ∈ Ds)
    (X' : Stand C.p C.l C.e R (C.s.setVm vm0) C.m C.args C.below C.meth C.c B.U B.locs B.cells B.slots)
    (hq : ∃ (L : List Loc), Qb v B.U.heap L ∧ B.locs = locs ++ L ∧ B.cells = ce + kc ∧ B.slots = sl + ks)
    (st : ∀ t, Steps C.p.tables C.e C.below (B.U.setTop (mkF C.m pc' Ls (v.toList ++ rest))) t → Steps C.p.tables C.e C.below (T.setTop g) t) :
    ∃ (v : Option Value) (h' : Heap) (L : List Loc), Qb v h' L ∧ Rc C R own bs ml Z n0 (ce + kc) (sl + ks) pc' Ls (v.toList ++ rest) h' Ds := by
  obtain ⟨L, hQb, e1, e2, e3⟩ := hq
  obtain ⟨hFr, ws, K, hws⟩ := hQ _ _ _ hQb
  refine ⟨v, B.U.heap, L, hQb, B.U, B.locs, vm0, k0, ?_, h1, Nat.le_trans h2 K.1, h3, h4.keep K hws, rfl, ?_, h7, fun t ht => k _ (st _ ht)⟩
  · rw [← e2, ← e3]; exact X'
  · rw [e1]; exact Fr.app h6 hFr
theorem Rc.backI {pc' : Nat} {y : MethodName} {idx ml' W kc ks : Nat} {by' : ByteArray} {a : Addr} {argsL : List Value} {Qb : Option Value → Heap → List Loc → Prop} (H : Rc C R own bs ml Z n0 ce sl pc Ls S h Ds) (hy1 : y.name = "<init>")
    (hlink : (Jvm.Cond.methodLink own idx y).before a0 Z = true) (hinst : (Jvm.Cond.instanceMethod y).before a0 Z = true) (hcode : (Jvm.Cond.code y by' ml' none).before a0 Z = true) (hy : NoMH y)
    (K : ∀ s' : State, Z.Warmed39 s'.vm → Back C.l R C.p C.e C.below s' C.args y 3 W (fun P a' => a' = (.ref a :: argsL).toArray ∧ P.U.heap = h ∧ P.cells + kc ≤ R.cells ∧ P.slots + ks ≤ R.slots) (fun P _ v B => ∃ L, Qb v B.U.heap L ∧ B.locs = P.locs ++ L ∧ B.cells = P.cells + kc ∧ B.slots = P.slots + ks))
    (hQ : ∀ v h' L, Qb v h' L → Fr n0 L ∧ ∃ ws, Keep h h' ws ∧ ∀ x ∈ ws, x ∈ Ds) (hsz : Ls.size = ml) (hlen : ∀ sig, parseMethodDescriptor y.desc = some sig → argsL.length = sig.parameters.length) (hst : S = argsL.reverse ++ .ref a :: rest) (hW : (rest.map fun v => v.category).sum = W)
    (hd : decode bs pc = .ok (.invokespecial idx, 3)) (hce : ce + kc ≤ R.cells) (hsl : sl + ks ≤ R.slots) (hp : pc + 3 = pc') :
    ∃ (v : Option Value) (h' : Heap) (L : List Loc), Qb v h' L ∧ Rc C R own bs ml Z n0 (ce + kc) (sl + ks) pc' Ls (v.toList ++ rest) h' Ds := by
  subst hp hst
  obtain ⟨T, locs, vm0, k0, X, h1, h2, h3, h4, h5, h6, h7, k⟩ := H
  obtain ⟨v, vm₁, B, hw1, X', hq, st⟩ := X.specialBack h7.1 hy1 h7.2.2.2.1 (mvT (s := C.s.setVm vm0) h3 hlink) (mvT (s := C.s.setVm vm0) h3 hinst) (mvT (s := C.s.setVm vm0) h3 hcode) hy (K _ h3) (g := mkF C.m pc Ls (argsL.reverse ++ .ref a :: rest)) rfl (hsz.trans h7.2.2.1.symm) (Steps.refl _) hlen rfl (by show 2 * 0 + _ ≤ _; omega) (hb h7.2.1 hd) (fun vm₁ hw => ⟨rfl, h5, hce, hsl⟩)
  exact own_finB h1 h2 h3 h4 h6 h7 k hQ X' hq (fun t ht => st.trans ht)
theorem Rc.backV {pc' : Nat} {y z : MethodName} {Cc : String} {idx W kc ks : Nat} {a : Addr} {argsL : List Value} {Qb : Option Value → Heap → List Loc → Prop} (H : Rc C R own bs ml Z n0 ce sl pc Ls S h Ds)
    (hlink : (Jvm.Cond.methodLink own idx y).before a0 Z = true) (hdecl : (Jvm.Cond.declares y).before a0 Z = true) (hnf : ∀ s' : State, Z.Warmed39 s'.vm → NotFace s' y) (hsel : (Jvm.Cond.selects Cc y z).before a0 Z = true) (hinst : (Jvm.Cond.instanceMethod z).before a0 Z = true) (hy : NoMH y) (E : Exa Z h a Cc)
    (K : ∀ s' : State, Z.Warmed39 s'.vm → Back C.l R C.p C.e C.below s' C.args z 3 W (fun P a' => a' = (.ref a :: argsL).toArray ∧ P.U.heap = h ∧ P.cells + kc ≤ R.cells ∧ P.slots + ks ≤ R.slots) (fun P _ v B => ∃ L, Qb v B.U.heap L ∧ B.locs = P.locs ++ L ∧ B.cells = P.cells + kc ∧ B.slots = P.slots + ks))
    (hQ : ∀ v h' L, Qb v h' L → Fr n0 L ∧ ∃ ws, Keep h h' ws ∧ ∀ x ∈ ws, x ∈ Ds) (hsz : Ls.size = ml) (hlen : ∀ sig, parseMethodDescriptor y.desc = some sig → argsL.length = sig.parameters.length) (hst : S = argsL.reverse ++ .ref a :: rest) (hW : (rest.map fun v => v.category).sum = W)
    (hd : decode bs pc = .ok (.invokevirtual idx, 3)) (hce : ce + kc ≤ R.cells) (hsl : sl + ks ≤ R.slots) (hp : pc + 3 = pc') :
    ∃ (v : Option Value) (h' : Heap) (L : List Loc), Qb v h' L ∧ Rc C R own bs ml Z n0 (ce + kc) (sl + ks) pc' Ls (v.toList ++ rest) h' Ds := by
  subst hp hst
  obtain ⟨T, locs, vm0, k0, X, h1, h2, h3, h4, h5, h6, h7, k⟩ := H
  obtain ⟨cq, kq, qa, qb, qc⟩ := isOf (s := C.s.setVm vm0) h3 h5 E
  obtain ⟨v, vm₁, B, hw1, X', hq, st⟩ := X.virtualBack h7.1 (y := y) (z := z) h7.2.2.2.1 (mvT (s := C.s.setVm vm0) h3 hlink) (mvT (s := C.s.setVm vm0) h3 hdecl) (hnf _ h3) (mvT (s := C.s.setVm vm0) h3 hsel) (mvT (s := C.s.setVm vm0) h3 hinst) hy (K _ h3) qa qc (g := mkF C.m pc Ls (argsL.reverse ++ .ref a :: rest)) rfl (hsz.trans h7.2.2.1.symm) (Steps.refl _) hlen rfl (by show 2 * 0 + _ ≤ _; omega) (hb h7.2.1 hd) (fun vm₁ hw => ⟨rfl, h5, hce, hsl⟩)
  exact own_finB h1 h2 h3 h4 h6 h7 k hQ X' hq (fun t ht => st.trans ht)
/-! returns -/
theorem Rc.retX {Q : Option Value → Heap → List Addr → Prop} {v : Option Value} {kc ks : Nat} {Ds' : List Addr} (H : Rc C R own bs ml Z n0 ce sl pc Ls S h Ds) (hv : C.meth.sig.returnType = none → v = none)
    (f : ∀ (s T : State) (locs : List Loc) (fs : List Frame), Stand C.p C.l C.e R s C.m C.args C.below C.meth C.c T locs ce sl → C.p.tables.exec = Jvm.exec → C.c.code = bs → (∀ (f : JFrame) (acts : List Action), f.method = C.m → f.locked = none → f.entered = [] → (doReturn C.e (T.setTop f) acts v).1 = T.setFrames fs) → Steps C.p.tables C.e C.below (T.setTop (mkF C.m pc Ls S)) (T.setFrames fs))
    (hk : ce ≤ kc) (hs : sl ≤ ks) (hds : ∀ x ∈ Ds', x ∈ Ds) (hq : Q v h Ds') : Done C Z n0 Q kc ks := by
  obtain ⟨T, locs, vm0, k0, X, h1, h2, h3, h4, h5, h6, h7, k⟩ := H
  obtain ⟨fs, hr, hrun, hend, hE⟩ := X.leaveW h1 (by rw [h5]; exact h2) hv h7.2.2.2.2
  refine ⟨T.setFrames fs, .returned v, k _ (f _ T locs fs X h7.1 h7.2.1 hr), hrun, hend, v, locs, Ds', rfl, ?_, ?_, h6, hE.1, hE.2.1, hE.2.2.1, hE.2.2.2.mono hk hs⟩
  · show Q v T.heap Ds'
    rw [h5]; exact hq
  · show JJ Z n0 T.vm T.heap Ds'
    rw [h5]
    exact (JJ.warm (t := C.s.setVm vm0) h4 h3 X.warmed).less hds
theorem Rc.retI {Q : Option Value → Heap → List Addr → Prop} {z : Int32} {kc ks : Nat} {Ds' : List Addr} (H : Rc C R own bs ml Z n0 ce sl pc Ls (.int z :: rest) h Ds) (hret : C.meth.sig.returnType = some .int) (hd : decode bs pc = .ok (.ireturn, 1)) (hk : ce ≤ kc) (hs : sl ≤ ks) (hds : ∀ x ∈ Ds', x ∈ Ds) (hq : Q (some (.int z)) h Ds') : Done C Z n0 Q kc ks :=
  H.retX (v := some (.int z)) (fun e => by rw [hret] at e; cases e) (fun s T locs fs X hx hby hr => retOut X hx hret rfl (Or.inl ⟨rfl, Or.inl rfl, z, rfl⟩) (hb hby hd) hr) hk hs hds hq
theorem Rc.retN {Q : Option Value → Heap → List Addr → Prop} {z z' : Int32} {t : FieldType} {kc ks : Nat} {Ds' : List Addr} (H : Rc C R own bs ml Z n0 ce sl pc Ls (.int z :: rest) h Ds) (hret : C.meth.sig.returnType = some t) (ht : t = .boolean ∨ t = .byte ∨ t = .char ∨ t = .short) (hz : nar t z = z') (hd : decode bs pc = .ok (.ireturn, 1)) (hk : ce ≤ kc) (hs : sl ≤ ks) (hds : ∀ x ∈ Ds', x ∈ Ds) (hq : Q (some (.int z')) h Ds') : Done C Z n0 Q kc ks := by
  subst hz
  exact H.retX (v := some (.int (nar t z))) (fun e => by rw [hret] at e; cases e) (fun s T locs fs X hx hby hr => RoadKit.retN X hx hret ht (hb hby hd) hr) hk hs hds hq
theorem Rc.retA {Q : Option Value → Heap → List Addr → Prop} {w : Value} {t : FieldType} {kc ks : Nat} {Ds' : List Addr} (H : Rc C R own bs ml Z n0 ce sl pc Ls (w :: rest) h Ds) (hret : C.meth.sig.returnType = some t) (ht : t.isReference = true) (hn : narrow t w = w) (hw : w.isRef = true) (hd : decode bs pc = .ok (.areturn, 1)) (hk : ce ≤ kc) (hs : sl ≤ ks) (hds : ∀ x ∈ Ds', x ∈ Ds) (hq : Q (some w) h Ds') : Done C Z n0 Q kc ks :=
  H.retX (v := some w) (fun e => by rw [hret] at e; cases e) (fun s T locs fs X hx hby hr => retOut X hx hret hn (Or.inr (Or.inr (Or.inr (Or.inr ⟨rfl, ht, hw⟩)))) (hb hby hd) hr) hk hs hds hq
theorem Rc.retV {Q : Option Value → Heap → List Addr → Prop} {kc ks : Nat} {Ds' : List Addr} (H : Rc C R own bs ml Z n0 ce sl pc Ls [] h Ds) (hret : C.meth.sig.returnType = none) (hd : decode bs pc = .ok (.return_, 1)) (hk : ce ≤ kc) (hs : sl ≤ ks) (hds : ∀ x ∈ Ds', x ∈ Ds) (hq : Q none h Ds') : Done C Z n0 Q kc ks :=
  H.retX (v := none) (fun _ => rfl) (fun s T locs fs X hx hby hr => X.returnOut hx hret (hb hby hd) hr) hk hs hds hq
/-! Strings -/
abbrev STR0 : String := "java/lang/String"
def bytesOfCs (cs : List Int32) : List Value := (cs.map fun c => c.toInt8.toInt32).map Value.int
def IsStr (Z : State) (h : Heap) (a : Addr) (cs : List Int32) : Prop :=
  Exa Z h a "java/lang/String" ∧ Fld Z h a "java/lang/String" "coder" "B" (.int 0) ∧ (∀ c ∈ cs, ¬ c < 0 ∧ ¬ (255 : Int32) < c) ∧ cs.length ≤ 4000 ∧
    ∃ (t : Addr) (kb : ClassId), Fld Z h a "java/lang/String" "value" "[B" (.ref t) ∧ Arv Z h t kb .byte (Int32.ofNat cs.length) (bytesOfCs cs) (.int 0)
def NotB (Z : State) (h : Heap) (w : Addr) : Prop := ∀ (t : Addr) (kb : ClassId) (z : Int32) (vs : List Value) (d : Value), Arv Z h t kb .byte z vs d → t ≠ w
theorem notB_exa {Z : State} {h : Heap} {w : Addr} {Cc : String} {n : Nat} {a0 : Array Value} (E : Exa Z h w Cc) (wi : (Jvm.Cond.instantiable Cc n).before a0 Z = true) : NotB Z h w := fun t kb z vs d F e => (E.neArv F wi) e.symm
theorem notB_arv {Z : State} {h : Heap} {w : Addr} {k : ClassId} {ty : FieldType} {z : Int32} {vs : List Value} {dv : Value} (V : Arv Z h w k ty z vs dv) (hty : ty ≠ .byte) : NotB Z h w := fun t kb z' vs' d F e => by
  subst e
  obtain ⟨c1, A1, -⟩ := F
  obtain ⟨c2, A2, -⟩ := V
  cases A1.1.symm.trans A2.1
  obtain ⟨-, k1, p1, comp1, q1⟩ := A1.2.1
  obtain ⟨-, k2, p2, comp2, q2⟩ := A2.2.1
  cases p1.symm.trans p2
  rw [q1] at q2
  cases q2
  exact hty rfl
theorem notB_new {Z : State} {h : Heap} {w : Addr} (e : h.size ≤ w) : NotB Z h w := fun t kb z vs d F q => by subst q; exact absurd F.lt (Nat.not_lt.mpr e)
theorem IsStr.keep {Z : State} {h h' : Heap} {a : Addr} {cs : List Int32} {ws : List Addr} (F : IsStr Z h a cs) (K : Keep h h' ws) (q : a ∉ ws) (q' : ∀ w ∈ ws, NotB Z h w) : IsStr Z h' a cs := by
  obtain ⟨f1, f2, f3, f4, t, kb, f5, f6⟩ := F
  exact ⟨f1.keep K, f2.keep K q, f3, f4, t, kb, f5.keep K q, f6.keep K (fun m => q' t m t kb _ _ _ f6 rfl)⟩
theorem IsStr.ext {Z : State} {h h' : Heap} {a : Addr} {cs : List Int32} (F : IsStr Z h a cs) (E : Ext h h') : IsStr Z h' a cs := F.keep ((Keep.refl h []).ext E) (fun m => nomatch m) (fun w m => nomatch m)
theorem IsStr.lt {Z : State} {h : Heap} {a : Addr} {cs : List Int32} (F : IsStr Z h a cs) : a < h.size := F.1.lt
theorem byte_of (n : Nat) (h : n < 256) : Jvm.Lit.byteI n.toUInt16 = (Int32.ofNat n).toInt8.toInt32 := by
  have t : ∀ k : Fin 256, Jvm.Lit.byteI k.val.toUInt16 = (Int32.ofNat k.val).toInt8.toInt32 := by decide +kernel
  exact t ⟨n, h⟩
theorem chr_of (n : Nat) (h : n < 256) : ¬ Int32.ofNat n < 0 ∧ ¬ (255 : Int32) < Int32.ofNat n := by
  have t : ∀ k : Fin 256, ¬ Int32.ofNat k.val < 0 ∧ ¬ (255 : Int32) < Int32.ofNat k.val := by decide +kernel
  exact t ⟨n, h⟩
theorem Sx.slOf {Z T : State} {h : Heap} {Ds : List Addr} {a : Addr} {u : Array UInt16} (F : Sx Z h Ds a u) (hal : Z.vm.Alike T.vm) (e : T.heap = h) : SlOf T a u := by
  obtain ⟨q, cS, h1, h2, ⟨kS, k1, k2, k3⟩, h4, h5, -, -⟩ := F
  obtain ⟨kS', hk', ek⟩ := hal.2.2 _ _ k1
  exact ⟨q, cS, h1, Sl.carry (U := ({ Z with heap := h } : State)) hal (by rw [e]; exact h2.1.1) (by rw [e]; exact h2.1.2.2.2.2.2.2.2.2.2.1) h2, ⟨kS', hk', by rw [ek]; exact k2, by rw [ek]; exact k3⟩, by rw [hal.findClass]; exact h4, h5⟩
theorem Sx.of_in {Z T : State} {Ds : List Addr} {a : Addr} {u : Array UInt16} {lo hi : Nat} (F : SlIn lo hi T a u) (hal : T.vm.Alike Z.vm) (hlo : lo ≤ hi) (ha : hi ≤ a) (hD : ∀ x ∈ Ds, x < hi) : Sx Z T.heap Ds a u := by
  obtain ⟨q, cS, h1, h2, ⟨kS, k1, k2, k3⟩, h4, h5, h6⟩ := F
  obtain ⟨kS', hk', ek⟩ := hal.2.2 _ _ k1
  subst h1
  have hb : hi ≤ q.sd := by
    rcases h6 with ⟨x, -⟩ | ⟨-, y⟩
    · exact absurd (Nat.lt_of_lt_of_le x hlo) (Nat.not_lt.mpr ha)
    · exact y
  exact ⟨q, cS, rfl, Sl.carry (U' := ({ Z with heap := T.heap } : State)) hal h2.1.1 h2.1.2.2.2.2.2.2.2.2.2.1 h2, ⟨kS', hk', by rw [ek]; exact k2, by rw [ek]; exact k3⟩, by rw [hal.findClass]; exact h4, h5, fun m => absurd (hD _ m) (Nat.not_lt.mpr ha), fun m => absurd (hD _ m) (Nat.not_lt.mpr hb)⟩
theorem Sx.str {Z : State} {h : Heap} {Ds : List Addr} {a : Addr} {units : Array UInt16} {text : String} {cs : List Int32} (F : Sx Z h Ds a units) (htext : utf16ToString? units = some text) (hlat : ∀ c ∈ text.toList, c.toNat < 256) (hcs : text.toList.map (fun c => Int32.ofNat c.toNat) = cs) (hlen : cs.length ≤ 4000) : IsStr Z h a cs ∧ a ∉ Ds := by
  obtain ⟨q, cS, hqa, ⟨⟨s1, s2, s3, ⟨cv, kv, iv, s4, s4'⟩, ⟨cc, kc, ic, s5, s5'⟩, s6, s7, s8, s9, s10, s11, s12, s13, s14, s15, s16⟩, hfS, hcS⟩, ⟨kS, k1, k2, k3⟩, hB, hbyt, hn1, hn2⟩ := F
  subst hqa
  have hl := Jvm.ClassFile.lat_of_text htext hlat
  have eu : bytesOfCs cs = units.toList.map fun u => Value.int (Jvm.Lit.byteI u) := by
    rw [Jvm.ClassFile.units_of_text htext hlat, List.map_map, ← hcs]
    show List.map Value.int (List.map (fun c => c.toInt8.toInt32) (List.map (fun c => Int32.ofNat c.toNat) text.toList)) = _
    rw [List.map_map, List.map_map]
    refine List.map_congr_left fun c hc => ?_
    show Value.int ((Int32.ofNat c.toNat).toInt8.toInt32) = Value.int (Jvm.Lit.byteI c.toNat.toUInt16)
    rw [byte_of _ (hlat c hc)]
  have el : cs.length = units.size := by
    have := congrArg List.length eu
    simpa [bytesOfCs] using this
  have hsl : q.SA.slots = units.map fun u => Value.int (Jvm.Lit.byteI u) := by rw [hbyt, SBG.stringBytes_lat hl]; rfl
  have hsz : q.SA.slots.size = units.size := by rw [hsl, Array.size_map]
  have Hh : Has q.SA (bytesOfCs cs) (.int 0) := fun j hj => by
    have hj' : j < units.size := by omega
    rw [hsl, eu]; simp [hj']
  have n32 : (Int32.ofNat cs.length).toNatClampNeg = cs.length := by
    have t : (Int32.ofNat cs.length).toInt = (cs.length : Int) := Int32.toInt_ofNat_small (by omega)
    show (Int32.ofNat cs.length).toInt.toNat = cs.length
    omega
  have nneg : ¬ Int32.ofNat cs.length < 0 := by
    have t : (Int32.ofNat cs.length).toInt = (cs.length : Int) := Int32.toInt_ofNat_small (by omega)
    rw [Int32.lt_iff_toInt_lt]
    have z0 : (0 : Int32).toInt = 0 := rfl
    omega
  refine ⟨⟨⟨q.sC, kS, s1, by rw [hcS]; exact hfS, by rw [hcS]; exact k1, s3, fun _ => k3⟩, ⟨q.sC, cc, kc, ic, q.fSC, s1, s5, s7, s2, s3, s5', s9⟩, ?_, hlen, q.sd, q.SA.cls, ⟨q.sC, cv, kv, iv, q.fSV, s1, s4, s6, s2, s3, s4', s8⟩, ⟨q.SA, ⟨s10, s11, s12⟩, rfl, by rw [hsz, n32, el], nneg, Hh, fun j hj => ?_⟩⟩, hn1⟩
  · intro c hc
    rw [← hcs] at hc
    obtain ⟨ch, h1, rfl⟩ := List.mem_map.mp hc
    exact chr_of _ (hlat ch h1)
  · have e1 := s16 j hj
    have e2 := Hh j hj
    rw [SBG.getD_of e2] at e1
    exact e1
theorem own_atoms {Z s : State} {a0 args : Array Value} (hZ : Z.Warmed39 s.vm) (wS : ∀ a ∈ Bundle.stringAtoms, a.before a0 Z = true) : ∀ a ∈ Bundle.stringAtoms, a.before args s = true := fun d hd => by
  have q := wS d hd
  simp only [Bundle.stringAtoms, List.mem_cons, List.not_mem_nil, or_false] at hd
  rcases hd with rfl | rfl | rfl | rfl | rfl | rfl | rfl
  · exact mv hZ q
  · exact mv hZ q
  · exact mvA hZ q
  · exact mv hZ q
  · exact mv hZ q
  · exact mv hZ q
  · exact mv hZ q
theorem open_stays {s : State} {vm' : Vm} (hW : s.WarmedH vm') {c : ClassId} {k k' : Class} {cf : ClassFile} {idx : Nat} {text : String} (hk : s.vm.classes[c]? = some k) (hk' : vm'.classes[c]? = some k') (hcf : k.cf = some cf) (hnm : namesOf? cf.constantPool idx = some (.string text)) (ho : k.resolved[idx]? = some none) : k'.resolved[idx]? = some none := by
  obtain ⟨-, -, hfw⟩ := hW
  obtain ⟨k2, hk2, -, -, ee, -⟩ := hfw _ k hk
  cases hk2.symm.trans hk'
  rcases ee idx with e0 | ⟨-, r, -, hr⟩
  · exact e0.trans ho
  · exfalso
    cases r <;> simp [State.rightAt, hk, hcf, hnm] at hr
/-- 'ldc' of a String constant at the state at hand -/
theorem ldcNow {p : Program} {l : Launch} {e : Env} {R : Room} {s : State} {m : MethodId} {args : Array Value} {below : List Frame} {meth : Method} {c : Code} {T : State} {locs : List Loc} {cells slots : Nat}
    (X : Stand p l e R s m args below meth c T locs cells slots) (hexec : p.tables.exec = Jvm.exec) {own text : String} {index : Nat} (hown : T.vm.findClass own = some m.cls)
    (hlink : (Jvm.Cond.stringLink own index text).before args T = true) (hS : ∀ a ∈ Bundle.stringAtoms, a.before args T = true) (hheld : ConstHeldL T own index) (hlat : ∀ units : Array UInt16, utf16ToString? units = some text → units.all (· < 256) = true)
    {g : JFrame} (hg : g.method = m) (hdg : decode c.code g.pc = .ok (.ldc index, 2)) {n : Nat} (hn : 4 * text.toList.length ≤ n) (hbig : n ≤ 536870912) (hRcells : cells + 2 ≤ R.cells) (hRslots : slots + (n + 4) ≤ R.slots) :
    ∃ (a : Addr) (T₂ : State), Stand p l e R (s.setVm T₂.vm) m args below meth c T₂ locs (cells + 2) (slots + (n + 4)) ∧ s.Since T₂.vm T₂.heap.size ∧ (∃ k₂, T₂.vm.classes[m.cls]? = some k₂ ∧ k₂.resolved[index]? = some (some (.string a))) ∧
      (∀ a0, a0 < T.heap.size → T₂.heap[a0]? = T.heap[a0]?) ∧ T.heap.size ≤ T₂.heap.size ∧ T.Warmed39 T₂.vm ∧ T.Interned1 T₂ ∧ (T₂.vm.interned = T.vm.interned ∨ ∃ (units : Array UInt16) (a' : Addr), utf16ToString? units = some text ∧ T₂.vm.interned = T.vm.interned.push (units, a')) ∧
      (∃ units : Array UInt16, utf16ToString? units = some text ∧ SlIn T.heap.size T.heap.size T₂ a units) ∧
      ∀ target, Steps p.tables e below (T₂.setTop { g with pc := g.pc + 2, stack := .ref a :: g.stack }) target → Steps p.tables e below (T.setTop g) target := by
  obtain ⟨g₀, hf0⟩ := X.frames_eq
  have hcur : T.cur < T.threads.size := State.cur_lt_of_frames hf0
  obtain ⟨th, hth, -⟩ := State.frames_cons hf0
  have hF : (T.setFrames (.invoking m args :: below)).frames = .invoking m args :: below := State.frames_setFrames _ hcur
  have hme : (T.setFrames (.invoking m args :: below)).me.stackBytes = T.me.stackBytes := by
    simp [State.me, State.setFrames, Array.getElem_modify, hcur]
  have hlim : e.platform.stackLimits (T.setFrames (.invoking m args :: below)).me = e.platform.stackLimits T.me := by
    show e.platform.limitsFor _ = e.platform.limitsFor _
    rw [hme]
  have hroom : (T.setFrames (.invoking m args :: below)).hasRoom e.platform ({ R with cells := R.cells - cells, slots := R.slots - slots } : Room) = true := by
    have h0 := X.room
    have hb := X.book
    have hsz := X.heapSize
    have hus := X.used
    have hU : (T.setFrames (.invoking m args :: below)).localsInUse = s.localsInUse := by
      rw [State.localsInUse_invoking hF (show (T.setFrames (.invoking m args :: below)).vm.method? m = some meth from X.method') X.code, State.localsInUse_invoking X.frames X.method X.code]
    have hfl : (T.setFrames (.invoking m args :: below)).frames.length = s.frames.length := by rw [hF, X.frames]
    unfold State.hasRoom at h0 ⊢
    rw [hU, hfl, hlim, X.limits, hme, X.bytes]
    simp only [Bool.and_eq_true, decide_eq_true_eq] at h0 ⊢
    obtain ⟨⟨⟨⟨q1, q2⟩, q3⟩, q4⟩, q5⟩ := h0
    refine ⟨⟨⟨⟨q1, q2⟩, ?_⟩, ?_⟩, hb⟩
    · show T.heap.size + (R.cells - cells) ≤ _
      omega
    · show T.slotsUsed + (R.slots - slots) ≤ _
      omega
  have hhears : (T.setFrames (.invoking m args :: below)).hears m below = true := by
    have h0 := X.hears
    have hmeth : ∀ mm : MethodId, (T.setFrames (.invoking m args :: below)).vm.method? mm = s.vm.method? mm := fun mm => X.warmed.alike.method? mm
    have hcode : ∀ mm : MethodId, (T.setFrames (.invoking m args :: below)).code? mm = s.code? mm := fun mm => by rw [State.code?_eq, State.code?_eq, hmeth]
    cases hb : below with
    | nil => rw [hb] at h0 hmeth; simp only [State.hears] at h0 ⊢; rw [hmeth]; exact h0
    | cons f r =>
      rw [hb] at h0 hmeth hcode
      cases f <;> simp only [State.hears] at h0 ⊢ <;> first | (rw [hcode]; exact h0) | (rw [hmeth]; exact h0) | exact h0
  have hsame : (T.setFrames (.invoking m args :: below)).sameButNew (T.setVm (T.setFrames (.invoking m args :: below)).vm) [] 0 0 := by
    have hd0 : T.heap.toList.drop T.heap.size = [] := List.drop_eq_nil_of_le (by simp)
    refine ⟨?_, Nat.le_refl _, Nat.le_refl _, ?_, ?_, fun a cl hcl => ⟨cl, hcl, rfl, rfl, fun _ _ => rfl⟩⟩
    · show T = { (T.setFrames (.invoking m args :: below)).setFrames T.frames with heap := T.heap, slotsUsed := T.slotsUsed }
      rw [State.setFrames_setFrames, State.setFrames_self hth]
    · show T.slotsUsed = T.slotsUsed + ((T.heap.toList.drop T.heap.size).map (·.slots.size)).sum
      rw [hd0]; rfl
    · show ((T.heap.toList.drop T.heap.size).map (·.slots.size)).sum ≤ 0
      rw [hd0]; exact Nat.le_refl _
  have X' : Stand p l e ({ R with cells := R.cells - cells, slots := R.slots - slots } : Room) (T.setFrames (.invoking m args :: below)) m args below meth c T [] 0 0 :=
    ⟨X.admits, X.cas, X.clock, hF, hroom, hhears, X.method', X.code, X.here, X.tail, State.WarmedH.refl (T.setFrames (.invoking m args :: below)), hlim.symm, hme.symm, hsame⟩
  obtain ⟨a, T₂, X2, hS2, hres, hkeep, hint1, hint, hin, st⟩ := X'.ldcColdF (fun b cl h => h) hexec (own := own) (text := text) (index := index) hown hlink (own_atoms (Z := T) (s := T.setFrames (.invoking m args :: below)) (State.Warmed39.refl T) hS) hheld hlat hg hdg hn hbig (by show 0 + 2 ≤ R.cells - cells; omega) (by show 0 + (n + 4) ≤ R.slots - slots; omega)
  have hsm : T.sameButNew (T₂.setVm T.vm) [] 2 (n + 4) := by
    have q := X2.same.setVm T.vm
    obtain ⟨r1, r2, r3, r4, r5, r6⟩ := q
    refine ⟨?_, r2, by simpa using r3, r4, by simpa using r5, r6⟩
    refine r1.trans ?_
    show ({ (T.setFrames (.invoking m args :: below)).setFrames T₂.frames with heap := T₂.heap, slotsUsed := T₂.slotsUsed } : State) = _
    rw [State.setFrames_setFrames]
    rfl
  obtain ⟨Y, hSY⟩ := X.movedW (T₂ := T₂) X2.here X2.tail (X2.limits.trans hlim) (X2.bytes.trans hme) hS2.1 hS2.2 hsm
  rw [List.append_nil] at Y
  exact ⟨a, T₂, Y, hSY, hres, hkeep, hint1.1, hS2.1, hint1, hint, hin, st⟩
theorem Rc.ldcS {pc' idx n : Nat} {text : String} {cs : List Int32} (H : Rc C R own bs ml Z n0 ce sl pc Ls S h Ds) (hm : (own, idx) ∈ CL) (w : (Jvm.Cond.stringLink own idx text).before a0 Z = true) (hlat : ∀ c ∈ text.toList, c.toNat < 256) (hcs : text.toList.map (fun c => Int32.ofNat c.toNat) = cs) (hlen : cs.length ≤ 4000)
    (hd : decode bs pc = .ok (.ldc idx, 2)) (hn : 4 * text.toList.length ≤ n) (hbig : n ≤ 536870912) (hc : ce + 2 ≤ R.cells) (hl : sl + (n + 4) ≤ R.slots) (hp : pc + 2 = pc') :
    ∃ (h' : Heap) (a : Addr), Ext h h' ∧ IsStr Z h' a cs ∧ a ∉ Ds ∧ Rc C R own bs ml Z n0 (ce + 2) (sl + (n + 4)) pc' Ls (.ref a :: S) h' Ds := by
  subst hp
  obtain ⟨T, locs, vm0, k0, X, h1, h2, h3, h4, h5, h6, h7, k⟩ := H
  obtain ⟨aS, -, -, -, wS⟩ := h4.2.2.2.1 own idx hm
  have hownB : (C.s.setVm vm0).vm.findClass own = some C.m.cls := h7.2.2.2.1
  have wB : (Jvm.Cond.stringLink own idx text).before C.args (C.s.setVm vm0) = true := mvS (s := C.s) h3 w
  obtain ⟨kB, cf, i, units, hkB, hcf, hpB, hu, hnm, htext, hres⟩ := Cond.stringLink_spec hownB wB
  rcases hres with hopen | ⟨a, hra⟩
  · -- open: the rebased cold law
    have hZT : Z.Warmed39 T.vm := State.Warmed39.trans (t := C.s.setVm vm0) h3 X.warmed.wide
    have JT : JJ Z n0 T.vm h Ds := JJ.warm (t := C.s.setVm vm0) h4 h3 X.warmed
    have hownT : T.vm.findClass own = some C.m.cls := by rw [X.warmed.alike.findClass]; exact hownB
    have wT : (Jvm.Cond.stringLink own idx text).before C.args T = true := mvS (s := T) (vm0 := T.vm) hZT w
    have hheld : ConstHeldL T own idx := fun c k cf i units a q1 q2 q3 q4 q5 q6 => (JT.2.2.2.2 own idx hm c k cf i units a q1 q2 q3 q4 q5 q6).slOf hZT.alike h5
    obtain ⟨a, T₂, X2, hS2, ⟨kk, hkk, hrr⟩, hkeep, hgr, hW2, hint1, hint, ⟨us, htu, hin⟩, st⟩ := ldcNow X h7.1 hownT wT (own_atoms hZT wS) hheld (fun units hu => Jvm.ClassFile.lat_of_text hu hlat) (g := mkF C.m pc Ls S) rfl (hb h7.2.1 hd) hn hbig hc hl
    have E : Ext h T₂.heap := by rw [← h5]; exact ext_of hkeep
    have sameU : ∀ u v : Array UInt16, utf16ToString? u = some text → utf16ToString? v = some text → u = v := fun u v hu hv => by
      apply Array.toList_inj.mp
      rw [Jvm.ClassFile.units_of_text hu hlat, Jvm.ClassFile.units_of_text hv hlat]
    -- the entry, as T and as T₂ have it
    obtain ⟨kT, cfT, iT, unT, hkT, hcfT, hpT, huT, hnmT, htT, hresT⟩ := Cond.stringLink_spec hownT wT
    obtain ⟨k2, hk2, hke2, -, ee2, -⟩ := hW2.2.2.2 _ kT hkT
    cases hk2.symm.trans hkk
    have hcl : CL = [] → Z.WarmedH T₂.vm := fun e => by rw [e] at hm; exact absurd hm (List.not_mem_nil)
    have hintJ : T₂.vm.interned = T.vm.interned ∨ ∃ (u : Array UInt16) (a' : Addr), T₂.vm.interned = T.vm.interned.push (u, a') ∧ (T.vm.interned.find? (fun p => p.1 == u) = none → Sx Z T₂.heap Ds a' u) := by
      rcases hint with e | ⟨u, a', hu', e⟩
      · exact Or.inl e
      · refine Or.inr ⟨u, a', e, fun hnone => ?_⟩
        have ha' : T.heap.size ≤ a' := by
          rcases hint1.2 with q | ⟨u2, a2, q, r1, -⟩
          · rw [q] at e
            have := congrArg Array.size e
            simp at this
          · have := q.symm.trans e
            have := Array.push_inj_right.mp this
            cases this
            exact r1
        -- a is a'
        have hopT : kT.resolved[idx]? = some none := open_stays X.warmed hkB hkT hcf hnm hopen
        have eu : u = unT := sameU _ _ hu' htT
        have eus : us = u := sameU _ _ htu hu'
        have haa : a = a' := by
          rcases ee2 idx with e0 | ⟨-, r, e1, hr | ⟨a3, t3, si, us3, rfl, -, z3, z4, z5⟩⟩
          · have := (e0.trans hopT).symm.trans hrr
            simp at this
          · exfalso
            cases r <;> simp [State.rightAt, hkT, hcfT, hnmT] at hr
          · rw [hcfT] at z3 z4
            have e3 : si = iT := by
              have := z3.symm.trans hpT
              simpa using this
            subst e3
            have e4 : us3 = unT := by simpa [ConstantPool.utf8?, huT] using z4.symm
            subst e4
            have ea : a3 = a := by have := e1.symm.trans hrr; simpa using this
            subst ea
            rw [e, Array.find?_push, ← eu, hnone, Option.none_or] at z5
            simp at z5
            exact z5.symm
        subst haa
        rw [← eus]
        exact Sx.of_in hin (State.Warmed39.trans hZT hW2).alike.symm (Nat.le_refl _) ha' (fun x hx => by rw [h5]; exact (h4.2.2.1 x hx).2)
    have J2 : JJ Z n0 T₂.vm T₂.heap Ds := (JT.ext E).step hZT hW2 hintJ hcl
    have hcf2 : kk.cf = some cfT := by rw [hke2]; exact hcfT
    have hown2 : T₂.vm.findClass own = some C.m.cls := by rw [hW2.alike.findClass]; exact hownT
    have SX := J2.2.2.2.2 own idx hm _ kk cfT iT unT a hown2 hkk hcf2 hpT huT (Or.inl hrr)
    obtain ⟨hstr, hnin⟩ := SX.str htT hlat hcs hlen
    exact ⟨T₂.heap, a, E, hstr, hnin, T₂, locs, T₂.vm, T₂.heap.size, X2, h1.trans hS2 (Nat.le_trans h2 E.1), Nat.le_refl _, State.Warmed39.trans hZT hW2, J2, rfl, h6, ⟨h7.1, h7.2.1, h7.2.2.1, hown2, h7.2.2.2.2⟩, fun t ht => k _ (st _ ht)⟩
  · -- resolved already
    have SX := h4.2.2.2.2 own idx hm _ kB cf i units a hownB hkB hcf hpB hu (Or.inl hra)
    obtain ⟨hstr, hnin⟩ := SX.str htext hlat hcs hlen
    have L : Lit (C.s.setVm vm0) own idx a := by
      have hkB' : vm0.classes[C.m.cls]? = some kB := hkB
      have hown' : vm0.findClass own = some C.m.cls := hownB
      simp [Lit, State.resolvedAt?, State.setVm, hown', hkB', hra]
    have st := ldcAgain X h7.1 h3 h7.2.2.2.1 w L (g := mkF C.m pc Ls S) rfl (hb h7.2.1 hd)
    exact ⟨h, a, ⟨Nat.le_refl _, fun _ _ q => q⟩, hstr, hnin, T, locs, vm0, k0, X.mono (by omega) (by omega), h1, h2, h3, h4, h5, h6, h7, fun t ht => k _ (st _ ht)⟩
theorem own_sx0 {s : State} {a : Addr} {units : Array UInt16} (F : SlOf s a units) : Sx s s.heap [] a units := by
  obtain ⟨q, cS, h1, h2, h3, h4, h5⟩ := F
  exact ⟨q, cS, h1, h2, h3, h4, h5, by simp, by simp⟩
theorem ch0 : ∀ c ∈ ([] : List Int32), ¬ c < 0 ∧ ¬ (255 : Int32) < c := fun c hc => nomatch hc
theorem chS {x : Int32} {cs : List Int32} (p : ¬ x < 0 ∧ ¬ (255 : Int32) < x) (q : ∀ c ∈ cs, ¬ c < 0 ∧ ¬ (255 : Int32) < c) : ∀ c ∈ x :: cs, ¬ c < 0 ∧ ¬ (255 : Int32) < c := fun c hc => by
  rcases List.mem_cons.mp hc with e | e
  · rw [e]; exact p
  · exact q c e
def bi (b : Bool) : Int32 := if b then 1 else 0
theorem bi_nar (b : Bool) : nar .boolean (bi b) = bi b := by cases b <;> rfl
theorem memS {n : Addr} {Ns Ds : List Addr} (h : n ∈ Ds) (f : ∀ x ∈ Ns, x ∈ Ds) : ∀ x ∈ n :: Ns, x ∈ Ds := fun x hx => by
  rcases List.mem_cons.mp hx with e | e
  · rw [e]; exact h
  · exact f x e
theorem own_toInt {x : Int32} (h : ¬ x < 0 ∧ ¬ (255 : Int32) < x) : 0 ≤ x.toInt ∧ x.toInt ≤ 255 := by
  obtain ⟨h1, h2⟩ := h
  rw [Int32.lt_iff_toInt_lt] at h1 h2
  have e0 : (0 : Int32).toInt = 0 := rfl
  have e1 : (255 : Int32).toInt = 255 := rfl
  omega
theorem ofFin {x : Int32} (h : ¬ x < 0 ∧ ¬ (255 : Int32) < x) : ∃ k : Fin 256, x = Int32.ofNat k.val := by
  have b := own_toInt h
  refine ⟨⟨x.toInt.toNat, by omega⟩, ?_⟩
  apply Int32.toInt_inj.mp
  rw [Int32.toInt_ofNat_of_lt (by show x.toInt.toNat < _; omega)]
  show x.toInt = (x.toInt.toNat : Int)
  omega
theorem nar_of {x : Int32} (h : ¬ x < 0 ∧ ¬ (255 : Int32) < x) : nar .char x = x := by
  obtain ⟨k, rfl⟩ := ofFin h
  revert k; decide +kernel
theorem own_nr {ty : FieldType} {v : Value} (ht : ty.isReference = true) (hv : v.isRef = true) : narrow ty v = v := by
  rcases ref_cases hv with rfl | ⟨_, rfl⟩ <;> cases ty <;> first | rfl | cases ht
theorem own_fr {ty : FieldType} {v : Value} (ht : ty.isReference = true) (hv : v.isRef = true) : fits ty v = true := by
  rcases ref_cases hv with rfl | ⟨_, rfl⟩ <;> cases ty <;> first | rfl | cases ht
theorem own_nsroot {Z : State} {a0 : Array Value} {O K : String} {n : Nat} (w : (Jvm.Cond.noSuperclass O).before a0 Z = true) (wi : (Jvm.Cond.instantiable K n).before a0 Z = true) (hn : O ≠ K) : NS Z O K := by
  obtain ⟨c, k, h1, h2, h3, -, -⟩ := Cond.noSuperclass_spec w
  obtain ⟨t, kt, g1, -⟩ := Cond.instantiable_spec wi
  have ne := ids_ne h1 g1 hn
  refine ⟨c, t, h1, g1, fun fuel => ?_⟩
  cases fuel with
  | zero => rfl
  | succ f => simp [Vm.isSubclassAux, ne, h2, h3]
theorem own_nsno {Z : State} {a0 : Array Value} {Cc S K : String} {m : Nat} (w : (Jvm.Cond.superclass Cc S).before a0 Z = true) (wi : (Jvm.Cond.instantiable K m).before a0 Z = true) (n : NS Z Cc K) (hn : Cc ≠ K) : ∃ c t, Z.vm.findClass Cc = some c ∧ Z.vm.findClass K = some t ∧ Z.vm.assignable c t = false := by
  obtain ⟨c, t, h0, g0, n3⟩ := n
  obtain ⟨p, k, kp, h1, h2, h3, h4, h5, -, h7⟩ := Cond.superclass_spec h0 w
  obtain ⟨t', k', g1, g2, g5, g7, -⟩ := Cond.instantiable_spec wi
  cases g0.symm.trans g1
  have g8 : k'.isInterface = false := by simp only [Bool.or_eq_false_iff] at g7; exact g7.1
  have ne := ids_ne h0 g0 hn
  refine ⟨c, t, h0, g0, ?_⟩
  show Z.vm.assignableAux (255 + 1) c t = false
  simp [Vm.assignableAux, ne, h2, g2, h5, g5, g8, Vm.isSubclass, n3]
/-! clones of arrays; more steps -/
theorem arv_of_arh {Z : State} {h : Heap} {a : Addr} {k : ClassId} {ty : FieldType} {z : Int32} {vs : List Value} {dv : Value} (F : Arh Z h a k ty z [] vs dv) : Arv Z h a k ty z vs dv := F
theorem Rc.clone {pc' idx W cap : Nat} {ad : String} {a : Addr} {kA : ClassId} {ty : FieldType} {z : Int32} {vs : List Value} {dv : Value} (H : Rc C R own bs ml Z n0 ce sl pc Ls (.ref a :: rest) h Ds)
    (w1 : (Jvm.Cond.methodLink own idx ⟨ad, "clone", "()Ljava/lang/Object;"⟩).before a0 Z = true) (w2 : (Jvm.Cond.sameMethod ad "java/lang/Object" "clone" "()Ljava/lang/Object;").before a0 Z = true) (w3 : (Jvm.Cond.native ⟨"java/lang/Object", "clone", "()Ljava/lang/Object;"⟩).before a0 Z = true)
    (w4 : (Jvm.Cond.instanceMethod ⟨"java/lang/Object", "clone", "()Ljava/lang/Object;"⟩).before a0 Z = true) (w5 : (Jvm.Cond.selects ad ⟨ad, "clone", "()Ljava/lang/Object;"⟩ ⟨"java/lang/Object", "clone", "()Ljava/lang/Object;"⟩).before a0 Z = true) (w6 : (Jvm.Cond.castable ad "java/lang/Cloneable").before a0 Z = true)
    (V : Arv Z h a kA ty z vs dv) (E : Exa Z h a ad) (hsz : Ls.size = ml) (hd : decode bs pc = .ok (.invokevirtual idx, 3)) (hf : 1 ≤ R.frames) (hW : (rest.map fun v => v.category).sum = W) (hl : W + 14 ≤ R.locals) (hcap : z.toNatClampNeg ≤ cap) (hc : ce + 1 ≤ R.cells) (hsl : sl + cap ≤ R.slots) (hp : pc + 3 = pc') :
    ∃ (h' : Heap) (b : Addr), b = h.size ∧ Ext h h' ∧ Arv Z h' b kA ty z vs dv ∧ Exa Z h' b ad ∧ Rc C R own bs ml Z n0 (ce + 1) (sl + cap) pc' Ls (.ref b :: rest) h' (b :: Ds) := by
  subst hp
  obtain ⟨T, locs, vm0, k0, X, h1, h2, h3, h4, h5, h6, h7, k⟩ := H
  obtain ⟨T', h', X', e', E', A', F', st⟩ := RoadKit.cloneH X h7.1 (Z := Z) h3 h7.2.2.2.1 w1 w2 w3 w4 w5 w6 h5 V.arh E (g := mkF C.m pc Ls (.ref a :: rest)) rfl (hsz.trans h7.2.2.1.symm) rfl (hb h7.2.1 hd) hf (W := W) (by show 2 * 0 + _ ≤ _; omega) hl hcap hc hsl
  exact ⟨h', h.size, rfl, E', arv_of_arh A', F', T', _, vm0, k0, X', h1, Nat.le_trans h2 E'.1, h3, h4.born E' F'.lt, e', h6, h7, fun t ht => k _ (st _ ht)⟩
theorem Rc.ldc2L {pc' idx : Nat} {v : Int64} (H : Rc C R own bs ml Z n0 ce sl pc Ls S h Ds) (w : (Jvm.Cond.constantLong own idx v).before a0 Z = true) (hd : decode bs pc = .ok (.ldc2_w idx, 3)) (hp : pc + 3 = pc') : Rc C R own bs ml Z n0 ce sl pc' Ls (.long v :: S) h Ds := by
  subst hp
  exact H.goX fun s T locs t X hZ hown eT hx hby kk => X.ldc2Long hx hown (mvT hZ w) (g := mkF C.m pc Ls S) rfl (hb hby hd) _ kk
theorem Rc.ldcI {pc' idx : Nat} {v : Int32} (H : Rc C R own bs ml Z n0 ce sl pc Ls S h Ds) (w : (Jvm.Cond.constant own idx v).before a0 Z = true) (hd : decode bs pc = .ok (.ldc idx, 2)) (hp : pc + 2 = pc') : Rc C R own bs ml Z n0 ce sl pc' Ls (.int v :: S) h Ds := by
  subst hp
  exact H.goX fun s T locs t X hZ hown eT hx hby kk => X.ldcInt hx hown (mvT hZ w) (g := mkF C.m pc Ls S) rfl (hb hby hd) _ kk
/-! the case's words, read -/
section GivenWords
variable {s : State} {args : Array Value} {t u : Term} {a b : Addr} {cl : Cell} {ty : FieldType} {i k : Int32} {v : Value} {Cc n d : String}
theorem g_int (h : (Jvm.Cond.eq t (.int k)).value args s none s [] = some true) : t.eval args s none [] s = some (.int k) := Cond.eq_int (Cond.before_iff.mpr h) rfl
theorem g_ref (h : (Jvm.Cond.eq t u).value args s none s [] = some true) (hu : u.eval args s none [] s = some (.ref b)) : t.eval args s none [] s = some (.ref b) := by
  obtain ⟨x, y, h1, h2, h3, h4⟩ := cmp_v (Or.inl h)
  rw [hu] at h2
  cases h2
  have hx : x.isRef = true := by
    cases x <;> simp_all [Kin, Value.isRef]
  have q := gotT (eq_R h1 hu hx rfl) h
  rw [h1, q]
theorem g_fld (ht : t.eval args s none [] s = some (.ref a)) (e : (Term.field t Cc n d).eval args s none [] s = some v) : Fld s s.heap a Cc n d v := Fld.start (by rw [← fld_at (args := args) (first := s) (o := none) (idx := []) (C := Cc) (n := n) (dd := d) ht]; exact e)
theorem g_elem (e : (Term.elem t (.int i)).eval args s none [] s = some v) (ht : t.eval args s none [] s = some (.ref a)) (A : Arr s s.heap a cl ty) : cl.slots[i.toNatClampNeg]? = some v := (elem_in e ht rfl A.1).2
theorem g_len (e : (Term.length t).eval args s none [] s = some (.int k)) (ht : t.eval args s none [] s = some (.ref a)) (A : Arr s s.heap a cl ty) : cl.slots.size < 2 ^ 31 ∧ cl.slots.size.toInt32 = k := by
  have ha : s.arrayAt? a = some cl := A.fin (own_al s)
  have hl : cl.slots.size < 2 ^ 31 := SBG.length_lt ht ha e
  have q := len_f ht ha hl
  rw [q] at e
  exact ⟨hl, by simpa using e⟩
theorem g_str {cs : List Int32} {kb : ClassId} {b' : Addr} (X : Exa s s.heap a "java/lang/String") (Fc : Fld s s.heap a "java/lang/String" "coder" "B" (.int 0)) (Fv : Fld s s.heap a "java/lang/String" "value" "[B" (.ref b')) (V : Arv s s.heap b' kb .byte (Int32.ofNat cs.length) (bytesOfCs cs) (.int 0)) (h1 : ∀ c ∈ cs, ¬ c < 0 ∧ ¬ (255 : Int32) < c) (h2 : cs.length ≤ 4000) : IsStr s s.heap a cs := ⟨X, Fc, h1, h2, b', kb, Fv, V⟩
end GivenWords
/-! the String laws of the paste, in the forward form -/
abbrev CompactOn (Z : State) : Prop := ∃ z : Int32, Sta Z Z.heap "java/lang/String" "COMPACT_STRINGS" "Z" (.int z) ∧ ¬ z = 0
abbrev SiooOk (Z : State) : Prop := ∃ fm : Value, Sta Z Z.heap "jdk/internal/util/Preconditions" "SIOOBE_FORMATTER" "Ljava/util/function/BiFunction;" fm ∧ fm.isRef = true
theorem own_up {cs : List Int32} (h : ∀ c ∈ cs, ¬ c < 0 ∧ ¬ (255 : Int32) < c) : ∀ c ∈ cs, ¬ c < 0 ∧ ¬ (65535 : Int32) < c := fun c hc => ⟨(h c hc).1, fun q => (h c hc).2 (by rw [Int32.lt_iff_toInt_lt] at q ⊢; have e1 : (65535 : Int32).toInt = 65535 := rfl; have e2 : (255 : Int32).toInt = 255 := rfl; omega)⟩
theorem Rc.newStr {pc' idx W : Nat} {x b : Addr} {kC : ClassId} {cs : List Int32} {d v0 c0 : Value} {N : Int32} (H : Rc C R own bs ml Z n0 ce sl pc Ls (.ref b :: .ref x :: rest) h Ds) (hws : ∀ d ∈ StrChars.Road.words, d.before a0 Z = true) (wi : (Jvm.Cond.instantiable "java/lang/String" 4).before a0 Z = true)
    (hlink : (Jvm.Cond.methodLink own idx ⟨"java/lang/String", "<init>", "([C)V"⟩).before a0 Z = true) (hinst : (Jvm.Cond.instanceMethod ⟨"java/lang/String", "<init>", "([C)V"⟩).before a0 Z = true) (CS : CompactOn Z)
    (E : Exa Z h x "java/lang/String") (V : Fld Z h x "java/lang/String" "value" "[B" v0) (Cd : Fld Z h x "java/lang/String" "coder" "B" c0) (K : Arv Z h b kC .char N (cs.map Value.int) d) (hN : N = Int32.ofNat cs.length) (l0 : 0 < cs.length) (l2 : cs.length ≤ 4000) (hp : ∀ c ∈ cs, ¬ c < 0 ∧ ¬ (255 : Int32) < c) (hx : x ∈ Ds)
    (hsz : Ls.size = ml) (hW : (rest.map fun v => v.category).sum = W) (hd : decode bs pc = .ok (.invokespecial idx, 3)) (hfr : 4 ≤ R.frames) (hlo : W + 65 ≤ R.locals) (hce : ce + 1 ≤ R.cells) (hsl : sl + cs.length ≤ R.slots) (hpc : pc + 3 = pc') :
    ∃ h', Keep h h' [x] ∧ IsStr Z h' x cs ∧ Rc C R own bs ml Z n0 (ce + 1) (sl + cs.length) pc' Ls rest h' Ds := by
  obtain ⟨z, hS, hz⟩ := CS
  obtain ⟨v, h', L, ⟨q1, q2, q3, q4, q5, t, kb, -, -, -, q6, q7⟩, R'⟩ := H.backI (y := ⟨"java/lang/String", "<init>", "([C)V"⟩) (kc := 1) (ks := cs.length) (argsL := [.ref b]) (Qb := fun v h' L => StrChars.Road.QV Z x N (cs.map (fun c => c.toInt8.toInt32)) h n0 v h' L) rfl hlink hinst (hws _ (List.mem_of_getElem? (i := 0) rfl)) (by decide)
    (fun s' hZ' => StrChars.Road.backV (W := W) hZ' hws wi (cs := cs) (bs := cs.map (fun c => c.toInt8.toInt32)) (n := cs.length) (H.mem hx).1 (own_n0 H.old) E V Cd K (hS.ext H.old.2) hz rfl hN l0 l2 hp rfl hfr hlo)
    (fun v h' L q => ⟨q.2.1, [x], q.2.2.1, own_ws1 hx⟩) hsz (lenOf (ps := [.array .char]) (r := none) (by decide +kernel) rfl) rfl hW hd hce hsl hpc
  subst q1
  exact ⟨h', q3, ⟨q4, q5, hp, l2, t, kb, q6, by rw [← hN]; exact q7⟩, R'⟩
theorem n4_8 : decode StrChars.New4.yB 8 = .ok (.aload_n 0, 1) := by decide +kernel
theorem n4_9 : decode StrChars.New4.yB 9 = .ok (.ldc 7, 2) := by decide +kernel
theorem n4_11 : decode StrChars.New4.yB 11 = .ok (.getfield 9, 3) := by decide +kernel
theorem n4_14 : decode StrChars.New4.yB 14 = .ok (.putfield 9, 3) := by decide +kernel
theorem n4_17 : decode StrChars.New4.yB 17 = .ok (.aload_n 0, 1) := by decide +kernel
theorem n4_18 : decode StrChars.New4.yB 18 = .ok (.ldc 7, 2) := by decide +kernel
theorem n4_20 : decode StrChars.New4.yB 20 = .ok (.getfield 15, 3) := by decide +kernel
theorem n4_23 : decode StrChars.New4.yB 23 = .ok (.putfield 15, 3) := by decide +kernel
theorem n4_26 : decode StrChars.New4.yB 26 = .ok (.return_, 1) := by decide +kernel
theorem Rc.str_eq {pc' idx W : Nat} {x : Addr} {cs : List Int32} {y : Addr} {ds : List Int32} (H : Rc C R own bs ml Z n0 ce sl pc Ls (.ref y :: .ref x :: rest) h Ds) (hws : ∀ d ∈ StrChars.Road.wordsEq, d.before a0 Z = true) (wi : (Jvm.Cond.instantiable "java/lang/String" 4).before a0 Z = true)
    (hlink : (Jvm.Cond.methodLink own idx ⟨"java/lang/String", "equals", "(Ljava/lang/Object;)Z"⟩).before a0 Z = true) (hdecl : (Jvm.Cond.declares ⟨"java/lang/String", "equals", "(Ljava/lang/Object;)Z"⟩).before a0 Z = true) (hsel : (Jvm.Cond.selects "java/lang/String" ⟨"java/lang/String", "equals", "(Ljava/lang/Object;)Z"⟩ ⟨"java/lang/String", "equals", "(Ljava/lang/Object;)Z"⟩).before a0 Z = true) (hinst : (Jvm.Cond.instanceMethod ⟨"java/lang/String", "equals", "(Ljava/lang/Object;)Z"⟩).before a0 Z = true) (CS : CompactOn Z) (F' : IsStr Z h y ds) (F : IsStr Z h x cs)
    (hsz : Ls.size = ml) (hW : (rest.map fun v => v.category).sum = W) (hd : decode bs pc = .ok (.invokevirtual idx, 3)) (hfr : 2 ≤ R.frames) (hlo : W + 28 ≤ R.locals) (hce : ce + 0 ≤ R.cells) (hsl : sl + 0 ≤ R.slots) (hpc : pc + 3 = pc') :
    Rc C R own bs ml Z n0 ce sl pc' Ls ((.int (if cs = ds then 1 else 0)) :: rest) h Ds := by
  obtain ⟨z, hS, hz⟩ := CS
  obtain ⟨f1, f2, f3, f4, t, kb, f5, f6⟩ := F
  obtain ⟨g1, g2, g3, g4, t', kb', g5, g6⟩ := F'
  obtain ⟨v, h', L, ⟨q1, q2, q3⟩, R'⟩ := H.backV (y := ⟨"java/lang/String", "equals", "(Ljava/lang/Object;)Z"⟩) (z := ⟨"java/lang/String", "equals", "(Ljava/lang/Object;)Z"⟩) (kc := 0) (ks := 0) (argsL := [.ref y]) (Qb := fun v h' L => ((v = some (.int 1) ∧ cs = ds) ∨ (v = some (.int 0) ∧ ¬ cs = ds)) ∧ L = [] ∧ h' = h) hlink hdecl (fun s' hZ' => notFace_of_selects (args := #[]) (mvT hZ' hsel)) hsel hinst (by decide) f1
    (fun s' hZ' => StrChars.Road.eqW (W := W) hZ' hws wi f1 f5 f2 f6 (StrChars.Road.codOf rfl (fun c hc => (f3 c hc).2)) (own_up f3) f4 g1 g5 g2 g6 (StrChars.Road.codOf rfl (fun c hc => (g3 c hc).2)) (own_up g3) g4 (hS.ext H.old.2) hz hfr hlo)
    (fun v h' L q => by obtain ⟨-, rfl, rfl⟩ := q; exact ⟨Fr.nil n0, [], Keep.refl _ _, fun x hx => nomatch hx⟩) hsz (lenOf (ps := [.object "java/lang/Object"]) (r := some .boolean) (by decide +kernel) rfl) rfl hW hd hce hsl hpc
  subst q3
  rcases q1 with ⟨rfl, e⟩ | ⟨rfl, e⟩
  · rw [if_pos e]; exact R'
  · rw [if_neg e]; exact R'

end OwnKit
theorem own_and255 (x : Int32) : ∃ k : Fin 256, x &&& 255 = Int32.ofNat k.val := by
  have h : (x &&& 255).toBitVec.toNat < 256 := by
    simp only [Int32.toBitVec_and, BitVec.toNat_and]
    exact Nat.lt_succ_of_le Nat.and_le_right
  refine ⟨⟨_, h⟩, ?_⟩
  apply Int32.toBitVec_inj.mp
  show _ = BitVec.ofNat 32 _
  rw [BitVec.ofNat_toNat]; simp
theorem own_and7 (x : Int32) : ∃ k : Fin 8, x &&& 7 = Int32.ofNat k.val := by
  have h : (x &&& 7).toBitVec.toNat < 8 := by
    simp only [Int32.toBitVec_and, BitVec.toNat_and]
    exact Nat.lt_succ_of_le Nat.and_le_right
  refine ⟨⟨_, h⟩, ?_⟩
  apply Int32.toBitVec_inj.mp
  show _ = BitVec.ofNat 32 _
  rw [BitVec.ofNat_toNat]; simp
theorem own_and3 (x : Int32) : ∃ k : Fin 4, x &&& 3 = Int32.ofNat k.val := by
  have h : (x &&& 3).toBitVec.toNat < 4 := by
    simp only [Int32.toBitVec_and, BitVec.toNat_and]
    exact Nat.lt_succ_of_le Nat.and_le_right
  refine ⟨⟨_, h⟩, ?_⟩
  apply Int32.toBitVec_inj.mp
  show _ = BitVec.ofNat 32 _
  rw [BitVec.ofNat_toNat]; simp
theorem own_and1 (x : Int32) : ∃ k : Fin 2, x &&& 1 = Int32.ofNat k.val := by
  have h : (x &&& 1).toBitVec.toNat < 2 := by
    simp only [Int32.toBitVec_and, BitVec.toNat_and]
    exact Nat.lt_succ_of_le Nat.and_le_right
  refine ⟨⟨_, h⟩, ?_⟩
  apply Int32.toBitVec_inj.mp
  show _ = BitVec.ofNat 32 _
  rw [BitVec.ofNat_toNat]; simp
theorem own_lt {i j : Nat} (hj : j ≤ 4000) (h : i < j) : Int32.ofNat i < Int32.ofNat j := by
  rw [Int32.lt_iff_toInt_lt, Int32.toInt_ofNat_of_lt (by omega), Int32.toInt_ofNat_of_lt (by omega)]; omega
theorem own_nlt {i j : Nat} (hi : i ≤ 4000) (h : j ≤ i) : ¬ Int32.ofNat i < Int32.ofNat j := by
  rw [Int32.lt_iff_toInt_lt, Int32.toInt_ofNat_of_lt (by omega), Int32.toInt_ofNat_of_lt (by omega)]; omega
theorem i32_succ (i : Nat) : Int32.ofNat i + 1 = Int32.ofNat (i + 1) := by
  apply Int32.toBitVec_inj.mp
  show BitVec.ofNat 32 i + 1#32 = BitVec.ofNat 32 (i + 1)
  rw [BitVec.ofNat_add]
theorem nar_i2c (x : Int32) : nar .char x.toUInt32.toUInt16.toUInt32.toInt32 = x.toUInt32.toUInt16.toUInt32.toInt32 := by
  generalize x.toUInt32.toUInt16 = y
  simp [nar]
theorem c255 (x : Int32) : ¬ (x &&& (255 : Int32)).toUInt32.toUInt16.toUInt32.toInt32 < 0 ∧ ¬ (255 : Int32) < (x &&& (255 : Int32)).toUInt32.toUInt16.toUInt32.toInt32 := by
  obtain ⟨k, hk⟩ := own_and255 x
  rw [hk]
  clear hk; revert k; decide +kernel
theorem own_ltI {k n : Nat} (hk : k ≤ 4000) (hn : n ≤ 4000) (h : Int32.ofNat k < Int32.ofNat n) : k < n := by
  apply Classical.byContradiction; intro q
  exact own_nlt hk (by omega) h
theorem own_getD {cs : List Int32} {k : Nat} (h : k < cs.length) (p : ∀ c ∈ cs, ¬ c < 0 ∧ ¬ (255 : Int32) < c) : ¬ cs.getD k 0 < 0 ∧ ¬ (255 : Int32) < cs.getD k 0 := by
  rw [List.getD_eq_getElem?_getD, List.getElem?_eq_getElem h]
  exact p _ (List.getElem_mem h)
theorem own_l255 (x : Int64) : ∃ k : Fin 256, x &&& 255 = Int64.ofNat k.val := by
  have h : (x &&& 255).toBitVec.toNat < 256 := by
    simp only [Int64.toBitVec_and, BitVec.toNat_and]
    exact Nat.lt_succ_of_le Nat.and_le_right
  refine ⟨⟨_, h⟩, ?_⟩
  apply Int64.toBitVec_inj.mp
  show _ = BitVec.ofNat 64 _
  rw [BitVec.ofNat_toNat]; simp
theorem cl255 (x : Int64) : ¬ (x &&& (255 : Int64)).toInt32.toUInt32.toUInt16.toUInt32.toInt32 < 0 ∧ ¬ (255 : Int32) < (x &&& (255 : Int64)).toInt32.toUInt32.toUInt16.toUInt32.toInt32 := by
  obtain ⟨k, hk⟩ := own_l255 x
  rw [hk]
  clear hk; revert k; decide +kernel
theorem own_nz {n : Nat} (h0 : 0 < n) (h1 : n ≤ 11) : Int32.ofNat n ≠ 0 := by
  intro q
  have e := congrArg Int32.toInt q
  rw [Int32.toInt_ofNat_of_lt (by omega)] at e
  have : (0 : Int32).toInt = 0 := rfl
  omega
theorem own_idx (x : Int32) {n : Nat} (h0 : 0 < n) (h1 : n ≤ 11) : (¬ (x &&& (2147483647 : Int32)) % Int32.ofNat n < 0 ∧ (x &&& (2147483647 : Int32)) % Int32.ofNat n < Int32.ofNat n) ∧ ((x &&& (2147483647 : Int32)) % Int32.ofNat n).toNatClampNeg < n := by
  have hb : (x &&& (2147483647 : Int32)).toBitVec.toNat < 2147483648 := by
    simp only [Int32.toBitVec_and, BitVec.toNat_and]
    exact Nat.lt_succ_of_le Nat.and_le_right
  have hy : 0 ≤ (x &&& (2147483647 : Int32)).toInt := by
    show 0 ≤ (x &&& (2147483647 : Int32)).toBitVec.toInt
    rw [BitVec.toInt_eq_toNat_of_lt (by omega)]; omega
  have hn : (Int32.ofNat n).toInt = n := Int32.toInt_ofNat_of_lt (by omega)
  have e : ((x &&& (2147483647 : Int32)) % Int32.ofNat n).toInt = (x &&& (2147483647 : Int32)).toInt.tmod n := by rw [Int32.toInt_mod, hn]
  have g0 : 0 ≤ (x &&& (2147483647 : Int32)).toInt.tmod n := Int.tmod_nonneg _ hy
  have g1 : (x &&& (2147483647 : Int32)).toInt.tmod n < n := Int.tmod_lt_of_pos _ (by omega)
  have z0 : (0 : Int32).toInt = 0 := rfl
  refine ⟨⟨?_, ?_⟩, ?_⟩
  · rw [Int32.lt_iff_toInt_lt, e, z0]; omega
  · rw [Int32.lt_iff_toInt_lt, e, hn]; exact g1
  · show ((x &&& (2147483647 : Int32)) % Int32.ofNat n).toInt.toNat < n
    rw [e]; omega
theorem own_d9_0 : decode jdk_42_method_66_code 0 = .ok (.aload_n 0, 1) := by decide +kernel
theorem own_d9_1 : decode jdk_42_method_66_code 1 = .ok (.aload_n 1, 1) := by decide +kernel
theorem own_d9_2 : decode jdk_42_method_66_code 2 = .ok (.if_acmp .ne 5, 3) := by decide +kernel
theorem own_d9_7 : decode jdk_42_method_66_code 7 = .ok (.aload_n 1, 1) := by decide +kernel
theorem own_d9_8 : decode jdk_42_method_66_code 8 = .ok (.instanceof 10, 3) := by decide +kernel
theorem own_d9_11 : decode jdk_42_method_66_code 11 = .ok (.ifCond .eq 43, 3) := by decide +kernel
theorem own_d9_54 : decode jdk_42_method_66_code 54 = .ok (.iconst 0, 1) := by decide +kernel
theorem own_d9_55 : decode jdk_42_method_66_code 55 = .ok (.ireturn, 1) := by decide +kernel
theorem own_pn0 : plainName "java/lang/String" = true := by first | (simp [plainName, overriddenIn]; done) | decide +kernel
theorem own_d16_0 : decode jdk_31_method_10_code 0 = .ok (.aload_n 0, 1) := by decide +kernel
theorem own_d16_1 : decode jdk_31_method_10_code 1 = .ok (.ifnonnull 11, 3) := by decide +kernel
theorem own_d16_12 : decode jdk_31_method_10_code 12 = .ok (.aload_n 0, 1) := by decide +kernel
theorem own_d16_13 : decode jdk_31_method_10_code 13 = .ok (.areturn, 1) := by decide +kernel
theorem own_pn1 : plainName "java/util/Objects" = true := by first | (simp [plainName, overriddenIn]; done) | decide +kernel
theorem own_d17_0 : decode jdk_32_method_2_code 0 = .ok (.aload_n 0, 1) := by decide +kernel
theorem own_w104 {a0 : Array Value} {Z : State} (hw : ∀ d ∈ tables_1, d.before a0 Z = true) : (Jvm.Cond.methodLink "java/util/Optional" (7 : Nat) ({ cls := "java/lang/Object", name := "<init>", desc := "()V" } : Jvm.MethodName)).before a0 Z = true := hw _ (List.mem_of_getElem? (i := 104) rfl)
theorem own_w18 {a0 : Array Value} {Z : State} (hw : ∀ d ∈ tables_1, d.before a0 Z = true) : (Jvm.Cond.code ({ cls := "java/lang/Object", name := "<init>", desc := "()V" } : Jvm.MethodName) object_method_1_code (1 : Nat) (Option.none : Option Jvm.ClassFile.FieldType)).before a0 Z = true := hw _ (List.mem_of_getElem? (i := 18) rfl)
theorem own_w17 {a0 : Array Value} {Z : State} (hw : ∀ d ∈ tables_1, d.before a0 Z = true) : (Jvm.Cond.instanceMethod ({ cls := "java/lang/Object", name := "<init>", desc := "()V" } : Jvm.MethodName)).before a0 Z = true := hw _ (List.mem_of_getElem? (i := 17) rfl)
theorem own_d17_1 : decode jdk_32_method_2_code 1 = .ok (.invokespecial 7, 3) := by decide +kernel
theorem own_d17_4 : decode jdk_32_method_2_code 4 = .ok (.aload_n 0, 1) := by decide +kernel
theorem own_d17_5 : decode jdk_32_method_2_code 5 = .ok (.aload_n 1, 1) := by decide +kernel
theorem own_w88 {a0 : Array Value} {Z : State} (hw : ∀ d ∈ tables_1, d.before a0 Z = true) : (Jvm.Cond.fieldLink "java/util/Optional" (13 : Nat) "java/util/Optional" "value" "Ljava/lang/Object;").before a0 Z = true := hw _ (List.mem_of_getElem? (i := 88) rfl)
theorem own_w95 {a0 : Array Value} {Z : State} (hw : ∀ d ∈ tables_1, d.before a0 Z = true) : (Jvm.Cond.instantiable "java/util/Optional" (1 : Nat)).before a0 Z = true := hw _ (List.mem_of_getElem? (i := 95) rfl)
theorem own_w89 {a0 : Array Value} {Z : State} (hw : ∀ d ∈ tables_1, d.before a0 Z = true) : (Jvm.Cond.laysFinal "java/util/Optional" "java/util/Optional" "value" "Ljava/lang/Object;").before a0 Z = true := hw _ (List.mem_of_getElem? (i := 89) rfl)
theorem own_d17_6 : decode jdk_32_method_2_code 6 = .ok (.putfield 13, 3) := by decide +kernel
theorem own_d17_9 : decode jdk_32_method_2_code 9 = .ok (.return_, 1) := by decide +kernel
theorem own_pn2 : plainName "java/util/Optional" = true := by first | (simp [plainName, overriddenIn]; done) | decide +kernel
theorem own_w94 {a0 : Array Value} {Z : State} (hw : ∀ d ∈ tables_1, d.before a0 Z = true) : (Jvm.Cond.classLink "java/util/Optional" (2 : Nat) "java/util/Optional").before a0 Z = true := hw _ (List.mem_of_getElem? (i := 94) rfl)
theorem own_w80 {a0 : Array Value} {Z : State} (hw : ∀ d ∈ tables_1, d.before a0 Z = true) : (Jvm.Cond.initialized "java/util/Optional").before a0 Z = true := hw _ (List.mem_of_getElem? (i := 80) rfl)
theorem own_d15_0 : decode jdk_32_method_3_code 0 = .ok (.new 2, 3) := by decide +kernel
theorem own_d15_3 : decode jdk_32_method_3_code 3 = .ok (.dup, 1) := by decide +kernel
theorem own_d15_4 : decode jdk_32_method_3_code 4 = .ok (.aload_n 0, 1) := by decide +kernel
theorem own_w96 {a0 : Array Value} {Z : State} (hw : ∀ d ∈ tables_1, d.before a0 Z = true) : (Jvm.Cond.methodLink "java/util/Optional" (17 : Nat) ({ cls := "java/util/Objects", name := "requireNonNull", desc := "(Ljava/lang/Object;)Ljava/lang/Object;" } : Jvm.MethodName)).before a0 Z = true := hw _ (List.mem_of_getElem? (i := 96) rfl)
theorem own_pd0 : parseMethodDescriptor "(Ljava/lang/Object;)Ljava/lang/Object;" = some ⟨[(.object "java/lang/Object")], some (.object "java/lang/Object")⟩ := by decide +kernel
theorem own_d15_5 : decode jdk_32_method_3_code 5 = .ok (.invokestatic 17, 3) := by decide +kernel
theorem own_w97 {a0 : Array Value} {Z : State} (hw : ∀ d ∈ tables_1, d.before a0 Z = true) : (Jvm.Cond.static ({ cls := "java/util/Objects", name := "requireNonNull", desc := "(Ljava/lang/Object;)Ljava/lang/Object;" } : Jvm.MethodName)).before a0 Z = true := hw _ (List.mem_of_getElem? (i := 97) rfl)
theorem own_w98 {a0 : Array Value} {Z : State} (hw : ∀ d ∈ tables_1, d.before a0 Z = true) : (Jvm.Cond.initialized "java/util/Objects").before a0 Z = true := hw _ (List.mem_of_getElem? (i := 98) rfl)
theorem own_w99 {a0 : Array Value} {Z : State} (hw : ∀ d ∈ tables_1, d.before a0 Z = true) : (Jvm.Cond.code ({ cls := "java/util/Objects", name := "requireNonNull", desc := "(Ljava/lang/Object;)Ljava/lang/Object;" } : Jvm.MethodName) jdk_31_method_10_code (1 : Nat) (Option.some (Jvm.ClassFile.FieldType.object "java/lang/Object"))).before a0 Z = true := hw _ (List.mem_of_getElem? (i := 99) rfl)
theorem own_w100 {a0 : Array Value} {Z : State} (hw : ∀ d ∈ tables_1, d.before a0 Z = true) : (Jvm.Cond.methodLink "java/util/Optional" (23 : Nat) ({ cls := "java/util/Optional", name := "<init>", desc := "(Ljava/lang/Object;)V" } : Jvm.MethodName)).before a0 Z = true := hw _ (List.mem_of_getElem? (i := 100) rfl)
theorem own_w101 {a0 : Array Value} {Z : State} (hw : ∀ d ∈ tables_1, d.before a0 Z = true) : (Jvm.Cond.instanceMethod ({ cls := "java/util/Optional", name := "<init>", desc := "(Ljava/lang/Object;)V" } : Jvm.MethodName)).before a0 Z = true := hw _ (List.mem_of_getElem? (i := 101) rfl)
theorem own_w103 {a0 : Array Value} {Z : State} (hw : ∀ d ∈ tables_1, d.before a0 Z = true) : (Jvm.Cond.code ({ cls := "java/util/Optional", name := "<init>", desc := "(Ljava/lang/Object;)V" } : Jvm.MethodName) jdk_32_method_2_code (2 : Nat) (Option.none : Option Jvm.ClassFile.FieldType)).before a0 Z = true := hw _ (List.mem_of_getElem? (i := 103) rfl)
theorem own_pd1 : parseMethodDescriptor "(Ljava/lang/Object;)V" = some ⟨[(.object "java/lang/Object")], none⟩ := by decide +kernel
theorem own_d15_8 : decode jdk_32_method_3_code 8 = .ok (.invokespecial 23, 3) := by decide +kernel
theorem own_d15_11 : decode jdk_32_method_3_code 11 = .ok (.areturn, 1) := by decide +kernel
theorem own_w82 {a0 : Array Value} {Z : State} (hw : ∀ d ∈ tables_1, d.before a0 Z = true) : (Jvm.Cond.fieldLink "java/util/Optional" (1 : Nat) "java/util/Optional" "EMPTY" "Ljava/util/Optional;").before a0 Z = true := hw _ (List.mem_of_getElem? (i := 82) rfl)
theorem own_d13_0 : decode jdk_32_method_1_code 0 = .ok (.getstatic 1, 3) := by decide +kernel
theorem own_d13_3 : decode jdk_32_method_1_code 3 = .ok (.astore_n 0, 1) := by decide +kernel
theorem own_d13_4 : decode jdk_32_method_1_code 4 = .ok (.aload_n 0, 1) := by decide +kernel
theorem own_d13_5 : decode jdk_32_method_1_code 5 = .ok (.areturn, 1) := by decide +kernel
theorem own_d14_0 : decode jdk_32_method_15_code 0 = .ok (.aload_n 0, 1) := by decide +kernel
theorem own_d14_1 : decode jdk_32_method_15_code 1 = .ok (.getfield 13, 3) := by decide +kernel
theorem own_d14_4 : decode jdk_32_method_15_code 4 = .ok (.ifnull 10, 3) := by decide +kernel
theorem own_d14_7 : decode jdk_32_method_15_code 7 = .ok (.aload_n 0, 1) := by decide +kernel
theorem own_d14_8 : decode jdk_32_method_15_code 8 = .ok (.getfield 13, 3) := by decide +kernel
theorem own_d14_11 : decode jdk_32_method_15_code 11 = .ok (.goto 4, 3) := by decide +kernel
theorem own_d14_15 : decode jdk_32_method_15_code 15 = .ok (.areturn, 1) := by decide +kernel
theorem own_d14_14 : decode jdk_32_method_15_code 14 = .ok (.aload_n 1, 1) := by decide +kernel
theorem own_w60 {a0 : Array Value} {Z : State} (hw : ∀ d ∈ tables_1, d.before a0 Z = true) : (Jvm.Cond.fieldLink "com/example/slicewise/slicewise/plan/Method" (13 : Nat) "com/example/slicewise/slicewise/plan/Method" "$VALUES" "[Lcom/example/slicewise/slicewise/plan/Method;").before a0 Z = true := hw _ (List.mem_of_getElem? (i := 60) rfl)
theorem own_d12_0 : decode prog_4_method_1_code 0 = .ok (.getstatic 13, 3) := by decide +kernel
theorem own_w62 {a0 : Array Value} {Z : State} (hw : ∀ d ∈ tables_1, d.before a0 Z = true) : (Jvm.Cond.methodLink "com/example/slicewise/slicewise/plan/Method" (17 : Nat) ({ cls := "[Lcom/example/slicewise/slicewise/plan/Method;", name := "clone", desc := "()Ljava/lang/Object;" } : Jvm.MethodName)).before a0 Z = true := hw _ (List.mem_of_getElem? (i := 62) rfl)
theorem own_w63 {a0 : Array Value} {Z : State} (hw : ∀ d ∈ tables_1, d.before a0 Z = true) : (Jvm.Cond.sameMethod "[Lcom/example/slicewise/slicewise/plan/Method;" "java/lang/Object" "clone" "()Ljava/lang/Object;").before a0 Z = true := hw _ (List.mem_of_getElem? (i := 63) rfl)
theorem own_w67 {a0 : Array Value} {Z : State} (hw : ∀ d ∈ tables_1, d.before a0 Z = true) : (Jvm.Cond.native ({ cls := "java/lang/Object", name := "clone", desc := "()Ljava/lang/Object;" } : Jvm.MethodName)).before a0 Z = true := hw _ (List.mem_of_getElem? (i := 67) rfl)
theorem own_w65 {a0 : Array Value} {Z : State} (hw : ∀ d ∈ tables_1, d.before a0 Z = true) : (Jvm.Cond.instanceMethod ({ cls := "java/lang/Object", name := "clone", desc := "()Ljava/lang/Object;" } : Jvm.MethodName)).before a0 Z = true := hw _ (List.mem_of_getElem? (i := 65) rfl)
theorem own_w66 {a0 : Array Value} {Z : State} (hw : ∀ d ∈ tables_1, d.before a0 Z = true) : (Jvm.Cond.selects "[Lcom/example/slicewise/slicewise/plan/Method;" ({ cls := "[Lcom/example/slicewise/slicewise/plan/Method;", name := "clone", desc := "()Ljava/lang/Object;" } : Jvm.MethodName) ({ cls := "java/lang/Object", name := "clone", desc := "()Ljava/lang/Object;" } : Jvm.MethodName)).before a0 Z = true := hw _ (List.mem_of_getElem? (i := 66) rfl)
theorem own_w68 {a0 : Array Value} {Z : State} (hw : ∀ d ∈ tables_1, d.before a0 Z = true) : (Jvm.Cond.castable "[Lcom/example/slicewise/slicewise/plan/Method;" "java/lang/Cloneable").before a0 Z = true := hw _ (List.mem_of_getElem? (i := 68) rfl)
theorem own_d12_3 : decode prog_4_method_1_code 3 = .ok (.invokevirtual 17, 3) := by decide +kernel
theorem own_w73 {a0 : Array Value} {Z : State} (hw : ∀ d ∈ tables_1, d.before a0 Z = true) : (Jvm.Cond.classLink "com/example/slicewise/slicewise/plan/Method" (18 : Nat) "[Lcom/example/slicewise/slicewise/plan/Method;").before a0 Z = true := hw _ (List.mem_of_getElem? (i := 73) rfl)
theorem own_d12_6 : decode prog_4_method_1_code 6 = .ok (.checkcast 18, 3) := by decide +kernel
theorem own_d12_9 : decode prog_4_method_1_code 9 = .ok (.areturn, 1) := by decide +kernel
theorem own_pn3 : plainName "com/example/slicewise/slicewise/plan/Method" = true := by first | (simp [plainName, overriddenIn]; done) | decide +kernel
theorem own_w57 {a0 : Array Value} {Z : State} (hw : ∀ d ∈ tables_1, d.before a0 Z = true) : (Jvm.Cond.methodLink "com/example/slicewise/slicewise/plan/Method" (36 : Nat) ({ cls := "com/example/slicewise/slicewise/plan/Method", name := "values", desc := "()[Lcom/example/slicewise/slicewise/plan/Method;" } : Jvm.MethodName)).before a0 Z = true := hw _ (List.mem_of_getElem? (i := 57) rfl)
theorem own_pd2 : parseMethodDescriptor "()[Lcom/example/slicewise/slicewise/plan/Method;" = some ⟨[], some (.array (.object "com/example/slicewise/slicewise/plan/Method"))⟩ := by decide +kernel
theorem own_d11_0 : decode prog_4_method_5_code 0 = .ok (.invokestatic 36, 3) := by decide +kernel
theorem own_w58 {a0 : Array Value} {Z : State} (hw : ∀ d ∈ tables_1, d.before a0 Z = true) : (Jvm.Cond.static ({ cls := "com/example/slicewise/slicewise/plan/Method", name := "values", desc := "()[Lcom/example/slicewise/slicewise/plan/Method;" } : Jvm.MethodName)).before a0 Z = true := hw _ (List.mem_of_getElem? (i := 58) rfl)
theorem own_w55 {a0 : Array Value} {Z : State} (hw : ∀ d ∈ tables_1, d.before a0 Z = true) : (Jvm.Cond.initialized "com/example/slicewise/slicewise/plan/Method").before a0 Z = true := hw _ (List.mem_of_getElem? (i := 55) rfl)
theorem own_w59 {a0 : Array Value} {Z : State} (hw : ∀ d ∈ tables_1, d.before a0 Z = true) : (Jvm.Cond.code ({ cls := "com/example/slicewise/slicewise/plan/Method", name := "values", desc := "()[Lcom/example/slicewise/slicewise/plan/Method;" } : Jvm.MethodName) prog_4_method_1_code (0 : Nat) (Option.some (Jvm.ClassFile.FieldType.array (Jvm.ClassFile.FieldType.object "com/example/slicewise/slicewise/plan/Method")))).before a0 Z = true := hw _ (List.mem_of_getElem? (i := 59) rfl)
theorem own_d11_3 : decode prog_4_method_5_code 3 = .ok (.astore_n 1, 1) := by decide +kernel
theorem own_d11_4 : decode prog_4_method_5_code 4 = .ok (.aload_n 1, 1) := by decide +kernel
theorem own_d11_5 : decode prog_4_method_5_code 5 = .ok (.arraylength, 1) := by decide +kernel
theorem own_d11_6 : decode prog_4_method_5_code 6 = .ok (.istore_n 2, 1) := by decide +kernel
theorem own_d11_7 : decode prog_4_method_5_code 7 = .ok (.iconst 0, 1) := by decide +kernel
theorem own_d11_8 : decode prog_4_method_5_code 8 = .ok (.istore_n 3, 1) := by decide +kernel
theorem own_d11_9 : decode prog_4_method_5_code 9 = .ok (.iload_n 3, 1) := by decide +kernel
theorem own_d11_10 : decode prog_4_method_5_code 10 = .ok (.iload_n 2, 1) := by decide +kernel
theorem own_d11_11 : decode prog_4_method_5_code 11 = .ok (.if_icmp .ge 32, 3) := by decide +kernel
theorem own_d11_14 : decode prog_4_method_5_code 14 = .ok (.aload_n 1, 1) := by decide +kernel
theorem own_d11_15 : decode prog_4_method_5_code 15 = .ok (.iload_n 3, 1) := by decide +kernel
theorem own_d11_16 : decode prog_4_method_5_code 16 = .ok (.aaload, 1) := by decide +kernel
theorem own_d11_17 : decode prog_4_method_5_code 17 = .ok (.astore 4, 2) := by decide +kernel
theorem own_d11_19 : decode prog_4_method_5_code 19 = .ok (.aload 4, 2) := by decide +kernel
theorem own_w75 {a0 : Array Value} {Z : State} (hw : ∀ d ∈ tables_1, d.before a0 Z = true) : (Jvm.Cond.fieldLink "com/example/slicewise/slicewise/plan/Method" (32 : Nat) "com/example/slicewise/slicewise/plan/Method" "word" "Ljava/lang/String;").before a0 Z = true := hw _ (List.mem_of_getElem? (i := 75) rfl)
theorem own_d11_21 : decode prog_4_method_5_code 21 = .ok (.getfield 32, 3) := by decide +kernel
theorem own_d11_24 : decode prog_4_method_5_code 24 = .ok (.aload_n 0, 1) := by decide +kernel
theorem own_w77 {a0 : Array Value} {Z : State} (hw : ∀ d ∈ tables_1, d.before a0 Z = true) : (Jvm.Cond.methodLink "com/example/slicewise/slicewise/plan/Method" (40 : Nat) ({ cls := "java/lang/String", name := "equals", desc := "(Ljava/lang/Object;)Z" } : Jvm.MethodName)).before a0 Z = true := hw _ (List.mem_of_getElem? (i := 77) rfl)
theorem own_pd3 : parseMethodDescriptor "(Ljava/lang/Object;)Z" = some ⟨[(.object "java/lang/Object")], some .boolean⟩ := by decide +kernel
theorem own_d11_25 : decode prog_4_method_5_code 25 = .ok (.invokevirtual 40, 3) := by decide +kernel
theorem own_w44 {a0 : Array Value} {Z : State} (hw : ∀ d ∈ tables_1, d.before a0 Z = true) : (Jvm.Cond.selects "java/lang/String" ({ cls := "java/lang/String", name := "equals", desc := "(Ljava/lang/Object;)Z" } : Jvm.MethodName) ({ cls := "java/lang/String", name := "equals", desc := "(Ljava/lang/Object;)Z" } : Jvm.MethodName)).before a0 Z = true := hw _ (List.mem_of_getElem? (i := 44) rfl)
theorem own_w42 {a0 : Array Value} {Z : State} (hw : ∀ d ∈ tables_1, d.before a0 Z = true) : (Jvm.Cond.declares ({ cls := "java/lang/String", name := "equals", desc := "(Ljava/lang/Object;)Z" } : Jvm.MethodName)).before a0 Z = true := hw _ (List.mem_of_getElem? (i := 42) rfl)
theorem own_w43 {a0 : Array Value} {Z : State} (hw : ∀ d ∈ tables_1, d.before a0 Z = true) : (Jvm.Cond.instanceMethod ({ cls := "java/lang/String", name := "equals", desc := "(Ljava/lang/Object;)Z" } : Jvm.MethodName)).before a0 Z = true := hw _ (List.mem_of_getElem? (i := 43) rfl)
theorem own_w8 {a0 : Array Value} {Z : State} (hw : ∀ d ∈ tables_1, d.before a0 Z = true) : (Jvm.Cond.initialized "java/lang/String").before a0 Z = true := hw _ (List.mem_of_getElem? (i := 8) rfl)
theorem own_w45 {a0 : Array Value} {Z : State} (hw : ∀ d ∈ tables_1, d.before a0 Z = true) : (Jvm.Cond.code ({ cls := "java/lang/String", name := "equals", desc := "(Ljava/lang/Object;)Z" } : Jvm.MethodName) jdk_42_method_66_code (3 : Nat) (Option.some Jvm.ClassFile.FieldType.boolean)).before a0 Z = true := hw _ (List.mem_of_getElem? (i := 45) rfl)
theorem own_d11_28 : decode prog_4_method_5_code 28 = .ok (.ifCond .eq 9, 3) := by decide +kernel
theorem own_d11_37 : decode prog_4_method_5_code 37 = .ok (.iinc 3 1, 3) := by decide +kernel
theorem own_d11_40 : decode prog_4_method_5_code 40 = .ok (.goto (-31), 3) := by decide +kernel
theorem own_w78 {a0 : Array Value} {Z : State} (hw : ∀ d ∈ tables_1, d.before a0 Z = true) : (Jvm.Cond.methodLink "com/example/slicewise/slicewise/plan/Method" (52 : Nat) ({ cls := "java/util/Optional", name := "empty", desc := "()Ljava/util/Optional;" } : Jvm.MethodName)).before a0 Z = true := hw _ (List.mem_of_getElem? (i := 78) rfl)
theorem own_pd4 : parseMethodDescriptor "()Ljava/util/Optional;" = some ⟨[], some (.object "java/util/Optional")⟩ := by decide +kernel
theorem own_d11_43 : decode prog_4_method_5_code 43 = .ok (.invokestatic 52, 3) := by decide +kernel
theorem own_w79 {a0 : Array Value} {Z : State} (hw : ∀ d ∈ tables_1, d.before a0 Z = true) : (Jvm.Cond.static ({ cls := "java/util/Optional", name := "empty", desc := "()Ljava/util/Optional;" } : Jvm.MethodName)).before a0 Z = true := hw _ (List.mem_of_getElem? (i := 79) rfl)
theorem own_w81 {a0 : Array Value} {Z : State} (hw : ∀ d ∈ tables_1, d.before a0 Z = true) : (Jvm.Cond.code ({ cls := "java/util/Optional", name := "empty", desc := "()Ljava/util/Optional;" } : Jvm.MethodName) jdk_32_method_1_code (1 : Nat) (Option.some (Jvm.ClassFile.FieldType.object "java/util/Optional"))).before a0 Z = true := hw _ (List.mem_of_getElem? (i := 81) rfl)
theorem own_d11_46 : decode prog_4_method_5_code 46 = .ok (.areturn, 1) := by decide +kernel
theorem own_w7 {a0 : Array Value} {Z : State} (hw : ∀ d ∈ tables_1, d.before a0 Z = true) : (Jvm.Cond.instantiable "java/lang/String" (4 : Nat)).before a0 Z = true := hw _ (List.mem_of_getElem? (i := 7) rfl)
theorem own_d11_31 : decode prog_4_method_5_code 31 = .ok (.aload 4, 2) := by decide +kernel
theorem own_w91 {a0 : Array Value} {Z : State} (hw : ∀ d ∈ tables_1, d.before a0 Z = true) : (Jvm.Cond.methodLink "com/example/slicewise/slicewise/plan/Method" (46 : Nat) ({ cls := "java/util/Optional", name := "of", desc := "(Ljava/lang/Object;)Ljava/util/Optional;" } : Jvm.MethodName)).before a0 Z = true := hw _ (List.mem_of_getElem? (i := 91) rfl)
theorem own_pd5 : parseMethodDescriptor "(Ljava/lang/Object;)Ljava/util/Optional;" = some ⟨[(.object "java/lang/Object")], some (.object "java/util/Optional")⟩ := by decide +kernel
theorem own_d11_33 : decode prog_4_method_5_code 33 = .ok (.invokestatic 46, 3) := by decide +kernel
theorem own_w92 {a0 : Array Value} {Z : State} (hw : ∀ d ∈ tables_1, d.before a0 Z = true) : (Jvm.Cond.static ({ cls := "java/util/Optional", name := "of", desc := "(Ljava/lang/Object;)Ljava/util/Optional;" } : Jvm.MethodName)).before a0 Z = true := hw _ (List.mem_of_getElem? (i := 92) rfl)
theorem own_w93 {a0 : Array Value} {Z : State} (hw : ∀ d ∈ tables_1, d.before a0 Z = true) : (Jvm.Cond.code ({ cls := "java/util/Optional", name := "of", desc := "(Ljava/lang/Object;)Ljava/util/Optional;" } : Jvm.MethodName) jdk_32_method_3_code (1 : Nat) (Option.some (Jvm.ClassFile.FieldType.object "java/util/Optional"))).before a0 Z = true := hw _ (List.mem_of_getElem? (i := 93) rfl)
theorem own_d11_36 : decode prog_4_method_5_code 36 = .ok (.areturn, 1) := by decide +kernel
theorem own_d8_0 : decode method_4_code 0 = .ok (.aload_n 0, 1) := by decide +kernel
theorem own_d8_1 : decode method_4_code 1 = .ok (.ifnonnull 5, 3) := by decide +kernel
theorem own_d8_4 : decode method_4_code 4 = .ok (.aconst_null, 1) := by decide +kernel
theorem own_d8_5 : decode method_4_code 5 = .ok (.areturn, 1) := by decide +kernel
theorem own_pn4 : plainName "com/example/slicewise/slicewise/plan/MethodForWordPinLaw" = true := by first | (simp [plainName, overriddenIn]; done) | decide +kernel
theorem own_d8_6 : decode method_4_code 6 = .ok (.aload_n 0, 1) := by decide +kernel
theorem own_w38 {a0 : Array Value} {Z : State} (hw : ∀ d ∈ tables_1, d.before a0 Z = true) : (Jvm.Cond.stringLink "com/example/slicewise/slicewise/plan/MethodForWordPinLaw" (37 : Nat) "mod").before a0 Z = true := hw _ (List.mem_of_getElem? (i := 38) rfl)
theorem own_d8_7 : decode method_4_code 7 = .ok (.ldc 37, 2) := by decide +kernel
theorem own_w41 {a0 : Array Value} {Z : State} (hw : ∀ d ∈ tables_1, d.before a0 Z = true) : (Jvm.Cond.methodLink "com/example/slicewise/slicewise/plan/MethodForWordPinLaw" (39 : Nat) ({ cls := "java/lang/String", name := "equals", desc := "(Ljava/lang/Object;)Z" } : Jvm.MethodName)).before a0 Z = true := hw _ (List.mem_of_getElem? (i := 41) rfl)
theorem own_d8_9 : decode method_4_code 9 = .ok (.invokevirtual 39, 3) := by decide +kernel
theorem own_d8_12 : decode method_4_code 12 = .ok (.ifCond .eq 7, 3) := by decide +kernel
theorem own_w90 {a0 : Array Value} {Z : State} (hw : ∀ d ∈ tables_1, d.before a0 Z = true) : (Jvm.Cond.fieldLink "com/example/slicewise/slicewise/plan/MethodForWordPinLaw" (43 : Nat) "com/example/slicewise/slicewise/plan/Method" "MOD" "Lcom/example/slicewise/slicewise/plan/Method;").before a0 Z = true := hw _ (List.mem_of_getElem? (i := 90) rfl)
theorem own_d8_15 : decode method_4_code 15 = .ok (.getstatic 43, 3) := by decide +kernel
theorem own_d8_18 : decode method_4_code 18 = .ok (.areturn, 1) := by decide +kernel
theorem own_d8_19 : decode method_4_code 19 = .ok (.aload_n 0, 1) := by decide +kernel
theorem own_w51 {a0 : Array Value} {Z : State} (hw : ∀ d ∈ tables_1, d.before a0 Z = true) : (Jvm.Cond.stringLink "com/example/slicewise/slicewise/plan/MethodForWordPinLaw" (47 : Nat) "partitions").before a0 Z = true := hw _ (List.mem_of_getElem? (i := 51) rfl)
theorem own_d8_20 : decode method_4_code 20 = .ok (.ldc 47, 2) := by decide +kernel
theorem own_d8_22 : decode method_4_code 22 = .ok (.invokevirtual 39, 3) := by decide +kernel
theorem own_d8_25 : decode method_4_code 25 = .ok (.ifCond .eq 7, 3) := by decide +kernel
theorem own_w106 {a0 : Array Value} {Z : State} (hw : ∀ d ∈ tables_1, d.before a0 Z = true) : (Jvm.Cond.fieldLink "com/example/slicewise/slicewise/plan/MethodForWordPinLaw" (49 : Nat) "com/example/slicewise/slicewise/plan/Method" "PARTITIONS" "Lcom/example/slicewise/slicewise/plan/Method;").before a0 Z = true := hw _ (List.mem_of_getElem? (i := 106) rfl)
theorem own_d8_28 : decode method_4_code 28 = .ok (.getstatic 49, 3) := by decide +kernel
theorem own_d8_31 : decode method_4_code 31 = .ok (.areturn, 1) := by decide +kernel
theorem own_d8_32 : decode method_4_code 32 = .ok (.aload_n 0, 1) := by decide +kernel
theorem own_w52 {a0 : Array Value} {Z : State} (hw : ∀ d ∈ tables_1, d.before a0 Z = true) : (Jvm.Cond.stringLink "com/example/slicewise/slicewise/plan/MethodForWordPinLaw" (52 : Nat) "blocks").before a0 Z = true := hw _ (List.mem_of_getElem? (i := 52) rfl)
theorem own_d8_33 : decode method_4_code 33 = .ok (.ldc 52, 2) := by decide +kernel
theorem own_d8_35 : decode method_4_code 35 = .ok (.invokevirtual 39, 3) := by decide +kernel
theorem own_d8_38 : decode method_4_code 38 = .ok (.ifCond .eq 7, 3) := by decide +kernel
theorem own_w107 {a0 : Array Value} {Z : State} (hw : ∀ d ∈ tables_1, d.before a0 Z = true) : (Jvm.Cond.fieldLink "com/example/slicewise/slicewise/plan/MethodForWordPinLaw" (54 : Nat) "com/example/slicewise/slicewise/plan/Method" "BLOCKS" "Lcom/example/slicewise/slicewise/plan/Method;").before a0 Z = true := hw _ (List.mem_of_getElem? (i := 107) rfl)
theorem own_d8_41 : decode method_4_code 41 = .ok (.getstatic 54, 3) := by decide +kernel
theorem own_d8_44 : decode method_4_code 44 = .ok (.areturn, 1) := by decide +kernel
theorem own_d8_45 : decode method_4_code 45 = .ok (.aconst_null, 1) := by decide +kernel
theorem own_d8_46 : decode method_4_code 46 = .ok (.areturn, 1) := by decide +kernel
theorem own_d1_0 : decode method_3_code 0 = .ok (.iload_n 0, 1) := by decide +kernel
theorem own_d1_1 : decode method_3_code 1 = .ok (.ifCond .ne 70, 3) := by decide +kernel
theorem own_d1_4 : decode method_3_code 4 = .ok (.iload_n 1, 1) := by decide +kernel
theorem own_d1_5 : decode method_3_code 5 = .ok (.iconst 1, 1) := by decide +kernel
theorem own_d1_6 : decode method_3_code 6 = .ok (.if_icmp .ne 22, 3) := by decide +kernel
theorem own_d1_9 : decode method_3_code 9 = .ok (.iconst 3, 1) := by decide +kernel
theorem own_w5 {a0 : Array Value} {Z : State} (hw : ∀ d ∈ tables_1, d.before a0 Z = true) : (Jvm.Cond.arrayClass Jvm.ClassFile.FieldType.char).before a0 Z = true := hw _ (List.mem_of_getElem? (i := 5) rfl)
theorem own_d1_10 : decode method_3_code 10 = .ok (.newarray .char, 2) := by decide +kernel
theorem own_d1_12 : decode method_3_code 12 = .ok (.dup, 1) := by decide +kernel
theorem own_d1_13 : decode method_3_code 13 = .ok (.iconst 0, 1) := by decide +kernel
theorem own_d1_14 : decode method_3_code 14 = .ok (.bipush 109, 2) := by decide +kernel
theorem own_d1_16 : decode method_3_code 16 = .ok (.castore, 1) := by decide +kernel
theorem own_d1_17 : decode method_3_code 17 = .ok (.dup, 1) := by decide +kernel
theorem own_d1_18 : decode method_3_code 18 = .ok (.iconst 1, 1) := by decide +kernel
theorem own_d1_19 : decode method_3_code 19 = .ok (.bipush 111, 2) := by decide +kernel
theorem own_d1_21 : decode method_3_code 21 = .ok (.castore, 1) := by decide +kernel
theorem own_d1_22 : decode method_3_code 22 = .ok (.dup, 1) := by decide +kernel
theorem own_d1_23 : decode method_3_code 23 = .ok (.iconst 2, 1) := by decide +kernel
theorem own_d1_24 : decode method_3_code 24 = .ok (.bipush 100, 2) := by decide +kernel
theorem own_d1_26 : decode method_3_code 26 = .ok (.castore, 1) := by decide +kernel
theorem own_d1_27 : decode method_3_code 27 = .ok (.areturn, 1) := by decide +kernel
theorem own_d1_28 : decode method_3_code 28 = .ok (.iload_n 1, 1) := by decide +kernel
theorem own_d1_29 : decode method_3_code 29 = .ok (.iconst 2, 1) := by decide +kernel
theorem own_d1_30 : decode method_3_code 30 = .ok (.if_icmp .ne 17, 3) := by decide +kernel
theorem own_d1_33 : decode method_3_code 33 = .ok (.iconst 2, 1) := by decide +kernel
theorem own_d1_34 : decode method_3_code 34 = .ok (.newarray .char, 2) := by decide +kernel
theorem own_d1_36 : decode method_3_code 36 = .ok (.dup, 1) := by decide +kernel
theorem own_d1_37 : decode method_3_code 37 = .ok (.iconst 0, 1) := by decide +kernel
theorem own_d1_38 : decode method_3_code 38 = .ok (.bipush 109, 2) := by decide +kernel
theorem own_d1_40 : decode method_3_code 40 = .ok (.castore, 1) := by decide +kernel
theorem own_d1_41 : decode method_3_code 41 = .ok (.dup, 1) := by decide +kernel
theorem own_d1_42 : decode method_3_code 42 = .ok (.iconst 1, 1) := by decide +kernel
theorem own_d1_43 : decode method_3_code 43 = .ok (.bipush 111, 2) := by decide +kernel
theorem own_d1_45 : decode method_3_code 45 = .ok (.castore, 1) := by decide +kernel
theorem own_d1_46 : decode method_3_code 46 = .ok (.areturn, 1) := by decide +kernel
theorem own_d1_47 : decode method_3_code 47 = .ok (.iconst 4, 1) := by decide +kernel
theorem own_d1_48 : decode method_3_code 48 = .ok (.newarray .char, 2) := by decide +kernel
theorem own_d1_50 : decode method_3_code 50 = .ok (.dup, 1) := by decide +kernel
theorem own_d1_51 : decode method_3_code 51 = .ok (.iconst 0, 1) := by decide +kernel
theorem own_d1_52 : decode method_3_code 52 = .ok (.bipush 109, 2) := by decide +kernel
theorem own_d1_54 : decode method_3_code 54 = .ok (.castore, 1) := by decide +kernel
theorem own_d1_55 : decode method_3_code 55 = .ok (.dup, 1) := by decide +kernel
theorem own_d1_56 : decode method_3_code 56 = .ok (.iconst 1, 1) := by decide +kernel
theorem own_d1_57 : decode method_3_code 57 = .ok (.bipush 111, 2) := by decide +kernel
theorem own_d1_59 : decode method_3_code 59 = .ok (.castore, 1) := by decide +kernel
theorem own_d1_60 : decode method_3_code 60 = .ok (.dup, 1) := by decide +kernel
theorem own_d1_61 : decode method_3_code 61 = .ok (.iconst 2, 1) := by decide +kernel
theorem own_d1_62 : decode method_3_code 62 = .ok (.bipush 100, 2) := by decide +kernel
theorem own_d1_64 : decode method_3_code 64 = .ok (.castore, 1) := by decide +kernel
theorem own_d1_65 : decode method_3_code 65 = .ok (.dup, 1) := by decide +kernel
theorem own_d1_66 : decode method_3_code 66 = .ok (.iconst 3, 1) := by decide +kernel
theorem own_d1_67 : decode method_3_code 67 = .ok (.bipush 115, 2) := by decide +kernel
theorem own_d1_69 : decode method_3_code 69 = .ok (.castore, 1) := by decide +kernel
theorem own_d1_70 : decode method_3_code 70 = .ok (.areturn, 1) := by decide +kernel
theorem own_d1_71 : decode method_3_code 71 = .ok (.iload_n 0, 1) := by decide +kernel
theorem own_d1_72 : decode method_3_code 72 = .ok (.iconst 1, 1) := by decide +kernel
theorem own_d1_73 : decode method_3_code 73 = .ok (.if_icmp .ne 190, 3) := by decide +kernel
theorem own_d1_76 : decode method_3_code 76 = .ok (.iload_n 1, 1) := by decide +kernel
theorem own_d1_77 : decode method_3_code 77 = .ok (.iconst 1, 1) := by decide +kernel
theorem own_d1_78 : decode method_3_code 78 = .ok (.if_icmp .ne 62, 3) := by decide +kernel
theorem own_d1_81 : decode method_3_code 81 = .ok (.bipush 10, 2) := by decide +kernel
theorem own_d1_83 : decode method_3_code 83 = .ok (.newarray .char, 2) := by decide +kernel
theorem own_d1_85 : decode method_3_code 85 = .ok (.dup, 1) := by decide +kernel
theorem own_d1_86 : decode method_3_code 86 = .ok (.iconst 0, 1) := by decide +kernel
theorem own_d1_87 : decode method_3_code 87 = .ok (.bipush 112, 2) := by decide +kernel
theorem own_d1_89 : decode method_3_code 89 = .ok (.castore, 1) := by decide +kernel
theorem own_d1_90 : decode method_3_code 90 = .ok (.dup, 1) := by decide +kernel
theorem own_d1_91 : decode method_3_code 91 = .ok (.iconst 1, 1) := by decide +kernel
theorem own_d1_92 : decode method_3_code 92 = .ok (.bipush 97, 2) := by decide +kernel
theorem own_d1_94 : decode method_3_code 94 = .ok (.castore, 1) := by decide +kernel
theorem own_d1_95 : decode method_3_code 95 = .ok (.dup, 1) := by decide +kernel
theorem own_d1_96 : decode method_3_code 96 = .ok (.iconst 2, 1) := by decide +kernel
theorem own_d1_97 : decode method_3_code 97 = .ok (.bipush 114, 2) := by decide +kernel
theorem own_d1_99 : decode method_3_code 99 = .ok (.castore, 1) := by decide +kernel
theorem own_d1_100 : decode method_3_code 100 = .ok (.dup, 1) := by decide +kernel
theorem own_d1_101 : decode method_3_code 101 = .ok (.iconst 3, 1) := by decide +kernel
theorem own_d1_102 : decode method_3_code 102 = .ok (.bipush 116, 2) := by decide +kernel
theorem own_d1_104 : decode method_3_code 104 = .ok (.castore, 1) := by decide +kernel
theorem own_d1_105 : decode method_3_code 105 = .ok (.dup, 1) := by decide +kernel
theorem own_d1_106 : decode method_3_code 106 = .ok (.iconst 4, 1) := by decide +kernel
theorem own_d1_107 : decode method_3_code 107 = .ok (.bipush 105, 2) := by decide +kernel
theorem own_d1_109 : decode method_3_code 109 = .ok (.castore, 1) := by decide +kernel
theorem own_d1_110 : decode method_3_code 110 = .ok (.dup, 1) := by decide +kernel
theorem own_d1_111 : decode method_3_code 111 = .ok (.iconst 5, 1) := by decide +kernel
theorem own_d1_112 : decode method_3_code 112 = .ok (.bipush 116, 2) := by decide +kernel
theorem own_d1_114 : decode method_3_code 114 = .ok (.castore, 1) := by decide +kernel
theorem own_d1_115 : decode method_3_code 115 = .ok (.dup, 1) := by decide +kernel
theorem own_d1_116 : decode method_3_code 116 = .ok (.bipush 6, 2) := by decide +kernel
theorem own_d1_118 : decode method_3_code 118 = .ok (.bipush 105, 2) := by decide +kernel
theorem own_d1_120 : decode method_3_code 120 = .ok (.castore, 1) := by decide +kernel
theorem own_d1_121 : decode method_3_code 121 = .ok (.dup, 1) := by decide +kernel
theorem own_d1_122 : decode method_3_code 122 = .ok (.bipush 7, 2) := by decide +kernel
theorem own_d1_124 : decode method_3_code 124 = .ok (.bipush 111, 2) := by decide +kernel
theorem own_d1_126 : decode method_3_code 126 = .ok (.castore, 1) := by decide +kernel
theorem own_d1_127 : decode method_3_code 127 = .ok (.dup, 1) := by decide +kernel
theorem own_d1_128 : decode method_3_code 128 = .ok (.bipush 8, 2) := by decide +kernel
theorem own_d1_130 : decode method_3_code 130 = .ok (.bipush 110, 2) := by decide +kernel
theorem own_d1_132 : decode method_3_code 132 = .ok (.castore, 1) := by decide +kernel
theorem own_d1_133 : decode method_3_code 133 = .ok (.dup, 1) := by decide +kernel
theorem own_d1_134 : decode method_3_code 134 = .ok (.bipush 9, 2) := by decide +kernel
theorem own_d1_136 : decode method_3_code 136 = .ok (.bipush 115, 2) := by decide +kernel
theorem own_d1_138 : decode method_3_code 138 = .ok (.castore, 1) := by decide +kernel
theorem own_d1_139 : decode method_3_code 139 = .ok (.areturn, 1) := by decide +kernel
theorem own_d1_140 : decode method_3_code 140 = .ok (.iload_n 1, 1) := by decide +kernel
theorem own_d1_141 : decode method_3_code 141 = .ok (.iconst 2, 1) := by decide +kernel
theorem own_d1_142 : decode method_3_code 142 = .ok (.if_icmp .ne 56, 3) := by decide +kernel
theorem own_d1_145 : decode method_3_code 145 = .ok (.bipush 9, 2) := by decide +kernel
theorem own_d1_147 : decode method_3_code 147 = .ok (.newarray .char, 2) := by decide +kernel
theorem own_d1_149 : decode method_3_code 149 = .ok (.dup, 1) := by decide +kernel
theorem own_d1_150 : decode method_3_code 150 = .ok (.iconst 0, 1) := by decide +kernel
theorem own_d1_151 : decode method_3_code 151 = .ok (.bipush 112, 2) := by decide +kernel
theorem own_d1_153 : decode method_3_code 153 = .ok (.castore, 1) := by decide +kernel
theorem own_d1_154 : decode method_3_code 154 = .ok (.dup, 1) := by decide +kernel
theorem own_d1_155 : decode method_3_code 155 = .ok (.iconst 1, 1) := by decide +kernel
theorem own_d1_156 : decode method_3_code 156 = .ok (.bipush 97, 2) := by decide +kernel
theorem own_d1_158 : decode method_3_code 158 = .ok (.castore, 1) := by decide +kernel
theorem own_d1_159 : decode method_3_code 159 = .ok (.dup, 1) := by decide +kernel
theorem own_d1_160 : decode method_3_code 160 = .ok (.iconst 2, 1) := by decide +kernel
theorem own_d1_161 : decode method_3_code 161 = .ok (.bipush 114, 2) := by decide +kernel
theorem own_d1_163 : decode method_3_code 163 = .ok (.castore, 1) := by decide +kernel
theorem own_d1_164 : decode method_3_code 164 = .ok (.dup, 1) := by decide +kernel
theorem own_d1_165 : decode method_3_code 165 = .ok (.iconst 3, 1) := by decide +kernel
theorem own_d1_166 : decode method_3_code 166 = .ok (.bipush 116, 2) := by decide +kernel
theorem own_d1_168 : decode method_3_code 168 = .ok (.castore, 1) := by decide +kernel
theorem own_d1_169 : decode method_3_code 169 = .ok (.dup, 1) := by decide +kernel
theorem own_d1_170 : decode method_3_code 170 = .ok (.iconst 4, 1) := by decide +kernel
theorem own_d1_171 : decode method_3_code 171 = .ok (.bipush 105, 2) := by decide +kernel
theorem own_d1_173 : decode method_3_code 173 = .ok (.castore, 1) := by decide +kernel
theorem own_d1_174 : decode method_3_code 174 = .ok (.dup, 1) := by decide +kernel
theorem own_d1_175 : decode method_3_code 175 = .ok (.iconst 5, 1) := by decide +kernel
theorem own_d1_176 : decode method_3_code 176 = .ok (.bipush 116, 2) := by decide +kernel
theorem own_d1_178 : decode method_3_code 178 = .ok (.castore, 1) := by decide +kernel
theorem own_d1_179 : decode method_3_code 179 = .ok (.dup, 1) := by decide +kernel
theorem own_d1_180 : decode method_3_code 180 = .ok (.bipush 6, 2) := by decide +kernel
theorem own_d1_182 : decode method_3_code 182 = .ok (.bipush 105, 2) := by decide +kernel
theorem own_d1_184 : decode method_3_code 184 = .ok (.castore, 1) := by decide +kernel
theorem own_d1_185 : decode method_3_code 185 = .ok (.dup, 1) := by decide +kernel
theorem own_d1_186 : decode method_3_code 186 = .ok (.bipush 7, 2) := by decide +kernel
theorem own_d1_188 : decode method_3_code 188 = .ok (.bipush 111, 2) := by decide +kernel
theorem own_d1_190 : decode method_3_code 190 = .ok (.castore, 1) := by decide +kernel
theorem own_d1_191 : decode method_3_code 191 = .ok (.dup, 1) := by decide +kernel
theorem own_d1_192 : decode method_3_code 192 = .ok (.bipush 8, 2) := by decide +kernel
theorem own_d1_194 : decode method_3_code 194 = .ok (.bipush 110, 2) := by decide +kernel
theorem own_d1_196 : decode method_3_code 196 = .ok (.castore, 1) := by decide +kernel
theorem own_d1_197 : decode method_3_code 197 = .ok (.areturn, 1) := by decide +kernel
theorem own_d1_198 : decode method_3_code 198 = .ok (.bipush 11, 2) := by decide +kernel
theorem own_d1_200 : decode method_3_code 200 = .ok (.newarray .char, 2) := by decide +kernel
theorem own_d1_202 : decode method_3_code 202 = .ok (.dup, 1) := by decide +kernel
theorem own_d1_203 : decode method_3_code 203 = .ok (.iconst 0, 1) := by decide +kernel
theorem own_d1_204 : decode method_3_code 204 = .ok (.bipush 112, 2) := by decide +kernel
theorem own_d1_206 : decode method_3_code 206 = .ok (.castore, 1) := by decide +kernel
theorem own_d1_207 : decode method_3_code 207 = .ok (.dup, 1) := by decide +kernel
theorem own_d1_208 : decode method_3_code 208 = .ok (.iconst 1, 1) := by decide +kernel
theorem own_d1_209 : decode method_3_code 209 = .ok (.bipush 97, 2) := by decide +kernel
theorem own_d1_211 : decode method_3_code 211 = .ok (.castore, 1) := by decide +kernel
theorem own_d1_212 : decode method_3_code 212 = .ok (.dup, 1) := by decide +kernel
theorem own_d1_213 : decode method_3_code 213 = .ok (.iconst 2, 1) := by decide +kernel
theorem own_d1_214 : decode method_3_code 214 = .ok (.bipush 114, 2) := by decide +kernel
theorem own_d1_216 : decode method_3_code 216 = .ok (.castore, 1) := by decide +kernel
theorem own_d1_217 : decode method_3_code 217 = .ok (.dup, 1) := by decide +kernel
theorem own_d1_218 : decode method_3_code 218 = .ok (.iconst 3, 1) := by decide +kernel
theorem own_d1_219 : decode method_3_code 219 = .ok (.bipush 116, 2) := by decide +kernel
theorem own_d1_221 : decode method_3_code 221 = .ok (.castore, 1) := by decide +kernel
theorem own_d1_222 : decode method_3_code 222 = .ok (.dup, 1) := by decide +kernel
theorem own_d1_223 : decode method_3_code 223 = .ok (.iconst 4, 1) := by decide +kernel
theorem own_d1_224 : decode method_3_code 224 = .ok (.bipush 105, 2) := by decide +kernel
theorem own_d1_226 : decode method_3_code 226 = .ok (.castore, 1) := by decide +kernel
theorem own_d1_227 : decode method_3_code 227 = .ok (.dup, 1) := by decide +kernel
theorem own_d1_228 : decode method_3_code 228 = .ok (.iconst 5, 1) := by decide +kernel
theorem own_d1_229 : decode method_3_code 229 = .ok (.bipush 116, 2) := by decide +kernel
theorem own_d1_231 : decode method_3_code 231 = .ok (.castore, 1) := by decide +kernel
theorem own_d1_232 : decode method_3_code 232 = .ok (.dup, 1) := by decide +kernel
theorem own_d1_233 : decode method_3_code 233 = .ok (.bipush 6, 2) := by decide +kernel
theorem own_d1_235 : decode method_3_code 235 = .ok (.bipush 105, 2) := by decide +kernel
theorem own_d1_237 : decode method_3_code 237 = .ok (.castore, 1) := by decide +kernel
theorem own_d1_238 : decode method_3_code 238 = .ok (.dup, 1) := by decide +kernel
theorem own_d1_239 : decode method_3_code 239 = .ok (.bipush 7, 2) := by decide +kernel
theorem own_d1_241 : decode method_3_code 241 = .ok (.bipush 111, 2) := by decide +kernel
theorem own_d1_243 : decode method_3_code 243 = .ok (.castore, 1) := by decide +kernel
theorem own_d1_244 : decode method_3_code 244 = .ok (.dup, 1) := by decide +kernel
theorem own_d1_245 : decode method_3_code 245 = .ok (.bipush 8, 2) := by decide +kernel
theorem own_d1_247 : decode method_3_code 247 = .ok (.bipush 110, 2) := by decide +kernel
theorem own_d1_249 : decode method_3_code 249 = .ok (.castore, 1) := by decide +kernel
theorem own_d1_250 : decode method_3_code 250 = .ok (.dup, 1) := by decide +kernel
theorem own_d1_251 : decode method_3_code 251 = .ok (.bipush 9, 2) := by decide +kernel
theorem own_d1_253 : decode method_3_code 253 = .ok (.bipush 115, 2) := by decide +kernel
theorem own_d1_255 : decode method_3_code 255 = .ok (.castore, 1) := by decide +kernel
theorem own_d1_256 : decode method_3_code 256 = .ok (.dup, 1) := by decide +kernel
theorem own_d1_257 : decode method_3_code 257 = .ok (.bipush 10, 2) := by decide +kernel
theorem own_d1_259 : decode method_3_code 259 = .ok (.bipush 120, 2) := by decide +kernel
theorem own_d1_261 : decode method_3_code 261 = .ok (.castore, 1) := by decide +kernel
theorem own_d1_262 : decode method_3_code 262 = .ok (.areturn, 1) := by decide +kernel
theorem own_d1_263 : decode method_3_code 263 = .ok (.iload_n 1, 1) := by decide +kernel
theorem own_d1_264 : decode method_3_code 264 = .ok (.iconst 1, 1) := by decide +kernel
theorem own_d1_265 : decode method_3_code 265 = .ok (.if_icmp .ne 38, 3) := by decide +kernel
theorem own_d1_268 : decode method_3_code 268 = .ok (.bipush 6, 2) := by decide +kernel
theorem own_d1_270 : decode method_3_code 270 = .ok (.newarray .char, 2) := by decide +kernel
theorem own_d1_272 : decode method_3_code 272 = .ok (.dup, 1) := by decide +kernel
theorem own_d1_273 : decode method_3_code 273 = .ok (.iconst 0, 1) := by decide +kernel
theorem own_d1_274 : decode method_3_code 274 = .ok (.bipush 98, 2) := by decide +kernel
theorem own_d1_276 : decode method_3_code 276 = .ok (.castore, 1) := by decide +kernel
theorem own_d1_277 : decode method_3_code 277 = .ok (.dup, 1) := by decide +kernel
theorem own_d1_278 : decode method_3_code 278 = .ok (.iconst 1, 1) := by decide +kernel
theorem own_d1_279 : decode method_3_code 279 = .ok (.bipush 108, 2) := by decide +kernel
theorem own_d1_281 : decode method_3_code 281 = .ok (.castore, 1) := by decide +kernel
theorem own_d1_282 : decode method_3_code 282 = .ok (.dup, 1) := by decide +kernel
theorem own_d1_283 : decode method_3_code 283 = .ok (.iconst 2, 1) := by decide +kernel
theorem own_d1_284 : decode method_3_code 284 = .ok (.bipush 111, 2) := by decide +kernel
theorem own_d1_286 : decode method_3_code 286 = .ok (.castore, 1) := by decide +kernel
theorem own_d1_287 : decode method_3_code 287 = .ok (.dup, 1) := by decide +kernel
theorem own_d1_288 : decode method_3_code 288 = .ok (.iconst 3, 1) := by decide +kernel
theorem own_d1_289 : decode method_3_code 289 = .ok (.bipush 99, 2) := by decide +kernel
theorem own_d1_291 : decode method_3_code 291 = .ok (.castore, 1) := by decide +kernel
theorem own_d1_292 : decode method_3_code 292 = .ok (.dup, 1) := by decide +kernel
theorem own_d1_293 : decode method_3_code 293 = .ok (.iconst 4, 1) := by decide +kernel
theorem own_d1_294 : decode method_3_code 294 = .ok (.bipush 107, 2) := by decide +kernel
theorem own_d1_296 : decode method_3_code 296 = .ok (.castore, 1) := by decide +kernel
theorem own_d1_297 : decode method_3_code 297 = .ok (.dup, 1) := by decide +kernel
theorem own_d1_298 : decode method_3_code 298 = .ok (.iconst 5, 1) := by decide +kernel
theorem own_d1_299 : decode method_3_code 299 = .ok (.bipush 115, 2) := by decide +kernel
theorem own_d1_301 : decode method_3_code 301 = .ok (.castore, 1) := by decide +kernel
theorem own_d1_302 : decode method_3_code 302 = .ok (.areturn, 1) := by decide +kernel
theorem own_d1_303 : decode method_3_code 303 = .ok (.iload_n 1, 1) := by decide +kernel
theorem own_d1_304 : decode method_3_code 304 = .ok (.iconst 2, 1) := by decide +kernel
theorem own_d1_305 : decode method_3_code 305 = .ok (.if_icmp .ne 32, 3) := by decide +kernel
theorem own_d1_308 : decode method_3_code 308 = .ok (.iconst 5, 1) := by decide +kernel
theorem own_d1_309 : decode method_3_code 309 = .ok (.newarray .char, 2) := by decide +kernel
theorem own_d1_311 : decode method_3_code 311 = .ok (.dup, 1) := by decide +kernel
theorem own_d1_312 : decode method_3_code 312 = .ok (.iconst 0, 1) := by decide +kernel
theorem own_d1_313 : decode method_3_code 313 = .ok (.bipush 98, 2) := by decide +kernel
theorem own_d1_315 : decode method_3_code 315 = .ok (.castore, 1) := by decide +kernel
theorem own_d1_316 : decode method_3_code 316 = .ok (.dup, 1) := by decide +kernel
theorem own_d1_317 : decode method_3_code 317 = .ok (.iconst 1, 1) := by decide +kernel
theorem own_d1_318 : decode method_3_code 318 = .ok (.bipush 108, 2) := by decide +kernel
theorem own_d1_320 : decode method_3_code 320 = .ok (.castore, 1) := by decide +kernel
theorem own_d1_321 : decode method_3_code 321 = .ok (.dup, 1) := by decide +kernel
theorem own_d1_322 : decode method_3_code 322 = .ok (.iconst 2, 1) := by decide +kernel
theorem own_d1_323 : decode method_3_code 323 = .ok (.bipush 111, 2) := by decide +kernel
theorem own_d1_325 : decode method_3_code 325 = .ok (.castore, 1) := by decide +kernel
theorem own_d1_326 : decode method_3_code 326 = .ok (.dup, 1) := by decide +kernel
theorem own_d1_327 : decode method_3_code 327 = .ok (.iconst 3, 1) := by decide +kernel
theorem own_d1_328 : decode method_3_code 328 = .ok (.bipush 99, 2) := by decide +kernel
theorem own_d1_330 : decode method_3_code 330 = .ok (.castore, 1) := by decide +kernel
theorem own_d1_331 : decode method_3_code 331 = .ok (.dup, 1) := by decide +kernel
theorem own_d1_332 : decode method_3_code 332 = .ok (.iconst 4, 1) := by decide +kernel
theorem own_d1_333 : decode method_3_code 333 = .ok (.bipush 107, 2) := by decide +kernel
theorem own_d1_335 : decode method_3_code 335 = .ok (.castore, 1) := by decide +kernel
theorem own_d1_336 : decode method_3_code 336 = .ok (.areturn, 1) := by decide +kernel
theorem own_d1_337 : decode method_3_code 337 = .ok (.bipush 7, 2) := by decide +kernel
theorem own_d1_339 : decode method_3_code 339 = .ok (.newarray .char, 2) := by decide +kernel
theorem own_d1_341 : decode method_3_code 341 = .ok (.dup, 1) := by decide +kernel
theorem own_d1_342 : decode method_3_code 342 = .ok (.iconst 0, 1) := by decide +kernel
theorem own_d1_343 : decode method_3_code 343 = .ok (.bipush 98, 2) := by decide +kernel
theorem own_d1_345 : decode method_3_code 345 = .ok (.castore, 1) := by decide +kernel
theorem own_d1_346 : decode method_3_code 346 = .ok (.dup, 1) := by decide +kernel
theorem own_d1_347 : decode method_3_code 347 = .ok (.iconst 1, 1) := by decide +kernel
theorem own_d1_348 : decode method_3_code 348 = .ok (.bipush 108, 2) := by decide +kernel
theorem own_d1_350 : decode method_3_code 350 = .ok (.castore, 1) := by decide +kernel
theorem own_d1_351 : decode method_3_code 351 = .ok (.dup, 1) := by decide +kernel
theorem own_d1_352 : decode method_3_code 352 = .ok (.iconst 2, 1) := by decide +kernel
theorem own_d1_353 : decode method_3_code 353 = .ok (.bipush 111, 2) := by decide +kernel
theorem own_d1_355 : decode method_3_code 355 = .ok (.castore, 1) := by decide +kernel
theorem own_d1_356 : decode method_3_code 356 = .ok (.dup, 1) := by decide +kernel
theorem own_d1_357 : decode method_3_code 357 = .ok (.iconst 3, 1) := by decide +kernel
theorem own_d1_358 : decode method_3_code 358 = .ok (.bipush 99, 2) := by decide +kernel
theorem own_d1_360 : decode method_3_code 360 = .ok (.castore, 1) := by decide +kernel
theorem own_d1_361 : decode method_3_code 361 = .ok (.dup, 1) := by decide +kernel
theorem own_d1_362 : decode method_3_code 362 = .ok (.iconst 4, 1) := by decide +kernel
theorem own_d1_363 : decode method_3_code 363 = .ok (.bipush 107, 2) := by decide +kernel
theorem own_d1_365 : decode method_3_code 365 = .ok (.castore, 1) := by decide +kernel
theorem own_d1_366 : decode method_3_code 366 = .ok (.dup, 1) := by decide +kernel
theorem own_d1_367 : decode method_3_code 367 = .ok (.iconst 5, 1) := by decide +kernel
theorem own_d1_368 : decode method_3_code 368 = .ok (.bipush 115, 2) := by decide +kernel
theorem own_d1_370 : decode method_3_code 370 = .ok (.castore, 1) := by decide +kernel
theorem own_d1_371 : decode method_3_code 371 = .ok (.dup, 1) := by decide +kernel
theorem own_d1_372 : decode method_3_code 372 = .ok (.bipush 6, 2) := by decide +kernel
theorem own_d1_374 : decode method_3_code 374 = .ok (.bipush 115, 2) := by decide +kernel
theorem own_d1_376 : decode method_3_code 376 = .ok (.castore, 1) := by decide +kernel
theorem own_d1_377 : decode method_3_code 377 = .ok (.areturn, 1) := by decide +kernel
theorem own_w0 {a0 : Array Value} {Z : State} (hw : ∀ d ∈ tables_1, d.before a0 Z = true) : (Jvm.Cond.constant "com/example/slicewise/slicewise/plan/MethodForWordPinLaw" (7 : Nat) (2147483647 : Int32)).before a0 Z = true := hw _ (List.mem_of_getElem? (i := 0) rfl)
theorem own_w35 {a0 : Array Value} {Z : State} (hw : ∀ d ∈ tables_1, d.before a0 Z = true) : (Jvm.Cond.methodLink "com/example/slicewise/slicewise/plan/MethodForWordPinLaw" (21 : Nat) ({ cls := "com/example/slicewise/slicewise/plan/MethodForWordPinLaw", name := "expected", desc := "(Ljava/lang/String;)Lcom/example/slicewise/slicewise/plan/Method;" } : Jvm.MethodName)).before a0 Z = true := hw _ (List.mem_of_getElem? (i := 35) rfl)
theorem own_pd6 : parseMethodDescriptor "(Ljava/lang/String;)Lcom/example/slicewise/slicewise/plan/Method;" = some ⟨[(.object "java/lang/String")], some (.object "com/example/slicewise/slicewise/plan/Method")⟩ := by decide +kernel
theorem own_w36 {a0 : Array Value} {Z : State} (hw : ∀ d ∈ tables_1, d.before a0 Z = true) : (Jvm.Cond.static ({ cls := "com/example/slicewise/slicewise/plan/MethodForWordPinLaw", name := "expected", desc := "(Ljava/lang/String;)Lcom/example/slicewise/slicewise/plan/Method;" } : Jvm.MethodName)).before a0 Z = true := hw _ (List.mem_of_getElem? (i := 36) rfl)
theorem own_w3 {a0 : Array Value} {Z : State} (hw : ∀ d ∈ tables_1, d.before a0 Z = true) : (Jvm.Cond.initialized "com/example/slicewise/slicewise/plan/MethodForWordPinLaw").before a0 Z = true := hw _ (List.mem_of_getElem? (i := 3) rfl)
theorem own_w37 {a0 : Array Value} {Z : State} (hw : ∀ d ∈ tables_1, d.before a0 Z = true) : (Jvm.Cond.code ({ cls := "com/example/slicewise/slicewise/plan/MethodForWordPinLaw", name := "expected", desc := "(Ljava/lang/String;)Lcom/example/slicewise/slicewise/plan/Method;" } : Jvm.MethodName) method_4_code (1 : Nat) (Option.some (Jvm.ClassFile.FieldType.object "com/example/slicewise/slicewise/plan/Method"))).before a0 Z = true := hw _ (List.mem_of_getElem? (i := 37) rfl)
theorem own_w53 {a0 : Array Value} {Z : State} (hw : ∀ d ∈ tables_1, d.before a0 Z = true) : (Jvm.Cond.methodLink "com/example/slicewise/slicewise/plan/MethodForWordPinLaw" (25 : Nat) ({ cls := "com/example/slicewise/slicewise/plan/Method", name := "forWord", desc := "(Ljava/lang/String;)Ljava/util/Optional;" } : Jvm.MethodName)).before a0 Z = true := hw _ (List.mem_of_getElem? (i := 53) rfl)
theorem own_pd7 : parseMethodDescriptor "(Ljava/lang/String;)Ljava/util/Optional;" = some ⟨[(.object "java/lang/String")], some (.object "java/util/Optional")⟩ := by decide +kernel
theorem own_w54 {a0 : Array Value} {Z : State} (hw : ∀ d ∈ tables_1, d.before a0 Z = true) : (Jvm.Cond.static ({ cls := "com/example/slicewise/slicewise/plan/Method", name := "forWord", desc := "(Ljava/lang/String;)Ljava/util/Optional;" } : Jvm.MethodName)).before a0 Z = true := hw _ (List.mem_of_getElem? (i := 54) rfl)
theorem own_w56 {a0 : Array Value} {Z : State} (hw : ∀ d ∈ tables_1, d.before a0 Z = true) : (Jvm.Cond.code ({ cls := "com/example/slicewise/slicewise/plan/Method", name := "forWord", desc := "(Ljava/lang/String;)Ljava/util/Optional;" } : Jvm.MethodName) prog_4_method_5_code (5 : Nat) (Option.some (Jvm.ClassFile.FieldType.object "java/util/Optional"))).before a0 Z = true := hw _ (List.mem_of_getElem? (i := 56) rfl)
theorem own_w83 {a0 : Array Value} {Z : State} (hw : ∀ d ∈ tables_1, d.before a0 Z = true) : (Jvm.Cond.methodLink "com/example/slicewise/slicewise/plan/MethodForWordPinLaw" (31 : Nat) ({ cls := "java/util/Optional", name := "orElse", desc := "(Ljava/lang/Object;)Ljava/lang/Object;" } : Jvm.MethodName)).before a0 Z = true := hw _ (List.mem_of_getElem? (i := 83) rfl)
theorem own_w86 {a0 : Array Value} {Z : State} (hw : ∀ d ∈ tables_1, d.before a0 Z = true) : (Jvm.Cond.selects "java/util/Optional" ({ cls := "java/util/Optional", name := "orElse", desc := "(Ljava/lang/Object;)Ljava/lang/Object;" } : Jvm.MethodName) ({ cls := "java/util/Optional", name := "orElse", desc := "(Ljava/lang/Object;)Ljava/lang/Object;" } : Jvm.MethodName)).before a0 Z = true := hw _ (List.mem_of_getElem? (i := 86) rfl)
theorem own_w84 {a0 : Array Value} {Z : State} (hw : ∀ d ∈ tables_1, d.before a0 Z = true) : (Jvm.Cond.declares ({ cls := "java/util/Optional", name := "orElse", desc := "(Ljava/lang/Object;)Ljava/lang/Object;" } : Jvm.MethodName)).before a0 Z = true := hw _ (List.mem_of_getElem? (i := 84) rfl)
theorem own_w85 {a0 : Array Value} {Z : State} (hw : ∀ d ∈ tables_1, d.before a0 Z = true) : (Jvm.Cond.instanceMethod ({ cls := "java/util/Optional", name := "orElse", desc := "(Ljava/lang/Object;)Ljava/lang/Object;" } : Jvm.MethodName)).before a0 Z = true := hw _ (List.mem_of_getElem? (i := 85) rfl)
theorem own_w87 {a0 : Array Value} {Z : State} (hw : ∀ d ∈ tables_1, d.before a0 Z = true) : (Jvm.Cond.code ({ cls := "java/util/Optional", name := "orElse", desc := "(Ljava/lang/Object;)Ljava/lang/Object;" } : Jvm.MethodName) jdk_32_method_15_code (2 : Nat) (Option.some (Jvm.ClassFile.FieldType.object "java/lang/Object"))).before a0 Z = true := hw _ (List.mem_of_getElem? (i := 87) rfl)
theorem own_w6 {a0 : Array Value} {Z : State} (hw : ∀ d ∈ tables_1, d.before a0 Z = true) : (Jvm.Cond.classLink "com/example/slicewise/slicewise/plan/MethodForWordPinLaw" (10 : Nat) "java/lang/String").before a0 Z = true := hw _ (List.mem_of_getElem? (i := 6) rfl)
theorem own_w32 {a0 : Array Value} {Z : State} (hw : ∀ d ∈ tables_1, d.before a0 Z = true) : (Jvm.Cond.laysFinal "java/lang/String" "java/lang/String" "coder" "B").before a0 Z = true := hw _ (List.mem_of_getElem? (i := 32) rfl)
theorem own_w34 {a0 : Array Value} {Z : State} (hw : ∀ d ∈ tables_1, d.before a0 Z = true) : (Jvm.Cond.laysFinal "java/lang/String" "java/lang/String" "value" "[B").before a0 Z = true := hw _ (List.mem_of_getElem? (i := 34) rfl)
theorem own_w9 {a0 : Array Value} {Z : State} (hw : ∀ d ∈ tables_1, d.before a0 Z = true) : (Jvm.Cond.methodLink "com/example/slicewise/slicewise/plan/MethodForWordPinLaw" (12 : Nat) ({ cls := "java/lang/String", name := "<init>", desc := "([C)V" } : Jvm.MethodName)).before a0 Z = true := hw _ (List.mem_of_getElem? (i := 9) rfl)
theorem own_w10 {a0 : Array Value} {Z : State} (hw : ∀ d ∈ tables_1, d.before a0 Z = true) : (Jvm.Cond.instanceMethod ({ cls := "java/lang/String", name := "<init>", desc := "([C)V" } : Jvm.MethodName)).before a0 Z = true := hw _ (List.mem_of_getElem? (i := 10) rfl)
theorem own_w105 {a0 : Array Value} {Z : State} (hw : ∀ d ∈ tables_1, d.before a0 Z = true) : (Jvm.Cond.stringLink "com/example/slicewise/slicewise/plan/MethodForWordPinLaw" (8 : Nat) "").before a0 Z = true := hw _ (List.mem_of_getElem? (i := 105) rfl)
theorem own_w1 {a0 : Array Value} {Z : State} (hw : ∀ d ∈ tables_1, d.before a0 Z = true) : (Jvm.Cond.methodLink "com/example/slicewise/slicewise/plan/MethodForWordPinLaw" (15 : Nat) ({ cls := "com/example/slicewise/slicewise/plan/MethodForWordPinLaw", name := "base", desc := "(II)[C" } : Jvm.MethodName)).before a0 Z = true := hw _ (List.mem_of_getElem? (i := 1) rfl)
theorem own_pd8 : parseMethodDescriptor "(II)[C" = some ⟨[.int, .int], some (.array .char)⟩ := by decide +kernel
theorem own_w2 {a0 : Array Value} {Z : State} (hw : ∀ d ∈ tables_1, d.before a0 Z = true) : (Jvm.Cond.static ({ cls := "com/example/slicewise/slicewise/plan/MethodForWordPinLaw", name := "base", desc := "(II)[C" } : Jvm.MethodName)).before a0 Z = true := hw _ (List.mem_of_getElem? (i := 2) rfl)
theorem own_w4 {a0 : Array Value} {Z : State} (hw : ∀ d ∈ tables_1, d.before a0 Z = true) : (Jvm.Cond.code ({ cls := "com/example/slicewise/slicewise/plan/MethodForWordPinLaw", name := "base", desc := "(II)[C" } : Jvm.MethodName) method_3_code (2 : Nat) (Option.some (Jvm.ClassFile.FieldType.array Jvm.ClassFile.FieldType.char))).before a0 Z = true := hw _ (List.mem_of_getElem? (i := 4) rfl)
theorem own_w61 {a0 : Array Value} {Z : State} (hw : ∀ d ∈ tables_1, d.before a0 Z = true) : (Jvm.Cond.laysStatic "com/example/slicewise/slicewise/plan/Method" "$VALUES" "[Lcom/example/slicewise/slicewise/plan/Method;").before a0 Z = true := hw _ (List.mem_of_getElem? (i := 61) rfl)
theorem own_w69 {a0 : Array Value} {Z : State} (hw : ∀ d ∈ tables_1, d.before a0 Z = true) : (Jvm.Cond.laysStatic "com/example/slicewise/slicewise/plan/Method" "MOD" "Lcom/example/slicewise/slicewise/plan/Method;").before a0 Z = true := hw _ (List.mem_of_getElem? (i := 69) rfl)
theorem own_w70 {a0 : Array Value} {Z : State} (hw : ∀ d ∈ tables_1, d.before a0 Z = true) : (Jvm.Cond.laysStatic "com/example/slicewise/slicewise/plan/Method" "PARTITIONS" "Lcom/example/slicewise/slicewise/plan/Method;").before a0 Z = true := hw _ (List.mem_of_getElem? (i := 70) rfl)
theorem own_w71 {a0 : Array Value} {Z : State} (hw : ∀ d ∈ tables_1, d.before a0 Z = true) : (Jvm.Cond.laysStatic "com/example/slicewise/slicewise/plan/Method" "BLOCKS" "Lcom/example/slicewise/slicewise/plan/Method;").before a0 Z = true := hw _ (List.mem_of_getElem? (i := 71) rfl)
set_option maxRecDepth 65536 in
set_option maxHeartbeats 4000000 in
theorem rm_eqnull (l : Launch) (Z : State) (a0 : Array Value) (hw : ∀ d ∈ tables_1, d.before a0 Z = true) (a : Addr) (h : Heap) (n0 : Nat) (Ds : List Addr) :
    Ctr l Z (⟨"java/lang/String", "equals", "(Ljava/lang/Object;)Z"⟩ : MethodName) jdk_42_method_66_code 3 (some .boolean) [] ({ frames := 0, cells := 0, slots := 0, locals := 0 } : Room) #[.ref a, .null] h n0 Ds (fun v h' Ds' => v = some (.int 0) ∧ h = h' ∧ Ds = Ds') := by
  refine ctr_of (Ls := #[.val (.ref a), .val .null, .unset]) (plainFor_of_name own_pn0) (fun m => by first | (simp [entryFrame, mkF, argsToLocals, Value.category]; done) | rfl) ?_
  intro C hl hret hnm R
  subst hl
  replace R := R.aloadN (pc' := 1) (v := (.ref a)) own_d9_0 rfl rfl rfl
  replace R := R.aloadN (pc' := 2) (v := .null) own_d9_1 rfl rfl rfl
  replace R := R.acmp (pc' := 7) (same := false) own_d9_2 rfl rfl (decide_eq_false nofun) (by decide) (by decide)
  replace R := R.aloadN (pc' := 8) (v := .null) own_d9_7 rfl rfl rfl
  replace R := R.instNull (pc' := 11) own_d9_8 rfl
  replace R := R.ifY (pc' := 54) own_d9_11 (teq (by decide : (0 : Int32) = (0 : Int32))).1 (by decide) rfl
  replace R := R.iconst (pc' := 55) (z := (0 : Int32)) own_d9_54 rfl rfl
  exact R.retN (Ds' := Ds) hret (by simp) (show nar .boolean 0 = 0 from rfl) own_d9_55 (by decide) (by decide) (fun _ q => q) ⟨rfl, rfl, rfl⟩
set_option maxRecDepth 65536 in
set_option maxHeartbeats 4000000 in
theorem rm_rnn (l : Launch) (Z : State) (a0 : Array Value) (hw : ∀ d ∈ tables_1, d.before a0 Z = true) (a : Addr) (h : Heap) (n0 : Nat) (Ds : List Addr) :
    Ctr l Z (⟨"java/util/Objects", "requireNonNull", "(Ljava/lang/Object;)Ljava/lang/Object;"⟩ : MethodName) jdk_31_method_10_code 1 (some (.object "java/lang/Object")) [] ({ frames := 0, cells := 0, slots := 0, locals := 0 } : Room) #[.ref a] h n0 Ds (fun v h' Ds' => v = some (.ref a) ∧ h = h' ∧ Ds = Ds') := by
  refine ctr_of (Ls := #[.val (.ref a)]) (plainFor_of_name own_pn1) (fun m => by first | (simp [entryFrame, mkF, argsToLocals, Value.category]; done) | rfl) ?_
  intro C hl hret hnm R
  subst hl
  replace R := R.aloadN (pc' := 1) (v := (.ref a)) own_d16_0 rfl rfl rfl
  replace R := R.ifnonnullY (pc' := 12) own_d16_1 (by decide) rfl
  replace R := R.aloadN (pc' := 13) (v := (.ref a)) own_d16_12 rfl rfl rfl
  exact R.retA (Ds' := Ds) hret rfl rfl rfl own_d16_13 (by decide) (by decide) (fun _ q => q) ⟨rfl, rfl, rfl⟩
theorem rm_optinit (l : Launch) (Z : State) (a0 : Array Value) (hw : ∀ d ∈ tables_1, d.before a0 Z = true) (a : Addr) (p0 : Value) (h : Heap) (n0 : Nat) (Ds : List Addr) (ha : a ∈ Ds) (hr0 : p0.isRef = true)  {u_value : Value} (E_a : Exa Z h a "java/util/Optional") (F_value : Fld Z h a "java/util/Optional" "value" "Ljava/lang/Object;" u_value) :
    Ctr l Z (⟨"java/util/Optional", "<init>", "(Ljava/lang/Object;)V"⟩ : MethodName) jdk_32_method_2_code 2 none [] ({ frames := 1, cells := 0, slots := 0, locals := 12 } : Room) #[(.ref a), p0] h n0 Ds (fun v h' Ds' => v = none ∧ Ds = Ds' ∧ Keep h h' [a] ∧ Exa Z h' a "java/util/Optional" ∧ Fld Z h' a "java/util/Optional" "value" "Ljava/lang/Object;" p0) := by
  refine ctr_of (Ls := #[.val (.ref a), .val p0]) (plainFor_of_name own_pn2) (fun m => by rcases ref_cases hr0 with rfl | ⟨_, rfl⟩ <;> first | (simp [entryFrame, mkF, argsToLocals, Value.category]; done) | rfl) ?_
  intro C hl hret hnm R
  subst hl
  replace R := R.aloadN (pc' := 1) (v := (.ref a)) own_d17_0 rfl rfl rfl
  replace R := R.initO (pc' := 4) (W := 0) (own_w104 hw) (own_w17 hw) (own_w18 hw) rfl own_d17_1 (by decide) rfl (by decide) rfl
  replace R := R.aloadN (pc' := 5) (v := (.ref a)) own_d17_4 rfl rfl rfl
  replace R := R.aloadN (pc' := 6) (v := p0) own_d17_5 rfl hr0 rfl
  obtain ⟨h1, W1, R⟩ := R.putF (pc' := 9) (ty := (.object "java/lang/Object")) (host := "") (Or.inl (own_w88 hw)) Via.refl F_value E_a (Or.inr ⟨(own_w89 hw), rfl, hnm⟩) (own_w95 hw) (by decide) (own_nr rfl hr0) (own_fr rfl hr0) ha own_d17_6 rfl
  have F1 := F_value.same W1
  have K2 := ((Keep.refl h [a]).trans (Keep.of_wr W1) (allS (Or.inl (List.mem_of_getElem? (i := 0) rfl)) all0))
  have F3 := E_a.keep K2
  have hK := ((Keep.refl h [a]).trans (Keep.of_wr W1) (allS (Or.inl (List.mem_of_getElem? (i := 0) rfl)) all0))
  exact R.retV (Ds' := Ds) hret own_d17_9 (by decide) (by decide) (fun _ q => q) ⟨rfl, rfl, hK, F3, F1⟩
set_option maxRecDepth 65536 in
set_option maxHeartbeats 4000000 in
theorem rm_optof (l : Launch) (Z : State) (a0 : Array Value) (hw : ∀ d ∈ tables_1, d.before a0 Z = true) (a : Addr) (h : Heap) (n0 : Nat) (Ds : List Addr) :
    Ctr l Z (⟨"java/util/Optional", "of", "(Ljava/lang/Object;)Ljava/util/Optional;"⟩ : MethodName) jdk_32_method_3_code 1 (some (.object "java/util/Optional")) [] ({ frames := 2, cells := 1, slots := 1, locals := 26 } : Room) #[.ref a] h n0 Ds (fun v h' Ds' => ∃ r : Addr, v = some (.ref r) ∧ Keep h h' [] ∧ Exa Z h' r "java/util/Optional" ∧ Fld Z h' r "java/util/Optional" "value" "Ljava/lang/Object;" (.ref a) ∧ Ds = Ds') := by
  refine ctr_of (Ls := #[.val (.ref a)]) (plainFor_of_name own_pn2) (fun m => by first | (simp [entryFrame, mkF, argsToLocals, Value.category]; done) | rfl) ?_
  intro C hl hret hnm R
  subst hl
  obtain ⟨h1, b1, g1, E1, X1, D1, R⟩ := R.newO (pc' := 3) (own_w94 hw) (own_w95 hw) (own_w80 hw) own_d15_0 (by decide) (by decide) rfl
  have F1_value : Fld Z h1 b1 "java/util/Optional" "value" "Ljava/lang/Object;" .null := D1 (Or.inr (own_w89 hw)) (ty := (.object "java/lang/Object")) (by decide)
  replace R := R.dup (pc' := 4) own_d15_3 rfl rfl
  replace R := R.aloadN (pc' := 5) (v := (.ref a)) own_d15_4 rfl rfl rfl
  obtain ⟨_, _, _, ⟨rfl, rfl, rfl⟩, R⟩ := R.callS (pc' := 8) (argsL := [(.ref a)]) (rest := [(.ref b1), (.ref b1)]) (W := 2) (own_w96 hw) (own_w97 hw) (own_w98 hw) (own_w99 hw) (by decide) (rm_rnn C.l Z a0 hw a h1 n0 (b1 :: Ds)) rfl (lenOf own_pd0 rfl) rfl rfl own_d15_5 (by decide) (by decide) (by decide) (by decide) rfl
  replace R := R.mono (ce' := 1) (sl' := 1) (by decide) (by decide)
  replace R := R.stk (S' := [(.ref a), (.ref b1), (.ref b1)]) rfl
  obtain ⟨_, h2, _, ⟨rfl, rfl, K2, X2, F2_value⟩, R⟩ := R.callI (pc' := 11) (a := b1) (argsL := [(.ref a)]) (rest := [(.ref b1)]) (W := 1) rfl (own_w100 hw) (own_w101 hw) (own_w80 hw) (own_w103 hw) (by decide) (rm_optinit C.l Z a0 hw b1 (.ref a) h1 n0 (b1 :: Ds) (List.mem_of_getElem? (i := 0) rfl) rfl  X1 F1_value) rfl (lenOf own_pd1 rfl) rfl rfl own_d15_8 (by decide) (by decide) (by decide) (by decide) rfl
  replace R := R.mono (ce' := 1) (sl' := 1) (by decide) (by decide)
  replace R := R.stk (S' := [(.ref b1)]) rfl
  have hK := (((Keep.refl h []).trans ((Keep.refl h []).ext E1) all0).trans K2 (allS (Or.inr (by rw [g1]; exact (Nat.le_refl _))) all0))
  exact R.retA (Ds' := Ds) hret rfl rfl rfl own_d15_11 (by decide) (by decide) (fun _ q => (fun q => (List.mem_cons_of_mem _ q)) q) ⟨b1, rfl, hK, X2, F2_value, rfl⟩
set_option maxRecDepth 65536 in
set_option maxHeartbeats 4000000 in
theorem rm_optempty (l : Launch) (Z : State) (a0 : Array Value) (hw : ∀ d ∈ tables_1, d.before a0 Z = true) (h : Heap) (n0 : Nat) (Ds : List Addr) {eO : Addr} (S_EMPTY : Sta Z Z.heap "java/util/Optional" "EMPTY" "Ljava/util/Optional;" (.ref eO)) :
    Ctr l Z (⟨"java/util/Optional", "empty", "()Ljava/util/Optional;"⟩ : MethodName) jdk_32_method_1_code 1 (some (.object "java/util/Optional")) [] ({ frames := 0, cells := 0, slots := 0, locals := 0 } : Room) #[] h n0 Ds (fun v h' Ds' => v = some (.ref eO) ∧ h = h' ∧ Ds = Ds') := by
  refine ctr_of (Ls := #[.unset]) (plainFor_of_name own_pn2) (fun m => by first | (simp [entryFrame, mkF, argsToLocals, Value.category]; done) | rfl) ?_
  intro C hl hret hnm R
  subst hl
  replace R := R.getS (pc' := 3) (host := "") (Or.inl (own_w82 hw)) Via.refl S_EMPTY own_d13_0 rfl
  replace R := R.astoreN (pc' := 4) (l' := #[.val (.ref eO)]) own_d13_3 rfl rfl rfl
  replace R := R.aloadN (pc' := 5) (v := (.ref eO)) own_d13_4 rfl rfl rfl
  exact R.retA (Ds' := Ds) hret rfl rfl rfl own_d13_5 (by decide) (by decide) (fun _ q => q) ⟨rfl, rfl, rfl⟩
set_option maxRecDepth 65536 in
set_option maxHeartbeats 4000000 in
theorem rm_optorElse_full (l : Launch) (Z : State) (a0 : Array Value) (hw : ∀ d ∈ tables_1, d.before a0 Z = true) (a b : Addr) (h : Heap) (n0 : Nat) (Ds : List Addr) (F_v : Fld Z h a "java/util/Optional" "value" "Ljava/lang/Object;" (.ref b)) :
    Ctr l Z (⟨"java/util/Optional", "orElse", "(Ljava/lang/Object;)Ljava/lang/Object;"⟩ : MethodName) jdk_32_method_15_code 2 (some (.object "java/lang/Object")) [] ({ frames := 0, cells := 0, slots := 0, locals := 0 } : Room) #[.ref a, .null] h n0 Ds (fun v h' Ds' => v = some (.ref b) ∧ h = h' ∧ Ds = Ds') := by
  refine ctr_of (Ls := #[.val (.ref a), .val .null]) (plainFor_of_name own_pn2) (fun m => by first | (simp [entryFrame, mkF, argsToLocals, Value.category]; done) | rfl) ?_
  intro C hl hret hnm R
  subst hl
  replace R := R.aloadN (pc' := 1) (v := (.ref a)) own_d14_0 rfl rfl rfl
  replace R := R.getF (pc' := 4) (host := "") (Or.inl (own_w88 hw)) Via.refl F_v own_d14_1 rfl
  replace R := R.ifnullN (pc' := 7) own_d14_4 rfl
  replace R := R.aloadN (pc' := 8) (v := (.ref a)) own_d14_7 rfl rfl rfl
  replace R := R.getF (pc' := 11) (host := "") (Or.inl (own_w88 hw)) Via.refl F_v own_d14_8 rfl
  replace R := R.goto (pc' := 15) own_d14_11 (by decide) rfl
  exact R.retA (Ds' := Ds) hret rfl rfl rfl own_d14_15 (by decide) (by decide) (fun _ q => q) ⟨rfl, rfl, rfl⟩
set_option maxRecDepth 65536 in
set_option maxHeartbeats 4000000 in
theorem rm_optorElse_none (l : Launch) (Z : State) (a0 : Array Value) (hw : ∀ d ∈ tables_1, d.before a0 Z = true) (a : Addr) (h : Heap) (n0 : Nat) (Ds : List Addr) (F_v : Fld Z h a "java/util/Optional" "value" "Ljava/lang/Object;" .null) :
    Ctr l Z (⟨"java/util/Optional", "orElse", "(Ljava/lang/Object;)Ljava/lang/Object;"⟩ : MethodName) jdk_32_method_15_code 2 (some (.object "java/lang/Object")) [] ({ frames := 0, cells := 0, slots := 0, locals := 0 } : Room) #[.ref a, .null] h n0 Ds (fun v h' Ds' => v = some .null ∧ h = h' ∧ Ds = Ds') := by
  refine ctr_of (Ls := #[.val (.ref a), .val .null]) (plainFor_of_name own_pn2) (fun m => by first | (simp [entryFrame, mkF, argsToLocals, Value.category]; done) | rfl) ?_
  intro C hl hret hnm R
  subst hl
  replace R := R.aloadN (pc' := 1) (v := (.ref a)) own_d14_0 rfl rfl rfl
  replace R := R.getF (pc' := 4) (host := "") (Or.inl (own_w88 hw)) Via.refl F_v own_d14_1 rfl
  replace R := R.ifnullY (pc' := 14) own_d14_4 (by decide) rfl
  replace R := R.aloadN (pc' := 15) (v := .null) own_d14_14 rfl rfl rfl
  exact R.retA (Ds' := Ds) hret rfl rfl rfl own_d14_15 (by decide) (by decide) (fun _ q => q) ⟨rfl, rfl, rfl⟩
set_option maxRecDepth 65536 in
set_option maxHeartbeats 4000000 in
theorem rm_values (l : Launch) (Z : State) (a0 : Array Value) (hw : ∀ d ∈ tables_1, d.before a0 Z = true) (h : Heap) (n0 : Nat) (Ds : List Addr) {a_MOD a_PARTITIONS a_BLOCKS a_MOD_word a_PARTITIONS_word a_BLOCKS_word a__VALUES : Addr} {k_V : ClassId} (S_MOD : Sta Z Z.heap "com/example/slicewise/slicewise/plan/Method" "MOD" "Lcom/example/slicewise/slicewise/plan/Method;" (.ref a_MOD)) (X_MOD : Exa Z Z.heap a_MOD "com/example/slicewise/slicewise/plan/Method") (S_PARTITIONS : Sta Z Z.heap "com/example/slicewise/slicewise/plan/Method" "PARTITIONS" "Lcom/example/slicewise/slicewise/plan/Method;" (.ref a_PARTITIONS)) (X_PARTITIONS : Exa Z Z.heap a_PARTITIONS "com/example/slicewise/slicewise/plan/Method") (S_BLOCKS : Sta Z Z.heap "com/example/slicewise/slicewise/plan/Method" "BLOCKS" "Lcom/example/slicewise/slicewise/plan/Method;" (.ref a_BLOCKS)) (X_BLOCKS : Exa Z Z.heap a_BLOCKS "com/example/slicewise/slicewise/plan/Method") (F_MOD_word : Fld Z Z.heap a_MOD "com/example/slicewise/slicewise/plan/Method" "word" "Ljava/lang/String;" (.ref a_MOD_word)) (T_MOD_word : IsStr Z Z.heap a_MOD_word [109, 111, 100]) (F_PARTITIONS_word : Fld Z Z.heap a_PARTITIONS "com/example/slicewise/slicewise/plan/Method" "word" "Ljava/lang/String;" (.ref a_PARTITIONS_word)) (T_PARTITIONS_word : IsStr Z Z.heap a_PARTITIONS_word [112, 97, 114, 116, 105, 116, 105, 111, 110, 115]) (F_BLOCKS_word : Fld Z Z.heap a_BLOCKS "com/example/slicewise/slicewise/plan/Method" "word" "Ljava/lang/String;" (.ref a_BLOCKS_word)) (T_BLOCKS_word : IsStr Z Z.heap a_BLOCKS_word [98, 108, 111, 99, 107, 115]) (S__VALUES : Sta Z Z.heap "com/example/slicewise/slicewise/plan/Method" "$VALUES" "[Lcom/example/slicewise/slicewise/plan/Method;" (.ref a__VALUES)) (X__VALUES : Exa Z Z.heap a__VALUES "[Lcom/example/slicewise/slicewise/plan/Method;") (V__VALUES : Arv Z Z.heap a__VALUES k_V (.object "com/example/slicewise/slicewise/plan/Method") (3 : Int32) [(.ref a_MOD), (.ref a_PARTITIONS), (.ref a_BLOCKS)] .null) :
    Ctr l Z (⟨"com/example/slicewise/slicewise/plan/Method", "values", "()[Lcom/example/slicewise/slicewise/plan/Method;"⟩ : MethodName) prog_4_method_1_code 0 (some (.array (.object "com/example/slicewise/slicewise/plan/Method"))) [] ({ frames := 1, cells := 1, slots := 3, locals := 14 } : Room) #[] h n0 Ds (fun v h' Ds' => ∃ (r : Addr) (kA : ClassId), v = some (.ref r) ∧ Keep h h' [] ∧ Arv Z h' r kA (.object "com/example/slicewise/slicewise/plan/Method") (3 : Int32) [(.ref a_MOD), (.ref a_PARTITIONS), (.ref a_BLOCKS)] .null ∧ Ds = Ds') := by
  refine ctr_of (Ls := #[]) (plainFor_of_name own_pn3) (fun m => by first | (simp [entryFrame, mkF, argsToLocals, Value.category]; done) | rfl) ?_
  intro C hl hret hnm R
  subst hl
  have hK0 := (Keep.refl Z.heap []).ext R.old.2
  replace R := R.getS (pc' := 3) (host := "") (Or.inl (own_w60 hw)) Via.refl S__VALUES own_d12_0 rfl
  have K1 := (Keep.refl Z.heap []).ext R.old.2
  have F2 := V__VALUES.keep K1 nin0
  have K3 := (Keep.refl Z.heap []).ext R.old.2
  have F4 := X__VALUES.keep K3
  obtain ⟨h5, b5, g5, E5, V5, X5, R⟩ := R.clone (pc' := 6) (W := 0) (cap := 3) (own_w62 hw) (own_w63 hw) (own_w67 hw) (own_w65 hw) (own_w66 hw) (own_w68 hw) F2 F4 rfl own_d12_3 (by decide) rfl (by decide) (by decide) (by decide) (by decide) rfl
  replace R := R.castY (pc' := 9) (own_w73 hw) (Ins.self X5) own_d12_6 rfl
  have hK := ((Keep.refl h []).trans ((Keep.refl h []).ext E5) all0)
  exact R.retA (Ds' := Ds) hret rfl rfl rfl own_d12_9 (by decide) (by decide) (fun _ q => (fun q => (List.mem_cons_of_mem _ q)) q) ⟨b5, _, rfl, hK, V5, rfl⟩
set_option maxRecDepth 65536 in
set_option maxHeartbeats 4000000 in
theorem rm_forWord_null (l : Launch) (Z : State) (a0 : Array Value) (hw : ∀ d ∈ tables_1, d.before a0 Z = true) (h : Heap) (n0 : Nat) (Ds : List Addr) (own_cs : CompactOn Z) {a_MOD a_PARTITIONS a_BLOCKS a_MOD_word a_PARTITIONS_word a_BLOCKS_word a__VALUES : Addr} {k_V : ClassId} (S_MOD : Sta Z Z.heap "com/example/slicewise/slicewise/plan/Method" "MOD" "Lcom/example/slicewise/slicewise/plan/Method;" (.ref a_MOD)) (X_MOD : Exa Z Z.heap a_MOD "com/example/slicewise/slicewise/plan/Method") (S_PARTITIONS : Sta Z Z.heap "com/example/slicewise/slicewise/plan/Method" "PARTITIONS" "Lcom/example/slicewise/slicewise/plan/Method;" (.ref a_PARTITIONS)) (X_PARTITIONS : Exa Z Z.heap a_PARTITIONS "com/example/slicewise/slicewise/plan/Method") (S_BLOCKS : Sta Z Z.heap "com/example/slicewise/slicewise/plan/Method" "BLOCKS" "Lcom/example/slicewise/slicewise/plan/Method;" (.ref a_BLOCKS)) (X_BLOCKS : Exa Z Z.heap a_BLOCKS "com/example/slicewise/slicewise/plan/Method") (F_MOD_word : Fld Z Z.heap a_MOD "com/example/slicewise/slicewise/plan/Method" "word" "Ljava/lang/String;" (.ref a_MOD_word)) (T_MOD_word : IsStr Z Z.heap a_MOD_word [109, 111, 100]) (F_PARTITIONS_word : Fld Z Z.heap a_PARTITIONS "com/example/slicewise/slicewise/plan/Method" "word" "Ljava/lang/String;" (.ref a_PARTITIONS_word)) (T_PARTITIONS_word : IsStr Z Z.heap a_PARTITIONS_word [112, 97, 114, 116, 105, 116, 105, 111, 110, 115]) (F_BLOCKS_word : Fld Z Z.heap a_BLOCKS "com/example/slicewise/slicewise/plan/Method" "word" "Ljava/lang/String;" (.ref a_BLOCKS_word)) (T_BLOCKS_word : IsStr Z Z.heap a_BLOCKS_word [98, 108, 111, 99, 107, 115]) (S__VALUES : Sta Z Z.heap "com/example/slicewise/slicewise/plan/Method" "$VALUES" "[Lcom/example/slicewise/slicewise/plan/Method;" (.ref a__VALUES)) (X__VALUES : Exa Z Z.heap a__VALUES "[Lcom/example/slicewise/slicewise/plan/Method;") (V__VALUES : Arv Z Z.heap a__VALUES k_V (.object "com/example/slicewise/slicewise/plan/Method") (3 : Int32) [(.ref a_MOD), (.ref a_PARTITIONS), (.ref a_BLOCKS)] .null) {eO : Addr} (S_EMPTY : Sta Z Z.heap "java/util/Optional" "EMPTY" "Ljava/util/Optional;" (.ref eO)) (X_eO : Exa Z Z.heap eO "java/util/Optional") (F_eO : Fld Z Z.heap eO "java/util/Optional" "value" "Ljava/lang/Object;" .null) :
    Ctr l Z (⟨"com/example/slicewise/slicewise/plan/Method", "forWord", "(Ljava/lang/String;)Ljava/util/Optional;"⟩ : MethodName) prog_4_method_5_code 5 (some (.object "java/util/Optional")) [] ({ frames := 2, cells := 1, slots := 3, locals := 25 } : Room) #[.null] h n0 Ds (fun v h' Ds' => v = some (.ref eO) ∧ Keep h h' [] ∧ Ds = Ds') := by
  have own_heq : ∀ d ∈ StrChars.Road.wordsEq, d.before a0 Z = true := fun d hd => hw d ((by decide +kernel : ∀ d ∈ StrChars.Road.wordsEq, d ∈ tables_1) d hd)
  refine ctr_of (Ls := #[.val .null, .unset, .unset, .unset, .unset]) (plainFor_of_name own_pn3) (fun m => by first | (simp [entryFrame, mkF, argsToLocals, Value.category]; done) | rfl) ?_
  intro C hl hret hnm R
  subst hl
  have hK0 := (Keep.refl Z.heap []).ext R.old.2
  obtain ⟨_, h1, _, ⟨r1, k1, rfl, K1, V1, rfl⟩, R⟩ := R.callS (pc' := 3) (argsL := []) (rest := []) (W := 0) (own_w57 hw) (own_w58 hw) (own_w55 hw) (own_w59 hw) (by decide) (rm_values C.l Z a0 hw h n0 Ds S_MOD X_MOD S_PARTITIONS X_PARTITIONS S_BLOCKS X_BLOCKS F_MOD_word T_MOD_word F_PARTITIONS_word T_PARTITIONS_word F_BLOCKS_word T_BLOCKS_word S__VALUES X__VALUES V__VALUES) rfl (lenOf own_pd2 rfl) rfl rfl own_d11_0 (by decide) (by decide) (by decide) (by decide) rfl
  replace R := R.mono (ce' := 1) (sl' := 3) (by decide) (by decide)
  replace R := R.stk (S' := [(.ref r1)]) rfl
  replace R := R.astoreN (pc' := 4) (l' := #[.val .null, .val (.ref r1), .unset, .unset, .unset]) own_d11_3 rfl rfl rfl
  replace R := R.aloadN (pc' := 5) (v := (.ref r1)) own_d11_4 rfl rfl rfl
  replace R := R.arraylength (pc' := 6) V1 own_d11_5 rfl
  replace R := R.istoreN (pc' := 7) (l' := #[.val .null, .val (.ref r1), .val (.int (3 : Int32)), .unset, .unset]) own_d11_6 rfl rfl
  replace R := R.iconst (pc' := 8) (z := (0 : Int32)) own_d11_7 rfl rfl
  replace R := R.istoreN (pc' := 9) (l' := #[.val .null, .val (.ref r1), .val (.int (3 : Int32)), .val (.int (0 : Int32)), .unset]) own_d11_8 rfl rfl
  replace R := R.iloadN (pc' := 10) (v := (0 : Int32)) own_d11_9 rfl rfl
  replace R := R.iloadN (pc' := 11) (v := (3 : Int32)) own_d11_10 rfl rfl
  replace R := R.icmpN (pc' := 14) own_d11_11 (tlt (by decide : (0 : Int32) < (3 : Int32))).2.1 rfl
  replace R := R.aloadN (pc' := 15) (v := (.ref r1)) own_d11_14 rfl rfl rfl
  replace R := R.iloadN (pc' := 16) (v := (0 : Int32)) own_d11_15 rfl rfl
  replace R := R.aaload (pc' := 17) (v := (.ref a_MOD)) V1 rfl ⟨by decide, by decide⟩ rfl own_d11_16 rfl
  replace R := R.astore (pc' := 19) (l' := #[.val .null, .val (.ref r1), .val (.int (3 : Int32)), .val (.int (0 : Int32)), .val (.ref a_MOD)]) own_d11_17 rfl rfl rfl
  replace R := R.aload (pc' := 21) (v := (.ref a_MOD)) own_d11_19 rfl rfl rfl
  have K2 := (Keep.refl Z.heap []).ext R.old.2
  have F3 := F_MOD_word.keep K2 nin0
  replace R := R.getF (pc' := 24) (host := "") (Or.inl (own_w75 hw)) Via.refl F3 own_d11_21 rfl
  replace R := R.aloadN (pc' := 25) (v := .null) own_d11_24 rfl rfl rfl
  have K4 := (Keep.refl Z.heap []).ext R.old.2
  have F5 := T_MOD_word.keep K4 nin0 all0
  obtain ⟨_, _, _, ⟨rfl, rfl, rfl⟩, R⟩ := R.callV (pc' := 28) (y := (⟨"java/lang/String", "equals", "(Ljava/lang/Object;)Z"⟩ : MethodName)) (z := (⟨"java/lang/String", "equals", "(Ljava/lang/Object;)Z"⟩ : MethodName)) (argsL := [.null]) (rest := []) (W := 0) (own_w77 hw) (own_w42 hw) (fun s' hZ' => notFace_of_selects (args := #[]) (mvT hZ' (own_w44 hw))) (own_w44 hw) (own_w43 hw) (own_w8 hw) (own_w45 hw) (by decide) F5.1 (rm_eqnull C.l Z a0 hw a_MOD_word h1 n0 Ds) rfl (lenOf own_pd3 rfl) rfl rfl own_d11_25 (by decide) (by decide) (by decide) (by decide) rfl
  replace R := R.mono (ce' := 1) (sl' := 3) (by decide) (by decide)
  replace R := R.stk (S' := [(.int (0 : Int32))]) rfl
  replace R := R.ifY (pc' := 37) own_d11_28 (teq (by decide : (0 : Int32) = (0 : Int32))).1 (by decide) rfl
  replace R := R.iinc (pc' := 40) (l' := #[.val .null, .val (.ref r1), .val (.int (3 : Int32)), .val (.int (1 : Int32)), .val (.ref a_MOD)]) own_d11_37 rfl rfl rfl
  replace R := R.goto (pc' := 9) own_d11_40 (by decide) rfl
  replace R := R.iloadN (pc' := 10) (v := (1 : Int32)) own_d11_9 rfl rfl
  replace R := R.iloadN (pc' := 11) (v := (3 : Int32)) own_d11_10 rfl rfl
  replace R := R.icmpN (pc' := 14) own_d11_11 (tlt (by decide : (1 : Int32) < (3 : Int32))).2.1 rfl
  replace R := R.aloadN (pc' := 15) (v := (.ref r1)) own_d11_14 rfl rfl rfl
  replace R := R.iloadN (pc' := 16) (v := (1 : Int32)) own_d11_15 rfl rfl
  replace R := R.aaload (pc' := 17) (v := (.ref a_PARTITIONS)) V1 rfl ⟨by decide, by decide⟩ rfl own_d11_16 rfl
  replace R := R.astore (pc' := 19) (l' := #[.val .null, .val (.ref r1), .val (.int (3 : Int32)), .val (.int (1 : Int32)), .val (.ref a_PARTITIONS)]) own_d11_17 rfl rfl rfl
  replace R := R.aload (pc' := 21) (v := (.ref a_PARTITIONS)) own_d11_19 rfl rfl rfl
  have K6 := (Keep.refl Z.heap []).ext R.old.2
  have F7 := F_PARTITIONS_word.keep K6 nin0
  replace R := R.getF (pc' := 24) (host := "") (Or.inl (own_w75 hw)) Via.refl F7 own_d11_21 rfl
  replace R := R.aloadN (pc' := 25) (v := .null) own_d11_24 rfl rfl rfl
  have K8 := (Keep.refl Z.heap []).ext R.old.2
  have F9 := T_PARTITIONS_word.keep K8 nin0 all0
  obtain ⟨_, _, _, ⟨rfl, rfl, rfl⟩, R⟩ := R.callV (pc' := 28) (y := (⟨"java/lang/String", "equals", "(Ljava/lang/Object;)Z"⟩ : MethodName)) (z := (⟨"java/lang/String", "equals", "(Ljava/lang/Object;)Z"⟩ : MethodName)) (argsL := [.null]) (rest := []) (W := 0) (own_w77 hw) (own_w42 hw) (fun s' hZ' => notFace_of_selects (args := #[]) (mvT hZ' (own_w44 hw))) (own_w44 hw) (own_w43 hw) (own_w8 hw) (own_w45 hw) (by decide) F9.1 (rm_eqnull C.l Z a0 hw a_PARTITIONS_word h1 n0 Ds) rfl (lenOf own_pd3 rfl) rfl rfl own_d11_25 (by decide) (by decide) (by decide) (by decide) rfl
  replace R := R.mono (ce' := 1) (sl' := 3) (by decide) (by decide)
  replace R := R.stk (S' := [(.int (0 : Int32))]) rfl
  replace R := R.ifY (pc' := 37) own_d11_28 (teq (by decide : (0 : Int32) = (0 : Int32))).1 (by decide) rfl
  replace R := R.iinc (pc' := 40) (l' := #[.val .null, .val (.ref r1), .val (.int (3 : Int32)), .val (.int (2 : Int32)), .val (.ref a_PARTITIONS)]) own_d11_37 rfl rfl rfl
  replace R := R.goto (pc' := 9) own_d11_40 (by decide) rfl
  replace R := R.iloadN (pc' := 10) (v := (2 : Int32)) own_d11_9 rfl rfl
  replace R := R.iloadN (pc' := 11) (v := (3 : Int32)) own_d11_10 rfl rfl
  replace R := R.icmpN (pc' := 14) own_d11_11 (tlt (by decide : (2 : Int32) < (3 : Int32))).2.1 rfl
  replace R := R.aloadN (pc' := 15) (v := (.ref r1)) own_d11_14 rfl rfl rfl
  replace R := R.iloadN (pc' := 16) (v := (2 : Int32)) own_d11_15 rfl rfl
  replace R := R.aaload (pc' := 17) (v := (.ref a_BLOCKS)) V1 rfl ⟨by decide, by decide⟩ rfl own_d11_16 rfl
  replace R := R.astore (pc' := 19) (l' := #[.val .null, .val (.ref r1), .val (.int (3 : Int32)), .val (.int (2 : Int32)), .val (.ref a_BLOCKS)]) own_d11_17 rfl rfl rfl
  replace R := R.aload (pc' := 21) (v := (.ref a_BLOCKS)) own_d11_19 rfl rfl rfl
  have K10 := (Keep.refl Z.heap []).ext R.old.2
  have F11 := F_BLOCKS_word.keep K10 nin0
  replace R := R.getF (pc' := 24) (host := "") (Or.inl (own_w75 hw)) Via.refl F11 own_d11_21 rfl
  replace R := R.aloadN (pc' := 25) (v := .null) own_d11_24 rfl rfl rfl
  have K12 := (Keep.refl Z.heap []).ext R.old.2
  have F13 := T_BLOCKS_word.keep K12 nin0 all0
  obtain ⟨_, _, _, ⟨rfl, rfl, rfl⟩, R⟩ := R.callV (pc' := 28) (y := (⟨"java/lang/String", "equals", "(Ljava/lang/Object;)Z"⟩ : MethodName)) (z := (⟨"java/lang/String", "equals", "(Ljava/lang/Object;)Z"⟩ : MethodName)) (argsL := [.null]) (rest := []) (W := 0) (own_w77 hw) (own_w42 hw) (fun s' hZ' => notFace_of_selects (args := #[]) (mvT hZ' (own_w44 hw))) (own_w44 hw) (own_w43 hw) (own_w8 hw) (own_w45 hw) (by decide) F13.1 (rm_eqnull C.l Z a0 hw a_BLOCKS_word h1 n0 Ds) rfl (lenOf own_pd3 rfl) rfl rfl own_d11_25 (by decide) (by decide) (by decide) (by decide) rfl
  replace R := R.mono (ce' := 1) (sl' := 3) (by decide) (by decide)
  replace R := R.stk (S' := [(.int (0 : Int32))]) rfl
  replace R := R.ifY (pc' := 37) own_d11_28 (teq (by decide : (0 : Int32) = (0 : Int32))).1 (by decide) rfl
  replace R := R.iinc (pc' := 40) (l' := #[.val .null, .val (.ref r1), .val (.int (3 : Int32)), .val (.int (3 : Int32)), .val (.ref a_BLOCKS)]) own_d11_37 rfl rfl rfl
  replace R := R.goto (pc' := 9) own_d11_40 (by decide) rfl
  replace R := R.iloadN (pc' := 10) (v := (3 : Int32)) own_d11_9 rfl rfl
  replace R := R.iloadN (pc' := 11) (v := (3 : Int32)) own_d11_10 rfl rfl
  replace R := R.icmpY (pc' := 43) own_d11_11 (flt (by decide : ¬ ((3 : Int32) < (3 : Int32)))).2.1 (by decide) rfl
  obtain ⟨_, _, _, ⟨rfl, rfl, rfl⟩, R⟩ := R.callS (pc' := 46) (argsL := []) (rest := []) (W := 0) (own_w78 hw) (own_w79 hw) (own_w80 hw) (own_w81 hw) (by decide) (rm_optempty C.l Z a0 hw h1 n0 Ds S_EMPTY) rfl (lenOf own_pd4 rfl) rfl rfl own_d11_43 (by decide) (by decide) (by decide) (by decide) rfl
  replace R := R.mono (ce' := 1) (sl' := 3) (by decide) (by decide)
  replace R := R.stk (S' := [(.ref eO)]) rfl
  have hK : Keep h h1 [] := ((Keep.refl h []).trans K1 all0)
  exact R.retA (Ds' := Ds) hret rfl rfl rfl own_d11_46 (by decide) (by decide) (fun _ q => q) ⟨rfl, hK, rfl⟩
set_option maxRecDepth 65536 in
set_option maxHeartbeats 4000000 in
theorem rm_forWord_0 (l : Launch) (Z : State) (a0 : Array Value) (hw : ∀ d ∈ tables_1, d.before a0 Z = true) (a : Addr) (h : Heap) (n0 : Nat) (Ds : List Addr) (own_cs : CompactOn Z) {a_MOD a_PARTITIONS a_BLOCKS a_MOD_word a_PARTITIONS_word a_BLOCKS_word a__VALUES : Addr} {k_V : ClassId} (S_MOD : Sta Z Z.heap "com/example/slicewise/slicewise/plan/Method" "MOD" "Lcom/example/slicewise/slicewise/plan/Method;" (.ref a_MOD)) (X_MOD : Exa Z Z.heap a_MOD "com/example/slicewise/slicewise/plan/Method") (S_PARTITIONS : Sta Z Z.heap "com/example/slicewise/slicewise/plan/Method" "PARTITIONS" "Lcom/example/slicewise/slicewise/plan/Method;" (.ref a_PARTITIONS)) (X_PARTITIONS : Exa Z Z.heap a_PARTITIONS "com/example/slicewise/slicewise/plan/Method") (S_BLOCKS : Sta Z Z.heap "com/example/slicewise/slicewise/plan/Method" "BLOCKS" "Lcom/example/slicewise/slicewise/plan/Method;" (.ref a_BLOCKS)) (X_BLOCKS : Exa Z Z.heap a_BLOCKS "com/example/slicewise/slicewise/plan/Method") (F_MOD_word : Fld Z Z.heap a_MOD "com/example/slicewise/slicewise/plan/Method" "word" "Ljava/lang/String;" (.ref a_MOD_word)) (T_MOD_word : IsStr Z Z.heap a_MOD_word [109, 111, 100]) (F_PARTITIONS_word : Fld Z Z.heap a_PARTITIONS "com/example/slicewise/slicewise/plan/Method" "word" "Ljava/lang/String;" (.ref a_PARTITIONS_word)) (T_PARTITIONS_word : IsStr Z Z.heap a_PARTITIONS_word [112, 97, 114, 116, 105, 116, 105, 111, 110, 115]) (F_BLOCKS_word : Fld Z Z.heap a_BLOCKS "com/example/slicewise/slicewise/plan/Method" "word" "Ljava/lang/String;" (.ref a_BLOCKS_word)) (T_BLOCKS_word : IsStr Z Z.heap a_BLOCKS_word [98, 108, 111, 99, 107, 115]) (S__VALUES : Sta Z Z.heap "com/example/slicewise/slicewise/plan/Method" "$VALUES" "[Lcom/example/slicewise/slicewise/plan/Method;" (.ref a__VALUES)) (X__VALUES : Exa Z Z.heap a__VALUES "[Lcom/example/slicewise/slicewise/plan/Method;") (V__VALUES : Arv Z Z.heap a__VALUES k_V (.object "com/example/slicewise/slicewise/plan/Method") (3 : Int32) [(.ref a_MOD), (.ref a_PARTITIONS), (.ref a_BLOCKS)] .null) {eO : Addr} (S_EMPTY : Sta Z Z.heap "java/util/Optional" "EMPTY" "Ljava/util/Optional;" (.ref eO)) (X_eO : Exa Z Z.heap eO "java/util/Optional") (F_eO : Fld Z Z.heap eO "java/util/Optional" "value" "Ljava/lang/Object;" .null) (S_a : IsStr Z h a [109, 111, 100]) :
    Ctr l Z (⟨"com/example/slicewise/slicewise/plan/Method", "forWord", "(Ljava/lang/String;)Ljava/util/Optional;"⟩ : MethodName) prog_4_method_5_code 5 (some (.object "java/util/Optional")) [] ({ frames := 3, cells := 2, slots := 4, locals := 38 } : Room) #[.ref a] h n0 Ds (fun v h' Ds' => ∃ r : Addr, v = some (.ref r) ∧ Keep h h' [] ∧ Exa Z h' r "java/util/Optional" ∧ Fld Z h' r "java/util/Optional" "value" "Ljava/lang/Object;" (.ref a_MOD) ∧ Ds = Ds') := by
  have own_heq : ∀ d ∈ StrChars.Road.wordsEq, d.before a0 Z = true := fun d hd => hw d ((by decide +kernel : ∀ d ∈ StrChars.Road.wordsEq, d ∈ tables_1) d hd)
  refine ctr_of (Ls := #[.val (.ref a), .unset, .unset, .unset, .unset]) (plainFor_of_name own_pn3) (fun m => by first | (simp [entryFrame, mkF, argsToLocals, Value.category]; done) | rfl) ?_
  intro C hl hret hnm R
  subst hl
  have hK0 := (Keep.refl Z.heap []).ext R.old.2
  obtain ⟨_, h1, _, ⟨r1, k1, rfl, K1, V1, rfl⟩, R⟩ := R.callS (pc' := 3) (argsL := []) (rest := []) (W := 0) (own_w57 hw) (own_w58 hw) (own_w55 hw) (own_w59 hw) (by decide) (rm_values C.l Z a0 hw h n0 Ds S_MOD X_MOD S_PARTITIONS X_PARTITIONS S_BLOCKS X_BLOCKS F_MOD_word T_MOD_word F_PARTITIONS_word T_PARTITIONS_word F_BLOCKS_word T_BLOCKS_word S__VALUES X__VALUES V__VALUES) rfl (lenOf own_pd2 rfl) rfl rfl own_d11_0 (by decide) (by decide) (by decide) (by decide) rfl
  replace R := R.mono (ce' := 1) (sl' := 3) (by decide) (by decide)
  replace R := R.stk (S' := [(.ref r1)]) rfl
  replace R := R.astoreN (pc' := 4) (l' := #[.val (.ref a), .val (.ref r1), .unset, .unset, .unset]) own_d11_3 rfl rfl rfl
  replace R := R.aloadN (pc' := 5) (v := (.ref r1)) own_d11_4 rfl rfl rfl
  replace R := R.arraylength (pc' := 6) V1 own_d11_5 rfl
  replace R := R.istoreN (pc' := 7) (l' := #[.val (.ref a), .val (.ref r1), .val (.int (3 : Int32)), .unset, .unset]) own_d11_6 rfl rfl
  replace R := R.iconst (pc' := 8) (z := (0 : Int32)) own_d11_7 rfl rfl
  replace R := R.istoreN (pc' := 9) (l' := #[.val (.ref a), .val (.ref r1), .val (.int (3 : Int32)), .val (.int (0 : Int32)), .unset]) own_d11_8 rfl rfl
  replace R := R.iloadN (pc' := 10) (v := (0 : Int32)) own_d11_9 rfl rfl
  replace R := R.iloadN (pc' := 11) (v := (3 : Int32)) own_d11_10 rfl rfl
  replace R := R.icmpN (pc' := 14) own_d11_11 (tlt (by decide : (0 : Int32) < (3 : Int32))).2.1 rfl
  replace R := R.aloadN (pc' := 15) (v := (.ref r1)) own_d11_14 rfl rfl rfl
  replace R := R.iloadN (pc' := 16) (v := (0 : Int32)) own_d11_15 rfl rfl
  replace R := R.aaload (pc' := 17) (v := (.ref a_MOD)) V1 rfl ⟨by decide, by decide⟩ rfl own_d11_16 rfl
  replace R := R.astore (pc' := 19) (l' := #[.val (.ref a), .val (.ref r1), .val (.int (3 : Int32)), .val (.int (0 : Int32)), .val (.ref a_MOD)]) own_d11_17 rfl rfl rfl
  replace R := R.aload (pc' := 21) (v := (.ref a_MOD)) own_d11_19 rfl rfl rfl
  have K2 := (Keep.refl Z.heap []).ext R.old.2
  have F3 := F_MOD_word.keep K2 nin0
  replace R := R.getF (pc' := 24) (host := "") (Or.inl (own_w75 hw)) Via.refl F3 own_d11_21 rfl
  replace R := R.aloadN (pc' := 25) (v := (.ref a)) own_d11_24 rfl rfl rfl
  have K4 := (Keep.refl Z.heap []).ext R.old.2
  have F5 := T_MOD_word.keep K4 nin0 all0
  have K6 := ((Keep.refl h []).trans K1 all0)
  have F7 := S_a.keep K6 nin0 all0
  replace R := R.str_eq (pc' := 28) (W := 0) own_heq (own_w7 hw) (own_w77 hw) (own_w42 hw) (own_w44 hw) (own_w43 hw) own_cs F7 F5 rfl rfl own_d11_25 (by decide) (by decide) (by decide) (by decide) rfl
  replace R := R.stk (S' := [(.int (if [109, 111, 100] = [109, 111, 100] then 1 else 0))]) rfl
  replace R := R.stk (congrArg (fun z => (Value.int z :: [] : List Value)) (if_pos rfl))
  replace R := R.stk (S' := [(.int (1 : Int32))]) rfl
  replace R := R.ifN (pc' := 31) own_d11_28 (feq (by decide : ¬ ((1 : Int32) = (0 : Int32)))).1 rfl
  replace R := R.aload (pc' := 33) (v := (.ref a_MOD)) own_d11_31 rfl rfl rfl
  obtain ⟨_, h8, _, ⟨r8, rfl, K8, X8, F8, rfl⟩, R⟩ := R.callS (pc' := 36) (argsL := [(.ref a_MOD)]) (rest := []) (W := 0) (own_w91 hw) (own_w92 hw) (own_w80 hw) (own_w93 hw) (by decide) (rm_optof C.l Z a0 hw a_MOD h1 n0 Ds) rfl (lenOf own_pd5 rfl) rfl rfl own_d11_33 (by decide) (by decide) (by decide) (by decide) rfl
  replace R := R.mono (ce' := 2) (sl' := 4) (by decide) (by decide)
  replace R := R.stk (S' := [(.ref r8)]) rfl
  have hK : Keep h h8 [] := (((Keep.refl h []).trans K1 all0).trans K8 all0)
  exact R.retA (Ds' := Ds) hret rfl rfl rfl own_d11_36 (by decide) (by decide) (fun _ q => q) ⟨r8, rfl, hK, X8, F8, rfl⟩
set_option maxRecDepth 65536 in
set_option maxHeartbeats 4000000 in
theorem rm_forWord_1 (l : Launch) (Z : State) (a0 : Array Value) (hw : ∀ d ∈ tables_1, d.before a0 Z = true) (a : Addr) (h : Heap) (n0 : Nat) (Ds : List Addr) (own_cs : CompactOn Z) {a_MOD a_PARTITIONS a_BLOCKS a_MOD_word a_PARTITIONS_word a_BLOCKS_word a__VALUES : Addr} {k_V : ClassId} (S_MOD : Sta Z Z.heap "com/example/slicewise/slicewise/plan/Method" "MOD" "Lcom/example/slicewise/slicewise/plan/Method;" (.ref a_MOD)) (X_MOD : Exa Z Z.heap a_MOD "com/example/slicewise/slicewise/plan/Method") (S_PARTITIONS : Sta Z Z.heap "com/example/slicewise/slicewise/plan/Method" "PARTITIONS" "Lcom/example/slicewise/slicewise/plan/Method;" (.ref a_PARTITIONS)) (X_PARTITIONS : Exa Z Z.heap a_PARTITIONS "com/example/slicewise/slicewise/plan/Method") (S_BLOCKS : Sta Z Z.heap "com/example/slicewise/slicewise/plan/Method" "BLOCKS" "Lcom/example/slicewise/slicewise/plan/Method;" (.ref a_BLOCKS)) (X_BLOCKS : Exa Z Z.heap a_BLOCKS "com/example/slicewise/slicewise/plan/Method") (F_MOD_word : Fld Z Z.heap a_MOD "com/example/slicewise/slicewise/plan/Method" "word" "Ljava/lang/String;" (.ref a_MOD_word)) (T_MOD_word : IsStr Z Z.heap a_MOD_word [109, 111, 100]) (F_PARTITIONS_word : Fld Z Z.heap a_PARTITIONS "com/example/slicewise/slicewise/plan/Method" "word" "Ljava/lang/String;" (.ref a_PARTITIONS_word)) (T_PARTITIONS_word : IsStr Z Z.heap a_PARTITIONS_word [112, 97, 114, 116, 105, 116, 105, 111, 110, 115]) (F_BLOCKS_word : Fld Z Z.heap a_BLOCKS "com/example/slicewise/slicewise/plan/Method" "word" "Ljava/lang/String;" (.ref a_BLOCKS_word)) (T_BLOCKS_word : IsStr Z Z.heap a_BLOCKS_word [98, 108, 111, 99, 107, 115]) (S__VALUES : Sta Z Z.heap "com/example/slicewise/slicewise/plan/Method" "$VALUES" "[Lcom/example/slicewise/slicewise/plan/Method;" (.ref a__VALUES)) (X__VALUES : Exa Z Z.heap a__VALUES "[Lcom/example/slicewise/slicewise/plan/Method;") (V__VALUES : Arv Z Z.heap a__VALUES k_V (.object "com/example/slicewise/slicewise/plan/Method") (3 : Int32) [(.ref a_MOD), (.ref a_PARTITIONS), (.ref a_BLOCKS)] .null) {eO : Addr} (S_EMPTY : Sta Z Z.heap "java/util/Optional" "EMPTY" "Ljava/util/Optional;" (.ref eO)) (X_eO : Exa Z Z.heap eO "java/util/Optional") (F_eO : Fld Z Z.heap eO "java/util/Optional" "value" "Ljava/lang/Object;" .null) (S_a : IsStr Z h a [112, 97, 114, 116, 105, 116, 105, 111, 110, 115]) :
    Ctr l Z (⟨"com/example/slicewise/slicewise/plan/Method", "forWord", "(Ljava/lang/String;)Ljava/util/Optional;"⟩ : MethodName) prog_4_method_5_code 5 (some (.object "java/util/Optional")) [] ({ frames := 3, cells := 2, slots := 4, locals := 38 } : Room) #[.ref a] h n0 Ds (fun v h' Ds' => ∃ r : Addr, v = some (.ref r) ∧ Keep h h' [] ∧ Exa Z h' r "java/util/Optional" ∧ Fld Z h' r "java/util/Optional" "value" "Ljava/lang/Object;" (.ref a_PARTITIONS) ∧ Ds = Ds') := by
  have own_heq : ∀ d ∈ StrChars.Road.wordsEq, d.before a0 Z = true := fun d hd => hw d ((by decide +kernel : ∀ d ∈ StrChars.Road.wordsEq, d ∈ tables_1) d hd)
  refine ctr_of (Ls := #[.val (.ref a), .unset, .unset, .unset, .unset]) (plainFor_of_name own_pn3) (fun m => by first | (simp [entryFrame, mkF, argsToLocals, Value.category]; done) | rfl) ?_
  intro C hl hret hnm R
  subst hl
  have hK0 := (Keep.refl Z.heap []).ext R.old.2
  obtain ⟨_, h1, _, ⟨r1, k1, rfl, K1, V1, rfl⟩, R⟩ := R.callS (pc' := 3) (argsL := []) (rest := []) (W := 0) (own_w57 hw) (own_w58 hw) (own_w55 hw) (own_w59 hw) (by decide) (rm_values C.l Z a0 hw h n0 Ds S_MOD X_MOD S_PARTITIONS X_PARTITIONS S_BLOCKS X_BLOCKS F_MOD_word T_MOD_word F_PARTITIONS_word T_PARTITIONS_word F_BLOCKS_word T_BLOCKS_word S__VALUES X__VALUES V__VALUES) rfl (lenOf own_pd2 rfl) rfl rfl own_d11_0 (by decide) (by decide) (by decide) (by decide) rfl
  replace R := R.mono (ce' := 1) (sl' := 3) (by decide) (by decide)
  replace R := R.stk (S' := [(.ref r1)]) rfl
  replace R := R.astoreN (pc' := 4) (l' := #[.val (.ref a), .val (.ref r1), .unset, .unset, .unset]) own_d11_3 rfl rfl rfl
  replace R := R.aloadN (pc' := 5) (v := (.ref r1)) own_d11_4 rfl rfl rfl
  replace R := R.arraylength (pc' := 6) V1 own_d11_5 rfl
  replace R := R.istoreN (pc' := 7) (l' := #[.val (.ref a), .val (.ref r1), .val (.int (3 : Int32)), .unset, .unset]) own_d11_6 rfl rfl
  replace R := R.iconst (pc' := 8) (z := (0 : Int32)) own_d11_7 rfl rfl
  replace R := R.istoreN (pc' := 9) (l' := #[.val (.ref a), .val (.ref r1), .val (.int (3 : Int32)), .val (.int (0 : Int32)), .unset]) own_d11_8 rfl rfl
  replace R := R.iloadN (pc' := 10) (v := (0 : Int32)) own_d11_9 rfl rfl
  replace R := R.iloadN (pc' := 11) (v := (3 : Int32)) own_d11_10 rfl rfl
  replace R := R.icmpN (pc' := 14) own_d11_11 (tlt (by decide : (0 : Int32) < (3 : Int32))).2.1 rfl
  replace R := R.aloadN (pc' := 15) (v := (.ref r1)) own_d11_14 rfl rfl rfl
  replace R := R.iloadN (pc' := 16) (v := (0 : Int32)) own_d11_15 rfl rfl
  replace R := R.aaload (pc' := 17) (v := (.ref a_MOD)) V1 rfl ⟨by decide, by decide⟩ rfl own_d11_16 rfl
  replace R := R.astore (pc' := 19) (l' := #[.val (.ref a), .val (.ref r1), .val (.int (3 : Int32)), .val (.int (0 : Int32)), .val (.ref a_MOD)]) own_d11_17 rfl rfl rfl
  replace R := R.aload (pc' := 21) (v := (.ref a_MOD)) own_d11_19 rfl rfl rfl
  have K2 := (Keep.refl Z.heap []).ext R.old.2
  have F3 := F_MOD_word.keep K2 nin0
  replace R := R.getF (pc' := 24) (host := "") (Or.inl (own_w75 hw)) Via.refl F3 own_d11_21 rfl
  replace R := R.aloadN (pc' := 25) (v := (.ref a)) own_d11_24 rfl rfl rfl
  have K4 := (Keep.refl Z.heap []).ext R.old.2
  have F5 := T_MOD_word.keep K4 nin0 all0
  have K6 := ((Keep.refl h []).trans K1 all0)
  have F7 := S_a.keep K6 nin0 all0
  replace R := R.str_eq (pc' := 28) (W := 0) own_heq (own_w7 hw) (own_w77 hw) (own_w42 hw) (own_w44 hw) (own_w43 hw) own_cs F7 F5 rfl rfl own_d11_25 (by decide) (by decide) (by decide) (by decide) rfl
  replace R := R.stk (S' := [(.int (if [109, 111, 100] = [112, 97, 114, 116, 105, 116, 105, 111, 110, 115] then 1 else 0))]) rfl
  replace R := R.stk (congrArg (fun z => (Value.int z :: [] : List Value)) (if_neg (by decide)))
  replace R := R.stk (S' := [(.int (0 : Int32))]) rfl
  replace R := R.ifY (pc' := 37) own_d11_28 (teq (by decide : (0 : Int32) = (0 : Int32))).1 (by decide) rfl
  replace R := R.iinc (pc' := 40) (l' := #[.val (.ref a), .val (.ref r1), .val (.int (3 : Int32)), .val (.int (1 : Int32)), .val (.ref a_MOD)]) own_d11_37 rfl rfl rfl
  replace R := R.goto (pc' := 9) own_d11_40 (by decide) rfl
  replace R := R.iloadN (pc' := 10) (v := (1 : Int32)) own_d11_9 rfl rfl
  replace R := R.iloadN (pc' := 11) (v := (3 : Int32)) own_d11_10 rfl rfl
  replace R := R.icmpN (pc' := 14) own_d11_11 (tlt (by decide : (1 : Int32) < (3 : Int32))).2.1 rfl
  replace R := R.aloadN (pc' := 15) (v := (.ref r1)) own_d11_14 rfl rfl rfl
  replace R := R.iloadN (pc' := 16) (v := (1 : Int32)) own_d11_15 rfl rfl
  replace R := R.aaload (pc' := 17) (v := (.ref a_PARTITIONS)) V1 rfl ⟨by decide, by decide⟩ rfl own_d11_16 rfl
  replace R := R.astore (pc' := 19) (l' := #[.val (.ref a), .val (.ref r1), .val (.int (3 : Int32)), .val (.int (1 : Int32)), .val (.ref a_PARTITIONS)]) own_d11_17 rfl rfl rfl
  replace R := R.aload (pc' := 21) (v := (.ref a_PARTITIONS)) own_d11_19 rfl rfl rfl
  have K8 := (Keep.refl Z.heap []).ext R.old.2
  have F9 := F_PARTITIONS_word.keep K8 nin0
  replace R := R.getF (pc' := 24) (host := "") (Or.inl (own_w75 hw)) Via.refl F9 own_d11_21 rfl
  replace R := R.aloadN (pc' := 25) (v := (.ref a)) own_d11_24 rfl rfl rfl
  have K10 := (Keep.refl Z.heap []).ext R.old.2
  have F11 := T_PARTITIONS_word.keep K10 nin0 all0
  replace R := R.str_eq (pc' := 28) (W := 0) own_heq (own_w7 hw) (own_w77 hw) (own_w42 hw) (own_w44 hw) (own_w43 hw) own_cs F7 F11 rfl rfl own_d11_25 (by decide) (by decide) (by decide) (by decide) rfl
  replace R := R.stk (S' := [(.int (if [112, 97, 114, 116, 105, 116, 105, 111, 110, 115] = [112, 97, 114, 116, 105, 116, 105, 111, 110, 115] then 1 else 0))]) rfl
  replace R := R.stk (congrArg (fun z => (Value.int z :: [] : List Value)) (if_pos rfl))
  replace R := R.stk (S' := [(.int (1 : Int32))]) rfl
  replace R := R.ifN (pc' := 31) own_d11_28 (feq (by decide : ¬ ((1 : Int32) = (0 : Int32)))).1 rfl
  replace R := R.aload (pc' := 33) (v := (.ref a_PARTITIONS)) own_d11_31 rfl rfl rfl
  obtain ⟨_, h12, _, ⟨r12, rfl, K12, X12, F12, rfl⟩, R⟩ := R.callS (pc' := 36) (argsL := [(.ref a_PARTITIONS)]) (rest := []) (W := 0) (own_w91 hw) (own_w92 hw) (own_w80 hw) (own_w93 hw) (by decide) (rm_optof C.l Z a0 hw a_PARTITIONS h1 n0 Ds) rfl (lenOf own_pd5 rfl) rfl rfl own_d11_33 (by decide) (by decide) (by decide) (by decide) rfl
  replace R := R.mono (ce' := 2) (sl' := 4) (by decide) (by decide)
  replace R := R.stk (S' := [(.ref r12)]) rfl
  have hK : Keep h h12 [] := (((Keep.refl h []).trans K1 all0).trans K12 all0)
  exact R.retA (Ds' := Ds) hret rfl rfl rfl own_d11_36 (by decide) (by decide) (fun _ q => q) ⟨r12, rfl, hK, X12, F12, rfl⟩
set_option maxRecDepth 65536 in
set_option maxHeartbeats 4000000 in
theorem rm_forWord_2 (l : Launch) (Z : State) (a0 : Array Value) (hw : ∀ d ∈ tables_1, d.before a0 Z = true) (a : Addr) (h : Heap) (n0 : Nat) (Ds : List Addr) (own_cs : CompactOn Z) {a_MOD a_PARTITIONS a_BLOCKS a_MOD_word a_PARTITIONS_word a_BLOCKS_word a__VALUES : Addr} {k_V : ClassId} (S_MOD : Sta Z Z.heap "com/example/slicewise/slicewise/plan/Method" "MOD" "Lcom/example/slicewise/slicewise/plan/Method;" (.ref a_MOD)) (X_MOD : Exa Z Z.heap a_MOD "com/example/slicewise/slicewise/plan/Method") (S_PARTITIONS : Sta Z Z.heap "com/example/slicewise/slicewise/plan/Method" "PARTITIONS" "Lcom/example/slicewise/slicewise/plan/Method;" (.ref a_PARTITIONS)) (X_PARTITIONS : Exa Z Z.heap a_PARTITIONS "com/example/slicewise/slicewise/plan/Method") (S_BLOCKS : Sta Z Z.heap "com/example/slicewise/slicewise/plan/Method" "BLOCKS" "Lcom/example/slicewise/slicewise/plan/Method;" (.ref a_BLOCKS)) (X_BLOCKS : Exa Z Z.heap a_BLOCKS "com/example/slicewise/slicewise/plan/Method") (F_MOD_word : Fld Z Z.heap a_MOD "com/example/slicewise/slicewise/plan/Method" "word" "Ljava/lang/String;" (.ref a_MOD_word)) (T_MOD_word : IsStr Z Z.heap a_MOD_word [109, 111, 100]) (F_PARTITIONS_word : Fld Z Z.heap a_PARTITIONS "com/example/slicewise/slicewise/plan/Method" "word" "Ljava/lang/String;" (.ref a_PARTITIONS_word)) (T_PARTITIONS_word : IsStr Z Z.heap a_PARTITIONS_word [112, 97, 114, 116, 105, 116, 105, 111, 110, 115]) (F_BLOCKS_word : Fld Z Z.heap a_BLOCKS "com/example/slicewise/slicewise/plan/Method" "word" "Ljava/lang/String;" (.ref a_BLOCKS_word)) (T_BLOCKS_word : IsStr Z Z.heap a_BLOCKS_word [98, 108, 111, 99, 107, 115]) (S__VALUES : Sta Z Z.heap "com/example/slicewise/slicewise/plan/Method" "$VALUES" "[Lcom/example/slicewise/slicewise/plan/Method;" (.ref a__VALUES)) (X__VALUES : Exa Z Z.heap a__VALUES "[Lcom/example/slicewise/slicewise/plan/Method;") (V__VALUES : Arv Z Z.heap a__VALUES k_V (.object "com/example/slicewise/slicewise/plan/Method") (3 : Int32) [(.ref a_MOD), (.ref a_PARTITIONS), (.ref a_BLOCKS)] .null) {eO : Addr} (S_EMPTY : Sta Z Z.heap "java/util/Optional" "EMPTY" "Ljava/util/Optional;" (.ref eO)) (X_eO : Exa Z Z.heap eO "java/util/Optional") (F_eO : Fld Z Z.heap eO "java/util/Optional" "value" "Ljava/lang/Object;" .null) (S_a : IsStr Z h a [98, 108, 111, 99, 107, 115]) :
    Ctr l Z (⟨"com/example/slicewise/slicewise/plan/Method", "forWord", "(Ljava/lang/String;)Ljava/util/Optional;"⟩ : MethodName) prog_4_method_5_code 5 (some (.object "java/util/Optional")) [] ({ frames := 3, cells := 2, slots := 4, locals := 38 } : Room) #[.ref a] h n0 Ds (fun v h' Ds' => ∃ r : Addr, v = some (.ref r) ∧ Keep h h' [] ∧ Exa Z h' r "java/util/Optional" ∧ Fld Z h' r "java/util/Optional" "value" "Ljava/lang/Object;" (.ref a_BLOCKS) ∧ Ds = Ds') := by
  have own_heq : ∀ d ∈ StrChars.Road.wordsEq, d.before a0 Z = true := fun d hd => hw d ((by decide +kernel : ∀ d ∈ StrChars.Road.wordsEq, d ∈ tables_1) d hd)
  refine ctr_of (Ls := #[.val (.ref a), .unset, .unset, .unset, .unset]) (plainFor_of_name own_pn3) (fun m => by first | (simp [entryFrame, mkF, argsToLocals, Value.category]; done) | rfl) ?_
  intro C hl hret hnm R
  subst hl
  have hK0 := (Keep.refl Z.heap []).ext R.old.2
  obtain ⟨_, h1, _, ⟨r1, k1, rfl, K1, V1, rfl⟩, R⟩ := R.callS (pc' := 3) (argsL := []) (rest := []) (W := 0) (own_w57 hw) (own_w58 hw) (own_w55 hw) (own_w59 hw) (by decide) (rm_values C.l Z a0 hw h n0 Ds S_MOD X_MOD S_PARTITIONS X_PARTITIONS S_BLOCKS X_BLOCKS F_MOD_word T_MOD_word F_PARTITIONS_word T_PARTITIONS_word F_BLOCKS_word T_BLOCKS_word S__VALUES X__VALUES V__VALUES) rfl (lenOf own_pd2 rfl) rfl rfl own_d11_0 (by decide) (by decide) (by decide) (by decide) rfl
  replace R := R.mono (ce' := 1) (sl' := 3) (by decide) (by decide)
  replace R := R.stk (S' := [(.ref r1)]) rfl
  replace R := R.astoreN (pc' := 4) (l' := #[.val (.ref a), .val (.ref r1), .unset, .unset, .unset]) own_d11_3 rfl rfl rfl
  replace R := R.aloadN (pc' := 5) (v := (.ref r1)) own_d11_4 rfl rfl rfl
  replace R := R.arraylength (pc' := 6) V1 own_d11_5 rfl
  replace R := R.istoreN (pc' := 7) (l' := #[.val (.ref a), .val (.ref r1), .val (.int (3 : Int32)), .unset, .unset]) own_d11_6 rfl rfl
  replace R := R.iconst (pc' := 8) (z := (0 : Int32)) own_d11_7 rfl rfl
  replace R := R.istoreN (pc' := 9) (l' := #[.val (.ref a), .val (.ref r1), .val (.int (3 : Int32)), .val (.int (0 : Int32)), .unset]) own_d11_8 rfl rfl
  replace R := R.iloadN (pc' := 10) (v := (0 : Int32)) own_d11_9 rfl rfl
  replace R := R.iloadN (pc' := 11) (v := (3 : Int32)) own_d11_10 rfl rfl
  replace R := R.icmpN (pc' := 14) own_d11_11 (tlt (by decide : (0 : Int32) < (3 : Int32))).2.1 rfl
  replace R := R.aloadN (pc' := 15) (v := (.ref r1)) own_d11_14 rfl rfl rfl
  replace R := R.iloadN (pc' := 16) (v := (0 : Int32)) own_d11_15 rfl rfl
  replace R := R.aaload (pc' := 17) (v := (.ref a_MOD)) V1 rfl ⟨by decide, by decide⟩ rfl own_d11_16 rfl
  replace R := R.astore (pc' := 19) (l' := #[.val (.ref a), .val (.ref r1), .val (.int (3 : Int32)), .val (.int (0 : Int32)), .val (.ref a_MOD)]) own_d11_17 rfl rfl rfl
  replace R := R.aload (pc' := 21) (v := (.ref a_MOD)) own_d11_19 rfl rfl rfl
  have K2 := (Keep.refl Z.heap []).ext R.old.2
  have F3 := F_MOD_word.keep K2 nin0
  replace R := R.getF (pc' := 24) (host := "") (Or.inl (own_w75 hw)) Via.refl F3 own_d11_21 rfl
  replace R := R.aloadN (pc' := 25) (v := (.ref a)) own_d11_24 rfl rfl rfl
  have K4 := (Keep.refl Z.heap []).ext R.old.2
  have F5 := T_MOD_word.keep K4 nin0 all0
  have K6 := ((Keep.refl h []).trans K1 all0)
  have F7 := S_a.keep K6 nin0 all0
  replace R := R.str_eq (pc' := 28) (W := 0) own_heq (own_w7 hw) (own_w77 hw) (own_w42 hw) (own_w44 hw) (own_w43 hw) own_cs F7 F5 rfl rfl own_d11_25 (by decide) (by decide) (by decide) (by decide) rfl
  replace R := R.stk (S' := [(.int (if [109, 111, 100] = [98, 108, 111, 99, 107, 115] then 1 else 0))]) rfl
  replace R := R.stk (congrArg (fun z => (Value.int z :: [] : List Value)) (if_neg (by decide)))
  replace R := R.stk (S' := [(.int (0 : Int32))]) rfl
  replace R := R.ifY (pc' := 37) own_d11_28 (teq (by decide : (0 : Int32) = (0 : Int32))).1 (by decide) rfl
  replace R := R.iinc (pc' := 40) (l' := #[.val (.ref a), .val (.ref r1), .val (.int (3 : Int32)), .val (.int (1 : Int32)), .val (.ref a_MOD)]) own_d11_37 rfl rfl rfl
  replace R := R.goto (pc' := 9) own_d11_40 (by decide) rfl
  replace R := R.iloadN (pc' := 10) (v := (1 : Int32)) own_d11_9 rfl rfl
  replace R := R.iloadN (pc' := 11) (v := (3 : Int32)) own_d11_10 rfl rfl
  replace R := R.icmpN (pc' := 14) own_d11_11 (tlt (by decide : (1 : Int32) < (3 : Int32))).2.1 rfl
  replace R := R.aloadN (pc' := 15) (v := (.ref r1)) own_d11_14 rfl rfl rfl
  replace R := R.iloadN (pc' := 16) (v := (1 : Int32)) own_d11_15 rfl rfl
  replace R := R.aaload (pc' := 17) (v := (.ref a_PARTITIONS)) V1 rfl ⟨by decide, by decide⟩ rfl own_d11_16 rfl
  replace R := R.astore (pc' := 19) (l' := #[.val (.ref a), .val (.ref r1), .val (.int (3 : Int32)), .val (.int (1 : Int32)), .val (.ref a_PARTITIONS)]) own_d11_17 rfl rfl rfl
  replace R := R.aload (pc' := 21) (v := (.ref a_PARTITIONS)) own_d11_19 rfl rfl rfl
  have K8 := (Keep.refl Z.heap []).ext R.old.2
  have F9 := F_PARTITIONS_word.keep K8 nin0
  replace R := R.getF (pc' := 24) (host := "") (Or.inl (own_w75 hw)) Via.refl F9 own_d11_21 rfl
  replace R := R.aloadN (pc' := 25) (v := (.ref a)) own_d11_24 rfl rfl rfl
  have K10 := (Keep.refl Z.heap []).ext R.old.2
  have F11 := T_PARTITIONS_word.keep K10 nin0 all0
  replace R := R.str_eq (pc' := 28) (W := 0) own_heq (own_w7 hw) (own_w77 hw) (own_w42 hw) (own_w44 hw) (own_w43 hw) own_cs F7 F11 rfl rfl own_d11_25 (by decide) (by decide) (by decide) (by decide) rfl
  replace R := R.stk (S' := [(.int (if [112, 97, 114, 116, 105, 116, 105, 111, 110, 115] = [98, 108, 111, 99, 107, 115] then 1 else 0))]) rfl
  replace R := R.stk (congrArg (fun z => (Value.int z :: [] : List Value)) (if_neg (by decide)))
  replace R := R.stk (S' := [(.int (0 : Int32))]) rfl
  replace R := R.ifY (pc' := 37) own_d11_28 (teq (by decide : (0 : Int32) = (0 : Int32))).1 (by decide) rfl
  replace R := R.iinc (pc' := 40) (l' := #[.val (.ref a), .val (.ref r1), .val (.int (3 : Int32)), .val (.int (2 : Int32)), .val (.ref a_PARTITIONS)]) own_d11_37 rfl rfl rfl
  replace R := R.goto (pc' := 9) own_d11_40 (by decide) rfl
  replace R := R.iloadN (pc' := 10) (v := (2 : Int32)) own_d11_9 rfl rfl
  replace R := R.iloadN (pc' := 11) (v := (3 : Int32)) own_d11_10 rfl rfl
  replace R := R.icmpN (pc' := 14) own_d11_11 (tlt (by decide : (2 : Int32) < (3 : Int32))).2.1 rfl
  replace R := R.aloadN (pc' := 15) (v := (.ref r1)) own_d11_14 rfl rfl rfl
  replace R := R.iloadN (pc' := 16) (v := (2 : Int32)) own_d11_15 rfl rfl
  replace R := R.aaload (pc' := 17) (v := (.ref a_BLOCKS)) V1 rfl ⟨by decide, by decide⟩ rfl own_d11_16 rfl
  replace R := R.astore (pc' := 19) (l' := #[.val (.ref a), .val (.ref r1), .val (.int (3 : Int32)), .val (.int (2 : Int32)), .val (.ref a_BLOCKS)]) own_d11_17 rfl rfl rfl
  replace R := R.aload (pc' := 21) (v := (.ref a_BLOCKS)) own_d11_19 rfl rfl rfl
  have K12 := (Keep.refl Z.heap []).ext R.old.2
  have F13 := F_BLOCKS_word.keep K12 nin0
  replace R := R.getF (pc' := 24) (host := "") (Or.inl (own_w75 hw)) Via.refl F13 own_d11_21 rfl
  replace R := R.aloadN (pc' := 25) (v := (.ref a)) own_d11_24 rfl rfl rfl
  have K14 := (Keep.refl Z.heap []).ext R.old.2
  have F15 := T_BLOCKS_word.keep K14 nin0 all0
  replace R := R.str_eq (pc' := 28) (W := 0) own_heq (own_w7 hw) (own_w77 hw) (own_w42 hw) (own_w44 hw) (own_w43 hw) own_cs F7 F15 rfl rfl own_d11_25 (by decide) (by decide) (by decide) (by decide) rfl
  replace R := R.stk (S' := [(.int (if [98, 108, 111, 99, 107, 115] = [98, 108, 111, 99, 107, 115] then 1 else 0))]) rfl
  replace R := R.stk (congrArg (fun z => (Value.int z :: [] : List Value)) (if_pos rfl))
  replace R := R.stk (S' := [(.int (1 : Int32))]) rfl
  replace R := R.ifN (pc' := 31) own_d11_28 (feq (by decide : ¬ ((1 : Int32) = (0 : Int32)))).1 rfl
  replace R := R.aload (pc' := 33) (v := (.ref a_BLOCKS)) own_d11_31 rfl rfl rfl
  obtain ⟨_, h16, _, ⟨r16, rfl, K16, X16, F16, rfl⟩, R⟩ := R.callS (pc' := 36) (argsL := [(.ref a_BLOCKS)]) (rest := []) (W := 0) (own_w91 hw) (own_w92 hw) (own_w80 hw) (own_w93 hw) (by decide) (rm_optof C.l Z a0 hw a_BLOCKS h1 n0 Ds) rfl (lenOf own_pd5 rfl) rfl rfl own_d11_33 (by decide) (by decide) (by decide) (by decide) rfl
  replace R := R.mono (ce' := 2) (sl' := 4) (by decide) (by decide)
  replace R := R.stk (S' := [(.ref r16)]) rfl
  have hK : Keep h h16 [] := (((Keep.refl h []).trans K1 all0).trans K16 all0)
  exact R.retA (Ds' := Ds) hret rfl rfl rfl own_d11_36 (by decide) (by decide) (fun _ q => q) ⟨r16, rfl, hK, X16, F16, rfl⟩
set_option maxRecDepth 65536 in
set_option maxHeartbeats 4000000 in
theorem rm_forWord_other (l : Launch) (Z : State) (a0 : Array Value) (hw : ∀ d ∈ tables_1, d.before a0 Z = true) (a : Addr) (h : Heap) (n0 : Nat) (Ds : List Addr) (own_cs : CompactOn Z) {a_MOD a_PARTITIONS a_BLOCKS a_MOD_word a_PARTITIONS_word a_BLOCKS_word a__VALUES : Addr} {k_V : ClassId} (S_MOD : Sta Z Z.heap "com/example/slicewise/slicewise/plan/Method" "MOD" "Lcom/example/slicewise/slicewise/plan/Method;" (.ref a_MOD)) (X_MOD : Exa Z Z.heap a_MOD "com/example/slicewise/slicewise/plan/Method") (S_PARTITIONS : Sta Z Z.heap "com/example/slicewise/slicewise/plan/Method" "PARTITIONS" "Lcom/example/slicewise/slicewise/plan/Method;" (.ref a_PARTITIONS)) (X_PARTITIONS : Exa Z Z.heap a_PARTITIONS "com/example/slicewise/slicewise/plan/Method") (S_BLOCKS : Sta Z Z.heap "com/example/slicewise/slicewise/plan/Method" "BLOCKS" "Lcom/example/slicewise/slicewise/plan/Method;" (.ref a_BLOCKS)) (X_BLOCKS : Exa Z Z.heap a_BLOCKS "com/example/slicewise/slicewise/plan/Method") (F_MOD_word : Fld Z Z.heap a_MOD "com/example/slicewise/slicewise/plan/Method" "word" "Ljava/lang/String;" (.ref a_MOD_word)) (T_MOD_word : IsStr Z Z.heap a_MOD_word [109, 111, 100]) (F_PARTITIONS_word : Fld Z Z.heap a_PARTITIONS "com/example/slicewise/slicewise/plan/Method" "word" "Ljava/lang/String;" (.ref a_PARTITIONS_word)) (T_PARTITIONS_word : IsStr Z Z.heap a_PARTITIONS_word [112, 97, 114, 116, 105, 116, 105, 111, 110, 115]) (F_BLOCKS_word : Fld Z Z.heap a_BLOCKS "com/example/slicewise/slicewise/plan/Method" "word" "Ljava/lang/String;" (.ref a_BLOCKS_word)) (T_BLOCKS_word : IsStr Z Z.heap a_BLOCKS_word [98, 108, 111, 99, 107, 115]) (S__VALUES : Sta Z Z.heap "com/example/slicewise/slicewise/plan/Method" "$VALUES" "[Lcom/example/slicewise/slicewise/plan/Method;" (.ref a__VALUES)) (X__VALUES : Exa Z Z.heap a__VALUES "[Lcom/example/slicewise/slicewise/plan/Method;") (V__VALUES : Arv Z Z.heap a__VALUES k_V (.object "com/example/slicewise/slicewise/plan/Method") (3 : Int32) [(.ref a_MOD), (.ref a_PARTITIONS), (.ref a_BLOCKS)] .null) {eO : Addr} (S_EMPTY : Sta Z Z.heap "java/util/Optional" "EMPTY" "Ljava/util/Optional;" (.ref eO)) (X_eO : Exa Z Z.heap eO "java/util/Optional") (F_eO : Fld Z Z.heap eO "java/util/Optional" "value" "Ljava/lang/Object;" .null) {cs : List Int32} (S_a : IsStr Z h a cs) (n_MOD : ¬ cs = [109, 111, 100]) (n_PARTITIONS : ¬ cs = [112, 97, 114, 116, 105, 116, 105, 111, 110, 115]) (n_BLOCKS : ¬ cs = [98, 108, 111, 99, 107, 115]) :
    Ctr l Z (⟨"com/example/slicewise/slicewise/plan/Method", "forWord", "(Ljava/lang/String;)Ljava/util/Optional;"⟩ : MethodName) prog_4_method_5_code 5 (some (.object "java/util/Optional")) [] ({ frames := 2, cells := 1, slots := 3, locals := 28 } : Room) #[.ref a] h n0 Ds (fun v h' Ds' => v = some (.ref eO) ∧ Keep h h' [] ∧ Ds = Ds') := by
  have own_heq : ∀ d ∈ StrChars.Road.wordsEq, d.before a0 Z = true := fun d hd => hw d ((by decide +kernel : ∀ d ∈ StrChars.Road.wordsEq, d ∈ tables_1) d hd)
  refine ctr_of (Ls := #[.val (.ref a), .unset, .unset, .unset, .unset]) (plainFor_of_name own_pn3) (fun m => by first | (simp [entryFrame, mkF, argsToLocals, Value.category]; done) | rfl) ?_
  intro C hl hret hnm R
  subst hl
  have hK0 := (Keep.refl Z.heap []).ext R.old.2
  obtain ⟨_, h1, _, ⟨r1, k1, rfl, K1, V1, rfl⟩, R⟩ := R.callS (pc' := 3) (argsL := []) (rest := []) (W := 0) (own_w57 hw) (own_w58 hw) (own_w55 hw) (own_w59 hw) (by decide) (rm_values C.l Z a0 hw h n0 Ds S_MOD X_MOD S_PARTITIONS X_PARTITIONS S_BLOCKS X_BLOCKS F_MOD_word T_MOD_word F_PARTITIONS_word T_PARTITIONS_word F_BLOCKS_word T_BLOCKS_word S__VALUES X__VALUES V__VALUES) rfl (lenOf own_pd2 rfl) rfl rfl own_d11_0 (by decide) (by decide) (by decide) (by decide) rfl
  replace R := R.mono (ce' := 1) (sl' := 3) (by decide) (by decide)
  replace R := R.stk (S' := [(.ref r1)]) rfl
  replace R := R.astoreN (pc' := 4) (l' := #[.val (.ref a), .val (.ref r1), .unset, .unset, .unset]) own_d11_3 rfl rfl rfl
  replace R := R.aloadN (pc' := 5) (v := (.ref r1)) own_d11_4 rfl rfl rfl
  replace R := R.arraylength (pc' := 6) V1 own_d11_5 rfl
  replace R := R.istoreN (pc' := 7) (l' := #[.val (.ref a), .val (.ref r1), .val (.int (3 : Int32)), .unset, .unset]) own_d11_6 rfl rfl
  replace R := R.iconst (pc' := 8) (z := (0 : Int32)) own_d11_7 rfl rfl
  replace R := R.istoreN (pc' := 9) (l' := #[.val (.ref a), .val (.ref r1), .val (.int (3 : Int32)), .val (.int (0 : Int32)), .unset]) own_d11_8 rfl rfl
  replace R := R.iloadN (pc' := 10) (v := (0 : Int32)) own_d11_9 rfl rfl
  replace R := R.iloadN (pc' := 11) (v := (3 : Int32)) own_d11_10 rfl rfl
  replace R := R.icmpN (pc' := 14) own_d11_11 (tlt (by decide : (0 : Int32) < (3 : Int32))).2.1 rfl
  replace R := R.aloadN (pc' := 15) (v := (.ref r1)) own_d11_14 rfl rfl rfl
  replace R := R.iloadN (pc' := 16) (v := (0 : Int32)) own_d11_15 rfl rfl
  replace R := R.aaload (pc' := 17) (v := (.ref a_MOD)) V1 rfl ⟨by decide, by decide⟩ rfl own_d11_16 rfl
  replace R := R.astore (pc' := 19) (l' := #[.val (.ref a), .val (.ref r1), .val (.int (3 : Int32)), .val (.int (0 : Int32)), .val (.ref a_MOD)]) own_d11_17 rfl rfl rfl
  replace R := R.aload (pc' := 21) (v := (.ref a_MOD)) own_d11_19 rfl rfl rfl
  have K2 := (Keep.refl Z.heap []).ext R.old.2
  have F3 := F_MOD_word.keep K2 nin0
  replace R := R.getF (pc' := 24) (host := "") (Or.inl (own_w75 hw)) Via.refl F3 own_d11_21 rfl
  replace R := R.aloadN (pc' := 25) (v := (.ref a)) own_d11_24 rfl rfl rfl
  have K4 := (Keep.refl Z.heap []).ext R.old.2
  have F5 := T_MOD_word.keep K4 nin0 all0
  have K6 := ((Keep.refl h []).trans K1 all0)
  have F7 := S_a.keep K6 nin0 all0
  replace R := R.str_eq (pc' := 28) (W := 0) own_heq (own_w7 hw) (own_w77 hw) (own_w42 hw) (own_w44 hw) (own_w43 hw) own_cs F7 F5 rfl rfl own_d11_25 (by decide) (by decide) (by decide) (by decide) rfl
  replace R := R.stk (S' := [(.int (if [109, 111, 100] = cs then 1 else 0))]) rfl
  replace R := R.stk (congrArg (fun z => (Value.int z :: [] : List Value)) (if_neg (fun q => n_MOD q.symm)))
  replace R := R.stk (S' := [(.int (0 : Int32))]) rfl
  replace R := R.ifY (pc' := 37) own_d11_28 (teq (by decide : (0 : Int32) = (0 : Int32))).1 (by decide) rfl
  replace R := R.iinc (pc' := 40) (l' := #[.val (.ref a), .val (.ref r1), .val (.int (3 : Int32)), .val (.int (1 : Int32)), .val (.ref a_MOD)]) own_d11_37 rfl rfl rfl
  replace R := R.goto (pc' := 9) own_d11_40 (by decide) rfl
  replace R := R.iloadN (pc' := 10) (v := (1 : Int32)) own_d11_9 rfl rfl
  replace R := R.iloadN (pc' := 11) (v := (3 : Int32)) own_d11_10 rfl rfl
  replace R := R.icmpN (pc' := 14) own_d11_11 (tlt (by decide : (1 : Int32) < (3 : Int32))).2.1 rfl
  replace R := R.aloadN (pc' := 15) (v := (.ref r1)) own_d11_14 rfl rfl rfl
  replace R := R.iloadN (pc' := 16) (v := (1 : Int32)) own_d11_15 rfl rfl
  replace R := R.aaload (pc' := 17) (v := (.ref a_PARTITIONS)) V1 rfl ⟨by decide, by decide⟩ rfl own_d11_16 rfl
  replace R := R.astore (pc' := 19) (l' := #[.val (.ref a), .val (.ref r1), .val (.int (3 : Int32)), .val (.int (1 : Int32)), .val (.ref a_PARTITIONS)]) own_d11_17 rfl rfl rfl
  replace R := R.aload (pc' := 21) (v := (.ref a_PARTITIONS)) own_d11_19 rfl rfl rfl
  have K8 := (Keep.refl Z.heap []).ext R.old.2
  have F9 := F_PARTITIONS_word.keep K8 nin0
  replace R := R.getF (pc' := 24) (host := "") (Or.inl (own_w75 hw)) Via.refl F9 own_d11_21 rfl
  replace R := R.aloadN (pc' := 25) (v := (.ref a)) own_d11_24 rfl rfl rfl
  have K10 := (Keep.refl Z.heap []).ext R.old.2
  have F11 := T_PARTITIONS_word.keep K10 nin0 all0
  replace R := R.str_eq (pc' := 28) (W := 0) own_heq (own_w7 hw) (own_w77 hw) (own_w42 hw) (own_w44 hw) (own_w43 hw) own_cs F7 F11 rfl rfl own_d11_25 (by decide) (by decide) (by decide) (by decide) rfl
  replace R := R.stk (S' := [(.int (if [112, 97, 114, 116, 105, 116, 105, 111, 110, 115] = cs then 1 else 0))]) rfl
  replace R := R.stk (congrArg (fun z => (Value.int z :: [] : List Value)) (if_neg (fun q => n_PARTITIONS q.symm)))
  replace R := R.stk (S' := [(.int (0 : Int32))]) rfl
  replace R := R.ifY (pc' := 37) own_d11_28 (teq (by decide : (0 : Int32) = (0 : Int32))).1 (by decide) rfl
  replace R := R.iinc (pc' := 40) (l' := #[.val (.ref a), .val (.ref r1), .val (.int (3 : Int32)), .val (.int (2 : Int32)), .val (.ref a_PARTITIONS)]) own_d11_37 rfl rfl rfl
  replace R := R.goto (pc' := 9) own_d11_40 (by decide) rfl
  replace R := R.iloadN (pc' := 10) (v := (2 : Int32)) own_d11_9 rfl rfl
  replace R := R.iloadN (pc' := 11) (v := (3 : Int32)) own_d11_10 rfl rfl
  replace R := R.icmpN (pc' := 14) own_d11_11 (tlt (by decide : (2 : Int32) < (3 : Int32))).2.1 rfl
  replace R := R.aloadN (pc' := 15) (v := (.ref r1)) own_d11_14 rfl rfl rfl
  replace R := R.iloadN (pc' := 16) (v := (2 : Int32)) own_d11_15 rfl rfl
  replace R := R.aaload (pc' := 17) (v := (.ref a_BLOCKS)) V1 rfl ⟨by decide, by decide⟩ rfl own_d11_16 rfl
  replace R := R.astore (pc' := 19) (l' := #[.val (.ref a), .val (.ref r1), .val (.int (3 : Int32)), .val (.int (2 : Int32)), .val (.ref a_BLOCKS)]) own_d11_17 rfl rfl rfl
  replace R := R.aload (pc' := 21) (v := (.ref a_BLOCKS)) own_d11_19 rfl rfl rfl
  have K12 := (Keep.refl Z.heap []).ext R.old.2
  have F13 := F_BLOCKS_word.keep K12 nin0
  replace R := R.getF (pc' := 24) (host := "") (Or.inl (own_w75 hw)) Via.refl F13 own_d11_21 rfl
  replace R := R.aloadN (pc' := 25) (v := (.ref a)) own_d11_24 rfl rfl rfl
  have K14 := (Keep.refl Z.heap []).ext R.old.2
  have F15 := T_BLOCKS_word.keep K14 nin0 all0
  replace R := R.str_eq (pc' := 28) (W := 0) own_heq (own_w7 hw) (own_w77 hw) (own_w42 hw) (own_w44 hw) (own_w43 hw) own_cs F7 F15 rfl rfl own_d11_25 (by decide) (by decide) (by decide) (by decide) rfl
  replace R := R.stk (S' := [(.int (if [98, 108, 111, 99, 107, 115] = cs then 1 else 0))]) rfl
  replace R := R.stk (congrArg (fun z => (Value.int z :: [] : List Value)) (if_neg (fun q => n_BLOCKS q.symm)))
  replace R := R.stk (S' := [(.int (0 : Int32))]) rfl
  replace R := R.ifY (pc' := 37) own_d11_28 (teq (by decide : (0 : Int32) = (0 : Int32))).1 (by decide) rfl
  replace R := R.iinc (pc' := 40) (l' := #[.val (.ref a), .val (.ref r1), .val (.int (3 : Int32)), .val (.int (3 : Int32)), .val (.ref a_BLOCKS)]) own_d11_37 rfl rfl rfl
  replace R := R.goto (pc' := 9) own_d11_40 (by decide) rfl
  replace R := R.iloadN (pc' := 10) (v := (3 : Int32)) own_d11_9 rfl rfl
  replace R := R.iloadN (pc' := 11) (v := (3 : Int32)) own_d11_10 rfl rfl
  replace R := R.icmpY (pc' := 43) own_d11_11 (flt (by decide : ¬ ((3 : Int32) < (3 : Int32)))).2.1 (by decide) rfl
  obtain ⟨_, _, _, ⟨rfl, rfl, rfl⟩, R⟩ := R.callS (pc' := 46) (argsL := []) (rest := []) (W := 0) (own_w78 hw) (own_w79 hw) (own_w80 hw) (own_w81 hw) (by decide) (rm_optempty C.l Z a0 hw h1 n0 Ds S_EMPTY) rfl (lenOf own_pd4 rfl) rfl rfl own_d11_43 (by decide) (by decide) (by decide) (by decide) rfl
  replace R := R.mono (ce' := 1) (sl' := 3) (by decide) (by decide)
  replace R := R.stk (S' := [(.ref eO)]) rfl
  have hK : Keep h h1 [] := ((Keep.refl h []).trans K1 all0)
  exact R.retA (Ds' := Ds) hret rfl rfl rfl own_d11_46 (by decide) (by decide) (fun _ q => q) ⟨rfl, hK, rfl⟩
set_option maxRecDepth 65536 in
set_option maxHeartbeats 4000000 in
theorem rm_expected_null (l : Launch) (Z : State) (a0 : Array Value) (hw : ∀ d ∈ tables_1, d.before a0 Z = true) (h : Heap) (n0 : Nat) (Ds : List Addr) (own_cs : CompactOn Z) {a_MOD a_PARTITIONS a_BLOCKS a_MOD_word a_PARTITIONS_word a_BLOCKS_word a__VALUES : Addr} {k_V : ClassId} (S_MOD : Sta Z Z.heap "com/example/slicewise/slicewise/plan/Method" "MOD" "Lcom/example/slicewise/slicewise/plan/Method;" (.ref a_MOD)) (X_MOD : Exa Z Z.heap a_MOD "com/example/slicewise/slicewise/plan/Method") (S_PARTITIONS : Sta Z Z.heap "com/example/slicewise/slicewise/plan/Method" "PARTITIONS" "Lcom/example/slicewise/slicewise/plan/Method;" (.ref a_PARTITIONS)) (X_PARTITIONS : Exa Z Z.heap a_PARTITIONS "com/example/slicewise/slicewise/plan/Method") (S_BLOCKS : Sta Z Z.heap "com/example/slicewise/slicewise/plan/Method" "BLOCKS" "Lcom/example/slicewise/slicewise/plan/Method;" (.ref a_BLOCKS)) (X_BLOCKS : Exa Z Z.heap a_BLOCKS "com/example/slicewise/slicewise/plan/Method") (F_MOD_word : Fld Z Z.heap a_MOD "com/example/slicewise/slicewise/plan/Method" "word" "Ljava/lang/String;" (.ref a_MOD_word)) (T_MOD_word : IsStr Z Z.heap a_MOD_word [109, 111, 100]) (F_PARTITIONS_word : Fld Z Z.heap a_PARTITIONS "com/example/slicewise/slicewise/plan/Method" "word" "Ljava/lang/String;" (.ref a_PARTITIONS_word)) (T_PARTITIONS_word : IsStr Z Z.heap a_PARTITIONS_word [112, 97, 114, 116, 105, 116, 105, 111, 110, 115]) (F_BLOCKS_word : Fld Z Z.heap a_BLOCKS "com/example/slicewise/slicewise/plan/Method" "word" "Ljava/lang/String;" (.ref a_BLOCKS_word)) (T_BLOCKS_word : IsStr Z Z.heap a_BLOCKS_word [98, 108, 111, 99, 107, 115]) (S__VALUES : Sta Z Z.heap "com/example/slicewise/slicewise/plan/Method" "$VALUES" "[Lcom/example/slicewise/slicewise/plan/Method;" (.ref a__VALUES)) (X__VALUES : Exa Z Z.heap a__VALUES "[Lcom/example/slicewise/slicewise/plan/Method;") (V__VALUES : Arv Z Z.heap a__VALUES k_V (.object "com/example/slicewise/slicewise/plan/Method") (3 : Int32) [(.ref a_MOD), (.ref a_PARTITIONS), (.ref a_BLOCKS)] .null) {eO : Addr} (S_EMPTY : Sta Z Z.heap "java/util/Optional" "EMPTY" "Ljava/util/Optional;" (.ref eO)) (X_eO : Exa Z Z.heap eO "java/util/Optional") (F_eO : Fld Z Z.heap eO "java/util/Optional" "value" "Ljava/lang/Object;" .null) :
    Ctr l Z (⟨"com/example/slicewise/slicewise/plan/MethodForWordPinLaw", "expected", "(Ljava/lang/String;)Lcom/example/slicewise/slicewise/plan/Method;"⟩ : MethodName) method_4_code 1 (some (.object "com/example/slicewise/slicewise/plan/Method")) [] ({ frames := 0, cells := 0, slots := 0, locals := 0 } : Room) #[.null] h n0 Ds (fun v h' Ds' => v = some .null ∧ Keep h h' [] ∧ Ds = Ds') := by
  have own_heq : ∀ d ∈ StrChars.Road.wordsEq, d.before a0 Z = true := fun d hd => hw d ((by decide +kernel : ∀ d ∈ StrChars.Road.wordsEq, d ∈ tables_1) d hd)
  refine ctr_of (Ls := #[.val .null]) (plainFor_of_name own_pn4) (fun m => by first | (simp [entryFrame, mkF, argsToLocals, Value.category]; done) | rfl) ?_
  intro C hl hret hnm R
  subst hl
  have hK0 := (Keep.refl Z.heap []).ext R.old.2
  replace R := R.aloadN (pc' := 1) (v := .null) own_d8_0 rfl rfl rfl
  replace R := R.ifnonnullN (pc' := 4) own_d8_1 rfl
  replace R := R.anull (pc' := 5) own_d8_4 rfl
  have hK : Keep h h [] := Keep.refl h []
  exact R.retA (Ds' := Ds) hret rfl rfl rfl own_d8_5 (by decide) (by decide) (fun _ q => q) ⟨rfl, hK, rfl⟩
set_option maxRecDepth 65536 in
set_option maxHeartbeats 4000000 in
theorem rm_expected_0 (l : Launch) (Z : State) (a0 : Array Value) (hw : ∀ d ∈ tables_1, d.before a0 Z = true) (a : Addr) (h : Heap) (n0 : Nat) (Ds : List Addr) (own_cs : CompactOn Z) {a_MOD a_PARTITIONS a_BLOCKS a_MOD_word a_PARTITIONS_word a_BLOCKS_word a__VALUES : Addr} {k_V : ClassId} (S_MOD : Sta Z Z.heap "com/example/slicewise/slicewise/plan/Method" "MOD" "Lcom/example/slicewise/slicewise/plan/Method;" (.ref a_MOD)) (X_MOD : Exa Z Z.heap a_MOD "com/example/slicewise/slicewise/plan/Method") (S_PARTITIONS : Sta Z Z.heap "com/example/slicewise/slicewise/plan/Method" "PARTITIONS" "Lcom/example/slicewise/slicewise/plan/Method;" (.ref a_PARTITIONS)) (X_PARTITIONS : Exa Z Z.heap a_PARTITIONS "com/example/slicewise/slicewise/plan/Method") (S_BLOCKS : Sta Z Z.heap "com/example/slicewise/slicewise/plan/Method" "BLOCKS" "Lcom/example/slicewise/slicewise/plan/Method;" (.ref a_BLOCKS)) (X_BLOCKS : Exa Z Z.heap a_BLOCKS "com/example/slicewise/slicewise/plan/Method") (F_MOD_word : Fld Z Z.heap a_MOD "com/example/slicewise/slicewise/plan/Method" "word" "Ljava/lang/String;" (.ref a_MOD_word)) (T_MOD_word : IsStr Z Z.heap a_MOD_word [109, 111, 100]) (F_PARTITIONS_word : Fld Z Z.heap a_PARTITIONS "com/example/slicewise/slicewise/plan/Method" "word" "Ljava/lang/String;" (.ref a_PARTITIONS_word)) (T_PARTITIONS_word : IsStr Z Z.heap a_PARTITIONS_word [112, 97, 114, 116, 105, 116, 105, 111, 110, 115]) (F_BLOCKS_word : Fld Z Z.heap a_BLOCKS "com/example/slicewise/slicewise/plan/Method" "word" "Ljava/lang/String;" (.ref a_BLOCKS_word)) (T_BLOCKS_word : IsStr Z Z.heap a_BLOCKS_word [98, 108, 111, 99, 107, 115]) (S__VALUES : Sta Z Z.heap "com/example/slicewise/slicewise/plan/Method" "$VALUES" "[Lcom/example/slicewise/slicewise/plan/Method;" (.ref a__VALUES)) (X__VALUES : Exa Z Z.heap a__VALUES "[Lcom/example/slicewise/slicewise/plan/Method;") (V__VALUES : Arv Z Z.heap a__VALUES k_V (.object "com/example/slicewise/slicewise/plan/Method") (3 : Int32) [(.ref a_MOD), (.ref a_PARTITIONS), (.ref a_BLOCKS)] .null) {eO : Addr} (S_EMPTY : Sta Z Z.heap "java/util/Optional" "EMPTY" "Ljava/util/Optional;" (.ref eO)) (X_eO : Exa Z Z.heap eO "java/util/Optional") (F_eO : Fld Z Z.heap eO "java/util/Optional" "value" "Ljava/lang/Object;" .null) (S_a : IsStr Z h a [109, 111, 100]) :
    Ctr l Z (⟨"com/example/slicewise/slicewise/plan/MethodForWordPinLaw", "expected", "(Ljava/lang/String;)Lcom/example/slicewise/slicewise/plan/Method;"⟩ : MethodName) method_4_code 1 (some (.object "com/example/slicewise/slicewise/plan/Method")) [] ({ frames := 2, cells := 2, slots := 16, locals := 28 } : Room) #[.ref a] h n0 Ds (fun v h' Ds' => v = some (.ref a_MOD) ∧ Keep h h' [] ∧ Ds = Ds') := by
  have own_heq : ∀ d ∈ StrChars.Road.wordsEq, d.before a0 Z = true := fun d hd => hw d ((by decide +kernel : ∀ d ∈ StrChars.Road.wordsEq, d ∈ tables_1) d hd)
  refine ctr_of (Ls := #[.val (.ref a)]) (plainFor_of_name own_pn4) (fun m => by first | (simp [entryFrame, mkF, argsToLocals, Value.category]; done) | rfl) ?_
  intro C hl hret hnm R
  subst hl
  have hK0 := (Keep.refl Z.heap []).ext R.old.2
  replace R := R.aloadN (pc' := 1) (v := (.ref a)) own_d8_0 rfl rfl rfl
  replace R := R.ifnonnullY (pc' := 6) own_d8_1 (by decide) rfl
  replace R := R.aloadN (pc' := 7) (v := (.ref a)) own_d8_6 rfl rfl rfl
  obtain ⟨h1, a1, E1, S1, N1, R⟩ := R.ldcS (pc' := 9) (n := 12) (cs := [109, 111, 100]) (by decide) (own_w38 hw) (by decide +kernel) (by decide +kernel) (by decide) own_d8_7 (by decide +kernel) (by decide) (by decide) (by decide) rfl
  have K2 := ((Keep.refl h []).trans ((Keep.refl h []).ext E1) all0)
  have F3 := S_a.keep K2 nin0 all0
  replace R := R.str_eq (pc' := 12) (W := 0) own_heq (own_w7 hw) (own_w41 hw) (own_w42 hw) (own_w44 hw) (own_w43 hw) own_cs S1 F3 rfl rfl own_d8_9 (by decide) (by decide) (by decide) (by decide) rfl
  replace R := R.stk (S' := [(.int (if [109, 111, 100] = [109, 111, 100] then 1 else 0))]) rfl
  replace R := R.stk (congrArg (fun z => (Value.int z :: [] : List Value)) (if_pos rfl))
  replace R := R.stk (S' := [(.int (1 : Int32))]) rfl
  replace R := R.ifN (pc' := 15) own_d8_12 (feq (by decide : ¬ ((1 : Int32) = (0 : Int32)))).1 rfl
  replace R := R.getS (pc' := 18) (host := "") (Or.inl (own_w90 hw)) Via.refl S_MOD own_d8_15 rfl
  have hK : Keep h h1 [] := ((Keep.refl h []).trans ((Keep.refl h []).ext E1) all0)
  exact R.retA (Ds' := Ds) hret rfl rfl rfl own_d8_18 (by decide) (by decide) (fun _ q => q) ⟨rfl, hK, rfl⟩
set_option maxRecDepth 65536 in
set_option maxHeartbeats 4000000 in
theorem rm_expected_1 (l : Launch) (Z : State) (a0 : Array Value) (hw : ∀ d ∈ tables_1, d.before a0 Z = true) (a : Addr) (h : Heap) (n0 : Nat) (Ds : List Addr) (own_cs : CompactOn Z) {a_MOD a_PARTITIONS a_BLOCKS a_MOD_word a_PARTITIONS_word a_BLOCKS_word a__VALUES : Addr} {k_V : ClassId} (S_MOD : Sta Z Z.heap "com/example/slicewise/slicewise/plan/Method" "MOD" "Lcom/example/slicewise/slicewise/plan/Method;" (.ref a_MOD)) (X_MOD : Exa Z Z.heap a_MOD "com/example/slicewise/slicewise/plan/Method") (S_PARTITIONS : Sta Z Z.heap "com/example/slicewise/slicewise/plan/Method" "PARTITIONS" "Lcom/example/slicewise/slicewise/plan/Method;" (.ref a_PARTITIONS)) (X_PARTITIONS : Exa Z Z.heap a_PARTITIONS "com/example/slicewise/slicewise/plan/Method") (S_BLOCKS : Sta Z Z.heap "com/example/slicewise/slicewise/plan/Method" "BLOCKS" "Lcom/example/slicewise/slicewise/plan/Method;" (.ref a_BLOCKS)) (X_BLOCKS : Exa Z Z.heap a_BLOCKS "com/example/slicewise/slicewise/plan/Method") (F_MOD_word : Fld Z Z.heap a_MOD "com/example/slicewise/slicewise/plan/Method" "word" "Ljava/lang/String;" (.ref a_MOD_word)) (T_MOD_word : IsStr Z Z.heap a_MOD_word [109, 111, 100]) (F_PARTITIONS_word : Fld Z Z.heap a_PARTITIONS "com/example/slicewise/slicewise/plan/Method" "word" "Ljava/lang/String;" (.ref a_PARTITIONS_word)) (T_PARTITIONS_word : IsStr Z Z.heap a_PARTITIONS_word [112, 97, 114, 116, 105, 116, 105, 111, 110, 115]) (F_BLOCKS_word : Fld Z Z.heap a_BLOCKS "com/example/slicewise/slicewise/plan/Method" "word" "Ljava/lang/String;" (.ref a_BLOCKS_word)) (T_BLOCKS_word : IsStr Z Z.heap a_BLOCKS_word [98, 108, 111, 99, 107, 115]) (S__VALUES : Sta Z Z.heap "com/example/slicewise/slicewise/plan/Method" "$VALUES" "[Lcom/example/slicewise/slicewise/plan/Method;" (.ref a__VALUES)) (X__VALUES : Exa Z Z.heap a__VALUES "[Lcom/example/slicewise/slicewise/plan/Method;") (V__VALUES : Arv Z Z.heap a__VALUES k_V (.object "com/example/slicewise/slicewise/plan/Method") (3 : Int32) [(.ref a_MOD), (.ref a_PARTITIONS), (.ref a_BLOCKS)] .null) {eO : Addr} (S_EMPTY : Sta Z Z.heap "java/util/Optional" "EMPTY" "Ljava/util/Optional;" (.ref eO)) (X_eO : Exa Z Z.heap eO "java/util/Optional") (F_eO : Fld Z Z.heap eO "java/util/Optional" "value" "Ljava/lang/Object;" .null) (S_a : IsStr Z h a [112, 97, 114, 116, 105, 116, 105, 111, 110, 115]) :
    Ctr l Z (⟨"com/example/slicewise/slicewise/plan/MethodForWordPinLaw", "expected", "(Ljava/lang/String;)Lcom/example/slicewise/slicewise/plan/Method;"⟩ : MethodName) method_4_code 1 (some (.object "com/example/slicewise/slicewise/plan/Method")) [] ({ frames := 2, cells := 4, slots := 60, locals := 28 } : Room) #[.ref a] h n0 Ds (fun v h' Ds' => v = some (.ref a_PARTITIONS) ∧ Keep h h' [] ∧ Ds = Ds') := by
  have own_heq : ∀ d ∈ StrChars.Road.wordsEq, d.before a0 Z = true := fun d hd => hw d ((by decide +kernel : ∀ d ∈ StrChars.Road.wordsEq, d ∈ tables_1) d hd)
  refine ctr_of (Ls := #[.val (.ref a)]) (plainFor_of_name own_pn4) (fun m => by first | (simp [entryFrame, mkF, argsToLocals, Value.category]; done) | rfl) ?_
  intro C hl hret hnm R
  subst hl
  have hK0 := (Keep.refl Z.heap []).ext R.old.2
  replace R := R.aloadN (pc' := 1) (v := (.ref a)) own_d8_0 rfl rfl rfl
  replace R := R.ifnonnullY (pc' := 6) own_d8_1 (by decide) rfl
  replace R := R.aloadN (pc' := 7) (v := (.ref a)) own_d8_6 rfl rfl rfl
  obtain ⟨h1, a1, E1, S1, N1, R⟩ := R.ldcS (pc' := 9) (n := 12) (cs := [109, 111, 100]) (by decide) (own_w38 hw) (by decide +kernel) (by decide +kernel) (by decide) own_d8_7 (by decide +kernel) (by decide) (by decide) (by decide) rfl
  have K2 := ((Keep.refl h []).trans ((Keep.refl h []).ext E1) all0)
  have F3 := S_a.keep K2 nin0 all0
  replace R := R.str_eq (pc' := 12) (W := 0) own_heq (own_w7 hw) (own_w41 hw) (own_w42 hw) (own_w44 hw) (own_w43 hw) own_cs S1 F3 rfl rfl own_d8_9 (by decide) (by decide) (by decide) (by decide) rfl
  replace R := R.stk (S' := [(.int (if [112, 97, 114, 116, 105, 116, 105, 111, 110, 115] = [109, 111, 100] then 1 else 0))]) rfl
  replace R := R.stk (congrArg (fun z => (Value.int z :: [] : List Value)) (if_neg (by decide)))
  replace R := R.stk (S' := [(.int (0 : Int32))]) rfl
  replace R := R.ifY (pc' := 19) own_d8_12 (teq (by decide : (0 : Int32) = (0 : Int32))).1 (by decide) rfl
  replace R := R.aloadN (pc' := 20) (v := (.ref a)) own_d8_19 rfl rfl rfl
  obtain ⟨h4, a4, E4, S4, N4, R⟩ := R.ldcS (pc' := 22) (n := 40) (cs := [112, 97, 114, 116, 105, 116, 105, 111, 110, 115]) (by decide) (own_w51 hw) (by decide +kernel) (by decide +kernel) (by decide) own_d8_20 (by decide +kernel) (by decide) (by decide) (by decide) rfl
  have K5 := ((Keep.refl h1 []).trans ((Keep.refl h1 []).ext E4) all0)
  have F6 := F3.keep K5 nin0 all0
  replace R := R.str_eq (pc' := 25) (W := 0) own_heq (own_w7 hw) (own_w41 hw) (own_w42 hw) (own_w44 hw) (own_w43 hw) own_cs S4 F6 rfl rfl own_d8_22 (by decide) (by decide) (by decide) (by decide) rfl
  replace R := R.stk (S' := [(.int (if [112, 97, 114, 116, 105, 116, 105, 111, 110, 115] = [112, 97, 114, 116, 105, 116, 105, 111, 110, 115] then 1 else 0))]) rfl
  replace R := R.stk (congrArg (fun z => (Value.int z :: [] : List Value)) (if_pos rfl))
  replace R := R.stk (S' := [(.int (1 : Int32))]) rfl
  replace R := R.ifN (pc' := 28) own_d8_25 (feq (by decide : ¬ ((1 : Int32) = (0 : Int32)))).1 rfl
  replace R := R.getS (pc' := 31) (host := "") (Or.inl (own_w106 hw)) Via.refl S_PARTITIONS own_d8_28 rfl
  have hK : Keep h h4 [] := (((Keep.refl h []).trans ((Keep.refl h []).ext E1) all0).trans ((Keep.refl h1 []).ext E4) all0)
  exact R.retA (Ds' := Ds) hret rfl rfl rfl own_d8_31 (by decide) (by decide) (fun _ q => q) ⟨rfl, hK, rfl⟩
set_option maxRecDepth 65536 in
set_option maxHeartbeats 4000000 in
theorem rm_expected_2 (l : Launch) (Z : State) (a0 : Array Value) (hw : ∀ d ∈ tables_1, d.before a0 Z = true) (a : Addr) (h : Heap) (n0 : Nat) (Ds : List Addr) (own_cs : CompactOn Z) {a_MOD a_PARTITIONS a_BLOCKS a_MOD_word a_PARTITIONS_word a_BLOCKS_word a__VALUES : Addr} {k_V : ClassId} (S_MOD : Sta Z Z.heap "com/example/slicewise/slicewise/plan/Method" "MOD" "Lcom/example/slicewise/slicewise/plan/Method;" (.ref a_MOD)) (X_MOD : Exa Z Z.heap a_MOD "com/example/slicewise/slicewise/plan/Method") (S_PARTITIONS : Sta Z Z.heap "com/example/slicewise/slicewise/plan/Method" "PARTITIONS" "Lcom/example/slicewise/slicewise/plan/Method;" (.ref a_PARTITIONS)) (X_PARTITIONS : Exa Z Z.heap a_PARTITIONS "com/example/slicewise/slicewise/plan/Method") (S_BLOCKS : Sta Z Z.heap "com/example/slicewise/slicewise/plan/Method" "BLOCKS" "Lcom/example/slicewise/slicewise/plan/Method;" (.ref a_BLOCKS)) (X_BLOCKS : Exa Z Z.heap a_BLOCKS "com/example/slicewise/slicewise/plan/Method") (F_MOD_word : Fld Z Z.heap a_MOD "com/example/slicewise/slicewise/plan/Method" "word" "Ljava/lang/String;" (.ref a_MOD_word)) (T_MOD_word : IsStr Z Z.heap a_MOD_word [109, 111, 100]) (F_PARTITIONS_word : Fld Z Z.heap a_PARTITIONS "com/example/slicewise/slicewise/plan/Method" "word" "Ljava/lang/String;" (.ref a_PARTITIONS_word)) (T_PARTITIONS_word : IsStr Z Z.heap a_PARTITIONS_word [112, 97, 114, 116, 105, 116, 105, 111, 110, 115]) (F_BLOCKS_word : Fld Z Z.heap a_BLOCKS "com/example/slicewise/slicewise/plan/Method" "word" "Ljava/lang/String;" (.ref a_BLOCKS_word)) (T_BLOCKS_word : IsStr Z Z.heap a_BLOCKS_word [98, 108, 111, 99, 107, 115]) (S__VALUES : Sta Z Z.heap "com/example/slicewise/slicewise/plan/Method" "$VALUES" "[Lcom/example/slicewise/slicewise/plan/Method;" (.ref a__VALUES)) (X__VALUES : Exa Z Z.heap a__VALUES "[Lcom/example/slicewise/slicewise/plan/Method;") (V__VALUES : Arv Z Z.heap a__VALUES k_V (.object "com/example/slicewise/slicewise/plan/Method") (3 : Int32) [(.ref a_MOD), (.ref a_PARTITIONS), (.ref a_BLOCKS)] .null) {eO : Addr} (S_EMPTY : Sta Z Z.heap "java/util/Optional" "EMPTY" "Ljava/util/Optional;" (.ref eO)) (X_eO : Exa Z Z.heap eO "java/util/Optional") (F_eO : Fld Z Z.heap eO "java/util/Optional" "value" "Ljava/lang/Object;" .null) (S_a : IsStr Z h a [98, 108, 111, 99, 107, 115]) :
    Ctr l Z (⟨"com/example/slicewise/slicewise/plan/MethodForWordPinLaw", "expected", "(Ljava/lang/String;)Lcom/example/slicewise/slicewise/plan/Method;"⟩ : MethodName) method_4_code 1 (some (.object "com/example/slicewise/slicewise/plan/Method")) [] ({ frames := 2, cells := 6, slots := 88, locals := 28 } : Room) #[.ref a] h n0 Ds (fun v h' Ds' => v = some (.ref a_BLOCKS) ∧ Keep h h' [] ∧ Ds = Ds') := by
  have own_heq : ∀ d ∈ StrChars.Road.wordsEq, d.before a0 Z = true := fun d hd => hw d ((by decide +kernel : ∀ d ∈ StrChars.Road.wordsEq, d ∈ tables_1) d hd)
  refine ctr_of (Ls := #[.val (.ref a)]) (plainFor_of_name own_pn4) (fun m => by first | (simp [entryFrame, mkF, argsToLocals, Value.category]; done) | rfl) ?_
  intro C hl hret hnm R
  subst hl
  have hK0 := (Keep.refl Z.heap []).ext R.old.2
  replace R := R.aloadN (pc' := 1) (v := (.ref a)) own_d8_0 rfl rfl rfl
  replace R := R.ifnonnullY (pc' := 6) own_d8_1 (by decide) rfl
  replace R := R.aloadN (pc' := 7) (v := (.ref a)) own_d8_6 rfl rfl rfl
  obtain ⟨h1, a1, E1, S1, N1, R⟩ := R.ldcS (pc' := 9) (n := 12) (cs := [109, 111, 100]) (by decide) (own_w38 hw) (by decide +kernel) (by decide +kernel) (by decide) own_d8_7 (by decide +kernel) (by decide) (by decide) (by decide) rfl
  have K2 := ((Keep.refl h []).trans ((Keep.refl h []).ext E1) all0)
  have F3 := S_a.keep K2 nin0 all0
  replace R := R.str_eq (pc' := 12) (W := 0) own_heq (own_w7 hw) (own_w41 hw) (own_w42 hw) (own_w44 hw) (own_w43 hw) own_cs S1 F3 rfl rfl own_d8_9 (by decide) (by decide) (by decide) (by decide) rfl
  replace R := R.stk (S' := [(.int (if [98, 108, 111, 99, 107, 115] = [109, 111, 100] then 1 else 0))]) rfl
  replace R := R.stk (congrArg (fun z => (Value.int z :: [] : List Value)) (if_neg (by decide)))
  replace R := R.stk (S' := [(.int (0 : Int32))]) rfl
  replace R := R.ifY (pc' := 19) own_d8_12 (teq (by decide : (0 : Int32) = (0 : Int32))).1 (by decide) rfl
  replace R := R.aloadN (pc' := 20) (v := (.ref a)) own_d8_19 rfl rfl rfl
  obtain ⟨h4, a4, E4, S4, N4, R⟩ := R.ldcS (pc' := 22) (n := 40) (cs := [112, 97, 114, 116, 105, 116, 105, 111, 110, 115]) (by decide) (own_w51 hw) (by decide +kernel) (by decide +kernel) (by decide) own_d8_20 (by decide +kernel) (by decide) (by decide) (by decide) rfl
  have K5 := ((Keep.refl h1 []).trans ((Keep.refl h1 []).ext E4) all0)
  have F6 := F3.keep K5 nin0 all0
  replace R := R.str_eq (pc' := 25) (W := 0) own_heq (own_w7 hw) (own_w41 hw) (own_w42 hw) (own_w44 hw) (own_w43 hw) own_cs S4 F6 rfl rfl own_d8_22 (by decide) (by decide) (by decide) (by decide) rfl
  replace R := R.stk (S' := [(.int (if [98, 108, 111, 99, 107, 115] = [112, 97, 114, 116, 105, 116, 105, 111, 110, 115] then 1 else 0))]) rfl
  replace R := R.stk (congrArg (fun z => (Value.int z :: [] : List Value)) (if_neg (by decide)))
  replace R := R.stk (S' := [(.int (0 : Int32))]) rfl
  replace R := R.ifY (pc' := 32) own_d8_25 (teq (by decide : (0 : Int32) = (0 : Int32))).1 (by decide) rfl
  replace R := R.aloadN (pc' := 33) (v := (.ref a)) own_d8_32 rfl rfl rfl
  obtain ⟨h7, a7, E7, S7, N7, R⟩ := R.ldcS (pc' := 35) (n := 24) (cs := [98, 108, 111, 99, 107, 115]) (by decide) (own_w52 hw) (by decide +kernel) (by decide +kernel) (by decide) own_d8_33 (by decide +kernel) (by decide) (by decide) (by decide) rfl
  have K8 := ((Keep.refl h4 []).trans ((Keep.refl h4 []).ext E7) all0)
  have F9 := F6.keep K8 nin0 all0
  replace R := R.str_eq (pc' := 38) (W := 0) own_heq (own_w7 hw) (own_w41 hw) (own_w42 hw) (own_w44 hw) (own_w43 hw) own_cs S7 F9 rfl rfl own_d8_35 (by decide) (by decide) (by decide) (by decide) rfl
  replace R := R.stk (S' := [(.int (if [98, 108, 111, 99, 107, 115] = [98, 108, 111, 99, 107, 115] then 1 else 0))]) rfl
  replace R := R.stk (congrArg (fun z => (Value.int z :: [] : List Value)) (if_pos rfl))
  replace R := R.stk (S' := [(.int (1 : Int32))]) rfl
  replace R := R.ifN (pc' := 41) own_d8_38 (feq (by decide : ¬ ((1 : Int32) = (0 : Int32)))).1 rfl
  replace R := R.getS (pc' := 44) (host := "") (Or.inl (own_w107 hw)) Via.refl S_BLOCKS own_d8_41 rfl
  have hK : Keep h h7 [] := ((((Keep.refl h []).trans ((Keep.refl h []).ext E1) all0).trans ((Keep.refl h1 []).ext E4) all0).trans ((Keep.refl h4 []).ext E7) all0)
  exact R.retA (Ds' := Ds) hret rfl rfl rfl own_d8_44 (by decide) (by decide) (fun _ q => q) ⟨rfl, hK, rfl⟩
set_option maxRecDepth 65536 in
set_option maxHeartbeats 4000000 in
theorem rm_expected_other (l : Launch) (Z : State) (a0 : Array Value) (hw : ∀ d ∈ tables_1, d.before a0 Z = true) (a : Addr) (h : Heap) (n0 : Nat) (Ds : List Addr) (own_cs : CompactOn Z) {a_MOD a_PARTITIONS a_BLOCKS a_MOD_word a_PARTITIONS_word a_BLOCKS_word a__VALUES : Addr} {k_V : ClassId} (S_MOD : Sta Z Z.heap "com/example/slicewise/slicewise/plan/Method" "MOD" "Lcom/example/slicewise/slicewise/plan/Method;" (.ref a_MOD)) (X_MOD : Exa Z Z.heap a_MOD "com/example/slicewise/slicewise/plan/Method") (S_PARTITIONS : Sta Z Z.heap "com/example/slicewise/slicewise/plan/Method" "PARTITIONS" "Lcom/example/slicewise/slicewise/plan/Method;" (.ref a_PARTITIONS)) (X_PARTITIONS : Exa Z Z.heap a_PARTITIONS "com/example/slicewise/slicewise/plan/Method") (S_BLOCKS : Sta Z Z.heap "com/example/slicewise/slicewise/plan/Method" "BLOCKS" "Lcom/example/slicewise/slicewise/plan/Method;" (.ref a_BLOCKS)) (X_BLOCKS : Exa Z Z.heap a_BLOCKS "com/example/slicewise/slicewise/plan/Method") (F_MOD_word : Fld Z Z.heap a_MOD "com/example/slicewise/slicewise/plan/Method" "word" "Ljava/lang/String;" (.ref a_MOD_word)) (T_MOD_word : IsStr Z Z.heap a_MOD_word [109, 111, 100]) (F_PARTITIONS_word : Fld Z Z.heap a_PARTITIONS "com/example/slicewise/slicewise/plan/Method" "word" "Ljava/lang/String;" (.ref a_PARTITIONS_word)) (T_PARTITIONS_word : IsStr Z Z.heap a_PARTITIONS_word [112, 97, 114, 116, 105, 116, 105, 111, 110, 115]) (F_BLOCKS_word : Fld Z Z.heap a_BLOCKS "com/example/slicewise/slicewise/plan/Method" "word" "Ljava/lang/String;" (.ref a_BLOCKS_word)) (T_BLOCKS_word : IsStr Z Z.heap a_BLOCKS_word [98, 108, 111, 99, 107, 115]) (S__VALUES : Sta Z Z.heap "com/example/slicewise/slicewise/plan/Method" "$VALUES" "[Lcom/example/slicewise/slicewise/plan/Method;" (.ref a__VALUES)) (X__VALUES : Exa Z Z.heap a__VALUES "[Lcom/example/slicewise/slicewise/plan/Method;") (V__VALUES : Arv Z Z.heap a__VALUES k_V (.object "com/example/slicewise/slicewise/plan/Method") (3 : Int32) [(.ref a_MOD), (.ref a_PARTITIONS), (.ref a_BLOCKS)] .null) {eO : Addr} (S_EMPTY : Sta Z Z.heap "java/util/Optional" "EMPTY" "Ljava/util/Optional;" (.ref eO)) (X_eO : Exa Z Z.heap eO "java/util/Optional") (F_eO : Fld Z Z.heap eO "java/util/Optional" "value" "Ljava/lang/Object;" .null) {cs : List Int32} (S_a : IsStr Z h a cs) (n_MOD : ¬ cs = [109, 111, 100]) (n_PARTITIONS : ¬ cs = [112, 97, 114, 116, 105, 116, 105, 111, 110, 115]) (n_BLOCKS : ¬ cs = [98, 108, 111, 99, 107, 115]) :
    Ctr l Z (⟨"com/example/slicewise/slicewise/plan/MethodForWordPinLaw", "expected", "(Ljava/lang/String;)Lcom/example/slicewise/slicewise/plan/Method;"⟩ : MethodName) method_4_code 1 (some (.object "com/example/slicewise/slicewise/plan/Method")) [] ({ frames := 2, cells := 6, slots := 88, locals := 28 } : Room) #[.ref a] h n0 Ds (fun v h' Ds' => v = some .null ∧ Keep h h' [] ∧ Ds = Ds') := by
  have own_heq : ∀ d ∈ StrChars.Road.wordsEq, d.before a0 Z = true := fun d hd => hw d ((by decide +kernel : ∀ d ∈ StrChars.Road.wordsEq, d ∈ tables_1) d hd)
  refine ctr_of (Ls := #[.val (.ref a)]) (plainFor_of_name own_pn4) (fun m => by first | (simp [entryFrame, mkF, argsToLocals, Value.category]; done) | rfl) ?_
  intro C hl hret hnm R
  subst hl
  have hK0 := (Keep.refl Z.heap []).ext R.old.2
  replace R := R.aloadN (pc' := 1) (v := (.ref a)) own_d8_0 rfl rfl rfl
  replace R := R.ifnonnullY (pc' := 6) own_d8_1 (by decide) rfl
  replace R := R.aloadN (pc' := 7) (v := (.ref a)) own_d8_6 rfl rfl rfl
  obtain ⟨h1, a1, E1, S1, N1, R⟩ := R.ldcS (pc' := 9) (n := 12) (cs := [109, 111, 100]) (by decide) (own_w38 hw) (by decide +kernel) (by decide +kernel) (by decide) own_d8_7 (by decide +kernel) (by decide) (by decide) (by decide) rfl
  have K2 := ((Keep.refl h []).trans ((Keep.refl h []).ext E1) all0)
  have F3 := S_a.keep K2 nin0 all0
  replace R := R.str_eq (pc' := 12) (W := 0) own_heq (own_w7 hw) (own_w41 hw) (own_w42 hw) (own_w44 hw) (own_w43 hw) own_cs S1 F3 rfl rfl own_d8_9 (by decide) (by decide) (by decide) (by decide) rfl
  replace R := R.stk (S' := [(.int (if cs = [109, 111, 100] then 1 else 0))]) rfl
  replace R := R.stk (congrArg (fun z => (Value.int z :: [] : List Value)) (if_neg n_MOD))
  replace R := R.stk (S' := [(.int (0 : Int32))]) rfl
  replace R := R.ifY (pc' := 19) own_d8_12 (teq (by decide : (0 : Int32) = (0 : Int32))).1 (by decide) rfl
  replace R := R.aloadN (pc' := 20) (v := (.ref a)) own_d8_19 rfl rfl rfl
  obtain ⟨h4, a4, E4, S4, N4, R⟩ := R.ldcS (pc' := 22) (n := 40) (cs := [112, 97, 114, 116, 105, 116, 105, 111, 110, 115]) (by decide) (own_w51 hw) (by decide +kernel) (by decide +kernel) (by decide) own_d8_20 (by decide +kernel) (by decide) (by decide) (by decide) rfl
  have K5 := ((Keep.refl h1 []).trans ((Keep.refl h1 []).ext E4) all0)
  have F6 := F3.keep K5 nin0 all0
  replace R := R.str_eq (pc' := 25) (W := 0) own_heq (own_w7 hw) (own_w41 hw) (own_w42 hw) (own_w44 hw) (own_w43 hw) own_cs S4 F6 rfl rfl own_d8_22 (by decide) (by decide) (by decide) (by decide) rfl
  replace R := R.stk (S' := [(.int (if cs = [112, 97, 114, 116, 105, 116, 105, 111, 110, 115] then 1 else 0))]) rfl
  replace R := R.stk (congrArg (fun z => (Value.int z :: [] : List Value)) (if_neg n_PARTITIONS))
  replace R := R.stk (S' := [(.int (0 : Int32))]) rfl
  replace R := R.ifY (pc' := 32) own_d8_25 (teq (by decide : (0 : Int32) = (0 : Int32))).1 (by decide) rfl
  replace R := R.aloadN (pc' := 33) (v := (.ref a)) own_d8_32 rfl rfl rfl
  obtain ⟨h7, a7, E7, S7, N7, R⟩ := R.ldcS (pc' := 35) (n := 24) (cs := [98, 108, 111, 99, 107, 115]) (by decide) (own_w52 hw) (by decide +kernel) (by decide +kernel) (by decide) own_d8_33 (by decide +kernel) (by decide) (by decide) (by decide) rfl
  have K8 := ((Keep.refl h4 []).trans ((Keep.refl h4 []).ext E7) all0)
  have F9 := F6.keep K8 nin0 all0
  replace R := R.str_eq (pc' := 38) (W := 0) own_heq (own_w7 hw) (own_w41 hw) (own_w42 hw) (own_w44 hw) (own_w43 hw) own_cs S7 F9 rfl rfl own_d8_35 (by decide) (by decide) (by decide) (by decide) rfl
  replace R := R.stk (S' := [(.int (if cs = [98, 108, 111, 99, 107, 115] then 1 else 0))]) rfl
  replace R := R.stk (congrArg (fun z => (Value.int z :: [] : List Value)) (if_neg n_BLOCKS))
  replace R := R.stk (S' := [(.int (0 : Int32))]) rfl
  replace R := R.ifY (pc' := 45) own_d8_38 (teq (by decide : (0 : Int32) = (0 : Int32))).1 (by decide) rfl
  replace R := R.anull (pc' := 46) own_d8_45 rfl
  have hK : Keep h h7 [] := ((((Keep.refl h []).trans ((Keep.refl h []).ext E1) all0).trans ((Keep.refl h1 []).ext E4) all0).trans ((Keep.refl h4 []).ext E7) all0)
  exact R.retA (Ds' := Ds) hret rfl rfl rfl own_d8_46 (by decide) (by decide) (fun _ q => q) ⟨rfl, hK, rfl⟩
set_option maxRecDepth 65536 in
set_option maxHeartbeats 4000000 in
theorem rm_base (l : Launch) (Z : State) (a0 : Array Value) (hw : ∀ d ∈ tables_1, d.before a0 Z = true) (p0 p1 : Int32) (h : Heap) (n0 : Nat) (Ds : List Addr) :
    Ctr l Z (⟨"com/example/slicewise/slicewise/plan/MethodForWordPinLaw", "base", "(II)[C"⟩ : MethodName) method_3_code 2 (some (.array .char)) [] ({ frames := 0, cells := 1, slots := 11, locals := 0 } : Room) #[.int p0, .int p1] h n0 Ds (fun v h' Ds' => ∃ (r : Addr) (kA : ClassId) (cs : List Int32), v = some (.ref r) ∧ Keep h h' [] ∧ Arv Z h' r kA .char (Int32.ofNat cs.length) (cs.map Value.int) (.int 0) ∧ 0 < cs.length ∧ cs.length ≤ 11 ∧ (∀ c ∈ cs, ¬ c < 0 ∧ ¬ (255 : Int32) < c) ∧ r :: Ds = Ds') := by
  refine ctr_of (Ls := #[.val (.int p0), .val (.int p1)]) (plainFor_of_name own_pn4) (fun m => by first | (simp [entryFrame, mkF, argsToLocals, Value.category]; done) | rfl) ?_
  intro C hl hret hnm R
  subst hl
  replace R := R.iloadN (pc' := 1) (v := p0) own_d1_0 rfl rfl
  by_cases hc1 : p0 = (0 : Int32)
  · replace R := R.ifN (pc' := 4) own_d1_1 (teq hc1).2 rfl
    replace R := R.iloadN (pc' := 5) (v := p1) own_d1_4 rfl rfl
    replace R := R.iconst (pc' := 6) (z := (1 : Int32)) own_d1_5 rfl rfl
    by_cases hc2 : p1 = (1 : Int32)
    · replace R := R.icmpN (pc' := 9) own_d1_6 (teq hc2).2 rfl
      replace R := R.iconst (pc' := 10) (z := (3 : Int32)) own_d1_9 rfl rfl
      obtain ⟨h3, b3, k3, g3, E3, V3, R⟩ := R.newP (pc' := 12) (aty := .char) (cap := 3) (own_w5 hw) own_d1_10 (by decide) (by decide) (by decide) (by decide) (by decide) rfl
      have V3p : Arv Z h3 b3 k3 .char (3 : Int32) [(.int (0 : Int32)), (.int (0 : Int32)), (.int (0 : Int32))] (.int (0 : Int32)) := V3.pad (pad_rep [] (.int (0 : Int32)) 3)
      replace R := R.dup (pc' := 13) own_d1_12 rfl rfl
      replace R := R.iconst (pc' := 14) (z := (0 : Int32)) own_d1_13 rfl rfl
      replace R := R.bipush (pc' := 16) (z := (109 : Int32)) own_d1_14 rfl rfl
      obtain ⟨h4, K4, V4, R⟩ := R.castore (pc' := 17) V3p ⟨by decide, by decide⟩ 0 rfl (Nat.le_of_ble_eq_true rfl) (List.mem_of_getElem? (i := 0) rfl) own_d1_16 rfl
      have V4p : Arv Z h4 b3 k3 .char (3 : Int32) [(.int (109 : Int32)), (.int (0 : Int32)), (.int (0 : Int32))] (.int (0 : Int32)) := by
        have q := V4
        rw [(rfl : nar .char (109 : Int32) = (109 : Int32))] at q
        exact q
      replace R := R.dup (pc' := 18) own_d1_17 rfl rfl
      replace R := R.iconst (pc' := 19) (z := (1 : Int32)) own_d1_18 rfl rfl
      replace R := R.bipush (pc' := 21) (z := (111 : Int32)) own_d1_19 rfl rfl
      obtain ⟨h5, K5, V5, R⟩ := R.castore (pc' := 22) V4p ⟨by decide, by decide⟩ 1 rfl (Nat.le_of_ble_eq_true rfl) (List.mem_of_getElem? (i := 0) rfl) own_d1_21 rfl
      have V5p : Arv Z h5 b3 k3 .char (3 : Int32) [(.int (109 : Int32)), (.int (111 : Int32)), (.int (0 : Int32))] (.int (0 : Int32)) := by
        have q := V5
        rw [(rfl : nar .char (111 : Int32) = (111 : Int32))] at q
        exact q
      replace R := R.dup (pc' := 23) own_d1_22 rfl rfl
      replace R := R.iconst (pc' := 24) (z := (2 : Int32)) own_d1_23 rfl rfl
      replace R := R.bipush (pc' := 26) (z := (100 : Int32)) own_d1_24 rfl rfl
      obtain ⟨h6, K6, V6, R⟩ := R.castore (pc' := 27) V5p ⟨by decide, by decide⟩ 2 rfl (Nat.le_of_ble_eq_true rfl) (List.mem_of_getElem? (i := 0) rfl) own_d1_26 rfl
      have V6p : Arv Z h6 b3 k3 .char (3 : Int32) [(.int (109 : Int32)), (.int (111 : Int32)), (.int (100 : Int32))] (.int (0 : Int32)) := by
        have q := V6
        rw [(rfl : nar .char (100 : Int32) = (100 : Int32))] at q
        exact q
      have hK := (((((Keep.refl h []).trans ((Keep.refl h []).ext E3) all0).trans K4 (allS (Or.inr (by rw [g3]; exact (Nat.le_refl _))) all0)).trans K5 (allS (Or.inr (by rw [g3]; exact (Nat.le_refl _))) all0)).trans K6 (allS (Or.inr (by rw [g3]; exact (Nat.le_refl _))) all0))
      exact R.retA (Ds' := b3 :: Ds) hret rfl rfl rfl own_d1_27 (by decide) (by decide) (fun _ q => q) ⟨b3, _, [(109 : Int32), (111 : Int32), (100 : Int32)], rfl, hK, V6p, by decide, by decide, by decide, rfl⟩
    · replace R := R.icmpY (pc' := 28) own_d1_6 (feq hc2).2 (by decide) rfl
      replace R := R.iloadN (pc' := 29) (v := p1) own_d1_28 rfl rfl
      replace R := R.iconst (pc' := 30) (z := (2 : Int32)) own_d1_29 rfl rfl
      by_cases hc7 : p1 = (2 : Int32)
      · replace R := R.icmpN (pc' := 33) own_d1_30 (teq hc7).2 rfl
        replace R := R.iconst (pc' := 34) (z := (2 : Int32)) own_d1_33 rfl rfl
        obtain ⟨h8, b8, k8, g8, E8, V8, R⟩ := R.newP (pc' := 36) (aty := .char) (cap := 2) (own_w5 hw) own_d1_34 (by decide) (by decide) (by decide) (by decide) (by decide) rfl
        have V8p : Arv Z h8 b8 k8 .char (2 : Int32) [(.int (0 : Int32)), (.int (0 : Int32))] (.int (0 : Int32)) := V8.pad (pad_rep [] (.int (0 : Int32)) 2)
        replace R := R.dup (pc' := 37) own_d1_36 rfl rfl
        replace R := R.iconst (pc' := 38) (z := (0 : Int32)) own_d1_37 rfl rfl
        replace R := R.bipush (pc' := 40) (z := (109 : Int32)) own_d1_38 rfl rfl
        obtain ⟨h9, K9, V9, R⟩ := R.castore (pc' := 41) V8p ⟨by decide, by decide⟩ 0 rfl (Nat.le_of_ble_eq_true rfl) (List.mem_of_getElem? (i := 0) rfl) own_d1_40 rfl
        have V9p : Arv Z h9 b8 k8 .char (2 : Int32) [(.int (109 : Int32)), (.int (0 : Int32))] (.int (0 : Int32)) := by
          have q := V9
          rw [(rfl : nar .char (109 : Int32) = (109 : Int32))] at q
          exact q
        replace R := R.dup (pc' := 42) own_d1_41 rfl rfl
        replace R := R.iconst (pc' := 43) (z := (1 : Int32)) own_d1_42 rfl rfl
        replace R := R.bipush (pc' := 45) (z := (111 : Int32)) own_d1_43 rfl rfl
        obtain ⟨h10, K10, V10, R⟩ := R.castore (pc' := 46) V9p ⟨by decide, by decide⟩ 1 rfl (Nat.le_of_ble_eq_true rfl) (List.mem_of_getElem? (i := 0) rfl) own_d1_45 rfl
        have V10p : Arv Z h10 b8 k8 .char (2 : Int32) [(.int (109 : Int32)), (.int (111 : Int32))] (.int (0 : Int32)) := by
          have q := V10
          rw [(rfl : nar .char (111 : Int32) = (111 : Int32))] at q
          exact q
        have hK := ((((Keep.refl h []).trans ((Keep.refl h []).ext E8) all0).trans K9 (allS (Or.inr (by rw [g8]; exact (Nat.le_refl _))) all0)).trans K10 (allS (Or.inr (by rw [g8]; exact (Nat.le_refl _))) all0))
        exact R.retA (Ds' := b8 :: Ds) hret rfl rfl rfl own_d1_46 (by decide) (by decide) (fun _ q => q) ⟨b8, _, [(109 : Int32), (111 : Int32)], rfl, hK, V10p, by decide, by decide, by decide, rfl⟩
      · replace R := R.icmpY (pc' := 47) own_d1_30 (feq hc7).2 (by decide) rfl
        replace R := R.iconst (pc' := 48) (z := (4 : Int32)) own_d1_47 rfl rfl
        obtain ⟨h11, b11, k11, g11, E11, V11, R⟩ := R.newP (pc' := 50) (aty := .char) (cap := 4) (own_w5 hw) own_d1_48 (by decide) (by decide) (by decide) (by decide) (by decide) rfl
        have V11p : Arv Z h11 b11 k11 .char (4 : Int32) [(.int (0 : Int32)), (.int (0 : Int32)), (.int (0 : Int32)), (.int (0 : Int32))] (.int (0 : Int32)) := V11.pad (pad_rep [] (.int (0 : Int32)) 4)
        replace R := R.dup (pc' := 51) own_d1_50 rfl rfl
        replace R := R.iconst (pc' := 52) (z := (0 : Int32)) own_d1_51 rfl rfl
        replace R := R.bipush (pc' := 54) (z := (109 : Int32)) own_d1_52 rfl rfl
        obtain ⟨h12, K12, V12, R⟩ := R.castore (pc' := 55) V11p ⟨by decide, by decide⟩ 0 rfl (Nat.le_of_ble_eq_true rfl) (List.mem_of_getElem? (i := 0) rfl) own_d1_54 rfl
        have V12p : Arv Z h12 b11 k11 .char (4 : Int32) [(.int (109 : Int32)), (.int (0 : Int32)), (.int (0 : Int32)), (.int (0 : Int32))] (.int (0 : Int32)) := by
          have q := V12
          rw [(rfl : nar .char (109 : Int32) = (109 : Int32))] at q
          exact q
        replace R := R.dup (pc' := 56) own_d1_55 rfl rfl
        replace R := R.iconst (pc' := 57) (z := (1 : Int32)) own_d1_56 rfl rfl
        replace R := R.bipush (pc' := 59) (z := (111 : Int32)) own_d1_57 rfl rfl
        obtain ⟨h13, K13, V13, R⟩ := R.castore (pc' := 60) V12p ⟨by decide, by decide⟩ 1 rfl (Nat.le_of_ble_eq_true rfl) (List.mem_of_getElem? (i := 0) rfl) own_d1_59 rfl
        have V13p : Arv Z h13 b11 k11 .char (4 : Int32) [(.int (109 : Int32)), (.int (111 : Int32)), (.int (0 : Int32)), (.int (0 : Int32))] (.int (0 : Int32)) := by
          have q := V13
          rw [(rfl : nar .char (111 : Int32) = (111 : Int32))] at q
          exact q
        replace R := R.dup (pc' := 61) own_d1_60 rfl rfl
        replace R := R.iconst (pc' := 62) (z := (2 : Int32)) own_d1_61 rfl rfl
        replace R := R.bipush (pc' := 64) (z := (100 : Int32)) own_d1_62 rfl rfl
        obtain ⟨h14, K14, V14, R⟩ := R.castore (pc' := 65) V13p ⟨by decide, by decide⟩ 2 rfl (Nat.le_of_ble_eq_true rfl) (List.mem_of_getElem? (i := 0) rfl) own_d1_64 rfl
        have V14p : Arv Z h14 b11 k11 .char (4 : Int32) [(.int (109 : Int32)), (.int (111 : Int32)), (.int (100 : Int32)), (.int (0 : Int32))] (.int (0 : Int32)) := by
          have q := V14
          rw [(rfl : nar .char (100 : Int32) = (100 : Int32))] at q
          exact q
        replace R := R.dup (pc' := 66) own_d1_65 rfl rfl
        replace R := R.iconst (pc' := 67) (z := (3 : Int32)) own_d1_66 rfl rfl
        replace R := R.bipush (pc' := 69) (z := (115 : Int32)) own_d1_67 rfl rfl
        obtain ⟨h15, K15, V15, R⟩ := R.castore (pc' := 70) V14p ⟨by decide, by decide⟩ 3 rfl (Nat.le_of_ble_eq_true rfl) (List.mem_of_getElem? (i := 0) rfl) own_d1_69 rfl
        have V15p : Arv Z h15 b11 k11 .char (4 : Int32) [(.int (109 : Int32)), (.int (111 : Int32)), (.int (100 : Int32)), (.int (115 : Int32))] (.int (0 : Int32)) := by
          have q := V15
          rw [(rfl : nar .char (115 : Int32) = (115 : Int32))] at q
          exact q
        have hK := ((((((Keep.refl h []).trans ((Keep.refl h []).ext E11) all0).trans K12 (allS (Or.inr (by rw [g11]; exact (Nat.le_refl _))) all0)).trans K13 (allS (Or.inr (by rw [g11]; exact (Nat.le_refl _))) all0)).trans K14 (allS (Or.inr (by rw [g11]; exact (Nat.le_refl _))) all0)).trans K15 (allS (Or.inr (by rw [g11]; exact (Nat.le_refl _))) all0))
        exact R.retA (Ds' := b11 :: Ds) hret rfl rfl rfl own_d1_70 (by decide) (by decide) (fun _ q => q) ⟨b11, _, [(109 : Int32), (111 : Int32), (100 : Int32), (115 : Int32)], rfl, hK, V15p, by decide, by decide, by decide, rfl⟩
  · replace R := R.ifY (pc' := 71) own_d1_1 (feq hc1).2 (by decide) rfl
    replace R := R.iloadN (pc' := 72) (v := p0) own_d1_71 rfl rfl
    replace R := R.iconst (pc' := 73) (z := (1 : Int32)) own_d1_72 rfl rfl
    by_cases hc16 : p0 = (1 : Int32)
    · replace R := R.icmpN (pc' := 76) own_d1_73 (teq hc16).2 rfl
      replace R := R.iloadN (pc' := 77) (v := p1) own_d1_76 rfl rfl
      replace R := R.iconst (pc' := 78) (z := (1 : Int32)) own_d1_77 rfl rfl
      by_cases hc17 : p1 = (1 : Int32)
      · replace R := R.icmpN (pc' := 81) own_d1_78 (teq hc17).2 rfl
        replace R := R.bipush (pc' := 83) (z := (10 : Int32)) own_d1_81 rfl rfl
        obtain ⟨h18, b18, k18, g18, E18, V18, R⟩ := R.newP (pc' := 85) (aty := .char) (cap := 10) (own_w5 hw) own_d1_83 (by decide) (by decide) (by decide) (by decide) (by decide) rfl
        have V18p : Arv Z h18 b18 k18 .char (10 : Int32) [(.int (0 : Int32)), (.int (0 : Int32)), (.int (0 : Int32)), (.int (0 : Int32)), (.int (0 : Int32)), (.int (0 : Int32)), (.int (0 : Int32)), (.int (0 : Int32)), (.int (0 : Int32)), (.int (0 : Int32))] (.int (0 : Int32)) := V18.pad (pad_rep [] (.int (0 : Int32)) 10)
        replace R := R.dup (pc' := 86) own_d1_85 rfl rfl
        replace R := R.iconst (pc' := 87) (z := (0 : Int32)) own_d1_86 rfl rfl
        replace R := R.bipush (pc' := 89) (z := (112 : Int32)) own_d1_87 rfl rfl
        obtain ⟨h19, K19, V19, R⟩ := R.castore (pc' := 90) V18p ⟨by decide, by decide⟩ 0 rfl (Nat.le_of_ble_eq_true rfl) (List.mem_of_getElem? (i := 0) rfl) own_d1_89 rfl
        have V19p : Arv Z h19 b18 k18 .char (10 : Int32) [(.int (112 : Int32)), (.int (0 : Int32)), (.int (0 : Int32)), (.int (0 : Int32)), (.int (0 : Int32)), (.int (0 : Int32)), (.int (0 : Int32)), (.int (0 : Int32)), (.int (0 : Int32)), (.int (0 : Int32))] (.int (0 : Int32)) := by
          have q := V19
          rw [(rfl : nar .char (112 : Int32) = (112 : Int32))] at q
          exact q
        replace R := R.dup (pc' := 91) own_d1_90 rfl rfl
        replace R := R.iconst (pc' := 92) (z := (1 : Int32)) own_d1_91 rfl rfl
        replace R := R.bipush (pc' := 94) (z := (97 : Int32)) own_d1_92 rfl rfl
        obtain ⟨h20, K20, V20, R⟩ := R.castore (pc' := 95) V19p ⟨by decide, by decide⟩ 1 rfl (Nat.le_of_ble_eq_true rfl) (List.mem_of_getElem? (i := 0) rfl) own_d1_94 rfl
        have V20p : Arv Z h20 b18 k18 .char (10 : Int32) [(.int (112 : Int32)), (.int (97 : Int32)), (.int (0 : Int32)), (.int (0 : Int32)), (.int (0 : Int32)), (.int (0 : Int32)), (.int (0 : Int32)), (.int (0 : Int32)), (.int (0 : Int32)), (.int (0 : Int32))] (.int (0 : Int32)) := by
          have q := V20
          rw [(rfl : nar .char (97 : Int32) = (97 : Int32))] at q
          exact q
        replace R := R.dup (pc' := 96) own_d1_95 rfl rfl
        replace R := R.iconst (pc' := 97) (z := (2 : Int32)) own_d1_96 rfl rfl
        replace R := R.bipush (pc' := 99) (z := (114 : Int32)) own_d1_97 rfl rfl
        obtain ⟨h21, K21, V21, R⟩ := R.castore (pc' := 100) V20p ⟨by decide, by decide⟩ 2 rfl (Nat.le_of_ble_eq_true rfl) (List.mem_of_getElem? (i := 0) rfl) own_d1_99 rfl
        have V21p : Arv Z h21 b18 k18 .char (10 : Int32) [(.int (112 : Int32)), (.int (97 : Int32)), (.int (114 : Int32)), (.int (0 : Int32)), (.int (0 : Int32)), (.int (0 : Int32)), (.int (0 : Int32)), (.int (0 : Int32)), (.int (0 : Int32)), (.int (0 : Int32))] (.int (0 : Int32)) := by
          have q := V21
          rw [(rfl : nar .char (114 : Int32) = (114 : Int32))] at q
          exact q
        replace R := R.dup (pc' := 101) own_d1_100 rfl rfl
        replace R := R.iconst (pc' := 102) (z := (3 : Int32)) own_d1_101 rfl rfl
        replace R := R.bipush (pc' := 104) (z := (116 : Int32)) own_d1_102 rfl rfl
        obtain ⟨h22, K22, V22, R⟩ := R.castore (pc' := 105) V21p ⟨by decide, by decide⟩ 3 rfl (Nat.le_of_ble_eq_true rfl) (List.mem_of_getElem? (i := 0) rfl) own_d1_104 rfl
        have V22p : Arv Z h22 b18 k18 .char (10 : Int32) [(.int (112 : Int32)), (.int (97 : Int32)), (.int (114 : Int32)), (.int (116 : Int32)), (.int (0 : Int32)), (.int (0 : Int32)), (.int (0 : Int32)), (.int (0 : Int32)), (.int (0 : Int32)), (.int (0 : Int32))] (.int (0 : Int32)) := by
          have q := V22
          rw [(rfl : nar .char (116 : Int32) = (116 : Int32))] at q
          exact q
        replace R := R.dup (pc' := 106) own_d1_105 rfl rfl
        replace R := R.iconst (pc' := 107) (z := (4 : Int32)) own_d1_106 rfl rfl
        replace R := R.bipush (pc' := 109) (z := (105 : Int32)) own_d1_107 rfl rfl
        obtain ⟨h23, K23, V23, R⟩ := R.castore (pc' := 110) V22p ⟨by decide, by decide⟩ 4 rfl (Nat.le_of_ble_eq_true rfl) (List.mem_of_getElem? (i := 0) rfl) own_d1_109 rfl
        have V23p : Arv Z h23 b18 k18 .char (10 : Int32) [(.int (112 : Int32)), (.int (97 : Int32)), (.int (114 : Int32)), (.int (116 : Int32)), (.int (105 : Int32)), (.int (0 : Int32)), (.int (0 : Int32)), (.int (0 : Int32)), (.int (0 : Int32)), (.int (0 : Int32))] (.int (0 : Int32)) := by
          have q := V23
          rw [(rfl : nar .char (105 : Int32) = (105 : Int32))] at q
          exact q
        replace R := R.dup (pc' := 111) own_d1_110 rfl rfl
        replace R := R.iconst (pc' := 112) (z := (5 : Int32)) own_d1_111 rfl rfl
        replace R := R.bipush (pc' := 114) (z := (116 : Int32)) own_d1_112 rfl rfl
        obtain ⟨h24, K24, V24, R⟩ := R.castore (pc' := 115) V23p ⟨by decide, by decide⟩ 5 rfl (Nat.le_of_ble_eq_true rfl) (List.mem_of_getElem? (i := 0) rfl) own_d1_114 rfl
        have V24p : Arv Z h24 b18 k18 .char (10 : Int32) [(.int (112 : Int32)), (.int (97 : Int32)), (.int (114 : Int32)), (.int (116 : Int32)), (.int (105 : Int32)), (.int (116 : Int32)), (.int (0 : Int32)), (.int (0 : Int32)), (.int (0 : Int32)), (.int (0 : Int32))] (.int (0 : Int32)) := by
          have q := V24
          rw [(rfl : nar .char (116 : Int32) = (116 : Int32))] at q
          exact q
        replace R := R.dup (pc' := 116) own_d1_115 rfl rfl
        replace R := R.bipush (pc' := 118) (z := (6 : Int32)) own_d1_116 rfl rfl
        replace R := R.bipush (pc' := 120) (z := (105 : Int32)) own_d1_118 rfl rfl
        obtain ⟨h25, K25, V25, R⟩ := R.castore (pc' := 121) V24p ⟨by decide, by decide⟩ 6 rfl (Nat.le_of_ble_eq_true rfl) (List.mem_of_getElem? (i := 0) rfl) own_d1_120 rfl
        have V25p : Arv Z h25 b18 k18 .char (10 : Int32) [(.int (112 : Int32)), (.int (97 : Int32)), (.int (114 : Int32)), (.int (116 : Int32)), (.int (105 : Int32)), (.int (116 : Int32)), (.int (105 : Int32)), (.int (0 : Int32)), (.int (0 : Int32)), (.int (0 : Int32))] (.int (0 : Int32)) := by
          have q := V25
          rw [(rfl : nar .char (105 : Int32) = (105 : Int32))] at q
          exact q
        replace R := R.dup (pc' := 122) own_d1_121 rfl rfl
        replace R := R.bipush (pc' := 124) (z := (7 : Int32)) own_d1_122 rfl rfl
        replace R := R.bipush (pc' := 126) (z := (111 : Int32)) own_d1_124 rfl rfl
        obtain ⟨h26, K26, V26, R⟩ := R.castore (pc' := 127) V25p ⟨by decide, by decide⟩ 7 rfl (Nat.le_of_ble_eq_true rfl) (List.mem_of_getElem? (i := 0) rfl) own_d1_126 rfl
        have V26p : Arv Z h26 b18 k18 .char (10 : Int32) [(.int (112 : Int32)), (.int (97 : Int32)), (.int (114 : Int32)), (.int (116 : Int32)), (.int (105 : Int32)), (.int (116 : Int32)), (.int (105 : Int32)), (.int (111 : Int32)), (.int (0 : Int32)), (.int (0 : Int32))] (.int (0 : Int32)) := by
          have q := V26
          rw [(rfl : nar .char (111 : Int32) = (111 : Int32))] at q
          exact q
        replace R := R.dup (pc' := 128) own_d1_127 rfl rfl
        replace R := R.bipush (pc' := 130) (z := (8 : Int32)) own_d1_128 rfl rfl
        replace R := R.bipush (pc' := 132) (z := (110 : Int32)) own_d1_130 rfl rfl
        obtain ⟨h27, K27, V27, R⟩ := R.castore (pc' := 133) V26p ⟨by decide, by decide⟩ 8 rfl (Nat.le_of_ble_eq_true rfl) (List.mem_of_getElem? (i := 0) rfl) own_d1_132 rfl
        have V27p : Arv Z h27 b18 k18 .char (10 : Int32) [(.int (112 : Int32)), (.int (97 : Int32)), (.int (114 : Int32)), (.int (116 : Int32)), (.int (105 : Int32)), (.int (116 : Int32)), (.int (105 : Int32)), (.int (111 : Int32)), (.int (110 : Int32)), (.int (0 : Int32))] (.int (0 : Int32)) := by
          have q := V27
          rw [(rfl : nar .char (110 : Int32) = (110 : Int32))] at q
          exact q
        replace R := R.dup (pc' := 134) own_d1_133 rfl rfl
        replace R := R.bipush (pc' := 136) (z := (9 : Int32)) own_d1_134 rfl rfl
        replace R := R.bipush (pc' := 138) (z := (115 : Int32)) own_d1_136 rfl rfl
        obtain ⟨h28, K28, V28, R⟩ := R.castore (pc' := 139) V27p ⟨by decide, by decide⟩ 9 rfl (Nat.le_of_ble_eq_true rfl) (List.mem_of_getElem? (i := 0) rfl) own_d1_138 rfl
        have V28p : Arv Z h28 b18 k18 .char (10 : Int32) [(.int (112 : Int32)), (.int (97 : Int32)), (.int (114 : Int32)), (.int (116 : Int32)), (.int (105 : Int32)), (.int (116 : Int32)), (.int (105 : Int32)), (.int (111 : Int32)), (.int (110 : Int32)), (.int (115 : Int32))] (.int (0 : Int32)) := by
          have q := V28
          rw [(rfl : nar .char (115 : Int32) = (115 : Int32))] at q
          exact q
        have hK := ((((((((((((Keep.refl h []).trans ((Keep.refl h []).ext E18) all0).trans K19 (allS (Or.inr (by rw [g18]; exact (Nat.le_refl _))) all0)).trans K20 (allS (Or.inr (by rw [g18]; exact (Nat.le_refl _))) all0)).trans K21 (allS (Or.inr (by rw [g18]; exact (Nat.le_refl _))) all0)).trans K22 (allS (Or.inr (by rw [g18]; exact (Nat.le_refl _))) all0)).trans K23 (allS (Or.inr (by rw [g18]; exact (Nat.le_refl _))) all0)).trans K24 (allS (Or.inr (by rw [g18]; exact (Nat.le_refl _))) all0)).trans K25 (allS (Or.inr (by rw [g18]; exact (Nat.le_refl _))) all0)).trans K26 (allS (Or.inr (by rw [g18]; exact (Nat.le_refl _))) all0)).trans K27 (allS (Or.inr (by rw [g18]; exact (Nat.le_refl _))) all0)).trans K28 (allS (Or.inr (by rw [g18]; exact (Nat.le_refl _))) all0))
        exact R.retA (Ds' := b18 :: Ds) hret rfl rfl rfl own_d1_139 (by decide) (by decide) (fun _ q => q) ⟨b18, _, [(112 : Int32), (97 : Int32), (114 : Int32), (116 : Int32), (105 : Int32), (116 : Int32), (105 : Int32), (111 : Int32), (110 : Int32), (115 : Int32)], rfl, hK, V28p, by decide, by decide, by decide, rfl⟩
      · replace R := R.icmpY (pc' := 140) own_d1_78 (feq hc17).2 (by decide) rfl
        replace R := R.iloadN (pc' := 141) (v := p1) own_d1_140 rfl rfl
        replace R := R.iconst (pc' := 142) (z := (2 : Int32)) own_d1_141 rfl rfl
        by_cases hc29 : p1 = (2 : Int32)
        · replace R := R.icmpN (pc' := 145) own_d1_142 (teq hc29).2 rfl
          replace R := R.bipush (pc' := 147) (z := (9 : Int32)) own_d1_145 rfl rfl
          obtain ⟨h30, b30, k30, g30, E30, V30, R⟩ := R.newP (pc' := 149) (aty := .char) (cap := 9) (own_w5 hw) own_d1_147 (by decide) (by decide) (by decide) (by decide) (by decide) rfl
          have V30p : Arv Z h30 b30 k30 .char (9 : Int32) [(.int (0 : Int32)), (.int (0 : Int32)), (.int (0 : Int32)), (.int (0 : Int32)), (.int (0 : Int32)), (.int (0 : Int32)), (.int (0 : Int32)), (.int (0 : Int32)), (.int (0 : Int32))] (.int (0 : Int32)) := V30.pad (pad_rep [] (.int (0 : Int32)) 9)
          replace R := R.dup (pc' := 150) own_d1_149 rfl rfl
          replace R := R.iconst (pc' := 151) (z := (0 : Int32)) own_d1_150 rfl rfl
          replace R := R.bipush (pc' := 153) (z := (112 : Int32)) own_d1_151 rfl rfl
          obtain ⟨h31, K31, V31, R⟩ := R.castore (pc' := 154) V30p ⟨by decide, by decide⟩ 0 rfl (Nat.le_of_ble_eq_true rfl) (List.mem_of_getElem? (i := 0) rfl) own_d1_153 rfl
          have V31p : Arv Z h31 b30 k30 .char (9 : Int32) [(.int (112 : Int32)), (.int (0 : Int32)), (.int (0 : Int32)), (.int (0 : Int32)), (.int (0 : Int32)), (.int (0 : Int32)), (.int (0 : Int32)), (.int (0 : Int32)), (.int (0 : Int32))] (.int (0 : Int32)) := by
            have q := V31
            rw [(rfl : nar .char (112 : Int32) = (112 : Int32))] at q
            exact q
          replace R := R.dup (pc' := 155) own_d1_154 rfl rfl
          replace R := R.iconst (pc' := 156) (z := (1 : Int32)) own_d1_155 rfl rfl
          replace R := R.bipush (pc' := 158) (z := (97 : Int32)) own_d1_156 rfl rfl
          obtain ⟨h32, K32, V32, R⟩ := R.castore (pc' := 159) V31p ⟨by decide, by decide⟩ 1 rfl (Nat.le_of_ble_eq_true rfl) (List.mem_of_getElem? (i := 0) rfl) own_d1_158 rfl
          have V32p : Arv Z h32 b30 k30 .char (9 : Int32) [(.int (112 : Int32)), (.int (97 : Int32)), (.int (0 : Int32)), (.int (0 : Int32)), (.int (0 : Int32)), (.int (0 : Int32)), (.int (0 : Int32)), (.int (0 : Int32)), (.int (0 : Int32))] (.int (0 : Int32)) := by
            have q := V32
            rw [(rfl : nar .char (97 : Int32) = (97 : Int32))] at q
            exact q
          replace R := R.dup (pc' := 160) own_d1_159 rfl rfl
          replace R := R.iconst (pc' := 161) (z := (2 : Int32)) own_d1_160 rfl rfl
          replace R := R.bipush (pc' := 163) (z := (114 : Int32)) own_d1_161 rfl rfl
          obtain ⟨h33, K33, V33, R⟩ := R.castore (pc' := 164) V32p ⟨by decide, by decide⟩ 2 rfl (Nat.le_of_ble_eq_true rfl) (List.mem_of_getElem? (i := 0) rfl) own_d1_163 rfl
          have V33p : Arv Z h33 b30 k30 .char (9 : Int32) [(.int (112 : Int32)), (.int (97 : Int32)), (.int (114 : Int32)), (.int (0 : Int32)), (.int (0 : Int32)), (.int (0 : Int32)), (.int (0 : Int32)), (.int (0 : Int32)), (.int (0 : Int32))] (.int (0 : Int32)) := by
            have q := V33
            rw [(rfl : nar .char (114 : Int32) = (114 : Int32))] at q
            exact q
          replace R := R.dup (pc' := 165) own_d1_164 rfl rfl
          replace R := R.iconst (pc' := 166) (z := (3 : Int32)) own_d1_165 rfl rfl
          replace R := R.bipush (pc' := 168) (z := (116 : Int32)) own_d1_166 rfl rfl
          obtain ⟨h34, K34, V34, R⟩ := R.castore (pc' := 169) V33p ⟨by decide, by decide⟩ 3 rfl (Nat.le_of_ble_eq_true rfl) (List.mem_of_getElem? (i := 0) rfl) own_d1_168 rfl
          have V34p : Arv Z h34 b30 k30 .char (9 : Int32) [(.int (112 : Int32)), (.int (97 : Int32)), (.int (114 : Int32)), (.int (116 : Int32)), (.int (0 : Int32)), (.int (0 : Int32)), (.int (0 : Int32)), (.int (0 : Int32)), (.int (0 : Int32))] (.int (0 : Int32)) := by
            have q := V34
            rw [(rfl : nar .char (116 : Int32) = (116 : Int32))] at q
            exact q
          replace R := R.dup (pc' := 170) own_d1_169 rfl rfl
          replace R := R.iconst (pc' := 171) (z := (4 : Int32)) own_d1_170 rfl rfl
          replace R := R.bipush (pc' := 173) (z := (105 : Int32)) own_d1_171 rfl rfl
          obtain ⟨h35, K35, V35, R⟩ := R.castore (pc' := 174) V34p ⟨by decide, by decide⟩ 4 rfl (Nat.le_of_ble_eq_true rfl) (List.mem_of_getElem? (i := 0) rfl) own_d1_173 rfl
          have V35p : Arv Z h35 b30 k30 .char (9 : Int32) [(.int (112 : Int32)), (.int (97 : Int32)), (.int (114 : Int32)), (.int (116 : Int32)), (.int (105 : Int32)), (.int (0 : Int32)), (.int (0 : Int32)), (.int (0 : Int32)), (.int (0 : Int32))] (.int (0 : Int32)) := by
            have q := V35
            rw [(rfl : nar .char (105 : Int32) = (105 : Int32))] at q
            exact q
          replace R := R.dup (pc' := 175) own_d1_174 rfl rfl
          replace R := R.iconst (pc' := 176) (z := (5 : Int32)) own_d1_175 rfl rfl
          replace R := R.bipush (pc' := 178) (z := (116 : Int32)) own_d1_176 rfl rfl
          obtain ⟨h36, K36, V36, R⟩ := R.castore (pc' := 179) V35p ⟨by decide, by decide⟩ 5 rfl (Nat.le_of_ble_eq_true rfl) (List.mem_of_getElem? (i := 0) rfl) own_d1_178 rfl
          have V36p : Arv Z h36 b30 k30 .char (9 : Int32) [(.int (112 : Int32)), (.int (97 : Int32)), (.int (114 : Int32)), (.int (116 : Int32)), (.int (105 : Int32)), (.int (116 : Int32)), (.int (0 : Int32)), (.int (0 : Int32)), (.int (0 : Int32))] (.int (0 : Int32)) := by
            have q := V36
            rw [(rfl : nar .char (116 : Int32) = (116 : Int32))] at q
            exact q
          replace R := R.dup (pc' := 180) own_d1_179 rfl rfl
          replace R := R.bipush (pc' := 182) (z := (6 : Int32)) own_d1_180 rfl rfl
          replace R := R.bipush (pc' := 184) (z := (105 : Int32)) own_d1_182 rfl rfl
          obtain ⟨h37, K37, V37, R⟩ := R.castore (pc' := 185) V36p ⟨by decide, by decide⟩ 6 rfl (Nat.le_of_ble_eq_true rfl) (List.mem_of_getElem? (i := 0) rfl) own_d1_184 rfl
          have V37p : Arv Z h37 b30 k30 .char (9 : Int32) [(.int (112 : Int32)), (.int (97 : Int32)), (.int (114 : Int32)), (.int (116 : Int32)), (.int (105 : Int32)), (.int (116 : Int32)), (.int (105 : Int32)), (.int (0 : Int32)), (.int (0 : Int32))] (.int (0 : Int32)) := by
            have q := V37
            rw [(rfl : nar .char (105 : Int32) = (105 : Int32))] at q
            exact q
          replace R := R.dup (pc' := 186) own_d1_185 rfl rfl
          replace R := R.bipush (pc' := 188) (z := (7 : Int32)) own_d1_186 rfl rfl
          replace R := R.bipush (pc' := 190) (z := (111 : Int32)) own_d1_188 rfl rfl
          obtain ⟨h38, K38, V38, R⟩ := R.castore (pc' := 191) V37p ⟨by decide, by decide⟩ 7 rfl (Nat.le_of_ble_eq_true rfl) (List.mem_of_getElem? (i := 0) rfl) own_d1_190 rfl
          have V38p : Arv Z h38 b30 k30 .char (9 : Int32) [(.int (112 : Int32)), (.int (97 : Int32)), (.int (114 : Int32)), (.int (116 : Int32)), (.int (105 : Int32)), (.int (116 : Int32)), (.int (105 : Int32)), (.int (111 : Int32)), (.int (0 : Int32))] (.int (0 : Int32)) := by
            have q := V38
            rw [(rfl : nar .char (111 : Int32) = (111 : Int32))] at q
            exact q
          replace R := R.dup (pc' := 192) own_d1_191 rfl rfl
          replace R := R.bipush (pc' := 194) (z := (8 : Int32)) own_d1_192 rfl rfl
          replace R := R.bipush (pc' := 196) (z := (110 : Int32)) own_d1_194 rfl rfl
          obtain ⟨h39, K39, V39, R⟩ := R.castore (pc' := 197) V38p ⟨by decide, by decide⟩ 8 rfl (Nat.le_of_ble_eq_true rfl) (List.mem_of_getElem? (i := 0) rfl) own_d1_196 rfl
          have V39p : Arv Z h39 b30 k30 .char (9 : Int32) [(.int (112 : Int32)), (.int (97 : Int32)), (.int (114 : Int32)), (.int (116 : Int32)), (.int (105 : Int32)), (.int (116 : Int32)), (.int (105 : Int32)), (.int (111 : Int32)), (.int (110 : Int32))] (.int (0 : Int32)) := by
            have q := V39
            rw [(rfl : nar .char (110 : Int32) = (110 : Int32))] at q
            exact q
          have hK := (((((((((((Keep.refl h []).trans ((Keep.refl h []).ext E30) all0).trans K31 (allS (Or.inr (by rw [g30]; exact (Nat.le_refl _))) all0)).trans K32 (allS (Or.inr (by rw [g30]; exact (Nat.le_refl _))) all0)).trans K33 (allS (Or.inr (by rw [g30]; exact (Nat.le_refl _))) all0)).trans K34 (allS (Or.inr (by rw [g30]; exact (Nat.le_refl _))) all0)).trans K35 (allS (Or.inr (by rw [g30]; exact (Nat.le_refl _))) all0)).trans K36 (allS (Or.inr (by rw [g30]; exact (Nat.le_refl _))) all0)).trans K37 (allS (Or.inr (by rw [g30]; exact (Nat.le_refl _))) all0)).trans K38 (allS (Or.inr (by rw [g30]; exact (Nat.le_refl _))) all0)).trans K39 (allS (Or.inr (by rw [g30]; exact (Nat.le_refl _))) all0))
          exact R.retA (Ds' := b30 :: Ds) hret rfl rfl rfl own_d1_197 (by decide) (by decide) (fun _ q => q) ⟨b30, _, [(112 : Int32), (97 : Int32), (114 : Int32), (116 : Int32), (105 : Int32), (116 : Int32), (105 : Int32), (111 : Int32), (110 : Int32)], rfl, hK, V39p, by decide, by decide, by decide, rfl⟩
        · replace R := R.icmpY (pc' := 198) own_d1_142 (feq hc29).2 (by decide) rfl
          replace R := R.bipush (pc' := 200) (z := (11 : Int32)) own_d1_198 rfl rfl
          obtain ⟨h40, b40, k40, g40, E40, V40, R⟩ := R.newP (pc' := 202) (aty := .char) (cap := 11) (own_w5 hw) own_d1_200 (by decide) (by decide) (by decide) (by decide) (by decide) rfl
          have V40p : Arv Z h40 b40 k40 .char (11 : Int32) [(.int (0 : Int32)), (.int (0 : Int32)), (.int (0 : Int32)), (.int (0 : Int32)), (.int (0 : Int32)), (.int (0 : Int32)), (.int (0 : Int32)), (.int (0 : Int32)), (.int (0 : Int32)), (.int (0 : Int32)), (.int (0 : Int32))] (.int (0 : Int32)) := V40.pad (pad_rep [] (.int (0 : Int32)) 11)
          replace R := R.dup (pc' := 203) own_d1_202 rfl rfl
          replace R := R.iconst (pc' := 204) (z := (0 : Int32)) own_d1_203 rfl rfl
          replace R := R.bipush (pc' := 206) (z := (112 : Int32)) own_d1_204 rfl rfl
          obtain ⟨h41, K41, V41, R⟩ := R.castore (pc' := 207) V40p ⟨by decide, by decide⟩ 0 rfl (Nat.le_of_ble_eq_true rfl) (List.mem_of_getElem? (i := 0) rfl) own_d1_206 rfl
          have V41p : Arv Z h41 b40 k40 .char (11 : Int32) [(.int (112 : Int32)), (.int (0 : Int32)), (.int (0 : Int32)), (.int (0 : Int32)), (.int (0 : Int32)), (.int (0 : Int32)), (.int (0 : Int32)), (.int (0 : Int32)), (.int (0 : Int32)), (.int (0 : Int32)), (.int (0 : Int32))] (.int (0 : Int32)) := by
            have q := V41
            rw [(rfl : nar .char (112 : Int32) = (112 : Int32))] at q
            exact q
          replace R := R.dup (pc' := 208) own_d1_207 rfl rfl
          replace R := R.iconst (pc' := 209) (z := (1 : Int32)) own_d1_208 rfl rfl
          replace R := R.bipush (pc' := 211) (z := (97 : Int32)) own_d1_209 rfl rfl
          obtain ⟨h42, K42, V42, R⟩ := R.castore (pc' := 212) V41p ⟨by decide, by decide⟩ 1 rfl (Nat.le_of_ble_eq_true rfl) (List.mem_of_getElem? (i := 0) rfl) own_d1_211 rfl
          have V42p : Arv Z h42 b40 k40 .char (11 : Int32) [(.int (112 : Int32)), (.int (97 : Int32)), (.int (0 : Int32)), (.int (0 : Int32)), (.int (0 : Int32)), (.int (0 : Int32)), (.int (0 : Int32)), (.int (0 : Int32)), (.int (0 : Int32)), (.int (0 : Int32)), (.int (0 : Int32))] (.int (0 : Int32)) := by
            have q := V42
            rw [(rfl : nar .char (97 : Int32) = (97 : Int32))] at q
            exact q
          replace R := R.dup (pc' := 213) own_d1_212 rfl rfl
          replace R := R.iconst (pc' := 214) (z := (2 : Int32)) own_d1_213 rfl rfl
          replace R := R.bipush (pc' := 216) (z := (114 : Int32)) own_d1_214 rfl rfl
          obtain ⟨h43, K43, V43, R⟩ := R.castore (pc' := 217) V42p ⟨by decide, by decide⟩ 2 rfl (Nat.le_of_ble_eq_true rfl) (List.mem_of_getElem? (i := 0) rfl) own_d1_216 rfl
          have V43p : Arv Z h43 b40 k40 .char (11 : Int32) [(.int (112 : Int32)), (.int (97 : Int32)), (.int (114 : Int32)), (.int (0 : Int32)), (.int (0 : Int32)), (.int (0 : Int32)), (.int (0 : Int32)), (.int (0 : Int32)), (.int (0 : Int32)), (.int (0 : Int32)), (.int (0 : Int32))] (.int (0 : Int32)) := by
            have q := V43
            rw [(rfl : nar .char (114 : Int32) = (114 : Int32))] at q
            exact q
          replace R := R.dup (pc' := 218) own_d1_217 rfl rfl
          replace R := R.iconst (pc' := 219) (z := (3 : Int32)) own_d1_218 rfl rfl
          replace R := R.bipush (pc' := 221) (z := (116 : Int32)) own_d1_219 rfl rfl
          obtain ⟨h44, K44, V44, R⟩ := R.castore (pc' := 222) V43p ⟨by decide, by decide⟩ 3 rfl (Nat.le_of_ble_eq_true rfl) (List.mem_of_getElem? (i := 0) rfl) own_d1_221 rfl
          have V44p : Arv Z h44 b40 k40 .char (11 : Int32) [(.int (112 : Int32)), (.int (97 : Int32)), (.int (114 : Int32)), (.int (116 : Int32)), (.int (0 : Int32)), (.int (0 : Int32)), (.int (0 : Int32)), (.int (0 : Int32)), (.int (0 : Int32)), (.int (0 : Int32)), (.int (0 : Int32))] (.int (0 : Int32)) := by
            have q := V44
            rw [(rfl : nar .char (116 : Int32) = (116 : Int32))] at q
            exact q
          replace R := R.dup (pc' := 223) own_d1_222 rfl rfl
          replace R := R.iconst (pc' := 224) (z := (4 : Int32)) own_d1_223 rfl rfl
          replace R := R.bipush (pc' := 226) (z := (105 : Int32)) own_d1_224 rfl rfl
          obtain ⟨h45, K45, V45, R⟩ := R.castore (pc' := 227) V44p ⟨by decide, by decide⟩ 4 rfl (Nat.le_of_ble_eq_true rfl) (List.mem_of_getElem? (i := 0) rfl) own_d1_226 rfl
          have V45p : Arv Z h45 b40 k40 .char (11 : Int32) [(.int (112 : Int32)), (.int (97 : Int32)), (.int (114 : Int32)), (.int (116 : Int32)), (.int (105 : Int32)), (.int (0 : Int32)), (.int (0 : Int32)), (.int (0 : Int32)), (.int (0 : Int32)), (.int (0 : Int32)), (.int (0 : Int32))] (.int (0 : Int32)) := by
            have q := V45
            rw [(rfl : nar .char (105 : Int32) = (105 : Int32))] at q
            exact q
          replace R := R.dup (pc' := 228) own_d1_227 rfl rfl
          replace R := R.iconst (pc' := 229) (z := (5 : Int32)) own_d1_228 rfl rfl
          replace R := R.bipush (pc' := 231) (z := (116 : Int32)) own_d1_229 rfl rfl
          obtain ⟨h46, K46, V46, R⟩ := R.castore (pc' := 232) V45p ⟨by decide, by decide⟩ 5 rfl (Nat.le_of_ble_eq_true rfl) (List.mem_of_getElem? (i := 0) rfl) own_d1_231 rfl
          have V46p : Arv Z h46 b40 k40 .char (11 : Int32) [(.int (112 : Int32)), (.int (97 : Int32)), (.int (114 : Int32)), (.int (116 : Int32)), (.int (105 : Int32)), (.int (116 : Int32)), (.int (0 : Int32)), (.int (0 : Int32)), (.int (0 : Int32)), (.int (0 : Int32)), (.int (0 : Int32))] (.int (0 : Int32)) := by
            have q := V46
            rw [(rfl : nar .char (116 : Int32) = (116 : Int32))] at q
            exact q
          replace R := R.dup (pc' := 233) own_d1_232 rfl rfl
          replace R := R.bipush (pc' := 235) (z := (6 : Int32)) own_d1_233 rfl rfl
          replace R := R.bipush (pc' := 237) (z := (105 : Int32)) own_d1_235 rfl rfl
          obtain ⟨h47, K47, V47, R⟩ := R.castore (pc' := 238) V46p ⟨by decide, by decide⟩ 6 rfl (Nat.le_of_ble_eq_true rfl) (List.mem_of_getElem? (i := 0) rfl) own_d1_237 rfl
          have V47p : Arv Z h47 b40 k40 .char (11 : Int32) [(.int (112 : Int32)), (.int (97 : Int32)), (.int (114 : Int32)), (.int (116 : Int32)), (.int (105 : Int32)), (.int (116 : Int32)), (.int (105 : Int32)), (.int (0 : Int32)), (.int (0 : Int32)), (.int (0 : Int32)), (.int (0 : Int32))] (.int (0 : Int32)) := by
            have q := V47
            rw [(rfl : nar .char (105 : Int32) = (105 : Int32))] at q
            exact q
          replace R := R.dup (pc' := 239) own_d1_238 rfl rfl
          replace R := R.bipush (pc' := 241) (z := (7 : Int32)) own_d1_239 rfl rfl
          replace R := R.bipush (pc' := 243) (z := (111 : Int32)) own_d1_241 rfl rfl
          obtain ⟨h48, K48, V48, R⟩ := R.castore (pc' := 244) V47p ⟨by decide, by decide⟩ 7 rfl (Nat.le_of_ble_eq_true rfl) (List.mem_of_getElem? (i := 0) rfl) own_d1_243 rfl
          have V48p : Arv Z h48 b40 k40 .char (11 : Int32) [(.int (112 : Int32)), (.int (97 : Int32)), (.int (114 : Int32)), (.int (116 : Int32)), (.int (105 : Int32)), (.int (116 : Int32)), (.int (105 : Int32)), (.int (111 : Int32)), (.int (0 : Int32)), (.int (0 : Int32)), (.int (0 : Int32))] (.int (0 : Int32)) := by
            have q := V48
            rw [(rfl : nar .char (111 : Int32) = (111 : Int32))] at q
            exact q
          replace R := R.dup (pc' := 245) own_d1_244 rfl rfl
          replace R := R.bipush (pc' := 247) (z := (8 : Int32)) own_d1_245 rfl rfl
          replace R := R.bipush (pc' := 249) (z := (110 : Int32)) own_d1_247 rfl rfl
          obtain ⟨h49, K49, V49, R⟩ := R.castore (pc' := 250) V48p ⟨by decide, by decide⟩ 8 rfl (Nat.le_of_ble_eq_true rfl) (List.mem_of_getElem? (i := 0) rfl) own_d1_249 rfl
          have V49p : Arv Z h49 b40 k40 .char (11 : Int32) [(.int (112 : Int32)), (.int (97 : Int32)), (.int (114 : Int32)), (.int (116 : Int32)), (.int (105 : Int32)), (.int (116 : Int32)), (.int (105 : Int32)), (.int (111 : Int32)), (.int (110 : Int32)), (.int (0 : Int32)), (.int (0 : Int32))] (.int (0 : Int32)) := by
            have q := V49
            rw [(rfl : nar .char (110 : Int32) = (110 : Int32))] at q
            exact q
          replace R := R.dup (pc' := 251) own_d1_250 rfl rfl
          replace R := R.bipush (pc' := 253) (z := (9 : Int32)) own_d1_251 rfl rfl
          replace R := R.bipush (pc' := 255) (z := (115 : Int32)) own_d1_253 rfl rfl
          obtain ⟨h50, K50, V50, R⟩ := R.castore (pc' := 256) V49p ⟨by decide, by decide⟩ 9 rfl (Nat.le_of_ble_eq_true rfl) (List.mem_of_getElem? (i := 0) rfl) own_d1_255 rfl
          have V50p : Arv Z h50 b40 k40 .char (11 : Int32) [(.int (112 : Int32)), (.int (97 : Int32)), (.int (114 : Int32)), (.int (116 : Int32)), (.int (105 : Int32)), (.int (116 : Int32)), (.int (105 : Int32)), (.int (111 : Int32)), (.int (110 : Int32)), (.int (115 : Int32)), (.int (0 : Int32))] (.int (0 : Int32)) := by
            have q := V50
            rw [(rfl : nar .char (115 : Int32) = (115 : Int32))] at q
            exact q
          replace R := R.dup (pc' := 257) own_d1_256 rfl rfl
          replace R := R.bipush (pc' := 259) (z := (10 : Int32)) own_d1_257 rfl rfl
          replace R := R.bipush (pc' := 261) (z := (120 : Int32)) own_d1_259 rfl rfl
          obtain ⟨h51, K51, V51, R⟩ := R.castore (pc' := 262) V50p ⟨by decide, by decide⟩ 10 rfl (Nat.le_of_ble_eq_true rfl) (List.mem_of_getElem? (i := 0) rfl) own_d1_261 rfl
          have V51p : Arv Z h51 b40 k40 .char (11 : Int32) [(.int (112 : Int32)), (.int (97 : Int32)), (.int (114 : Int32)), (.int (116 : Int32)), (.int (105 : Int32)), (.int (116 : Int32)), (.int (105 : Int32)), (.int (111 : Int32)), (.int (110 : Int32)), (.int (115 : Int32)), (.int (120 : Int32))] (.int (0 : Int32)) := by
            have q := V51
            rw [(rfl : nar .char (120 : Int32) = (120 : Int32))] at q
            exact q
          have hK := (((((((((((((Keep.refl h []).trans ((Keep.refl h []).ext E40) all0).trans K41 (allS (Or.inr (by rw [g40]; exact (Nat.le_refl _))) all0)).trans K42 (allS (Or.inr (by rw [g40]; exact (Nat.le_refl _))) all0)).trans K43 (allS (Or.inr (by rw [g40]; exact (Nat.le_refl _))) all0)).trans K44 (allS (Or.inr (by rw [g40]; exact (Nat.le_refl _))) all0)).trans K45 (allS (Or.inr (by rw [g40]; exact (Nat.le_refl _))) all0)).trans K46 (allS (Or.inr (by rw [g40]; exact (Nat.le_refl _))) all0)).trans K47 (allS (Or.inr (by rw [g40]; exact (Nat.le_refl _))) all0)).trans K48 (allS (Or.inr (by rw [g40]; exact (Nat.le_refl _))) all0)).trans K49 (allS (Or.inr (by rw [g40]; exact (Nat.le_refl _))) all0)).trans K50 (allS (Or.inr (by rw [g40]; exact (Nat.le_refl _))) all0)).trans K51 (allS (Or.inr (by rw [g40]; exact (Nat.le_refl _))) all0))
          exact R.retA (Ds' := b40 :: Ds) hret rfl rfl rfl own_d1_262 (by decide) (by decide) (fun _ q => q) ⟨b40, _, [(112 : Int32), (97 : Int32), (114 : Int32), (116 : Int32), (105 : Int32), (116 : Int32), (105 : Int32), (111 : Int32), (110 : Int32), (115 : Int32), (120 : Int32)], rfl, hK, V51p, by decide, by decide, by decide, rfl⟩
    · replace R := R.icmpY (pc' := 263) own_d1_73 (feq hc16).2 (by decide) rfl
      replace R := R.iloadN (pc' := 264) (v := p1) own_d1_263 rfl rfl
      replace R := R.iconst (pc' := 265) (z := (1 : Int32)) own_d1_264 rfl rfl
      by_cases hc52 : p1 = (1 : Int32)
      · replace R := R.icmpN (pc' := 268) own_d1_265 (teq hc52).2 rfl
        replace R := R.bipush (pc' := 270) (z := (6 : Int32)) own_d1_268 rfl rfl
        obtain ⟨h53, b53, k53, g53, E53, V53, R⟩ := R.newP (pc' := 272) (aty := .char) (cap := 6) (own_w5 hw) own_d1_270 (by decide) (by decide) (by decide) (by decide) (by decide) rfl
        have V53p : Arv Z h53 b53 k53 .char (6 : Int32) [(.int (0 : Int32)), (.int (0 : Int32)), (.int (0 : Int32)), (.int (0 : Int32)), (.int (0 : Int32)), (.int (0 : Int32))] (.int (0 : Int32)) := V53.pad (pad_rep [] (.int (0 : Int32)) 6)
        replace R := R.dup (pc' := 273) own_d1_272 rfl rfl
        replace R := R.iconst (pc' := 274) (z := (0 : Int32)) own_d1_273 rfl rfl
        replace R := R.bipush (pc' := 276) (z := (98 : Int32)) own_d1_274 rfl rfl
        obtain ⟨h54, K54, V54, R⟩ := R.castore (pc' := 277) V53p ⟨by decide, by decide⟩ 0 rfl (Nat.le_of_ble_eq_true rfl) (List.mem_of_getElem? (i := 0) rfl) own_d1_276 rfl
        have V54p : Arv Z h54 b53 k53 .char (6 : Int32) [(.int (98 : Int32)), (.int (0 : Int32)), (.int (0 : Int32)), (.int (0 : Int32)), (.int (0 : Int32)), (.int (0 : Int32))] (.int (0 : Int32)) := by
          have q := V54
          rw [(rfl : nar .char (98 : Int32) = (98 : Int32))] at q
          exact q
        replace R := R.dup (pc' := 278) own_d1_277 rfl rfl
        replace R := R.iconst (pc' := 279) (z := (1 : Int32)) own_d1_278 rfl rfl
        replace R := R.bipush (pc' := 281) (z := (108 : Int32)) own_d1_279 rfl rfl
        obtain ⟨h55, K55, V55, R⟩ := R.castore (pc' := 282) V54p ⟨by decide, by decide⟩ 1 rfl (Nat.le_of_ble_eq_true rfl) (List.mem_of_getElem? (i := 0) rfl) own_d1_281 rfl
        have V55p : Arv Z h55 b53 k53 .char (6 : Int32) [(.int (98 : Int32)), (.int (108 : Int32)), (.int (0 : Int32)), (.int (0 : Int32)), (.int (0 : Int32)), (.int (0 : Int32))] (.int (0 : Int32)) := by
          have q := V55
          rw [(rfl : nar .char (108 : Int32) = (108 : Int32))] at q
          exact q
        replace R := R.dup (pc' := 283) own_d1_282 rfl rfl
        replace R := R.iconst (pc' := 284) (z := (2 : Int32)) own_d1_283 rfl rfl
        replace R := R.bipush (pc' := 286) (z := (111 : Int32)) own_d1_284 rfl rfl
        obtain ⟨h56, K56, V56, R⟩ := R.castore (pc' := 287) V55p ⟨by decide, by decide⟩ 2 rfl (Nat.le_of_ble_eq_true rfl) (List.mem_of_getElem? (i := 0) rfl) own_d1_286 rfl
        have V56p : Arv Z h56 b53 k53 .char (6 : Int32) [(.int (98 : Int32)), (.int (108 : Int32)), (.int (111 : Int32)), (.int (0 : Int32)), (.int (0 : Int32)), (.int (0 : Int32))] (.int (0 : Int32)) := by
          have q := V56
          rw [(rfl : nar .char (111 : Int32) = (111 : Int32))] at q
          exact q
        replace R := R.dup (pc' := 288) own_d1_287 rfl rfl
        replace R := R.iconst (pc' := 289) (z := (3 : Int32)) own_d1_288 rfl rfl
        replace R := R.bipush (pc' := 291) (z := (99 : Int32)) own_d1_289 rfl rfl
        obtain ⟨h57, K57, V57, R⟩ := R.castore (pc' := 292) V56p ⟨by decide, by decide⟩ 3 rfl (Nat.le_of_ble_eq_true rfl) (List.mem_of_getElem? (i := 0) rfl) own_d1_291 rfl
        have V57p : Arv Z h57 b53 k53 .char (6 : Int32) [(.int (98 : Int32)), (.int (108 : Int32)), (.int (111 : Int32)), (.int (99 : Int32)), (.int (0 : Int32)), (.int (0 : Int32))] (.int (0 : Int32)) := by
          have q := V57
          rw [(rfl : nar .char (99 : Int32) = (99 : Int32))] at q
          exact q
        replace R := R.dup (pc' := 293) own_d1_292 rfl rfl
        replace R := R.iconst (pc' := 294) (z := (4 : Int32)) own_d1_293 rfl rfl
        replace R := R.bipush (pc' := 296) (z := (107 : Int32)) own_d1_294 rfl rfl
        obtain ⟨h58, K58, V58, R⟩ := R.castore (pc' := 297) V57p ⟨by decide, by decide⟩ 4 rfl (Nat.le_of_ble_eq_true rfl) (List.mem_of_getElem? (i := 0) rfl) own_d1_296 rfl
        have V58p : Arv Z h58 b53 k53 .char (6 : Int32) [(.int (98 : Int32)), (.int (108 : Int32)), (.int (111 : Int32)), (.int (99 : Int32)), (.int (107 : Int32)), (.int (0 : Int32))] (.int (0 : Int32)) := by
          have q := V58
          rw [(rfl : nar .char (107 : Int32) = (107 : Int32))] at q
          exact q
        replace R := R.dup (pc' := 298) own_d1_297 rfl rfl
        replace R := R.iconst (pc' := 299) (z := (5 : Int32)) own_d1_298 rfl rfl
        replace R := R.bipush (pc' := 301) (z := (115 : Int32)) own_d1_299 rfl rfl
        obtain ⟨h59, K59, V59, R⟩ := R.castore (pc' := 302) V58p ⟨by decide, by decide⟩ 5 rfl (Nat.le_of_ble_eq_true rfl) (List.mem_of_getElem? (i := 0) rfl) own_d1_301 rfl
        have V59p : Arv Z h59 b53 k53 .char (6 : Int32) [(.int (98 : Int32)), (.int (108 : Int32)), (.int (111 : Int32)), (.int (99 : Int32)), (.int (107 : Int32)), (.int (115 : Int32))] (.int (0 : Int32)) := by
          have q := V59
          rw [(rfl : nar .char (115 : Int32) = (115 : Int32))] at q
          exact q
        have hK := ((((((((Keep.refl h []).trans ((Keep.refl h []).ext E53) all0).trans K54 (allS (Or.inr (by rw [g53]; exact (Nat.le_refl _))) all0)).trans K55 (allS (Or.inr (by rw [g53]; exact (Nat.le_refl _))) all0)).trans K56 (allS (Or.inr (by rw [g53]; exact (Nat.le_refl _))) all0)).trans K57 (allS (Or.inr (by rw [g53]; exact (Nat.le_refl _))) all0)).trans K58 (allS (Or.inr (by rw [g53]; exact (Nat.le_refl _))) all0)).trans K59 (allS (Or.inr (by rw [g53]; exact (Nat.le_refl _))) all0))
        exact R.retA (Ds' := b53 :: Ds) hret rfl rfl rfl own_d1_302 (by decide) (by decide) (fun _ q => q) ⟨b53, _, [(98 : Int32), (108 : Int32), (111 : Int32), (99 : Int32), (107 : Int32), (115 : Int32)], rfl, hK, V59p, by decide, by decide, by decide, rfl⟩
      · replace R := R.icmpY (pc' := 303) own_d1_265 (feq hc52).2 (by decide) rfl
        replace R := R.iloadN (pc' := 304) (v := p1) own_d1_303 rfl rfl
        replace R := R.iconst (pc' := 305) (z := (2 : Int32)) own_d1_304 rfl rfl
        by_cases hc60 : p1 = (2 : Int32)
        · replace R := R.icmpN (pc' := 308) own_d1_305 (teq hc60).2 rfl
          replace R := R.iconst (pc' := 309) (z := (5 : Int32)) own_d1_308 rfl rfl
          obtain ⟨h61, b61, k61, g61, E61, V61, R⟩ := R.newP (pc' := 311) (aty := .char) (cap := 5) (own_w5 hw) own_d1_309 (by decide) (by decide) (by decide) (by decide) (by decide) rfl
          have V61p : Arv Z h61 b61 k61 .char (5 : Int32) [(.int (0 : Int32)), (.int (0 : Int32)), (.int (0 : Int32)), (.int (0 : Int32)), (.int (0 : Int32))] (.int (0 : Int32)) := V61.pad (pad_rep [] (.int (0 : Int32)) 5)
          replace R := R.dup (pc' := 312) own_d1_311 rfl rfl
          replace R := R.iconst (pc' := 313) (z := (0 : Int32)) own_d1_312 rfl rfl
          replace R := R.bipush (pc' := 315) (z := (98 : Int32)) own_d1_313 rfl rfl
          obtain ⟨h62, K62, V62, R⟩ := R.castore (pc' := 316) V61p ⟨by decide, by decide⟩ 0 rfl (Nat.le_of_ble_eq_true rfl) (List.mem_of_getElem? (i := 0) rfl) own_d1_315 rfl
          have V62p : Arv Z h62 b61 k61 .char (5 : Int32) [(.int (98 : Int32)), (.int (0 : Int32)), (.int (0 : Int32)), (.int (0 : Int32)), (.int (0 : Int32))] (.int (0 : Int32)) := by
            have q := V62
            rw [(rfl : nar .char (98 : Int32) = (98 : Int32))] at q
            exact q
          replace R := R.dup (pc' := 317) own_d1_316 rfl rfl
          replace R := R.iconst (pc' := 318) (z := (1 : Int32)) own_d1_317 rfl rfl
          replace R := R.bipush (pc' := 320) (z := (108 : Int32)) own_d1_318 rfl rfl
          obtain ⟨h63, K63, V63, R⟩ := R.castore (pc' := 321) V62p ⟨by decide, by decide⟩ 1 rfl (Nat.le_of_ble_eq_true rfl) (List.mem_of_getElem? (i := 0) rfl) own_d1_320 rfl
          have V63p : Arv Z h63 b61 k61 .char (5 : Int32) [(.int (98 : Int32)), (.int (108 : Int32)), (.int (0 : Int32)), (.int (0 : Int32)), (.int (0 : Int32))] (.int (0 : Int32)) := by
            have q := V63
            rw [(rfl : nar .char (108 : Int32) = (108 : Int32))] at q
            exact q
          replace R := R.dup (pc' := 322) own_d1_321 rfl rfl
          replace R := R.iconst (pc' := 323) (z := (2 : Int32)) own_d1_322 rfl rfl
          replace R := R.bipush (pc' := 325) (z := (111 : Int32)) own_d1_323 rfl rfl
          obtain ⟨h64, K64, V64, R⟩ := R.castore (pc' := 326) V63p ⟨by decide, by decide⟩ 2 rfl (Nat.le_of_ble_eq_true rfl) (List.mem_of_getElem? (i := 0) rfl) own_d1_325 rfl
          have V64p : Arv Z h64 b61 k61 .char (5 : Int32) [(.int (98 : Int32)), (.int (108 : Int32)), (.int (111 : Int32)), (.int (0 : Int32)), (.int (0 : Int32))] (.int (0 : Int32)) := by
            have q := V64
            rw [(rfl : nar .char (111 : Int32) = (111 : Int32))] at q
            exact q
          replace R := R.dup (pc' := 327) own_d1_326 rfl rfl
          replace R := R.iconst (pc' := 328) (z := (3 : Int32)) own_d1_327 rfl rfl
          replace R := R.bipush (pc' := 330) (z := (99 : Int32)) own_d1_328 rfl rfl
          obtain ⟨h65, K65, V65, R⟩ := R.castore (pc' := 331) V64p ⟨by decide, by decide⟩ 3 rfl (Nat.le_of_ble_eq_true rfl) (List.mem_of_getElem? (i := 0) rfl) own_d1_330 rfl
          have V65p : Arv Z h65 b61 k61 .char (5 : Int32) [(.int (98 : Int32)), (.int (108 : Int32)), (.int (111 : Int32)), (.int (99 : Int32)), (.int (0 : Int32))] (.int (0 : Int32)) := by
            have q := V65
            rw [(rfl : nar .char (99 : Int32) = (99 : Int32))] at q
            exact q
          replace R := R.dup (pc' := 332) own_d1_331 rfl rfl
          replace R := R.iconst (pc' := 333) (z := (4 : Int32)) own_d1_332 rfl rfl
          replace R := R.bipush (pc' := 335) (z := (107 : Int32)) own_d1_333 rfl rfl
          obtain ⟨h66, K66, V66, R⟩ := R.castore (pc' := 336) V65p ⟨by decide, by decide⟩ 4 rfl (Nat.le_of_ble_eq_true rfl) (List.mem_of_getElem? (i := 0) rfl) own_d1_335 rfl
          have V66p : Arv Z h66 b61 k61 .char (5 : Int32) [(.int (98 : Int32)), (.int (108 : Int32)), (.int (111 : Int32)), (.int (99 : Int32)), (.int (107 : Int32))] (.int (0 : Int32)) := by
            have q := V66
            rw [(rfl : nar .char (107 : Int32) = (107 : Int32))] at q
            exact q
          have hK := (((((((Keep.refl h []).trans ((Keep.refl h []).ext E61) all0).trans K62 (allS (Or.inr (by rw [g61]; exact (Nat.le_refl _))) all0)).trans K63 (allS (Or.inr (by rw [g61]; exact (Nat.le_refl _))) all0)).trans K64 (allS (Or.inr (by rw [g61]; exact (Nat.le_refl _))) all0)).trans K65 (allS (Or.inr (by rw [g61]; exact (Nat.le_refl _))) all0)).trans K66 (allS (Or.inr (by rw [g61]; exact (Nat.le_refl _))) all0))
          exact R.retA (Ds' := b61 :: Ds) hret rfl rfl rfl own_d1_336 (by decide) (by decide) (fun _ q => q) ⟨b61, _, [(98 : Int32), (108 : Int32), (111 : Int32), (99 : Int32), (107 : Int32)], rfl, hK, V66p, by decide, by decide, by decide, rfl⟩
        · replace R := R.icmpY (pc' := 337) own_d1_305 (feq hc60).2 (by decide) rfl
          replace R := R.bipush (pc' := 339) (z := (7 : Int32)) own_d1_337 rfl rfl
          obtain ⟨h67, b67, k67, g67, E67, V67, R⟩ := R.newP (pc' := 341) (aty := .char) (cap := 7) (own_w5 hw) own_d1_339 (by decide) (by decide) (by decide) (by decide) (by decide) rfl
          have V67p : Arv Z h67 b67 k67 .char (7 : Int32) [(.int (0 : Int32)), (.int (0 : Int32)), (.int (0 : Int32)), (.int (0 : Int32)), (.int (0 : Int32)), (.int (0 : Int32)), (.int (0 : Int32))] (.int (0 : Int32)) := V67.pad (pad_rep [] (.int (0 : Int32)) 7)
          replace R := R.dup (pc' := 342) own_d1_341 rfl rfl
          replace R := R.iconst (pc' := 343) (z := (0 : Int32)) own_d1_342 rfl rfl
          replace R := R.bipush (pc' := 345) (z := (98 : Int32)) own_d1_343 rfl rfl
          obtain ⟨h68, K68, V68, R⟩ := R.castore (pc' := 346) V67p ⟨by decide, by decide⟩ 0 rfl (Nat.le_of_ble_eq_true rfl) (List.mem_of_getElem? (i := 0) rfl) own_d1_345 rfl
          have V68p : Arv Z h68 b67 k67 .char (7 : Int32) [(.int (98 : Int32)), (.int (0 : Int32)), (.int (0 : Int32)), (.int (0 : Int32)), (.int (0 : Int32)), (.int (0 : Int32)), (.int (0 : Int32))] (.int (0 : Int32)) := by
            have q := V68
            rw [(rfl : nar .char (98 : Int32) = (98 : Int32))] at q
            exact q
          replace R := R.dup (pc' := 347) own_d1_346 rfl rfl
          replace R := R.iconst (pc' := 348) (z := (1 : Int32)) own_d1_347 rfl rfl
          replace R := R.bipush (pc' := 350) (z := (108 : Int32)) own_d1_348 rfl rfl
          obtain ⟨h69, K69, V69, R⟩ := R.castore (pc' := 351) V68p ⟨by decide, by decide⟩ 1 rfl (Nat.le_of_ble_eq_true rfl) (List.mem_of_getElem? (i := 0) rfl) own_d1_350 rfl
          have V69p : Arv Z h69 b67 k67 .char (7 : Int32) [(.int (98 : Int32)), (.int (108 : Int32)), (.int (0 : Int32)), (.int (0 : Int32)), (.int (0 : Int32)), (.int (0 : Int32)), (.int (0 : Int32))] (.int (0 : Int32)) := by
            have q := V69
            rw [(rfl : nar .char (108 : Int32) = (108 : Int32))] at q
            exact q
          replace R := R.dup (pc' := 352) own_d1_351 rfl rfl
          replace R := R.iconst (pc' := 353) (z := (2 : Int32)) own_d1_352 rfl rfl
          replace R := R.bipush (pc' := 355) (z := (111 : Int32)) own_d1_353 rfl rfl
          obtain ⟨h70, K70, V70, R⟩ := R.castore (pc' := 356) V69p ⟨by decide, by decide⟩ 2 rfl (Nat.le_of_ble_eq_true rfl) (List.mem_of_getElem? (i := 0) rfl) own_d1_355 rfl
          have V70p : Arv Z h70 b67 k67 .char (7 : Int32) [(.int (98 : Int32)), (.int (108 : Int32)), (.int (111 : Int32)), (.int (0 : Int32)), (.int (0 : Int32)), (.int (0 : Int32)), (.int (0 : Int32))] (.int (0 : Int32)) := by
            have q := V70
            rw [(rfl : nar .char (111 : Int32) = (111 : Int32))] at q
            exact q
          replace R := R.dup (pc' := 357) own_d1_356 rfl rfl
          replace R := R.iconst (pc' := 358) (z := (3 : Int32)) own_d1_357 rfl rfl
          replace R := R.bipush (pc' := 360) (z := (99 : Int32)) own_d1_358 rfl rfl
          obtain ⟨h71, K71, V71, R⟩ := R.castore (pc' := 361) V70p ⟨by decide, by decide⟩ 3 rfl (Nat.le_of_ble_eq_true rfl) (List.mem_of_getElem? (i := 0) rfl) own_d1_360 rfl
          have V71p : Arv Z h71 b67 k67 .char (7 : Int32) [(.int (98 : Int32)), (.int (108 : Int32)), (.int (111 : Int32)), (.int (99 : Int32)), (.int (0 : Int32)), (.int (0 : Int32)), (.int (0 : Int32))] (.int (0 : Int32)) := by
            have q := V71
            rw [(rfl : nar .char (99 : Int32) = (99 : Int32))] at q
            exact q
          replace R := R.dup (pc' := 362) own_d1_361 rfl rfl
          replace R := R.iconst (pc' := 363) (z := (4 : Int32)) own_d1_362 rfl rfl
          replace R := R.bipush (pc' := 365) (z := (107 : Int32)) own_d1_363 rfl rfl
          obtain ⟨h72, K72, V72, R⟩ := R.castore (pc' := 366) V71p ⟨by decide, by decide⟩ 4 rfl (Nat.le_of_ble_eq_true rfl) (List.mem_of_getElem? (i := 0) rfl) own_d1_365 rfl
          have V72p : Arv Z h72 b67 k67 .char (7 : Int32) [(.int (98 : Int32)), (.int (108 : Int32)), (.int (111 : Int32)), (.int (99 : Int32)), (.int (107 : Int32)), (.int (0 : Int32)), (.int (0 : Int32))] (.int (0 : Int32)) := by
            have q := V72
            rw [(rfl : nar .char (107 : Int32) = (107 : Int32))] at q
            exact q
          replace R := R.dup (pc' := 367) own_d1_366 rfl rfl
          replace R := R.iconst (pc' := 368) (z := (5 : Int32)) own_d1_367 rfl rfl
          replace R := R.bipush (pc' := 370) (z := (115 : Int32)) own_d1_368 rfl rfl
          obtain ⟨h73, K73, V73, R⟩ := R.castore (pc' := 371) V72p ⟨by decide, by decide⟩ 5 rfl (Nat.le_of_ble_eq_true rfl) (List.mem_of_getElem? (i := 0) rfl) own_d1_370 rfl
          have V73p : Arv Z h73 b67 k67 .char (7 : Int32) [(.int (98 : Int32)), (.int (108 : Int32)), (.int (111 : Int32)), (.int (99 : Int32)), (.int (107 : Int32)), (.int (115 : Int32)), (.int (0 : Int32))] (.int (0 : Int32)) := by
            have q := V73
            rw [(rfl : nar .char (115 : Int32) = (115 : Int32))] at q
            exact q
          replace R := R.dup (pc' := 372) own_d1_371 rfl rfl
          replace R := R.bipush (pc' := 374) (z := (6 : Int32)) own_d1_372 rfl rfl
          replace R := R.bipush (pc' := 376) (z := (115 : Int32)) own_d1_374 rfl rfl
          obtain ⟨h74, K74, V74, R⟩ := R.castore (pc' := 377) V73p ⟨by decide, by decide⟩ 6 rfl (Nat.le_of_ble_eq_true rfl) (List.mem_of_getElem? (i := 0) rfl) own_d1_376 rfl
          have V74p : Arv Z h74 b67 k67 .char (7 : Int32) [(.int (98 : Int32)), (.int (108 : Int32)), (.int (111 : Int32)), (.int (99 : Int32)), (.int (107 : Int32)), (.int (115 : Int32)), (.int (115 : Int32))] (.int (0 : Int32)) := by
            have q := V74
            rw [(rfl : nar .char (115 : Int32) = (115 : Int32))] at q
            exact q
          have hK := (((((((((Keep.refl h []).trans ((Keep.refl h []).ext E67) all0).trans K68 (allS (Or.inr (by rw [g67]; exact (Nat.le_refl _))) all0)).trans K69 (allS (Or.inr (by rw [g67]; exact (Nat.le_refl _))) all0)).trans K70 (allS (Or.inr (by rw [g67]; exact (Nat.le_refl _))) all0)).trans K71 (allS (Or.inr (by rw [g67]; exact (Nat.le_refl _))) all0)).trans K72 (allS (Or.inr (by rw [g67]; exact (Nat.le_refl _))) all0)).trans K73 (allS (Or.inr (by rw [g67]; exact (Nat.le_refl _))) all0)).trans K74 (allS (Or.inr (by rw [g67]; exact (Nat.le_refl _))) all0))
          exact R.retA (Ds' := b67 :: Ds) hret rfl rfl rfl own_d1_377 (by decide) (by decide) (fun _ q => q) ⟨b67, _, [(98 : Int32), (108 : Int32), (111 : Int32), (99 : Int32), (107 : Int32), (115 : Int32), (115 : Int32)], rfl, hK, V74p, by decide, by decide, by decide, rfl⟩
set_option maxRecDepth 65536 in
set_option maxHeartbeats 40000000 in
theorem rm_law (l : Launch) (Z : State) (a0 : Array Value) (hw : ∀ d ∈ tables_1, d.before a0 Z = true) (i0 : Int32) (i1 : Int32) (i2 : Int32) (i3 : Int32) (h : Heap) (n0 : Nat) (Ds : List Addr) (own_cs : CompactOn Z) {a_MOD a_PARTITIONS a_BLOCKS a_MOD_word a_PARTITIONS_word a_BLOCKS_word a__VALUES : Addr} {k_V : ClassId} (S_MOD : Sta Z Z.heap "com/example/slicewise/slicewise/plan/Method" "MOD" "Lcom/example/slicewise/slicewise/plan/Method;" (.ref a_MOD)) (X_MOD : Exa Z Z.heap a_MOD "com/example/slicewise/slicewise/plan/Method") (S_PARTITIONS : Sta Z Z.heap "com/example/slicewise/slicewise/plan/Method" "PARTITIONS" "Lcom/example/slicewise/slicewise/plan/Method;" (.ref a_PARTITIONS)) (X_PARTITIONS : Exa Z Z.heap a_PARTITIONS "com/example/slicewise/slicewise/plan/Method") (S_BLOCKS : Sta Z Z.heap "com/example/slicewise/slicewise/plan/Method" "BLOCKS" "Lcom/example/slicewise/slicewise/plan/Method;" (.ref a_BLOCKS)) (X_BLOCKS : Exa Z Z.heap a_BLOCKS "com/example/slicewise/slicewise/plan/Method") (F_MOD_word : Fld Z Z.heap a_MOD "com/example/slicewise/slicewise/plan/Method" "word" "Ljava/lang/String;" (.ref a_MOD_word)) (T_MOD_word : IsStr Z Z.heap a_MOD_word [109, 111, 100]) (F_PARTITIONS_word : Fld Z Z.heap a_PARTITIONS "com/example/slicewise/slicewise/plan/Method" "word" "Ljava/lang/String;" (.ref a_PARTITIONS_word)) (T_PARTITIONS_word : IsStr Z Z.heap a_PARTITIONS_word [112, 97, 114, 116, 105, 116, 105, 111, 110, 115]) (F_BLOCKS_word : Fld Z Z.heap a_BLOCKS "com/example/slicewise/slicewise/plan/Method" "word" "Ljava/lang/String;" (.ref a_BLOCKS_word)) (T_BLOCKS_word : IsStr Z Z.heap a_BLOCKS_word [98, 108, 111, 99, 107, 115]) (S__VALUES : Sta Z Z.heap "com/example/slicewise/slicewise/plan/Method" "$VALUES" "[Lcom/example/slicewise/slicewise/plan/Method;" (.ref a__VALUES)) (X__VALUES : Exa Z Z.heap a__VALUES "[Lcom/example/slicewise/slicewise/plan/Method;") (V__VALUES : Arv Z Z.heap a__VALUES k_V (.object "com/example/slicewise/slicewise/plan/Method") (3 : Int32) [(.ref a_MOD), (.ref a_PARTITIONS), (.ref a_BLOCKS)] .null) {eO : Addr} (S_EMPTY : Sta Z Z.heap "java/util/Optional" "EMPTY" "Ljava/util/Optional;" (.ref eO)) (X_eO : Exa Z Z.heap eO "java/util/Optional") (F_eO : Fld Z Z.heap eO "java/util/Optional" "value" "Ljava/lang/Object;" .null) :
    Ctr l Z x code maxLocals ret tables_1 room_1 #[(.int i0), (.int i1), (.int i2), (.int i3)] h n0 Ds (fun v h' Ds' => v = some (.int 1)) := by
  have own_hws : ∀ d ∈ StrChars.Road.words, d.before a0 Z = true := fun d hd => hw d ((by decide +kernel : ∀ d ∈ StrChars.Road.words, d ∈ tables_1) d hd)
  have own_heq : ∀ d ∈ StrChars.Road.wordsEq, d.before a0 Z = true := fun d hd => hw d ((by decide +kernel : ∀ d ∈ StrChars.Road.wordsEq, d ∈ tables_1) d hd)
  refine ctr_of (Ls := #[.val (.int i0), .val (.int i1), .val (.int i2), .val (.int i3), .unset, .unset, .unset, .unset, .unset]) (plainFor_of_name own_pn4) (fun m => by first | (simp [entryFrame, mkF, argsToLocals, Value.category, maxLocals]; done) | rfl) ?_
  intro C hl hret hnm R
  subst hl
  have hK0 := (Keep.refl Z.heap []).ext R.old.2
  replace R := R.iloadN (pc' := 1) (v := i0) at_0 rfl rfl
  replace R := R.ldcI (pc' := 3) (own_w0 hw) at_1 rfl
  replace R := R.iand (pc' := 4) at_3 rfl
  replace R := R.iconst (pc' := 5) (z := (3 : Int32)) at_4 rfl rfl
  replace R := R.irem (pc' := 6) at_5 (by decide) rfl
  replace R := R.istore (pc' := 8) (l' := #[.val (.int i0), .val (.int i1), .val (.int i2), .val (.int i3), .val (.int ((i0 &&& (2147483647 : Int32)) % (3 : Int32))), .unset, .unset, .unset, .unset]) at_6 rfl rfl
  replace R := R.iloadN (pc' := 9) (v := i1) at_8 rfl rfl
  replace R := R.ldcI (pc' := 11) (own_w0 hw) at_9 rfl
  replace R := R.iand (pc' := 12) at_11 rfl
  replace R := R.iconst (pc' := 13) (z := (5 : Int32)) at_12 rfl rfl
  replace R := R.irem (pc' := 14) at_13 (by decide) rfl
  replace R := R.istore (pc' := 16) (l' := #[.val (.int i0), .val (.int i1), .val (.int i2), .val (.int i3), .val (.int ((i0 &&& (2147483647 : Int32)) % (3 : Int32))), .val (.int ((i1 &&& (2147483647 : Int32)) % (5 : Int32))), .unset, .unset, .unset]) at_14 rfl rfl
  replace R := R.iload (pc' := 18) (v := ((i1 &&& (2147483647 : Int32)) % (5 : Int32))) at_16 rfl rfl
  by_cases hc1 : ((i1 &&& (2147483647 : Int32)) % (5 : Int32)) = (0 : Int32)
  · replace R := R.ifN (pc' := 21) at_18 (teq hc1).2 rfl
    replace R := R.anull (pc' := 22) at_21 rfl
    replace R := R.astore (pc' := 24) (l' := #[.val (.int i0), .val (.int i1), .val (.int i2), .val (.int i3), .val (.int ((i0 &&& (2147483647 : Int32)) % (3 : Int32))), .val (.int ((i1 &&& (2147483647 : Int32)) % (5 : Int32))), .val .null, .unset, .unset]) at_22 rfl rfl rfl
    replace R := R.goto (pc' := 150) at_24 (by decide) rfl
    replace R := R.aload (pc' := 152) (v := .null) at_150 rfl rfl rfl
    obtain ⟨_, h2, _, ⟨rfl, K2, rfl⟩, R⟩ := R.callS (pc' := 155) (argsL := [.null]) (rest := []) (W := 0) (own_w35 hw) (own_w36 hw) (own_w3 hw) (own_w37 hw) (by decide) (rm_expected_null C.l Z a0 hw h n0 Ds own_cs S_MOD X_MOD S_PARTITIONS X_PARTITIONS S_BLOCKS X_BLOCKS F_MOD_word T_MOD_word F_PARTITIONS_word T_PARTITIONS_word F_BLOCKS_word T_BLOCKS_word S__VALUES X__VALUES V__VALUES S_EMPTY X_eO F_eO) rfl (lenOf own_pd6 rfl) rfl rfl at_152 (by decide) (by decide) (by decide) (by decide) rfl
    replace R := R.mono (ce' := 0) (sl' := 0) (by decide) (by decide)
    replace R := R.stk (S' := [.null]) rfl
    replace R := R.astore (pc' := 157) (l' := #[.val (.int i0), .val (.int i1), .val (.int i2), .val (.int i3), .val (.int ((i0 &&& (2147483647 : Int32)) % (3 : Int32))), .val (.int ((i1 &&& (2147483647 : Int32)) % (5 : Int32))), .val .null, .val .null, .unset]) at_155 rfl rfl rfl
    replace R := R.aload (pc' := 159) (v := .null) at_157 rfl rfl rfl
    obtain ⟨_, h3, _, ⟨rfl, K3, rfl⟩, R⟩ := R.callS (pc' := 162) (argsL := [.null]) (rest := []) (W := 0) (own_w53 hw) (own_w54 hw) (own_w55 hw) (own_w56 hw) (by decide) (rm_forWord_null C.l Z a0 hw h2 n0 Ds own_cs S_MOD X_MOD S_PARTITIONS X_PARTITIONS S_BLOCKS X_BLOCKS F_MOD_word T_MOD_word F_PARTITIONS_word T_PARTITIONS_word F_BLOCKS_word T_BLOCKS_word S__VALUES X__VALUES V__VALUES S_EMPTY X_eO F_eO) rfl (lenOf own_pd7 rfl) rfl rfl at_159 (by decide) (by decide) (by decide) (by decide) rfl
    replace R := R.mono (ce' := 1) (sl' := 3) (by decide) (by decide)
    replace R := R.stk (S' := [(.ref eO)]) rfl
    replace R := R.astore (pc' := 164) (l' := #[.val (.int i0), .val (.int i1), .val (.int i2), .val (.int i3), .val (.int ((i0 &&& (2147483647 : Int32)) % (3 : Int32))), .val (.int ((i1 &&& (2147483647 : Int32)) % (5 : Int32))), .val .null, .val .null, .val (.ref eO)]) at_162 rfl rfl rfl
    replace R := R.aload (pc' := 166) (v := (.ref eO)) at_164 rfl rfl rfl
    replace R := R.anull (pc' := 167) at_166 rfl
    have K4 := (Keep.refl Z.heap []).ext R.old.2
    have F5 := F_eO.keep K4 nin0
    have K6 := (Keep.refl Z.heap []).ext R.old.2
    have F7 := X_eO.keep K6
    obtain ⟨_, _, _, ⟨rfl, rfl, rfl⟩, R⟩ := R.callV (pc' := 170) (y := (⟨"java/util/Optional", "orElse", "(Ljava/lang/Object;)Ljava/lang/Object;"⟩ : MethodName)) (z := (⟨"java/util/Optional", "orElse", "(Ljava/lang/Object;)Ljava/lang/Object;"⟩ : MethodName)) (argsL := [.null]) (rest := []) (W := 0) (own_w83 hw) (own_w84 hw) (fun s' hZ' => notFace_of_selects (args := #[]) (mvT hZ' (own_w86 hw))) (own_w86 hw) (own_w85 hw) (own_w80 hw) (own_w87 hw) (by decide) F7 (rm_optorElse_none C.l Z a0 hw eO  h3 n0 Ds F5) rfl (lenOf own_pd0 rfl) rfl rfl at_167 (by decide) (by decide) (by decide) (by decide) rfl
    replace R := R.mono (ce' := 1) (sl' := 3) (by decide) (by decide)
    replace R := R.stk (S' := [.null]) rfl
    replace R := R.aload (pc' := 172) (v := .null) at_170 rfl rfl rfl
    replace R := R.acmp (pc' := 175) (same := true) at_172 rfl rfl (decide_eq_true rfl) (by decide) (by decide)
    replace R := R.iconst (pc' := 176) (z := (1 : Int32)) at_175 rfl rfl
    replace R := R.goto (pc' := 180) at_176 (by decide) rfl
    exact R.retN (Ds' := []) hret (by simp) (show nar .boolean 1 = 1 from rfl) at_180 (by decide) (by decide) (fun _ q => nomatch q) rfl
  · replace R := R.ifY (pc' := 27) at_18 (feq hc1).2 (by decide) rfl
    replace R := R.iload (pc' := 29) (v := ((i1 &&& (2147483647 : Int32)) % (5 : Int32))) at_27 rfl rfl
    replace R := R.iconst (pc' := 30) (z := (4 : Int32)) at_29 rfl rfl
    by_cases hc8 : ((i1 &&& (2147483647 : Int32)) % (5 : Int32)) = (4 : Int32)
    · replace R := R.icmpN (pc' := 33) at_30 (teq hc8).2 rfl
      replace R := R.iconst (pc' := 34) (z := (3 : Int32)) at_33 rfl rfl
      obtain ⟨h9, b9, k9, g9, E9, V9, R⟩ := R.newP (pc' := 36) (aty := .char) (cap := 3) (own_w5 hw) at_34 (by decide) (by decide) (by decide) (by decide) (by decide) rfl
      have V9p : Arv Z h9 b9 k9 .char (3 : Int32) [(.int (0 : Int32)), (.int (0 : Int32)), (.int (0 : Int32))] (.int (0 : Int32)) := V9.pad (pad_rep [] (.int (0 : Int32)) 3)
      replace R := R.astore (pc' := 38) (l' := #[.val (.int i0), .val (.int i1), .val (.int i2), .val (.int i3), .val (.int ((i0 &&& (2147483647 : Int32)) % (3 : Int32))), .val (.int ((i1 &&& (2147483647 : Int32)) % (5 : Int32))), .unset, .val (.ref b9), .unset]) at_36 rfl rfl rfl
      replace R := R.aload (pc' := 40) (v := (.ref b9)) at_38 rfl rfl rfl
      replace R := R.iconst (pc' := 41) (z := (0 : Int32)) at_40 rfl rfl
      replace R := R.iloadN (pc' := 42) (v := i3) at_41 rfl rfl
      replace R := R.sipush (pc' := 45) (z := (255 : Int32)) at_42 rfl rfl
      replace R := R.iand (pc' := 46) at_45 rfl
      replace R := R.i2c (pc' := 47) at_46 rfl
      obtain ⟨h10, K10, V10, R⟩ := R.castore (pc' := 48) V9p ⟨by decide, by decide⟩ 0 rfl (Nat.le_of_ble_eq_true rfl) (List.mem_of_getElem? (i := 0) rfl) at_47 rfl
      have V10p : Arv Z h10 b9 k9 .char (3 : Int32) [(.int (i3 &&& (255 : Int32)).toUInt32.toUInt16.toUInt32.toInt32), (.int (0 : Int32)), (.int (0 : Int32))] (.int (0 : Int32)) := by
        have q := V10
        rw [nar_i2c (i3 &&& (255 : Int32))] at q
        exact q
      replace R := R.aload (pc' := 50) (v := (.ref b9)) at_48 rfl rfl rfl
      replace R := R.iconst (pc' := 51) (z := (1 : Int32)) at_50 rfl rfl
      replace R := R.iloadN (pc' := 52) (v := i3) at_51 rfl rfl
      replace R := R.bipush (pc' := 54) (z := (8 : Int32)) at_52 rfl rfl
      replace R := R.iushr (pc' := 55) at_54 rfl
      replace R := R.sipush (pc' := 58) (z := (255 : Int32)) at_55 rfl rfl
      replace R := R.iand (pc' := 59) at_58 rfl
      replace R := R.i2c (pc' := 60) at_59 rfl
      obtain ⟨h11, K11, V11, R⟩ := R.castore (pc' := 61) V10p ⟨by decide, by decide⟩ 1 rfl (Nat.le_of_ble_eq_true rfl) (List.mem_of_getElem? (i := 0) rfl) at_60 rfl
      have V11p : Arv Z h11 b9 k9 .char (3 : Int32) [(.int (i3 &&& (255 : Int32)).toUInt32.toUInt16.toUInt32.toInt32), (.int (((i3.toUInt32 >>> ((8 : Int32) &&& 31).toUInt32).toInt32) &&& (255 : Int32)).toUInt32.toUInt16.toUInt32.toInt32), (.int (0 : Int32))] (.int (0 : Int32)) := by
        have q := V11
        rw [nar_i2c (((i3.toUInt32 >>> ((8 : Int32) &&& 31).toUInt32).toInt32) &&& (255 : Int32))] at q
        exact q
      replace R := R.aload (pc' := 63) (v := (.ref b9)) at_61 rfl rfl rfl
      replace R := R.iconst (pc' := 64) (z := (2 : Int32)) at_63 rfl rfl
      replace R := R.iloadN (pc' := 65) (v := i3) at_64 rfl rfl
      replace R := R.bipush (pc' := 67) (z := (16 : Int32)) at_65 rfl rfl
      replace R := R.iushr (pc' := 68) at_67 rfl
      replace R := R.sipush (pc' := 71) (z := (255 : Int32)) at_68 rfl rfl
      replace R := R.iand (pc' := 72) at_71 rfl
      replace R := R.i2c (pc' := 73) at_72 rfl
      obtain ⟨h12, K12, V12, R⟩ := R.castore (pc' := 74) V11p ⟨by decide, by decide⟩ 2 rfl (Nat.le_of_ble_eq_true rfl) (List.mem_of_getElem? (i := 0) rfl) at_73 rfl
      have V12p : Arv Z h12 b9 k9 .char (3 : Int32) [(.int (i3 &&& (255 : Int32)).toUInt32.toUInt16.toUInt32.toInt32), (.int (((i3.toUInt32 >>> ((8 : Int32) &&& 31).toUInt32).toInt32) &&& (255 : Int32)).toUInt32.toUInt16.toUInt32.toInt32), (.int (((i3.toUInt32 >>> ((16 : Int32) &&& 31).toUInt32).toInt32) &&& (255 : Int32)).toUInt32.toUInt16.toUInt32.toInt32)] (.int (0 : Int32)) := by
        have q := V12
        rw [nar_i2c (((i3.toUInt32 >>> ((16 : Int32) &&& 31).toUInt32).toInt32) &&& (255 : Int32))] at q
        exact q
      replace R := R.iloadN (pc' := 75) (v := i3) at_74 rfl rfl
      replace R := R.bipush (pc' := 77) (z := (24 : Int32)) at_75 rfl rfl
      replace R := R.iushr (pc' := 78) at_77 rfl
      replace R := R.iconst (pc' := 79) (z := (1 : Int32)) at_78 rfl rfl
      replace R := R.iand (pc' := 80) at_79 rfl
      by_cases hc13 : (((i3.toUInt32 >>> ((24 : Int32) &&& 31).toUInt32).toInt32) &&& (1 : Int32)) = (0 : Int32)
      · replace R := R.ifY (pc' := 90) at_80 (teq hc13).1 (by decide) rfl
        obtain ⟨h14, b14, g14, E14, X14, D14, R⟩ := R.newO (pc' := 93) (own_w6 hw) (own_w7 hw) (own_w8 hw) at_90 (by decide) (by decide) rfl
        have F14_coder : Fld Z h14 b14 "java/lang/String" "coder" "B" (.int (0 : Int32)) := D14 (Or.inr (own_w32 hw)) (ty := .byte) (by decide)
        have F14_value : Fld Z h14 b14 "java/lang/String" "value" "[B" .null := D14 (Or.inr (own_w34 hw)) (ty := (.array .byte)) (by decide)
        replace R := R.dup (pc' := 94) at_93 rfl rfl
        replace R := R.aload (pc' := 96) (v := (.ref b9)) at_94 rfl rfl rfl
        have K15 := ((Keep.refl h12 []).trans ((Keep.refl h12 []).ext E14) all0)
        have F16 := V12p.keep K15 nin0
        obtain ⟨h17, K17, S17, R⟩ := R.newStr (pc' := 99) (W := 1) (cs := [(i3 &&& (255 : Int32)).toUInt32.toUInt16.toUInt32.toInt32, (((i3.toUInt32 >>> ((8 : Int32) &&& 31).toUInt32).toInt32) &&& (255 : Int32)).toUInt32.toUInt16.toUInt32.toInt32, (((i3.toUInt32 >>> ((16 : Int32) &&& 31).toUInt32).toInt32) &&& (255 : Int32)).toUInt32.toUInt16.toUInt32.toInt32]) own_hws (own_w7 hw) (own_w9 hw) (own_w10 hw) own_cs X14 F14_value F14_coder F16 rfl (Nat.le_of_ble_eq_true rfl) (Nat.le_of_ble_eq_true rfl) (chS (c255 i3) (chS (c255 ((i3.toUInt32 >>> ((8 : Int32) &&& 31).toUInt32).toInt32)) (chS (c255 ((i3.toUInt32 >>> ((16 : Int32) &&& 31).toUInt32).toInt32)) ch0))) (List.mem_of_getElem? (i := 0) rfl) rfl rfl at_96 (by decide) (by decide) (by decide) (Nat.le_of_ble_eq_true rfl) rfl
        replace R := R.mono (ce' := 3) (sl' := 10) (Nat.le_of_ble_eq_true rfl) (Nat.le_of_ble_eq_true rfl)
        replace R := R.astore (pc' := 101) (l' := #[.val (.int i0), .val (.int i1), .val (.int i2), .val (.int i3), .val (.int ((i0 &&& (2147483647 : Int32)) % (3 : Int32))), .val (.int ((i1 &&& (2147483647 : Int32)) % (5 : Int32))), .val (.ref b14), .val (.ref b9), .unset]) at_99 rfl rfl rfl
        replace R := R.goto (pc' := 150) at_101 (by decide) rfl
        obtain ⟨csx, ecsx⟩ : ∃ z : List Int32, z = [(i3 &&& (255 : Int32)).toUInt32.toUInt16.toUInt32.toInt32, (((i3.toUInt32 >>> ((8 : Int32) &&& 31).toUInt32).toInt32) &&& (255 : Int32)).toUInt32.toUInt16.toUInt32.toInt32, (((i3.toUInt32 >>> ((16 : Int32) &&& 31).toUInt32).toInt32) &&& (255 : Int32)).toUInt32.toUInt16.toUInt32.toInt32] := ⟨_, rfl⟩
        have Sx := S17
        rw [← ecsx] at Sx
        clear ecsx
        by_cases q0 : csx = [109, 111, 100]
        · subst q0
          replace R := R.aload (pc' := 152) (v := (.ref b14)) at_150 rfl rfl rfl
          obtain ⟨_, h18, _, ⟨rfl, K18, rfl⟩, R⟩ := R.callS (pc' := 155) (argsL := [(.ref b14)]) (rest := []) (W := 0) (own_w35 hw) (own_w36 hw) (own_w3 hw) (own_w37 hw) (by decide) (rm_expected_0 C.l Z a0 hw b14 h17 n0 (b14 :: b9 :: Ds) own_cs S_MOD X_MOD S_PARTITIONS X_PARTITIONS S_BLOCKS X_BLOCKS F_MOD_word T_MOD_word F_PARTITIONS_word T_PARTITIONS_word F_BLOCKS_word T_BLOCKS_word S__VALUES X__VALUES V__VALUES S_EMPTY X_eO F_eO Sx) rfl (lenOf own_pd6 rfl) rfl rfl at_152 (by decide) (by decide) (by decide) (by decide) rfl
          replace R := R.mono (ce' := 5) (sl' := 26) (by decide) (by decide)
          replace R := R.stk (S' := [(.ref a_MOD)]) rfl
          replace R := R.astore (pc' := 157) (l' := #[.val (.int i0), .val (.int i1), .val (.int i2), .val (.int i3), .val (.int ((i0 &&& (2147483647 : Int32)) % (3 : Int32))), .val (.int ((i1 &&& (2147483647 : Int32)) % (5 : Int32))), .val (.ref b14), .val (.ref a_MOD), .unset]) at_155 rfl rfl rfl
          replace R := R.aload (pc' := 159) (v := (.ref b14)) at_157 rfl rfl rfl
          have K20 := ((Keep.refl h17 []).trans K18 all0)
          have F21 := Sx.keep K20 nin0 all0
          obtain ⟨_, h19, _, ⟨r19, rfl, K19, X19, F19, rfl⟩, R⟩ := R.callS (pc' := 162) (argsL := [(.ref b14)]) (rest := []) (W := 0) (own_w53 hw) (own_w54 hw) (own_w55 hw) (own_w56 hw) (by decide) (rm_forWord_0 C.l Z a0 hw b14 h18 n0 (b14 :: b9 :: Ds) own_cs S_MOD X_MOD S_PARTITIONS X_PARTITIONS S_BLOCKS X_BLOCKS F_MOD_word T_MOD_word F_PARTITIONS_word T_PARTITIONS_word F_BLOCKS_word T_BLOCKS_word S__VALUES X__VALUES V__VALUES S_EMPTY X_eO F_eO F21) rfl (lenOf own_pd7 rfl) rfl rfl at_159 (by decide) (by decide) (by decide) (by decide) rfl
          replace R := R.mono (ce' := 7) (sl' := 30) (by decide) (by decide)
          replace R := R.stk (S' := [(.ref r19)]) rfl
          replace R := R.astore (pc' := 164) (l' := #[.val (.int i0), .val (.int i1), .val (.int i2), .val (.int i3), .val (.int ((i0 &&& (2147483647 : Int32)) % (3 : Int32))), .val (.int ((i1 &&& (2147483647 : Int32)) % (5 : Int32))), .val (.ref b14), .val (.ref a_MOD), .val (.ref r19)]) at_162 rfl rfl rfl
          replace R := R.aload (pc' := 166) (v := (.ref r19)) at_164 rfl rfl rfl
          replace R := R.anull (pc' := 167) at_166 rfl
          obtain ⟨_, _, _, ⟨rfl, rfl, rfl⟩, R⟩ := R.callV (pc' := 170) (y := (⟨"java/util/Optional", "orElse", "(Ljava/lang/Object;)Ljava/lang/Object;"⟩ : MethodName)) (z := (⟨"java/util/Optional", "orElse", "(Ljava/lang/Object;)Ljava/lang/Object;"⟩ : MethodName)) (argsL := [.null]) (rest := []) (W := 0) (own_w83 hw) (own_w84 hw) (fun s' hZ' => notFace_of_selects (args := #[]) (mvT hZ' (own_w86 hw))) (own_w86 hw) (own_w85 hw) (own_w80 hw) (own_w87 hw) (by decide) X19 (rm_optorElse_full C.l Z a0 hw r19 a_MOD h19 n0 (b14 :: b9 :: Ds) F19) rfl (lenOf own_pd0 rfl) rfl rfl at_167 (by decide) (by decide) (by decide) (by decide) rfl
          replace R := R.mono (ce' := 7) (sl' := 30) (by decide) (by decide)
          replace R := R.stk (S' := [(.ref a_MOD)]) rfl
          replace R := R.aload (pc' := 172) (v := (.ref a_MOD)) at_170 rfl rfl rfl
          replace R := R.acmp (pc' := 175) (same := true) at_172 rfl rfl (decide_eq_true rfl) (by decide) (by decide)
          replace R := R.iconst (pc' := 176) (z := (1 : Int32)) at_175 rfl rfl
          replace R := R.goto (pc' := 180) at_176 (by decide) rfl
          exact R.retN (Ds' := []) hret (by simp) (show nar .boolean 1 = 1 from rfl) at_180 (by decide) (by decide) (fun _ q => nomatch q) rfl
        · by_cases q1 : csx = [112, 97, 114, 116, 105, 116, 105, 111, 110, 115]
          · subst q1
            replace R := R.aload (pc' := 152) (v := (.ref b14)) at_150 rfl rfl rfl
            obtain ⟨_, h22, _, ⟨rfl, K22, rfl⟩, R⟩ := R.callS (pc' := 155) (argsL := [(.ref b14)]) (rest := []) (W := 0) (own_w35 hw) (own_w36 hw) (own_w3 hw) (own_w37 hw) (by decide) (rm_expected_1 C.l Z a0 hw b14 h17 n0 (b14 :: b9 :: Ds) own_cs S_MOD X_MOD S_PARTITIONS X_PARTITIONS S_BLOCKS X_BLOCKS F_MOD_word T_MOD_word F_PARTITIONS_word T_PARTITIONS_word F_BLOCKS_word T_BLOCKS_word S__VALUES X__VALUES V__VALUES S_EMPTY X_eO F_eO Sx) rfl (lenOf own_pd6 rfl) rfl rfl at_152 (by decide) (by decide) (by decide) (by decide) rfl
            replace R := R.mono (ce' := 7) (sl' := 70) (by decide) (by decide)
            replace R := R.stk (S' := [(.ref a_PARTITIONS)]) rfl
            replace R := R.astore (pc' := 157) (l' := #[.val (.int i0), .val (.int i1), .val (.int i2), .val (.int i3), .val (.int ((i0 &&& (2147483647 : Int32)) % (3 : Int32))), .val (.int ((i1 &&& (2147483647 : Int32)) % (5 : Int32))), .val (.ref b14), .val (.ref a_PARTITIONS), .unset]) at_155 rfl rfl rfl
            replace R := R.aload (pc' := 159) (v := (.ref b14)) at_157 rfl rfl rfl
            have K24 := ((Keep.refl h17 []).trans K22 all0)
            have F25 := Sx.keep K24 nin0 all0
            obtain ⟨_, h23, _, ⟨r23, rfl, K23, X23, F23, rfl⟩, R⟩ := R.callS (pc' := 162) (argsL := [(.ref b14)]) (rest := []) (W := 0) (own_w53 hw) (own_w54 hw) (own_w55 hw) (own_w56 hw) (by decide) (rm_forWord_1 C.l Z a0 hw b14 h22 n0 (b14 :: b9 :: Ds) own_cs S_MOD X_MOD S_PARTITIONS X_PARTITIONS S_BLOCKS X_BLOCKS F_MOD_word T_MOD_word F_PARTITIONS_word T_PARTITIONS_word F_BLOCKS_word T_BLOCKS_word S__VALUES X__VALUES V__VALUES S_EMPTY X_eO F_eO F25) rfl (lenOf own_pd7 rfl) rfl rfl at_159 (by decide) (by decide) (by decide) (by decide) rfl
            replace R := R.mono (ce' := 9) (sl' := 74) (by decide) (by decide)
            replace R := R.stk (S' := [(.ref r23)]) rfl
            replace R := R.astore (pc' := 164) (l' := #[.val (.int i0), .val (.int i1), .val (.int i2), .val (.int i3), .val (.int ((i0 &&& (2147483647 : Int32)) % (3 : Int32))), .val (.int ((i1 &&& (2147483647 : Int32)) % (5 : Int32))), .val (.ref b14), .val (.ref a_PARTITIONS), .val (.ref r23)]) at_162 rfl rfl rfl
            replace R := R.aload (pc' := 166) (v := (.ref r23)) at_164 rfl rfl rfl
            replace R := R.anull (pc' := 167) at_166 rfl
            obtain ⟨_, _, _, ⟨rfl, rfl, rfl⟩, R⟩ := R.callV (pc' := 170) (y := (⟨"java/util/Optional", "orElse", "(Ljava/lang/Object;)Ljava/lang/Object;"⟩ : MethodName)) (z := (⟨"java/util/Optional", "orElse", "(Ljava/lang/Object;)Ljava/lang/Object;"⟩ : MethodName)) (argsL := [.null]) (rest := []) (W := 0) (own_w83 hw) (own_w84 hw) (fun s' hZ' => notFace_of_selects (args := #[]) (mvT hZ' (own_w86 hw))) (own_w86 hw) (own_w85 hw) (own_w80 hw) (own_w87 hw) (by decide) X23 (rm_optorElse_full C.l Z a0 hw r23 a_PARTITIONS h23 n0 (b14 :: b9 :: Ds) F23) rfl (lenOf own_pd0 rfl) rfl rfl at_167 (by decide) (by decide) (by decide) (by decide) rfl
            replace R := R.mono (ce' := 9) (sl' := 74) (by decide) (by decide)
            replace R := R.stk (S' := [(.ref a_PARTITIONS)]) rfl
            replace R := R.aload (pc' := 172) (v := (.ref a_PARTITIONS)) at_170 rfl rfl rfl
            replace R := R.acmp (pc' := 175) (same := true) at_172 rfl rfl (decide_eq_true rfl) (by decide) (by decide)
            replace R := R.iconst (pc' := 176) (z := (1 : Int32)) at_175 rfl rfl
            replace R := R.goto (pc' := 180) at_176 (by decide) rfl
            exact R.retN (Ds' := []) hret (by simp) (show nar .boolean 1 = 1 from rfl) at_180 (by decide) (by decide) (fun _ q => nomatch q) rfl
          · by_cases q2 : csx = [98, 108, 111, 99, 107, 115]
            · subst q2
              replace R := R.aload (pc' := 152) (v := (.ref b14)) at_150 rfl rfl rfl
              obtain ⟨_, h26, _, ⟨rfl, K26, rfl⟩, R⟩ := R.callS (pc' := 155) (argsL := [(.ref b14)]) (rest := []) (W := 0) (own_w35 hw) (own_w36 hw) (own_w3 hw) (own_w37 hw) (by decide) (rm_expected_2 C.l Z a0 hw b14 h17 n0 (b14 :: b9 :: Ds) own_cs S_MOD X_MOD S_PARTITIONS X_PARTITIONS S_BLOCKS X_BLOCKS F_MOD_word T_MOD_word F_PARTITIONS_word T_PARTITIONS_word F_BLOCKS_word T_BLOCKS_word S__VALUES X__VALUES V__VALUES S_EMPTY X_eO F_eO Sx) rfl (lenOf own_pd6 rfl) rfl rfl at_152 (by decide) (by decide) (by decide) (by decide) rfl
              replace R := R.mono (ce' := 9) (sl' := 98) (by decide) (by decide)
              replace R := R.stk (S' := [(.ref a_BLOCKS)]) rfl
              replace R := R.astore (pc' := 157) (l' := #[.val (.int i0), .val (.int i1), .val (.int i2), .val (.int i3), .val (.int ((i0 &&& (2147483647 : Int32)) % (3 : Int32))), .val (.int ((i1 &&& (2147483647 : Int32)) % (5 : Int32))), .val (.ref b14), .val (.ref a_BLOCKS), .unset]) at_155 rfl rfl rfl
              replace R := R.aload (pc' := 159) (v := (.ref b14)) at_157 rfl rfl rfl
              have K28 := ((Keep.refl h17 []).trans K26 all0)
              have F29 := Sx.keep K28 nin0 all0
              obtain ⟨_, h27, _, ⟨r27, rfl, K27, X27, F27, rfl⟩, R⟩ := R.callS (pc' := 162) (argsL := [(.ref b14)]) (rest := []) (W := 0) (own_w53 hw) (own_w54 hw) (own_w55 hw) (own_w56 hw) (by decide) (rm_forWord_2 C.l Z a0 hw b14 h26 n0 (b14 :: b9 :: Ds) own_cs S_MOD X_MOD S_PARTITIONS X_PARTITIONS S_BLOCKS X_BLOCKS F_MOD_word T_MOD_word F_PARTITIONS_word T_PARTITIONS_word F_BLOCKS_word T_BLOCKS_word S__VALUES X__VALUES V__VALUES S_EMPTY X_eO F_eO F29) rfl (lenOf own_pd7 rfl) rfl rfl at_159 (by decide) (by decide) (by decide) (by decide) rfl
              replace R := R.mono (ce' := 11) (sl' := 102) (by decide) (by decide)
              replace R := R.stk (S' := [(.ref r27)]) rfl
              replace R := R.astore (pc' := 164) (l' := #[.val (.int i0), .val (.int i1), .val (.int i2), .val (.int i3), .val (.int ((i0 &&& (2147483647 : Int32)) % (3 : Int32))), .val (.int ((i1 &&& (2147483647 : Int32)) % (5 : Int32))), .val (.ref b14), .val (.ref a_BLOCKS), .val (.ref r27)]) at_162 rfl rfl rfl
              replace R := R.aload (pc' := 166) (v := (.ref r27)) at_164 rfl rfl rfl
              replace R := R.anull (pc' := 167) at_166 rfl
              obtain ⟨_, _, _, ⟨rfl, rfl, rfl⟩, R⟩ := R.callV (pc' := 170) (y := (⟨"java/util/Optional", "orElse", "(Ljava/lang/Object;)Ljava/lang/Object;"⟩ : MethodName)) (z := (⟨"java/util/Optional", "orElse", "(Ljava/lang/Object;)Ljava/lang/Object;"⟩ : MethodName)) (argsL := [.null]) (rest := []) (W := 0) (own_w83 hw) (own_w84 hw) (fun s' hZ' => notFace_of_selects (args := #[]) (mvT hZ' (own_w86 hw))) (own_w86 hw) (own_w85 hw) (own_w80 hw) (own_w87 hw) (by decide) X27 (rm_optorElse_full C.l Z a0 hw r27 a_BLOCKS h27 n0 (b14 :: b9 :: Ds) F27) rfl (lenOf own_pd0 rfl) rfl rfl at_167 (by decide) (by decide) (by decide) (by decide) rfl
              replace R := R.mono (ce' := 11) (sl' := 102) (by decide) (by decide)
              replace R := R.stk (S' := [(.ref a_BLOCKS)]) rfl
              replace R := R.aload (pc' := 172) (v := (.ref a_BLOCKS)) at_170 rfl rfl rfl
              replace R := R.acmp (pc' := 175) (same := true) at_172 rfl rfl (decide_eq_true rfl) (by decide) (by decide)
              replace R := R.iconst (pc' := 176) (z := (1 : Int32)) at_175 rfl rfl
              replace R := R.goto (pc' := 180) at_176 (by decide) rfl
              exact R.retN (Ds' := []) hret (by simp) (show nar .boolean 1 = 1 from rfl) at_180 (by decide) (by decide) (fun _ q => nomatch q) rfl
            · have q_end := True.intro
              replace R := R.aload (pc' := 152) (v := (.ref b14)) at_150 rfl rfl rfl
              obtain ⟨_, h30, _, ⟨rfl, K30, rfl⟩, R⟩ := R.callS (pc' := 155) (argsL := [(.ref b14)]) (rest := []) (W := 0) (own_w35 hw) (own_w36 hw) (own_w3 hw) (own_w37 hw) (by decide) (rm_expected_other C.l Z a0 hw b14 h17 n0 (b14 :: b9 :: Ds) own_cs S_MOD X_MOD S_PARTITIONS X_PARTITIONS S_BLOCKS X_BLOCKS F_MOD_word T_MOD_word F_PARTITIONS_word T_PARTITIONS_word F_BLOCKS_word T_BLOCKS_word S__VALUES X__VALUES V__VALUES S_EMPTY X_eO F_eO Sx q0 q1 q2) rfl (lenOf own_pd6 rfl) rfl rfl at_152 (by decide) (by decide) (by decide) (by decide) rfl
              replace R := R.mono (ce' := 9) (sl' := 98) (by decide) (by decide)
              replace R := R.stk (S' := [.null]) rfl
              replace R := R.astore (pc' := 157) (l' := #[.val (.int i0), .val (.int i1), .val (.int i2), .val (.int i3), .val (.int ((i0 &&& (2147483647 : Int32)) % (3 : Int32))), .val (.int ((i1 &&& (2147483647 : Int32)) % (5 : Int32))), .val (.ref b14), .val .null, .unset]) at_155 rfl rfl rfl
              replace R := R.aload (pc' := 159) (v := (.ref b14)) at_157 rfl rfl rfl
              have K32 := ((Keep.refl h17 []).trans K30 all0)
              have F33 := Sx.keep K32 nin0 all0
              obtain ⟨_, h31, _, ⟨rfl, K31, rfl⟩, R⟩ := R.callS (pc' := 162) (argsL := [(.ref b14)]) (rest := []) (W := 0) (own_w53 hw) (own_w54 hw) (own_w55 hw) (own_w56 hw) (by decide) (rm_forWord_other C.l Z a0 hw b14 h30 n0 (b14 :: b9 :: Ds) own_cs S_MOD X_MOD S_PARTITIONS X_PARTITIONS S_BLOCKS X_BLOCKS F_MOD_word T_MOD_word F_PARTITIONS_word T_PARTITIONS_word F_BLOCKS_word T_BLOCKS_word S__VALUES X__VALUES V__VALUES S_EMPTY X_eO F_eO F33 q0 q1 q2) rfl (lenOf own_pd7 rfl) rfl rfl at_159 (by decide) (by decide) (by decide) (by decide) rfl
              replace R := R.mono (ce' := 10) (sl' := 101) (by decide) (by decide)
              replace R := R.stk (S' := [(.ref eO)]) rfl
              replace R := R.astore (pc' := 164) (l' := #[.val (.int i0), .val (.int i1), .val (.int i2), .val (.int i3), .val (.int ((i0 &&& (2147483647 : Int32)) % (3 : Int32))), .val (.int ((i1 &&& (2147483647 : Int32)) % (5 : Int32))), .val (.ref b14), .val .null, .val (.ref eO)]) at_162 rfl rfl rfl
              replace R := R.aload (pc' := 166) (v := (.ref eO)) at_164 rfl rfl rfl
              replace R := R.anull (pc' := 167) at_166 rfl
              have K34 := (Keep.refl Z.heap []).ext R.old.2
              have F35 := F_eO.keep K34 nin0
              have K36 := (Keep.refl Z.heap []).ext R.old.2
              have F37 := X_eO.keep K36
              obtain ⟨_, _, _, ⟨rfl, rfl, rfl⟩, R⟩ := R.callV (pc' := 170) (y := (⟨"java/util/Optional", "orElse", "(Ljava/lang/Object;)Ljava/lang/Object;"⟩ : MethodName)) (z := (⟨"java/util/Optional", "orElse", "(Ljava/lang/Object;)Ljava/lang/Object;"⟩ : MethodName)) (argsL := [.null]) (rest := []) (W := 0) (own_w83 hw) (own_w84 hw) (fun s' hZ' => notFace_of_selects (args := #[]) (mvT hZ' (own_w86 hw))) (own_w86 hw) (own_w85 hw) (own_w80 hw) (own_w87 hw) (by decide) F37 (rm_optorElse_none C.l Z a0 hw eO  h31 n0 (b14 :: b9 :: Ds) F35) rfl (lenOf own_pd0 rfl) rfl rfl at_167 (by decide) (by decide) (by decide) (by decide) rfl
              replace R := R.mono (ce' := 10) (sl' := 101) (by decide) (by decide)
              replace R := R.stk (S' := [.null]) rfl
              replace R := R.aload (pc' := 172) (v := .null) at_170 rfl rfl rfl
              replace R := R.acmp (pc' := 175) (same := true) at_172 rfl rfl (decide_eq_true rfl) (by decide) (by decide)
              replace R := R.iconst (pc' := 176) (z := (1 : Int32)) at_175 rfl rfl
              replace R := R.goto (pc' := 180) at_176 (by decide) rfl
              exact R.retN (Ds' := []) hret (by simp) (show nar .boolean 1 = 1 from rfl) at_180 (by decide) (by decide) (fun _ q => nomatch q) rfl
      · replace R := R.ifN (pc' := 83) at_80 (feq hc13).1 rfl
        obtain ⟨h38, a38, E38, S38, N38, R⟩ := R.ldcS (pc' := 85) (n := 0) (cs := []) (by decide) (own_w105 hw) (by decide +kernel) (by decide +kernel) (by decide) at_83 (by decide +kernel) (by decide) (by decide) (by decide) rfl
        replace R := R.astore (pc' := 87) (l' := #[.val (.int i0), .val (.int i1), .val (.int i2), .val (.int i3), .val (.int ((i0 &&& (2147483647 : Int32)) % (3 : Int32))), .val (.int ((i1 &&& (2147483647 : Int32)) % (5 : Int32))), .val (.ref a38), .val (.ref b9), .unset]) at_85 rfl rfl rfl
        replace R := R.goto (pc' := 101) at_87 (by decide) rfl
        replace R := R.goto (pc' := 150) at_101 (by decide) rfl
        replace R := R.aload (pc' := 152) (v := (.ref a38)) at_150 rfl rfl rfl
        obtain ⟨_, h39, _, ⟨rfl, K39, rfl⟩, R⟩ := R.callS (pc' := 155) (argsL := [(.ref a38)]) (rest := []) (W := 0) (own_w35 hw) (own_w36 hw) (own_w3 hw) (own_w37 hw) (by decide) (rm_expected_other C.l Z a0 hw a38 h38 n0 (b9 :: Ds) own_cs S_MOD X_MOD S_PARTITIONS X_PARTITIONS S_BLOCKS X_BLOCKS F_MOD_word T_MOD_word F_PARTITIONS_word T_PARTITIONS_word F_BLOCKS_word T_BLOCKS_word S__VALUES X__VALUES V__VALUES S_EMPTY X_eO F_eO S38 (by decide) (by decide) (by decide)) rfl (lenOf own_pd6 rfl) rfl rfl at_152 (by decide) (by decide) (by decide) (by decide) rfl
        replace R := R.mono (ce' := 9) (sl' := 95) (by decide) (by decide)
        replace R := R.stk (S' := [.null]) rfl
        replace R := R.astore (pc' := 157) (l' := #[.val (.int i0), .val (.int i1), .val (.int i2), .val (.int i3), .val (.int ((i0 &&& (2147483647 : Int32)) % (3 : Int32))), .val (.int ((i1 &&& (2147483647 : Int32)) % (5 : Int32))), .val (.ref a38), .val .null, .unset]) at_155 rfl rfl rfl
        replace R := R.aload (pc' := 159) (v := (.ref a38)) at_157 rfl rfl rfl
        have K41 := ((Keep.refl h38 []).trans K39 all0)
        have F42 := S38.keep K41 nin0 all0
        obtain ⟨_, h40, _, ⟨rfl, K40, rfl⟩, R⟩ := R.callS (pc' := 162) (argsL := [(.ref a38)]) (rest := []) (W := 0) (own_w53 hw) (own_w54 hw) (own_w55 hw) (own_w56 hw) (by decide) (rm_forWord_other C.l Z a0 hw a38 h39 n0 (b9 :: Ds) own_cs S_MOD X_MOD S_PARTITIONS X_PARTITIONS S_BLOCKS X_BLOCKS F_MOD_word T_MOD_word F_PARTITIONS_word T_PARTITIONS_word F_BLOCKS_word T_BLOCKS_word S__VALUES X__VALUES V__VALUES S_EMPTY X_eO F_eO F42 (by decide) (by decide) (by decide)) rfl (lenOf own_pd7 rfl) rfl rfl at_159 (by decide) (by decide) (by decide) (by decide) rfl
        replace R := R.mono (ce' := 10) (sl' := 98) (by decide) (by decide)
        replace R := R.stk (S' := [(.ref eO)]) rfl
        replace R := R.astore (pc' := 164) (l' := #[.val (.int i0), .val (.int i1), .val (.int i2), .val (.int i3), .val (.int ((i0 &&& (2147483647 : Int32)) % (3 : Int32))), .val (.int ((i1 &&& (2147483647 : Int32)) % (5 : Int32))), .val (.ref a38), .val .null, .val (.ref eO)]) at_162 rfl rfl rfl
        replace R := R.aload (pc' := 166) (v := (.ref eO)) at_164 rfl rfl rfl
        replace R := R.anull (pc' := 167) at_166 rfl
        have K43 := (Keep.refl Z.heap []).ext R.old.2
        have F44 := F_eO.keep K43 nin0
        have K45 := (Keep.refl Z.heap []).ext R.old.2
        have F46 := X_eO.keep K45
        obtain ⟨_, _, _, ⟨rfl, rfl, rfl⟩, R⟩ := R.callV (pc' := 170) (y := (⟨"java/util/Optional", "orElse", "(Ljava/lang/Object;)Ljava/lang/Object;"⟩ : MethodName)) (z := (⟨"java/util/Optional", "orElse", "(Ljava/lang/Object;)Ljava/lang/Object;"⟩ : MethodName)) (argsL := [.null]) (rest := []) (W := 0) (own_w83 hw) (own_w84 hw) (fun s' hZ' => notFace_of_selects (args := #[]) (mvT hZ' (own_w86 hw))) (own_w86 hw) (own_w85 hw) (own_w80 hw) (own_w87 hw) (by decide) F46 (rm_optorElse_none C.l Z a0 hw eO  h40 n0 (b9 :: Ds) F44) rfl (lenOf own_pd0 rfl) rfl rfl at_167 (by decide) (by decide) (by decide) (by decide) rfl
        replace R := R.mono (ce' := 10) (sl' := 98) (by decide) (by decide)
        replace R := R.stk (S' := [.null]) rfl
        replace R := R.aload (pc' := 172) (v := .null) at_170 rfl rfl rfl
        replace R := R.acmp (pc' := 175) (same := true) at_172 rfl rfl (decide_eq_true rfl) (by decide) (by decide)
        replace R := R.iconst (pc' := 176) (z := (1 : Int32)) at_175 rfl rfl
        replace R := R.goto (pc' := 180) at_176 (by decide) rfl
        exact R.retN (Ds' := []) hret (by simp) (show nar .boolean 1 = 1 from rfl) at_180 (by decide) (by decide) (fun _ q => nomatch q) rfl
    · replace R := R.icmpY (pc' := 104) at_30 (feq hc8).2 (by decide) rfl
      replace R := R.iload (pc' := 106) (v := ((i0 &&& (2147483647 : Int32)) % (3 : Int32))) at_104 rfl rfl
      replace R := R.iload (pc' := 108) (v := ((i1 &&& (2147483647 : Int32)) % (5 : Int32))) at_106 rfl rfl
      obtain ⟨_, h47, _, ⟨r47, k47, cs47, rfl, K47, V47, lp47, le47, ok47, rfl⟩, R⟩ := R.callS (pc' := 111) (argsL := [(.int ((i0 &&& (2147483647 : Int32)) % (3 : Int32))), (.int ((i1 &&& (2147483647 : Int32)) % (5 : Int32)))]) (rest := []) (W := 0) (own_w1 hw) (own_w2 hw) (own_w3 hw) (own_w4 hw) (by decide) (rm_base C.l Z a0 hw ((i0 &&& (2147483647 : Int32)) % (3 : Int32)) ((i1 &&& (2147483647 : Int32)) % (5 : Int32)) h n0 Ds) rfl (lenOf own_pd8 rfl) rfl rfl at_108 (by decide) (by decide) (by decide) (by decide) rfl
      replace R := R.mono (ce' := 1) (sl' := 11) (by decide) (by decide)
      replace R := R.stk (S' := [(.ref r47)]) rfl
      replace R := R.astore (pc' := 113) (l' := #[.val (.int i0), .val (.int i1), .val (.int i2), .val (.int i3), .val (.int ((i0 &&& (2147483647 : Int32)) % (3 : Int32))), .val (.int ((i1 &&& (2147483647 : Int32)) % (5 : Int32))), .unset, .val (.ref r47), .unset]) at_111 rfl rfl rfl
      replace R := R.iloadN (pc' := 114) (v := i3) at_113 rfl rfl
      replace R := R.bipush (pc' := 116) (z := (8 : Int32)) at_114 rfl rfl
      replace R := R.iushr (pc' := 117) at_116 rfl
      replace R := R.iconst (pc' := 118) (z := (1 : Int32)) at_117 rfl rfl
      replace R := R.iand (pc' := 119) at_118 rfl
      by_cases hc48 : (((i3.toUInt32 >>> ((8 : Int32) &&& 31).toUInt32).toInt32) &&& (1 : Int32)) = (0 : Int32)
      · replace R := R.ifY (pc' := 139) at_119 (teq hc48).1 (by decide) rfl
        obtain ⟨h49, b49, g49, E49, X49, D49, R⟩ := R.newO (pc' := 142) (own_w6 hw) (own_w7 hw) (own_w8 hw) at_139 (by decide) (by decide) rfl
        have F49_coder : Fld Z h49 b49 "java/lang/String" "coder" "B" (.int (0 : Int32)) := D49 (Or.inr (own_w32 hw)) (ty := .byte) (by decide)
        have F49_value : Fld Z h49 b49 "java/lang/String" "value" "[B" .null := D49 (Or.inr (own_w34 hw)) (ty := (.array .byte)) (by decide)
        replace R := R.dup (pc' := 143) at_142 rfl rfl
        replace R := R.aload (pc' := 145) (v := (.ref r47)) at_143 rfl rfl rfl
        have K50 := ((Keep.refl h47 []).trans ((Keep.refl h47 []).ext E49) all0)
        have F51 := V47.keep K50 nin0
        obtain ⟨h52, K52, S52, R⟩ := R.newStr (pc' := 148) (W := 1) (cs := cs47) own_hws (own_w7 hw) (own_w9 hw) (own_w10 hw) own_cs X49 F49_value F49_coder F51 rfl lp47 (Nat.le_trans le47 (by decide)) ok47 (List.mem_of_getElem? (i := 0) rfl) rfl rfl at_145 (by decide) (by decide) (by decide) (Nat.le_trans (Nat.add_le_add_left le47 _) (by decide)) rfl
        replace R := R.mono (ce' := 3) (sl' := 26) (by decide) (Nat.le_trans (Nat.add_le_add_left le47 _) (by decide))
        replace R := R.astore (pc' := 150) (l' := #[.val (.int i0), .val (.int i1), .val (.int i2), .val (.int i3), .val (.int ((i0 &&& (2147483647 : Int32)) % (3 : Int32))), .val (.int ((i1 &&& (2147483647 : Int32)) % (5 : Int32))), .val (.ref b49), .val (.ref r47), .unset]) at_148 rfl rfl rfl
        have Sx := S52
        by_cases q0 : cs47 = [109, 111, 100]
        · subst q0
          replace R := R.aload (pc' := 152) (v := (.ref b49)) at_150 rfl rfl rfl
          obtain ⟨_, h53, _, ⟨rfl, K53, rfl⟩, R⟩ := R.callS (pc' := 155) (argsL := [(.ref b49)]) (rest := []) (W := 0) (own_w35 hw) (own_w36 hw) (own_w3 hw) (own_w37 hw) (by decide) (rm_expected_0 C.l Z a0 hw b49 h52 n0 (b49 :: r47 :: Ds) own_cs S_MOD X_MOD S_PARTITIONS X_PARTITIONS S_BLOCKS X_BLOCKS F_MOD_word T_MOD_word F_PARTITIONS_word T_PARTITIONS_word F_BLOCKS_word T_BLOCKS_word S__VALUES X__VALUES V__VALUES S_EMPTY X_eO F_eO Sx) rfl (lenOf own_pd6 rfl) rfl rfl at_152 (by decide) (by decide) (by decide) (by decide) rfl
          replace R := R.mono (ce' := 5) (sl' := 42) (by decide) (by decide)
          replace R := R.stk (S' := [(.ref a_MOD)]) rfl
          replace R := R.astore (pc' := 157) (l' := #[.val (.int i0), .val (.int i1), .val (.int i2), .val (.int i3), .val (.int ((i0 &&& (2147483647 : Int32)) % (3 : Int32))), .val (.int ((i1 &&& (2147483647 : Int32)) % (5 : Int32))), .val (.ref b49), .val (.ref a_MOD), .unset]) at_155 rfl rfl rfl
          replace R := R.aload (pc' := 159) (v := (.ref b49)) at_157 rfl rfl rfl
          have K55 := ((Keep.refl h52 []).trans K53 all0)
          have F56 := Sx.keep K55 nin0 all0
          obtain ⟨_, h54, _, ⟨r54, rfl, K54, X54, F54, rfl⟩, R⟩ := R.callS (pc' := 162) (argsL := [(.ref b49)]) (rest := []) (W := 0) (own_w53 hw) (own_w54 hw) (own_w55 hw) (own_w56 hw) (by decide) (rm_forWord_0 C.l Z a0 hw b49 h53 n0 (b49 :: r47 :: Ds) own_cs S_MOD X_MOD S_PARTITIONS X_PARTITIONS S_BLOCKS X_BLOCKS F_MOD_word T_MOD_word F_PARTITIONS_word T_PARTITIONS_word F_BLOCKS_word T_BLOCKS_word S__VALUES X__VALUES V__VALUES S_EMPTY X_eO F_eO F56) rfl (lenOf own_pd7 rfl) rfl rfl at_159 (by decide) (by decide) (by decide) (by decide) rfl
          replace R := R.mono (ce' := 7) (sl' := 46) (by decide) (by decide)
          replace R := R.stk (S' := [(.ref r54)]) rfl
          replace R := R.astore (pc' := 164) (l' := #[.val (.int i0), .val (.int i1), .val (.int i2), .val (.int i3), .val (.int ((i0 &&& (2147483647 : Int32)) % (3 : Int32))), .val (.int ((i1 &&& (2147483647 : Int32)) % (5 : Int32))), .val (.ref b49), .val (.ref a_MOD), .val (.ref r54)]) at_162 rfl rfl rfl
          replace R := R.aload (pc' := 166) (v := (.ref r54)) at_164 rfl rfl rfl
          replace R := R.anull (pc' := 167) at_166 rfl
          obtain ⟨_, _, _, ⟨rfl, rfl, rfl⟩, R⟩ := R.callV (pc' := 170) (y := (⟨"java/util/Optional", "orElse", "(Ljava/lang/Object;)Ljava/lang/Object;"⟩ : MethodName)) (z := (⟨"java/util/Optional", "orElse", "(Ljava/lang/Object;)Ljava/lang/Object;"⟩ : MethodName)) (argsL := [.null]) (rest := []) (W := 0) (own_w83 hw) (own_w84 hw) (fun s' hZ' => notFace_of_selects (args := #[]) (mvT hZ' (own_w86 hw))) (own_w86 hw) (own_w85 hw) (own_w80 hw) (own_w87 hw) (by decide) X54 (rm_optorElse_full C.l Z a0 hw r54 a_MOD h54 n0 (b49 :: r47 :: Ds) F54) rfl (lenOf own_pd0 rfl) rfl rfl at_167 (by decide) (by decide) (by decide) (by decide) rfl
          replace R := R.mono (ce' := 7) (sl' := 46) (by decide) (by decide)
          replace R := R.stk (S' := [(.ref a_MOD)]) rfl
          replace R := R.aload (pc' := 172) (v := (.ref a_MOD)) at_170 rfl rfl rfl
          replace R := R.acmp (pc' := 175) (same := true) at_172 rfl rfl (decide_eq_true rfl) (by decide) (by decide)
          replace R := R.iconst (pc' := 176) (z := (1 : Int32)) at_175 rfl rfl
          replace R := R.goto (pc' := 180) at_176 (by decide) rfl
          exact R.retN (Ds' := []) hret (by simp) (show nar .boolean 1 = 1 from rfl) at_180 (by decide) (by decide) (fun _ q => nomatch q) rfl
        · by_cases q1 : cs47 = [112, 97, 114, 116, 105, 116, 105, 111, 110, 115]
          · subst q1
            replace R := R.aload (pc' := 152) (v := (.ref b49)) at_150 rfl rfl rfl
            obtain ⟨_, h57, _, ⟨rfl, K57, rfl⟩, R⟩ := R.callS (pc' := 155) (argsL := [(.ref b49)]) (rest := []) (W := 0) (own_w35 hw) (own_w36 hw) (own_w3 hw) (own_w37 hw) (by decide) (rm_expected_1 C.l Z a0 hw b49 h52 n0 (b49 :: r47 :: Ds) own_cs S_MOD X_MOD S_PARTITIONS X_PARTITIONS S_BLOCKS X_BLOCKS F_MOD_word T_MOD_word F_PARTITIONS_word T_PARTITIONS_word F_BLOCKS_word T_BLOCKS_word S__VALUES X__VALUES V__VALUES S_EMPTY X_eO F_eO Sx) rfl (lenOf own_pd6 rfl) rfl rfl at_152 (by decide) (by decide) (by decide) (by decide) rfl
            replace R := R.mono (ce' := 7) (sl' := 86) (by decide) (by decide)
            replace R := R.stk (S' := [(.ref a_PARTITIONS)]) rfl
            replace R := R.astore (pc' := 157) (l' := #[.val (.int i0), .val (.int i1), .val (.int i2), .val (.int i3), .val (.int ((i0 &&& (2147483647 : Int32)) % (3 : Int32))), .val (.int ((i1 &&& (2147483647 : Int32)) % (5 : Int32))), .val (.ref b49), .val (.ref a_PARTITIONS), .unset]) at_155 rfl rfl rfl
            replace R := R.aload (pc' := 159) (v := (.ref b49)) at_157 rfl rfl rfl
            have K59 := ((Keep.refl h52 []).trans K57 all0)
            have F60 := Sx.keep K59 nin0 all0
            obtain ⟨_, h58, _, ⟨r58, rfl, K58, X58, F58, rfl⟩, R⟩ := R.callS (pc' := 162) (argsL := [(.ref b49)]) (rest := []) (W := 0) (own_w53 hw) (own_w54 hw) (own_w55 hw) (own_w56 hw) (by decide) (rm_forWord_1 C.l Z a0 hw b49 h57 n0 (b49 :: r47 :: Ds) own_cs S_MOD X_MOD S_PARTITIONS X_PARTITIONS S_BLOCKS X_BLOCKS F_MOD_word T_MOD_word F_PARTITIONS_word T_PARTITIONS_word F_BLOCKS_word T_BLOCKS_word S__VALUES X__VALUES V__VALUES S_EMPTY X_eO F_eO F60) rfl (lenOf own_pd7 rfl) rfl rfl at_159 (by decide) (by decide) (by decide) (by decide) rfl
            replace R := R.mono (ce' := 9) (sl' := 90) (by decide) (by decide)
            replace R := R.stk (S' := [(.ref r58)]) rfl
            replace R := R.astore (pc' := 164) (l' := #[.val (.int i0), .val (.int i1), .val (.int i2), .val (.int i3), .val (.int ((i0 &&& (2147483647 : Int32)) % (3 : Int32))), .val (.int ((i1 &&& (2147483647 : Int32)) % (5 : Int32))), .val (.ref b49), .val (.ref a_PARTITIONS), .val (.ref r58)]) at_162 rfl rfl rfl
            replace R := R.aload (pc' := 166) (v := (.ref r58)) at_164 rfl rfl rfl
            replace R := R.anull (pc' := 167) at_166 rfl
            obtain ⟨_, _, _, ⟨rfl, rfl, rfl⟩, R⟩ := R.callV (pc' := 170) (y := (⟨"java/util/Optional", "orElse", "(Ljava/lang/Object;)Ljava/lang/Object;"⟩ : MethodName)) (z := (⟨"java/util/Optional", "orElse", "(Ljava/lang/Object;)Ljava/lang/Object;"⟩ : MethodName)) (argsL := [.null]) (rest := []) (W := 0) (own_w83 hw) (own_w84 hw) (fun s' hZ' => notFace_of_selects (args := #[]) (mvT hZ' (own_w86 hw))) (own_w86 hw) (own_w85 hw) (own_w80 hw) (own_w87 hw) (by decide) X58 (rm_optorElse_full C.l Z a0 hw r58 a_PARTITIONS h58 n0 (b49 :: r47 :: Ds) F58) rfl (lenOf own_pd0 rfl) rfl rfl at_167 (by decide) (by decide) (by decide) (by decide) rfl
            replace R := R.mono (ce' := 9) (sl' := 90) (by decide) (by decide)
            replace R := R.stk (S' := [(.ref a_PARTITIONS)]) rfl
            replace R := R.aload (pc' := 172) (v := (.ref a_PARTITIONS)) at_170 rfl rfl rfl
            replace R := R.acmp (pc' := 175) (same := true) at_172 rfl rfl (decide_eq_true rfl) (by decide) (by decide)
            replace R := R.iconst (pc' := 176) (z := (1 : Int32)) at_175 rfl rfl
            replace R := R.goto (pc' := 180) at_176 (by decide) rfl
            exact R.retN (Ds' := []) hret (by simp) (show nar .boolean 1 = 1 from rfl) at_180 (by decide) (by decide) (fun _ q => nomatch q) rfl
          · by_cases q2 : cs47 = [98, 108, 111, 99, 107, 115]
            · subst q2
              replace R := R.aload (pc' := 152) (v := (.ref b49)) at_150 rfl rfl rfl
              obtain ⟨_, h61, _, ⟨rfl, K61, rfl⟩, R⟩ := R.callS (pc' := 155) (argsL := [(.ref b49)]) (rest := []) (W := 0) (own_w35 hw) (own_w36 hw) (own_w3 hw) (own_w37 hw) (by decide) (rm_expected_2 C.l Z a0 hw b49 h52 n0 (b49 :: r47 :: Ds) own_cs S_MOD X_MOD S_PARTITIONS X_PARTITIONS S_BLOCKS X_BLOCKS F_MOD_word T_MOD_word F_PARTITIONS_word T_PARTITIONS_word F_BLOCKS_word T_BLOCKS_word S__VALUES X__VALUES V__VALUES S_EMPTY X_eO F_eO Sx) rfl (lenOf own_pd6 rfl) rfl rfl at_152 (by decide) (by decide) (by decide) (by decide) rfl
              replace R := R.mono (ce' := 9) (sl' := 114) (by decide) (by decide)
              replace R := R.stk (S' := [(.ref a_BLOCKS)]) rfl
              replace R := R.astore (pc' := 157) (l' := #[.val (.int i0), .val (.int i1), .val (.int i2), .val (.int i3), .val (.int ((i0 &&& (2147483647 : Int32)) % (3 : Int32))), .val (.int ((i1 &&& (2147483647 : Int32)) % (5 : Int32))), .val (.ref b49), .val (.ref a_BLOCKS), .unset]) at_155 rfl rfl rfl
              replace R := R.aload (pc' := 159) (v := (.ref b49)) at_157 rfl rfl rfl
              have K63 := ((Keep.refl h52 []).trans K61 all0)
              have F64 := Sx.keep K63 nin0 all0
              obtain ⟨_, h62, _, ⟨r62, rfl, K62, X62, F62, rfl⟩, R⟩ := R.callS (pc' := 162) (argsL := [(.ref b49)]) (rest := []) (W := 0) (own_w53 hw) (own_w54 hw) (own_w55 hw) (own_w56 hw) (by decide) (rm_forWord_2 C.l Z a0 hw b49 h61 n0 (b49 :: r47 :: Ds) own_cs S_MOD X_MOD S_PARTITIONS X_PARTITIONS S_BLOCKS X_BLOCKS F_MOD_word T_MOD_word F_PARTITIONS_word T_PARTITIONS_word F_BLOCKS_word T_BLOCKS_word S__VALUES X__VALUES V__VALUES S_EMPTY X_eO F_eO F64) rfl (lenOf own_pd7 rfl) rfl rfl at_159 (by decide) (by decide) (by decide) (by decide) rfl
              replace R := R.mono (ce' := 11) (sl' := 118) (by decide) (by decide)
              replace R := R.stk (S' := [(.ref r62)]) rfl
              replace R := R.astore (pc' := 164) (l' := #[.val (.int i0), .val (.int i1), .val (.int i2), .val (.int i3), .val (.int ((i0 &&& (2147483647 : Int32)) % (3 : Int32))), .val (.int ((i1 &&& (2147483647 : Int32)) % (5 : Int32))), .val (.ref b49), .val (.ref a_BLOCKS), .val (.ref r62)]) at_162 rfl rfl rfl
              replace R := R.aload (pc' := 166) (v := (.ref r62)) at_164 rfl rfl rfl
              replace R := R.anull (pc' := 167) at_166 rfl
              obtain ⟨_, _, _, ⟨rfl, rfl, rfl⟩, R⟩ := R.callV (pc' := 170) (y := (⟨"java/util/Optional", "orElse", "(Ljava/lang/Object;)Ljava/lang/Object;"⟩ : MethodName)) (z := (⟨"java/util/Optional", "orElse", "(Ljava/lang/Object;)Ljava/lang/Object;"⟩ : MethodName)) (argsL := [.null]) (rest := []) (W := 0) (own_w83 hw) (own_w84 hw) (fun s' hZ' => notFace_of_selects (args := #[]) (mvT hZ' (own_w86 hw))) (own_w86 hw) (own_w85 hw) (own_w80 hw) (own_w87 hw) (by decide) X62 (rm_optorElse_full C.l Z a0 hw r62 a_BLOCKS h62 n0 (b49 :: r47 :: Ds) F62) rfl (lenOf own_pd0 rfl) rfl rfl at_167 (by decide) (by decide) (by decide) (by decide) rfl
              replace R := R.mono (ce' := 11) (sl' := 118) (by decide) (by decide)
              replace R := R.stk (S' := [(.ref a_BLOCKS)]) rfl
              replace R := R.aload (pc' := 172) (v := (.ref a_BLOCKS)) at_170 rfl rfl rfl
              replace R := R.acmp (pc' := 175) (same := true) at_172 rfl rfl (decide_eq_true rfl) (by decide) (by decide)
              replace R := R.iconst (pc' := 176) (z := (1 : Int32)) at_175 rfl rfl
              replace R := R.goto (pc' := 180) at_176 (by decide) rfl
              exact R.retN (Ds' := []) hret (by simp) (show nar .boolean 1 = 1 from rfl) at_180 (by decide) (by decide) (fun _ q => nomatch q) rfl
            · have q_end := True.intro
              replace R := R.aload (pc' := 152) (v := (.ref b49)) at_150 rfl rfl rfl
              obtain ⟨_, h65, _, ⟨rfl, K65, rfl⟩, R⟩ := R.callS (pc' := 155) (argsL := [(.ref b49)]) (rest := []) (W := 0) (own_w35 hw) (own_w36 hw) (own_w3 hw) (own_w37 hw) (by decide) (rm_expected_other C.l Z a0 hw b49 h52 n0 (b49 :: r47 :: Ds) own_cs S_MOD X_MOD S_PARTITIONS X_PARTITIONS S_BLOCKS X_BLOCKS F_MOD_word T_MOD_word F_PARTITIONS_word T_PARTITIONS_word F_BLOCKS_word T_BLOCKS_word S__VALUES X__VALUES V__VALUES S_EMPTY X_eO F_eO Sx q0 q1 q2) rfl (lenOf own_pd6 rfl) rfl rfl at_152 (by decide) (by decide) (by decide) (by decide) rfl
              replace R := R.mono (ce' := 9) (sl' := 114) (by decide) (by decide)
              replace R := R.stk (S' := [.null]) rfl
              replace R := R.astore (pc' := 157) (l' := #[.val (.int i0), .val (.int i1), .val (.int i2), .val (.int i3), .val (.int ((i0 &&& (2147483647 : Int32)) % (3 : Int32))), .val (.int ((i1 &&& (2147483647 : Int32)) % (5 : Int32))), .val (.ref b49), .val .null, .unset]) at_155 rfl rfl rfl
              replace R := R.aload (pc' := 159) (v := (.ref b49)) at_157 rfl rfl rfl
              have K67 := ((Keep.refl h52 []).trans K65 all0)
              have F68 := Sx.keep K67 nin0 all0
              obtain ⟨_, h66, _, ⟨rfl, K66, rfl⟩, R⟩ := R.callS (pc' := 162) (argsL := [(.ref b49)]) (rest := []) (W := 0) (own_w53 hw) (own_w54 hw) (own_w55 hw) (own_w56 hw) (by decide) (rm_forWord_other C.l Z a0 hw b49 h65 n0 (b49 :: r47 :: Ds) own_cs S_MOD X_MOD S_PARTITIONS X_PARTITIONS S_BLOCKS X_BLOCKS F_MOD_word T_MOD_word F_PARTITIONS_word T_PARTITIONS_word F_BLOCKS_word T_BLOCKS_word S__VALUES X__VALUES V__VALUES S_EMPTY X_eO F_eO F68 q0 q1 q2) rfl (lenOf own_pd7 rfl) rfl rfl at_159 (by decide) (by decide) (by decide) (by decide) rfl
              replace R := R.mono (ce' := 10) (sl' := 117) (by decide) (by decide)
              replace R := R.stk (S' := [(.ref eO)]) rfl
              replace R := R.astore (pc' := 164) (l' := #[.val (.int i0), .val (.int i1), .val (.int i2), .val (.int i3), .val (.int ((i0 &&& (2147483647 : Int32)) % (3 : Int32))), .val (.int ((i1 &&& (2147483647 : Int32)) % (5 : Int32))), .val (.ref b49), .val .null, .val (.ref eO)]) at_162 rfl rfl rfl
              replace R := R.aload (pc' := 166) (v := (.ref eO)) at_164 rfl rfl rfl
              replace R := R.anull (pc' := 167) at_166 rfl
              have K69 := (Keep.refl Z.heap []).ext R.old.2
              have F70 := F_eO.keep K69 nin0
              have K71 := (Keep.refl Z.heap []).ext R.old.2
              have F72 := X_eO.keep K71
              obtain ⟨_, _, _, ⟨rfl, rfl, rfl⟩, R⟩ := R.callV (pc' := 170) (y := (⟨"java/util/Optional", "orElse", "(Ljava/lang/Object;)Ljava/lang/Object;"⟩ : MethodName)) (z := (⟨"java/util/Optional", "orElse", "(Ljava/lang/Object;)Ljava/lang/Object;"⟩ : MethodName)) (argsL := [.null]) (rest := []) (W := 0) (own_w83 hw) (own_w84 hw) (fun s' hZ' => notFace_of_selects (args := #[]) (mvT hZ' (own_w86 hw))) (own_w86 hw) (own_w85 hw) (own_w80 hw) (own_w87 hw) (by decide) F72 (rm_optorElse_none C.l Z a0 hw eO  h66 n0 (b49 :: r47 :: Ds) F70) rfl (lenOf own_pd0 rfl) rfl rfl at_167 (by decide) (by decide) (by decide) (by decide) rfl
              replace R := R.mono (ce' := 10) (sl' := 117) (by decide) (by decide)
              replace R := R.stk (S' := [.null]) rfl
              replace R := R.aload (pc' := 172) (v := .null) at_170 rfl rfl rfl
              replace R := R.acmp (pc' := 175) (same := true) at_172 rfl rfl (decide_eq_true rfl) (by decide) (by decide)
              replace R := R.iconst (pc' := 176) (z := (1 : Int32)) at_175 rfl rfl
              replace R := R.goto (pc' := 180) at_176 (by decide) rfl
              exact R.retN (Ds' := []) hret (by simp) (show nar .boolean 1 = 1 from rfl) at_180 (by decide) (by decide) (fun _ q => nomatch q) rfl
      · replace R := R.ifN (pc' := 122) at_119 (feq hc48).1 rfl
        replace R := R.aload (pc' := 124) (v := (.ref r47)) at_122 rfl rfl rfl
        replace R := R.iloadN (pc' := 125) (v := i2) at_124 rfl rfl
        replace R := R.ldcI (pc' := 127) (own_w0 hw) at_125 rfl
        replace R := R.iand (pc' := 128) at_127 rfl
        replace R := R.aload (pc' := 130) (v := (.ref r47)) at_128 rfl rfl rfl
        replace R := R.arraylength (pc' := 131) V47 at_130 rfl
        replace R := R.irem (pc' := 132) at_131 (own_nz lp47 le47) rfl
        replace R := R.iloadN (pc' := 133) (v := i3) at_132 rfl rfl
        replace R := R.sipush (pc' := 136) (z := (255 : Int32)) at_133 rfl rfl
        replace R := R.iand (pc' := 137) at_136 rfl
        replace R := R.i2c (pc' := 138) at_137 rfl
        have hb73 := c255 i3
        obtain ⟨hj73, hi73⟩ := own_idx i2 (n := cs47.length) lp47 le47
        obtain ⟨h73, K73, V73, R⟩ := R.castore (pc' := 139) V47 hj73 _ rfl (by rw [List.length_map]; exact hi73) (List.mem_of_getElem? (i := 0) rfl) at_138 rfl
        rw [nar_of hb73, ← List.map_set] at V73
        obtain ⟨cs73, ecs73⟩ : ∃ z, z = cs47.set (((i2 &&& (2147483647 : Int32)) % (Int32.ofNat cs47.length))).toNatClampNeg (i3 &&& (255 : Int32)).toUInt32.toUInt16.toUInt32.toInt32 := ⟨_, rfl⟩
        have ln73 : cs73.length = cs47.length := by rw [ecs73, List.length_set]
        have ok73 : ∀ c ∈ cs73, ¬ c < 0 ∧ ¬ (255 : Int32) < c := by rw [ecs73]; exact fun c hc => (List.mem_or_eq_of_mem_set hc).elim (ok47 c) (fun q => q ▸ hb73)
        rw [← ecs73, ← ln73] at V73
        have lp73 : 0 < cs73.length := by rw [ln73]; exact lp47
        have le73 : cs73.length ≤ 11 := by rw [ln73]; exact le47
        obtain ⟨h74, b74, g74, E74, X74, D74, R⟩ := R.newO (pc' := 142) (own_w6 hw) (own_w7 hw) (own_w8 hw) at_139 (by decide) (by decide) rfl
        have F74_coder : Fld Z h74 b74 "java/lang/String" "coder" "B" (.int (0 : Int32)) := D74 (Or.inr (own_w32 hw)) (ty := .byte) (by decide)
        have F74_value : Fld Z h74 b74 "java/lang/String" "value" "[B" .null := D74 (Or.inr (own_w34 hw)) (ty := (.array .byte)) (by decide)
        replace R := R.dup (pc' := 143) at_142 rfl rfl
        replace R := R.aload (pc' := 145) (v := (.ref r47)) at_143 rfl rfl rfl
        have K75 := ((Keep.refl h73 []).trans ((Keep.refl h73 []).ext E74) all0)
        have F76 := V73.keep K75 nin0
        obtain ⟨h77, K77, S77, R⟩ := R.newStr (pc' := 148) (W := 1) (cs := cs73) own_hws (own_w7 hw) (own_w9 hw) (own_w10 hw) own_cs X74 F74_value F74_coder F76 rfl lp73 (Nat.le_trans le73 (by decide)) ok73 (List.mem_of_getElem? (i := 0) rfl) rfl rfl at_145 (by decide) (by decide) (by decide) (Nat.le_trans (Nat.add_le_add_left le73 _) (by decide)) rfl
        replace R := R.mono (ce' := 3) (sl' := 26) (by decide) (Nat.le_trans (Nat.add_le_add_left le73 _) (by decide))
        replace R := R.astore (pc' := 150) (l' := #[.val (.int i0), .val (.int i1), .val (.int i2), .val (.int i3), .val (.int ((i0 &&& (2147483647 : Int32)) % (3 : Int32))), .val (.int ((i1 &&& (2147483647 : Int32)) % (5 : Int32))), .val (.ref b74), .val (.ref r47), .unset]) at_148 rfl rfl rfl
        have Sx := S77
        by_cases q0 : cs73 = [109, 111, 100]
        · subst q0
          replace R := R.aload (pc' := 152) (v := (.ref b74)) at_150 rfl rfl rfl
          obtain ⟨_, h78, _, ⟨rfl, K78, rfl⟩, R⟩ := R.callS (pc' := 155) (argsL := [(.ref b74)]) (rest := []) (W := 0) (own_w35 hw) (own_w36 hw) (own_w3 hw) (own_w37 hw) (by decide) (rm_expected_0 C.l Z a0 hw b74 h77 n0 (b74 :: r47 :: Ds) own_cs S_MOD X_MOD S_PARTITIONS X_PARTITIONS S_BLOCKS X_BLOCKS F_MOD_word T_MOD_word F_PARTITIONS_word T_PARTITIONS_word F_BLOCKS_word T_BLOCKS_word S__VALUES X__VALUES V__VALUES S_EMPTY X_eO F_eO Sx) rfl (lenOf own_pd6 rfl) rfl rfl at_152 (by decide) (by decide) (by decide) (by decide) rfl
          replace R := R.mono (ce' := 5) (sl' := 42) (by decide) (by decide)
          replace R := R.stk (S' := [(.ref a_MOD)]) rfl
          replace R := R.astore (pc' := 157) (l' := #[.val (.int i0), .val (.int i1), .val (.int i2), .val (.int i3), .val (.int ((i0 &&& (2147483647 : Int32)) % (3 : Int32))), .val (.int ((i1 &&& (2147483647 : Int32)) % (5 : Int32))), .val (.ref b74), .val (.ref a_MOD), .unset]) at_155 rfl rfl rfl
          replace R := R.aload (pc' := 159) (v := (.ref b74)) at_157 rfl rfl rfl
          have K80 := ((Keep.refl h77 []).trans K78 all0)
          have F81 := Sx.keep K80 nin0 all0
          obtain ⟨_, h79, _, ⟨r79, rfl, K79, X79, F79, rfl⟩, R⟩ := R.callS (pc' := 162) (argsL := [(.ref b74)]) (rest := []) (W := 0) (own_w53 hw) (own_w54 hw) (own_w55 hw) (own_w56 hw) (by decide) (rm_forWord_0 C.l Z a0 hw b74 h78 n0 (b74 :: r47 :: Ds) own_cs S_MOD X_MOD S_PARTITIONS X_PARTITIONS S_BLOCKS X_BLOCKS F_MOD_word T_MOD_word F_PARTITIONS_word T_PARTITIONS_word F_BLOCKS_word T_BLOCKS_word S__VALUES X__VALUES V__VALUES S_EMPTY X_eO F_eO F81) rfl (lenOf own_pd7 rfl) rfl rfl at_159 (by decide) (by decide) (by decide) (by decide) rfl
          replace R := R.mono (ce' := 7) (sl' := 46) (by decide) (by decide)
          replace R := R.stk (S' := [(.ref r79)]) rfl
          replace R := R.astore (pc' := 164) (l' := #[.val (.int i0), .val (.int i1), .val (.int i2), .val (.int i3), .val (.int ((i0 &&& (2147483647 : Int32)) % (3 : Int32))), .val (.int ((i1 &&& (2147483647 : Int32)) % (5 : Int32))), .val (.ref b74), .val (.ref a_MOD), .val (.ref r79)]) at_162 rfl rfl rfl
          replace R := R.aload (pc' := 166) (v := (.ref r79)) at_164 rfl rfl rfl
          replace R := R.anull (pc' := 167) at_166 rfl
          obtain ⟨_, _, _, ⟨rfl, rfl, rfl⟩, R⟩ := R.callV (pc' := 170) (y := (⟨"java/util/Optional", "orElse", "(Ljava/lang/Object;)Ljava/lang/Object;"⟩ : MethodName)) (z := (⟨"java/util/Optional", "orElse", "(Ljava/lang/Object;)Ljava/lang/Object;"⟩ : MethodName)) (argsL := [.null]) (rest := []) (W := 0) (own_w83 hw) (own_w84 hw) (fun s' hZ' => notFace_of_selects (args := #[]) (mvT hZ' (own_w86 hw))) (own_w86 hw) (own_w85 hw) (own_w80 hw) (own_w87 hw) (by decide) X79 (rm_optorElse_full C.l Z a0 hw r79 a_MOD h79 n0 (b74 :: r47 :: Ds) F79) rfl (lenOf own_pd0 rfl) rfl rfl at_167 (by decide) (by decide) (by decide) (by decide) rfl
          replace R := R.mono (ce' := 7) (sl' := 46) (by decide) (by decide)
          replace R := R.stk (S' := [(.ref a_MOD)]) rfl
          replace R := R.aload (pc' := 172) (v := (.ref a_MOD)) at_170 rfl rfl rfl
          replace R := R.acmp (pc' := 175) (same := true) at_172 rfl rfl (decide_eq_true rfl) (by decide) (by decide)
          replace R := R.iconst (pc' := 176) (z := (1 : Int32)) at_175 rfl rfl
          replace R := R.goto (pc' := 180) at_176 (by decide) rfl
          exact R.retN (Ds' := []) hret (by simp) (show nar .boolean 1 = 1 from rfl) at_180 (by decide) (by decide) (fun _ q => nomatch q) rfl
        · by_cases q1 : cs73 = [112, 97, 114, 116, 105, 116, 105, 111, 110, 115]
          · subst q1
            replace R := R.aload (pc' := 152) (v := (.ref b74)) at_150 rfl rfl rfl
            obtain ⟨_, h82, _, ⟨rfl, K82, rfl⟩, R⟩ := R.callS (pc' := 155) (argsL := [(.ref b74)]) (rest := []) (W := 0) (own_w35 hw) (own_w36 hw) (own_w3 hw) (own_w37 hw) (by decide) (rm_expected_1 C.l Z a0 hw b74 h77 n0 (b74 :: r47 :: Ds) own_cs S_MOD X_MOD S_PARTITIONS X_PARTITIONS S_BLOCKS X_BLOCKS F_MOD_word T_MOD_word F_PARTITIONS_word T_PARTITIONS_word F_BLOCKS_word T_BLOCKS_word S__VALUES X__VALUES V__VALUES S_EMPTY X_eO F_eO Sx) rfl (lenOf own_pd6 rfl) rfl rfl at_152 (by decide) (by decide) (by decide) (by decide) rfl
            replace R := R.mono (ce' := 7) (sl' := 86) (by decide) (by decide)
            replace R := R.stk (S' := [(.ref a_PARTITIONS)]) rfl
            replace R := R.astore (pc' := 157) (l' := #[.val (.int i0), .val (.int i1), .val (.int i2), .val (.int i3), .val (.int ((i0 &&& (2147483647 : Int32)) % (3 : Int32))), .val (.int ((i1 &&& (2147483647 : Int32)) % (5 : Int32))), .val (.ref b74), .val (.ref a_PARTITIONS), .unset]) at_155 rfl rfl rfl
            replace R := R.aload (pc' := 159) (v := (.ref b74)) at_157 rfl rfl rfl
            have K84 := ((Keep.refl h77 []).trans K82 all0)
            have F85 := Sx.keep K84 nin0 all0
            obtain ⟨_, h83, _, ⟨r83, rfl, K83, X83, F83, rfl⟩, R⟩ := R.callS (pc' := 162) (argsL := [(.ref b74)]) (rest := []) (W := 0) (own_w53 hw) (own_w54 hw) (own_w55 hw) (own_w56 hw) (by decide) (rm_forWord_1 C.l Z a0 hw b74 h82 n0 (b74 :: r47 :: Ds) own_cs S_MOD X_MOD S_PARTITIONS X_PARTITIONS S_BLOCKS X_BLOCKS F_MOD_word T_MOD_word F_PARTITIONS_word T_PARTITIONS_word F_BLOCKS_word T_BLOCKS_word S__VALUES X__VALUES V__VALUES S_EMPTY X_eO F_eO F85) rfl (lenOf own_pd7 rfl) rfl rfl at_159 (by decide) (by decide) (by decide) (by decide) rfl
            replace R := R.mono (ce' := 9) (sl' := 90) (by decide) (by decide)
            replace R := R.stk (S' := [(.ref r83)]) rfl
            replace R := R.astore (pc' := 164) (l' := #[.val (.int i0), .val (.int i1), .val (.int i2), .val (.int i3), .val (.int ((i0 &&& (2147483647 : Int32)) % (3 : Int32))), .val (.int ((i1 &&& (2147483647 : Int32)) % (5 : Int32))), .val (.ref b74), .val (.ref a_PARTITIONS), .val (.ref r83)]) at_162 rfl rfl rfl
            replace R := R.aload (pc' := 166) (v := (.ref r83)) at_164 rfl rfl rfl
            replace R := R.anull (pc' := 167) at_166 rfl
            obtain ⟨_, _, _, ⟨rfl, rfl, rfl⟩, R⟩ := R.callV (pc' := 170) (y := (⟨"java/util/Optional", "orElse", "(Ljava/lang/Object;)Ljava/lang/Object;"⟩ : MethodName)) (z := (⟨"java/util/Optional", "orElse", "(Ljava/lang/Object;)Ljava/lang/Object;"⟩ : MethodName)) (argsL := [.null]) (rest := []) (W := 0) (own_w83 hw) (own_w84 hw) (fun s' hZ' => notFace_of_selects (args := #[]) (mvT hZ' (own_w86 hw))) (own_w86 hw) (own_w85 hw) (own_w80 hw) (own_w87 hw) (by decide) X83 (rm_optorElse_full C.l Z a0 hw r83 a_PARTITIONS h83 n0 (b74 :: r47 :: Ds) F83) rfl (lenOf own_pd0 rfl) rfl rfl at_167 (by decide) (by decide) (by decide) (by decide) rfl
            replace R := R.mono (ce' := 9) (sl' := 90) (by decide) (by decide)
            replace R := R.stk (S' := [(.ref a_PARTITIONS)]) rfl
            replace R := R.aload (pc' := 172) (v := (.ref a_PARTITIONS)) at_170 rfl rfl rfl
            replace R := R.acmp (pc' := 175) (same := true) at_172 rfl rfl (decide_eq_true rfl) (by decide) (by decide)
            replace R := R.iconst (pc' := 176) (z := (1 : Int32)) at_175 rfl rfl
            replace R := R.goto (pc' := 180) at_176 (by decide) rfl
            exact R.retN (Ds' := []) hret (by simp) (show nar .boolean 1 = 1 from rfl) at_180 (by decide) (by decide) (fun _ q => nomatch q) rfl
          · by_cases q2 : cs73 = [98, 108, 111, 99, 107, 115]
            · subst q2
              replace R := R.aload (pc' := 152) (v := (.ref b74)) at_150 rfl rfl rfl
              obtain ⟨_, h86, _, ⟨rfl, K86, rfl⟩, R⟩ := R.callS (pc' := 155) (argsL := [(.ref b74)]) (rest := []) (W := 0) (own_w35 hw) (own_w36 hw) (own_w3 hw) (own_w37 hw) (by decide) (rm_expected_2 C.l Z a0 hw b74 h77 n0 (b74 :: r47 :: Ds) own_cs S_MOD X_MOD S_PARTITIONS X_PARTITIONS S_BLOCKS X_BLOCKS F_MOD_word T_MOD_word F_PARTITIONS_word T_PARTITIONS_word F_BLOCKS_word T_BLOCKS_word S__VALUES X__VALUES V__VALUES S_EMPTY X_eO F_eO Sx) rfl (lenOf own_pd6 rfl) rfl rfl at_152 (by decide) (by decide) (by decide) (by decide) rfl
              replace R := R.mono (ce' := 9) (sl' := 114) (by decide) (by decide)
              replace R := R.stk (S' := [(.ref a_BLOCKS)]) rfl
              replace R := R.astore (pc' := 157) (l' := #[.val (.int i0), .val (.int i1), .val (.int i2), .val (.int i3), .val (.int ((i0 &&& (2147483647 : Int32)) % (3 : Int32))), .val (.int ((i1 &&& (2147483647 : Int32)) % (5 : Int32))), .val (.ref b74), .val (.ref a_BLOCKS), .unset]) at_155 rfl rfl rfl
              replace R := R.aload (pc' := 159) (v := (.ref b74)) at_157 rfl rfl rfl
              have K88 := ((Keep.refl h77 []).trans K86 all0)
              have F89 := Sx.keep K88 nin0 all0
              obtain ⟨_, h87, _, ⟨r87, rfl, K87, X87, F87, rfl⟩, R⟩ := R.callS (pc' := 162) (argsL := [(.ref b74)]) (rest := []) (W := 0) (own_w53 hw) (own_w54 hw) (own_w55 hw) (own_w56 hw) (by decide) (rm_forWord_2 C.l Z a0 hw b74 h86 n0 (b74 :: r47 :: Ds) own_cs S_MOD X_MOD S_PARTITIONS X_PARTITIONS S_BLOCKS X_BLOCKS F_MOD_word T_MOD_word F_PARTITIONS_word T_PARTITIONS_word F_BLOCKS_word T_BLOCKS_word S__VALUES X__VALUES V__VALUES S_EMPTY X_eO F_eO F89) rfl (lenOf own_pd7 rfl) rfl rfl at_159 (by decide) (by decide) (by decide) (by decide) rfl
              replace R := R.mono (ce' := 11) (sl' := 118) (by decide) (by decide)
              replace R := R.stk (S' := [(.ref r87)]) rfl
              replace R := R.astore (pc' := 164) (l' := #[.val (.int i0), .val (.int i1), .val (.int i2), .val (.int i3), .val (.int ((i0 &&& (2147483647 : Int32)) % (3 : Int32))), .val (.int ((i1 &&& (2147483647 : Int32)) % (5 : Int32))), .val (.ref b74), .val (.ref a_BLOCKS), .val (.ref r87)]) at_162 rfl rfl rfl
              replace R := R.aload (pc' := 166) (v := (.ref r87)) at_164 rfl rfl rfl
              replace R := R.anull (pc' := 167) at_166 rfl
              obtain ⟨_, _, _, ⟨rfl, rfl, rfl⟩, R⟩ := R.callV (pc' := 170) (y := (⟨"java/util/Optional", "orElse", "(Ljava/lang/Object;)Ljava/lang/Object;"⟩ : MethodName)) (z := (⟨"java/util/Optional", "orElse", "(Ljava/lang/Object;)Ljava/lang/Object;"⟩ : MethodName)) (argsL := [.null]) (rest := []) (W := 0) (own_w83 hw) (own_w84 hw) (fun s' hZ' => notFace_of_selects (args := #[]) (mvT hZ' (own_w86 hw))) (own_w86 hw) (own_w85 hw) (own_w80 hw) (own_w87 hw) (by decide) X87 (rm_optorElse_full C.l Z a0 hw r87 a_BLOCKS h87 n0 (b74 :: r47 :: Ds) F87) rfl (lenOf own_pd0 rfl) rfl rfl at_167 (by decide) (by decide) (by decide) (by decide) rfl
              replace R := R.mono (ce' := 11) (sl' := 118) (by decide) (by decide)
              replace R := R.stk (S' := [(.ref a_BLOCKS)]) rfl
              replace R := R.aload (pc' := 172) (v := (.ref a_BLOCKS)) at_170 rfl rfl rfl
              replace R := R.acmp (pc' := 175) (same := true) at_172 rfl rfl (decide_eq_true rfl) (by decide) (by decide)
              replace R := R.iconst (pc' := 176) (z := (1 : Int32)) at_175 rfl rfl
              replace R := R.goto (pc' := 180) at_176 (by decide) rfl
              exact R.retN (Ds' := []) hret (by simp) (show nar .boolean 1 = 1 from rfl) at_180 (by decide) (by decide) (fun _ q => nomatch q) rfl
            · have q_end := True.intro
              replace R := R.aload (pc' := 152) (v := (.ref b74)) at_150 rfl rfl rfl
              obtain ⟨_, h90, _, ⟨rfl, K90, rfl⟩, R⟩ := R.callS (pc' := 155) (argsL := [(.ref b74)]) (rest := []) (W := 0) (own_w35 hw) (own_w36 hw) (own_w3 hw) (own_w37 hw) (by decide) (rm_expected_other C.l Z a0 hw b74 h77 n0 (b74 :: r47 :: Ds) own_cs S_MOD X_MOD S_PARTITIONS X_PARTITIONS S_BLOCKS X_BLOCKS F_MOD_word T_MOD_word F_PARTITIONS_word T_PARTITIONS_word F_BLOCKS_word T_BLOCKS_word S__VALUES X__VALUES V__VALUES S_EMPTY X_eO F_eO Sx q0 q1 q2) rfl (lenOf own_pd6 rfl) rfl rfl at_152 (by decide) (by decide) (by decide) (by decide) rfl
              replace R := R.mono (ce' := 9) (sl' := 114) (by decide) (by decide)
              replace R := R.stk (S' := [.null]) rfl
              replace R := R.astore (pc' := 157) (l' := #[.val (.int i0), .val (.int i1), .val (.int i2), .val (.int i3), .val (.int ((i0 &&& (2147483647 : Int32)) % (3 : Int32))), .val (.int ((i1 &&& (2147483647 : Int32)) % (5 : Int32))), .val (.ref b74), .val .null, .unset]) at_155 rfl rfl rfl
              replace R := R.aload (pc' := 159) (v := (.ref b74)) at_157 rfl rfl rfl
              have K92 := ((Keep.refl h77 []).trans K90 all0)
              have F93 := Sx.keep K92 nin0 all0
              obtain ⟨_, h91, _, ⟨rfl, K91, rfl⟩, R⟩ := R.callS (pc' := 162) (argsL := [(.ref b74)]) (rest := []) (W := 0) (own_w53 hw) (own_w54 hw) (own_w55 hw) (own_w56 hw) (by decide) (rm_forWord_other C.l Z a0 hw b74 h90 n0 (b74 :: r47 :: Ds) own_cs S_MOD X_MOD S_PARTITIONS X_PARTITIONS S_BLOCKS X_BLOCKS F_MOD_word T_MOD_word F_PARTITIONS_word T_PARTITIONS_word F_BLOCKS_word T_BLOCKS_word S__VALUES X__VALUES V__VALUES S_EMPTY X_eO F_eO F93 q0 q1 q2) rfl (lenOf own_pd7 rfl) rfl rfl at_159 (by decide) (by decide) (by decide) (by decide) rfl
              replace R := R.mono (ce' := 10) (sl' := 117) (by decide) (by decide)
              replace R := R.stk (S' := [(.ref eO)]) rfl
              replace R := R.astore (pc' := 164) (l' := #[.val (.int i0), .val (.int i1), .val (.int i2), .val (.int i3), .val (.int ((i0 &&& (2147483647 : Int32)) % (3 : Int32))), .val (.int ((i1 &&& (2147483647 : Int32)) % (5 : Int32))), .val (.ref b74), .val .null, .val (.ref eO)]) at_162 rfl rfl rfl
              replace R := R.aload (pc' := 166) (v := (.ref eO)) at_164 rfl rfl rfl
              replace R := R.anull (pc' := 167) at_166 rfl
              have K94 := (Keep.refl Z.heap []).ext R.old.2
              have F95 := F_eO.keep K94 nin0
              have K96 := (Keep.refl Z.heap []).ext R.old.2
              have F97 := X_eO.keep K96
              obtain ⟨_, _, _, ⟨rfl, rfl, rfl⟩, R⟩ := R.callV (pc' := 170) (y := (⟨"java/util/Optional", "orElse", "(Ljava/lang/Object;)Ljava/lang/Object;"⟩ : MethodName)) (z := (⟨"java/util/Optional", "orElse", "(Ljava/lang/Object;)Ljava/lang/Object;"⟩ : MethodName)) (argsL := [.null]) (rest := []) (W := 0) (own_w83 hw) (own_w84 hw) (fun s' hZ' => notFace_of_selects (args := #[]) (mvT hZ' (own_w86 hw))) (own_w86 hw) (own_w85 hw) (own_w80 hw) (own_w87 hw) (by decide) F97 (rm_optorElse_none C.l Z a0 hw eO  h91 n0 (b74 :: r47 :: Ds) F95) rfl (lenOf own_pd0 rfl) rfl rfl at_167 (by decide) (by decide) (by decide) (by decide) rfl
              replace R := R.mono (ce' := 10) (sl' := 117) (by decide) (by decide)
              replace R := R.stk (S' := [.null]) rfl
              replace R := R.aload (pc' := 172) (v := .null) at_170 rfl rfl rfl
              replace R := R.acmp (pc' := 175) (same := true) at_172 rfl rfl (decide_eq_true rfl) (by decide) (by decide)
              replace R := R.iconst (pc' := 176) (z := (1 : Int32)) at_175 rfl rfl
              replace R := R.goto (pc' := 180) at_176 (by decide) rfl
              exact R.retN (Ds' := []) hret (by simp) (show nar .boolean 1 = 1 from rfl) at_180 (by decide) (by decide) (fun _ q => nomatch q) rfl
set_option maxRecDepth 65536 in
set_option maxHeartbeats 40000000 in
theorem comes_1 {Post : Tables → Env → Array Value → State → Outcome → State → Prop} (hpost : ∀ tb e args s v u, (limb_1_1.after args s (.returned v) u = true ∧ limb_1_2.after args s (.returned v) u = true ∧ True) → ReturnedEndW s (.returned v) u (Jvm.fieldLocs frame_1_writes args s ++ Jvm.arrayLocs frame_1_arrays args s ++ Jvm.staticLocs frame_1_statics s) 32 4288 → Post tb e args s (.returned v) u) :
    ArmFor flags0 classFile x code maxLocals ret World_1 tables_1 room_1 Calls_1 rest_1 Pre_1 Post := by
  intro l hfl _ _ p e ha hc hk s m args below hf hA hF happ hP
  obtain ⟨hcalls, hrest, hpre⟩ := hP
  obtain ⟨-, -, -, hnamed, -, -, -, hat⟩ := (Spec.applies_iff hf).mp happ
  obtain ⟨hg, hn⟩ := and_e (Cond.before_iff.mp (show (Jvm.Cond.and given_1 narrow_1).before args s = true from hpre))
  obtain ⟨g1, g2⟩ := and_e hg
  obtain ⟨g3, g4⟩ := and_e g2
  obtain ⟨g5, g6⟩ := and_e g4
  obtain ⟨g7, g8⟩ := and_e g6
  obtain ⟨g9, g10⟩ := and_e hn
  -- g9 : (Jvm.Cond.arrayOf (Jvm.Term.static "com/example/slicewise/slicewise/plan/Method" "$VALUES" "[Lcom/example/slicewise/slicewise/plan/Method;") (Jvm.ClassFile.FieldType.object "com/example/slicewise/slicewise/plan/Method"))
  obtain ⟨g11, g12⟩ := and_e g10
  -- g11 : (Jvm.Cond.exactly (Jvm.Term.static "com/example/slicewise/slicewise/plan/Method" "$VALUES" "[Lcom/example/slicewise/slicewise/plan/Method;") "[Lcom/example/slicewise/slicewise/plan/Method;")
  obtain ⟨g13, g14⟩ := and_e g12
  -- g13 : (Jvm.Cond.eq (Jvm.Term.length (Jvm.Term.static "com/example/slicewise/slicewise/plan/Method" "$VALUES" "[Lcom/example/slicewise/slicewise/plan/Method;")) (Jvm.Term.int (3 : Int32)))
  obtain ⟨g15, g16⟩ := and_e g14
  -- g15 : (Jvm.Cond.exactly (Jvm.Term.static "com/example/slicewise/slicewise/plan/Method" "MOD" "Lcom/example/slicewise/slicewise/plan/Method;") "com/example/slicewise/slicewise/plan/Method")
  obtain ⟨g17, g18⟩ := and_e g16
  -- g17 : (Jvm.Cond.eq (Jvm.Term.elem (Jvm.Term.static "com/example/slicewise/slicewise/plan/Method" "$VALUES" "[Lcom/example/slicewise/slicewise/plan/Method;") (Jvm.Term.int (0 : Int32))) (Jvm.Term.static "com/example/slicewise/slicewise/plan/Method" "MOD" "Lcom/example/slicewise/slicewise/plan/Method;"))
  obtain ⟨g19, g20⟩ := and_e g18
  -- g19 : (Jvm.Cond.exactly (Jvm.Term.static "com/example/slicewise/slicewise/plan/Method" "PARTITIONS" "Lcom/example/slicewise/slicewise/plan/Method;") "com/example/slicewise/slicewise/plan/Method")
  obtain ⟨g21, g22⟩ := and_e g20
  -- g21 : (Jvm.Cond.eq (Jvm.Term.elem (Jvm.Term.static "com/example/slicewise/slicewise/plan/Method" "$VALUES" "[Lcom/example/slicewise/slicewise/plan/Method;") (Jvm.Term.int (1 : Int32))) (Jvm.Term.static "com/example/slicewise/slicewise/plan/Method" "PARTITIONS" "Lcom/example/slicewise/slicewise/plan/Method
  obtain ⟨g23, g24⟩ := and_e g22
  -- g23 : (Jvm.Cond.exactly (Jvm.Term.static "com/example/slicewise/slicewise/plan/Method" "BLOCKS" "Lcom/example/slicewise/slicewise/plan/Method;") "com/example/slicewise/slicewise/plan/Method")
  obtain ⟨g25, g26⟩ := and_e g24
  -- g25 : (Jvm.Cond.eq (Jvm.Term.elem (Jvm.Term.static "com/example/slicewise/slicewise/plan/Method" "$VALUES" "[Lcom/example/slicewise/slicewise/plan/Method;") (Jvm.Term.int (2 : Int32))) (Jvm.Term.static "com/example/slicewise/slicewise/plan/Method" "BLOCKS" "Lcom/example/slicewise/slicewise/plan/Method;"))
  obtain ⟨g27, g28⟩ := and_e g26
  -- g27 : (Jvm.Cond.exactly (Jvm.Term.field (Jvm.Term.static "com/example/slicewise/slicewise/plan/Method" "MOD" "Lcom/example/slicewise/slicewise/plan/Method;") "com/example/slicewise/slicewise/plan/Method" "word" "Ljava/lang/String;") "java/lang/String")
  obtain ⟨g29, g30⟩ := and_e g28
  -- g29 : (Jvm.Cond.eq (Jvm.Term.field (Jvm.Term.field (Jvm.Term.static "com/example/slicewise/slicewise/plan/Method" "MOD" "Lcom/example/slicewise/slicewise/plan/Method;") "com/example/slicewise/slicewise/plan/Method" "word" "Ljava/lang/String;") "java/lang/String" "coder" "B") (Jvm.Term.int (0 : Int32)))
  obtain ⟨g31, g32⟩ := and_e g30
  -- g31 : (Jvm.Cond.arrayOf (Jvm.Term.field (Jvm.Term.field (Jvm.Term.static "com/example/slicewise/slicewise/plan/Method" "MOD" "Lcom/example/slicewise/slicewise/plan/Method;") "com/example/slicewise/slicewise/plan/Method" "word" "Ljava/lang/String;") "java/lang/String" "value" "[B") Jvm.ClassFile.FieldType.
  obtain ⟨g33, g34⟩ := and_e g32
  -- g33 : (Jvm.Cond.eq (Jvm.Term.length (Jvm.Term.field (Jvm.Term.field (Jvm.Term.static "com/example/slicewise/slicewise/plan/Method" "MOD" "Lcom/example/slicewise/slicewise/plan/Method;") "com/example/slicewise/slicewise/plan/Method" "word" "Ljava/lang/String;") "java/lang/String" "value" "[B")) (Jvm.Term.i
  obtain ⟨g35, g36⟩ := and_e g34
  -- g35 : (Jvm.Cond.exactly (Jvm.Term.field (Jvm.Term.static "com/example/slicewise/slicewise/plan/Method" "PARTITIONS" "Lcom/example/slicewise/slicewise/plan/Method;") "com/example/slicewise/slicewise/plan/Method" "word" "Ljava/lang/String;") "java/lang/String")
  obtain ⟨g37, g38⟩ := and_e g36
  -- g37 : (Jvm.Cond.eq (Jvm.Term.field (Jvm.Term.field (Jvm.Term.static "com/example/slicewise/slicewise/plan/Method" "PARTITIONS" "Lcom/example/slicewise/slicewise/plan/Method;") "com/example/slicewise/slicewise/plan/Method" "word" "Ljava/lang/String;") "java/lang/String" "coder" "B") (Jvm.Term.int (0 : Int3
  obtain ⟨g39, g40⟩ := and_e g38
  -- g39 : (Jvm.Cond.arrayOf (Jvm.Term.field (Jvm.Term.field (Jvm.Term.static "com/example/slicewise/slicewise/plan/Method" "PARTITIONS" "Lcom/example/slicewise/slicewise/plan/Method;") "com/example/slicewise/slicewise/plan/Method" "word" "Ljava/lang/String;") "java/lang/String" "value" "[B") Jvm.ClassFile.Fie
  obtain ⟨g41, g42⟩ := and_e g40
  -- g41 : (Jvm.Cond.eq (Jvm.Term.length (Jvm.Term.field (Jvm.Term.field (Jvm.Term.static "com/example/slicewise/slicewise/plan/Method" "PARTITIONS" "Lcom/example/slicewise/slicewise/plan/Method;") "com/example/slicewise/slicewise/plan/Method" "word" "Ljava/lang/String;") "java/lang/String" "value" "[B")) (Jvm
  obtain ⟨g43, g44⟩ := and_e g42
  -- g43 : (Jvm.Cond.exactly (Jvm.Term.field (Jvm.Term.static "com/example/slicewise/slicewise/plan/Method" "BLOCKS" "Lcom/example/slicewise/slicewise/plan/Method;") "com/example/slicewise/slicewise/plan/Method" "word" "Ljava/lang/String;") "java/lang/String")
  obtain ⟨g45, g46⟩ := and_e g44
  -- g45 : (Jvm.Cond.eq (Jvm.Term.field (Jvm.Term.field (Jvm.Term.static "com/example/slicewise/slicewise/plan/Method" "BLOCKS" "Lcom/example/slicewise/slicewise/plan/Method;") "com/example/slicewise/slicewise/plan/Method" "word" "Ljava/lang/String;") "java/lang/String" "coder" "B") (Jvm.Term.int (0 : Int32)))
  obtain ⟨g47, g48⟩ := and_e g46
  -- g47 : (Jvm.Cond.arrayOf (Jvm.Term.field (Jvm.Term.field (Jvm.Term.static "com/example/slicewise/slicewise/plan/Method" "BLOCKS" "Lcom/example/slicewise/slicewise/plan/Method;") "com/example/slicewise/slicewise/plan/Method" "word" "Ljava/lang/String;") "java/lang/String" "value" "[B") Jvm.ClassFile.FieldTy
  obtain ⟨g49, g50⟩ := and_e g48
  -- g49 : (Jvm.Cond.eq (Jvm.Term.length (Jvm.Term.field (Jvm.Term.field (Jvm.Term.static "com/example/slicewise/slicewise/plan/Method" "BLOCKS" "Lcom/example/slicewise/slicewise/plan/Method;") "com/example/slicewise/slicewise/plan/Method" "word" "Ljava/lang/String;") "java/lang/String" "value" "[B")) (Jvm.Ter
  obtain ⟨g51, g52⟩ := and_e g50
  -- g51 : (Jvm.Cond.eq (Jvm.Term.elem (Jvm.Term.field (Jvm.Term.field (Jvm.Term.static "com/example/slicewise/slicewise/plan/Method" "MOD" "Lcom/example/slicewise/slicewise/plan/Method;") "com/example/slicewise/slicewise/plan/Method" "word" "Ljava/lang/String;") "java/lang/String" "value" "[B") (Jvm.Term.int 
  obtain ⟨g53, g54⟩ := and_e g52
  -- g53 : (Jvm.Cond.eq (Jvm.Term.elem (Jvm.Term.field (Jvm.Term.field (Jvm.Term.static "com/example/slicewise/slicewise/plan/Method" "MOD" "Lcom/example/slicewise/slicewise/plan/Method;") "com/example/slicewise/slicewise/plan/Method" "word" "Ljava/lang/String;") "java/lang/String" "value" "[B") (Jvm.Term.int 
  obtain ⟨g55, g56⟩ := and_e g54
  -- g55 : (Jvm.Cond.eq (Jvm.Term.elem (Jvm.Term.field (Jvm.Term.field (Jvm.Term.static "com/example/slicewise/slicewise/plan/Method" "MOD" "Lcom/example/slicewise/slicewise/plan/Method;") "com/example/slicewise/slicewise/plan/Method" "word" "Ljava/lang/String;") "java/lang/String" "value" "[B") (Jvm.Term.int 
  obtain ⟨g57, g58⟩ := and_e g56
  -- g57 : (Jvm.Cond.eq (Jvm.Term.elem (Jvm.Term.field (Jvm.Term.field (Jvm.Term.static "com/example/slicewise/slicewise/plan/Method" "PARTITIONS" "Lcom/example/slicewise/slicewise/plan/Method;") "com/example/slicewise/slicewise/plan/Method" "word" "Ljava/lang/String;") "java/lang/String" "value" "[B") (Jvm.Te
  obtain ⟨g59, g60⟩ := and_e g58
  -- g59 : (Jvm.Cond.eq (Jvm.Term.elem (Jvm.Term.field (Jvm.Term.field (Jvm.Term.static "com/example/slicewise/slicewise/plan/Method" "PARTITIONS" "Lcom/example/slicewise/slicewise/plan/Method;") "com/example/slicewise/slicewise/plan/Method" "word" "Ljava/lang/String;") "java/lang/String" "value" "[B") (Jvm.Te
  obtain ⟨g61, g62⟩ := and_e g60
  -- g61 : (Jvm.Cond.eq (Jvm.Term.elem (Jvm.Term.field (Jvm.Term.field (Jvm.Term.static "com/example/slicewise/slicewise/plan/Method" "PARTITIONS" "Lcom/example/slicewise/slicewise/plan/Method;") "com/example/slicewise/slicewise/plan/Method" "word" "Ljava/lang/String;") "java/lang/String" "value" "[B") (Jvm.Te
  obtain ⟨g63, g64⟩ := and_e g62
  -- g63 : (Jvm.Cond.eq (Jvm.Term.elem (Jvm.Term.field (Jvm.Term.field (Jvm.Term.static "com/example/slicewise/slicewise/plan/Method" "PARTITIONS" "Lcom/example/slicewise/slicewise/plan/Method;") "com/example/slicewise/slicewise/plan/Method" "word" "Ljava/lang/String;") "java/lang/String" "value" "[B") (Jvm.Te
  obtain ⟨g65, g66⟩ := and_e g64
  -- g65 : (Jvm.Cond.eq (Jvm.Term.elem (Jvm.Term.field (Jvm.Term.field (Jvm.Term.static "com/example/slicewise/slicewise/plan/Method" "PARTITIONS" "Lcom/example/slicewise/slicewise/plan/Method;") "com/example/slicewise/slicewise/plan/Method" "word" "Ljava/lang/String;") "java/lang/String" "value" "[B") (Jvm.Te
  obtain ⟨g67, g68⟩ := and_e g66
  -- g67 : (Jvm.Cond.eq (Jvm.Term.elem (Jvm.Term.field (Jvm.Term.field (Jvm.Term.static "com/example/slicewise/slicewise/plan/Method" "PARTITIONS" "Lcom/example/slicewise/slicewise/plan/Method;") "com/example/slicewise/slicewise/plan/Method" "word" "Ljava/lang/String;") "java/lang/String" "value" "[B") (Jvm.Te
  obtain ⟨g69, g70⟩ := and_e g68
  -- g69 : (Jvm.Cond.eq (Jvm.Term.elem (Jvm.Term.field (Jvm.Term.field (Jvm.Term.static "com/example/slicewise/slicewise/plan/Method" "PARTITIONS" "Lcom/example/slicewise/slicewise/plan/Method;") "com/example/slicewise/slicewise/plan/Method" "word" "Ljava/lang/String;") "java/lang/String" "value" "[B") (Jvm.Te
  obtain ⟨g71, g72⟩ := and_e g70
  -- g71 : (Jvm.Cond.eq (Jvm.Term.elem (Jvm.Term.field (Jvm.Term.field (Jvm.Term.static "com/example/slicewise/slicewise/plan/Method" "PARTITIONS" "Lcom/example/slicewise/slicewise/plan/Method;") "com/example/slicewise/slicewise/plan/Method" "word" "Ljava/lang/String;") "java/lang/String" "value" "[B") (Jvm.Te
  obtain ⟨g73, g74⟩ := and_e g72
  -- g73 : (Jvm.Cond.eq (Jvm.Term.elem (Jvm.Term.field (Jvm.Term.field (Jvm.Term.static "com/example/slicewise/slicewise/plan/Method" "PARTITIONS" "Lcom/example/slicewise/slicewise/plan/Method;") "com/example/slicewise/slicewise/plan/Method" "word" "Ljava/lang/String;") "java/lang/String" "value" "[B") (Jvm.Te
  obtain ⟨g75, g76⟩ := and_e g74
  -- g75 : (Jvm.Cond.eq (Jvm.Term.elem (Jvm.Term.field (Jvm.Term.field (Jvm.Term.static "com/example/slicewise/slicewise/plan/Method" "PARTITIONS" "Lcom/example/slicewise/slicewise/plan/Method;") "com/example/slicewise/slicewise/plan/Method" "word" "Ljava/lang/String;") "java/lang/String" "value" "[B") (Jvm.Te
  obtain ⟨g77, g78⟩ := and_e g76
  -- g77 : (Jvm.Cond.eq (Jvm.Term.elem (Jvm.Term.field (Jvm.Term.field (Jvm.Term.static "com/example/slicewise/slicewise/plan/Method" "BLOCKS" "Lcom/example/slicewise/slicewise/plan/Method;") "com/example/slicewise/slicewise/plan/Method" "word" "Ljava/lang/String;") "java/lang/String" "value" "[B") (Jvm.Term.i
  obtain ⟨g79, g80⟩ := and_e g78
  -- g79 : (Jvm.Cond.eq (Jvm.Term.elem (Jvm.Term.field (Jvm.Term.field (Jvm.Term.static "com/example/slicewise/slicewise/plan/Method" "BLOCKS" "Lcom/example/slicewise/slicewise/plan/Method;") "com/example/slicewise/slicewise/plan/Method" "word" "Ljava/lang/String;") "java/lang/String" "value" "[B") (Jvm.Term.i
  obtain ⟨g81, g82⟩ := and_e g80
  -- g81 : (Jvm.Cond.eq (Jvm.Term.elem (Jvm.Term.field (Jvm.Term.field (Jvm.Term.static "com/example/slicewise/slicewise/plan/Method" "BLOCKS" "Lcom/example/slicewise/slicewise/plan/Method;") "com/example/slicewise/slicewise/plan/Method" "word" "Ljava/lang/String;") "java/lang/String" "value" "[B") (Jvm.Term.i
  obtain ⟨g83, g84⟩ := and_e g82
  -- g83 : (Jvm.Cond.eq (Jvm.Term.elem (Jvm.Term.field (Jvm.Term.field (Jvm.Term.static "com/example/slicewise/slicewise/plan/Method" "BLOCKS" "Lcom/example/slicewise/slicewise/plan/Method;") "com/example/slicewise/slicewise/plan/Method" "word" "Ljava/lang/String;") "java/lang/String" "value" "[B") (Jvm.Term.i
  obtain ⟨g85, g86⟩ := and_e g84
  -- g85 : (Jvm.Cond.eq (Jvm.Term.elem (Jvm.Term.field (Jvm.Term.field (Jvm.Term.static "com/example/slicewise/slicewise/plan/Method" "BLOCKS" "Lcom/example/slicewise/slicewise/plan/Method;") "com/example/slicewise/slicewise/plan/Method" "word" "Ljava/lang/String;") "java/lang/String" "value" "[B") (Jvm.Term.i
  -- g86 : (Jvm.Cond.eq (Jvm.Term.elem (Jvm.Term.field (Jvm.Term.field (Jvm.Term.static "com/example/slicewise/slicewise/plan/Method" "BLOCKS" "Lcom/example/slicewise/slicewise/plan/Method;") "com/example/slicewise/slicewise/plan/Method" "word" "Ljava/lang/String;") "java/lang/String" "value" "[B") (Jvm.Term.i
  obtain ⟨w0, w1, w2, w3, rfl⟩ : ∃ w0 w1 w2 w3 : Value, args = #[w0, w1, w2, w3] := by
    have hs : args.size = 4 := by simpa [Cond.value, given_1] using g1
    obtain ⟨L⟩ := args
    match L, hs with
    | [w0, w1, w2, w3], _ => exact ⟨w0, w1, w2, w3, rfl⟩
  have hw := fun d (hd : d ∈ tables_1) => atoms_spec (ws := Jvm.Cond.code x code maxLocals ret :: tables_1) hat d (List.mem_cons_of_mem _ hd)
  have hfit : Fit s := fun {y c} hc i hi => by
    obtain ⟨ha, rfl⟩ := Array.getElem?_eq_some_iff.mp hc
    have q := List.all_eq_true.mp ((Array.all_eq_true_iff_forall_mem.mp hF) _ (Array.getElem_mem ha)) i (List.mem_range.mpr hi)
    simpa [Array.getElem?_eq_getElem hi] using q
  obtain ⟨hsets, hown0⟩ := atoms_of _ (rest_1_c_eq ▸ (show rest_1_c.before _ s = true from hrest))
  have hr0 := Cond.before_iff.mp hown0
  have own_cs : CompactOn s := by
    have n3 := not_v (Cond.before_iff.mp (hsets _ (List.mem_of_getElem? (i := 2) rfl)))
    obtain ⟨i7, e6⟩ := is_v (Cond.before_iff.mp (hsets _ (List.mem_of_getElem? (i := 1) rfl)))
    refine ⟨i7, Sta.start e6 (Or.inl (hsets _ (List.mem_of_getElem? (i := 0) rfl))), fun e0 => ?_⟩
    subst e0
    have q := eq_i e6 (Term.int_eval (0 : Int32)) rfl
    rw [q] at n3; cases n3
  have own_si : SiooOk s := by
    obtain ⟨v9, e10, r11⟩ := isR_v (Cond.before_iff.mp (hsets _ (List.mem_of_getElem? (i := 8) rfl)))
    exact ⟨v9, Sta.start e10 (Or.inl (hsets _ (List.mem_of_getElem? (i := 7) rfl))), r11⟩
  obtain ⟨i0, ei0⟩ := is_v g3
  obtain rfl : w0 = (.int i0) := Option.some.inj ei0
  obtain ⟨i1, ei1⟩ := is_v g5
  obtain rfl : w1 = (.int i1) := Option.some.inj ei1
  obtain ⟨i2, ei2⟩ := is_v g7
  obtain rfl : w2 = (.int i2) := Option.some.inj ei2
  obtain ⟨i3, ei3⟩ := is_v g8
  obtain rfl : w3 = (.int i3) := Option.some.inj ei3
  have hcw : Jvm.Lit.compactW.before (#[(.int i0), (.int i1), (.int i2), (.int i3)] : Array Value) s = true := (hsets _ (List.mem_of_getElem? (i := 2) rfl))
  have wS : ∀ d ∈ Bundle.stringAtoms, d.before _ s = true := fun d hd => hw d ((by decide +kernel : ∀ d ∈ Bundle.stringAtoms, d ∈ tables_1) d hd)
  have hlk : Lk s := by
    intro own idx hm
    simp only [CL, consts_1, List.mem_cons, List.not_mem_nil, or_false, Prod.mk.injEq] at hm
    rcases hm with ⟨rfl, rfl⟩ | ⟨rfl, rfl⟩ | ⟨rfl, rfl⟩ | ⟨rfl, rfl⟩
    · exact ⟨_, _, (own_w105 hw), by decide +kernel, wS⟩
    · exact ⟨_, _, (own_w38 hw), by decide +kernel, wS⟩
    · exact ⟨_, _, (own_w51 hw), by decide +kernel, wS⟩
    · exact ⟨_, _, (own_w52 hw), by decide +kernel, wS⟩
  have hlit : ∀ (own : String) (idx : Nat), (own, idx) ∈ CL → ConstHeldL s own idx := by
    intro own idx hm
    have hh : Jvm.Lit.constHeld s own idx := hcalls.1 (own, idx) hm
    have wi := wS _ (List.mem_of_getElem? (i := 1) rfl)
    have wa := wS _ (List.mem_of_getElem? (i := 2) rfl)
    simp only [CL, consts_1, List.mem_cons, List.not_mem_nil, or_false, Prod.mk.injEq] at hm
    rcases hm with ⟨rfl, rfl⟩ | ⟨rfl, rfl⟩ | ⟨rfl, rfl⟩ | ⟨rfl, rfl⟩
    · exact heldStart hh (own_w105 hw) (by decide +kernel) hcw wa wi
    · exact heldStart hh (own_w38 hw) (by decide +kernel) hcw wa wi
    · exact heldStart hh (own_w51 hw) (by decide +kernel) hcw wa wi
    · exact heldStart hh (own_w52 hw) (by decide +kernel) hcw wa wi
  have own_oe : ∃ eO : Addr, Sta s s.heap "java/util/Optional" "EMPTY" "Ljava/util/Optional;" (.ref eO) ∧ Exa s s.heap eO "java/util/Optional" ∧ Fld s s.heap eO "java/util/Optional" "value" "Ljava/lang/Object;" .null := by
    have h1 := Cond.before_iff.mp (hsets _ (List.mem_of_getElem? (i := 11) rfl))
    obtain ⟨x, e⟩ := exa_v h1
    exact ⟨x, Sta.start e (Or.inl (hsets _ (List.mem_of_getElem? (i := 10) rfl))), Exa.start e h1, g_fld e (null_v (Cond.before_iff.mp (hsets _ (List.mem_of_getElem? (i := 12) rfl))))⟩
  obtain ⟨a__VALUES, e__VALUES⟩ := arr_v g9
  have S__VALUES : Sta s s.heap "com/example/slicewise/slicewise/plan/Method" "$VALUES" "[Lcom/example/slicewise/slicewise/plan/Method;" (.ref a__VALUES) := Sta.start e__VALUES (Or.inr ⟨(own_w55 hw), (own_w61 hw)⟩)
  obtain ⟨c__VALUES, A__VALUES⟩ := Arr.start e__VALUES g9
  have X__VALUES := Exa.start e__VALUES g11
  obtain ⟨l1__VALUES, l2__VALUES⟩ := g_len (g_int g13) e__VALUES A__VALUES
  obtain ⟨a_MOD, e_MOD⟩ := exa_v g15
  have S_MOD : Sta s s.heap "com/example/slicewise/slicewise/plan/Method" "MOD" "Lcom/example/slicewise/slicewise/plan/Method;" (.ref a_MOD) := Sta.start e_MOD (Or.inr ⟨(own_w55 hw), (own_w69 hw)⟩)
  have X_MOD := Exa.start e_MOD g15
  have x__VALUES_0 := g_elem (g_ref g17 e_MOD) e__VALUES A__VALUES
  obtain ⟨a_PARTITIONS, e_PARTITIONS⟩ := exa_v g19
  have S_PARTITIONS : Sta s s.heap "com/example/slicewise/slicewise/plan/Method" "PARTITIONS" "Lcom/example/slicewise/slicewise/plan/Method;" (.ref a_PARTITIONS) := Sta.start e_PARTITIONS (Or.inr ⟨(own_w55 hw), (own_w70 hw)⟩)
  have X_PARTITIONS := Exa.start e_PARTITIONS g19
  have x__VALUES_1 := g_elem (g_ref g21 e_PARTITIONS) e__VALUES A__VALUES
  obtain ⟨a_BLOCKS, e_BLOCKS⟩ := exa_v g23
  have S_BLOCKS : Sta s s.heap "com/example/slicewise/slicewise/plan/Method" "BLOCKS" "Lcom/example/slicewise/slicewise/plan/Method;" (.ref a_BLOCKS) := Sta.start e_BLOCKS (Or.inr ⟨(own_w55 hw), (own_w71 hw)⟩)
  have X_BLOCKS := Exa.start e_BLOCKS g23
  have x__VALUES_2 := g_elem (g_ref g25 e_BLOCKS) e__VALUES A__VALUES
  obtain ⟨a_MOD_word, e_MOD_word⟩ := exa_v g27
  have F_MOD_word : Fld s s.heap a_MOD "com/example/slicewise/slicewise/plan/Method" "word" "Ljava/lang/String;" (.ref a_MOD_word) := g_fld e_MOD e_MOD_word
  have X_MOD_word := Exa.start e_MOD_word g27
  have F_MOD_word_coder : Fld s s.heap a_MOD_word "java/lang/String" "coder" "B" (.int (0 : Int32)) := g_fld e_MOD_word (g_int g29)
  obtain ⟨a_MOD_word_value, e_MOD_word_value⟩ := arr_v g31
  have F_MOD_word_value : Fld s s.heap a_MOD_word "java/lang/String" "value" "[B" (.ref a_MOD_word_value) := g_fld e_MOD_word e_MOD_word_value
  obtain ⟨c_MOD_word_value, A_MOD_word_value⟩ := Arr.start e_MOD_word_value g31
  obtain ⟨l1_MOD_word_value, l2_MOD_word_value⟩ := g_len (g_int g33) e_MOD_word_value A_MOD_word_value
  obtain ⟨a_PARTITIONS_word, e_PARTITIONS_word⟩ := exa_v g35
  have F_PARTITIONS_word : Fld s s.heap a_PARTITIONS "com/example/slicewise/slicewise/plan/Method" "word" "Ljava/lang/String;" (.ref a_PARTITIONS_word) := g_fld e_PARTITIONS e_PARTITIONS_word
  have X_PARTITIONS_word := Exa.start e_PARTITIONS_word g35
  have F_PARTITIONS_word_coder : Fld s s.heap a_PARTITIONS_word "java/lang/String" "coder" "B" (.int (0 : Int32)) := g_fld e_PARTITIONS_word (g_int g37)
  obtain ⟨a_PARTITIONS_word_value, e_PARTITIONS_word_value⟩ := arr_v g39
  have F_PARTITIONS_word_value : Fld s s.heap a_PARTITIONS_word "java/lang/String" "value" "[B" (.ref a_PARTITIONS_word_value) := g_fld e_PARTITIONS_word e_PARTITIONS_word_value
  obtain ⟨c_PARTITIONS_word_value, A_PARTITIONS_word_value⟩ := Arr.start e_PARTITIONS_word_value g39
  obtain ⟨l1_PARTITIONS_word_value, l2_PARTITIONS_word_value⟩ := g_len (g_int g41) e_PARTITIONS_word_value A_PARTITIONS_word_value
  obtain ⟨a_BLOCKS_word, e_BLOCKS_word⟩ := exa_v g43
  have F_BLOCKS_word : Fld s s.heap a_BLOCKS "com/example/slicewise/slicewise/plan/Method" "word" "Ljava/lang/String;" (.ref a_BLOCKS_word) := g_fld e_BLOCKS e_BLOCKS_word
  have X_BLOCKS_word := Exa.start e_BLOCKS_word g43
  have F_BLOCKS_word_coder : Fld s s.heap a_BLOCKS_word "java/lang/String" "coder" "B" (.int (0 : Int32)) := g_fld e_BLOCKS_word (g_int g45)
  obtain ⟨a_BLOCKS_word_value, e_BLOCKS_word_value⟩ := arr_v g47
  have F_BLOCKS_word_value : Fld s s.heap a_BLOCKS_word "java/lang/String" "value" "[B" (.ref a_BLOCKS_word_value) := g_fld e_BLOCKS_word e_BLOCKS_word_value
  obtain ⟨c_BLOCKS_word_value, A_BLOCKS_word_value⟩ := Arr.start e_BLOCKS_word_value g47
  obtain ⟨l1_BLOCKS_word_value, l2_BLOCKS_word_value⟩ := g_len (g_int g49) e_BLOCKS_word_value A_BLOCKS_word_value
  have x_MOD_word_value_0 := g_elem (g_int g51) e_MOD_word_value A_MOD_word_value
  have x_MOD_word_value_1 := g_elem (g_int g53) e_MOD_word_value A_MOD_word_value
  have x_MOD_word_value_2 := g_elem (g_int g55) e_MOD_word_value A_MOD_word_value
  have x_PARTITIONS_word_value_0 := g_elem (g_int g57) e_PARTITIONS_word_value A_PARTITIONS_word_value
  have x_PARTITIONS_word_value_1 := g_elem (g_int g59) e_PARTITIONS_word_value A_PARTITIONS_word_value
  have x_PARTITIONS_word_value_2 := g_elem (g_int g61) e_PARTITIONS_word_value A_PARTITIONS_word_value
  have x_PARTITIONS_word_value_3 := g_elem (g_int g63) e_PARTITIONS_word_value A_PARTITIONS_word_value
  have x_PARTITIONS_word_value_4 := g_elem (g_int g65) e_PARTITIONS_word_value A_PARTITIONS_word_value
  have x_PARTITIONS_word_value_5 := g_elem (g_int g67) e_PARTITIONS_word_value A_PARTITIONS_word_value
  have x_PARTITIONS_word_value_6 := g_elem (g_int g69) e_PARTITIONS_word_value A_PARTITIONS_word_value
  have x_PARTITIONS_word_value_7 := g_elem (g_int g71) e_PARTITIONS_word_value A_PARTITIONS_word_value
  have x_PARTITIONS_word_value_8 := g_elem (g_int g73) e_PARTITIONS_word_value A_PARTITIONS_word_value
  have x_PARTITIONS_word_value_9 := g_elem (g_int g75) e_PARTITIONS_word_value A_PARTITIONS_word_value
  have x_BLOCKS_word_value_0 := g_elem (g_int g77) e_BLOCKS_word_value A_BLOCKS_word_value
  have x_BLOCKS_word_value_1 := g_elem (g_int g79) e_BLOCKS_word_value A_BLOCKS_word_value
  have x_BLOCKS_word_value_2 := g_elem (g_int g81) e_BLOCKS_word_value A_BLOCKS_word_value
  have x_BLOCKS_word_value_3 := g_elem (g_int g83) e_BLOCKS_word_value A_BLOCKS_word_value
  have x_BLOCKS_word_value_4 := g_elem (g_int g85) e_BLOCKS_word_value A_BLOCKS_word_value
  have x_BLOCKS_word_value_5 := g_elem (g_int g86) e_BLOCKS_word_value A_BLOCKS_word_value
  have V__VALUES : Arv s s.heap a__VALUES c__VALUES.cls (.object "com/example/slicewise/slicewise/plan/Method") (3 : Int32) [(.ref a_MOD), (.ref a_PARTITIONS), (.ref a_BLOCKS)] .null := Arv.start hfit A__VALUES l1__VALUES l2__VALUES (by decide) rfl ⟨x__VALUES_0, x__VALUES_1, x__VALUES_2, trivial⟩
  have V_MOD_word_value : Arv s s.heap a_MOD_word_value c_MOD_word_value.cls .byte (3 : Int32) [(.int (109 : Int32)), (.int (111 : Int32)), (.int (100 : Int32))] (.int 0) := Arv.start hfit A_MOD_word_value l1_MOD_word_value l2_MOD_word_value (by decide) rfl ⟨x_MOD_word_value_0, x_MOD_word_value_1, x_MOD_word_value_2, trivial⟩
  have V_PARTITIONS_word_value : Arv s s.heap a_PARTITIONS_word_value c_PARTITIONS_word_value.cls .byte (10 : Int32) [(.int (112 : Int32)), (.int (97 : Int32)), (.int (114 : Int32)), (.int (116 : Int32)), (.int (105 : Int32)), (.int (116 : Int32)), (.int (105 : Int32)), (.int (111 : Int32)), (.int (110 : Int32)), (.int (115 : Int32))] (.int 0) := Arv.start hfit A_PARTITIONS_word_value l1_PARTITIONS_word_value l2_PARTITIONS_word_value (by decide) rfl ⟨x_PARTITIONS_word_value_0, x_PARTITIONS_word_value_1, x_PARTITIONS_word_value_2, x_PARTITIONS_word_value_3, x_PARTITIONS_word_value_4, x_PARTITIONS_word_value_5, x_PARTITIONS_word_value_6, x_PARTITIONS_word_value_7, x_PARTITIONS_word_value_8, x_PARTITIONS_word_value_9, trivial⟩
  have V_BLOCKS_word_value : Arv s s.heap a_BLOCKS_word_value c_BLOCKS_word_value.cls .byte (6 : Int32) [(.int (98 : Int32)), (.int (108 : Int32)), (.int (111 : Int32)), (.int (99 : Int32)), (.int (107 : Int32)), (.int (115 : Int32))] (.int 0) := Arv.start hfit A_BLOCKS_word_value l1_BLOCKS_word_value l2_BLOCKS_word_value (by decide) rfl ⟨x_BLOCKS_word_value_0, x_BLOCKS_word_value_1, x_BLOCKS_word_value_2, x_BLOCKS_word_value_3, x_BLOCKS_word_value_4, x_BLOCKS_word_value_5, trivial⟩
  have T_MOD_word : IsStr s s.heap a_MOD_word [109, 111, 100] := g_str X_MOD_word F_MOD_word_coder F_MOD_word_value V_MOD_word_value (by decide) (by decide)
  have T_PARTITIONS_word : IsStr s s.heap a_PARTITIONS_word [112, 97, 114, 116, 105, 116, 105, 111, 110, 115] := g_str X_PARTITIONS_word F_PARTITIONS_word_coder F_PARTITIONS_word_value V_PARTITIONS_word_value (by decide) (by decide)
  have T_BLOCKS_word : IsStr s s.heap a_BLOCKS_word [98, 108, 111, 99, 107, 115] := g_str X_BLOCKS_word F_BLOCKS_word_coder F_BLOCKS_word_value V_BLOCKS_word_value (by decide) (by decide)
  obtain ⟨eO, S_EMPTY, X_eO, F_eO⟩ := own_oe
  have J0 : JJ s s.heap.size s.vm s.heap [] := ⟨Old.start s, fun e0 => (nomatch e0), fun x hx => (nomatch hx), hlk, fun own idx hm c k cf i units a q1 q2 q3 q4 q5 q6 => own_sx0 (hlit own idx hm c k cf i units a q1 q2 q3 q4 q5 q6)⟩
  obtain ⟨n, o, h1, h2, h3, v, L, Ds', rfl, hQ, hJ, hFr, hE⟩ := rm_law l s _ hw i0 i1 i2 i3 s.heap s.heap.size [] own_cs S_MOD X_MOD S_PARTITIONS X_PARTITIONS S_BLOCKS X_BLOCKS F_MOD_word T_MOD_word F_PARTITIONS_word T_PARTITIONS_word F_BLOCKS_word T_BLOCKS_word S__VALUES X__VALUES V__VALUES S_EMPTY X_eO F_eO p e ha hc hk s m _ below hf ((Spec.applies_iff_loose hf).mp happ).1 ⟨rfl, State.Warmed39.refl s, rfl, J0⟩ trivial
  subst hQ
  refine ⟨n, _, h1, h2, h3, hpost _ _ _ _ _ _ ⟨Cond.after_iff.mpr rfl, Cond.after_iff.mpr (eq_i res_at (Term.int_eval (1)) rfl), trivial⟩ ⟨hE.1, hE.2.1, hE.2.2.1, (hE.2.2.2.sift fun y hy => Or.inr (hFr y hy)).mono (by decide) (by decide)⟩⟩
theorem main_1_1 : Claimed_1_1 := comes_1 fun _ _ _ _ _ _ h hF => ⟨h.1, hF⟩
theorem main_1_2 : Claimed_1_2 := comes_1 fun _ _ _ _ _ _ h hF => ⟨h.2.1, hF⟩
end Jvm.Pilot.@@N@@
namespace Jvm.Pilot.@@N@@
open Jvm Jvm.ClassFile Sem Op Lib Jvm.Free Jvm.Stand Jvm.Pilot.@@N@@.Jvm.D
/-! MADE BY PROGRAM (witnessworld.py) out of the Statement's table words and the real class files: 24 classes; the members and pool entries that the words name. The judged class is class 1, her method 1. -/
namespace start1
open Jvm.ClassFile
def u (s : String) : CpInfo := .utf8 (stringToUtf16 s)
/-- a pool by its gaps: so many unusable entries, then the entry; so many at the end -/
def gap : Nat → List CpInfo → List CpInfo
  | 0, r => r
  | n + 1, r => .unusable :: gap n r
def poolList (es : List (Nat × CpInfo)) (last : Nat) : List CpInfo := es.foldr (fun e r => gap e.1 (e.2 :: r)) (gap last [])
def pool (es : List (Nat × CpInfo)) (last : Nat) : Array CpInfo := ⟨poolList es last⟩
def fileOf (pool : Array CpInfo) (this : Nat) (attrs : Array Attribute := #[]) (ms : Array MethodInfo := #[]) (fl : Nat := 33) (sup : Nat := 0) (ifs : Array Nat := #[]) (fds : Array FieldInfo := #[]) : ClassFile where
  minorVersion := 0
  majorVersion := 65
  constantPool := pool
  accessFlags := fl
  thisClass := this
  superClass := sup
  interfaces := ifs
  fields := fds
  methods := ms
  attributes := attrs
def plain (name : String) (sup : Option ClassId) : Class where
  name := name
  kind := .ordinary
  loader := none
  accessFlags := 33
  super := sup
  interfaces := #[]
  cf := none
  fields := #[]
  methods := #[]
  instanceTypes := #[]
  staticTypes := #[]
  resolved := #[]
  callSites := []
  init := .initialized
  statics := none
  mirror := none

def pool0 : Array CpInfo := pool [(5, u "<init>"), (0, u "()V"), (1, .class_ 10), (1, u "java/lang/Object"), (85, u "clone"), (0, u "()Ljava/lang/Object;")] 26

def k0c0 : Code := { maxStack := 0, maxLocals := 1, code := object_method_1_code, exceptionTable := #[], attributes := #[] }
def k0m0 : Method := { name := "<init>", desc := "()V", sig := { parameters := [], returnType := none }, accessFlags := 1, code := some k0c0 }
def k0m1 : Method := { name := "clone", desc := "()Ljava/lang/Object;", sig := { parameters := [], returnType := some (.object "java/lang/Object") }, accessFlags := 260, code := none }
/-- java/lang/Object -/
def k0 : Class := { plain "java/lang/Object" none with
  accessFlags := 33
  interfaces := #[]
  cf := some (fileOf pool0 8 #[] #[{ accessFlags := 1, nameIndex := 5, descriptorIndex := 6, attributes := #[] }, { accessFlags := 260, nameIndex := 96, descriptorIndex := 97, attributes := #[] }] 33 0 #[] #[])
  fields := #[]
  methods := #[k0m0, k0m1]
  instanceTypes := #[]
  staticTypes := #[]
  resolved := Array.replicate 124 none
  statics := none }

def pool1 : Array CpInfo := pool [(2, .class_ 4), (1, u "java/lang/Object"), (0, u "<init>"), (0, u "()V"), (0, .integer 2147483647), (0, .string 9), (0, u ""), (0, .class_ 11), (0, u "java/lang/String"), (0, .methodref 10 13), (0, .nameAndType 5 14), (0, u "([C)V"), (0, .methodref 16 17), (0, .class_ 18), (0, .nameAndType 19 20), (0, u "com/example/slicewise/slicewise/plan/MethodForWordPinLaw"), (0, u "base"), (0, u "(II)[C"), (0, .methodref 16 22), (0, .nameAndType 23 24), (0, u "expected"), (0, u "(Ljava/lang/String;)Lcom/example/slicewise/slicewise/plan/Method;"), (0, .methodref 26 27), (0, .class_ 28), (0, .nameAndType 29 30), (0, u "com/example/slicewise/slicewise/plan/Method"), (0, u "forWord"), (0, u "(Ljava/lang/String;)Ljava/util/Optional;"), (0, .methodref 32 33), (0, .class_ 34), (0, .nameAndType 35 36), (0, u "java/util/Optional"), (0, u "orElse"), (0, u "(Ljava/lang/Object;)Ljava/lang/Object;"), (0, .string 38), (0, u "mod"), (0, .methodref 10 40), (0, .nameAndType 41 42), (0, u "equals"), (0, u "(Ljava/lang/Object;)Z"), (0, .fieldref 26 44), (0, .nameAndType 45 46), (0, u "MOD"), (0, u "Lcom/example/slicewise/slicewise/plan/Method;"), (0, .string 48), (0, u "partitions"), (0, .fieldref 26 50), (0, .nameAndType 51 46), (0, u "PARTITIONS"), (0, .string 53), (0, u "blocks"), (0, .fieldref 26 55), (0, .nameAndType 56 46), (0, u "BLOCKS"), (2, u "law"), (0, u "(IIII)Z")] 5

def k1m0 : Method := { name := "<init>", desc := "()V", sig := { parameters := [], returnType := none }, accessFlags := 1, code := none }
def k1c1 : Code := { maxStack := 4, maxLocals := 9, code := code, exceptionTable := #[], attributes := #[] }
def k1m1 : Method := { name := "law", desc := "(IIII)Z", sig := { parameters := [.int, .int, .int, .int], returnType := some .boolean }, accessFlags := 9, code := some k1c1 }
def k1c2 : Code := { maxStack := 4, maxLocals := 2, code := method_3_code, exceptionTable := #[], attributes := #[] }
def k1m2 : Method := { name := "base", desc := "(II)[C", sig := { parameters := [.int, .int], returnType := some (.array .char) }, accessFlags := 10, code := some k1c2 }
def k1c3 : Code := { maxStack := 2, maxLocals := 1, code := method_4_code, exceptionTable := #[], attributes := #[] }
def k1m3 : Method := { name := "expected", desc := "(Ljava/lang/String;)Lcom/example/slicewise/slicewise/plan/Method;", sig := { parameters := [(.object "java/lang/String")], returnType := some (.object "com/example/slicewise/slicewise/plan/Method") }, accessFlags := 10, code := some k1c3 }
/-- com/example/slicewise/slicewise/plan/MethodForWordPinLaw -/
def k1 : Class := { plain "com/example/slicewise/slicewise/plan/MethodForWordPinLaw" (some 0) with
  accessFlags := 49
  interfaces := #[]
  cf := some (fileOf pool1 16 #[] #[{ accessFlags := 1, nameIndex := 5, descriptorIndex := 6, attributes := #[] }, { accessFlags := 9, nameIndex := 59, descriptorIndex := 60, attributes := #[] }, { accessFlags := 10, nameIndex := 19, descriptorIndex := 20, attributes := #[] }, { accessFlags := 10, nameIndex := 23, descriptorIndex := 24, attributes := #[] }] 49 2 #[] #[])
  fields := #[]
  methods := #[k1m0, k1m1, k1m2, k1m3]
  instanceTypes := #[]
  staticTypes := #[]
  resolved := Array.replicate 66 none
  statics := none }

def pool2 : Array CpInfo := pool [(1, .class_ 2), (0, u "java/io/Serializable"), (0, .class_ 4), (0, u "java/lang/Object")] 2

/-- java/io/Serializable -/
def k2 : Class := { plain "java/io/Serializable" (some 0) with
  accessFlags := 1537
  interfaces := #[]
  cf := some (fileOf pool2 1 #[] #[] 1537 3 #[] #[])
  fields := #[]
  methods := #[]
  instanceTypes := #[]
  staticTypes := #[]
  resolved := Array.replicate 7 none
  statics := none }

def pool3 : Array CpInfo := pool [(1, .class_ 2), (0, u "java/lang/Comparable"), (0, .class_ 4), (0, u "java/lang/Object")] 7

/-- java/lang/Comparable -/
def k3 : Class := { plain "java/lang/Comparable" (some 0) with
  accessFlags := 1537
  interfaces := #[]
  cf := some (fileOf pool3 1 #[] #[] 1537 3 #[] #[])
  fields := #[]
  methods := #[]
  instanceTypes := #[]
  staticTypes := #[]
  resolved := Array.replicate 12 none
  statics := none }

def pool4 : Array CpInfo := pool [(2, .class_ 4), (1, u "java/lang/CharSequence"), (42, .class_ 48), (0, u "java/lang/CharSequence$1CodePointIterator"), (10, .class_ 60), (0, u "java/lang/CharSequence$1CharIterator"), (5, .class_ 67), (0, u "java/lang/Object")] 63

/-- java/lang/CharSequence -/
def k4 : Class := { plain "java/lang/CharSequence" (some 0) with
  accessFlags := 1537
  interfaces := #[]
  cf := some (fileOf pool4 2 #[.nestMembers #[47, 59]] #[] 1537 66 #[] #[])
  fields := #[]
  methods := #[]
  instanceTypes := #[]
  staticTypes := #[]
  resolved := Array.replicate 131 none
  statics := none }

def pool5 : Array CpInfo := pool [(1, .class_ 2), (0, u "java/lang/constant/Constable"), (0, .class_ 4), (0, u "java/lang/Object")] 6

/-- java/lang/constant/Constable -/
def k5 : Class := { plain "java/lang/constant/Constable" (some 0) with
  accessFlags := 1537
  interfaces := #[]
  cf := some (fileOf pool5 1 #[] #[] 1537 3 #[] #[])
  fields := #[]
  methods := #[]
  instanceTypes := #[]
  staticTypes := #[]
  resolved := Array.replicate 11 none
  statics := none }

def pool6 : Array CpInfo := pool [(1, .class_ 2), (0, u "java/lang/constant/ConstantDesc"), (0, .class_ 4), (0, u "java/lang/Object")] 32

/-- java/lang/constant/ConstantDesc -/
def k6 : Class := { plain "java/lang/constant/ConstantDesc" (some 0) with
  accessFlags := 1537
  interfaces := #[]
  cf := some (fileOf pool6 1 #[] #[] 1537 3 #[] #[])
  fields := #[]
  methods := #[]
  instanceTypes := #[]
  staticTypes := #[]
  resolved := Array.replicate 37 none
  statics := none }

def pool7 : Array CpInfo := pool [(1, .methodref 2 3), (0, .class_ 4), (0, .nameAndType 5 6), (0, u "java/lang/Object"), (0, u "<init>"), (0, u "()V"), (2, .fieldref 10 11), (0, .class_ 12), (0, .nameAndType 13 14), (0, u "java/lang/String"), (0, u "value"), (0, u "[B"), (0, .fieldref 10 16), (0, .nameAndType 17 18), (0, u "coder"), (0, u "B"), (2, u "hash"), (0, u "I"), (2, u "hashIsZero"), (0, u "Z"), (0, .methodref 10 28), (0, .nameAndType 5 29), (0, u "([CIILjava/lang/Void;)V"), (8, .fieldref 10 39), (0, .nameAndType 40 26), (0, u "COMPACT_STRINGS"), (1, .class_ 44), (1, u "java/lang/StringUTF16"), (0, u "compress"), (1, .methodref 42 48), (0, .nameAndType 49 50), (0, u "coderFromArrayLen"), (0, u "([BI)B"), (56, .class_ 109), (1, u "java/lang/StringLatin1"), (67, .methodref 42 178), (0, .nameAndType 45 179), (0, u "([CII)[B"), (361, .methodref 107 542), (0, .nameAndType 543 544), (0, u "equals"), (0, u "([B[B)Z"), (28, u "(Ljava/lang/Object;)Z"), (1, .class_ 576), (0, u "java/lang/CharSequence"), (22, u "CASE_INSENSITIVE_ORDER"), (0, u "Ljava/util/Comparator;"), (409, u "([C)V"), (90, u "serialPersistentFields"), (0, u "[Ljava/io/ObjectStreamField;"), (0, .class_ 1104), (0, u "java/lang/String$CaseInsensitiveComparator"), (1, .class_ 1107), (0, u "java/io/Serializable"), (0, .class_ 1109), (0, u "java/lang/Comparable"), (0, .class_ 1111), (0, u "java/lang/constant/Constable"), (0, .class_ 1113), (0, u "java/lang/constant/ConstantDesc"), (2, u "serialVersionUID"), (0, u "J"), (3, u "REPL"), (0, u "C"), (2, u "LATIN1"), (1, u "UTF16")] 323

def k7m0 : Method := { name := "<init>", desc := "()V", sig := { parameters := [], returnType := none }, accessFlags := 1, code := none }
def k7c1 : Code := { maxStack := 5, maxLocals := 2, code := jdk_42_method_3_code, exceptionTable := #[], attributes := #[] }
def k7m1 : Method := { name := "<init>", desc := "([C)V", sig := { parameters := [(.array .char)], returnType := none }, accessFlags := 1, code := some k7c1 }
def k7c2 : Code := { maxStack := 2, maxLocals := 3, code := jdk_42_method_66_code, exceptionTable := #[], attributes := #[] }
def k7m2 : Method := { name := "equals", desc := "(Ljava/lang/Object;)Z", sig := { parameters := [(.object "java/lang/Object")], returnType := some .boolean }, accessFlags := 1, code := some k7c2 }
def k7c3 : Code := { maxStack := 4, maxLocals := 6, code := jdk_42_method_149_code, exceptionTable := #[], attributes := #[] }
def k7m3 : Method := { name := "<init>", desc := "([CIILjava/lang/Void;)V", sig := { parameters := [(.array .char), .int, .int, (.object "java/lang/Void")], returnType := none }, accessFlags := 2, code := some k7c3 }
/-- java/lang/String -/
def k7 : Class := { plain "java/lang/String" (some 0) with
  accessFlags := 49
  interfaces := #[2, 3, 4, 5, 6]
  cf := some (fileOf pool7 10 #[.nestMembers #[1103]] #[{ accessFlags := 1, nameIndex := 5, descriptorIndex := 6, attributes := #[] }, { accessFlags := 1, nameIndex := 5, descriptorIndex := 1010, attributes := #[] }, { accessFlags := 1, nameIndex := 543, descriptorIndex := 573, attributes := #[] }, { accessFlags := 2, nameIndex := 5, descriptorIndex := 29, attributes := #[] }] 49 2 #[1106, 1108, 575, 1110, 1112] #[{ accessFlags := 18, nameIndex := 13, descriptorIndex := 14, attributes := #[] }, { accessFlags := 18, nameIndex := 17, descriptorIndex := 18, attributes := #[] }, { accessFlags := 2, nameIndex := 21, descriptorIndex := 22, attributes := #[] }, { accessFlags := 2, nameIndex := 25, descriptorIndex := 26, attributes := #[] }, { accessFlags := 26, nameIndex := 1116, descriptorIndex := 1117, attributes := #[] }, { accessFlags := 24, nameIndex := 40, descriptorIndex := 26, attributes := #[] }, { accessFlags := 26, nameIndex := 1101, descriptorIndex := 1102, attributes := #[] }, { accessFlags := 26, nameIndex := 1121, descriptorIndex := 1122, attributes := #[] }, { accessFlags := 25, nameIndex := 599, descriptorIndex := 600, attributes := #[] }, { accessFlags := 24, nameIndex := 1125, descriptorIndex := 18, attributes := #[] }, { accessFlags := 24, nameIndex := 1127, descriptorIndex := 18, attributes := #[] }])
  fields := #[{ name := "value", type := (.array .byte), accessFlags := 18, slot := 0, constantValue := 0 }, { name := "coder", type := .byte, accessFlags := 18, slot := 1, constantValue := 0 }, { name := "hash", type := .int, accessFlags := 2, slot := 2, constantValue := 0 }, { name := "hashIsZero", type := .boolean, accessFlags := 2, slot := 3, constantValue := 0 }, { name := "serialVersionUID", type := .long, accessFlags := 26, slot := 0, constantValue := 0 }, { name := "COMPACT_STRINGS", type := .boolean, accessFlags := 24, slot := 1, constantValue := 0 }, { name := "serialPersistentFields", type := (.array (.object "java/io/ObjectStreamField")), accessFlags := 26, slot := 2, constantValue := 0 }, { name := "REPL", type := .char, accessFlags := 26, slot := 3, constantValue := 0 }, { name := "CASE_INSENSITIVE_ORDER", type := (.object "java/util/Comparator"), accessFlags := 25, slot := 4, constantValue := 0 }, { name := "LATIN1", type := .byte, accessFlags := 24, slot := 5, constantValue := 0 }, { name := "UTF16", type := .byte, accessFlags := 24, slot := 6, constantValue := 0 }]
  methods := #[k7m0, k7m1, k7m2, k7m3]
  instanceTypes := #[(.array .byte), .byte, .int, .boolean]
  staticTypes := #[.long, .boolean, (.array (.object "java/io/ObjectStreamField")), .char, (.object "java/util/Comparator"), .byte, .byte]
  resolved := Array.replicate 1451 none
  statics := some 0 }

def pool8 : Array CpInfo := pool [(6, .class_ 8), (1, u "java/lang/Object"), (0, u "<init>"), (0, u "()V"), (1, .class_ 14), (1, u "java/lang/StringUTF16"), (31, u "$assertionsDisabled"), (0, u "Z"), (13, u "HI_BYTE_SHIFT"), (0, u "I"), (2, u "LO_BYTE_SHIFT"), (49, .methodref 12 116), (0, .nameAndType 117 118), (0, u "compress"), (0, u "([CI[BII)I"), (3, u "([CII)[B"), (138, u "coderFromArrayLen"), (0, u "([BI)B"), (106, .class_ 371), (1, u "java/lang/StringUTF16$LinesSpliterator"), (58, u "MAX_LENGTH"), (196, .class_ 628), (0, u "java/lang/StringUTF16$CodePointsSpliterator"), (0, .class_ 630), (0, u "java/lang/StringUTF16$CharsSpliterator")] 4

def k8m0 : Method := { name := "<init>", desc := "()V", sig := { parameters := [], returnType := none }, accessFlags := 0, code := none }
def k8c1 : Code := { maxStack := 2, maxLocals := 2, code := jdk_52_method_15_code, exceptionTable := #[], attributes := #[] }
def k8m1 : Method := { name := "coderFromArrayLen", desc := "([BI)B", sig := { parameters := [(.array .byte), .int], returnType := some .byte }, accessFlags := 8, code := some k8c1 }
def k8c2 : Code := { maxStack := 5, maxLocals := 6, code := jdk_52_method_16_code, exceptionTable := #[], attributes := #[] }
def k8m2 : Method := { name := "compress", desc := "([CII)[B", sig := { parameters := [(.array .char), .int, .int], returnType := some (.array .byte) }, accessFlags := 9, code := some k8c2 }
def k8c3 : Code := { maxStack := 3, maxLocals := 7, code := jdk_52_method_21_code, exceptionTable := #[], attributes := #[] }
def k8m3 : Method := { name := "compress", desc := "([CI[BII)I", sig := { parameters := [(.array .char), .int, (.array .byte), .int, .int], returnType := some .int }, accessFlags := 9, code := some k8c3 }
/-- java/lang/StringUTF16 -/
def k8 : Class := { plain "java/lang/StringUTF16" (some 0) with
  accessFlags := 48
  interfaces := #[]
  cf := some (fileOf pool8 12 #[.nestMembers #[627, 629, 369]] #[{ accessFlags := 0, nameIndex := 9, descriptorIndex := 10, attributes := #[] }, { accessFlags := 8, nameIndex := 261, descriptorIndex := 262, attributes := #[] }, { accessFlags := 9, nameIndex := 117, descriptorIndex := 122, attributes := #[] }, { accessFlags := 9, nameIndex := 117, descriptorIndex := 118, attributes := #[] }] 48 6 #[] #[{ accessFlags := 26, nameIndex := 61, descriptorIndex := 62, attributes := #[] }, { accessFlags := 26, nameIndex := 65, descriptorIndex := 62, attributes := #[] }, { accessFlags := 24, nameIndex := 430, descriptorIndex := 62, attributes := #[] }, { accessFlags := 4120, nameIndex := 46, descriptorIndex := 47, attributes := #[] }])
  fields := #[{ name := "HI_BYTE_SHIFT", type := .int, accessFlags := 26, slot := 0, constantValue := 0 }, { name := "LO_BYTE_SHIFT", type := .int, accessFlags := 26, slot := 1, constantValue := 0 }, { name := "MAX_LENGTH", type := .int, accessFlags := 24, slot := 2, constantValue := 0 }, { name := "$assertionsDisabled", type := .boolean, accessFlags := 4120, slot := 3, constantValue := 0 }]
  methods := #[k8m0, k8m1, k8m2, k8m3]
  instanceTypes := #[]
  staticTypes := #[.int, .int, .int, .boolean]
  resolved := Array.replicate 635 none
  statics := none }

def pool9 : Array CpInfo := pool [(4, .class_ 6), (1, u "java/lang/Object"), (0, u "<init>"), (0, u "()V"), (5, .class_ 16), (1, u "java/lang/StringLatin1"), (104, u "$assertionsDisabled"), (0, u "Z"), (98, .class_ 223), (1, u "java/lang/StringLatin1$LinesSpliterator"), (57, u "equals"), (0, u "([B[B)Z"), (107, .class_ 391), (0, u "java/lang/StringLatin1$CharsSpliterator")] 3

def k9m0 : Method := { name := "<init>", desc := "()V", sig := { parameters := [], returnType := none }, accessFlags := 0, code := none }
def k9c1 : Code := { maxStack := 3, maxLocals := 3, code := jdk_43_method_13_code, exceptionTable := #[], attributes := #[] }
def k9m1 : Method := { name := "equals", desc := "([B[B)Z", sig := { parameters := [(.array .byte), (.array .byte)], returnType := some .boolean }, accessFlags := 9, code := some k9c1 }
/-- java/lang/StringLatin1 -/
def k9 : Class := { plain "java/lang/StringLatin1" (some 0) with
  accessFlags := 48
  interfaces := #[]
  cf := some (fileOf pool9 14 #[.nestMembers #[390, 221]] #[{ accessFlags := 0, nameIndex := 7, descriptorIndex := 8, attributes := #[] }, { accessFlags := 9, nameIndex := 281, descriptorIndex := 282, attributes := #[] }] 48 4 #[] #[{ accessFlags := 4120, nameIndex := 121, descriptorIndex := 122, attributes := #[] }])
  fields := #[{ name := "$assertionsDisabled", type := .boolean, accessFlags := 4120, slot := 0, constantValue := 0 }]
  methods := #[k9m0, k9m1]
  instanceTypes := #[]
  staticTypes := #[.boolean]
  resolved := Array.replicate 395 none
  statics := none }

def pool10 : Array CpInfo := pool [(2, .class_ 4), (1, u "java/lang/Enum"), (0, u "name"), (0, u "Ljava/lang/String;"), (2, u "ordinal"), (0, u "I"), (1, .class_ 14), (1, u "java/lang/Object"), (4, u "hash"), (86, .class_ 108), (1, u "java/lang/Enum$EnumDesc"), (2, .class_ 112), (0, u "java/lang/constant/Constable"), (0, .class_ 114), (0, u "java/lang/Comparable"), (0, .class_ 116), (0, u "java/io/Serializable")] 87

/-- java/lang/Enum -/
def k10 : Class := { plain "java/lang/Enum" (some 0) with
  accessFlags := 1057
  interfaces := #[5, 3, 2]
  cf := some (fileOf pool10 2 #[.nestMembers #[106]] #[] 1057 12 #[111, 113, 115] #[{ accessFlags := 18, nameIndex := 5, descriptorIndex := 6, attributes := #[] }, { accessFlags := 18, nameIndex := 9, descriptorIndex := 10, attributes := #[] }, { accessFlags := 2, nameIndex := 19, descriptorIndex := 10, attributes := #[] }])
  fields := #[{ name := "name", type := (.object "java/lang/String"), accessFlags := 18, slot := 0, constantValue := 0 }, { name := "ordinal", type := .int, accessFlags := 18, slot := 1, constantValue := 0 }, { name := "hash", type := .int, accessFlags := 2, slot := 2, constantValue := 0 }]
  methods := #[]
  instanceTypes := #[(.object "java/lang/String"), .int, .int]
  staticTypes := #[]
  resolved := Array.replicate 204 none
  statics := none }

def pool11 : Array CpInfo := pool [(1, .class_ 2), (0, u "com/example/slicewise/slicewise/plan/Method"), (2, u "MOD"), (0, u "Lcom/example/slicewise/slicewise/plan/Method;"), (2, u "PARTITIONS"), (2, u "BLOCKS"), (0, .fieldref 1 14), (0, .nameAndType 15 16), (0, u "$VALUES"), (0, u "[Lcom/example/slicewise/slicewise/plan/Method;"), (0, .methodref 18 19), (0, .class_ 16), (0, .nameAndType 20 21), (0, u "clone"), (0, u "()Ljava/lang/Object;"), (1, .class_ 25), (1, u "java/lang/Enum"), (6, .fieldref 1 33), (0, .nameAndType 34 35), (0, u "word"), (0, u "Ljava/lang/String;"), (0, .methodref 1 37), (0, .nameAndType 38 39), (0, u "values"), (0, u "()[Lcom/example/slicewise/slicewise/plan/Method;"), (0, .methodref 41 42), (0, .class_ 43), (0, .nameAndType 44 45), (0, u "java/lang/String"), (0, u "equals"), (0, u "(Ljava/lang/Object;)Z"), (0, .methodref 47 48), (0, .class_ 49), (0, .nameAndType 50 51), (0, u "java/util/Optional"), (0, u "of"), (0, u "(Ljava/lang/Object;)Ljava/util/Optional;"), (0, .methodref 47 53), (0, .nameAndType 54 55), (0, u "empty"), (0, u "()Ljava/util/Optional;"), (22, u "forWord"), (0, u "(Ljava/lang/String;)Ljava/util/Optional;")] 7

def k11c0 : Code := { maxStack := 1, maxLocals := 0, code := prog_4_method_1_code, exceptionTable := #[], attributes := #[] }
def k11m0 : Method := { name := "values", desc := "()[Lcom/example/slicewise/slicewise/plan/Method;", sig := { parameters := [], returnType := some (.array (.object "com/example/slicewise/slicewise/plan/Method")) }, accessFlags := 9, code := some k11c0 }
def k11c1 : Code := { maxStack := 2, maxLocals := 5, code := prog_4_method_5_code, exceptionTable := #[], attributes := #[] }
def k11m1 : Method := { name := "forWord", desc := "(Ljava/lang/String;)Ljava/util/Optional;", sig := { parameters := [(.object "java/lang/String")], returnType := some (.object "java/util/Optional") }, accessFlags := 9, code := some k11c1 }
/-- com/example/slicewise/slicewise/plan/Method -/
def k11 : Class := { plain "com/example/slicewise/slicewise/plan/Method" (some 10) with
  accessFlags := 16433
  interfaces := #[]
  cf := some (fileOf pool11 1 #[] #[{ accessFlags := 9, nameIndex := 38, descriptorIndex := 39, attributes := #[] }, { accessFlags := 9, nameIndex := 78, descriptorIndex := 79, attributes := #[] }] 16433 23 #[] #[{ accessFlags := 16409, nameIndex := 5, descriptorIndex := 6, attributes := #[] }, { accessFlags := 16409, nameIndex := 9, descriptorIndex := 6, attributes := #[] }, { accessFlags := 16409, nameIndex := 12, descriptorIndex := 6, attributes := #[] }, { accessFlags := 18, nameIndex := 34, descriptorIndex := 35, attributes := #[] }, { accessFlags := 4122, nameIndex := 15, descriptorIndex := 16, attributes := #[] }])
  fields := #[{ name := "MOD", type := (.object "com/example/slicewise/slicewise/plan/Method"), accessFlags := 16409, slot := 0, constantValue := 0 }, { name := "PARTITIONS", type := (.object "com/example/slicewise/slicewise/plan/Method"), accessFlags := 16409, slot := 1, constantValue := 0 }, { name := "BLOCKS", type := (.object "com/example/slicewise/slicewise/plan/Method"), accessFlags := 16409, slot := 2, constantValue := 0 }, { name := "word", type := (.object "java/lang/String"), accessFlags := 18, slot := 3, constantValue := 0 }, { name := "$VALUES", type := (.array (.object "com/example/slicewise/slicewise/plan/Method")), accessFlags := 4122, slot := 3, constantValue := 0 }]
  methods := #[k11m0, k11m1]
  instanceTypes := #[(.object "java/lang/String"), .int, .int, (.object "java/lang/String")]
  staticTypes := #[(.object "com/example/slicewise/slicewise/plan/Method"), (.object "com/example/slicewise/slicewise/plan/Method"), (.object "com/example/slicewise/slicewise/plan/Method"), (.array (.object "com/example/slicewise/slicewise/plan/Method"))]
  resolved := Array.replicate 87 none
  statics := some 1 }

def pool12 : Array CpInfo := pool [(1, .class_ 2), (0, u "java/lang/Cloneable"), (0, .class_ 4), (0, u "java/lang/Object")] 2

/-- java/lang/Cloneable -/
def k12 : Class := { plain "java/lang/Cloneable" (some 0) with
  accessFlags := 1537
  interfaces := #[]
  cf := some (fileOf pool12 1 #[] #[] 1537 3 #[] #[])
  fields := #[]
  methods := #[]
  instanceTypes := #[]
  staticTypes := #[]
  resolved := Array.replicate 7 none
  statics := none }

def pool13 : Array CpInfo := pool [(1, .fieldref 2 3), (0, .class_ 4), (0, .nameAndType 5 6), (0, u "java/util/Optional"), (0, u "EMPTY"), (0, u "Ljava/util/Optional;"), (0, .methodref 8 9), (0, .class_ 10), (0, .nameAndType 11 12), (0, u "java/lang/Object"), (0, u "<init>"), (0, u "()V"), (0, .fieldref 2 14), (0, .nameAndType 15 16), (0, u "value"), (0, u "Ljava/lang/Object;"), (0, .methodref 18 19), (0, .class_ 20), (0, .nameAndType 21 22), (0, u "java/util/Objects"), (0, u "requireNonNull"), (0, u "(Ljava/lang/Object;)Ljava/lang/Object;"), (0, .methodref 2 24), (0, .nameAndType 11 25), (0, u "(Ljava/lang/Object;)V"), (29, u "empty"), (0, u "()Ljava/util/Optional;"), (8, u "(Ljava/lang/Object;)Ljava/util/Optional;"), (16, u "of"), (82, u "orElse")] 21

def k13c0 : Code := { maxStack := 1, maxLocals := 1, code := jdk_32_method_1_code, exceptionTable := #[], attributes := #[] }
def k13m0 : Method := { name := "empty", desc := "()Ljava/util/Optional;", sig := { parameters := [], returnType := some (.object "java/util/Optional") }, accessFlags := 9, code := some k13c0 }
def k13c1 : Code := { maxStack := 2, maxLocals := 2, code := jdk_32_method_2_code, exceptionTable := #[], attributes := #[] }
def k13m1 : Method := { name := "<init>", desc := "(Ljava/lang/Object;)V", sig := { parameters := [(.object "java/lang/Object")], returnType := none }, accessFlags := 2, code := some k13c1 }
def k13c2 : Code := { maxStack := 3, maxLocals := 1, code := jdk_32_method_3_code, exceptionTable := #[], attributes := #[] }
def k13m2 : Method := { name := "of", desc := "(Ljava/lang/Object;)Ljava/util/Optional;", sig := { parameters := [(.object "java/lang/Object")], returnType := some (.object "java/util/Optional") }, accessFlags := 9, code := some k13c2 }
def k13c3 : Code := { maxStack := 1, maxLocals := 2, code := jdk_32_method_15_code, exceptionTable := #[], attributes := #[] }
def k13m3 : Method := { name := "orElse", desc := "(Ljava/lang/Object;)Ljava/lang/Object;", sig := { parameters := [(.object "java/lang/Object")], returnType := some (.object "java/lang/Object") }, accessFlags := 1, code := some k13c3 }
/-- java/util/Optional -/
def k13 : Class := { plain "java/util/Optional" (some 0) with
  accessFlags := 49
  interfaces := #[]
  cf := some (fileOf pool13 2 #[] #[{ accessFlags := 9, nameIndex := 55, descriptorIndex := 56, attributes := #[] }, { accessFlags := 2, nameIndex := 11, descriptorIndex := 25, attributes := #[] }, { accessFlags := 9, nameIndex := 82, descriptorIndex := 65, attributes := #[] }, { accessFlags := 1, nameIndex := 165, descriptorIndex := 22, attributes := #[] }] 49 8 #[] #[{ accessFlags := 26, nameIndex := 5, descriptorIndex := 6, attributes := #[] }, { accessFlags := 18, nameIndex := 15, descriptorIndex := 16, attributes := #[] }])
  fields := #[{ name := "EMPTY", type := (.object "java/util/Optional"), accessFlags := 26, slot := 0, constantValue := 0 }, { name := "value", type := (.object "java/lang/Object"), accessFlags := 18, slot := 0, constantValue := 0 }]
  methods := #[k13m0, k13m1, k13m2, k13m3]
  instanceTypes := #[(.object "java/lang/Object")]
  staticTypes := #[(.object "java/util/Optional")]
  resolved := Array.replicate 187 none
  statics := some 2 }

def pool14 : Array CpInfo := pool [(2, .class_ 4), (1, u "java/lang/Object"), (0, u "<init>"), (0, u "()V"), (35, .class_ 44), (1, u "java/util/Objects"), (0, u "requireNonNull"), (0, u "(Ljava/lang/Object;)Ljava/lang/Object;")] 137

def k14m0 : Method := { name := "<init>", desc := "()V", sig := { parameters := [], returnType := none }, accessFlags := 2, code := none }
def k14c1 : Code := { maxStack := 2, maxLocals := 1, code := jdk_31_method_10_code, exceptionTable := #[], attributes := #[] }
def k14m1 : Method := { name := "requireNonNull", desc := "(Ljava/lang/Object;)Ljava/lang/Object;", sig := { parameters := [(.object "java/lang/Object")], returnType := some (.object "java/lang/Object") }, accessFlags := 9, code := some k14c1 }
/-- java/util/Objects -/
def k14 : Class := { plain "java/util/Objects" (some 0) with
  accessFlags := 49
  interfaces := #[]
  cf := some (fileOf pool14 42 #[] #[{ accessFlags := 2, nameIndex := 5, descriptorIndex := 6, attributes := #[] }, { accessFlags := 9, nameIndex := 45, descriptorIndex := 46, attributes := #[] }] 49 2 #[] #[])
  fields := #[]
  methods := #[k14m0, k14m1]
  instanceTypes := #[]
  staticTypes := #[]
  resolved := Array.replicate 184 none
  statics := none }

def pool15 : Array CpInfo := pool [(2, .class_ 4), (1, u "java/lang/Object"), (0, u "<init>"), (0, u "()V"), (17, .class_ 26), (1, u "jdk/internal/util/Preconditions"), (28, .class_ 56), (0, u "jdk/internal/util/Preconditions$4"), (57, .class_ 115), (0, u "jdk/internal/util/Preconditions$1"), (7, u "SIOOBE_FORMATTER"), (0, u "Ljava/util/function/BiFunction;"), (0, .class_ 126), (0, u "jdk/internal/util/Preconditions$2"), (3, u "AIOOBE_FORMATTER"), (0, .class_ 132), (0, u "jdk/internal/util/Preconditions$3"), (3, u "IOOBE_FORMATTER")] 57

def k15m0 : Method := { name := "<init>", desc := "()V", sig := { parameters := [], returnType := none }, accessFlags := 1, code := none }
/-- jdk/internal/util/Preconditions -/
def k15 : Class := { plain "jdk/internal/util/Preconditions" (some 0) with
  accessFlags := 33
  interfaces := #[]
  cf := some (fileOf pool15 24 #[.nestMembers #[55, 131, 125, 114]] #[{ accessFlags := 1, nameIndex := 5, descriptorIndex := 6, attributes := #[] }] 33 2 #[] #[{ accessFlags := 25, nameIndex := 123, descriptorIndex := 124, attributes := #[] }, { accessFlags := 25, nameIndex := 130, descriptorIndex := 124, attributes := #[] }, { accessFlags := 25, nameIndex := 136, descriptorIndex := 124, attributes := #[] }])
  fields := #[{ name := "SIOOBE_FORMATTER", type := (.object "java/util/function/BiFunction"), accessFlags := 25, slot := 0, constantValue := 0 }, { name := "AIOOBE_FORMATTER", type := (.object "java/util/function/BiFunction"), accessFlags := 25, slot := 1, constantValue := 0 }, { name := "IOOBE_FORMATTER", type := (.object "java/util/function/BiFunction"), accessFlags := 25, slot := 2, constantValue := 0 }]
  methods := #[k15m0]
  instanceTypes := #[]
  staticTypes := #[(.object "java/util/function/BiFunction"), (.object "java/util/function/BiFunction"), (.object "java/util/function/BiFunction")]
  resolved := Array.replicate 194 none
  statics := some 3 }

def pool16 : Array CpInfo := pool [(9, u "<init>"), (6, .class_ 18), (1, u "java/lang/Object"), (0, u "()V"), (1, .class_ 23), (1, u "jdk/internal/util/ArraysSupport"), (0, u "LOG2_ARRAY_LONG_INDEX_SCALE"), (0, u "I"), (2, u "U"), (0, u "Ljdk/internal/misc/Unsafe;"), (8, u "BIG_ENDIAN"), (0, u "Z"), (8, u "LOG2_BYTE_BIT_SIZE"), (4, u "LOG2_ARRAY_INT_INDEX_SCALE"), (54, u "JLA"), (0, u "Ljdk/internal/access/JavaLangAccess;"), (11, u "LOG2_ARRAY_BOOLEAN_INDEX_SCALE"), (9, u "LOG2_ARRAY_BYTE_INDEX_SCALE"), (5, u "LOG2_ARRAY_CHAR_INDEX_SCALE"), (5, u "LOG2_ARRAY_SHORT_INDEX_SCALE"), (18, u "LOG2_ARRAY_FLOAT_INDEX_SCALE"), (24, u "LOG2_ARRAY_DOUBLE_INDEX_SCALE"), (89, u "T_BOOLEAN"), (2, u "T_CHAR"), (1, u "T_FLOAT"), (1, u "T_DOUBLE"), (1, u "T_BYTE"), (1, u "T_SHORT"), (1, u "T_INT"), (1, u "T_LONG"), (1, u "SOFT_MAX_ARRAY_LENGTH")] 83

def k16m0 : Method := { name := "<init>", desc := "()V", sig := { parameters := [], returnType := none }, accessFlags := 2, code := none }
/-- jdk/internal/util/ArraysSupport -/
def k16 : Class := { plain "jdk/internal/util/ArraysSupport" (some 0) with
  accessFlags := 33
  interfaces := #[]
  cf := some (fileOf pool16 21 #[] #[{ accessFlags := 2, nameIndex := 9, descriptorIndex := 19, attributes := #[] }] 33 16 #[] #[{ accessFlags := 24, nameIndex := 28, descriptorIndex := 29, attributes := #[] }, { accessFlags := 26, nameIndex := 38, descriptorIndex := 39, attributes := #[] }, { accessFlags := 25, nameIndex := 121, descriptorIndex := 25, attributes := #[] }, { accessFlags := 25, nameIndex := 131, descriptorIndex := 25, attributes := #[] }, { accessFlags := 25, nameIndex := 137, descriptorIndex := 25, attributes := #[] }, { accessFlags := 25, nameIndex := 143, descriptorIndex := 25, attributes := #[] }, { accessFlags := 25, nameIndex := 53, descriptorIndex := 25, attributes := #[] }, { accessFlags := 25, nameIndex := 24, descriptorIndex := 25, attributes := #[] }, { accessFlags := 25, nameIndex := 162, descriptorIndex := 25, attributes := #[] }, { accessFlags := 25, nameIndex := 187, descriptorIndex := 25, attributes := #[] }, { accessFlags := 26, nameIndex := 48, descriptorIndex := 25, attributes := #[] }, { accessFlags := 25, nameIndex := 277, descriptorIndex := 25, attributes := #[] }, { accessFlags := 25, nameIndex := 280, descriptorIndex := 25, attributes := #[] }, { accessFlags := 25, nameIndex := 282, descriptorIndex := 25, attributes := #[] }, { accessFlags := 25, nameIndex := 284, descriptorIndex := 25, attributes := #[] }, { accessFlags := 25, nameIndex := 286, descriptorIndex := 25, attributes := #[] }, { accessFlags := 25, nameIndex := 288, descriptorIndex := 25, attributes := #[] }, { accessFlags := 25, nameIndex := 290, descriptorIndex := 25, attributes := #[] }, { accessFlags := 25, nameIndex := 292, descriptorIndex := 25, attributes := #[] }, { accessFlags := 26, nameIndex := 108, descriptorIndex := 109, attributes := #[] }, { accessFlags := 25, nameIndex := 294, descriptorIndex := 25, attributes := #[] }])
  fields := #[{ name := "U", type := (.object "jdk/internal/misc/Unsafe"), accessFlags := 24, slot := 0, constantValue := 0 }, { name := "BIG_ENDIAN", type := .boolean, accessFlags := 26, slot := 1, constantValue := 0 }, { name := "LOG2_ARRAY_BOOLEAN_INDEX_SCALE", type := .int, accessFlags := 25, slot := 2, constantValue := 0 }, { name := "LOG2_ARRAY_BYTE_INDEX_SCALE", type := .int, accessFlags := 25, slot := 3, constantValue := 0 }, { name := "LOG2_ARRAY_CHAR_INDEX_SCALE", type := .int, accessFlags := 25, slot := 4, constantValue := 0 }, { name := "LOG2_ARRAY_SHORT_INDEX_SCALE", type := .int, accessFlags := 25, slot := 5, constantValue := 0 }, { name := "LOG2_ARRAY_INT_INDEX_SCALE", type := .int, accessFlags := 25, slot := 6, constantValue := 0 }, { name := "LOG2_ARRAY_LONG_INDEX_SCALE", type := .int, accessFlags := 25, slot := 7, constantValue := 0 }, { name := "LOG2_ARRAY_FLOAT_INDEX_SCALE", type := .int, accessFlags := 25, slot := 8, constantValue := 0 }, { name := "LOG2_ARRAY_DOUBLE_INDEX_SCALE", type := .int, accessFlags := 25, slot := 9, constantValue := 0 }, { name := "LOG2_BYTE_BIT_SIZE", type := .int, accessFlags := 26, slot := 10, constantValue := 0 }, { name := "T_BOOLEAN", type := .int, accessFlags := 25, slot := 11, constantValue := 0 }, { name := "T_CHAR", type := .int, accessFlags := 25, slot := 12, constantValue := 0 }, { name := "T_FLOAT", type := .int, accessFlags := 25, slot := 13, constantValue := 0 }, { name := "T_DOUBLE", type := .int, accessFlags := 25, slot := 14, constantValue := 0 }, { name := "T_BYTE", type := .int, accessFlags := 25, slot := 15, constantValue := 0 }, { name := "T_SHORT", type := .int, accessFlags := 25, slot := 16, constantValue := 0 }, { name := "T_INT", type := .int, accessFlags := 25, slot := 17, constantValue := 0 }, { name := "T_LONG", type := .int, accessFlags := 25, slot := 18, constantValue := 0 }, { name := "JLA", type := (.object "jdk/internal/access/JavaLangAccess"), accessFlags := 26, slot := 19, constantValue := 0 }, { name := "SOFT_MAX_ARRAY_LENGTH", type := .int, accessFlags := 25, slot := 20, constantValue := 0 }]
  methods := #[k16m0]
  instanceTypes := #[]
  staticTypes := #[(.object "jdk/internal/misc/Unsafe"), .boolean, .int, .int, .int, .int, .int, .int, .int, .int, .int, .int, .int, .int, .int, .int, .int, .int, .int, (.object "jdk/internal/access/JavaLangAccess"), .int]
  resolved := Array.replicate 378 none
  statics := none }

/-- the primitive byte -/
def k17 : Class := { plain "byte" none with kind := .primitive 'B', accessFlags := 0x411 }
/-- [B -/
def k18 : Class := { plain "[B" (some 0) with kind := .array 17 .byte, interfaces := #[12, 2], accessFlags := 1041 }

/-- the primitive char -/
def k19 : Class := { plain "char" none with kind := .primitive 'C', accessFlags := 0x411 }
/-- [C -/
def k20 : Class := { plain "[C" (some 0) with kind := .array 19 .char, interfaces := #[12, 2], accessFlags := 1041 }

/-- the primitive int -/
def k21 : Class := { plain "int" none with kind := .primitive 'I', accessFlags := 0x411 }
/-- [I -/
def k22 : Class := { plain "[I" (some 0) with kind := .array 21 .int, interfaces := #[12, 2], accessFlags := 1041 }

/-- [Lcom/example/slicewise/slicewise/plan/Method; -/
def k23 : Class := { plain "[Lcom/example/slicewise/slicewise/plan/Method;" (some 0) with kind := .array 11 (.object "com/example/slicewise/slicewise/plan/Method"), interfaces := #[12, 2], accessFlags := 1041 }

def heap : Heap := #[{ cls := 7, slots := #[.long 0, .int 1, .null, .int 0, .null, .int 0, .int 0], vm := .statics 7 },
  { cls := 11, slots := #[.ref 5, .ref 6, .ref 7, .ref 4], vm := .statics 11 },
  { cls := 13, slots := #[.ref 14], vm := .statics 13 },
  { cls := 15, slots := #[.null, .null, .null], vm := .statics 15 },
  { cls := 23, slots := #[.ref 5, .ref 6, .ref 7], vm := .none },
  { cls := 11, slots := #[.null, .int 0, .int 0, .ref 8], vm := .none },
  { cls := 11, slots := #[.null, .int 1, .int 0, .ref 9], vm := .none },
  { cls := 11, slots := #[.null, .int 2, .int 0, .ref 10], vm := .none },
  { cls := 7, slots := #[.ref 11, .int 0, .int 0, .int 0], vm := .none },
  { cls := 7, slots := #[.ref 12, .int 0, .int 0, .int 0], vm := .none },
  { cls := 7, slots := #[.ref 13, .int 0, .int 0, .int 0], vm := .none },
  { cls := 18, slots := #[.int 109, .int 111, .int 100], vm := .none },
  { cls := 18, slots := #[.int 112, .int 97, .int 114, .int 116, .int 105, .int 116, .int 105, .int 111, .int 110, .int 115], vm := .none },
  { cls := 18, slots := #[.int 98, .int 108, .int 111, .int 99, .int 107, .int 115], vm := .none },
  { cls := 13, slots := #[.null], vm := .none }]
def classes : Array Class := #[k0, k1, k2, k3, k4, k5, k6, k7, k8, k9, k10, k11, k12, k13, k14, k15, k16, k17, k18, k19, k20, k21, k22, k23]
def interned : List (Array UInt16 × Addr) := []
def slotsUsed : Nat := 62
def theMethod : MethodId := ⟨1, 1⟩
def args0 : Array Value := #[.int 5, .int 5, .int 5, .int 5]
def aboutOver (below : List Frame) : State where
  vm := { classes := classes, interned := interned.toArray }
  heap := heap
  slotsUsed := slotsUsed
  threads := #[{ frames := .invoking theMethod args0 :: below }]
def below0 : List Frame := [.native { method := ⟨0, 0⟩, args := #[] }]
def about1 : State := aboutOver below0
def p0 : Program := .bare "" "" ""
def e0 : Env := launch0.env 0 0 0
theorem w_frames : about1.frames = Frame.invoking theMethod args0 :: below0 := rfl
set_option maxRecDepth 65536 in
theorem w_args : argsFit about1.vm theMethod args0 = true := by decide +kernel
set_option maxRecDepth 65536 in
theorem w_heap : heapFits about1 = true := by decide +kernel
set_option maxRecDepth 65536 in
theorem w_runnable : about1.curStatus? = some .runnable := by decide +kernel
set_option maxRecDepth 65536 in
theorem w_alone : about1.alone = true := by decide +kernel
set_option maxRecDepth 65536 in
theorem w_named : about1.methodNamed? x = some theMethod := by decide +kernel
set_option maxRecDepth 65536 in
theorem w_hears : about1.hears theMethod below0 = true := by decide +kernel
set_option maxRecDepth 65536 in
theorem w_ripe : about1.ripe theMethod args0 below0 = true := by decide +kernel
theorem w_running : about1.status = .running := rfl
set_option maxRecDepth 65536 in
theorem w_room : about1.hasRoom e0.platform room_1 = true :=
  launch0.hasRoom_least _ room_1 (by decide +kernel) (by decide +kernel) (by decide +kernel) (by decide +kernel) (by decide +kernel) (by decide +kernel)
theorem allAtoms_all (ts : List Jvm.Cond) (a : Array Jvm.Value) (st : Jvm.State) : (allAtoms ts).before a st = ts.all (fun c => c.before a st) := by
  induction ts with
  | nil => rfl
  | cons c t ih =>
    show (Jvm.Cond.and c (allAtoms t)).before a st = _
    rw [Jvm.Cond.before_and, ih, List.all_cons]
def words1 : List Jvm.Cond := Jvm.Cond.code x code maxLocals ret :: tables_1
/-- a 'code' word, met by the world's own term for the bytes: nothing is compared byte by byte -/
theorem code_word {y : MethodName} {bytes : ByteArray} {mx : Nat} {rt : Option FieldType} {a : Array Value} {s : State} {m : MethodId} {meth : Method} {c : Code} (h1 : s.methodNamed? y = some m) (h2 : s.vm.method? m = some meth) (h3 : meth.code = some c) (h4 : c.code = bytes)
    (h5 : (c.maxLocals == mx && c.exceptionTable.isEmpty && decide (c.maxStack ≤ mostOperands) && decide (meth.sig.returnType = rt) && !meth.locks && decide (parseMethodDescriptor y.desc = some meth.sig)) = true) : (Jvm.Cond.code y bytes mx rt).before a s = true := by
  simp only [Bool.and_eq_true, beq_iff_eq, Bool.not_eq_true', decide_eq_true_eq] at h5
  obtain ⟨⟨⟨⟨⟨g1, g2⟩, g3⟩, g4⟩, g5⟩, g6⟩ := h5
  simp [Cond.before, Cond.holds, Cond.value, h1, h2, h3, h4, g1, g2, g3, g4, g5, g6]
def isCode : Jvm.Cond → Bool
  | .code _ _ _ _ => true
  | _ => false
theorem all_split {L : List Jvm.Cond} {P : Jvm.Cond → Bool} (h1 : L.all (fun c => isCode c || P c) = true) (h2 : ∀ c ∈ L.filter isCode, P c = true) : L.all P = true := by
  refine List.all_eq_true.mpr fun c hc => ?_
  have h := List.all_eq_true.mp h1 c hc
  rcases Bool.eq_false_or_eq_true (isCode c) with hi | hi
  · exact h2 c (List.mem_filter.mpr ⟨hc, hi⟩)
  · simpa [hi] using h
set_option maxRecDepth 65536 in
theorem w_c0 : (Jvm.Cond.code x code maxLocals ret).before args0 about1 = true := code_word (m := ⟨1, 1⟩) (meth := k1m1) (c := k1c1) (by decide +kernel) rfl rfl rfl (by decide +kernel)
set_option maxRecDepth 65536 in
theorem w_c1 : (Jvm.Cond.code ({ cls := "com/example/slicewise/slicewise/plan/MethodForWordPinLaw", name := "base", desc := "(II)[C" } : Jvm.MethodName) method_3_code (2 : Nat) (Option.some (Jvm.ClassFile.FieldType.array Jvm.ClassFile.FieldType.char))).before args0 about1 = true := code_word (m := ⟨1, 2⟩) (meth := k1m2) (c := k1c2) (by decide +kernel) rfl rfl rfl (by decide +kernel)
set_option maxRecDepth 65536 in
theorem w_c2 : (Jvm.Cond.code ({ cls := "java/lang/String", name := "<init>", desc := "([C)V" } : Jvm.MethodName) jdk_42_method_3_code (2 : Nat) (Option.none : Option Jvm.ClassFile.FieldType)).before args0 about1 = true := code_word (m := ⟨7, 1⟩) (meth := k7m1) (c := k7c1) (by decide +kernel) rfl rfl rfl (by decide +kernel)
set_option maxRecDepth 65536 in
theorem w_c3 : (Jvm.Cond.code ({ cls := "java/lang/String", name := "<init>", desc := "([CIILjava/lang/Void;)V" } : Jvm.MethodName) jdk_42_method_149_code (6 : Nat) (Option.none : Option Jvm.ClassFile.FieldType)).before args0 about1 = true := code_word (m := ⟨7, 3⟩) (meth := k7m3) (c := k7c3) (by decide +kernel) rfl rfl rfl (by decide +kernel)
set_option maxRecDepth 65536 in
theorem w_c4 : (Jvm.Cond.code ({ cls := "java/lang/Object", name := "<init>", desc := "()V" } : Jvm.MethodName) object_method_1_code (1 : Nat) (Option.none : Option Jvm.ClassFile.FieldType)).before args0 about1 = true := code_word (m := ⟨0, 0⟩) (meth := k0m0) (c := k0c0) (by decide +kernel) rfl rfl rfl (by decide +kernel)
set_option maxRecDepth 65536 in
theorem w_c5 : (Jvm.Cond.code ({ cls := "java/lang/StringUTF16", name := "compress", desc := "([CII)[B" } : Jvm.MethodName) jdk_52_method_16_code (6 : Nat) (Option.some (Jvm.ClassFile.FieldType.array Jvm.ClassFile.FieldType.byte))).before args0 about1 = true := code_word (m := ⟨8, 2⟩) (meth := k8m2) (c := k8c2) (by decide +kernel) rfl rfl rfl (by decide +kernel)
set_option maxRecDepth 65536 in
theorem w_c6 : (Jvm.Cond.code ({ cls := "java/lang/StringUTF16", name := "compress", desc := "([CI[BII)I" } : Jvm.MethodName) jdk_52_method_21_code (7 : Nat) (Option.some Jvm.ClassFile.FieldType.int)).before args0 about1 = true := code_word (m := ⟨8, 3⟩) (meth := k8m3) (c := k8c3) (by decide +kernel) rfl rfl rfl (by decide +kernel)
set_option maxRecDepth 65536 in
theorem w_c7 : (Jvm.Cond.code ({ cls := "java/lang/StringUTF16", name := "coderFromArrayLen", desc := "([BI)B" } : Jvm.MethodName) jdk_52_method_15_code (2 : Nat) (Option.some Jvm.ClassFile.FieldType.byte)).before args0 about1 = true := code_word (m := ⟨8, 1⟩) (meth := k8m1) (c := k8c1) (by decide +kernel) rfl rfl rfl (by decide +kernel)
set_option maxRecDepth 65536 in
theorem w_c8 : (Jvm.Cond.code ({ cls := "com/example/slicewise/slicewise/plan/MethodForWordPinLaw", name := "expected", desc := "(Ljava/lang/String;)Lcom/example/slicewise/slicewise/plan/Method;" } : Jvm.MethodName) method_4_code (1 : Nat) (Option.some (Jvm.ClassFile.FieldType.object "com/example/slicewise/slicewise/plan/Method"))).before args0 about1 = true := code_word (m := ⟨1, 3⟩) (meth := k1m3) (c := k1c3) (by decide +kernel) rfl rfl rfl (by decide +kernel)
set_option maxRecDepth 65536 in
theorem w_c9 : (Jvm.Cond.code ({ cls := "java/lang/String", name := "equals", desc := "(Ljava/lang/Object;)Z" } : Jvm.MethodName) jdk_42_method_66_code (3 : Nat) (Option.some Jvm.ClassFile.FieldType.boolean)).before args0 about1 = true := code_word (m := ⟨7, 2⟩) (meth := k7m2) (c := k7c2) (by decide +kernel) rfl rfl rfl (by decide +kernel)
set_option maxRecDepth 65536 in
theorem w_c10 : (Jvm.Cond.code ({ cls := "java/lang/StringLatin1", name := "equals", desc := "([B[B)Z" } : Jvm.MethodName) jdk_43_method_13_code (3 : Nat) (Option.some Jvm.ClassFile.FieldType.boolean)).before args0 about1 = true := code_word (m := ⟨9, 1⟩) (meth := k9m1) (c := k9c1) (by decide +kernel) rfl rfl rfl (by decide +kernel)
set_option maxRecDepth 65536 in
theorem w_c11 : (Jvm.Cond.code ({ cls := "com/example/slicewise/slicewise/plan/Method", name := "forWord", desc := "(Ljava/lang/String;)Ljava/util/Optional;" } : Jvm.MethodName) prog_4_method_5_code (5 : Nat) (Option.some (Jvm.ClassFile.FieldType.object "java/util/Optional"))).before args0 about1 = true := code_word (m := ⟨11, 1⟩) (meth := k11m1) (c := k11c1) (by decide +kernel) rfl rfl rfl (by decide +kernel)
set_option maxRecDepth 65536 in
theorem w_c12 : (Jvm.Cond.code ({ cls := "com/example/slicewise/slicewise/plan/Method", name := "values", desc := "()[Lcom/example/slicewise/slicewise/plan/Method;" } : Jvm.MethodName) prog_4_method_1_code (0 : Nat) (Option.some (Jvm.ClassFile.FieldType.array (Jvm.ClassFile.FieldType.object "com/example/slicewise/slicewise/plan/Method")))).before args0 about1 = true := code_word (m := ⟨11, 0⟩) (meth := k11m0) (c := k11c0) (by decide +kernel) rfl rfl rfl (by decide +kernel)
set_option maxRecDepth 65536 in
theorem w_c13 : (Jvm.Cond.code ({ cls := "java/util/Optional", name := "empty", desc := "()Ljava/util/Optional;" } : Jvm.MethodName) jdk_32_method_1_code (1 : Nat) (Option.some (Jvm.ClassFile.FieldType.object "java/util/Optional"))).before args0 about1 = true := code_word (m := ⟨13, 0⟩) (meth := k13m0) (c := k13c0) (by decide +kernel) rfl rfl rfl (by decide +kernel)
set_option maxRecDepth 65536 in
theorem w_c14 : (Jvm.Cond.code ({ cls := "java/util/Optional", name := "orElse", desc := "(Ljava/lang/Object;)Ljava/lang/Object;" } : Jvm.MethodName) jdk_32_method_15_code (2 : Nat) (Option.some (Jvm.ClassFile.FieldType.object "java/lang/Object"))).before args0 about1 = true := code_word (m := ⟨13, 3⟩) (meth := k13m3) (c := k13c3) (by decide +kernel) rfl rfl rfl (by decide +kernel)
set_option maxRecDepth 65536 in
theorem w_c15 : (Jvm.Cond.code ({ cls := "java/util/Optional", name := "of", desc := "(Ljava/lang/Object;)Ljava/util/Optional;" } : Jvm.MethodName) jdk_32_method_3_code (1 : Nat) (Option.some (Jvm.ClassFile.FieldType.object "java/util/Optional"))).before args0 about1 = true := code_word (m := ⟨13, 2⟩) (meth := k13m2) (c := k13c2) (by decide +kernel) rfl rfl rfl (by decide +kernel)
set_option maxRecDepth 65536 in
theorem w_c16 : (Jvm.Cond.code ({ cls := "java/util/Objects", name := "requireNonNull", desc := "(Ljava/lang/Object;)Ljava/lang/Object;" } : Jvm.MethodName) jdk_31_method_10_code (1 : Nat) (Option.some (Jvm.ClassFile.FieldType.object "java/lang/Object"))).before args0 about1 = true := code_word (m := ⟨14, 1⟩) (meth := k14m1) (c := k14c1) (by decide +kernel) rfl rfl rfl (by decide +kernel)
set_option maxRecDepth 65536 in
theorem w_c17 : (Jvm.Cond.code ({ cls := "java/util/Optional", name := "<init>", desc := "(Ljava/lang/Object;)V" } : Jvm.MethodName) jdk_32_method_2_code (2 : Nat) (Option.none : Option Jvm.ClassFile.FieldType)).before args0 about1 = true := code_word (m := ⟨13, 1⟩) (meth := k13m1) (c := k13c1) (by decide +kernel) rfl rfl rfl (by decide +kernel)
def codes1 : List Jvm.Cond := [Jvm.Cond.code x code maxLocals ret, Jvm.Cond.code ({ cls := "com/example/slicewise/slicewise/plan/MethodForWordPinLaw", name := "base", desc := "(II)[C" } : Jvm.MethodName) method_3_code (2 : Nat) (Option.some (Jvm.ClassFile.FieldType.array Jvm.ClassFile.FieldType.char)), Jvm.Cond.code ({ cls := "java/lang/String", name := "<init>", desc := "([C)V" } : Jvm.MethodName) jdk_42_method_3_code (2 : Nat) (Option.none : Option Jvm.ClassFile.FieldType), Jvm.Cond.code ({ cls := "java/lang/String", name := "<init>", desc := "([CIILjava/lang/Void;)V" } : Jvm.MethodName) jdk_42_method_149_code (6 : Nat) (Option.none : Option Jvm.ClassFile.FieldType), Jvm.Cond.code ({ cls := "java/lang/Object", name := "<init>", desc := "()V" } : Jvm.MethodName) object_method_1_code (1 : Nat) (Option.none : Option Jvm.ClassFile.FieldType), Jvm.Cond.code ({ cls := "java/lang/StringUTF16", name := "compress", desc := "([CII)[B" } : Jvm.MethodName) jdk_52_method_16_code (6 : Nat) (Option.some (Jvm.ClassFile.FieldType.array Jvm.ClassFile.FieldType.byte)), Jvm.Cond.code ({ cls := "java/lang/StringUTF16", name := "compress", desc := "([CI[BII)I" } : Jvm.MethodName) jdk_52_method_21_code (7 : Nat) (Option.some Jvm.ClassFile.FieldType.int), Jvm.Cond.code ({ cls := "java/lang/StringUTF16", name := "coderFromArrayLen", desc := "([BI)B" } : Jvm.MethodName) jdk_52_method_15_code (2 : Nat) (Option.some Jvm.ClassFile.FieldType.byte), Jvm.Cond.code ({ cls := "com/example/slicewise/slicewise/plan/MethodForWordPinLaw", name := "expected", desc := "(Ljava/lang/String;)Lcom/example/slicewise/slicewise/plan/Method;" } : Jvm.MethodName) method_4_code (1 : Nat) (Option.some (Jvm.ClassFile.FieldType.object "com/example/slicewise/slicewise/plan/Method")), Jvm.Cond.code ({ cls := "java/lang/String", name := "equals", desc := "(Ljava/lang/Object;)Z" } : Jvm.MethodName) jdk_42_method_66_code (3 : Nat) (Option.some Jvm.ClassFile.FieldType.boolean), Jvm.Cond.code ({ cls := "java/lang/StringLatin1", name := "equals", desc := "([B[B)Z" } : Jvm.MethodName) jdk_43_method_13_code (3 : Nat) (Option.some Jvm.ClassFile.FieldType.boolean), Jvm.Cond.code ({ cls := "com/example/slicewise/slicewise/plan/Method", name := "forWord", desc := "(Ljava/lang/String;)Ljava/util/Optional;" } : Jvm.MethodName) prog_4_method_5_code (5 : Nat) (Option.some (Jvm.ClassFile.FieldType.object "java/util/Optional")), Jvm.Cond.code ({ cls := "com/example/slicewise/slicewise/plan/Method", name := "values", desc := "()[Lcom/example/slicewise/slicewise/plan/Method;" } : Jvm.MethodName) prog_4_method_1_code (0 : Nat) (Option.some (Jvm.ClassFile.FieldType.array (Jvm.ClassFile.FieldType.object "com/example/slicewise/slicewise/plan/Method"))), Jvm.Cond.code ({ cls := "java/util/Optional", name := "empty", desc := "()Ljava/util/Optional;" } : Jvm.MethodName) jdk_32_method_1_code (1 : Nat) (Option.some (Jvm.ClassFile.FieldType.object "java/util/Optional")), Jvm.Cond.code ({ cls := "java/util/Optional", name := "orElse", desc := "(Ljava/lang/Object;)Ljava/lang/Object;" } : Jvm.MethodName) jdk_32_method_15_code (2 : Nat) (Option.some (Jvm.ClassFile.FieldType.object "java/lang/Object")), Jvm.Cond.code ({ cls := "java/util/Optional", name := "of", desc := "(Ljava/lang/Object;)Ljava/util/Optional;" } : Jvm.MethodName) jdk_32_method_3_code (1 : Nat) (Option.some (Jvm.ClassFile.FieldType.object "java/util/Optional")), Jvm.Cond.code ({ cls := "java/util/Objects", name := "requireNonNull", desc := "(Ljava/lang/Object;)Ljava/lang/Object;" } : Jvm.MethodName) jdk_31_method_10_code (1 : Nat) (Option.some (Jvm.ClassFile.FieldType.object "java/lang/Object")), Jvm.Cond.code ({ cls := "java/util/Optional", name := "<init>", desc := "(Ljava/lang/Object;)V" } : Jvm.MethodName) jdk_32_method_2_code (2 : Nat) (Option.none : Option Jvm.ClassFile.FieldType)]
set_option maxRecDepth 65536 in
theorem codes_eq : words1.filter isCode = codes1 := rfl
theorem w_codes : ∀ c ∈ words1.filter isCode, c.before args0 about1 = true := by
  rw [codes_eq]
  intro c hc
  simp only [codes1, List.mem_cons, List.not_mem_nil, or_false] at hc
  rcases hc with rfl | rfl | rfl | rfl | rfl | rfl | rfl | rfl | rfl | rfl | rfl | rfl | rfl | rfl | rfl | rfl | rfl | rfl
  · exact w_c0
  · exact w_c1
  · exact w_c2
  · exact w_c3
  · exact w_c4
  · exact w_c5
  · exact w_c6
  · exact w_c7
  · exact w_c8
  · exact w_c9
  · exact w_c10
  · exact w_c11
  · exact w_c12
  · exact w_c13
  · exact w_c14
  · exact w_c15
  · exact w_c16
  · exact w_c17
set_option maxRecDepth 65536 in
theorem w_t1 : (words1.take 24).all (fun c => isCode c || c.before args0 about1) = true := by decide +kernel
set_option maxRecDepth 65536 in
theorem w_t2 : ((words1.drop 24).take 24).all (fun c => isCode c || c.before args0 about1) = true := by decide +kernel
set_option maxRecDepth 65536 in
theorem w_t3 : (((words1.drop 24).drop 24).take 24).all (fun c => isCode c || c.before args0 about1) = true := by decide +kernel
set_option maxRecDepth 65536 in
theorem w_t4 : ((((words1.drop 24).drop 24).drop 24).take 24).all (fun c => isCode c || c.before args0 about1) = true := by decide +kernel
set_option maxRecDepth 65536 in
theorem w_t5 : ((((words1.drop 24).drop 24).drop 24).drop 24).all (fun c => isCode c || c.before args0 about1) = true := by decide +kernel
theorem w_tables : (allAtoms (Jvm.Cond.code x code maxLocals ret :: tables_1)).before args0 about1 = true := by
  rw [allAtoms_all]
  show words1.all (fun c => c.before args0 about1) = true
  refine all_split ?_ w_codes
  rw [← List.take_append_drop 24 words1, List.all_append, w_t1, ← List.take_append_drop 24 (words1.drop 24), List.all_append, w_t2, ← List.take_append_drop 24 ((words1.drop 24).drop 24), List.all_append, w_t3, ← List.take_append_drop 24 (((words1.drop 24).drop 24).drop 24), List.all_append, w_t4, w_t5]
  rfl
set_option maxRecDepth 65536 in
theorem w_rest : rest_1_c.before args0 about1 = true := by decide +kernel
set_option maxRecDepth 65536 in
theorem w_case : (Jvm.Cond.and given_1 narrow_1).before args0 about1 = true := by decide +kernel
set_option maxRecDepth 65536 in
theorem w_consts : constsHeld consts_1 about1 := Jvm.Lit.constsHeldB_iff.mp (by decide +kernel)
theorem w_applies : (headSpec (Jvm.Cond.code x code maxLocals ret :: tables_1) room_1).applies x e0.platform about1 = true :=
  (Spec.applies_iff w_frames).mpr ⟨w_running, w_runnable, w_alone, w_named, w_hears, w_ripe, w_room, w_tables⟩
theorem atStart : AtStart classFile x code maxLocals ret World_1 tables_1 room_1 Calls_1 rest_1 Pre_1 launch0 p0 e0 about1 theMethod args0 below0 :=
  ⟨lists_1, trivial, launch0.admits_env _ _ _, launch0.least_env, fairChoices_fair.cas, fairChoices_fair.clock, w_frames, w_args, w_heap, w_applies, ⟨w_consts, trivial⟩, w_rest, w_case⟩
end start1
theorem witness_1 : WitnessClaimed_1 := ⟨start1.p0, start1.e0, start1.about1, start1.theMethod, start1.args0, start1.below0, start1.atStart⟩
end Jvm.Pilot.@@N@@
